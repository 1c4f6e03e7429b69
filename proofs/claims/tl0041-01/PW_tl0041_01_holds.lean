import PyProof.Rows.All
import Wide.All
import OpenK.AllK
import Wide.FinOn
import Lean
import PySem.Challenge.RW_tl0041_01
open PySem PySem.W PyProof.Rows PySem.Calls PySem.Spec
set_option Elab.async false
namespace Mine
/-- the items at the places that are marked -/
noncomputable def keepB {α : Type} : List Bool → List α → List α
  | true :: bs, x :: xs => x :: keepB bs xs
  | false :: bs, _ :: xs => keepB bs xs
  | _, _ => []
set_option maxRecDepth 100000 in
/-- the statements of the text that the facts are read off -/
noncomputable def viewS : { q : Program // q = { Challenge.pw_tl0041_01 with main := { Challenge.pw_tl0041_01.main with body := keepB [true, true, false, true, true, false, false, false, false, true, false, true, true, true, false, true, true, true, true, true, true, true, true, true, true] Challenge.pw_tl0041_01.main.body } } } := by
  refine ⟨?q, ?h⟩
  case h =>
    unfold Challenge.pw_tl0041_01
    dsimp only [keepB]
    exact rfl
noncomputable def view : Program := viewS.1
set_option maxRecDepth 100000 in
theorem well_said : OpenLaw.wellSaid Challenge.rw_tl0041_01 = true :=
  (congrFun PySem.W.Fast.te9446332074065402090 Challenge.rw_tl0041_01).trans (by kernel_rfl)
noncomputable def topRunQ (tb : String → Option Builtin) (p : Program) (w : World) (n₀ : Nat) (ann : Option Value) : Nat → SharedT → Thread → Option SharedT
  | 0, _, _ => none
  | n + 1, s, t => match through t with
    | true => some s
    | false => match Fast.tw6613529449190102663 n₀ ann t with
      | false => none
      | true => match Fast.tw10156331382660048174 (Fast.tw11892475500146522536 tb) p w s t with
        | some (s', t') => topRunQ tb p w n₀ ann n s' t'
        | none => none
theorem topRunQ_of {tb : String → Option Builtin} {p : Program} {w : World} {n₀ : Nat} {ann : Option Value} : ∀ {n : Nat} {s s' : SharedT} {t : Thread}, topRunQ tb p w n₀ ann n s t = some s' → topRun tb p w n₀ ann n s.abs t = some s'.abs
  | 0, _, _, _, h => by cases h
  | n + 1, s, s', t, h => by
    unfold topRunQ at h
    unfold topRun
    rw [← Fast.te10156331382660048174, ← Fast.te11892475500146522536, ← Fast.te6613529449190102663] at h
    cases ht : through t with
    | true => rw [ht] at h; cases h; rfl
    | false =>
      rw [ht] at h
      cases hk : stepOk n₀ ann t with
      | false => rw [hk] at h; cases h
      | true =>
        rw [hk] at h
        cases hs : stepT (denote tb) p w s t with
        | none => rw [hs] at h; cases h
        | some x =>
          rw [hs] at h
          show (match step (denote tb) p w s.abs t with | .go s' t' => topRun tb p w n₀ ann n s' t' | .halt _ _ => none) = _
          rw [stepT_spec hs]
          exact topRunQ_of h
/-- a tree of the heap's objects, each looked at as it is put in -/
def ofListT : List Obj → Nat → BT → Option BT
  | [], _, t => some t
  | x :: xs, i, t => match ((t.ins i x).get i).isSome with
    | true => ofListT xs (i + 1) (t.ins i x)
    | false => none
theorem ofListT_abs (life : Life) : ∀ (xs : List Obj) (i : Nat) (t t' : BT), ofListT xs i t = some t' → (absHeap t' (i + xs.length) life).objs = (absHeap t i life).objs ++ xs.toArray
  | [], i, t, t', h => by cases h; simp
  | x :: xs, i, t, t', h => by
    unfold ofListT at h
    cases hg : ((t.ins i x).get i).isSome with
    | false => rw [hg] at h; cases h
    | true =>
      rw [hg] at h
      have := ofListT_abs life xs (i + 1) _ _ h
      rw [absHeap_ins hg, Nat.add_right_comm, Nat.add_assoc] at this
      rw [List.length_cons, this]
      show ((absHeap t i life).objs.push x) ++ xs.toArray = _
      rw [← Array.toList_inj]
      simp
def layT (s : Shared) : Option SharedT := (ofListT s.heap.objs.toList 0 .nil).map fun t => ⟨t, s.heap.objs.size, s.heap.life, s.gens, s.drawn, s.toks, s.os⟩
theorem layT_abs {s : Shared} {sT : SharedT} (h : layT s = some sT) : sT.abs = s := by
  unfold layT at h
  obtain ⟨t, ht, rfl⟩ := Option.map_eq_some_iff.mp h
  have e := ofListT_abs s.heap.life _ _ _ _ ht
  rw [Nat.zero_add, Array.length_toList] at e
  have e2 : (absHeap t s.heap.objs.size s.heap.life).objs = s.heap.objs := by
    rw [e]
    have : (absHeap BT.nil 0 s.heap.life).objs = #[] := rfl
    rw [this]
    simp
  show Shared.mk (absHeap t s.heap.objs.size s.heap.life) s.gens s.drawn s.toks s.os = s
  have e3 : absHeap t s.heap.objs.size s.heap.life = s.heap := by
    show Heap.mk _ _ = _
    exact (congrArg (Heap.mk · s.heap.life) e2)
  rw [e3]
/-- the top's run over a tree of objects, and the looks at its end -/
noncomputable def leftQ (p q : Program) (loose : List Str) (Xt : Shared → Bool) {α : Type} (Yf : Shared → α) (N : Nat) (g0 : Bool) (w : World) :=
  ((Fast.tw10274390034422433532 Fast.tw14364793385576792824 (opening p) w N (Fast.tw1435165496053646825 (opening p)).1 (Fast.tw1435165496053646825 (opening p)).2).bind (Fast.tw14289696077712309145 p)).bind fun s₀ =>
    match s₀.heap.isNs mainGlobals && s₀.gens.size == 0 with
    | false => none
    | true => (layT s₀).bind fun sT => (topRunQ Fast.tw14364793385576792824 p w s₀.heap.objs.size (s₀.heap.nsMap mainGlobals "__annotations__") N sT (topStub p)).map fun s₁ =>
      (staticsOk (importedModules p.main.body) s₀.heap s₁.abs.heap && namesBound p s₁.abs.heap && gensDone s₁.abs && laidKept s₀.heap s₁.abs.heap, Fast.tw4187177175401517315 q loose (Fast.tw5923862056798008813 p.main.body) Xt g0 s₁.abs, Yf s₁.abs)
theorem left_of {p q : Program} {loose : List Str} {Xt : Shared → Bool} {α : Type} {Yf : Shared → α} {Ya : World → α} {N : Nat} {g0 : Bool}
    (h : ∀ w, leftQ p q loose Xt Yf N g0 w = some (true, openGood q loose, Ya w)) : LeftO p q loose Xt Yf Ya N g0 := fun w => by
  have h := h w
  unfold leftQ at h
  rw [← Fast.te10274390034422433532, ← Fast.te14364793385576792824, ← Fast.te1435165496053646825, ← Fast.te14289696077712309145, ← Fast.te4187177175401517315, ← Fast.te5923862056798008813] at h
  obtain ⟨s₀, e0, h⟩ := Option.bind_eq_some_iff.mp h
  unfold openEnds fencedOpening
  rw [e0]
  show (topFrom treeTable p w N s₀).map _ = _
  unfold topFrom
  cases z : s₀.heap.isNs mainGlobals && s₀.gens.size == 0 with
  | false => rw [z] at h; cases h
  | true =>
    rw [z] at h
    obtain ⟨sT, e1, h⟩ := Option.bind_eq_some_iff.mp h
    obtain ⟨s₁, e2, h⟩ := Option.map_eq_some_iff.mp h
    have e3 := topRunQ_of e2
    rw [layT_abs e1] at e3
    obtain ⟨l1, l2⟩ := Prod.mk.inj h
    show ((topRun treeTable p w s₀.heap.objs.size (s₀.heap.nsMap mainGlobals "__annotations__") N s₀ (topStub p)).bind _).map _ = _
    rw [e3]
    show (match staticsOk (importedModules p.main.body) s₀.heap s₁.abs.heap && namesBound p s₁.abs.heap && gensDone s₁.abs && laidKept s₀.heap s₁.abs.heap with | true => some s₁.abs | false => none).map _ = _
    rw [l1]
    exact congrArg some l2
local macro_rules | `(tactic| o_law) => `(tactic| refine holds_law well_said fun said => ?_)
local macro_rules | `(tactic| o_head $H) => `(tactic| (
  refine holds_open (q := view) (loose := [Str.ofString "insort_left", Str.ofString "bisect_left", Str.ofString "_name_disallowed_re", Str.ofString "_value_disallowed_re"]) (Xt := fun s => xlAt view [] s && recOk (RowW.records (OpenRow.toRowW (OpenLaw.row Challenge.rw_tl0041_01))) s) (XP := XL view []) (Yf := Hook.obs $H) (Ya := Hook.val $H) (YP := Hook.says $H) (N := 3520) ?hl (Hook.of $H) (Hook.keeps $H) (fun s e => xl_of s (Bool.and_eq_true_iff.mp e).1) XL.keeps (by rfl) (by rfl) (by rfl) (fun s e => recFacts_of (Bool.and_eq_true_iff.mp e).2) (by rfl) (by first | assumption | decide +kernel) (by decide +kernel) ⟨rfl, rfl, rfl, rfl, rfl, by decide +kernel⟩ ?hw ?hc
  case hl => (refine left_of (p := Challenge.pw_tl0041_01) ?_; intro w; kernel_rfl)))
set_option maxRecDepth 100000 in
set_option maxHeartbeats 8000000 in
open_top hd for PySem.Challenge.rw_tl0041_01
section
/-- a text laid into a row in order, like ones once -/
def ins (x : List Nat) (ws : List (List Nat)) : List (List Nat) := ws.filter (fun y => decide (y < x)) ++ x :: ws.filter (fun y => decide (x < y))
theorem tri (a b : List Nat) : a < b ∨ a = b ∨ b < a := by
  by_cases h : a < b
  · exact .inl h
  · by_cases h2 : b < a
    · exact .inr (.inr h2)
    · exact .inr (.inl (List.le_antisymm (List.not_lt.mp h2) (List.not_lt.mp h)))
theorem mem_ins {x y : List Nat} {ws : List (List Nat)} : y ∈ ins x ws ↔ y = x ∨ y ∈ ws := by
  unfold ins
  rw [List.mem_append, List.mem_cons, List.mem_filter, List.mem_filter]
  constructor
  · rintro (⟨h, _⟩ | h | ⟨h, _⟩)
    · exact .inr h
    · exact .inl h
    · exact .inr h
  · rintro (h | h)
    · exact .inr (.inl h)
    · rcases tri y x with q | q | q
      · exact .inl ⟨h, decide_eq_true q⟩
      · exact .inr (.inl q)
      · exact .inr (.inr ⟨h, decide_eq_true q⟩)
theorem ins_sorted {x : List Nat} {ws : List (List Nat)} (h : ws.Pairwise (· < ·)) : (ins x ws).Pairwise (· < ·) := by
  unfold ins
  rw [List.pairwise_append, List.pairwise_cons]
  refine ⟨h.filter _, ⟨fun y hy => of_decide_eq_true (List.mem_filter.mp hy).2, h.filter _⟩, fun a ha b hb => ?_⟩
  have ha' : a < x := of_decide_eq_true (List.mem_filter.mp ha).2
  rcases List.mem_cons.mp hb with rfl | hb
  · exact ha'
  · exact List.lt_trans ha' (of_decide_eq_true (List.mem_filter.mp hb).2)
/-- where a text goes -/
def Place (ws : List (List Nat)) (x : List Nat) (p : Nat) : Prop := p ≤ ws.length ∧ (∀ i y, i < p → ws[i]? = some y → y < x) ∧ ∀ i y, p ≤ i → ws[i]? = some y → ¬ y < x
theorem filter_all {α : Type} {q : α → Bool} : ∀ {l : List α}, (∀ y ∈ l, q y = true) → l.filter q = l := fun h => List.filter_eq_self.mpr h
theorem filter_none {α : Type} {q : α → Bool} {l : List α} (h : ∀ y ∈ l, q y = false) : l.filter q = [] := List.filter_eq_nil_iff.mpr fun y hy => by rw [h y hy]; decide
theorem place_split {ws : List (List Nat)} {x : List Nat} {p : Nat} (h : Place ws x p) : (∀ y ∈ ws.take p, y < x) ∧ ∀ y ∈ ws.drop p, ¬ y < x := by
  refine ⟨fun y hy => ?_, fun y hy => ?_⟩
  · obtain ⟨i, hi, rfl⟩ := List.mem_iff_getElem.mp hy
    rw [List.length_take] at hi
    refine h.2.1 i _ (by omega) ?_
    rw [List.getElem_take, List.getElem?_eq_getElem]
  · obtain ⟨i, hi, rfl⟩ := List.mem_iff_getElem.mp hy
    rw [List.length_drop] at hi
    refine h.2.2 (p + i) _ (by omega) ?_
    rw [List.getElem_drop, List.getElem?_eq_getElem]
theorem ins_place {ws : List (List Nat)} {x : List Nat} {p : Nat} (h : Place ws x p) : ins x ws = ws.take p ++ x :: (ws.drop p).filter (fun y => decide (x < y)) := by
  obtain ⟨h1, h2⟩ := place_split h
  unfold ins
  have e1 : ws.filter (fun y => decide (y < x)) = ws.take p := by
    conv => lhs; rw [← List.take_append_drop p ws]
    rw [List.filter_append, filter_all (fun y hy => decide_eq_true (h1 y hy)), filter_none (fun y hy => decide_eq_false (h2 y hy)), List.append_nil]
  have e2 : ws.filter (fun y => decide (x < y)) = (ws.drop p).filter (fun y => decide (x < y)) := by
    conv => lhs; rw [← List.take_append_drop p ws]
    rw [List.filter_append, filter_none (fun y hy => decide_eq_false fun q => List.lt_irrefl _ (List.lt_trans q (h1 y hy))), List.nil_append]
  rw [e1, e2]
theorem ins_absent {ws : List (List Nat)} {x : List Nat} {p : Nat} (hs : ws.Pairwise (· < ·)) (h : Place ws x p) (hx : (ws.drop p).take 1 ≠ [x]) : ins x ws = ws.take p ++ x :: ws.drop p := by
  rw [ins_place h]
  have h2 := (place_split h).2
  have hd : (ws.drop p).Pairwise (· < ·) := hs.drop
  rw [filter_all]
  intro y hy
  cases e : ws.drop p with
  | nil => rw [e] at hy; cases hy
  | cons z r =>
    rw [e] at hy hx hd h2
    have hz : x < z := by
      rcases tri z x with q | q | q
      · exact absurd q (h2 z (.head _))
      · exact absurd (by rw [q]; rfl) hx
      · exact q
    rcases List.mem_cons.mp hy with rfl | hy
    · exact decide_eq_true hz
    · exact decide_eq_true (List.lt_trans hz ((List.pairwise_cons.mp hd).1 y hy))
theorem ins_present {ws : List (List Nat)} {x : List Nat} {p : Nat} (hs : ws.Pairwise (· < ·)) (h : Place ws x p) (hx : (ws.drop p).take 1 = [x]) : ins x ws = ws := by
  rw [ins_place h]
  have hd : (ws.drop p).Pairwise (· < ·) := hs.drop
  conv => rhs; rw [← List.take_append_drop p ws]
  congr 1
  cases e : ws.drop p with
  | nil => rw [e] at hx; cases hx
  | cons z r =>
    rw [e] at hx hd
    have : z = x := by simpa using hx
    subst this
    rw [List.filter_cons, if_neg (by simpa using List.lt_irrefl z), filter_all]
    intro y hy
    exact decide_eq_true ((List.pairwise_cons.mp hd).1 y hy)
theorem ins_len (x : List Nat) (ws : List (List Nat)) (hs : ws.Pairwise (· < ·)) : (ins x ws).length ≤ ws.length + 1 := by
  unfold ins
  rw [List.length_append, List.length_cons]
  have : ∀ l : List (List Nat), (l.filter (fun y => decide (y < x))).length + (l.filter (fun y => decide (x < y))).length ≤ l.length := by
    intro l
    induction l with
    | nil => simp
    | cons y r ih =>
      rw [List.filter_cons, List.filter_cons]
      by_cases h1 : y < x
      · have h2 : ¬ x < y := fun q => List.lt_irrefl _ (List.lt_trans q h1)
        simp [h1, h2]; omega
      · by_cases h2 : x < y <;> simp [h1, h2] <;> omega
  have := this ws
  omega
theorem place_le {ws : List (List Nat)} {x : List Nat} {p q : Nat} (h : Place ws x p) (k : Place ws x q) : q ≤ p := by
  by_cases hlt : p < q
  · have hp : p < ws.length := Nat.lt_of_lt_of_le hlt k.1
    exact absurd (k.2.1 p _ hlt (List.getElem?_eq_getElem hp)) (h.2.2 p _ (Nat.le_refl _) (List.getElem?_eq_getElem hp))
  · omega
theorem place_unique {ws : List (List Nat)} {x : List Nat} {p q : Nat} (h : Place ws x p) (k : Place ws x q) : p = q := Nat.le_antisymm (place_le k h) (place_le h k)
end
section
theorem ad_one (a0 a1 b0 b1 c0 c1 d0 d1 : Nat) (h00 : a0 * b0 ≤ c0 * d0) (h01 : a0 * b1 ≤ c1 * d0) (h10 : a1 * b0 ≤ c1 * d0) (h11 : a1 * b1 ≤ c1 * d1) : (a0 + a1) * (b0 + b1) ≤ (c0 + c1) * (d0 + d1) := by
  have ex : (a0 + a1) * (b0 + b1) = a0 * b0 + a0 * b1 + (a1 * b0 + a1 * b1) := by rw [Nat.add_mul, Nat.mul_add, Nat.mul_add]
  have ey : (c0 + c1) * (d0 + d1) = c0 * d0 + c0 * d1 + (c1 * d0 + c1 * d1) := by rw [Nat.add_mul, Nat.mul_add, Nat.mul_add]
  rcases Nat.eq_zero_or_pos (c1 * d0) with hu | hu
  · rw [hu] at h01 h10
    rw [ex, ey]
    omega
  · -- u * lhs ≤ u * rhs
    refine Nat.le_of_mul_le_mul_left ?_ hu
    generalize hU : c1 * d0 = u at *
    have k1 : (a0 * b0 + u) * (u + a1 * b1) ≤ u * ((c0 + c1) * (d0 + d1)) := by
      have e : u * ((c0 + c1) * (d0 + d1)) = (c0 * d0 + u) * (u + c1 * d1) := by
        subst hU
        simp only [Nat.add_mul, Nat.mul_add]
        ac_rfl
      rw [e]
      exact Nat.mul_le_mul (Nat.add_le_add_right h00 _) (Nat.add_le_add_left h11 _)
    refine Nat.le_trans ?_ k1
    have pq : (a0 * b1) * (a1 * b0) = (a0 * b0) * (a1 * b1) := by ac_rfl
    rw [ex]
    generalize a0 * b1 = p at *
    generalize a1 * b0 = q at *
    generalize a0 * b0 = r at *
    generalize a1 * b1 = t at *
    obtain ⟨p', rfl⟩ := Nat.exists_eq_add_of_le h01
    have k2 : q ≤ p + p' := h10
    have e1 : (p + p') * (r + p + (q + t)) = (p + p') * r + (p + p') * t + ((p + p') * p + (p + p') * q) := by
      simp only [Nat.mul_add]; ac_rfl
    have e2 : (r + (p + p')) * (p + p' + t) = (p + p') * r + (p + p') * t + ((p + p') * (p + p') + r * t) := by
      simp only [Nat.add_mul, Nat.mul_add]; ac_rfl
    rw [e1, e2, ← pq]
    refine Nat.add_le_add_left ?_ _
    have e3 : (p + p') * p + (p + p') * q = (p + p') * p + p * q + p' * q := by simp only [Nat.add_mul]; ac_rfl
    have e4 : (p + p') * (p + p') + p * q = (p + p') * p + p * q + p' * (p + p') := by simp only [Nat.add_mul, Nat.mul_add]; ac_rfl
    rw [e3, e4]
    exact Nat.add_le_add_left (Nat.mul_le_mul_left _ k2) _
def sumB : Nat → (Nat → Nat) → Nat
  | 0, f => f 0
  | n + 1, f => sumB n fun x => f (2 * x) + f (2 * x + 1)
theorem bit_or (x y i j : Nat) (hi : i < 2) (hj : j < 2) : (2 * x + i) ||| (2 * y + j) = 2 * (x ||| y) + (i ||| j) := by
  have hij : i ||| j < 2 := Nat.or_lt_two_pow (n := 1) hi hj
  apply Nat.eq_of_testBit_eq
  intro k
  rw [Nat.testBit_or]
  cases k with
  | zero =>
    simp only [Nat.testBit_zero]
    have h1 : (2 * x + i) % 2 = i := by omega
    have h2 : (2 * y + j) % 2 = j := by omega
    have h3 : (2 * (x ||| y) + (i ||| j)) % 2 = i ||| j := by omega
    rw [h1, h2, h3]
    have : i = 0 ∨ i = 1 := by omega
    have : j = 0 ∨ j = 1 := by omega
    rcases ‹i = 0 ∨ i = 1› with rfl | rfl <;> rcases ‹j = 0 ∨ j = 1› with rfl | rfl <;> rfl
  | succ k =>
    rw [Nat.testBit_succ, Nat.testBit_succ, Nat.testBit_succ]
    have h1 : (2 * x + i) / 2 = x := by omega
    have h2 : (2 * y + j) / 2 = y := by omega
    have h3 : (2 * (x ||| y) + (i ||| j)) / 2 = x ||| y := by omega
    rw [h1, h2, h3, Nat.testBit_or]
theorem bit_and (x y i j : Nat) (hi : i < 2) (hj : j < 2) : (2 * x + i) &&& (2 * y + j) = 2 * (x &&& y) + (i &&& j) := by
  have hij : i &&& j < 2 := Nat.lt_of_le_of_lt Nat.and_le_left hi
  apply Nat.eq_of_testBit_eq
  intro k
  rw [Nat.testBit_and]
  cases k with
  | zero =>
    simp only [Nat.testBit_zero]
    have h1 : (2 * x + i) % 2 = i := by omega
    have h2 : (2 * y + j) % 2 = j := by omega
    have h3 : (2 * (x &&& y) + (i &&& j)) % 2 = i &&& j := by omega
    rw [h1, h2, h3]
    have : i = 0 ∨ i = 1 := by omega
    have : j = 0 ∨ j = 1 := by omega
    rcases ‹i = 0 ∨ i = 1› with rfl | rfl <;> rcases ‹j = 0 ∨ j = 1› with rfl | rfl <;> rfl
  | succ k =>
    rw [Nat.testBit_succ, Nat.testBit_succ, Nat.testBit_succ]
    have h1 : (2 * x + i) / 2 = x := by omega
    have h2 : (2 * y + j) / 2 = y := by omega
    have h3 : (2 * (x &&& y) + (i &&& j)) / 2 = x &&& y := by omega
    rw [h1, h2, h3, Nat.testBit_and]
/-- Ahlswede and Daykin -/
theorem ad_four : ∀ (n : Nat) (a b c d : Nat → Nat), (∀ x y, a x * b y ≤ c (x ||| y) * d (x &&& y)) → sumB n a * sumB n b ≤ sumB n c * sumB n d
  | 0, a, b, c, d, h => by have := h 0 0; simpa [sumB] using this
  | n + 1, a, b, c, d, h => by
    refine ad_four n _ _ _ _ fun x y => ?_
    have e := fun i j hi hj => bit_or x y i j hi hj
    have f := fun i j hi hj => bit_and x y i j hi hj
    have e00 := e 0 0 (by decide) (by decide); have e01 := e 0 1 (by decide) (by decide); have e10 := e 1 0 (by decide) (by decide); have e11 := e 1 1 (by decide) (by decide)
    have f00 := f 0 0 (by decide) (by decide); have f01 := f 0 1 (by decide) (by decide); have f10 := f 1 0 (by decide) (by decide); have f11 := f 1 1 (by decide) (by decide)
    simp only [Nat.add_zero] at e00 e01 e10 f00 f01 f10
    refine ad_one _ _ _ _ _ _ _ _ ?_ ?_ ?_ ?_
    · have := h (2 * x) (2 * y); rw [e00, f00] at this; exact this
    · have := h (2 * x) (2 * y + 1); rw [e01, f01] at this; exact this
    · have := h (2 * x + 1) (2 * y); rw [e10, f10] at this; exact this
    · have := h (2 * x + 1) (2 * y + 1); rw [e11, f11] at this; exact this
theorem sumB_add : ∀ (n : Nat) (f g : Nat → Nat), sumB n (fun x => f x + g x) = sumB n f + sumB n g
  | 0, _, _ => rfl
  | n + 1, f, g => by
    show sumB n (fun x => (f (2 * x) + g (2 * x)) + (f (2 * x + 1) + g (2 * x + 1))) = _
    rw [show (fun x => (f (2 * x) + g (2 * x)) + (f (2 * x + 1) + g (2 * x + 1))) = fun x => (f (2 * x) + f (2 * x + 1)) + (g (2 * x) + g (2 * x + 1)) from funext fun x => by omega]
    exact sumB_add n (fun x => f (2 * x) + f (2 * x + 1)) (fun x => g (2 * x) + g (2 * x + 1))
theorem sumB_zero : ∀ n : Nat, sumB n (fun _ => 0) = 0
  | 0 => rfl
  | n + 1 => sumB_zero n
theorem sumB_one : ∀ (n a : Nat), a < 2 ^ n → sumB n (fun x => if x = a then 1 else 0) = 1
  | 0, a, h => by
    have : a = 0 := by simpa using h
    subst this
    rfl
  | n + 1, a, h => by
    show sumB n (fun x => (if 2 * x = a then 1 else 0) + (if 2 * x + 1 = a then 1 else 0)) = 1
    rw [show (fun x => (if 2 * x = a then 1 else 0) + (if 2 * x + 1 = a then 1 else 0)) = fun x => if x = a / 2 then 1 else 0 from funext fun x => by
      split <;> split <;> split <;> omega]
    exact sumB_one n (a / 2) (by rw [Nat.pow_succ] at h; omega)
/-- one at the members -/
def ind (l : List Nat) (x : Nat) : Nat := if x ∈ l then 1 else 0
theorem sumB_ind (n : Nat) : ∀ l : List Nat, l.Nodup → (∀ a ∈ l, a < 2 ^ n) → sumB n (ind l) = l.length
  | [], _, _ => by
    rw [show ind [] = fun _ => 0 from funext fun x => by simp [ind]]
    exact sumB_zero n
  | a :: l, hn, hb => by
    have hna := (List.nodup_cons.mp hn).1
    rw [show ind (a :: l) = fun x => (if x = a then 1 else 0) + ind l x from funext fun x => by
      unfold ind
      by_cases h1 : x = a
      · subst h1; simp [hna]
      · simp [h1]]
    rw [sumB_add, sumB_one n a (hb a (.head _)), sumB_ind n l (List.nodup_cons.mp hn).2 fun z hz => hb z (.tail _ hz), List.length_cons]
    omega
theorem ind_map (l : List Nat) (x : Nat) : ind (l.map (63 ^^^ ·)) x = ind l (63 ^^^ x) := by
  unfold ind
  have e : x ∈ l.map (63 ^^^ ·) ↔ 63 ^^^ x ∈ l := by
    constructor
    · intro h
      obtain ⟨y, hy, rfl⟩ := List.mem_map.mp h
      rw [← Nat.xor_assoc, Nat.xor_self, Nat.zero_xor]
      exact hy
    · intro h
      exact List.mem_map.mpr ⟨_, h, by rw [← Nat.xor_assoc, Nat.xor_self, Nat.zero_xor]⟩
  by_cases h : 63 ^^^ x ∈ l
  · rw [if_pos h, if_pos (e.mpr h)]
  · rw [if_neg h, if_neg fun q => h (e.mp q)]
theorem co_nodup {l : List Nat} (h : l.Nodup) : (l.map (63 ^^^ ·)).Nodup := by
  rw [List.nodup_iff_pairwise_ne] at *
  refine List.Pairwise.map _ (fun a b hab e => hab ?_) h
  have := congrArg (63 ^^^ ·) e
  simpa [← Nat.xor_assoc] using this
theorem co_bound {l : List Nat} (h : ∀ a ∈ l, a < 64) : ∀ a ∈ l.map (63 ^^^ ·), a < 64 := by
  intro a ha
  obtain ⟨y, hy, rfl⟩ := List.mem_map.mp ha
  exact Nat.xor_lt_two_pow (n := 6) (by decide) (h y hy)
theorem co_or : ∀ x < 64, ∀ t < 64, 63 ^^^ (x ||| (63 ^^^ t)) = t &&& (63 ^^^ x) := by decide +kernel
/-- the unlike rests of both families are no fewer -/
theorem ad_rests (H T L R : List Nat) (nH : H.Nodup) (nT : T.Nodup) (nL : L.Nodup) (nR : R.Nodup) (bH : ∀ a ∈ H, a < 64) (bT : ∀ a ∈ T, a < 64) (bL : ∀ a ∈ L, a < 64) (bR : ∀ a ∈ R, a < 64)
    (hL : ∀ h ∈ H, ∀ t ∈ T, h &&& (63 ^^^ t) ∈ L) (hR : ∀ h ∈ H, ∀ t ∈ T, t &&& (63 ^^^ h) ∈ R) : H.length * T.length ≤ R.length * L.length := by
  have key := ad_four 6 (ind H) (ind (T.map (63 ^^^ ·))) (ind (R.map (63 ^^^ ·))) (ind L) fun x y => by
    rw [ind_map, ind_map]
    by_cases hx : x ∈ H
    · by_cases hy : 63 ^^^ y ∈ T
      · have ey : y = 63 ^^^ (63 ^^^ y) := by rw [← Nat.xor_assoc, Nat.xor_self, Nat.zero_xor]
        generalize 63 ^^^ y = t at hy ey
        subst ey
        have h1 := hL x hx t hy
        have h2 := hR x hx t hy
        rw [← co_or x (bH x hx) t (bT t hy)] at h2
        unfold ind
        rw [if_pos hx, if_pos hy, if_pos h1, if_pos h2]
        exact Nat.le_refl _
      · unfold ind
        rw [if_neg hy, Nat.mul_zero]
        exact Nat.zero_le _
    · unfold ind
      rw [if_neg hx, Nat.zero_mul]
      exact Nat.zero_le _
  rw [sumB_ind 6 H nH bH, sumB_ind 6 L nL bL, sumB_ind 6 _ (co_nodup nT) (co_bound bT), sumB_ind 6 _ (co_nodup nR) (co_bound bR), List.length_map, List.length_map] at key
  exact key
end
section
abbrev prog : Program := Challenge.rw_tl0041_01.row.prog
noncomputable abbrev KK (w : World) : Frag := hd.heap_1 w.params

abbrev Cx (dp un : Nat) (gd : Option (List Code)) (fr : Option (List Env)) : Around := { handled := none, depth := dp, frames := fr, guards := gd, units := un }

/-- what a call of a def of the text does, from any place -/
def Ctr (w : World) (f : Addr) (vs : List Value) (kw : List (Str × Value)) (dd uu : Nat) (Pre : Heap → Prop) (R : Heap → Value → Heap → Prop) : Prop :=
  ∀ (p : Program) (loose : List Str) (mg mb : Str → Option Value) (dp un : Nat) (gd : Option (List Code)) (fr : Option (List Env)) (s : Shared) (Q E : Value → Shared → Prop),
    (KK w).In s.heap → TopRead p loose mg mb s.heap → dp + dd < recursionLimit → un + uu < cLine → Pre s.heap →
    (∀ (v : Value) (h' : Heap) (tk' : Nat), R s.heap v h' → Q v { s with heap := h', toks := tk' }) →
    wpAny (model prog w) (Cx dp un gd fr) (call (.ref f) vs kw) Q E s

section
variable {prog : Program} {w : World} {A : Around} {E : Value → Shared → Prop} {s : Shared} {K : Frag} {Q : Value → Shared → Prop}
  {name qual : Str} {params : Arguments} {body : List Stmt} {scope : Scope} {dV kV doc pm cdv ct oc : Value} {an od : Option Addr} {osl : Array (Option Value)} {f : Addr} {pos : List Value} {kw : List (Str × Value)} {binds : List (Str × Value)}

/-- a def without cells, entered: the heap at hand is the ground -/
theorem enterP (X : K.In s.heap) (hlim : s.heap.NoLimit) (hroom : A.depth < recursionLimit)
    (ho : K.lookup f = some ⟨oc, od, .func (fnOf name qual params body scope dV kV doc pm an cdv ct), osl⟩) (hcd : codeIn K cdv qual = true)
    (hbind : BindsTo s (fnOf name qual params body scope dV kV doc pm an cdv ct) ⟨pos, kw⟩ binds) (hloc : ∀ y ∈ binds, scope.names.lookup y.1 = some .local)
    (h : ∀ L h₁ tk, Fr s.heap L h₁ (fun y => binds.reverse.lookup y) → News s.heap L h₁ [] →
      wpAny (model prog w) (A.deeper (envX qual scope L f cdv [])) (execs body (envX qual scope L f cdv [])) (fun fl s' => Q (match fl with | .ret v => v | _ => .none) s') (fun _ _ => False) { s with heap := h₁, toks := tk })
    (hcell : ∀ x ∈ scope.names, x.2 ≠ .cell) (hco : scope.isCoroutine = false := by rfl) (hgen : scope.isGenerator = false := by rfl) (hk : scope.kind = .function := by rfl) :
    wpAny (model prog w) A (call (.ref f) pos kw) Q E s := by
  refine wpAny_call (codeAny_call_def (fd := fnOf name qual params body scope dV kV doc pm an cdv ct) (body := body) (binds := binds) hroom (X _ _ ho) rfl hlim (codeRec_of X hcd) rfl hbind hcell hloc (fun h₁ hns hk₁ => ?_) hco hgen hk)
  exact wpAny_mono (h s.heap.objs.size h₁ _ ⟨hns, hk₁, Nat.le_refl _⟩ News.nil) (fun _ _ x => x) (fun _ _ x => x.elim)

/-- a def with cells -/
theorem enterC (X : K.In s.heap) (hlim : s.heap.NoLimit) (hroom : A.depth < recursionLimit)
    (ho : K.lookup f = some ⟨oc, od, .func (fnOf name qual params body scope dV kV doc pm an cdv ct), osl⟩) (hcd : codeIn K cdv qual = true)
    (hbind : BindsTo s (fnOf name qual params body scope dV kV doc pm an cdv ct) ⟨pos, kw⟩ binds)
    (hkind : (binds.all fun y => scope.names.lookup y.1 == some .local || scope.names.lookup y.1 == some .cell) = true)
    (hnd : ((cellsFrom 0 scope.names []).map (·.1)).Nodup)
    (h : ∀ L h₁ tk cells, Fr s.heap L h₁ (bindL (envOfC qual scope L f cdv).kindOf binds fun _ => none) → News s.heap L h₁ cells →
      CellsAre (bindC (envOfC qual scope L f cdv).kindOf binds fun _ => none) (cellsFrom (L + 1) scope.names []) cells →
      wpAny (model prog w) (A.deeper (envX qual scope L f cdv (cellsFrom (L + 1) scope.names []))) (execs body (envX qual scope L f cdv (cellsFrom (L + 1) scope.names []))) (fun fl s' => Q (match fl with | .ret v => v | _ => .none) s') (fun _ _ => False) { s with heap := h₁, toks := tk })
    (hco : scope.isCoroutine = false := by rfl) (hgen : scope.isGenerator = false := by rfl) (hk : scope.kind = .function := by rfl) :
    wpAny (model prog w) A (call (.ref f) pos kw) Q E s := by
  refine wpAny_call (codeAny_call_function hroom (X _ _ ho) rfl hco hgen rfl (codeRec_of X hcd) (hbind _ _ _ _ ?_))
  refine wpAny_newFunctionEnv_cells hk (kindsX hkind _) fun env' he s' x => ?_
  subst he
  refine ⟨hlim.keeps x.toInCall.keep, codeAny_func ?_⟩
  obtain ⟨h₁, tk, rfl, _⟩ := x.done
  obtain ⟨cells, NC, Y⟩ := PyProof.Rows.Cl.news (h₀ := s.heap) (Nat.le_refl _) fun n c hm => ⟨x.cell n c (lookup_of_mem_nodup (cellsFrom_names scope.names 0 (s.heap.objs.size + 1) [] [] rfl ▸ hnd) hm), x.above n c hm⟩
  exact wpAny_mono (h s.heap.objs.size h₁ tk cells ⟨x.toInCall.ns, x.toInCall.keep, Nat.le_refl _⟩ NC Y) (fun _ _ x => x) (fun _ _ x => x.elim)
end

/-- a contract used: within a frame, the ledger stands -/
theorem Ctr.use {w : World} {f : Addr} {vs : List Value} {kw : List (Str × Value)} {dd uu : Nat} {Pre : Heap → Prop} {R : Heap → Value → Heap → Prop} (C : Ctr w f vs kw dd uu Pre R) (hR : ∀ h v h', R h v h' → h.StaysIn h')
    {p : Program} {loose : List Str} {mg mb : Str → Option Value} {dp un : Nat} {gd : Option (List Code)} {fr : Option (List Env)} {s : Shared} {Q E : Value → Shared → Prop} {h₀ : Heap} {L : Addr} {m : Str → Option Value} {news : List (Addr × Obj)}
    (F : Fr h₀ L s.heap m) (X : (KK w).In h₀) (N : News h₀ L s.heap news) (T : TopRead p loose mg mb h₀) (hd : dp + dd < recursionLimit) (hu : un + uu < cLine) (hp : Pre s.heap)
    (h : ∀ v h' tk', Fr h₀ L h' m → News h₀ L h' news → s.heap.StaysIn h' → R s.heap v h' → Q v { s with heap := h', toks := tk' }) :
    wpAny (model prog w) (Cx dp un gd fr) (call (.ref f) vs kw) Q E s :=
  C p loose mg mb dp un gd fr s Q E (X.keeps F.keep) (T.keeps F.keep) hd hu hp fun v h' tk' r =>
    h v h' tk' ⟨F.ns.keeps (hR _ _ _ r), fun b o e => hR _ _ _ r b o (F.keep b o e), F.above⟩ (fun q hq => ⟨hR _ _ _ r _ _ (N q hq).1, (N q hq).2⟩) (hR _ _ _ r) r
end
section
section
variable {M : Model} {A : Around} {E : Value → Shared → Prop} {s : Shared} {K : Frag} {g : Heap} {env : Env} {C : Addr} {m mg mb : Str → Option Value} {p : Program} {loose : List Str}
  {x : Str} {pos : Pos} {v : Value} {Q : Value → Shared → Prop} {c : Addr} {o : Obj}
theorem nmL (hn : s.heap.Ns C m) (hv : m x = some v) (h : Q v s)
    (hL : env.locals = C := by rfl) (hk : env.scope.kind = .function := by rfl) (hx : env.kindOf x = some .local := by rfl) (hd : (x == ("__debug__" : Str)) = false := by decide) :
    wpAny M A (eval (.Name x pos) env) Q E s := wpAny_Name (wpAny_loadName_local hk hx (hL ▸ hn) hv h) hd
theorem nmC (hc : env.cells.lookup x = some c) (ho : s.heap.get? c = some o) (hd : o.data = .cell (some v)) (h : Q v s)
    (hk : env.scope.kind = .function := by rfl) (hx : env.kindOf x = some .cell := by rfl) (hb : (x == ("__debug__" : Str)) = false := by decide) :
    wpAny M A (eval (.Name x pos) env) Q E s := wpAny_Name (wpAny_loadName_cell hk hx hc ⟨o, ho, hd⟩ h) hb
theorem nmF (hc : env.cells.lookup x = some c) (ho : s.heap.get? c = some o) (hd : o.data = .cell (some v)) (h : Q v s)
    (hk : env.scope.kind = .function := by rfl) (hx : env.kindOf x = some .free := by rfl) (hb : (x == ("__debug__" : Str)) = false := by decide) (hn : (x == ("__classdict__" : Str)) = false := by decide) :
    wpAny M A (eval (.Name x pos) env) Q E s := wpAny_Name (wpAny_loadName_free hk hx hc ⟨o, ho, hd⟩ h hn) hb
theorem nmG (X : K.In g) (T : TopRead p loose mg mb g) (hs : g.StaysIn s.heap) (e : nsIn K mainGlobals x = some (some v)) (h : Q v s)
    (hg : env.globals = mainGlobals := by rfl) (hk : env.scope.kind = .function := by rfl) (hx : env.kindOf x = some .globalImplicit := by rfl) (hd : (x == ("__debug__" : Str)) = false := by decide) :
    wpAny M A (eval (.Name x pos) env) Q E s := Name_function_global hk hx (loadGlobal_global (hg ▸ T.g.keeps hs) (mg_of X T.g e) h) hd
theorem nmB (X : K.In g) (T : TopRead p loose mg mb g) (hs : g.StaysIn s.heap) (e : nsIn K mainGlobals x = some none) (hv : bootBuiltins x = some v) (hn : x ≠ "__name__") (h : Q v s)
    (hg : env.globals = mainGlobals := by rfl) (hb : env.builtins = builtinsNs := by rfl) (hk : env.scope.kind = .function := by rfl) (hx : env.kindOf x = some .globalImplicit := by rfl) (hd : (x == ("__debug__" : Str)) = false := by decide) :
    wpAny M A (eval (.Name x pos) env) Q E s :=
  Name_function_global hk hx (loadGlobal_builtin (hg ▸ T.g.keeps hs) (mg_none_of X T.g e) (hb ▸ T.b.keeps hs) ((T.builtins x hn).trans hv) h) hd
end

section
variable {prog : Program} {w : World} {A : Around} {E : Value → Shared → Prop} {s : Shared} {env : Env} {elt iter : Expr} {x y : Str} {px py : Pos} {ifs : List Expr} {scope : Scope} {cl : List (Str × Addr)} {pos spos : Pos}
  {Q : Value → Shared → Prop} {RR : Value → Addr → Result → Shared → Prop} {p : Value → Bool} {G : Value → Value → Prop}

/-- a comprehension behind its source: what is left -/
def CompAt (prog : Program) (w : World) (A : Around) (env : Env) (elt iter : Expr) (x : Str) (px : Pos) (ifs : List Expr) (scope : Scope) (pos : Pos) (cl : List (Str × Addr)) (RR : Value → Addr → Result → Shared → Prop) (E : Value → Shared → Prop) (xv : Value) (s₁ : Shared) : Prop :=
  wpAny (model prog w) A (pyIter xv) (fun it s₂ => wpAny (model prog w) A (newList []) (fun acc s₃ =>
      wpAny (model prog w) A (newFunctionEnv scope env.globals cl [] env.qual none .none (some env)) (fun cenv s₄ =>
        codeAny (model prog w) A (.compStart (.ListComp elt [⟨.Name x px, iter, ifs, 0⟩] scope pos) 0 it acc { cenv with scope := relabel scope env }) (RR acc cenv.locals) s₄) E s₃) E s₂) E s₁

/-- what must hold behind a comprehension in an expression -/
def CQ (prog : Program) (w : World) (A : Around) (E : Value → Shared → Prop) (Q : Value → Shared → Prop) : Value → Addr → Result → Shared → Prop := fun acc C => compPost (model prog w) A E none Q acc C

theorem comp_open (hclos : closureFor scope env = pure cl) (h : wpAny (model prog w) A (eval iter env) (fun xv s₁ => CompAt prog w A env elt iter x px ifs scope pos cl (CQ prog w A E Q) E xv s₁) E s)
    (hkind : scope.kind = .function := by rfl) (hnames : ∀ x ∈ scope.names, x.2 = .local → scope.names.lookup x.1 = some .local := by decide) (hs : ∀ x, foldedSetIterable iter env x = pure x := by intro _; rfl) :
    wpAny (model prog w) A (eval (.ListComp elt [⟨.Name x px, iter, ifs, 0⟩] scope pos) env) Q E s := by
  rw [eval_ListComp]
  exact wpAny_comprehension_free (use := none) rfl hs hclos hkind hnames h

theorem cq_end {D C : Addr} {s₁ : Shared} {h' : Heap} {tk : Nat} {m' : Str → Option Value} {ys : Array Value} (hC : s₁.heap.get? C = none) (hDC : D ≠ C) (hn : h'.Ns C m') (hpl : h'.PlainList D ys) (hk : s₁.heap.StaysIn h')
    (h : ∀ h'', h''.PlainList D ys → s₁.heap.StaysIn h'' → Q (.ref D) { s₁ with heap := h'', toks := tk }) : CQ prog w A E Q (.ref D) C (.ok .next) { s₁ with heap := h', toks := tk } :=
  ⟨m', hn, fun h'' hs'' => h h'' (hpl.extBut hs''.extBut hDC) fun b o e => hs''.extBut b o (by rintro rfl; rw [hC] at e; cases e) (hk b o e)⟩


/-- the source's iterator is made, and walks -/
theorem comp_it {s₁ : Shared} {o : Obj} {fp : List Addr} {n : Nat} {P : Nat → Value → Prop} {St : Nat → Heap → Prop} (W : Walks prog w A s₁.heap.objs.size fp [s₁.heap.objs.size] n P St) (hsz : n ≤ sizeLine)
    (hst : St 0 (s₁.heap.push o)) (hfp : ∀ b ∈ fp, b < s₁.heap.objs.size + 1)
    (p : Value → Bool) (G : Value → Value → Prop)
    (tests : ∀ (C : Addr) (i : Nat) (v : Value) (s₃ : Shared) (m₃ : Str → Option Value) (E' : Value → Shared → Prop), P i v → s₁.heap.StaysIn s₃.heap → s₃.heap.Ns C m₃ → m₃ x = some v →
      wpAny (model prog w) A (forIn ifs true fun c r => if r = true then do let ok ← isTrue c (compEnvC scope cl C env) (eval c (compEnvC scope cl C env)); pure (ForInStep.yield ok) else pure (ForInStep.yield r)) (fun ok s₄ => ok = p v ∧ Keeps s₃ s₄) E' s₃)
    (el : ∀ (C : Addr) (i : Nat) (v : Value) (s₃ : Shared) (m₃ : Str → Option Value) (E' : Value → Shared → Prop), P i v → p v = true → s₁.heap.StaysIn s₃.heap → s₃.heap.Ns C m₃ → m₃ x = some v →
      wpAny (model prog w) A (eval elt (compEnvC scope cl C env)) (fun y s₄ => G v y ∧ Keeps s₃ s₄) E' s₃)
    (done : ∀ (D C : Addr) (h' : Heap) (tk : Nat) (m' : Str → Option Value) (ys : Array Value) (vs : List Value), s₁.heap.get? D = none → s₁.heap.get? C = none → D ≠ C → h'.Ns C m' → h'.PlainList D ys → vs.length = n → (∀ (j : Nat) (v : Value), vs[j]? = some v → P j v) →
      Paired G (vs.filter p) ys.toList → s₁.heap.StaysIn h' → RR (.ref D) C (.ok .next) { s₁ with heap := h', toks := tk })
    (hcell : ∀ y ∈ scope.names, y.2 ≠ .cell := by decide) (hkind : scope.kind = .function := by rfl) (hx : scope.names.lookup x = some .local := by rfl) :
    wpAny (model prog w) A (newList []) (fun acc s₃ =>
      wpAny (model prog w) A (newFunctionEnv scope env.globals cl [] env.qual none .none (some env)) (fun cenv s₄ =>
        codeAny (model prog w) A (.compStart (.ListComp elt [⟨.Name x px, iter, ifs, 0⟩] scope pos) 0 (.ref s₁.heap.objs.size) acc { cenv with scope := relabel scope env }) (RR acc cenv.locals) s₄) E s₃) E { s₁ with heap := s₁.heap.push o } := by
  have old : ∀ b o, s₁.heap.get? b = some o → b ∉ [s₁.heap.objs.size] := fun b o e hb => by rw [List.mem_singleton.mp hb] at e; exact absurd (Heap.lt_size e) (Nat.lt_irrefl _)
  have nw : ∀ {D : Addr} {x : Obj}, (s₁.heap.push x).get? D = none → s₁.heap.get? D = none := fun {D x} e => by
    cases q : s₁.heap.get? D with
    | none => rfl
    | some o => rw [Heap.get?_push_of_some x q] at e; cases e
  refine comp_block_walkC W hsz p G hcell hkind hx hst ?_ ⟨?_, ?_⟩ ?_
  · intro b hb
    rw [Heap.size_push]
    exact hfp b hb
  · intro C i v s₃ m₃ E' _ hv hn hm hk _
    exact tests C i v s₃ m₃ E' hv (fun b o e => hk b o (old b o e) (Heap.get?_push_of_some _ e)) hn hm
  · intro C i v s₃ m₃ E' _ hv hp hn hm hk _
    exact el C i v s₃ m₃ E' hv hp (fun b o e => hk b o (old b o e) (Heap.get?_push_of_some _ e)) hn hm
  · intro D C h' tk m' ys vs hD hC hDC hn hl' hpl hlen hP hF hk
    exact done D C h' tk m' ys vs (nw hD) (nw hC) hDC hn hpl hlen hP hF fun b o e => hk b o (old b o e) (Heap.get?_push_of_some _ e)

theorem vals_eq {vs : List Value} {items : Array Value} (hlen : vs.length = items.size) (hP : ∀ (j : Nat) (v : Value), vs[j]? = some v → items[j]? = some v) : vs = items.toList := by
  apply List.ext_getElem?
  intro j
  by_cases hj : j < vs.length
  · rw [List.getElem?_eq_getElem hj, Array.getElem?_toList]
    exact (hP j _ (List.getElem?_eq_getElem hj)).symm
  · rw [List.getElem?_eq_none (by omega), List.getElem?_eq_none (by rw [Array.length_toList]; omega)]

/-- the source is a list that stands -/
theorem comp_list {l : Addr} {items : Array Value} {s₁ : Shared} (hh : A.handled = none) (hl : s₁.heap.IsList l items) (hsz : items.size ≤ sizeLine) (p : Value → Bool) (G : Value → Value → Prop)
    (tests : ∀ (C : Addr) (i : Nat) (v : Value) (s₃ : Shared) (m₃ : Str → Option Value) (E' : Value → Shared → Prop), items[i]? = some v → s₁.heap.StaysIn s₃.heap → s₃.heap.Ns C m₃ → m₃ x = some v →
      wpAny (model prog w) A (forIn ifs true fun c r => if r = true then do let ok ← isTrue c (compEnvC scope cl C env) (eval c (compEnvC scope cl C env)); pure (ForInStep.yield ok) else pure (ForInStep.yield r)) (fun ok s₄ => ok = p v ∧ Keeps s₃ s₄) E' s₃)
    (el : ∀ (C : Addr) (i : Nat) (v : Value) (s₃ : Shared) (m₃ : Str → Option Value) (E' : Value → Shared → Prop), items[i]? = some v → p v = true → s₁.heap.StaysIn s₃.heap → s₃.heap.Ns C m₃ → m₃ x = some v →
      wpAny (model prog w) A (eval elt (compEnvC scope cl C env)) (fun y s₄ => G v y ∧ Keeps s₃ s₄) E' s₃)
    (done : ∀ (D C : Addr) (h' : Heap) (tk : Nat) (m' : Str → Option Value) (ys : Array Value), s₁.heap.get? D = none → s₁.heap.get? C = none → D ≠ C → h'.Ns C m' → h'.PlainList D ys → Paired G (items.toList.filter p) ys.toList → s₁.heap.StaysIn h' → RR (.ref D) C (.ok .next) { s₁ with heap := h', toks := tk })
    (hcell : ∀ y ∈ scope.names, y.2 ≠ .cell := by decide) (hkind : scope.kind = .function := by rfl) (hx : scope.names.lookup x = some .local := by rfl) :
    CompAt prog w A env elt iter x px ifs scope pos cl RR E (.ref l) s₁ := by
  obtain ⟨ol, hol, _⟩ := id hl
  have hlt : l < s₁.heap.objs.size := Heap.lt_size hol
  refine wpAny_pyIter_list hl (comp_it (Walks.list hh s₁.heap.objs.size l (Nat.ne_of_lt hlt) items) hsz ⟨⟨_, Heap.get?_push_size _ rfl, rfl, rfl⟩, hl.push _⟩ ?_ p G tests el ?_ hcell hkind hx)
  · intro b hb
    rcases List.mem_cons.mp hb with rfl | hb
    · exact Nat.lt_succ_self _
    · rw [List.mem_singleton.mp hb]; exact Nat.lt_succ_of_lt hlt
  · intro D C h' tk m' ys vs hD hC hDC hn hpl hlen hP hF hk
    have e := vals_eq hlen hP
    subst e
    exact done D C h' tk m' ys hD hC hDC hn hpl hF hk

/-- the source is a text -/
theorem comp_str {t : Tok} {y : Str} {s₁ : Shared} (hh : A.handled = none) (hsz : y.cps.size ≤ sizeLine) (p : Value → Bool) (G : Value → Value → Prop)
    (tests : ∀ (C : Addr) (i : Nat) (v : Value) (s₃ : Shared) (m₃ : Str → Option Value) (E' : Value → Shared → Prop), SignAt y i v → s₁.heap.StaysIn s₃.heap → s₃.heap.Ns C m₃ → m₃ x = some v →
      wpAny (model prog w) A (forIn ifs true fun c r => if r = true then do let ok ← isTrue c (compEnvC scope cl C env) (eval c (compEnvC scope cl C env)); pure (ForInStep.yield ok) else pure (ForInStep.yield r)) (fun ok s₄ => ok = p v ∧ Keeps s₃ s₄) E' s₃)
    (el : ∀ (C : Addr) (i : Nat) (v : Value) (s₃ : Shared) (m₃ : Str → Option Value) (E' : Value → Shared → Prop), SignAt y i v → p v = true → s₁.heap.StaysIn s₃.heap → s₃.heap.Ns C m₃ → m₃ x = some v →
      wpAny (model prog w) A (eval elt (compEnvC scope cl C env)) (fun y s₄ => G v y ∧ Keeps s₃ s₄) E' s₃)
    (done : ∀ (D C : Addr) (h' : Heap) (tk : Nat) (m' : Str → Option Value) (ys : Array Value) (vs : List Value), s₁.heap.get? D = none → s₁.heap.get? C = none → D ≠ C → h'.Ns C m' → h'.PlainList D ys → vs.length = y.cps.size → (∀ (j : Nat) (v : Value), vs[j]? = some v → SignAt y j v) →
      Paired G (vs.filter p) ys.toList → s₁.heap.StaysIn h' → RR (.ref D) C (.ok .next) { s₁ with heap := h', toks := tk })
    (hcell : ∀ y ∈ scope.names, y.2 ≠ .cell := by decide) (hkind : scope.kind = .function := by rfl) (hx : scope.names.lookup x = some .local := by rfl) :
    CompAt prog w A env elt iter x px ifs scope pos cl RR E (.str y t) s₁ :=
  wpAny_pyIter_str fun _o _St W hst => comp_it (W A hh) hsz hst (fun b hb => by rw [List.mem_singleton.mp hb]; exact Nat.lt_succ_self _) p G tests el done hcell hkind hx

theorem walks_range (hh : A.handled = none) (I : Addr) (n : Nat) :
    Walks prog w A I [I] [I] n (fun i v => i < n ∧ ∃ t, v = .int i t) (fun i h => IsRangeIter h I (i : Nat) ((n : Int) - (i : Nat)) 1) := by
  have W := Walks.range (prog := prog) (w := w) hh I 0 1 n
  simp only [Int.mul_one, Int.zero_add] at W
  exact ⟨W.sub, W.frame, fun i s Q E hi st hQ => W.item i s Q E hi st fun v h' tk hP => hQ v h' tk ⟨hi, hP⟩, W.done, W.self⟩

/-- the source is a range by ones from nought -/
theorem comp_range {r : Addr} {n : Nat} {t u k : Tok} {s₁ : Shared} (hh : A.handled = none) (hr : IsRange s₁.heap r 0 n 1 t u k) (hn : n ≤ sizeLine) (p : Value → Bool) (G : Value → Value → Prop)
    (tests : ∀ (C : Addr) (i : Nat) (v : Value) (s₃ : Shared) (m₃ : Str → Option Value) (E' : Value → Shared → Prop), (i < n ∧ ∃ t, v = .int i t) → s₁.heap.StaysIn s₃.heap → s₃.heap.Ns C m₃ → m₃ x = some v →
      wpAny (model prog w) A (forIn ifs true fun c r => if r = true then do let ok ← isTrue c (compEnvC scope cl C env) (eval c (compEnvC scope cl C env)); pure (ForInStep.yield ok) else pure (ForInStep.yield r)) (fun ok s₄ => ok = p v ∧ Keeps s₃ s₄) E' s₃)
    (el : ∀ (C : Addr) (i : Nat) (v : Value) (s₃ : Shared) (m₃ : Str → Option Value) (E' : Value → Shared → Prop), (i < n ∧ ∃ t, v = .int i t) → p v = true → s₁.heap.StaysIn s₃.heap → s₃.heap.Ns C m₃ → m₃ x = some v →
      wpAny (model prog w) A (eval elt (compEnvC scope cl C env)) (fun y s₄ => G v y ∧ Keeps s₃ s₄) E' s₃)
    (done : ∀ (D C : Addr) (h' : Heap) (tk : Nat) (m' : Str → Option Value) (ys : Array Value) (vs : List Value), s₁.heap.get? D = none → s₁.heap.get? C = none → D ≠ C → h'.Ns C m' → h'.PlainList D ys → vs.length = n → (∀ (j : Nat) (v : Value), vs[j]? = some v → ∃ t, v = .int j t) →
      Paired G (vs.filter p) ys.toList → s₁.heap.StaysIn h' → RR (.ref D) C (.ok .next) { s₁ with heap := h', toks := tk })
    (hcell : ∀ y ∈ scope.names, y.2 ≠ .cell := by decide) (hkind : scope.kind = .function := by rfl) (hx : scope.names.lookup x = some .local := by rfl) :
    CompAt prog w A env elt iter x px ifs scope pos cl RR E (.ref r) s₁ := by
  have hsz : Builtin.Range.rangeSize 0 n 1 = n := by
    rw [rangeSize_one]
    split <;> omega
  have hle : (n : Int) ≤ 16777216 := by unfold sizeLine at hn; omega
  have hsm : Builtin.Range.small 0 n 1 = true := by
    unfold Builtin.Range.small Builtin.Range.rangeFitsLong
    rw [hsz]
    simp only [Bool.and_eq_true, Bool.or_eq_true, decide_eq_true_eq, show (1 : Int) > 0 from by decide, if_true]
    omega
  refine wpAny_pyIter_range hr hsm (comp_it (walks_range hh s₁.heap.objs.size n) hn ?_ (fun b hb => by rw [List.mem_singleton.mp hb]; exact Nat.lt_succ_self _) p G tests el ?_ hcell hkind hx)
  · have e := Heap.get?_push_size s₁.heap (o := { cls := .type "range_iterator", data := .fields #[rawInt 0, rawInt (Builtin.Range.rangeSize 0 n 1), rawInt 1] }) rfl
    simp only [hsz] at e
    simp only [hsz, Int.natCast_zero, Int.sub_zero]
    exact e
  · intro D C h' tk m' ys vs hD hC hDC hn hpl hlen hP hF hk
    exact done D C h' tk m' ys vs hD hC hDC hn hpl hlen (fun j v hv => (hP j v hv).2) hF hk

/-- the source is a tuple -/
theorem comp_tuple {l : Addr} {items : Array Value} {s₁ : Shared} (hh : A.handled = none) (hl : s₁.heap.IsTuple l items) (hsz : items.size ≤ sizeLine) (p : Value → Bool) (G : Value → Value → Prop)
    (tests : ∀ (C : Addr) (i : Nat) (v : Value) (s₃ : Shared) (m₃ : Str → Option Value) (E' : Value → Shared → Prop), items[i]? = some v → s₁.heap.StaysIn s₃.heap → s₃.heap.Ns C m₃ → m₃ x = some v →
      wpAny (model prog w) A (forIn ifs true fun c r => if r = true then do let ok ← isTrue c (compEnvC scope cl C env) (eval c (compEnvC scope cl C env)); pure (ForInStep.yield ok) else pure (ForInStep.yield r)) (fun ok s₄ => ok = p v ∧ Keeps s₃ s₄) E' s₃)
    (el : ∀ (C : Addr) (i : Nat) (v : Value) (s₃ : Shared) (m₃ : Str → Option Value) (E' : Value → Shared → Prop), items[i]? = some v → p v = true → s₁.heap.StaysIn s₃.heap → s₃.heap.Ns C m₃ → m₃ x = some v →
      wpAny (model prog w) A (eval elt (compEnvC scope cl C env)) (fun y s₄ => G v y ∧ Keeps s₃ s₄) E' s₃)
    (done : ∀ (D C : Addr) (h' : Heap) (tk : Nat) (m' : Str → Option Value) (ys : Array Value), s₁.heap.get? D = none → s₁.heap.get? C = none → D ≠ C → h'.Ns C m' → h'.PlainList D ys → Paired G (items.toList.filter p) ys.toList → s₁.heap.StaysIn h' → RR (.ref D) C (.ok .next) { s₁ with heap := h', toks := tk })
    (hcell : ∀ y ∈ scope.names, y.2 ≠ .cell := by decide) (hkind : scope.kind = .function := by rfl) (hx : scope.names.lookup x = some .local := by rfl) :
    CompAt prog w A env elt iter x px ifs scope pos cl RR E (.ref l) s₁ := by
  obtain ⟨ol, hol, _⟩ := id hl
  have hlt : l < s₁.heap.objs.size := Heap.lt_size hol
  refine wpAny_pyIter_tuple hl (comp_it (Walks.tuple hh s₁.heap.objs.size l (Nat.ne_of_lt hlt) items) hsz ⟨⟨_, Heap.get?_push_size _ rfl, rfl, rfl⟩, hl.push _⟩ ?_ p G tests el ?_ hcell hkind hx)
  · intro b hb
    rcases List.mem_cons.mp hb with rfl | hb
    · exact Nat.lt_succ_self _
    · rw [List.mem_singleton.mp hb]; exact Nat.lt_succ_of_lt hlt
  · intro D C h' tk m' ys vs hD hC hDC hn hpl hlen hP hF hk
    have e := vals_eq hlen hP
    subst e
    exact done D C h' tk m' ys hD hC hDC hn hpl hF hk
end
end
section
/-- a text by its signs -/
def mk (l : List Nat) : Str := ⟨l.toArray⟩
@[simp] theorem mk_len (l : List Nat) : (mk l).length = l.length := by simp [mk, Str.length]
@[simp] theorem mk_cps (l : List Nat) : (mk l).cps = l.toArray := rfl
theorem mk_append (a b : List Nat) : mk a ++ mk b = mk (a ++ b) := by
  show Str.append _ _ = _
  simp [Str.append, mk]
theorem mk_inj {a b : List Nat} (h : mk a = mk b) : a = b := by
  have := congrArg (fun x => x.cps.toList) h
  simpa [mk] using this
theorem mk_eq_iff {a b : List Nat} : mk a = mk b ↔ a = b := ⟨mk_inj, fun h => by rw [h]⟩
theorem str_join_nil : ∀ ls : List (List Nat), Str.join (mk []) (ls.map mk) = mk ls.flatten
  | [] => rfl
  | [x] => by show mk x = _; simp
  | x :: y :: r => by
    show mk x ++ mk [] ++ Str.join (mk []) ((y :: r).map mk) = _
    rw [str_join_nil (y :: r), mk_append, mk_append]
    simp
theorem txt_join_nil (ls : List (List Nat)) : Txt.join (mk []) (ls.map mk) = mk ls.flatten := by
  unfold Txt.join
  rw [StrLaws.glued_eq_join, str_join_nil]

theorem strs_of_paired {dec : Value → Str} : ∀ {vs ys : List Value}, Paired (fun v y => ∃ u, y = .str (dec v) u) vs ys → ∃ l : List (Str × Tok), strValues l = ys ∧ l.map (·.1) = vs.map dec
  | _, _, .nil => ⟨[], rfl, rfl⟩
  | _, _, .cons ⟨u, h⟩ r => by
    obtain ⟨l, e1, e2⟩ := strs_of_paired r
    exact ⟨(_, u) :: l, by rw [h, ← e1]; rfl, by rw [List.map_cons, List.map_cons, e2]⟩

section
variable {prog : Program} {w : World} {A : Around} {E : Value → Shared → Prop} {s : Shared} {Q : Value → Shared → Prop}
theorem join_paired {D : Addr} {ys : Array Value} {vs : List Value} {dec : Value → List Nat} {x : Str} {t : Tok} (hx : x = mk []) (hl : s.heap.IsList D ys) (hp : Paired (fun v y => ∃ u, y = .str (mk (dec v)) u) vs ys.toList)
    (hfit : (vs.map dec).flatten.length ≤ 16777216) (h : ∀ t' k, Q (.str (mk (vs.map dec).flatten) t') { s with toks := k }) :
    wpAny (model prog w) A (call (.builtin "str.join") [.str x t, .ref D]) Q E s := by
  subst hx
  obtain ⟨l, e1, e2⟩ := strs_of_paired (dec := fun v => mk (dec v)) hp
  have e3 : vs.map (fun v => mk (dec v)) = (vs.map dec).map mk := by simp
  rw [e3] at e2
  refine SC.join (l := l) (texts := (vs.map dec).map mk) (by rw [e1]; simpa using hl) e2 ?_ fun t' k => ?_
  · refine joinOk_of ?_
    have : ((((vs.map dec).map mk).map (·.length)).sum) = (vs.map dec).flatten.length := by
      rw [List.length_flatten]; simp [Function.comp_def]
    rw [this, mk_len, List.length_nil, Nat.mul_zero, Nat.add_zero]
    exact hfit
  · rw [txt_join_nil]
    exact h t' k
end

def intOf : Value → Int
  | .int k _ => k
  | _ => 0
def strOf : Value → Str
  | .str x _ => x
  | _ => mk []
theorem range_map {vs : List Value} {n : Nat} (hlen : vs.length = n) (hP : ∀ (j : Nat) (v : Value), vs[j]? = some v → ∃ t, v = .int j t) : vs.map (fun v => (intOf v).toNat) = List.range n := by
  apply List.ext_getElem?
  intro j
  by_cases hj : j < n
  · have hj' : j < vs.length := by omega
    obtain ⟨t, e⟩ := hP j _ (List.getElem?_eq_getElem hj')
    rw [List.getElem?_map, List.getElem?_eq_getElem hj', e, List.getElem?_range hj]
    simp [intOf]
  · rw [List.getElem?_eq_none (by rw [List.length_map]; omega), List.getElem?_eq_none (by rw [List.length_range]; omega)]
theorem filter_map_comm {α β γ : Type} (q : β → Bool) (g : α → β) (f : β → γ) (vs : List α) : (vs.filter (fun v => q (g v))).map (fun v => f (g v)) = ((vs.map g).filter q).map f := by
  induction vs with
  | nil => rfl
  | cons v r ih =>
    simp only [List.filter_cons, List.map_cons]
    cases q (g v) <;> simp [ih]
theorem range_filter {α : Type} {vs : List Value} {n : Nat} (hlen : vs.length = n) (hP : ∀ (j : Nat) (v : Value), vs[j]? = some v → ∃ t, v = .int j t) (q : Nat → Bool) (f : Nat → α) :
    (vs.filter (fun v => q (intOf v).toNat)).map (fun v => f (intOf v).toNat) = ((List.range n).filter q).map f := by
  rw [filter_map_comm q (fun v => (intOf v).toNat) f, range_map hlen hP]

/-- the letters of a mask -/
def letters (m : Nat) : List Nat := ((List.range 6).filter m.testBit).map (97 + ·)
theorem flatten_single {α β : Type} (f : α → β) (l : List α) : (l.map fun x => [f x]).flatten = l.map f := by
  induction l with
  | nil => rfl
  | cons x r ih => simp [ih]
theorem bitAnd_one {x : Int} (h : 0 ≤ x) : Builtin.bitAnd x 1 = x % 2 := by
  unfold Builtin.bitAnd
  rw [decide_eq_true h]
  simp only [show decide ((0 : Int) ≤ 1) = true from rfl]
  show ((x.toNat &&& 1 : Nat) : Int) = x % 2
  rw [Nat.and_one_is_mod]
  omega
theorem odd_ne (q : Nat) : ((q : Int) % 2 != 0) = decide (q % 2 = 1) := by
  rcases Nat.mod_two_eq_zero_or_one q with h | h
  · have : (q : Int) % 2 = 0 := by omega
    rw [this, h]; rfl
  · have : (q : Int) % 2 = 1 := by omega
    rw [this, h]; rfl
theorem bit_is {x : Int} (h : 0 ≤ x) (k : Nat) : (Builtin.bitAnd (x.fdiv (2 ^ k)) 1 != 0) = x.toNat.testBit k := by
  obtain ⟨n, rfl⟩ := Int.eq_ofNat_of_zero_le h
  have e : ((n : Int)).fdiv (2 ^ k) = ((n / 2 ^ k : Nat) : Int) := by
    rw [Int.fdiv_eq_ediv_of_nonneg _ (by exact Int.le_of_lt (Int.pow_pos (by decide)))]
    simp
  rw [e, bitAnd_one (Int.natCast_nonneg _), Int.toNat_natCast, Nat.testBit_eq_decide_div_mod_eq, odd_ne]
end
section
def isLow (c : Nat) : Bool := 97 ≤ c && c ≤ 102
def isUp (c : Nat) : Bool := 65 ≤ c && c ≤ 70
def lowC (c : Nat) : Nat := if c < 97 then c + 32 else c
theorem placed_mk {l : List Nat} {f : Nat → Nat → List Nat} {g : Nat → Nat} (h : ∀ (i : Nat) (c : Nat), l[i]? = some c → f i c = [g c]) : placed (mk l) f = (l.map g).toArray := by
  unfold placed
  have e : (mk l).cps.mapIdx (fun i c => (f i c).toArray) = (l.map fun c => #[g c]).toArray := by
    apply Array.ext'
    apply List.ext_getElem?
    intro i
    simp only [mk_cps, List.mapIdx_toArray, List.getElem?_mapIdx, List.getElem?_map]
    cases hc : l[i]? with
    | none => rfl
    | some c => simp only [Option.map_some, h i c hc]
  rw [e]
  apply Array.ext'
  rw [Array.toList_flatten]
  simp [Function.comp_def, flatten_single]
theorem upper_mk {l : List Nat} (h : ∀ c ∈ l, isLow c = true) : Txt.upper (mk l) = mk (l.map (· - 32)) := by
  have h1 : ∀ c, isLow c = true → Unicode.upperOf c = [c - 32] := by
    intro c hc
    have : c = 97 ∨ c = 98 ∨ c = 99 ∨ c = 100 ∨ c = 101 ∨ c = 102 := by simp [isLow] at hc; omega
    rcases this with rfl | rfl | rfl | rfl | rfl | rfl <;> decide +kernel
  exact congrArg Str.mk (placed_mk fun i c hc => h1 c (h c (List.mem_of_getElem? hc)))
theorem lower_mk {l : List Nat} (h : ∀ c ∈ l, isLow c = true ∨ isUp c = true) : Txt.lower (mk l) = mk (l.map lowC) := by
  have h1 : ∀ c, isLow c = true ∨ isUp c = true → Unicode.lowerOf c = [lowC c] ∧ c ≠ 0x3A3 := by
    intro c hc
    have : c = 97 ∨ c = 98 ∨ c = 99 ∨ c = 100 ∨ c = 101 ∨ c = 102 ∨ c = 65 ∨ c = 66 ∨ c = 67 ∨ c = 68 ∨ c = 69 ∨ c = 70 := by simp [isLow, isUp] at hc; omega
    rcases this with rfl | rfl | rfl | rfl | rfl | rfl | rfl | rfl | rfl | rfl | rfl | rfl <;> decide +kernel
  refine congrArg Str.mk (placed_mk fun i c hc => ?_)
  obtain ⟨e1, e2⟩ := h1 c (h c (List.mem_of_getElem? hc))
  unfold Unicode.lowerAt
  rw [mk_cps, List.getElem?_toArray, hc]
  simp [e1, e2]
section
variable {prog : Program} {w : World} {A : Around} {E : Value → Shared → Prop} {s : Shared} {Q : Value → Shared → Prop} {x y : Str} {a b : List Nat} {t u : Tok}
theorem add_mk (hx : x = mk a) (hy : y = mk b) (hl : a.length + b.length ≤ 16777216) (h : ∀ t' k, Q (.str (mk (a ++ b)) t') { s with toks := k }) : wpAny (model prog w) A (binaryOp .Add (.str x t) (.str y u)) Q E s := by
  subst hx hy
  refine PyProof.Rows.add_str (fun t' k => ?_) (by simpa [sizeLine_eq] using hl)
  rw [mk_append]
  exact h t' k
theorem iadd_mk (hx : x = mk a) (hy : y = mk b) (hl : a.length + b.length ≤ 16777216) (h : ∀ t' k, Q (.str (mk (a ++ b)) t') { s with toks := k }) : wpAny (model prog w) A (inplaceOp .Add (.str x t) (.str y u)) Q E s := by
  subst hx hy
  refine PyProof.Rows.iadd_str (fun t' k => ?_) (by simpa [sizeLine_eq] using hl)
  rw [mk_append]
  exact h t' k
theorem eq_mk (hx : x = mk a) (hy : y = mk b) (h : Q (.bool (decide (a = b))) s) : wpAny (model prog w) A (compareOp .Eq (.str x t) (.str y u)) Q E s := by
  subst hx hy
  refine PySem.P.eq_str ?_
  rw [show ((mk a).cps.toList == (mk b).cps.toList) = decide (a = b) from by
    by_cases e : a = b <;> simp [e]]
  exact h
theorem ne_mk (hx : x = mk a) (hy : y = mk b) (h : Q (.bool (!decide (a = b))) s) : wpAny (model prog w) A (compareOp .NotEq (.str x t) (.str y u)) Q E s := by
  subst hx hy
  refine PySem.P.ne_str ?_
  rw [show ((mk a).cps.toList != (mk b).cps.toList) = !decide (a = b) from by
    by_cases e : a = b <;> simp [e]]
  exact h
theorem lt_mk [D : Decidable (a < b)] (hx : x = mk a) (hy : y = mk b) (h : Q (.bool (decide (a < b))) s) : wpAny (model prog w) A (compareOp .Lt (.str x t) (.str y u)) Q E s := by
  subst hx hy
  refine PySem.P.lt_str ?_
  refine Eq.mp (congrArg (fun v => Q (.bool v) s) ?_) h
  apply decide_eq_decide.mpr
  simp
theorem upper_call (hx : x = mk a) (hl : ∀ c ∈ a, isLow c = true) (hn : a.length ≤ 1000000) (h : ∀ t' k, Q (.str (mk (a.map (· - 32))) t') { s with toks := k }) : wpAny (model prog w) A (call (.builtin "str.upper") [.str x t]) Q E s := by
  subst hx
  refine SCL.upper (by rw [mk_len]; omega) fun _ => ?_
  rw [upper_mk hl]
  exact h _ _
theorem lower_call (hx : x = mk a) (hl : ∀ c ∈ a, isLow c = true ∨ isUp c = true) (hn : a.length ≤ 1000000) (h : ∀ t' k, Q (.str (mk (a.map lowC)) t') { s with toks := k }) : wpAny (model prog w) A (call (.builtin "str.lower") [.str x t]) Q E s := by
  subst hx
  refine SCL.lower (by rw [mk_len]; omega) fun _ => ?_
  rw [lower_mk hl]
  exact h _ _
end
/-- a statement by what holds behind it -/
theorem cut {M : Model} {A : Around} {E : Value → Shared → Prop} {s : Shared} {env : Env} {st : Stmt} {rest : List Stmt} {Q : Flow → Shared → Prop} (P : Shared → Prop) (h1 : wpAny M A (exec st env) (fun fl s' => fl = .next ∧ P s') E s)
    (h2 : ∀ s', P s' → wpAny M A (execs rest env) Q E s') : wpAny M A (execs (st :: rest) env) Q E s :=
  wpAny_execs_cons (wpAny_mono h1 (fun fl s' h => by obtain ⟨rfl, hp⟩ := h; exact h2 s' hp) fun _ _ e => e)
theorem lit_e : Str.ofString "" = mk [] := by decide +kernel
theorem lit_nl : Str.ofString "\n" = mk [10] := by decide +kernel
theorem lit_tab : Str.ofString "\t" = mk [9] := by decide +kernel
theorem lit_q : Str.ofString "\"" = mk [34] := by decide +kernel
theorem lit_qs : Str.ofString "\" " = mk [34, 32] := by decide +kernel
theorem lit_bs : Str.ofString "\\" = mk [92] := by decide +kernel
theorem lit_ws : Str.ofString "\n\t\r " = mk [10, 9, 13, 32] := by decide +kernel
end
section
def cased (c : Nat) : List Nat := if c / 192 % 2 = 1 then (letters (c % 64)).map (· - 32) else letters (c % 64)
def written (c : Nat) : List Nat := if c / 64 % 3 = 1 ∨ cased c = [] then 34 :: cased c ++ [34, 32] else if c / 64 % 3 = 0 then cased c ++ [10] else ((cased c).map fun s => [92, s]).flatten ++ [9]
theorem letters_len (m : Nat) : (letters m).length ≤ 6 := by
  unfold letters
  rw [List.length_map]
  exact Nat.le_trans (List.length_filter_le _ _) (by simp)
theorem letters_low {m c : Nat} (h : c ∈ letters m) : isLow c = true := by
  unfold letters at h
  obtain ⟨k, hk, rfl⟩ := List.mem_map.mp h
  have := List.mem_range.mp (List.mem_filter.mp hk).1
  simp only [isLow, Bool.and_eq_true, decide_eq_true_eq]
  omega
theorem cased_len (c : Nat) : (cased c).length ≤ 6 := by
  unfold cased
  split
  · rw [List.length_map]; exact letters_len _
  · exact letters_len _
theorem fmod_nat (c k : Nat) : ((c : Int).fmod (k : Int)) = ((c % k : Nat) : Int) := by
  rw [Int.fmod_eq_emod_of_nonneg _ (Int.natCast_nonneg k)]; simp
theorem fdiv_nat (c k : Nat) : ((c : Int).fdiv (k : Int)) = ((c / k : Nat) : Int) := by
  rw [Int.fdiv_eq_ediv_of_nonneg _ (Int.natCast_nonneg k)]; simp
theorem Fr_map {h₀ : Heap} {L : Addr} {h : Heap} {m m' : Str → Option Value} (F : Fr h₀ L h m) (e : ∀ y, m y = m' y) : Fr h₀ L h m' := (funext e : m = m') ▸ F

theorem sign_map {α : Type} {vs : List Value} {l : List Nat} (hlen : vs.length = (mk l).cps.size) (hP : ∀ (j : Nat) (v : Value), vs[j]? = some v → SignAt (mk l) j v) (f : List Nat → α) :
    vs.map (fun v => f (strOf v).cps.toList) = l.map fun c => f [c] := by
  have hn : vs.length = l.length := by rw [hlen]; simp
  apply List.ext_getElem?
  intro j
  rw [List.getElem?_map, List.getElem?_map]
  by_cases hj : j < vs.length
  · obtain ⟨c, u, hc, hv⟩ := hP j _ (List.getElem?_eq_getElem hj)
    rw [List.getElem?_eq_getElem hj, hv]
    rw [mk_cps, List.getElem?_toArray] at hc
    rw [hc]
    rfl
  · rw [List.getElem?_eq_none (by omega), List.getElem?_eq_none (by omega)]
    rfl
theorem flatten_two_len (l : List Nat) : ((l.map fun s => [92, s]).flatten).length = 2 * l.length := by
  induction l with
  | nil => rfl
  | cons x r ih => simp only [List.map_cons, List.flatten_cons, List.length_append, ih, List.length_cons, List.length_nil]; omega
end
section
section
variable {prog : Program} {w : World} {A : Around} {E : Value → Shared → Prop} {s : Shared} {env : Env} {Q : Flow → Shared → Prop}
/-- a while by its invariant over states, with a measure -/
theorem while_inv {test : Expr} {body : List Stmt} {pos : Pos} (I : Nat → Shared → Prop)
    (turn : ∀ n s, I n s → wpAny (model prog w) A (isTrue test env (eval test env)) (fun b s₂ =>
        if b = true then wpAny (model prog w) A (execs body env) (fun f s₃ => match f with
            | .next | .cont => ∃ m, m < n ∧ I m s₃
            | .brk => Q .next s₃
            | .ret v => Q (.ret v) s₃) (fun _ _ => False) s₂
        else Q .next s₂) (fun _ _ => False) s)
    (n : Nat) (h : I n s) : wpAny (model prog w) A (exec (.While test body [] pos) env) Q E s := by
  refine wpAny_While (codeAny_whileLoop I (fun n s hI => wpAny_mono (turn n s hI) (fun b s₂ hb => ?_) fun _ _ f => f.elim) n h)
  cases b with
  | true => exact wpAny_mono hb (fun _ _ x => x) fun _ _ f => f.elim
  | false => exact wpAny_execs_nil hb

/-- a for over what walks: the body keeps the iterator and its source -/
theorem for_walk {x : Str} {px : Pos} {body : List Stmt} {I : Addr} {fp wr : List Addr} {n : Nat} {P : Nat → Value → Prop} {St : Nat → Heap → Prop} (W : Walks prog w A I fp wr n P St) (J : Nat → Shared → Prop)
    (hst : St 0 s.heap) (hj : J 0 s)
    (turn : ∀ (i : Nat) (s : Shared) (v : Value) (h' : Heap) (tk : Nat), i < n → J i s → P i v → St (i + 1) h' → (∀ b o, b ∉ wr → s.heap.get? b = some o → h'.get? b = some o) →
      wpAny (model prog w) A (storeName env x v) (fun _ s₂ => wpAny (model prog w) A (execs body env) (fun f s₃ => match f with
          | .next | .cont => J (i + 1) s₃ ∧ ∀ b ∈ fp, ∀ o, h'.get? b = some o → s₃.heap.get? b = some o
          | .brk => Q .next s₃
          | .ret v => Q (.ret v) s₃) (fun _ _ => False) s₂) (fun _ _ => False) { s with heap := h', toks := tk })
    (done : ∀ (s : Shared) (h' : Heap) (tk : Nat), J n s → (∀ b o, b ∉ wr → s.heap.get? b = some o → h'.get? b = some o) → Q .next { s with heap := h', toks := tk }) :
    codeAny (model prog w) A (.forLoop (.Name x px) (.ref I) body [] env) (fun r s' => match r with | .ok f => Q f s' | .error e => cameBackBy (model prog w) A env E e s') s := by
  refine codeAny_forLoop (fun k s' => ∃ i, k = n + 1 - i ∧ i ≤ n ∧ St i s'.heap ∧ J i s') ?_ (n + 1) ⟨0, rfl, Nat.zero_le _, hst, hj⟩
  rintro k s' ⟨i, rfl, hi, hst', hj'⟩
  by_cases hlt : i < n
  · refine W.item i s' _ _ hlt hst' fun v h' tk hP hst₁ hk => ?_
    refine wpAny_assign_Name (wpAny_mono (turn i s' v h' tk hlt hj' hP hst₁ hk) (fun _ s₂ h₂ => wpAny_mono h₂ (fun f s₃ h₃ => ?_) fun _ _ f => f.elim) fun _ _ f => f.elim)
    cases f with
    | next => exact ⟨n + 1 - (i + 1), by omega, i + 1, rfl, hlt, W.frame _ _ _ hst₁ h₃.2, h₃.1⟩
    | cont => exact ⟨n + 1 - (i + 1), by omega, i + 1, rfl, hlt, W.frame _ _ _ hst₁ h₃.2, h₃.1⟩
    | brk => exact h₃
    | ret v => exact h₃
  · have : i = n := by omega
    subst this
    exact W.done s' _ _ hst' fun h' tk hk => wpAny_execs_nil (done s' h' tk hj' hk)
end
section
variable {prog : Program} {w : World} {A : Around} {E : Value → Shared → Prop} {s : Shared} {Q : Value → Shared → Prop}
theorem item_list {value slice : Expr} {l : Addr} {vs : Array Value} {k : Int} {u : Tok} {v : Value} (hl : s.heap.IsList l vs) (h0 : 0 ≤ k) (hhi : k < 2 ^ 63) (hx : vs[k.toNat]? = some v) (h : Q v s)
    (hs : subscripted slice false (.ref l) (.int k u) = operate [.ref l, .int k u] (getItem (.ref l) (.int k u)) := by with_unfolding_all rfl) :
    wpAny (model prog w) A (subscriptTail value slice (.ref l) (.int k u)) Q E s :=
  tail_any hl.typeIs slot_list_getitem.lookup (wpAny_getItem_list hl h0 hhi hx h) hs
end
/-- values that are these texts -/
abbrev Txts (vs : List Value) (ws : List (List Nat)) : Prop := Paired (fun v l => ∃ t, v = Value.str (mk l) t) vs ws
theorem Paired.length' {α β : Type} {F : α → β → Prop} {a : List α} {b : List β} (h : Paired F a b) : a.length = b.length := h.length
theorem Paired.get {α β : Type} {F : α → β → Prop} : ∀ {a : List α} {b : List β}, Paired F a b → ∀ {i : Nat} {y : β}, b[i]? = some y → ∃ x, a[i]? = some x ∧ F x y
  | _, _, .nil, _, _, e => by simp at e
  | _, _, .cons h r, i, y, e => by
    cases i with
    | zero => simp at e; subst e; exact ⟨_, rfl, h⟩
    | succ i => simp at e; obtain ⟨x, e1, e2⟩ := Paired.get r e; exact ⟨x, by simpa using e1, e2⟩
/-- a frame's first names -/
abbrev mOf (l : List (Str × Value)) : Str → Option Value := fun y => l.reverse.lookup y
theorem sorted_get {ws : List (List Nat)} (h : ws.Pairwise (· < ·)) {i j : Nat} {a b : List Nat} (hij : i < j) (ha : ws[i]? = some a) (hb : ws[j]? = some b) : a < b := by
  obtain ⟨hi, rfl⟩ := List.getElem?_eq_some_iff.mp ha
  obtain ⟨hj, rfl⟩ := List.getElem?_eq_some_iff.mp hb
  exact List.pairwise_iff_getElem.mp h i j hi hj hij
end
section
theorem stays_hide {g h : Heap} {r : Addr} (st : g.StaysIn h) (hr : g.get? r = none) : g.StaysIn (h.hide r) := fun b o e => by
  have : b ≠ r := fun q => by rw [q, hr] at e; cases e
  exact (Heap.hide_ne h this).trans (st b o e)
/-- all but one object stands -/
def Buts (r : Addr) (h h' : Heap) : Prop := ∀ b o, b ≠ r → h.get? b = some o → h'.get? b = some o

/-- a contract of a def that turns one object of the caller's -/
def CtrM (w : World) (f : Addr) (vs : List Value) (kw : List (Str × Value)) (dd uu : Nat) (r : Addr) (o : Obj) (R : Heap → Value → Obj → Prop) : Prop :=
  ∀ (p : Program) (loose : List Str) (mg mb : Str → Option Value) (dp un : Nat) (gd : Option (List Code)) (fr : Option (List Env)) (g : Heap) (s : Shared) (Q E : Value → Shared → Prop),
    (KK w).In g → TopRead p loose mg mb g → g.StaysIn s.heap → g.get? r = none → s.heap.get? r = some o → dp + dd < recursionLimit → un + uu < cLine →
    (∀ (v : Value) (h' : Heap) (tk' : Nat) (o' : Obj), Buts r s.heap h' → h'.get? r = some o' → R s.heap v o' → Q v { s with heap := h', toks := tk' }) →
    wpAny (model prog w) (Cx dp un gd fr) (call (.ref f) vs kw) Q E s

theorem CtrM.use {w : World} {f : Addr} {vs : List Value} {kw : List (Str × Value)} {dd uu : Nat} {r : Addr} {o : Obj} {R : Heap → Value → Obj → Prop} (C : CtrM w f vs kw dd uu r o R)
    {p : Program} {loose : List Str} {mg mb : Str → Option Value} {dp un : Nat} {gd : Option (List Code)} {fr : Option (List Env)} {s : Shared} {Q E : Value → Shared → Prop} {h₀ : Heap} {L : Addr} {m : Str → Option Value} {news : List (Addr × Obj)}
    (F : Fr h₀ L s.heap m) (X : (KK w).In h₀) (N : News h₀ L s.heap ((r, o) :: news)) (hne : ∀ q ∈ news, q.1 ≠ r) (T : TopRead p loose mg mb h₀) (hd : dp + dd < recursionLimit) (hu : un + uu < cLine)
    (h : ∀ v h' tk' o', Fr h₀ L h' m → News h₀ L h' ((r, o') :: news) → Buts r s.heap h' → R s.heap v o' → Q v { s with heap := h', toks := tk' }) :
    wpAny (model prog w) (Cx dp un gd fr) (call (.ref f) vs kw) Q E s := by
  obtain ⟨n1, n2, n3⟩ := N (r, o) (.head _)
  refine C p loose mg mb dp un gd fr h₀ s Q E X T F.keep n3 n1 hd hu fun v h' tk' o' hb ho' hR => h v h' tk' o' ?_ ?_ hb hR
  · exact ⟨F.ns.at' fun ob e => hb L ob (Ne.symm n2) e, fun b ob e => hb b ob (fun q => by rw [q, n3] at e; cases e) (F.keep b ob e), F.above⟩
  · intro q hq
    rcases List.mem_cons.mp hq with rfl | hq
    · exact ⟨ho', n2, n3⟩
    · exact ⟨hb _ _ (hne q hq) (N q (.tail _ hq)).1, (N q (.tail _ hq)).2⟩

section
variable {prog : Program} {w : World} {A : Around} {E : Value → Shared → Prop} {s : Shared} {K : Frag} {Q : Value → Shared → Prop} {g : Heap} {r : Addr} {o : Obj}
  {name qual : Str} {params : Arguments} {body : List Stmt} {scope : Scope} {dV kV doc pm cdv ct oc : Value} {an od : Option Addr} {osl : Array (Option Value)} {f : Addr} {pos : List Value} {kw : List (Str × Value)} {binds : List (Str × Value)}
  {p : Program} {loose : List Str} {mg mb : Str → Option Value}
/-- a def without cells, entered: one object of the caller's lies open -/
theorem enterM (X : K.In g) (T : TopRead p loose mg mb g) (st : g.StaysIn s.heap) (hgr : g.get? r = none) (hr : s.heap.get? r = some o) (hroom : A.depth < recursionLimit)
    (ho : K.lookup f = some ⟨oc, od, .func (fnOf name qual params body scope dV kV doc pm an cdv ct), osl⟩) (hcd : codeIn K cdv qual = true)
    (hbind : BindsTo s (fnOf name qual params body scope dV kV doc pm an cdv ct) ⟨pos, kw⟩ binds) (hloc : ∀ y ∈ binds, scope.names.lookup y.1 = some .local)
    (h : ∀ L h₁ tk, Fr (s.heap.hide r) L h₁ (fun y => binds.reverse.lookup y) → News (s.heap.hide r) L h₁ [(r, o)] → K.In (s.heap.hide r) → TopRead p loose mg mb (s.heap.hide r) →
      wpAny (model prog w) (A.deeper (envX qual scope L f cdv [])) (execs body (envX qual scope L f cdv [])) (fun fl s' => Q (match fl with | .ret v => v | _ => .none) s') (fun _ _ => False) { s with heap := h₁, toks := tk })
    (hcell : ∀ x ∈ scope.names, x.2 ≠ .cell) (hco : scope.isCoroutine = false := by rfl) (hgen : scope.isGenerator = false := by rfl) (hk : scope.kind = .function := by rfl) :
    wpAny (model prog w) A (call (.ref f) pos kw) Q E s := by
  have X' := X.keeps st
  refine wpAny_call (codeAny_call_def (fd := fnOf name qual params body scope dV kV doc pm an cdv ct) (body := body) (binds := binds) hroom (X' _ _ ho) rfl (T.nolimit.keeps st) (codeRec_of X' hcd) rfl hbind hcell hloc (fun h₁ hns hk₁ => ?_) hco hgen hk)
  have st' := stays_hide st hgr
  refine wpAny_mono (h s.heap.objs.size h₁ _ ⟨hns, fun b ob e => hk₁ b ob (Heap.of_hide e), Nat.le_of_eq (Heap.hide_size _ _)⟩ ?_ (X.keeps st') (T.keeps st')) (fun _ _ x => x) (fun _ _ x => x.elim)
  intro q hq
  rw [List.mem_singleton.mp hq]
  exact ⟨hk₁ _ _ hr, Nat.ne_of_lt (Heap.lt_size hr), Heap.hide_self _ _⟩
/-- what an end gives back -/
theorem buts_of {L : Addr} {m : Str → Option Value} {h h' : Heap} {r : Addr} (F : Fr (h.hide r) L h' m) : Buts r h h' := fun b o hb e => F.keep b o ((Heap.hide_ne h hb).trans e)
end
end
section
section
open PyProof.V
abbrev TD (ws : List (List Nat)) : List PyData := ws.map fun l => PyData.str (mk l)
abbrev TOk (ws : List (List Nat)) : Prop := ∀ l ∈ ws, PyData.strOk (mk l) = true
theorem td_lay : ∀ ws : List (List Nat), TOk ws → PyData.canLayAll0 (TD ws) = true
  | [], _ => rfl
  | l :: r, h => by
    have h1 := h l (.head _)
    have h2 := td_lay r fun x hx => h x (.tail _ hx)
    simp [PyData.canLayAll0, PyData.canLay0, h1, h2]
theorem td_depth : ∀ ws : List (List Nat), PyData.depthAll (TD ws) = 0
  | [] => rfl
  | _ :: r => by simp [PyData.depthAll, PyData.depth, td_depth r]
theorem td_shaped (ws : List (List Nat)) (h : TOk ws) : SeqAt.shaped (.list (TD ws)) = true := by
  simp [SeqAt.shaped, PyData.canLay0, PyData.depth, td_lay ws h, td_depth]
theorem td_sameAll : ∀ ns ms : List (List Nat), PySem.Spec.sameAll (TD ns) (TD ms) = decide (ns = ms)
  | [], [] => by simp [PySem.Spec.sameAll]
  | [], _ :: _ => by simp [PySem.Spec.sameAll]
  | _ :: _, [] => by simp [PySem.Spec.sameAll]
  | a :: r, b :: t => by
    simp only [List.map_cons, PySem.Spec.sameAll, PySem.Spec.same]
    rw [td_sameAll r t]
    by_cases h : a = b <;> by_cases h' : r = t <;> simp [h, h', mk_eq_iff]
theorem td_same (ns ms : List (List Nat)) : PySem.Spec.same (.list (TD ns)) (.list (TD ms)) = decide (ns = ms) := by
  simp only [PySem.Spec.same]; exact td_sameAll ns ms
theorem td_carried : ∀ {vs : List Value} {ws : List (List Nat)}, Txts vs ws → CarriedAll vs (TD ws)
  | _, _, .nil => .nil
  | _, _, .cons ⟨t, h⟩ r => by subst h; exact .cons (.str _ t) (td_carried r)
variable {prog : Program} {w : World} {A : Around} {E : Value → Shared → Prop} {s : Shared} {a b : Addr} {xs ys : List Value} {ns ms : List (List Nat)} {Q : Value → Shared → Prop}
theorem ne_txts (ha : s.heap.IsList a xs.toArray) (hb : s.heap.IsList b ys.toArray) (hi : Txts xs ns) (hj : Txts ys ms) (ki : TOk ns) (kj : TOk ms) (hu : A.units + 64 < cLine) (h : Q (.bool (!decide (ns = ms))) s) :
    wpAny (model prog w) A (compareOp .NotEq (.ref a) (.ref b)) Q E s :=
  ne_dataH_same (reads_newData ha (td_carried hi)) (reads_newData hb (td_carried hj)) (td_shaped _ ki) (td_shaped _ kj) hu (SeqAt.noMix_of_shape (.list .str) rfl _ _ (list_map_has fun _ => rfl) (list_map_has fun _ => rfl)) (by rw [td_same]; exact h)
end
theorem txts_take : ∀ {vs : List Value} {ws : List (List Nat)} (n : Nat), Txts vs ws → Txts (vs.take n) (ws.take n)
  | _, _, 0, _ => by rw [List.take_zero, List.take_zero]; exact .nil
  | _, _, _ + 1, .nil => .nil
  | _, _, n + 1, .cons h r => .cons h (txts_take n r)
theorem txts_drop : ∀ {vs : List Value} {ws : List (List Nat)} (n : Nat), Txts vs ws → Txts (vs.drop n) (ws.drop n)
  | _, _, 0, h => h
  | _, _, _ + 1, .nil => .nil
  | _, _, n + 1, .cons _ r => txts_drop n r
theorem txts_append : ∀ {vs vs' : List Value} {ws ws' : List (List Nat)}, Txts vs ws → Txts vs' ws' → Txts (vs ++ vs') (ws ++ ws')
  | _, _, _, _, .nil, h => h
  | _, _, _, _, .cons h r, h' => .cons h (txts_append r h')

theorem slice_one (vs : List Value) (p : Nat) (hp : p ≤ vs.length) : slicePick vs.toArray (some (p : Int)) (some ((p : Int) + 1)) none = ((vs.drop p).take 1).toArray := by
  by_cases h : p < vs.length
  · have := slicePick_run vs.toArray p (p + 1) (by rw [List.size_toArray]; omega) (by omega)
    rw [show ((p : Int) + 1) = ((p + 1 : Nat) : Int) from by push_cast; rfl, this]
    simp
  · have e : p = vs.length := by omega
    have h1 : slicePick vs.toArray (some (p : Int)) (some ((p : Int) + 1)) none = slicePick vs.toArray (some (p : Int)) (some (p : Int)) none := by
      unfold slicePick
      have : sliceBounds (some (p : Int)) (some ((p : Int) + 1)) none vs.toArray.size = sliceBounds (some (p : Int)) (some (p : Int)) none vs.toArray.size := by
        rw [List.size_toArray, ← e]
        unfold sliceBounds
        simp
        omega
      rw [this]
    rw [h1, slicePick_run vs.toArray p p (by rw [List.size_toArray]; omega) (Nat.le_refl _)]
    subst e
    simp
end
section
section
variable {prog : Program} {w : World} {A : Around} {E : Value → Shared → Prop} {s : Shared} {env : Env} {Q : Flow → Shared → Prop} {x : Str} {px pos : Pos} {iter : Expr} {body : List Stmt} {h₀ : Heap} {L : Addr}
/-- a for behind its source -/
def ForAt (prog : Program) (w : World) (A : Around) (env : Env) (x : Str) (px : Pos) (body : List Stmt) (Q : Flow → Shared → Prop) (E : Value → Shared → Prop) (xv : Value) (s₁ : Shared) : Prop :=
  wpAny (model prog w) A (pyIter xv) (fun it s₂ => codeAny (model prog w) A (.forLoop (.Name x px) it body [] env) (fun r s' => match r with | .ok f => Q f s' | .error e => cameBackBy (model prog w) A env E e s') s₂) E s₁
theorem for_open (h : wpAny (model prog w) A (eval iter env) (fun xv s₁ => ForAt prog w A env x px body Q E xv s₁) E s) (hs : ∀ x, foldedSetIterable iter env x = pure x := by intro _; rfl) :
    wpAny (model prog w) A (exec (.For (.Name x px) iter body [] pos) env) Q E s := wpAny_For h hs

/-- what a turn's end must show -/
inductive TurnEndI (h₀ : Heap) (L : Addr) (I : Addr) (oI : Obj) (rest : List Addr) (J : (Str → Option Value) → List (Addr × Obj) → Prop) (h : Heap) (mkS : Heap → Nat → Shared) (s₃ : Shared) : Prop
  | mk (h' : Heap) (tk' : Nat) (m' : Str → Option Value) (led' : List (Addr × Obj)) (e : s₃ = mkS h' tk') (F : Fr h₀ L h' m') (N : News h₀ L h' ((I, oI) :: led')) (ne : ∀ q ∈ led', q.1 ≠ I) (j : J m' led') (k : ∀ b ∈ rest, ∀ o, h.get? b = some o → h'.get? b = some o) : TurnEndI h₀ L I oI rest J h mkS s₃
def TurnEnd (h₀ : Heap) (L : Addr) (I : Addr) (oI : Obj) (rest : List Addr) (J : (Str → Option Value) → List (Addr × Obj) → Prop) (h : Heap) (s s₃ : Shared) : Prop :=
  TurnEndI h₀ L I oI rest J h (fun h' tk' => { s with heap := h', toks := tk' }) s₃

theorem for_N {I : Addr} {rest : List Addr} {n : Nat} {P : Nat → Value → Prop} {St : Nat → Heap → Prop} (W : Walks prog w A I (I :: rest) [I] n P St) (cI : Value) (hI : ∀ i h, St i h → ∃ o, h.get? I = some o ∧ o.cls = cI)
    (hL : env.locals = L) (J : Nat → (Str → Option Value) → List (Addr × Obj) → Prop) {m₀ : Str → Option Value} {led₀ : List (Addr × Obj)} {o₀ : Obj}
    (F : Fr h₀ L s.heap m₀) (N : News h₀ L s.heap ((I, o₀) :: led₀)) (hne : ∀ q ∈ led₀, q.1 ≠ I) (hr : I ∉ rest) (hst : St 0 s.heap) (hj : J 0 m₀ led₀)
    (turn : ∀ (i : Nat) (h : Heap) (tk : Nat) (m : Str → Option Value) (led : List (Addr × Obj)) (oI : Obj) (v : Value), i < n → J i m led → P i v → Fr h₀ L h m → News h₀ L h ((I, oI) :: led) → (∀ q ∈ led, q.1 ≠ I) → oI.cls = cI → St (i + 1) h →
      wpAny (model prog w) A (storeName env x v) (fun _ s₂ => wpAny (model prog w) A (execs body env) (fun f s₃ => match f with
          | .next | .cont => TurnEnd h₀ L I oI rest (J (i + 1)) h s s₃
          | .brk => Q .next s₃
          | .ret v => Q (.ret v) s₃) (fun _ _ => False) s₂) (fun _ _ => False) { s with heap := h, toks := tk })
    (done : ∀ (h : Heap) (tk : Nat) (m : Str → Option Value) (led : List (Addr × Obj)), J n m led → Fr h₀ L h m → News h₀ L h led → Q .next { s with heap := h, toks := tk }) :
    codeAny (model prog w) A (.forLoop (.Name x px) (.ref I) body [] env) (fun r s' => match r with | .ok f => Q f s' | .error e => cameBackBy (model prog w) A env E e s') s := by
  have step : ∀ {h h' : Heap} {m : Str → Option Value} {led : List (Addr × Obj)} {oI oI' : Obj}, Fr h₀ L h m → News h₀ L h ((I, oI) :: led) → (∀ q ∈ led, q.1 ≠ I) → (∀ b o, b ∉ [I] → h.get? b = some o → h'.get? b = some o) → h'.get? I = some oI' →
      Fr h₀ L h' m ∧ News h₀ L h' ((I, oI') :: led) := by
    intro h h' m led oI oI' F N hne hk ho
    obtain ⟨n1, n2, n3⟩ := N (I, oI) (.head _)
    refine ⟨⟨F.ns.at' fun ob e => hk L ob (fun q => n2 (List.mem_singleton.mp q).symm) e, fun b ob e => hk b ob (fun q => by rw [List.mem_singleton.mp q] at e; rw [n3] at e; cases e) (F.keep b ob e), F.above⟩, fun q hq => ?_⟩
    rcases List.mem_cons.mp hq with rfl | hq
    · exact ⟨ho, n2, n3⟩
    · exact ⟨hk _ _ (fun z => hne q hq (List.mem_singleton.mp z)) (N q (.tail _ hq)).1, (N q (.tail _ hq)).2⟩
  refine for_walk W (fun i s' => ∃ h tk m led oI, s' = { s with heap := h, toks := tk } ∧ Fr h₀ L h m ∧ News h₀ L h ((I, oI) :: led) ∧ (∀ q ∈ led, q.1 ≠ I) ∧ J i m led) hst ⟨s.heap, s.toks, m₀, led₀, o₀, rfl, F, N, hne, hj⟩ ?_ ?_
  · rintro i s' v h' tk hi ⟨h, tk₁, m, led, oI, rfl, F', N', hne', hj'⟩ hP hst' hk
    obtain ⟨oI', ho, hc⟩ := hI _ _ hst'
    obtain ⟨F₂, N₂⟩ := step F' N' hne' hk ho
    refine wpAny_mono (turn i h' tk m led oI' v hi hj' hP F₂ N₂ hne' hc hst') (fun _ s₂ h₂ => wpAny_mono h₂ (fun f s₃ h₃ => ?_) fun _ _ f => f) fun _ _ f => f
    have fin : TurnEnd h₀ L I oI' rest (J (i + 1)) h' s s₃ → (∃ h tk m led oI, s₃ = { s with heap := h, toks := tk } ∧ Fr h₀ L h m ∧ News h₀ L h ((I, oI) :: led) ∧ (∀ q ∈ led, q.1 ≠ I) ∧ J (i + 1) m led) ∧ ∀ b ∈ I :: rest, ∀ o, h'.get? b = some o → s₃.heap.get? b = some o := by
      rintro ⟨h₄, tk₄, m₄, led₄, rfl, F₄, N₄, hne₄, hj₄, hr₄⟩
      refine ⟨⟨h₄, tk₄, m₄, led₄, oI', rfl, F₄, N₄, hne₄, hj₄⟩, fun b hb o e => ?_⟩
      rcases List.mem_cons.mp hb with rfl | hb
      · rw [ho] at e; cases e; exact N₄.get (.head _)
      · exact hr₄ b hb o e
    cases f with
    | next => exact fin h₃
    | cont => exact fin h₃
    | brk => exact h₃
    | ret v => exact h₃
  · rintro s' h' tk ⟨h, tk₁, m, led, oI, rfl, F', N', hne', hj'⟩ hk
    obtain ⟨n1, n2, n3⟩ := N' (I, oI) (.head _)
    exact done h' tk m led hj' ⟨F'.ns.at' fun ob e => hk L ob (fun q => n2 (List.mem_singleton.mp q).symm) e, fun b ob e => hk b ob (fun q => by rw [List.mem_singleton.mp q] at e; rw [n3] at e; cases e) (F'.keep b ob e), F'.above⟩
      fun q hq => ⟨hk _ _ (fun z => hne' q hq (List.mem_singleton.mp z)) (N' q (.tail _ hq)).1, (N' q (.tail _ hq)).2⟩

/-- a for over a range from nought by ones -/
theorem for_range {r : Addr} {n : Nat} {t u k : Tok} (hh : A.handled = none) (hL : env.locals = L) (hr : IsRange s.heap r 0 n 1 t u k) (hn : n ≤ sizeLine) (J : Nat → (Str → Option Value) → List (Addr × Obj) → Prop) {m₀ : Str → Option Value} {led₀ : List (Addr × Obj)}
    (F : Fr h₀ L s.heap m₀) (N : News h₀ L s.heap led₀) (hj : J 0 m₀ led₀)
    (turn : ∀ (I : Addr) (i : Nat) (h : Heap) (tk : Nat) (m : Str → Option Value) (led : List (Addr × Obj)) (oI : Obj) (tv : Tok), i < n → J i m led → Fr h₀ L h m → News h₀ L h ((I, oI) :: led) → (∀ q ∈ led, q.1 ≠ I) → oI.cls = .type "range_iterator" →
      wpAny (model prog w) A (storeName env x (.int i tv)) (fun _ s₂ => wpAny (model prog w) A (execs body env) (fun f s₃ => match f with
          | .next | .cont => TurnEnd h₀ L I oI [] (J (i + 1)) h s s₃
          | .brk => Q .next s₃
          | .ret v => Q (.ret v) s₃) (fun _ _ => False) s₂) (fun _ _ => False) { s with heap := h, toks := tk })
    (done : ∀ (h : Heap) (tk : Nat) (m : Str → Option Value) (led : List (Addr × Obj)), J n m led → Fr h₀ L h m → News h₀ L h led → Q .next { s with heap := h, toks := tk }) :
    ForAt prog w A env x px body Q E (.ref r) s := by
  have hsz : Builtin.Range.rangeSize 0 n 1 = n := by
    rw [rangeSize_one]
    split <;> omega
  have hle : (n : Int) ≤ 16777216 := by unfold sizeLine at hn; omega
  have hsm : Builtin.Range.small 0 n 1 = true := by
    unfold Builtin.Range.small Builtin.Range.rangeFitsLong
    rw [hsz]
    simp only [Bool.and_eq_true, Bool.or_eq_true, decide_eq_true_eq, show (1 : Int) > 0 from by decide, if_true]
    omega
  refine wpAny_pyIter_range hr hsm ?_
  refine for_N (s := { s with heap := s.heap.push _ }) (walks_range hh s.heap.objs.size n) (.type "range_iterator") (fun i h hs => ⟨_, hs, rfl⟩) hL J (F.push _) (N.push F _) (fun q hq e => ?_) (by simp) ?_ hj ?_ done
  · exact absurd (Heap.lt_size (N q hq).1) (by rw [e]; exact Nat.lt_irrefl _)
  · have e := Heap.get?_push_size s.heap (o := { cls := .type "range_iterator", data := .fields #[rawInt 0, rawInt (Builtin.Range.rangeSize 0 n 1), rawInt 1] }) rfl
    simp only [hsz] at e
    simp only [hsz, Int.natCast_zero, Int.sub_zero]
    exact e
  · rintro i h tk m led oI v hi hj ⟨_, tv, rfl⟩ F' N' hne hc _
    exact turn _ i h tk m led oI tv hi hj F' N' hne hc
end
/-- values that are these numbers -/
abbrev Nats (vs : List Value) (cs : List Nat) : Prop := Paired (fun v (c : Nat) => ∃ t, v = Value.int (c : Int) t) vs cs
theorem nats_set : ∀ {vs : List Value} {cs : List Nat} {i c : Nat} {t : Tok}, Nats vs cs → Nats (vs.set i (.int (c : Int) t)) (cs.set i c)
  | _, _, _, _, _, .nil => .nil
  | _, _, 0, _, t, .cons _ r => .cons ⟨t, rfl⟩ r
  | _, _, _ + 1, _, _, .cons h r => .cons h (nats_set r)
theorem nats_ints : ∀ {vs : List Value} {cs : List Nat}, Nats vs cs → IntsAre vs (cs.map fun c : Nat => (c : Int))
  | _, _, .nil => .nil
  | _, _, .cons ⟨t, h⟩ r => by subst h; exact .cons _ t (nats_ints r)
theorem mem_set {α : Type} {l : List α} {i : Nat} {a x : α} (h : x ∈ l.set i a) : x = a ∨ x ∈ l := by
  rcases List.mem_or_eq_of_mem_set h with q | q
  · exact .inr q
  · exact .inl q
end
section
/-- all stands but what lies at these places -/
def ButL (as : List Addr) (h h' : Heap) : Prop := ∀ b o, b ∉ as → h.get? b = some o → h'.get? b = some o
/-- a contract of a def that turns some objects of the caller's -/
def CtrL (w : World) (f : Addr) (vs : List Value) (kw : List (Str × Value)) (dd uu : Nat) (led : List (Addr × Obj)) (Pre : Heap → Prop) (R : Heap → Value → Heap → List (Addr × Obj) → Prop) : Prop :=
  ∀ (p : Program) (loose : List Str) (mean : ExcName → Option Value) (mg mb : Str → Option Value) (dp un : Nat) (gd : Option (List Code)) (fr : Option (List Env)) (g : Heap) (s : Shared) (Q E : Value → Shared → Prop),
    (KK w).In g → Top p loose mean mg mb g → g.StaysIn s.heap → (∀ q ∈ led, s.heap.get? q.1 = some q.2 ∧ g.get? q.1 = none) → Pre s.heap → dp + dd < recursionLimit → un + uu < cLine →
    (∀ (v : Value) (h' : Heap) (tk' : Nat) (led' : List (Addr × Obj)), ButL (led.map (·.1)) s.heap h' → led'.map (·.1) = led.map (·.1) → (∀ q ∈ led', h'.get? q.1 = some q.2) → R s.heap v h' led' → Q v { s with heap := h', toks := tk' }) →
    wpAny (model prog w) (Cx dp un gd fr) (call (.ref f) vs kw) Q E s

theorem stays_hideAll {g h : Heap} {as : List Addr} (st : g.StaysIn h) (hr : ∀ a ∈ as, g.get? a = none) : g.StaysIn (hideAll h as) := fun b o e =>
  hideAll_get as (st b o e) fun q => by rw [hr b q] at e; cases e
theorem butL_of {L : Addr} {m : Str → Option Value} {h h' : Heap} {as : List Addr} (F : Fr (hideAll h as) L h' m) : ButL as h h' := fun b o hb e => F.keep b o (hideAll_get as e hb)

theorem CtrL.use {w : World} {f : Addr} {vs : List Value} {kw : List (Str × Value)} {dd uu : Nat} {led : List (Addr × Obj)} {Pre : Heap → Prop} {R : Heap → Value → Heap → List (Addr × Obj) → Prop} (C : CtrL w f vs kw dd uu led Pre R)
    {p : Program} {loose : List Str} {mean : ExcName → Option Value} {mg mb : Str → Option Value} {dp un : Nat} {gd : Option (List Code)} {fr : Option (List Env)} {s : Shared} {Q E : Value → Shared → Prop} {h₀ : Heap} {L : Addr} {m : Str → Option Value} {news : List (Addr × Obj)}
    (F : Fr h₀ L s.heap m) (X : (KK w).In h₀) (N : News h₀ L s.heap (led ++ news)) (hne : ∀ q ∈ news, q.1 ∉ led.map (·.1)) (T : Top p loose mean mg mb h₀) (hp : Pre s.heap) (hd : dp + dd < recursionLimit) (hu : un + uu < cLine)
    (h : ∀ v h' tk' led', led'.map (·.1) = led.map (·.1) → Fr h₀ L h' m → News h₀ L h' (led' ++ news) → ButL (led.map (·.1)) s.heap h' → R s.heap v h' led' → Q v { s with heap := h', toks := tk' }) :
    wpAny (model prog w) (Cx dp un gd fr) (call (.ref f) vs kw) Q E s := by
  have hL : L ∉ led.map (·.1) := fun q => by
    obtain ⟨z, hz, e⟩ := List.mem_map.mp q
    exact (N z (List.mem_append_left _ hz)).2.1 e
  have hg : ∀ a ∈ led.map (·.1), h₀.get? a = none := fun a q => by
    obtain ⟨z, hz, rfl⟩ := List.mem_map.mp q
    exact (N z (List.mem_append_left _ hz)).2.2
  refine C p loose mean mg mb dp un gd fr h₀ s Q E X T F.keep (fun q hq => ⟨(N q (List.mem_append_left _ hq)).1, (N q (List.mem_append_left _ hq)).2.2⟩) hp hd hu fun v h' tk' led' hb hled hg' hR => h v h' tk' led' hled ?_ ?_ hb hR
  · exact ⟨F.ns.at' fun ob e => hb L ob hL e, fun b ob e => hb b ob (fun q => by rw [hg b q] at e; cases e) (F.keep b ob e), F.above⟩
  · intro q hq
    rcases List.mem_append.mp hq with hq | hq
    · have hm : q.1 ∈ led.map (·.1) := hled ▸ List.mem_map_of_mem hq
      exact ⟨hg' q hq, fun e => hL (e ▸ hm), hg _ hm⟩
    · exact ⟨hb _ _ (hne q hq) (N q (List.mem_append_right _ hq)).1, (N q (List.mem_append_right _ hq)).2⟩

section
variable {prog : Program} {w : World} {A : Around} {E : Value → Shared → Prop} {s : Shared} {K : Frag} {Q : Value → Shared → Prop} {g : Heap} {led : List (Addr × Obj)}
  {name qual : Str} {params : Arguments} {body : List Stmt} {scope : Scope} {dV kV doc pm cdv ct oc : Value} {an od : Option Addr} {osl : Array (Option Value)} {f : Addr} {pos : List Value} {kw : List (Str × Value)} {binds : List (Str × Value)}
  {p : Program} {loose : List Str} {mean : ExcName → Option Value} {mg mb : Str → Option Value}
/-- a def without cells, entered: some objects of the caller's lie open -/
theorem enterL (X : K.In g) (T : Top p loose mean mg mb g) (st : g.StaysIn s.heap) (hl : ∀ q ∈ led, s.heap.get? q.1 = some q.2 ∧ g.get? q.1 = none) (hroom : A.depth < recursionLimit)
    (ho : K.lookup f = some ⟨oc, od, .func (fnOf name qual params body scope dV kV doc pm an cdv ct), osl⟩) (hcd : codeIn K cdv qual = true)
    (hbind : BindsTo s (fnOf name qual params body scope dV kV doc pm an cdv ct) ⟨pos, kw⟩ binds) (hloc : ∀ y ∈ binds, scope.names.lookup y.1 = some .local)
    (h : ∀ L h₁ tk, Fr (hideAll s.heap (led.map (·.1))) L h₁ (fun y => binds.reverse.lookup y) → News (hideAll s.heap (led.map (·.1))) L h₁ led → K.In (hideAll s.heap (led.map (·.1))) → Top p loose mean mg mb (hideAll s.heap (led.map (·.1))) → (∀ q ∈ led, q.1 < L) →
      wpAny (model prog w) (A.deeper (envX qual scope L f cdv [])) (execs body (envX qual scope L f cdv [])) (fun fl s' => Q (match fl with | .ret v => v | _ => .none) s') (fun _ _ => False) { s with heap := h₁, toks := tk })
    (hcell : ∀ x ∈ scope.names, x.2 ≠ .cell) (hco : scope.isCoroutine = false := by rfl) (hgen : scope.isGenerator = false := by rfl) (hk : scope.kind = .function := by rfl) :
    wpAny (model prog w) A (call (.ref f) pos kw) Q E s := by
  have X' := X.keeps st
  refine wpAny_call (codeAny_call_def (fd := fnOf name qual params body scope dV kV doc pm an cdv ct) (body := body) (binds := binds) hroom (X' _ _ ho) rfl (T.nolimit.keeps st) (codeRec_of X' hcd) rfl hbind hcell hloc (fun h₁ hns hk₁ => ?_) hco hgen hk)
  have hg : ∀ a ∈ led.map (·.1), g.get? a = none := fun a q => by
    obtain ⟨z, hz, rfl⟩ := List.mem_map.mp q
    exact (hl z hz).2
  have st' := stays_hideAll st hg
  refine wpAny_mono (h s.heap.objs.size h₁ _ ⟨hns, fun b ob e => hk₁ b ob (of_hideAll _ e), Nat.le_of_eq (hideAll_size _ _)⟩ (fun q hq => ⟨hk₁ _ _ (hl q hq).1, Nat.ne_of_lt (Heap.lt_size (hl q hq).1), hideAll_none _ (List.mem_map_of_mem hq)⟩)
    (X.keeps st') (T.keeps st') fun q hq => Heap.lt_size (hl q hq).1) (fun _ _ x => x) (fun _ _ x => x.elim)

/-- a def with cells, entered: some objects of the caller's lie open -/
theorem enterLC (X : K.In g) (T : Top p loose mean mg mb g) (st : g.StaysIn s.heap) (hl : ∀ q ∈ led, s.heap.get? q.1 = some q.2 ∧ g.get? q.1 = none) (hroom : A.depth < recursionLimit)
    (ho : K.lookup f = some ⟨oc, od, .func (fnOf name qual params body scope dV kV doc pm an cdv ct), osl⟩) (hcd : codeIn K cdv qual = true)
    (hbind : BindsTo s (fnOf name qual params body scope dV kV doc pm an cdv ct) ⟨pos, kw⟩ binds)
    (hkind : (binds.all fun y => scope.names.lookup y.1 == some .local || scope.names.lookup y.1 == some .cell) = true)
    (hnd : ((cellsFrom 0 scope.names []).map (·.1)).Nodup)
    (h : ∀ L h₁ tk cells, Fr (hideAll s.heap (led.map (·.1))) L h₁ (bindL (envOfC qual scope L f cdv).kindOf binds fun _ => none) → News (hideAll s.heap (led.map (·.1))) L h₁ (cells ++ led) →
      CellsAre (bindC (envOfC qual scope L f cdv).kindOf binds fun _ => none) (cellsFrom (L + 1) scope.names []) cells → K.In (hideAll s.heap (led.map (·.1))) → Top p loose mean mg mb (hideAll s.heap (led.map (·.1))) → (∀ q ∈ led, q.1 < L) →
      wpAny (model prog w) (A.deeper (envX qual scope L f cdv (cellsFrom (L + 1) scope.names []))) (execs body (envX qual scope L f cdv (cellsFrom (L + 1) scope.names []))) (fun fl s' => Q (match fl with | .ret v => v | _ => .none) s') (fun _ _ => False) { s with heap := h₁, toks := tk })
    (hco : scope.isCoroutine = false := by rfl) (hgen : scope.isGenerator = false := by rfl) (hk : scope.kind = .function := by rfl) :
    wpAny (model prog w) A (call (.ref f) pos kw) Q E s := by
  have X' := X.keeps st
  refine wpAny_call (codeAny_call_function hroom (X' _ _ ho) rfl hco hgen rfl (codeRec_of X' hcd) (hbind _ _ _ _ ?_))
  refine wpAny_newFunctionEnv_cells hk (kindsX hkind _) fun env' he s' x => ?_
  subst he
  refine ⟨(T.nolimit.keeps st).keeps x.toInCall.keep, codeAny_func ?_⟩
  obtain ⟨h₁, tk, rfl, _⟩ := x.done
  have hk₁ := x.toInCall.keep
  obtain ⟨cells, NC, Y⟩ := PyProof.Rows.Cl.news (h₀ := s.heap) (Nat.le_refl _) fun n c hm => ⟨x.cell n c (lookup_of_mem_nodup (cellsFrom_names scope.names 0 (s.heap.objs.size + 1) [] [] rfl ▸ hnd) hm), x.above n c hm⟩
  have hg : ∀ a ∈ led.map (·.1), g.get? a = none := fun a q => by
    obtain ⟨z, hz, rfl⟩ := List.mem_map.mp q
    exact (hl z hz).2
  have st' := stays_hideAll st hg
  refine wpAny_mono (h s.heap.objs.size h₁ tk cells ⟨x.toInCall.ns, fun b o e => hk₁ b o (of_hideAll _ e), Nat.le_of_eq (hideAll_size _ _)⟩ (fun q hq => ?_) Y (X.keeps st') (T.keeps st') fun q hq => Heap.lt_size (hl q hq).1) (fun _ _ x => x) (fun _ _ x => x.elim)
  rcases List.mem_append.mp hq with hq | hq
  · refine ⟨(NC q hq).1, (NC q hq).2.1, ?_⟩
    cases z : (hideAll s.heap (led.map (·.1))).get? q.1 with
    | none => rfl
    | some o => have := of_hideAll _ z; rw [(NC q hq).2.2] at this; cases this
  · exact ⟨hk₁ _ _ (hl q hq).1, Nat.ne_of_lt (Heap.lt_size (hl q hq).1), hideAll_none _ (List.mem_map_of_mem hq)⟩
end
end
section
open Builtin Builtin.ObjectAttr in
section
theorem fn_mro : mroOf (.type "function") = pure [.type "function", .type "object"] := by kernel_rfl
theorem fn_sa : Slot "function" "__setattr__" "object.__setattr__" := .of (owner := "object") (n := "__setattr__") (by rw [typeLookup_type, builtinLookup_eq_fast]; kernel_rfl) (by decide +kernel) (by decide +kernel) (by decide +kernel)
    (by first | exact .inl (by decide +kernel) | exact .inr (by decide +kernel)) (by rw [isSubtype_type]; kernel_rfl)
theorem fn_ga : Slot "function" "__getattribute__" "object.__getattribute__" := .of (owner := "object") (n := "__getattribute__") (by rw [typeLookup_type, builtinLookup_eq_fast]; kernel_rfl) (by decide +kernel) (by decide +kernel) (by decide +kernel)
    (by first | exact .inl (by decide +kernel) | exact .inr (by decide +kernel)) (by rw [isSubtype_type]; kernel_rfl)
theorem fn_entry_ga : entryFor table "object.__getattribute__" = some Builtin.«object.__getattribute__» := entryFor_of_tree (by kernel_rfl)
theorem fn_noread : typeLookup (.type "function") "read" = pure none := by rw [typeLookup_type, builtinLookup_eq_fast]; kernel_rfl
theorem fn_nogetattr : typeLookup (.type "function") "__getattr__" = pure none := by rw [typeLookup_type, builtinLookup_eq_fast]; kernel_rfl
theorem fn_pass (self : Value) : refuseLoop self "__setattr__" [.type "function", .type "object"] = pure () := by kernel_rfl

/-- a namespace object, wherever it lies -/
def DictIs (oD : Obj) (m : Str → Option Value) : Prop := ∀ (h : Heap) (d : Addr), h.get? d = some oD → h.Ns d m

variable {prog : Program} {w : World} {A : Around} {E : Value → Shared → Prop} {s : Shared}
theorem fn_store_entry {x : Addr} {o : Obj} {fd : FuncData} {v : Value} {tk : Tok} {Q : Fin → Shared → Prop} (hx : s.heap.get? x = some o) (hc : o.cls = .type "function") (hd : o.data = .func fd) (hn : o.dict = none)
    (h : ∀ h' tk d oD, s.heap.get? d = none → h'.get? d = some oD → DictIs oD (fun y => if y = "read" then some v else none) → h'.get? x = some { o with dict := some d } → (∀ b ob, b ≠ x → s.heap.get? b = some ob → h'.get? b = some ob) → Q (.done (.ret .none)) { s with heap := h', toks := tk }) :
    wpAny (model prog w) A (Builtin.«object.__setattr__» ⟨[.ref x, .str "read" tk, v], []⟩) Q E s := by
  obtain ⟨hh, gg, dd, t, os⟩ := s
  have hT : (⟨hh, gg, dd, t, os⟩ : Shared).TypeIs (.ref x) "function" := ⟨_, hx, hc⟩
  rw [PySem.W.osa_eq, refuse_eq]
  refine wpAny_bind (wpAny_bind (wpAny_typeOf hT (wpAny_bind (wpAny_of_eq fn_mro (wpAny_of_eq (fn_pass _) ?_)))))
  refine wpAny_bind (wpAny_typeOf hT (wpAny_bind (wpAny_of_eq fn_noread (wpAny_bind (wpAny_pure ?_)))))
  dsimp only
  unfold storeInOwnDict ownDictForStores instanceDict dictMade
  obtain ⟨oc, odt, oda, osl⟩ := o
  dsimp only at hc hd hn
  subst hc hd hn
  refine wpAny_bind (wpAny_pure ?_)
  refine wpAny_bind (wpAny_bind (wpAny_loadPart hx ?_))
  refine wpAny_bind (wpAny_alloc' ?_)
  have hx₁ : (hh.push { cls := .type "dict", data := .dict #[] }).get? x = some _ := Heap.get?_push_of_some _ hx
  have hxs : x ≠ hh.objs.size := Nat.ne_of_lt (Heap.lt_size hx)
  refine wpAny_bind (wpAny_update' hx₁ ?_)
  refine wpAny_pure ?_
  show wpAny _ _ (storeInDict hh.objs.size (.str "read" tk) "read" v) _ _ _
  have hgd : ((hh.push { cls := .type "dict", data := .dict #[] }).update x fun o => { cls := o.cls, dict := some hh.objs.size, data := o.data, slots := o.slots }).get? hh.objs.size
      = some { cls := .type "dict", data := .dict #[] } :=
    (Heap.get?_update_ne _ _ _ _ hxs.symm).trans (Heap.get?_push_at rfl rfl)
  have hnd : ((hh.push { cls := .type "dict", data := .dict #[] }).update x fun o => { cls := o.cls, dict := some hh.objs.size, data := o.data, slots := o.slots }).Ns hh.objs.size (fun _ => none) :=
    ⟨_, #[], _, hgd, rfl, fun e he => absurd he (by simp), fun _ => rfl⟩
  unfold storeInDict newKeyGuard
  refine wpAny_bind (wpAny_pure (wpAny_bind (wpAny_nsSet1 (Heap.Ns1.of_empty hnd) fun h' hn' hs => ?_)))
  obtain ⟨oD, esD, epD, hoD, hdD, hcD⟩ := hn'.count (Within.cons "read" v Within.nil)
  refine wpAny_bind (wpAny_lookBehind hoD (by rw [hdD]; exact pastItsLine_dict (Nat.le_trans hcD (by rw [List.length_cons, List.length_nil, sizeLine_eq]; omega))) ?_)
  refine wpAny_pure (h h' _ hh.objs.size oD (Heap.get?_none_of_le (Nat.le_refl _)) hoD ?_ ?_ fun b ob hb e => ?_)
  · obtain ⟨o', es, ep, e1, e2, e3, eu, e4⟩ := hn'
    rw [hoD] at e1; cases e1
    exact fun h d e => ⟨oD, es, ep, e, e2, e3, e4⟩
  · refine (hs.2 x hxs).trans (Heap.get?_update_self _ hx₁ ?_)
    rfl
  · exact (hs.2 b (Nat.ne_of_lt (Heap.lt_size e))).trans ((Heap.get?_update_ne _ _ _ _ hb).trans (Heap.get?_push_of_some _ e))

theorem fn_store {x : Addr} {o : Obj} {fd : FuncData} {v : Value} {Q : Unit → Shared → Prop} (hx : s.heap.get? x = some o) (hc : o.cls = .type "function") (hd : o.data = .func fd) (hn : o.dict = none)
    (h : ∀ h' tk d oD, s.heap.get? d = none → h'.get? d = some oD → DictIs oD (fun y => if y = "read" then some v else none) → h'.get? x = some { o with dict := some d } → (∀ b ob, b ≠ x → s.heap.get? b = some ob → h'.get? b = some ob) → Q () { s with heap := h', toks := tk }) :
    wpAny (model prog w) A (setAttr (.ref x) "read" v) Q E s := by
  obtain ⟨hh, gg, dd, t, os⟩ := s
  have hT : ∀ t', (⟨hh, gg, dd, t', os⟩ : Shared).TypeIs (.ref x) "function" := fun _ => ⟨_, hx, hc⟩
  unfold setAttr callSpecial?
  refine wpAny_bind (wpAny_mkText (wpAny_bind (wpAny_bind (wpAny_specialOf (hT _) fn_sa.lookup (wpAny_holding ?_)))))
  rw [fn_sa.bind]
  refine wpAny_bind (wpAny_pure (wpAny_bind ?_))
  refine wpAny_call_entry fn_sa (hT _) PySem.F.entry_object_sa (fn_store_entry hx hc hd hn ?_) (by unfold argsOk; kernel_rfl)
  intro h' tk d oD h1 h2 h3 h4 h5
  exact ⟨_, rfl, wpAny_pure (wpAny_pure (h h' tk d oD h1 h2 h3 h4 h5))⟩

/-- the same within a frame -/
theorem fn_storeN {h₀ : Heap} {L x : Addr} {m : Str → Option Value} {rest : List (Addr × Obj)} {o : Obj} {fd : FuncData} {v : Value} {Q : Unit → Shared → Prop} (F : Fr h₀ L s.heap m) (N : News h₀ L s.heap ((x, o) :: rest)) (hne : ∀ q ∈ rest, q.1 ≠ x)
    (hc : o.cls = .type "function") (hd : o.data = .func fd) (hn : o.dict = none)
    (h : ∀ h' tk d oD, DictIs oD (fun y => if y = "read" then some v else none) → (∀ q ∈ (x, o) :: rest, q.1 ≠ d) → Fr h₀ L h' m → News h₀ L h' ((d, oD) :: (x, { o with dict := some d }) :: rest) → Q () { s with heap := h', toks := tk }) :
    wpAny (model prog w) A (setAttr (.ref x) "read" v) Q E s := by
  obtain ⟨n1, n2, n3⟩ := N _ (.head _)
  refine fn_store n1 hc hd hn fun h' tk d oD h1 h2 h3 h4 h5 => h h' tk d oD h3 (fun q hq e => ?_) ⟨F.ns.at' fun ob e => h5 L ob n2.symm e, fun b ob e => h5 b ob (fun q => by rw [q] at e; rw [n3] at e; cases e) (F.keep b ob e), F.above⟩ fun q hq => ?_
  · have := (N q hq).1
    rw [e, h1] at this; cases this
  · rcases List.mem_cons.mp hq with rfl | hq
    · refine ⟨h2, fun e => ?_, ?_⟩
      · obtain ⟨ob, _, _, hob, _⟩ := F.ns
        rw [← e, h1] at hob; cases hob
      · cases z : h₀.get? d with
        | none => rfl
        | some ob => have := F.keep _ _ z; rw [h1] at this; cases this
    · rcases List.mem_cons.mp hq with rfl | hq
      · exact ⟨h4, n2, n3⟩
      · exact ⟨h5 _ _ (hne q hq) (N q (.tail _ hq)).1, (N q (.tail _ hq)).2⟩

theorem fn_get_entry {x d : Addr} {o oD : Obj} {fd : FuncData} {v : Value} {tk : Tok} {Q : Fin → Shared → Prop} (hx : s.heap.get? x = some o) (hc : o.cls = .type "function") (hd : o.data = .func fd) (hn : o.dict = some d)
    (hD : s.heap.get? d = some oD) (hI : DictIs oD (fun y => if y = "read" then some v else none)) (h : Q (.done (.ret v)) s) :
    wpAny (model prog w) A (Builtin.«object.__getattribute__» ⟨[.ref x, .str "read" tk], []⟩) Q E s := by
  have hT : s.TypeIs (.ref x) "function" := ⟨_, hx, hc⟩
  unfold Builtin.«object.__getattribute__»
  refine wpAny_bind (wpAny_of_eq (show slotArgs "__getattribute__" 1 ⟨[.ref x, .str "read" tk], []⟩ = pure (.ref x, [.str "read" tk]) by kernel_rfl) ?_)
  dsimp only
  refine wpAny_bind (wpAny_pure (wpAny_bind (wpAny_typeOf hT (wpAny_bind ?_))))
  unfold find
  refine wpAny_bind (wpAny_of_eq fn_noread (wpAny_bind (wpAny_pure (wpAny_bind (wpAny_pure ?_)))))
  dsimp only
  unfold ownThenClass
  obtain ⟨oc, odt, oda, osl⟩ := o
  dsimp only at hc hd hn
  subst hc hd hn
  refine wpAny_bind ?_
  unfold inOwnDict ObjectAttr.ownDict
  dsimp only
  refine wpAny_bind (wpAny_bind (wpAny_loadPart hx ?_))
  dsimp only
  unfold instanceDict
  refine wpAny_bind (wpAny_loadPart hx ?_)
  dsimp only
  refine wpAny_pure ?_
  show wpAny _ _ (nsGet d "read") _ _ _
  refine wpAny_nsGet (hI _ _ hD) ?_
  rw [if_pos rfl]
  exact wpAny_bind (wpAny_rule (wpAny_pure (wpAny_pure h)))

theorem fn_getAttr {x d : Addr} {o oD : Obj} {fd : FuncData} {v : Value} {expr : Bool} {Q : Value → Shared → Prop} (hx : s.heap.get? x = some o) (hc : o.cls = .type "function") (hd : o.data = .func fd) (hn : o.dict = some d)
    (hD : s.heap.get? d = some oD) (hI : DictIs oD (fun y => if y = "read" then some v else none)) (hh : handedOut v = pure v) (h : Q v { s with toks := s.toks + 1 }) :
    wpAny (model prog w) A (getAttr (.ref x) "read" expr) Q E s := by
  obtain ⟨hh', gg, dd, t, os⟩ := s
  have hT : ∀ t', (⟨hh', gg, dd, t', os⟩ : Shared).TypeIs (.ref x) "function" := fun _ => ⟨_, hx, hc⟩
  unfold getAttr getAttrBy
  refine wpAny_bind (wpAny_mkText (wpAny_holding (wpAny_bind (wpAny_typeOf (hT _) (wpAny_bind (wpAny_of_eq fn_ga.lookup ?_))))))
  show wpAny _ _ (getAttrByItsOwn (.ref x) (.str "read" t) (.type "function") (.builtin "object.__getattribute__") true expr) _ _ _
  unfold getAttrByItsOwn hookBefore callGetattribute boundAndCalled
  refine wpAny_bind (wpAny_of_eq (show (if onTheHeap (.type "function") then typeLookup (.type "function") "__getattr__" else pure none) = pure none from rfl) ?_)
  refine wpAny_bind (wpAny_attempt (wpAny_holding ?_))
  rw [show (expr && onTheHeap (.builtin "object.__getattribute__")) = false by cases expr <;> rfl, if_neg (by decide), fn_ga.bind]
  refine wpAny_bind (wpAny_pure ?_)
  refine wpAny_call_entry fn_ga (hT _) fn_entry_ga (fn_get_entry hx hc hd hn hD hI ?_) (by unfold argsOk; kernel_rfl)
  refine ⟨_, rfl, ?_⟩
  dsimp only
  rw [hh]
  exact wpAny_pure h

theorem fn_getMethod {x d : Addr} {o oD : Obj} {fd : FuncData} {v : Value} {pl : Sem Bool} {Q : Value × List Value → Shared → Prop} (hx : s.heap.get? x = some o) (hc : o.cls = .type "function") (hd : o.data = .func fd) (hn : o.dict = some d)
    (hD : s.heap.get? d = some oD) (hI : DictIs oD (fun y => if y = "read" then some v else none)) (hh : handedOut v = pure v) (h : Q (v, []) { s with toks := s.toks + 1 }) :
    wpAny (model prog w) A (getMethod (.ref x) "read" pl) Q E s := by
  obtain ⟨hh', gg, dd, t, os⟩ := s
  have hT : ∀ t', (⟨hh', gg, dd, t', os⟩ : Shared).TypeIs (.ref x) "function" := fun _ => ⟨_, hx, hc⟩
  unfold getMethod
  refine wpAny_bind (wpAny_specialOf (hT _) fn_ga.lookup ?_)
  show wpAny _ _ (if (Manifest.canonical "object.__getattribute__" != "object.__getattribute__") = true then _ else _) _ _ _
  rw [if_neg (by decide +kernel)]
  refine wpAny_bind (wpAny_specialOf (hT _) fn_nogetattr ?_)
  rw [if_neg (by decide)]
  refine wpAny_bind (wpAny_specialOf (hT _) fn_noread ?_)
  exact wpAny_bind (fn_getAttr hx hc hd hn hD hI hh (wpAny_pure h))
end
end
section
/-- a contract at the level of codes -/
def CtrK (w : World) (f : Addr) (vs : List Value) (kw : List (Str × Value)) (dd uu : Nat) (led : List (Addr × Obj)) (Pre : Heap → Prop) (R : Heap → Value → Heap → List (Addr × Obj) → Prop) : Prop :=
  ∀ (p : Program) (loose : List Str) (mean : ExcName → Option Value) (mg mb : Str → Option Value) (dp un : Nat) (gd : Option (List Code)) (fr : Option (List Env)) (g : Heap) (s : Shared) (Q : Result → Shared → Prop),
    (KK w).In g → Top p loose mean mg mb g → g.StaysIn s.heap → (∀ q ∈ led, s.heap.get? q.1 = some q.2 ∧ g.get? q.1 = none) → Pre s.heap → dp + dd < recursionLimit → un + uu < cLine →
    (∀ (v : Value) (h' : Heap) (tk' : Nat) (led' : List (Addr × Obj)), ButL (led.map (·.1)) s.heap h' → led'.map (·.1) = led.map (·.1) → (∀ q ∈ led', h'.get? q.1 = some q.2) → R s.heap v h' led' → Q (.ok (.ret v)) { s with heap := h', toks := tk' }) →
    codeAny (model prog w) (Cx dp un gd fr) (.call (.ref f) ⟨vs, kw⟩) Q s

theorem CtrK.toL {w : World} {f : Addr} {vs : List Value} {kw : List (Str × Value)} {dd uu : Nat} {led : List (Addr × Obj)} {Pre : Heap → Prop} {R : Heap → Value → Heap → List (Addr × Obj) → Prop} (C : CtrK w f vs kw dd uu led Pre R) : CtrL w f vs kw dd uu led Pre R :=
  fun p loose mean mg mb dp un gd fr g s _Q _E X T st hl hp hd hu h => wpAny_call (C p loose mean mg mb dp un gd fr g s _ X T st hl hp hd hu fun v h' tk' led' a b c d => h v h' tk' led' a b c d)

theorem CtrK.use {w : World} {f : Addr} {vs : List Value} {kw : List (Str × Value)} {dd uu : Nat} {led : List (Addr × Obj)} {Pre : Heap → Prop} {R : Heap → Value → Heap → List (Addr × Obj) → Prop} (C : CtrK w f vs kw dd uu led Pre R)
    {p : Program} {loose : List Str} {mean : ExcName → Option Value} {mg mb : Str → Option Value} {dp un : Nat} {gd : Option (List Code)} {fr : Option (List Env)} {s : Shared} {Q : Result → Shared → Prop} {h₀ : Heap} {L : Addr} {m : Str → Option Value} {news : List (Addr × Obj)}
    (F : Fr h₀ L s.heap m) (X : (KK w).In h₀) (N : News h₀ L s.heap (led ++ news)) (hne : ∀ q ∈ news, q.1 ∉ led.map (·.1)) (T : Top p loose mean mg mb h₀) (hp : Pre s.heap) (hd : dp + dd < recursionLimit) (hu : un + uu < cLine)
    (h : ∀ v h' tk' led', led'.map (·.1) = led.map (·.1) → Fr h₀ L h' m → News h₀ L h' (led' ++ news) → ButL (led.map (·.1)) s.heap h' → R s.heap v h' led' → Q (.ok (.ret v)) { s with heap := h', toks := tk' }) :
    codeAny (model prog w) (Cx dp un gd fr) (.call (.ref f) ⟨vs, kw⟩) Q s := by
  have hL : L ∉ led.map (·.1) := fun q => by
    obtain ⟨z, hz, e⟩ := List.mem_map.mp q
    exact (N z (List.mem_append_left _ hz)).2.1 e
  have hg : ∀ a ∈ led.map (·.1), h₀.get? a = none := fun a q => by
    obtain ⟨z, hz, rfl⟩ := List.mem_map.mp q
    exact (N z (List.mem_append_left _ hz)).2.2
  refine C p loose mean mg mb dp un gd fr h₀ s Q X T F.keep (fun q hq => ⟨(N q (List.mem_append_left _ hq)).1, (N q (List.mem_append_left _ hq)).2.2⟩) hp hd hu fun v h' tk' led' hb hled hg' hR => h v h' tk' led' hled ?_ ?_ hb hR
  · exact ⟨F.ns.at' fun ob e => hb L ob hL e, fun b ob e => hb b ob (fun q => by rw [hg b q] at e; cases e) (F.keep b ob e), F.above⟩
  · intro q hq
    rcases List.mem_append.mp hq with hq | hq
    · have hm : q.1 ∈ led.map (·.1) := hled ▸ List.mem_map_of_mem hq
      exact ⟨hg' q hq, fun e => hL (e ▸ hm), hg _ hm⟩
    · exact ⟨hb _ _ (hne q hq) (N q (List.mem_append_right _ hq)).1, (N q (List.mem_append_right _ hq)).2⟩

section
variable {prog : Program} {w : World} {A : Around} {s : Shared} {K : Frag} {Q : Result → Shared → Prop} {g : Heap} {led : List (Addr × Obj)}
  {name qual : Str} {params : Arguments} {body : List Stmt} {scope : Scope} {dV kV doc pm cdv ct oc : Value} {an od : Option Addr} {osl : Array (Option Value)} {f : Addr} {pos : List Value} {kw : List (Str × Value)} {binds : List (Str × Value)}
  {p : Program} {loose : List Str} {mean : ExcName → Option Value} {mg mb : Str → Option Value}
/-- a def without cells, entered at the level of codes -/
theorem enterK (X : K.In g) (T : Top p loose mean mg mb g) (st : g.StaysIn s.heap) (hl : ∀ q ∈ led, s.heap.get? q.1 = some q.2 ∧ g.get? q.1 = none) (hroom : A.depth < recursionLimit)
    (ho : K.lookup f = some ⟨oc, od, .func (fnOf name qual params body scope dV kV doc pm an cdv ct), osl⟩) (hcd : codeIn K cdv qual = true)
    (hbind : BindsTo s (fnOf name qual params body scope dV kV doc pm an cdv ct) ⟨pos, kw⟩ binds) (hloc : ∀ y ∈ binds, scope.names.lookup y.1 = some .local)
    (h : ∀ L h₁ tk, Fr (hideAll s.heap (led.map (·.1))) L h₁ (fun y => binds.reverse.lookup y) → News (hideAll s.heap (led.map (·.1))) L h₁ led → K.In (hideAll s.heap (led.map (·.1))) → Top p loose mean mg mb (hideAll s.heap (led.map (·.1))) → (∀ q ∈ led, q.1 < L) →
      wpAny (model prog w) (A.deeper (envX qual scope L f cdv [])) (execs body (envX qual scope L f cdv [])) (fun fl s' => Q (.ok (.ret (match fl with | .ret v => v | _ => .none))) s') (fun _ _ => False) { s with heap := h₁, toks := tk })
    (hcell : ∀ x ∈ scope.names, x.2 ≠ .cell) (hco : scope.isCoroutine = false := by rfl) (hgen : scope.isGenerator = false := by rfl) (hk : scope.kind = .function := by rfl) :
    codeAny (model prog w) A (.call (.ref f) ⟨pos, kw⟩) Q s := by
  have X' := X.keeps st
  refine codeAny_call_def (fd := fnOf name qual params body scope dV kV doc pm an cdv ct) (body := body) (binds := binds) hroom (X' _ _ ho) rfl (T.nolimit.keeps st) (codeRec_of X' hcd) rfl hbind hcell hloc (fun h₁ hns hk₁ => ?_) hco hgen hk
  have hg : ∀ a ∈ led.map (·.1), g.get? a = none := fun a q => by
    obtain ⟨z, hz, rfl⟩ := List.mem_map.mp q
    exact (hl z hz).2
  have st' := stays_hideAll st hg
  refine wpAny_mono (h s.heap.objs.size h₁ _ ⟨hns, fun b ob e => hk₁ b ob (of_hideAll _ e), Nat.le_of_eq (hideAll_size _ _)⟩ (fun q hq => ⟨hk₁ _ _ (hl q hq).1, Nat.ne_of_lt (Heap.lt_size (hl q hq).1), hideAll_none _ (List.mem_map_of_mem hq)⟩)
    (X.keeps st') (T.keeps st') fun q hq => Heap.lt_size (hl q hq).1) (fun _ _ x => x) (fun _ _ x => x.elim)
end
/-- the lexer's fields -/
abbrev lexD (w : World) (ln : Int) (fp pb : Addr) (ts : Nat → Tok) : List DictEntry :=
  [⟨PyData.keyHash w.params "lineno", .str "lineno" (ts 0), .int ln (ts 1)⟩, ⟨PyData.keyHash w.params "instream", .str "instream" (ts 2), .ref fp⟩,
   ⟨PyData.keyHash w.params "whitespace", .str "whitespace" (ts 3), .str "\n\t\x0d " (ts 4)⟩, ⟨PyData.keyHash w.params "pushback", .str "pushback" (ts 5), .ref pb⟩]
abbrev toks6 (a b c d e f : Tok) : Nat → Tok := fun i => match i with | 0 => a | 1 => b | 2 => c | 3 => d | 4 => e | _ => f
theorem hide_none_of {h : Heap} {as : List Addr} {a : Addr} (e : (hideAll h as).get? a = none) (ha : a ∉ as) : h.get? a = none := by
  cases q : h.get? a with
  | none => rfl
  | some o => rw [hideAll_get as q ha] at e; cases e
/-- a fresh object joins the ledger -/
theorem news_add {h₀ h h' : Heap} {L a : Addr} {o : Obj} {m m' : Str → Option Value} {news news' : List (Addr × Obj)} (F : Fr h₀ L h m) (e : h.get? a = none) (N' : News h₀ L h' news') (ho : h'.get? a = some o) : News h₀ L h' ((a, o) :: news') := by
  intro q hq
  rcases List.mem_cons.mp hq with rfl | hq
  · refine ⟨ho, fun q => ?_, ?_⟩
    · obtain ⟨ob, _, _, hob, _⟩ := F.ns
      dsimp only at q
      rw [← q, e] at hob; cases hob
    · cases z : h₀.get? a with
      | none => rfl
      | some ob => have := F.keep _ _ z; rw [e] at this; cases this
  · exact N' q hq
theorem news_ne {h₀ h : Heap} {L a : Addr} {news : List (Addr × Obj)} (N : News h₀ L h news) (e : h.get? a = none) : ∀ q ∈ news, q.1 ≠ a := fun q hq z => by
  have := (N q hq).1
  rw [z, e] at this; cases this

/-- what the stream's read does -/
def ReadSpec (w : World) (rf al : Addr) (text : List Nat) (base : List (Addr × Obj)) : Prop :=
  ∀ (pos n : Nat) (tv t : Tok), pos ≤ text.length →
    CtrL w rf [.int 1 t] [] 2 100 [(al, listOf #[.int pos tv] n)] (fun h => ∀ q ∈ base, h.get? q.1 = some q.2)
      (fun _ v h' led => ∃ u tv', v = .str (mk ((text.drop pos).take 1)) u ∧ led = [(al, listOf #[.int ((pos + ((text.drop pos).take 1).length : Nat) : Int) tv'] n)])
/-- what stands of a lexer's stream -/
def LexSpec (w : World) (fp al : Addr) (text : List Nat) (base : List (Addr × Obj)) : Prop :=
  ∃ rf oS d oD fd, (fp, oS) ∈ base ∧ (d, oD) ∈ base ∧ (∃ oR fR, (rf, oR) ∈ base ∧ oR.cls = .type "function" ∧ oR.data = .func fR) ∧ oS.cls = .type "function" ∧ oS.data = .func fd ∧ oS.dict = some d ∧ DictIs oD (fun y => if y = "read" then some (.ref rf) else none) ∧ ReadSpec w rf al text base
/-- the lexer's places lie apart -/
structure LexPts (x dx pb al : Addr) (base : List (Addr × Obj)) : Prop where
  xd : x ≠ dx
  xp : x ≠ pb
  xa : x ≠ al
  dp : dx ≠ pb
  da : dx ≠ al
  pa : pb ≠ al
  bx : ∀ q ∈ base, q.1 ≠ x
  bd : ∀ q ∈ base, q.1 ≠ dx
  bp : ∀ q ∈ base, q.1 ≠ pb
  ba : ∀ q ∈ base, q.1 ≠ al
/-- the entries of a ledger that stay as they are -/
theorem mach_sel {h₀ h : Heap} {L : Addr} {a1 a2 a3 a4 a5 a6 a7 a8 a9 a10 a11 : Addr × Obj} (N : News h₀ L h [a1, a2, a3, a4, a5, a6, a7, a8, a9, a10, a11]) :
    ∃ base : List (Addr × Obj), (∀ q ∈ base, h.get? q.1 = some q.2 ∧ h₀.get? q.1 = none) ∧ a3 ∈ base ∧ a4 ∈ base ∧ a7 ∈ base ∧ a6 ∈ base ∧ a9 ∈ base ∧ a10 ∈ base ∧ ∀ q ∈ base, q.1 = a3.1 ∨ q.1 = a4.1 ∨ q.1 = a5.1 ∨ q.1 = a6.1 ∨ q.1 = a7.1 ∨ q.1 = a9.1 ∨ q.1 = a10.1 := by
  refine ⟨[a3, a4, a5, a6, a7, a9, a10], fun q hq => ?_, by simp, by simp, by simp, by simp, by simp, by simp, fun q hq => ?_⟩
  · have : q ∈ [a1, a2, a3, a4, a5, a6, a7, a8, a9, a10, a11] := by
      simp only [List.mem_cons, List.not_mem_nil, or_false] at hq ⊢
      rcases hq with e | e | e | e | e | e | e <;> simp [e]
    exact ⟨(N q this).1, (N q this).2.2⟩
  · simp only [List.mem_cons, List.not_mem_nil, or_false] at hq
    rcases hq with e | e | e | e | e | e | e <;> simp [e]
section
variable {prog : Program} {w : World} {A : Around} {E : Value → Shared → Prop} {s : Shared} {K : Frag} {Q : Value → Shared → Prop} {g : Heap} {led : List (Addr × Obj)}
  {name qual : Str} {params : Arguments} {body : List Stmt} {scope : Scope} {cl : List (Str × Addr)} {doc pm ctv : Value} {c' f : Addr} {pos : List Value} {kw : List (Str × Value)} {binds : List (Str × Value)}
  {p : Program} {loose : List Str} {mean : ExcName → Option Value} {mg mb : Str → Option Value}
/-- a def made at run time, entered: some objects of the caller's lie open -/
theorem enterLF (X : K.In g) (T : Top p loose mean mg mb g) (st : g.StaysIn s.heap) (hl : ∀ q ∈ led, s.heap.get? q.1 = some q.2 ∧ g.get? q.1 = none) (hroom : A.depth < recursionLimit)
    (ho : s.heap.get? f = some (fnMade name qual params body scope cl doc pm c' ctv)) (hcd : s.heap.CodeRec (.ref c') qual)
    (hbind : BindsTo s (fnX name qual params body scope cl .none .none doc pm none (.ref c') ctv) ⟨pos, kw⟩ binds) (hloc : ∀ y ∈ binds, scope.names.lookup y.1 = some .local)
    (h : ∀ L h₁ tk, Fr (hideAll s.heap (led.map (·.1))) L h₁ (fun y => binds.reverse.lookup y) → News (hideAll s.heap (led.map (·.1))) L h₁ led → K.In (hideAll s.heap (led.map (·.1))) → Top p loose mean mg mb (hideAll s.heap (led.map (·.1))) → (∀ q ∈ led, q.1 < L) →
      wpAny (model prog w) (A.deeper (envX qual scope L f (.ref c') cl)) (execs body (envX qual scope L f (.ref c') cl)) (fun fl s' => Q (match fl with | .ret v => v | _ => .none) s') (fun _ _ => False) { s with heap := h₁, toks := tk })
    (hcell : ∀ x ∈ scope.names, x.2 ≠ .cell) (hco : scope.isCoroutine = false := by rfl) (hgen : scope.isGenerator = false := by rfl) (hk : scope.kind = .function := by rfl) :
    wpAny (model prog w) A (call (.ref f) pos kw) Q E s := by
  refine wpAny_call (codeAny_call_def (fd := fnX name qual params body scope cl .none .none doc pm none (.ref c') ctv) (body := body) (binds := binds) hroom ho rfl (T.nolimit.keeps st) hcd rfl hbind hcell hloc (fun h₁ hns hk₁ => ?_) hco hgen hk)
  have hg : ∀ a ∈ led.map (·.1), g.get? a = none := fun a q => by
    obtain ⟨z, hz, rfl⟩ := List.mem_map.mp q
    exact (hl z hz).2
  have st' := stays_hideAll st hg
  refine wpAny_mono (h s.heap.objs.size h₁ _ ⟨hns, fun b ob e => hk₁ b ob (of_hideAll _ e), Nat.le_of_eq (hideAll_size _ _)⟩ (fun q hq => ⟨hk₁ _ _ (hl q hq).1, Nat.ne_of_lt (Heap.lt_size (hl q hq).1), hideAll_none _ (List.mem_map_of_mem hq)⟩)
    (X.keeps st') (T.keeps st') fun q hq => Heap.lt_size (hl q hq).1) (fun _ _ x => x) (fun _ _ x => x.elim)
end
theorem not_in258 {a b : Addr} (h : @LT.lt Nat _ b a) : a ∉ [b] := fun q => absurd (List.mem_singleton.mp q) (Nat.ne_of_gt h)
theorem fr_none {h₀ h : Heap} {L a : Addr} {m : Str → Option Value} (F : Fr h₀ L h m) (e : h.get? a = none) : h₀.get? a = none := by
  cases z : h₀.get? a with
  | none => rfl
  | some ob => have := F.keep _ _ z; rw [e] at this; cases this
end
section
open Builtin Builtin.Str in
theorem slice_idx (n p : Nat) (h : p ≤ n) : strSliceIndices (some (p : Int)) (some ((p : Int) + 1)) 1 n = if p < n then [p] else [] := by
  have a1 : ¬ (p : Int) < 0 := by omega
  have a2 : ¬ ((p : Int) + 1) < 0 := by omega
  unfold strSliceIndices sliceRange
  simp only [show (1 : Int) > 0 by decide, if_true, a1, a2, if_false]
  by_cases hp : p < n
  · rw [if_pos hp]
    have e1 : max (0 : Int) (min (p : Int) (n : Int)) = p := by omega
    have e2 : max (0 : Int) (min ((p : Int) + 1) (n : Int)) = p + 1 := by omega
    rw [e1, e2]
    rw [if_pos (by omega)]
    simp
  · rw [if_neg hp]
    have e1 : max (0 : Int) (min (p : Int) (n : Int)) = p := by omega
    have e2 : max (0 : Int) (min ((p : Int) + 1) (n : Int)) = p := by omega
    rw [e1, e2]
    simp
theorem slice_mk (xs : List Nat) (p : Nat) (h : p ≤ xs.length) : Txt.slice (mk xs) (some (p : Int)) (some ((p : Int) + 1)) = mk ((xs.drop p).take 1) := by
  unfold Txt.slice
  rw [mk_len, slice_idx _ _ h]
  by_cases hp : p < xs.length
  · rw [if_pos hp]
    have e : (xs.drop p).take 1 = [xs[p]] := by
      rw [List.drop_eq_getElem_cons hp]
      rfl
    rw [e]
    split
    · rename_i hc
      simp only [List.length_cons, List.length_nil, Nat.zero_add, BEq.rfl, Bool.true_and, beq_iff_eq] at hc
      have : p = 0 := by omega
      subst this
      match xs, hc with
      | [x], _ => rfl
    · simp [mk, hp]
  · rw [if_neg hp, List.drop_eq_nil_of_le (by omega)]
    split
    · rename_i hc
      simp at hc
      rw [List.length_eq_zero_iff.mp hc.symm]; rfl
    · rfl
section
variable {prog : Program} {w : World} {A : Around} {E : Value → Shared → Prop} {s : Shared} {Q : Value → Shared → Prop} {value slice : Expr} {h₀ : Heap} {L : Addr} {m : Str → Option Value} {news : List (Addr × Obj)} {t : Tok}
theorem cut_one {i j : Int} {ui uj : Tok} {xs : List Nat} {p : Nat} (hF : Fr h₀ L s.heap m) (hN : News h₀ L s.heap news) (hi : i = (p : Int)) (hj : j = (p : Int) + 1) (hp : p ≤ xs.length) (hx : xs.length ≤ 100000)
    (h : ∀ h' t' k, Fr h₀ L h' m → News h₀ L h' news → Q (.str (mk ((xs.drop p).take 1)) t') { s with heap := h', toks := k })
    (hs : subscripted slice false (.str (mk xs) t) (.ref s.heap.objs.size) = operate [.ref s.heap.objs.size, .str (mk xs) t] (getItem (.str (mk xs) t) (.ref s.heap.objs.size)))
    (ht : ∀ r, letTemporaryGo value (.str (mk xs) t) r = pure ()) :
    wpAny (model prog w) A (subscriptTail value slice (.str (mk xs) t) (.ref s.heap.objs.size)) Q E { s with heap := s.heap.push { cls := .type "slice", data := .fields #[.int i ui, .int j uj, .none] } } := by
  subst hi hj
  exact slice_strN_ss hF hN (fun h' t' k a b => slice_mk xs p hp ▸ h h' t' k a b) hs ht (by rw [mk_len, sizeLine_eq]; omega)
end
section
variable {prog : Program} {w : World} {A : Around} {E : Value → Shared → Prop} {s : Shared}
theorem len_mk {xs : List Nat} {t : Tok} {Q : Value → Shared → Prop} (hx : xs.length ≤ 1000000) (h : Q (.int (xs.length : Int) (s.toks + 1)) { s with toks := s.toks + 1 + 1 }) : wpAny (model prog w) A (call (.builtin "len") [.str (mk xs) t]) Q E s :=
  SBL.len (by rw [mk_len]; omega) (by rw [mk_len]; exact h)
theorem truthy_mk {xs : List Nat} {t : Tok} {Q : Bool → Shared → Prop} (hx : xs.length ≤ 1000000) (h : Q (decide (xs ≠ [])) { s with toks := s.toks + 1 + 1 }) : wpAny (model prog w) A (PySem.truthy (.str (mk xs) t)) Q E s := by
  refine SBL.truthy (by rw [mk_len]; omega) ?_
  rw [mk_len]
  have e : ((xs.length : Int) != 0) = decide (xs ≠ []) := by cases xs <;> simp <;> omega
  rw [e]; exact h
end
end
section
open Builtin in
section
theorem wpAny_callBorrowed {M : Model} {A : Around} {E : Value → Shared → Prop} {s : Shared} {f : Value} {pos : List Value} {Q : Value → Shared → Prop}
    (hc : codeAny M A (.call f ⟨pos, []⟩) (fun r s' => match r with | .ok (.ret v) => Q v s' | .ok _ => False | .error e => E e s') s) : wpAny M A (callBorrowed f pos) Q E s := fun Γ p hΓ => by
  unfold callBorrowed
  rw [Sem.wp_call]
  refine wpCode_mono (fun r s' h => ?_) (hc _ p rfl (hΓ.enter _ none p (by intro x; cases x)))
  rcases r with e | (v | _ | _ | _) <;> first | exact h | exact h.elim

theorem slot_ci_next : Slot "callable_iterator" "__next__" "callable_iterator.__next__" := .of (owner := "callable_iterator") (n := "__next__") (by rw [typeLookup_type, builtinLookup_eq_fast]; kernel_rfl) (by decide +kernel) (by decide +kernel) (by decide +kernel)
    (by first | exact .inl (by decide +kernel) | exact .inr (by decide +kernel)) (by rw [isSubtype_type]; kernel_rfl)
theorem entry_ci_next : entryFor table "callable_iterator.__next__" = some Builtin.«callable_iterator.__next__» := entryFor_of_tree (by kernel_rfl)
theorem slot_ci_iter : Slot "callable_iterator" "__iter__" "callable_iterator.__iter__" := .of (owner := "callable_iterator") (n := "__iter__") (by rw [typeLookup_type, builtinLookup_eq_fast]; kernel_rfl) (by decide +kernel) (by decide +kernel) (by decide +kernel)
    (by first | exact .inl (by decide +kernel) | exact .inr (by decide +kernel)) (by rw [isSubtype_type]; kernel_rfl)
theorem entry_ci_iter : entryFor table "callable_iterator.__iter__" = some Builtin.«dict_keyiterator.__iter__» :=
  entryFor_alias (id' := "dict_keyiterator.__iter__") (by kernel_rfl) rfl (by decide +kernel) (by kernel_rfl)

abbrev ciObj (M : Addr) (e : Value) (b : Bool) : Obj := { cls := .type "callable_iterator", data := .fields #[.ref M, e, .bool b] }
abbrev ciEnd : Obj := { cls := .type "callable_iterator", data := .fields #[.none, .none, .bool true] }

variable {prog : Program} {w : World} {A : Around} {E : Value → Shared → Prop} {s : Shared}
theorem ci_iter {I : Addr} {o : Obj} {Q : Value → Shared → Prop} (hI : s.heap.get? I = some o) (hc : o.cls = .type "callable_iterator") (h : Q (.ref I) s) : wpAny (model prog w) A (pyIter (.ref I)) Q E s := by
  have hT : s.TypeIs (.ref I) "callable_iterator" := ⟨_, hI, hc⟩
  refine wpAny_pyIter_slot hT slot_ci_iter (wpAny_call_entry slot_ci_iter hT entry_ci_iter ?_ (by unfold argsOk; kernel_rfl))
  show wpAny _ _ (ret (.ref I)) _ _ s
  exact wpAny_pure ⟨_, rfl, "callable_iterator", _, hT, slot_ci_next.lookup, h⟩

/-- such an iterator's step -/
theorem ci_next {I M f : Addr} {self : Value} {te : Tok} {Q : Option Value → Shared → Prop} (hh : A.handled = none) (hI : s.heap.get? I = some (ciObj M (.str (mk []) te) false)) (hM : s.heap.get? M = some (PySem.W.methodObj (.ref f) self)) (hF : PySem.W.FnAt f s.heap)
    (h : codeAny (model prog w) A.in1 (.call (.ref f) ⟨[self], []⟩) (fun r s₁ => ∃ cs u, r = .ok (.ret (.str (mk cs) u)) ∧ s₁.heap.get? I = some (ciObj M (.str (mk []) te) false) ∧ s₁.heap.get? M = some (PySem.W.methodObj (.ref f) self) ∧ PySem.W.FnAt f s₁.heap ∧
        (cs ≠ [] → Q (some (.str (mk cs) u)) s₁) ∧ (cs = [] → ∀ h' tk, h'.get? I = some ciEnd → (∀ b o, b ≠ I → s₁.heap.get? b = some o → h'.get? b = some o) → Q none { s₁ with heap := h', toks := tk })) s) :
    wpAny (model prog w) A (pyNext (.ref I)) Q E s := by
  have hT : s.TypeIs (.ref I) "callable_iterator" := ⟨_, hI, rfl⟩
  unfold pyNext
  refine wpAny_bind (wpAny_attempt (wpAny_callSpecial?_slot (name := Str.ofString "__next__") hT slot_ci_next
    (wpAny_call_entry slot_ci_next hT entry_ci_next ?_ (by unfold argsOk; kernel_rfl))))
  show wpAny _ _ (field (.ref I) 2 >>= _) _ _ _
  refine wpAny_bind (wpAny_field hI rfl (x := .bool false) rfl ?_)
  rw [if_neg (by decide)]
  refine wpAny_bind (wpAny_field hI rfl (x := .ref M) rfl ?_)
  have hb : ∀ (A : Around) (E : Value → Shared → Prop) (s : Shared) (Q : Bool → Shared → Prop), s.heap.get? M = some (PySem.W.methodObj (.ref f) self) → PySem.W.FnAt f s.heap → Q true s → wpAny (model prog w) A (borrowsExactly (.ref M)) Q E s := by
    intro A E s Q h1 h2 h3
    obtain ⟨oc, od, fd, sl, hf⟩ := h2
    unfold borrowsExactly
    refine wpAny_bind (wpAny_load h1 ?_)
    show wpAny _ _ (load f >>= _) _ _ _
    exact wpAny_bind (wpAny_load hf (wpAny_pure h3))
  refine wpAny_bind (wpAny_attempt ?_)
  unfold callOutOfASlot
  refine wpAny_bind (hb _ _ _ _ hM hF ?_)
  rw [if_pos rfl]
  refine wpAny_callBorrowed (PySem.W.method_call hM (codeAny_mono h fun r s₁ hr => ?_))
  obtain ⟨cs, u, rfl, hI1, hM1, hF1, hq1, hq2⟩ := hr
  dsimp only
  refine wpAny_bind (wpAny_field hI1 rfl (x := .bool false) rfl ?_)
  rw [if_neg (by decide)]
  refine wpAny_bind (wpAny_field hI1 rfl (x := .str (mk []) te) rfl ?_)
  refine wpAny_bind (wpAny_holding (eqBool_str ?_))
  by_cases hc : cs = []
  · subst hc
    rw [if_neg (by simp)]
    refine wpAny_bind (wpAny_rule (wpAny_bind ?_))
    show wpAny _ _ (field (.ref I) 0 >>= _) _ _ _
    refine wpAny_bind (wpAny_field hI1 rfl (x := .ref M) rfl ?_)
    refine wpAny_bind ?_
    unfold slotLetsGo
    refine wpAny_bind (hb _ _ _ _ hM1 hF1 ?_)
    rw [if_pos rfl]
    refine wpAny_pure ?_
    refine wpAny_bind (wpAny_setField hI1 rfl (by simp) ?_)
    have u1 := Heap.get?_update_self (f := Obj.mapFields (·.setIfInBounds 0 .none)) hI1 rfl
    refine wpAny_bind (wpAny_setField u1 rfl (by simp [Obj.mapFields]) ?_)
    have u2 := Heap.get?_update_self (f := Obj.mapFields (·.setIfInBounds 1 .none)) u1 rfl
    refine wpAny_setField u2 rfl (by simp [Obj.mapFields]) ?_
    have u3 := Heap.get?_update_self (f := Obj.mapFields (·.setIfInBounds 2 (.bool true))) u2 rfl
    unfold SmallTypes.stopIteration
    refine wpAny_bind ?_
    simp only [newExc, newTuple]
    refine wpAny_bind (wpAny_newObj_type ?_ (by size_fits))
    refine wpAny_bind (m := firstArgMember _ _) (wpAny_of_eq (a := Value.none) (by first | rfl | (simp only [firstArgMember]; rfl)) ?_)
    refine wpAny_newObj_type ?_ (by size_fits)
    simp only [raiseNew]
    refine wpAny_bind (wpAny_handled ?_)
    first | rw [show A.in1.handled = none from hh] | rw [hh]
    refine wpAny_bind (wpAny_pure (wpAny_throw ?_))
    refine wpAny_bind (wpAny_isInstance (T := "StopIteration") (b := true) ⟨_, Heap.get?_push_size _ rfl, rfl⟩ isSubtype_stop ?_)
    refine wpAny_pure (hq2 rfl _ _ (Heap.get?_push_of_some _ (Heap.get?_push_of_some _ u3)) fun b o hb e => Heap.get?_push_of_some _ (Heap.get?_push_of_some _ ?_))
    rw [Heap.get?_update_ne _ _ _ _ hb, Heap.get?_update_ne _ _ _ _ hb, Heap.get?_update_ne _ _ _ _ hb]
    exact e
  · rw [if_pos (by
      have : ((mk [] : Str) == mk cs) = false := by
        rw [beq_eq_false_iff_ne]
        exact fun e => hc (mk_inj e).symm
      rw [this]; rfl)]
    exact wpAny_pure ⟨_, rfl, wpAny_pure (hq1 hc)⟩
end
section
open Builtin
variable {prog : Program} {w : World} {A : Around} {E : Value → Shared → Prop} {s : Shared}
theorem method_call_slot : typeLookup (.type "method") "__call__" = pure (some (.builtin "method.__call__")) := by rw [typeLookup_type, builtinLookup_eq_fast]; kernel_rfl
theorem ci_args (a b : Value) : argsOk "iter" ⟨[a, b], []⟩ := by unfold argsOk; kernel_rfl
theorem ci_make {M : Addr} {f self e : Value} {Q : Value → Shared → Prop} {h₀ : Heap} {L : Addr} {m : Str → Option Value} {news : List (Addr × Obj)} (F : Fr h₀ L s.heap m) (N : News h₀ L s.heap news) (hM : s.heap.get? M = some (PySem.W.methodObj f self))
    (h : ∀ I h' tk, (∀ q ∈ news, @LT.lt Nat _ q.1 I) → Fr h₀ L h' m → News h₀ L h' ((I, ciObj M e false) :: news) → Q (.ref I) { s with heap := h', toks := tk }) :
    wpAny (model prog w) A (call (.builtin "iter") [.ref M, e]) Q E s := by
  have hr := method_call_slot
  refine call_function_entry (by decide +kernel) (by decide +kernel) PySem.W.kdk_entry_iter (ci_args _ _) ?_
  unfold Builtin.«iter»
  refine wpAny_bind (m := someArgs "iter" 1 2 _) (wpAny_of_eq (a := [Value.ref M, e]) (by first | rfl | kernel_rfl!) ?_)
  dsimp only
  refine wpAny_bind (wpAny_specialOf (T := "method") ⟨_, hM, rfl⟩ hr ?_)
  rw [if_neg (by simp)]
  refine wpAny_bind (wpAny_rule (wpAny_bind ?_))
  unfold newFields
  refine wpAny_newObj_type ?_ (by size_fits)
  exact wpAny_pure ⟨_, rfl, h _ _ _ (fun q hq => Heap.lt_size (N q hq).1) (F.push _) (News.push F N _ rfl)⟩
end
end
section
def isWs (c : Nat) : Bool := c == 10 || c == 9 || c == 13 || c == 32
def stops (q : Bool) (c : Nat) : Bool := if q then c == 34 else isWs c
/-- a token under way: q in quotes -/
def lexT (q : Bool) (acc : List Nat) : List Nat → Option (List Nat × List Nat)
  | [] => none
  | [c] => if stops q c then some (acc, []) else none
  | c :: d :: r => if stops q c then some (acc, d :: r) else if c == 92 then lexT q (acc ++ [d]) r else lexT q (acc ++ [c]) (d :: r)
theorem lexT_cons (q : Bool) (acc : List Nat) (c : Nat) (r : List Nat) {z : List Nat × List Nat} (h : lexT q acc (c :: r) = some z) :
    (stops q c = true ∧ z = (acc, r)) ∨ (stops q c = false ∧ c = 92 ∧ ∃ d r', r = d :: r' ∧ lexT q (acc ++ [d]) r' = some z) ∨ (stops q c = false ∧ c ≠ 92 ∧ lexT q (acc ++ [c]) r = some z) := by
  cases r with
  | nil =>
    rw [lexT] at h
    by_cases hq : stops q c = true
    · rw [if_pos hq] at h
      exact .inl ⟨hq, by cases h; rfl⟩
    · rw [if_neg hq] at h; cases h
  | cons d r =>
    rw [lexT] at h
    by_cases hq : stops q c = true
    · rw [if_pos hq] at h
      exact .inl ⟨hq, by cases h; rfl⟩
    · rw [if_neg hq] at h
      have hq' := Bool.eq_false_iff.mpr hq
      by_cases hc : c = 92
      · rw [if_pos (by simp [hc])] at h
        exact .inr (.inl ⟨hq', hc, d, r, rfl, h⟩)
      · rw [if_neg (by simp [hc])] at h
        exact .inr (.inr ⟨hq', hc, h⟩)
theorem lexT_nil (q : Bool) (acc : List Nat) : lexT q acc [] = none := rfl
def lexS : List Nat → Option (List Nat × List Nat)
  | [] => some ([], [])
  | [c] => if isWs c then some ([], []) else none
  | c :: d :: r => if isWs c then lexS (d :: r) else if c == 34 then lexT true [] (d :: r) else if c == 92 then lexT false [d] r else lexT false [c] (d :: r)
theorem lexS_nil : lexS [] = some ([], []) := rfl
theorem lexS_cons (c : Nat) (r : List Nat) {z : List Nat × List Nat} (h : lexS (c :: r) = some z) :
    (isWs c = true ∧ lexS r = some z) ∨ (isWs c = false ∧ c = 34 ∧ lexT true [] r = some z) ∨ (isWs c = false ∧ c = 92 ∧ ∃ d r', r = d :: r' ∧ lexT false [d] r' = some z) ∨ (isWs c = false ∧ c ≠ 34 ∧ c ≠ 92 ∧ lexT false [c] r = some z) := by
  cases r with
  | nil =>
    rw [lexS] at h
    by_cases hw : isWs c = true
    · rw [if_pos hw] at h; exact .inl ⟨hw, h⟩
    · rw [if_neg hw] at h; cases h
  | cons d r =>
    rw [lexS] at h
    by_cases hw : isWs c = true
    · rw [if_pos hw] at h; exact .inl ⟨hw, h⟩
    · rw [if_neg hw] at h
      have hw' := Bool.eq_false_iff.mpr hw
      by_cases h34 : c = 34
      · rw [if_pos (by simp [h34])] at h; exact .inr (.inl ⟨hw', h34, h⟩)
      · rw [if_neg (by simp [h34])] at h
        by_cases h92 : c = 92
        · rw [if_pos (by simp [h92])] at h
          exact .inr (.inr (.inl ⟨hw', h92, d, r, rfl, h⟩))
        · rw [if_neg (by simp [h92])] at h; exact .inr (.inr (.inr ⟨hw', h34, h92, h⟩))
end
section
open Builtin Builtin.Str in
section
theorem subAt_one (xs : List Nat) (c i : Nat) : subAt (mk xs) (mk [c]) i = decide (xs[i]? = some c) := by
  unfold subAt
  rw [mk_len]
  simp only [mk_cps, List.length_cons, List.length_nil, Nat.zero_add]
  by_cases hi : i < xs.length
  · rw [List.getElem?_eq_getElem hi]
    have : (xs.toArray.extract i (i + 1)) = #[xs[i]] := by
      apply Array.ext
      · simp; omega
      · intro j h1 h2
        simp at h2
        subst h2
        simp
    rw [this]
    by_cases e : xs[i] = c <;> simp [e]
  · rw [List.getElem?_eq_none (by omega)]
    have : (xs.toArray.extract i (i + 1)) = #[] := by
      apply Array.ext
      · simp; omega
      · intro j h1 h2; simp at h2
    rw [this]
    rfl
theorem occ_loop (xs : List Nat) (c limit : Nat) : ∀ (k a : Nat) (f : Array Nat) (fr : Nat), fr ≤ a → f.size ≤ limit →
    ((forIn (m := Id) (List.range' a k) (f, fr) fun i (s : Array Nat × Nat) => if (decide (s.fst.size < limit) && decide (s.snd ≤ i) && decide (i + 1 ≤ xs.length) && decide (xs[i]? = some c)) = true then pure (ForInStep.yield (s.fst.push i, i + 1)) else pure (ForInStep.yield (s.fst, s.snd))).run).1.toList
      = f.toList ++ ((List.range' a k).filter fun i => decide (xs[i]? = some c)).take (limit - f.size)
  | 0, a, f, fr, _, _ => by simp
  | k + 1, a, f, fr, h1, h2 => by
    rw [List.range'_succ]
    simp only [List.forIn_cons, List.filter_cons]
    by_cases hc : xs[a]? = some c
    · have hlt : a < xs.length := by
        rcases Nat.lt_or_ge a xs.length with h | h
        · exact h
        · rw [List.getElem?_eq_none h] at hc; cases hc
      by_cases hs : f.size < limit
      · have ih := occ_loop xs c limit k (a + 1) (f.push a) (a + 1) (Nat.le_refl _) (by rw [Array.size_push]; omega)
        have e : (decide (f.size < limit) && decide (fr ≤ a) && decide (a + 1 ≤ xs.length) && decide (xs[a]? = some c)) = true := by
          simp only [hs, h1, hc, decide_true, Bool.and_self, Bool.and_true]
          simp; omega
        rw [if_pos e]
        simp only [hc, decide_true, if_true]
        refine Eq.trans ih ?_
        rw [Array.toList_push, List.append_assoc, Array.size_push, show limit - f.size = (limit - (f.size + 1)) + 1 by omega, List.take_succ_cons]
        rfl
      · have ih := occ_loop xs c limit k (a + 1) f fr (Nat.le_succ_of_le h1) h2
        have e : ¬ (decide (f.size < limit) && decide (fr ≤ a) && decide (a + 1 ≤ xs.length) && decide (xs[a]? = some c)) = true := by simp [hs]
        rw [if_neg e]
        refine Eq.trans ih ?_
        rw [show limit - f.size = 0 by omega]
        simp
    · have ih := occ_loop xs c limit k (a + 1) f fr (Nat.le_succ_of_le h1) h2
      have e : ¬ (decide (f.size < limit) && decide (fr ≤ a) && decide (a + 1 ≤ xs.length) && decide (xs[a]? = some c)) = true := by simp [hc]
      rw [if_neg e]
      refine Eq.trans ih ?_
      simp [hc]
theorem occ_one (xs : List Nat) (c limit : Nat) : occurrences (mk xs) (mk [c]) 0 xs.length limit = ((List.range xs.length).filter fun i => decide (xs[i]? = some c)).take limit := by
  unfold occurrences
  simp only [Std.Legacy.Range.forIn_eq_forIn_range', subAt_one, mk_len, List.length_cons, List.length_nil, Nat.zero_add]
  have hs : ([:xs.length + 1] : Std.Legacy.Range).size = xs.length + 1 := by simp [Std.Legacy.Range.size]
  rw [hs]
  have h := occ_loop xs c limit (xs.length + 1) 0 #[] 0 (Nat.le_refl _) (Nat.zero_le _)
  refine Eq.trans h ?_
  rw [List.range'_eq_map_range, List.range_succ]
  simp
theorem filter_pos (xs : List Nat) (c : Nat) : ((List.range xs.length).filter fun i => decide (xs[i]? = some c)).length = xs.count c := by
  induction xs with
  | nil => rfl
  | cons a r ih =>
    rw [List.length_cons, List.range_succ_eq_map, List.filter_cons, List.filter_map, List.count_cons]
    have e : (List.filter ((fun i => decide ((a :: r)[i]? = some c)) ∘ Nat.succ) (List.range r.length)) = List.filter (fun i => decide (r[i]? = some c)) (List.range r.length) := by
      apply List.filter_congr
      intro i _
      simp
    rw [e]
    by_cases hc : a = c
    · simp [hc, ih]
    · simp [hc, ih]
theorem contains_one (xs : List Nat) (c : Nat) : Txt.contains (mk xs) (mk [c]) = decide (c ∈ xs) := by
  show (!(occurrences (mk xs) (mk [c]) 0 (mk xs).length 1).isEmpty) = _
  rw [mk_len, occ_one]
  have h := filter_pos xs c
  have h2 : 0 < xs.count c ↔ c ∈ xs := List.count_pos_iff
  generalize ((List.range xs.length).filter fun i => decide (xs[i]? = some c)) = l at h
  cases l with
  | nil =>
    have : ¬ c ∈ xs := fun q => by have := h2.mpr q; rw [← h] at this; exact absurd this (by simp)
    simp [this]
  | cons a r =>
    have : c ∈ xs := h2.mp (by rw [← h]; simp)
    simp [this]
end
section
variable {prog : Program} {w : World} {A : Around} {E : Value → Shared → Prop} {s : Shared}
theorem in_mk {a b : Str} {c : Nat} {xs : List Nat} {t u : Tok} {Q : Value → Shared → Prop} (ha : a = mk [c]) (hb : b = mk xs) (h : Q (.bool (decide (c ∈ xs))) s) : wpAny (model prog w) A (compareOp .In (.str a u) (.str b t)) Q E s := by
  subst ha hb
  refine in_str ?_
  rw [show (!(Builtin.Str.occurrences (mk xs) (mk [c]) 0 (mk xs).length 1).isEmpty) = decide (c ∈ xs) from contains_one xs c]
  exact h
end
theorem in_ws {prog : Program} {w : World} {A : Around} {E : Value → Shared → Prop} {s : Shared} {b : Str} {c : Nat} {t u : Tok} {Q : Value → Shared → Prop} (hb : b = mk [10, 9, 13, 32]) (h : Q (.bool (isWs c)) s) : wpAny (model prog w) A (compareOp .In (.str (mk [c]) u) (.str b t)) Q E s := by
  refine in_mk rfl hb ?_
  have e : decide (c ∈ [10, 9, 13, 32]) = isWs c := by
    rw [Bool.eq_iff_iff, decide_eq_true_iff]
    unfold isWs
    simp [or_assoc]
  rw [e]; exact h
theorem mk_one {c d : Nat} : (mk [c] = mk [d]) ↔ c = d := ⟨fun h => by have := mk_inj h; simpa using this, fun h => by rw [h]⟩
theorem truthy_cons {prog : Program} {w : World} {A : Around} {E : Value → Shared → Prop} {s : Shared} {l : Addr} {v : Value} {vs : List Value} {Q : Bool → Shared → Prop} (hl : s.heap.IsList l (v :: vs).toArray) (hv : vs.length ≤ 1000000) (h : Q true { s with toks := s.toks + 1 + 1 }) : wpAny (model prog w) A (truthy (.ref l)) Q E s :=
  wpAny_truthy_list hl (by rw [List.size_toArray, List.length_cons]; omega) (by simpa using h)
end
section
open Builtin Builtin.Re in
section
def driveP : Nat → Sre.M → Option Sre.M
  | 0, _ => none
  | k + 1, m => let m := m.runFor reTurnSteps; if m.outcome.isSome then some m else driveP k m
theorem drive_of {M : Model} {A : Around} {E : Value → Shared → Prop} {s : Shared} {Q : Sre.M → Shared → Prop} : ∀ (k fuel : Nat) (m m' : Sre.M), driveP k m = some m' → k ≤ fuel → Q m' s → wpAny M A (reDrive fuel m) Q E s
  | 0, _, _, _, h, _, _ => by cases h
  | k + 1, 0, _, _, _, hk, _ => absurd hk (by omega)
  | k + 1, f + 1, m, m', h, hk, q => by
    unfold driveP at h
    unfold reDrive
    dsimp only at h ⊢
    split at h
    · rename_i ho
      cases h
      rw [if_pos ho]
      exact wpAny_pure q
    · rename_i ho
      rw [if_neg ho]
      exact wpAny_bind (wpAny_rule (drive_of k f _ _ h (by omega) q))
def failsP (k : Nat) (m : Sre.M) : Bool := match driveP k m with
  | some m' => match m'.outcome with | some .failed => true | _ => false
  | none => false
theorem rules_pass {M : Model} {A : Around} {E : Value → Shared → Prop} {s : Shared} {Q : PUnit → Shared → Prop} (f : Nat → Bool) (g : Nat → String) (q : Q ⟨⟩ s) : ∀ l : List Nat, wpAny M A (forIn l PUnit.unit fun i _ => if f i = true then (do rule (g i); pure (ForInStep.yield PUnit.unit)) else pure (ForInStep.yield PUnit.unit)) Q E s
  | [] => wpAny_pure q
  | a :: l => by
    rw [List.forIn_cons]
    refine wpAny_bind ?_
    split
    · exact wpAny_bind (wpAny_rule (wpAny_pure (rules_pass f g q l)))
    · exact wpAny_pure (rules_pass f g q l)
theorem runToEnd_fails {M : Model} {A : Around} {E : Value → Shared → Prop} {s : Shared} {Q : Option Sre.M → Shared → Prop} {k : Nat} {m : Sre.M} (h : failsP k m = true) (hk : k ≤ 1000) (q : Q none s) : wpAny M A (reRunToEnd m) Q E s := by
  unfold failsP at h
  split at h
  · rename_i m' hm
    unfold reRunToEnd
    refine wpAny_bind (drive_of k _ m m' hm (Nat.le_trans hk (by decide)) ?_)
    refine wpAny_bind (rules_pass _ _ ?_ _)
    split at h
    · rename_i ho
      rw [ho]
      exact wpAny_pure q
    · cases h
  · cases h
end
open Builtin Builtin.Re in
section
variable {prog : Program} {w : World} {A : Around} {E : Value → Shared → Prop} {s : Shared}
theorem slot_search : entryFor table "re.Pattern.search" = some Builtin.«re.Pattern.search» := entryFor_of_tree (by kernel_rfl)
theorem search_entry {P C : Addr} {d dc : Option Addr} {sl slc : Array (Option Value)} {vs items : Array Value} {nc : Nat} {t t6 : Tok} {xs : List Nat} {k : Nat} {cP cC : Value} {Q : Fin → Shared → Prop}
    (hP : s.heap.get? P = some ⟨cP, d, .fields vs, sl⟩) (h5 : vs.getD 5 .none = .ref C) (h6 : vs.getD 6 .none = .int 0 t6)
    (hC : s.heap.get? C = some ⟨cC, dc, .seq items nc, slc⟩)
    (hf : failsP k (Sre.forSearch ((items.map reRawOf).map (·.toNat)) (mk xs).cps (reRawNat (vs.getD 2 .none)) 0 (min ((2 : Int) ^ 63 - 1).toNat (mk xs).cps.size) false) = true) (hk : k ≤ 1000) (h : Q (.done (.ret .none)) s) :
    wpAny (model prog w) A (Builtin.«re.Pattern.search» ⟨[.ref P, .str (mk xs) t], []⟩) Q E s := by
  unfold Builtin.«re.Pattern.search» reTarget
  dsimp only
  refine wpAny_bind (wpAny_bind (wpAny_of_eq (a := [some (.str (mk xs) t), none, none]) (by kernel_rfl!) ?_))
  dsimp only
  refine wpAny_bind (wpAny_pure (wpAny_bind (wpAny_pure (wpAny_bind ?_))))
  unfold fieldsOf
  refine wpAny_bind (wpAny_load hP (wpAny_pure ?_))
  refine wpAny_bind (wpAny_of_eq (a := ((mk xs).cps, 0)) (by kernel_rfl!) ?_)
  dsimp only
  rw [h6, h5]
  rw [show reRawNat (.int 0 t6) = 0 from rfl, if_neg (by decide), if_neg (by decide)]
  refine wpAny_bind (wpAny_of_eq (a := ()) (by kernel_rfl!) ?_)
  refine wpAny_bind (wpAny_bind (wpAny_seqItems hC rfl (wpAny_pure ?_)))
  refine wpAny_pure ?_
  unfold reAnswer
  refine wpAny_bind (runToEnd_fails hf hk (wpAny_pure h))
end
open Builtin Builtin.Re in
section
variable {prog : Program} {w : World} {A : Around} {E : Value → Shared → Prop} {s : Shared}
theorem pat_plain : PlainAttrs "re.Pattern" :=
  ⟨⟨"object.__getattribute__", by rw [typeLookup_type, builtinLookup_eq_fast]; kernel_rfl, by decide +kernel⟩, by rw [typeLookup_type, builtinLookup_eq_fast]; kernel_rfl⟩
theorem pat_slot : Slot "re.Pattern" "search" "re.Pattern.search" :=
  .of (owner := "re.Pattern") (n := "search") (by rw [typeLookup_type, builtinLookup_eq_fast]; kernel_rfl) (by decide +kernel) (by decide +kernel) (by decide +kernel)
  (by first | exact .inl (by decide +kernel) | exact .inr (by decide +kernel)) (by rw [isSubtype_type]; kernel_rfl)
theorem pat_type : typeOf (.builtin "re.Pattern.search") = pure (.type "method_descriptor") := by show builtinType _ = _; rw [builtinType_eq_fast]; kernel_rfl
theorem pat_args (a b : Value) : argsOk "re.Pattern.search" ⟨[a, b], []⟩ := by unfold argsOk; kernel_rfl
theorem pat_method {P : Addr} {sl : Array (Option Value)} {dt : Data} {pl : Sem Bool} {Q : Value × List Value → Shared → Prop} (hP : s.heap.get? P = some ⟨.type "re.Pattern", none, dt, sl⟩) (h : Q (.builtin "re.Pattern.search", [.ref P]) s) :
    wpAny (model prog w) A (getMethod (.ref P) "search" pl) Q E s :=
  getMethod_builtin ⟨_, hP, rfl⟩ pat_plain pat_slot pat_type (fun a e => by cases e; exact ⟨_, hP, rfl⟩) h
theorem search_none {P C : Addr} {dc : Option Addr} {sl slc : Array (Option Value)} {vs items : Array Value} {nc : Nat} {t t6 : Tok} {xs : List Nat} {k : Nat} {cC : Value} {Q : Value → Shared → Prop}
    (hP : s.heap.get? P = some ⟨.type "re.Pattern", none, .fields vs, sl⟩) (h5 : vs.getD 5 .none = .ref C) (h6 : vs.getD 6 .none = .int 0 t6)
    (hC : s.heap.get? C = some ⟨cC, dc, .seq items nc, slc⟩)
    (hf : failsP k (Sre.forSearch ((items.map reRawOf).map (·.toNat)) (mk xs).cps (reRawNat (vs.getD 2 .none)) 0 (min ((2 : Int) ^ 63 - 1).toNat (mk xs).cps.size) false) = true) (hk : k ≤ 1000) (h : Q .none s) :
    wpAny (model prog w) A (call (.builtin "re.Pattern.search") [.ref P, .str (mk xs) t]) Q E s :=
  wpAny_call_entry pat_slot ⟨_, hP, rfl⟩ slot_search (search_entry hP h5 h6 hC hf hk ⟨_, rfl, h⟩) (pat_args _ _)
end
theorem in_at {K : Frag} {h : Heap} {a : Addr} {o : Obj} (X : K.In h) (e : K.lookup a = some o) : h.get? a = some o := X _ _ e
theorem forall64 {P : Nat → Bool} (h : (List.range 64).all P = true) {n : Nat} (hn : n < 64) : P n = true := List.all_eq_true.mp h n (List.mem_range.mpr hn)
theorem fails_letters {code : Array Nat} {G n : Nat} (h : (List.range 64).all (fun k => failsP 200 (Sre.forSearch code (mk (letters k)).cps G 0 (min ((2 : Int) ^ 63 - 1).toNat (mk (letters k)).cps.size) false)) = true) (hn : n < 64) :
    failsP 200 (Sre.forSearch code (mk (letters n)).cps G 0 (min ((2 : Int) ^ 63 - 1).toNat (mk (letters n)).cps.size) false) = true := List.all_eq_true.mp h n (List.mem_range.mpr hn)
end
section
/-- a sign that neither ends nor turns a token -/
def plainSign (c : Nat) : Prop := isWs c = false ∧ c ≠ 34 ∧ c ≠ 92
theorem plain_stops {c : Nat} (h : plainSign c) (q : Bool) : stops q c = false := by
  cases q with
  | false => exact h.1
  | true => exact beq_eq_false_iff_ne.mpr h.2.1
theorem lexT_stop (q : Bool) (acc : List Nat) (c : Nat) (r : List Nat) (h : stops q c = true) : lexT q acc (c :: r) = some (acc, r) := by
  cases r <;> simp [lexT, h]
theorem lexT_step (q : Bool) (acc : List Nat) (c : Nat) (r : List Nat) (h : plainSign c) (hr : r ≠ []) : lexT q acc (c :: r) = lexT q (acc ++ [c]) r := by
  cases r with
  | nil => exact absurd rfl hr
  | cons d r => rw [lexT, plain_stops h q]; simp [h.2.2]
theorem lexT_esc (q : Bool) (acc : List Nat) (d : Nat) (r : List Nat) : lexT q acc (92 :: d :: r) = lexT q (acc ++ [d]) r := by
  rw [lexT]
  have : stops q 92 = false := by cases q <;> rfl
  simp [this]
theorem lexT_word (q : Bool) (e : Nat) (r : List Nat) (he : stops q e = true) : ∀ (w acc : List Nat), (∀ c ∈ w, plainSign c) → lexT q acc (w ++ e :: r) = some (acc ++ w, r)
  | [], acc, _ => by rw [List.nil_append, lexT_stop _ _ _ _ he, List.append_nil]
  | c :: w, acc, h => by
    rw [List.cons_append, lexT_step q acc c _ (h c (.head _)) (by simp), lexT_word q e r he w _ fun c hc => h c (.tail _ hc), List.append_assoc]
    rfl
theorem lexT_escs (q : Bool) (e : Nat) (r : List Nat) (he : stops q e = true) : ∀ (w acc : List Nat), lexT q acc ((w.map fun c => [92, c]).flatten ++ e :: r) = some (acc ++ w, r)
  | [], acc => by simp [lexT_stop _ _ _ _ he]
  | c :: w, acc => by
    rw [List.map_cons, List.flatten_cons]
    show lexT q acc (92 :: c :: ((w.map fun c => [92, c]).flatten ++ e :: r)) = _
    rw [lexT_esc, lexT_escs q e r he w, List.append_assoc]
    rfl
theorem lexS_ws (c : Nat) (r : List Nat) (h : isWs c = true) : lexS (c :: r) = lexS r := by
  cases r <;> simp [lexS, h]
theorem cased_plain {n c : Nat} (h : c ∈ cased n) : plainSign c := by
  unfold cased at h
  have low : ∀ x ∈ letters (n % 64), 97 ≤ x ∧ x ≤ 102 := by
    intro x hx
    unfold letters at hx
    obtain ⟨k, hk, rfl⟩ := List.mem_map.mp hx
    have := List.mem_range.mp (List.mem_filter.mp hk).1
    omega
  have b : (65 ≤ c ∧ c ≤ 70) ∨ (97 ≤ c ∧ c ≤ 102) := by
    split at h
    · obtain ⟨x, hx, rfl⟩ := List.mem_map.mp h
      have := low x hx
      omega
    · exact .inr (low c h)
  unfold plainSign isWs
  refine ⟨?_, by omega, by omega⟩
  simp
  omega
theorem lexS_written (n : Nat) (r : List Nat) : ∃ lead, (lead = [] ∨ lead = [32]) ∧ lexS (written n ++ r) = some (cased n, lead ++ r) := by
  have hp : ∀ c ∈ cased n, plainSign c := fun c hc => cased_plain hc
  unfold written
  by_cases h1 : n / 64 % 3 = 1 ∨ cased n = []
  · rw [if_pos h1]
    refine ⟨[32], .inr rfl, ?_⟩
    have e : 34 :: cased n ++ [34, 32] ++ r = 34 :: (cased n ++ 34 :: (32 :: r)) := by simp
    rw [e]
    have e2 := lexT_word true 34 (32 :: r) rfl (cased n) [] hp
    cases q : cased n ++ 34 :: (32 :: r) with
    | nil => simp at q
    | cons d z =>
      rw [q] at e2
      rw [lexS]
      simpa [isWs] using e2
  · rw [if_neg h1]
    have hne : cased n ≠ [] := fun q => h1 (.inr q)
    cases q : cased n with
    | nil => exact absurd q hne
    | cons a w =>
      rw [q] at hp
      have ha := hp a (.head _)
      refine ⟨[], .inl rfl, ?_⟩
      split
      · have e : a :: w ++ [10] ++ r = a :: (w ++ 10 :: r) := by simp
        rw [e]
        have e2 := lexT_word false 10 r rfl w [a] fun c hc => hp c (.tail _ hc)
        cases q2 : w ++ 10 :: r with
        | nil => simp at q2
        | cons d z =>
          rw [q2] at e2
          rw [lexS]
          simpa [ha.1, ha.2.1, ha.2.2] using e2
      · have e : ((a :: w).map fun s => [92, s]).flatten ++ [9] ++ r = 92 :: a :: ((w.map fun s => [92, s]).flatten ++ 9 :: r) := by simp
        rw [e, lexS]
        have e2 := lexT_escs false 9 r rfl w [a]
        simpa [isWs] using e2
end
section
section
variable {prog : Program} {w : World} {A : Around} {E : Value → Shared → Prop} {s : Shared} {env : Env} {Q : Flow → Shared → Prop} {h₀ : Heap} {L : Addr}
/-- a pair taken apart into two names -/
theorem assign_pair {x y : Str} {px py pt : Pos} {k : Nat} {T : Addr} {a b : Value} {Q : Unit → Shared → Prop} (hh : A.handled = none) (hT : s.heap.IsTuple T #[a, b])
    (h : ∀ h', Heap.ExtBut s.heap.objs.size s.heap h' → wpAny (model prog w) A (storeName env x a) (fun _ s₂ => wpAny (model prog w) A (storeName env y b) Q E s₂) E { s with heap := h' }) :
    wpAny (model prog w) A (assign (.Tuple [.Name x px, .Name y py] k pt) env (.ref T)) Q E s := by
  refine wpAny_assign_Tuple hh hT rfl rfl fun h' hx => ?_
  show wpAny _ _ (do holding [b] (assign (.Name x px) env a); do holding [] (assign (.Name y py) env b); pure ()) _ _ _
  refine wpAny_bind (wpAny_holding (wpAny_assign_Name (wpAny_mono (h h' hx) (fun _ s₂ h₂ => ?_) fun _ _ z => z)))
  exact wpAny_bind (wpAny_holding (wpAny_assign_Name (wpAny_mono h₂ (fun _ _ z => wpAny_pure z) fun _ _ z => z)))
/-- a for over what walks, any target -/
theorem for_walkT {target : Expr} {body : List Stmt} {I : Addr} {fp wr : List Addr} {n : Nat} {P : Nat → Value → Prop} {St : Nat → Heap → Prop} (W : Walks prog w A I fp wr n P St) (J : Nat → Shared → Prop)
    (hst : St 0 s.heap) (hj : J 0 s)
    (hgo : ∀ (i : Nat) (v : Value) (s : Shared) (Q : Unit → Shared → Prop) (E : Value → Shared → Prop), P i v → St (i + 1) s.heap → Q () s → wpAny (model prog w) A (letOwnedTupleGo target (.ref I) v) Q E s)
    (turn : ∀ (i : Nat) (s : Shared) (v : Value) (h' : Heap) (tk : Nat), i < n → J i s → P i v → St (i + 1) h' → (∀ b o, b ∉ wr → s.heap.get? b = some o → h'.get? b = some o) →
      wpAny (model prog w) A (assign target env v) (fun _ s₂ => wpAny (model prog w) A (execs body env) (fun f s₃ => match f with
          | .next | .cont => J (i + 1) s₃ ∧ ∀ b ∈ fp, ∀ o, h'.get? b = some o → s₃.heap.get? b = some o
          | .brk => Q .next s₃
          | .ret v => Q (.ret v) s₃) (fun _ _ => False) s₂) (fun _ _ => False) { s with heap := h', toks := tk })
    (done : ∀ (s : Shared) (h' : Heap) (tk : Nat), J n s → (∀ b o, b ∉ wr → s.heap.get? b = some o → h'.get? b = some o) → Q .next { s with heap := h', toks := tk }) :
    codeAny (model prog w) A (.forLoop target (.ref I) body [] env) (fun r s' => match r with | .ok f => Q f s' | .error e => cameBackBy (model prog w) A env E e s') s := by
  refine codeAny_forLoop_any (fun k s' => ∃ i, k = n + 1 - i ∧ i ≤ n ∧ St i s'.heap ∧ J i s') ?_ (n + 1) ⟨0, rfl, Nat.zero_le _, hst, hj⟩
  rintro k s' ⟨i, rfl, hi, hst', hj'⟩
  by_cases hlt : i < n
  · refine W.item i s' _ _ hlt hst' fun v h' tk hP hst₁ hk => ?_
    refine hgo i v _ _ _ hP hst₁ ?_
    refine wpAny_mono (turn i s' v h' tk hlt hj' hP hst₁ hk) (fun _ s₂ h₂ => wpAny_mono h₂ (fun f s₃ h₃ => ?_) fun _ _ f => f.elim) fun _ _ f => f.elim
    cases f with
    | next => exact ⟨n + 1 - (i + 1), by omega, i + 1, rfl, hlt, W.frame _ _ _ hst₁ h₃.2, h₃.1⟩
    | cont => exact ⟨n + 1 - (i + 1), by omega, i + 1, rfl, hlt, W.frame _ _ _ hst₁ h₃.2, h₃.1⟩
    | brk => exact h₃
    | ret v => exact h₃
  · have : i = n := by omega
    subst this
    exact W.done s' _ _ hst' fun h' tk hk => wpAny_execs_nil (done s' h' tk hj' hk)
end
end
section
section
variable {prog : Program} {w : World} {A : Around} {E : Value → Shared → Prop} {s : Shared} {env : Env} {Q : Flow → Shared → Prop} {x y : Str} {px py pt pos : Pos} {k : Nat} {iter : Expr} {body : List Stmt} {h₀ : Heap} {L : Addr}
/-- a for behind its source, any target -/
def ForAtT (prog : Program) (w : World) (A : Around) (env : Env) (target : Expr) (body : List Stmt) (Q : Flow → Shared → Prop) (E : Value → Shared → Prop) (xv : Value) (s₁ : Shared) : Prop :=
  wpAny (model prog w) A (pyIter xv) (fun it s₂ => codeAny (model prog w) A (.forLoop target it body [] env) (fun r s' => match r with | .ok f => Q f s' | .error e => cameBackBy (model prog w) A env E e s') s₂) E s₁
theorem for_openT {target : Expr} (h : wpAny (model prog w) A (eval iter env) (fun xv s₁ => ForAtT prog w A env target body Q E xv s₁) E s) (hs : ∀ x, foldedSetIterable iter env x = pure x := by intro _; rfl) :
    wpAny (model prog w) A (exec (.For target iter body [] pos) env) Q E s := wpAny_For h hs

/-- a for over a list of pairs that stand -/
theorem for_pairs {l : Addr} {vs : List Value} (hh : A.handled = none) (hL : env.locals = L) (hl : h₀.IsList l vs.toArray)
    (P : Nat → Value → Value → Prop) (hT : ∀ (i : Nat) (v : Value), vs[i]? = some v → ∃ T a b, v = .ref T ∧ h₀.IsTuple T #[a, b] ∧ P i a b)
    (J : Nat → (Str → Option Value) → List (Addr × Obj) → Prop) {m₀ : Str → Option Value} {led₀ : List (Addr × Obj)}
    (F : Fr h₀ L s.heap m₀) (N : News h₀ L s.heap led₀) (hj : J 0 m₀ led₀)
    (turn : ∀ (I : Addr) (i : Nat) (h : Heap) (tk : Nat) (m : Str → Option Value) (led : List (Addr × Obj)) (oI : Obj) (a b : Value), i < vs.length → J i m led → P i a b → Fr h₀ L h (fun z => if z = y then some b else if z = x then some a else m z) → News h₀ L h ((I, oI) :: led) → (∀ q ∈ led, q.1 ≠ I) →
      wpAny (model prog w) A (execs body env) (fun f s₃ => match f with
          | .next | .cont => TurnEnd h₀ L I oI [] (J (i + 1)) h s s₃
          | .brk => Q .next s₃
          | .ret v => Q (.ret v) s₃) (fun _ _ => False) { s with heap := h, toks := tk })
    (done : ∀ (h : Heap) (tk : Nat) (m : Str → Option Value) (led : List (Addr × Obj)), J vs.length m led → Fr h₀ L h m → News h₀ L h led → Q .next { s with heap := h, toks := tk })
    (hxi : env.kindOf x = some .local) (hxc : env.kindOf y = some .local)
    (hp : (env.scope.kind == .class || (env.scope.kind == .module && env.locals != env.globals)) = false) :
    ForAtT prog w A env (.Tuple [.Name x px, .Name y py] k pt) body Q E (.ref l) s := by
  subst hL
  have hls := stays_list F.keep hl
  have hlt : l < s.heap.objs.size := by obtain ⟨_, e, _⟩ := hls; exact Heap.lt_size e
  refine wpAny_pyIter_list hls ?_
  generalize hI : s.heap.objs.size = I at hlt ⊢
  have hne : l ≠ I := Nat.ne_of_lt hlt
  have F1 := F.push (o := { cls := .type "list_iterator", data := .fields #[.ref l, .int 0 0] })
  have N1 := N.push F { cls := .type "list_iterator", data := .fields #[.ref l, .int 0 0] }
  rw [hI] at N1
  have hq0 : ∀ q ∈ led₀, q.1 ≠ I := fun q hq e => absurd (Heap.lt_size (N q hq).1) (by rw [e, hI]; exact Nat.lt_irrefl _)
  refine for_walkT (s := { s with heap := s.heap.push _ }) (Walks.list hh I l hne vs.toArray)
    (fun i s' => ∃ h tk m led oI, s' = { s with heap := h, toks := tk } ∧ Fr h₀ env.locals h m ∧ News h₀ env.locals h ((I, oI) :: led) ∧ (∀ q ∈ led, q.1 ≠ I) ∧ J i m led)
    ⟨⟨_, by rw [← hI]; exact Heap.get?_push_size _ rfl, rfl, rfl⟩, hls.push _⟩ ⟨_, s.toks, m₀, led₀, _, rfl, F1, N1, hq0, hj⟩ ?_ ?_ ?_
  · rintro i v s' Q' E' hv hst hQ
    rw [List.getElem?_toArray] at hv
    obtain ⟨T, a, b, rfl, _, _⟩ := hT i v hv
    exact wpAny_letOwnedTupleGo_listiter hst.1 hQ
  · rintro i s' v h' tk hi ⟨h, tk₁, m, led, oI, rfl, F', N', hne', hj'⟩ hv hst' hk
    rw [List.getElem?_toArray] at hv
    obtain ⟨T, a, b, rfl, hTT, hP⟩ := hT i v hv
    obtain ⟨n1, n2, n3⟩ := N' (I, oI) (.head _)
    obtain ⟨oI', ho, hc⟩ := hst'.1
    have F₂ : Fr h₀ env.locals h' m := ⟨F'.ns.at' fun ob e => hk env.locals ob (fun q => n2 (List.mem_singleton.mp q).symm) e, fun b ob e => hk b ob (fun q => by rw [List.mem_singleton.mp q] at e; rw [n3] at e; cases e) (F'.keep b ob e), F'.above⟩
    have N₂ : News h₀ env.locals h' ((I, oI') :: led) := fun q hq => by
      rcases List.mem_cons.mp hq with rfl | hq
      · exact ⟨ho, n2, n3⟩
      · exact ⟨hk _ _ (fun z => hne' q hq (List.mem_singleton.mp z)) (N' q (.tail _ hq)).1, (N' q (.tail _ hq)).2⟩
    obtain ⟨oT, eT, rT⟩ := hTT
    refine assign_pair hh ⟨oT, F₂.keep _ _ eT, rT⟩ fun h₃ hx₃ => ?_
    have up₃ : ∀ b o, h'.get? b = some o → h₃.get? b = some o := fun b o e => hx₃ b o (Nat.ne_of_lt (Heap.lt_size e)) e
    have F₃ := F₂.keeps up₃
    have N₃ := N₂.grown up₃
    refine wpAny_storeName_local hxi F₃.ns (fun h₄ hn₄ hs₄ => ?_) hp
    have F₄ := F₃.set hn₄ hs₄
    have N₄ := N₃.set hs₄
    refine wpAny_storeName_local hxc F₄.ns (fun h₅ hn₅ hs₅ => ?_) hp
    have F₅ := F₄.set hn₅ hs₅
    have N₅ := N₄.set hs₅
    refine wpAny_mono (turn I i h₅ _ m led oI' a b (by simpa using hi) hj' hP F₅ N₅ hne') (fun f s₃ h₃ => ?_) fun _ _ f => f
    have fin : TurnEnd h₀ env.locals I oI' [] (J (i + 1)) h₅ s s₃ → (∃ h tk m led oI, s₃ = { s with heap := h, toks := tk } ∧ Fr h₀ env.locals h m ∧ News h₀ env.locals h ((I, oI) :: led) ∧ (∀ q ∈ led, q.1 ≠ I) ∧ J (i + 1) m led) ∧ ∀ b ∈ [I, l], ∀ o, h'.get? b = some o → s₃.heap.get? b = some o := by
      rintro ⟨h₆, tk₆, m₆, led₆, rfl, F₆, N₆, hne₆, hj₆, _⟩
      refine ⟨⟨h₆, tk₆, m₆, led₆, oI', rfl, F₆, N₆, hne₆, hj₆⟩, fun b hb o e => ?_⟩
      rcases List.mem_cons.mp hb with rfl | hb
      · rw [ho] at e; cases e; exact N₆.get (.head _)
      · rw [List.mem_singleton.mp hb] at e ⊢
        obtain ⟨ol, el, _⟩ := hl
        have := F₂.keep _ _ el
        rw [e] at this; cases this
        exact F₆.keep _ _ el
    cases f with
    | next => exact fin h₃
    | cont => exact fin h₃
    | brk => exact h₃
    | ret v => exact h₃
  · rintro s' h' tk ⟨h, tk₁, m, led, oI, rfl, F', N', hne', hj'⟩ hk
    obtain ⟨n1, n2, n3⟩ := N' (I, oI) (.head _)
    refine done h' tk m led (by simpa using hj') ⟨F'.ns.at' fun ob e => hk env.locals ob (fun q => n2 (List.mem_singleton.mp q).symm) e, fun b ob e => hk b ob (fun q => by rw [List.mem_singleton.mp q] at e; rw [n3] at e; cases e) (F'.keep b ob e), F'.above⟩
      fun q hq => ⟨hk _ _ (fun z => hne' q hq (List.mem_singleton.mp z)) (N' q (.tail _ hq)).1, (N' q (.tail _ hq)).2⟩
end
/-- the pairs of a table: one letter, and a word -/
def Prs (hol : List Nat) (as : List Addr) (h : Heap) (vs : List Value) (cs : List Nat) : Prop :=
  Paired (fun v c => ∃ T t u, v = Value.ref T ∧ T ∉ as ∧ h.IsTuple T #[.str (mk [c]) t, .str (mk hol) u]) vs cs
theorem Paired.imp {α β : Type} {F G : α → β → Prop} (h : ∀ a b, F a b → G a b) : ∀ {xs : List α} {ys : List β}, Paired F xs ys → Paired G xs ys
  | _, _, .nil => .nil
  | _, _, .cons a r => .cons (h _ _ a) (Paired.imp h r)
theorem Paired.getL {α β : Type} {F : α → β → Prop} : ∀ {a : List α} {b : List β}, Paired F a b → ∀ {i : Nat} {x : α}, a[i]? = some x → ∃ y, b[i]? = some y ∧ F x y
  | _, _, .nil, _, _, e => by simp at e
  | _, _, .cons h r, i, x, e => by
    cases i with
    | zero => simp at e; subst e; exact ⟨_, rfl, h⟩
    | succ i => simp at e; obtain ⟨y, e1, e2⟩ := Paired.getL r e; exact ⟨y, by simpa using e1, e2⟩
theorem Prs.butL {hol : List Nat} {as bs : List Addr} {h h' : Heap} {vs : List Value} {cs : List Nat} (P : Prs hol as h vs cs) (hb : ∀ b ∈ bs, b ∈ as) (k : ButL bs h h') : Prs hol as h' vs cs :=
  Paired.imp (fun _ _ ⟨T, t, u, e, n, o, ho, r⟩ => ⟨T, t, u, e, n, o, k _ _ (fun q => n (hb _ q)) ho, r⟩) P
theorem Prs.hide {hol : List Nat} {as bs : List Addr} {h : Heap} {vs : List Value} {cs : List Nat} (P : Prs hol as h vs cs) (hb : ∀ b ∈ bs, b ∈ as) : Prs hol as (hideAll h bs) vs cs :=
  Paired.imp (fun _ _ ⟨T, t, u, e, n, o, ho, r⟩ => ⟨T, t, u, e, n, o, hideAll_get _ ho fun q => n (hb _ q), r⟩) P
theorem Prs.less {hol : List Nat} {as bs : List Addr} {h : Heap} {vs : List Value} {cs : List Nat} (P : Prs hol as h vs cs) (hb : ∀ b ∈ bs, b ∈ as) : Prs hol bs h vs cs :=
  Paired.imp (fun _ _ ⟨T, t, u, e, n, r⟩ => ⟨T, t, u, e, fun q => n (hb _ q), r⟩) P
theorem Prs.stays {hol : List Nat} {as : List Addr} {h h' : Heap} {vs : List Value} {cs : List Nat} (P : Prs hol as h vs cs) (k : h.StaysIn h') : Prs hol as h' vs cs :=
  Paired.imp (fun _ _ ⟨T, t, u, e, n, o, ho, r⟩ => ⟨T, t, u, e, n, o, k _ _ ho, r⟩) P
/-- a single letter is the word of one bit -/
theorem one_letter : ∀ c, isLow c = true → ∃ n, n < 64 ∧ [c] = letters n := by
  intro c hc
  have : c = 97 ∨ c = 98 ∨ c = 99 ∨ c = 100 ∨ c = 101 ∨ c = 102 := by simp [isLow] at hc; omega
  rcases this with rfl | rfl | rfl | rfl | rfl | rfl
  · exact ⟨1, by decide, by decide +kernel⟩
  · exact ⟨2, by decide, by decide +kernel⟩
  · exact ⟨4, by decide, by decide +kernel⟩
  · exact ⟨8, by decide, by decide +kernel⟩
  · exact ⟨16, by decide, by decide +kernel⟩
  · exact ⟨32, by decide, by decide +kernel⟩
end
section
open Builtin Builtin.List in
section
variable {prog : Program} {w : World} {A : Around} {E : Value → Shared → Prop} {s : Shared}
theorem setItem_all {l sl b : Addr} {o : Obj} {items its2 : Array Value} {n : Nat} {Q : Unit → Shared → Prop} (ho : s.heap.get? l = some o) (hc : o.cls = .type "list") (hd : o.data = .seq items n)
    (hs : s.heap.IsSliceOf sl .none .none .none) (hb : s.heap.IsList b its2) (hne : l ≠ b) (hz1 : items.size ≤ 1000000) (hz2 : its2.size ≤ 1000000)
    (h : Q () { s with heap := s.heap.update l (Obj.mapSeq fun xs => xs.extract 0 (0 : Int).toNat ++ its2 ++ xs.extract (max (0 : Int) (items.size : Int)).toNat xs.size) }) :
    wpAny (model prog w) A (setItem (.ref l) (.ref sl) (.ref b)) Q E s := by
  have hl : s.heap.IsList l items := ⟨o, ho, hc, n, hd⟩
  obtain ⟨os, hos, hcs, hds⟩ := id hs
  have hTs : s.TypeIs (.ref sl) "slice" := ⟨os, hos, hcs⟩
  obtain ⟨ob, hob, hcb, nb, hdb⟩ := id hb
  unfold setItem
  try with_reducible refine wpAny_holding ?_
  first | refine wpAny_bind (wpAny_pure ?_) | skip
  refine wpAny_bind (wpAny_sequenceKey hl.typeIs (by decide) ?_)
  refine wpAny_bind (wpAny_callSpecial?_slot (name := Str.ofString "__setitem__") hl.typeIs slot_list_setitem
    (wpAny_call_entry slot_list_setitem hl.typeIs entry_list_setitem ?_ (args_list_setitem _ _ _)))
  show wpAny _ _ (Builtin.List.listSubscript? (.ref sl) >>= _) _ _ s
  refine wpAny_bind ?_
  unfold Builtin.List.listSubscript?
  refine wpAny_bind (wpAny_specialOf hTs slice_no_index ?_)
  simp only [Option.isNone_none, if_true]
  refine wpAny_pure ?_
  show wpAny _ _ (typeOf (.ref sl) >>= _) _ _ s
  refine wpAny_bind (wpAny_typeOf hTs ?_)
  rw [if_neg (by decide)]
  rw [listSliceParts_eq]
  refine wpAny_bind (wpAny_bind (wpAny_field hos hds (x := .none) rfl (wpAny_bind (wpAny_listPart .none ?_))))
  rw [if_neg (by exact Bool.false_ne_true)]
  refine wpAny_bind (wpAny_field hos hds (x := .none) rfl (wpAny_bind (wpAny_listPart .none ?_)))
  refine wpAny_bind (wpAny_field hos hds (x := .none) rfl (wpAny_bind (wpAny_listPart .none (wpAny_pure ?_))))
  dsimp only
  rw [if_neg (by show ¬ (l == b) = true; simpa using hne)]
  refine wpAny_bind ?_
  unfold Builtin.List.listAllItems
  refine wpAny_bind (wpAny_typeOf hb.typeIs ?_)
  rw [if_pos (by decide)]
  unfold Builtin.List.listItems
  refine wpAny_bind (wpAny_seqItems hob hdb (wpAny_pure ?_))
  refine wpAny_bind (wpAny_bind (wpAny_seqItems ho hd (wpAny_pure ?_)))
  refine wpAny_bind (wpAny_of_eq (sliceIndices_raw none none none items.size (by simp)) ?_)
  have e1 : (sliceBounds none none none items.size) = (0, (items.size : Int), 1) := rfl
  rw [e1]
  dsimp only
  rw [if_pos (by rfl)]
  refine wpAny_bind (wpAny_rule ?_)
  rw [if_neg (by unfold Builtin.List.listTooLong; simp only [decide_eq_true_eq, sizeLine_eq]; omega)]
  unfold Builtin.List.listUpdate
  refine wpAny_bind (wpAny_updateSeq ho hd ?_ (by rw [sizeLine_eq]; omega) ?_)
  · refine wpAny_bind (wpAny_letGo ?_)
    exact wpAny_pure ⟨_, rfl, wpAny_pure h⟩
  · have : (max (0 : Int) (items.size : Int)).toNat = items.size := by omega
    simp only [this, Array.size_append, Array.size_extract, sizeLine_eq]
    omega
end
section
variable {prog : Program} {w : World} {A : Around} {E : Value → Shared → Prop} {s : Shared} {h₀ : Heap} {L : Addr} {m : Str → Option Value} {news news' : List (Addr × Obj)}
theorem setAllN {l sl b : Addr} {its its2 : Array Value} {n : Nat} {Q : Unit → Shared → Prop} (F : Fr h₀ L s.heap m) (N : News h₀ L s.heap news) (U : Upd l (listOf its n) (listOf its2 (if (its2.size == its.size) = true then n else n + 1)) news news')
    (hs : s.heap.IsSliceOf sl .none .none .none) (hb : s.heap.IsList b its2) (hne : l ≠ b) (hz1 : its.size ≤ 1000000) (hz2 : its2.size ≤ 1000000)
    (h : ∀ h', Fr h₀ L h' m → News h₀ L h' news' → Q () { s with heap := h' }) : wpAny (model prog w) A (setItem (.ref l) (.ref sl) (.ref b)) Q E s := by
  obtain ⟨pre, post, rfl, rfl, a, c⟩ := U.split
  have z := N (l, listOf its n) (List.mem_append.mpr (.inr (.head _)))
  refine setItem_all z.1 rfl rfl hs hb hne hz1 hz2 (h _ (F.change (Heap.SameBut.update ..) z.2.1 z.2.2) (news_set N a c (Heap.SameBut.update ..) ?_))
  refine (Heap.get?_update_self _ z.1 rfl).trans ?_
  have e : its.extract 0 (0 : Int).toNat ++ its2 ++ its.extract (max (0 : Int) (its.size : Int)).toNat its.size = its2 := by simp
  show some (listOf (its.extract 0 (0 : Int).toNat ++ its2 ++ its.extract (max (0 : Int) (its.size : Int)).toNat its.size) (if ((its.extract 0 (0 : Int).toNat ++ its2 ++ its.extract (max (0 : Int) (its.size : Int)).toNat its.size).size == its.size) = true then n else n + 1)) = _
  rw [e]
end
section
variable {M : Model} {A : Around} {E : Value → Shared → Prop} {s : Shared} {K : Frag} {x C L f : Addr} {h₀ : Heap} {m : Str → Option Value} {ox : Obj} {od : Option Obj} {i : Value}
theorem delItem_inst {Q : Unit → Shared → Prop} (F : Fr h₀ L s.heap m) (X₀ : K.In h₀) (I : InstAt s.heap x ox C od) (hq : noSeq K C = true) (hs : findIn K (.ref C) "__delitem__" = some (some (.ref f))) (hf : isFn K (.ref f) = true)
    (h : wpAny M A (call (.ref f) [.ref x, i]) (fun _ s' => Q () s') E s) : wpAny M A (delItem (.ref x) i) Q E s := by
  have X := X₀.keeps F.keep
  unfold delItem sequenceKey
  refine wpAny_holding (wpAny_bind (wpAny_bind (I.type.here ?_)))
  refine wpAny_bind ((anyM_none X hq).here ?_)
  rw [if_pos (show (!false) = true from rfl)]
  exact wpAny_pure (wpAny_bind (special_fn X I hs (beq_iff_eq.mp hf) (wpAny_mono h (fun _ _ z => wpAny_pure z) fun _ _ z => z)))
end
/-- the letter of a pair -/
noncomputable def nameOf (h : Heap) (v : Value) : Nat := by
  classical
  exact if q : ∃ c, ∃ T t u, v = Value.ref T ∧ h.IsTuple T #[.str (mk [c]) t, u] then q.choose else 0
theorem nameOf_eq {h : Heap} {T : Addr} {c : Nat} {t : Tok} {u : Value} (hT : h.IsTuple T #[.str (mk [c]) t, u]) : nameOf h (.ref T) = c := by
  have q : ∃ c, ∃ T' t u, Value.ref T = Value.ref T' ∧ h.IsTuple T' #[.str (mk [c]) t, u] := ⟨c, T, t, u, rfl, hT⟩
  unfold nameOf
  rw [dif_pos q]
  obtain ⟨T', t', u', e, o, ho, _, n, hd⟩ := q.choose_spec
  cases e
  obtain ⟨o2, ho2, _, n2, hd2⟩ := hT
  rw [ho] at ho2; cases ho2
  rw [hd] at hd2
  injection hd2 with hd2 _
  have e0 := congrArg (fun a => a[0]?) hd2
  simp at e0
  have := mk_inj e0.1
  simpa using this
theorem Paired.filter {α β : Type} {F : α → β → Prop} {p : α → Bool} {q : β → Bool} (h : ∀ a b, F a b → p a = q b) : ∀ {xs : List α} {ys : List β}, Paired F xs ys → Paired F (xs.filter p) (ys.filter q)
  | _, _, .nil => .nil
  | _, _, .cons (a := x) (b := y) a r => by
    rw [List.filter_cons, List.filter_cons, h x y a]
    cases q y
    · exact Paired.filter h r
    · exact .cons a (Paired.filter h r)
theorem paired_eq {F : Value → Value → Prop} (h : ∀ a b, F a b → b = a) : ∀ {xs ys : List Value}, Paired F xs ys → ys = xs
  | _, _, .nil => rfl
  | _, _, .cons a r => by rw [h _ _ a, paired_eq h r]
end
section
section
variable {prog : Program} {w : World} {A : Around} {E : Value → Shared → Prop} {env : Env} {elt target iter : Expr} {scope : Scope} {cl : List (Str × Addr)} {pos : Pos} {I : Addr} {fp wr : List Addr} {n : Nat}
/-- what a comprehension draws from, and how it binds -/
structure CDraw (prog : Program) (w : World) (A : Around) (target : Expr) (scope : Scope) (cl : List (Str × Addr)) (env : Env) (I : Addr) (fp wr : List Addr) (n : Nat) (Pm : Nat → (Str → Option Value) → Prop) (St : Nat → Heap → Prop) : Prop where
  sub : ∀ b ∈ wr, b ∈ fp
  frame : ∀ i h h', St i h → (∀ b ∈ fp, ∀ o, h.get? b = some o → h'.get? b = some o) → St i h'
  live : ∀ i h, St i h → ∀ b ∈ wr, ∃ o, h.get? b = some o
  done : ∀ (s : Shared) (Q : Option Value → Shared → Prop) (E : Value → Shared → Prop), St n s.heap →
    (∀ h' tk, (∀ b o, b ∉ wr → s.heap.get? b = some o → h'.get? b = some o) → Q none { s with heap := h', toks := tk }) → wpAny (model prog w) A (pyNext (.ref I)) Q E s
  self : ∀ i (s : Shared) (Q : Value → Shared → Prop) (E : Value → Shared → Prop), St i s.heap → Q (.ref I) s → wpAny (model prog w) A (pyIter (.ref I)) Q E s
  draw : ∀ (C : Addr) (i : Nat) (s : Shared) (m : Str → Option Value) (R0 K : Shared → Prop) (E : Value → Shared → Prop), i < n → St i s.heap → s.heap.Ns C m → C ∉ fp →
    (∀ h' tk m', Pm i m' → h'.Ns C m' → St (i + 1) h' → (∀ b o, b ∉ C :: wr → s.heap.get? b = some o → h'.get? b = some o) → K { s with heap := h', toks := tk }) →
    wpAny (model prog w) A (pyNext (.ref I)) (fun r s₁ => match r with
      | none => R0 s₁
      | some v => wpAny (model prog w) A (letOwnedTupleGo target (.ref I) v) (fun _ s₀ => wpAny (model prog w) A (assign target (compEnvC scope cl C env) v) (fun _ s₂ => K s₂) E s₀) E s₁) E s

theorem hide_stays {h h' : Heap} {as : List Addr} (k : ∀ b o, b ∉ as → h.get? b = some o → h'.get? b = some o) : (hideAll h as).StaysIn (hideAll h' as) := by
  intro b o e
  have hb : b ∉ as := fun q => by rw [hideAll_none _ q] at e; cases e
  exact hideAll_get as (k b o hb (of_hideAll _ e)) hb
theorem hide_less {h h' : Heap} {as bs : List Addr} (hs : ∀ b ∈ bs, b ∈ as) (k : ∀ b o, b ∉ as → h.get? b = some o → h'.get? b = some o) : (hideAll h as).StaysIn (hideAll h' bs) := by
  intro b o e
  have hb : b ∉ as := fun q => by rw [hideAll_none _ q] at e; cases e
  exact hideAll_get bs (k b o hb (of_hideAll _ e)) fun q => hb (hs b q)
theorem hide_up {h : Heap} {as : List Addr} : (hideAll h as).StaysIn h := fun _ _ e => of_hideAll _ e

theorem comp_gen {Pm : Nat → (Str → Option Value) → Prop} {St : Nat → Heap → Prop} (W : CDraw prog w A target scope cl env I fp wr n Pm St) (hsz : n ≤ sizeLine) {s₂ : Shared} {b₀ : Heap} {RR : Value → Addr → Result → Shared → Prop}
    (hst : St 0 s₂.heap) (hfp : ∀ b ∈ fp, b < s₂.heap.objs.size) (hb : ∀ b o, b₀.get? b = some o → b ∉ wr ∧ s₂.heap.get? b = some o)
    (J : Nat → List Value → Heap → Prop) (hmono : ∀ i ys h h', h.StaysIn h' → J i ys h → J i ys h') (hj : J 0 [] b₀)
    (turn : ∀ (C D : Addr) (i : Nat) (s : Shared) (ys : List Value) (m : Str → Option Value) (E' : Value → Shared → Prop), i < n → Pm i m → b₀.StaysIn (hideAll s.heap (C :: D :: wr)) → s.heap.Ns C m → J i ys (hideAll s.heap (C :: D :: wr)) →
      (∀ b ∈ C :: D :: wr, ∃ o, s.heap.get? b = some o) →
      wpAny (model prog w) A (eval elt (compEnvC scope cl C env)) (fun y s' => ∃ h' tk, s' = { s with heap := h', toks := tk } ∧ s.heap.StaysIn h' ∧ J (i + 1) (ys ++ [y]) (hideAll h' (C :: D :: wr))) E' s)
    (fin : ∀ (D C : Addr) (h' : Heap) (tk : Nat) (m' : Str → Option Value) (ys : List Value), b₀.get? D = none → b₀.get? C = none → D ≠ C → h'.Ns C m' → h'.PlainList D ys.toArray → b₀.StaysIn (hideAll h' [C, D]) → J n ys (hideAll h' [C, D]) → RR (.ref D) C (.ok .next) { s₂ with heap := h', toks := tk })
    (hcell : ∀ y ∈ scope.names, y.2 ≠ .cell) (hkind : scope.kind = .function) :
    wpAny (model prog w) A (newList []) (fun acc s₃ => wpAny (model prog w) A (newFunctionEnv scope env.globals cl [] env.qual none .none (some env)) (fun cenv s₄ =>
      codeAny (model prog w) A (.compStart (.ListComp elt [⟨target, iter, [], 0⟩] scope pos) 0 (.ref I) acc { cenv with scope := relabel scope env }) (RR acc cenv.locals) s₄) E s₃) E s₂ := by
  refine wpAny_newObj_type (wpAny_newFunctionEnv hcell (by intro y hy; simp at hy) (fun h₁ hns₁ hsb₁ => ?_) hkind)
  dsimp only at hns₁ hsb₁ ⊢
  generalize hH2 : s₂.heap.push { cls := .type "list", dict := none, data := .seq ([] : List Value).toArray } = H2 at hns₁ hsb₁ ⊢
  have hC : H2.objs.size = s₂.heap.objs.size + 1 := by rw [← hH2, Heap.size_push]
  have hDC : s₂.heap.objs.size ≠ H2.objs.size := by rw [hC]; exact Nat.ne_of_lt (Nat.lt_succ_self _)
  have below : ∀ b, b < s₂.heap.objs.size → b ≠ H2.objs.size ∧ b ≠ s₂.heap.objs.size := fun b hb => ⟨by rw [hC]; exact Nat.ne_of_lt (Nat.lt_succ_of_lt hb), Nat.ne_of_lt hb⟩
  have hDf : s₂.heap.objs.size ∉ fp := fun hm => Nat.lt_irrefl _ (hfp _ hm)
  have hCf : H2.objs.size ∉ fp := fun hm => by have := hfp _ hm; rw [hC] at this; exact Nat.lt_irrefl _ (Nat.lt_of_succ_lt this)
  have hDw : s₂.heap.objs.size ∉ wr := fun h => hDf (W.sub _ h)
  have hCw : H2.objs.size ∉ wr := fun h => hCf (W.sub _ h)
  have old : ∀ b o, s₂.heap.get? b = some o → h₁.get? b = some o := fun b o e => hsb₁.extBut b o (below b (Heap.lt_size e)).1 (Heap.get?_push_of_some _ (hH2 ▸ Heap.get?_push_of_some _ e))
  have hacc : h₁.PlainList s₂.heap.objs.size #[] := ⟨_, hsb₁.extBut _ _ hDC (Heap.get?_push_of_some _ (hH2 ▸ Heap.get?_push_size _ rfl))⟩
  have hst₁ : St 0 h₁ := W.frame _ _ _ hst fun b _ o e => old b o e
  have fresh : ∀ a, s₂.heap.objs.size ≤ a → b₀.get? a = none := fun a ha => by
    cases e : b₀.get? a with
    | none => rfl
    | some o' => exact absurd (Heap.lt_size (hb _ _ e).2) (Nat.not_lt.mpr ha)
  have hD₀ : b₀.get? s₂.heap.objs.size = none := fresh _ (Nat.le_refl _)
  have hC₀ : b₀.get? H2.objs.size = none := fresh _ (by rw [hC]; exact Nat.le_succ _)
  have hb1 : b₀.StaysIn (hideAll h₁ (H2.objs.size :: s₂.heap.objs.size :: wr)) := fun b o e => hideAll_get _ (old _ _ (hb _ _ e).2) fun q => by
    rcases List.mem_cons.mp q with q | q
    · rw [q, hC₀] at e; cases e
    · rcases List.mem_cons.mp q with q | q
      · rw [q, hD₀] at e; cases e
      · exact (hb _ _ e).1 q
  generalize hHC : H2.objs.size = C at *
  generalize hHD : s₂.heap.objs.size = D at *
  have loop : ∀ s₃ : Shared, s₃ = { s₂ with heap := h₁, toks := s₂.toks + ([] : List (Str × Value)).length } →
      codeAny (model prog w) A (.compLoop (.ListComp elt [⟨target, iter, [], 0⟩] scope pos) 0 (.ref I) (.ref D) (compEnvC scope cl C env)) (RR (.ref D) C) s₃ := by
    rintro s₃ rfl
    refine kcp_loop (fun k s' => ∃ h' tk i ys m', s' = { s₂ with heap := h', toks := tk } ∧ i ≤ n ∧ k = n + 1 - i ∧ ys.length = i ∧ St i h' ∧ h'.Ns C m' ∧ h'.PlainList D ys.toArray ∧ b₀.StaysIn (hideAll h' (C :: D :: wr)) ∧ J i ys (hideAll h' (C :: D :: wr))) ?_ (n + 1)
      ⟨h₁, _, 0, [], _, rfl, Nat.zero_le _, rfl, rfl, hst₁, hns₁, hacc, hb1, hmono _ _ _ _ hb1 hj⟩
    rintro k s' ⟨h', tk, i, ys, m', rfl, hi, rfl, hyl, hst', hn', hpl, hb', hj'⟩
    by_cases hlt : i < n
    · refine W.draw C i _ m' _ _ _ hlt hst' hn' hCf fun h₂ tk₂ m₂ hP hn₂ hst₂ hk₂ => ?_
      have hk2 : ∀ b o, b ∉ C :: D :: wr → h'.get? b = some o → h₂.get? b = some o := fun b o q e => hk₂ b o (fun z => q (by
        rcases List.mem_cons.mp z with z | z
        · exact z ▸ .head _
        · exact .tail _ (.tail _ z))) e
      have hst2 := hide_stays hk2
      have hD2 : h₂.PlainList D ys.toArray := hpl.at fun o e => hk₂ D o (fun z => by
        rcases List.mem_cons.mp z with z | z
        · exact hDC z
        · exact hDw z) e
      have hlive : ∀ b ∈ C :: D :: wr, ∃ o, h₂.get? b = some o := fun b hbm => by
        rcases List.mem_cons.mp hbm with rfl | hbm
        · obtain ⟨o, _, _, e, _⟩ := hn₂; exact ⟨o, e⟩
        · rcases List.mem_cons.mp hbm with rfl | hbm
          · obtain ⟨_, e⟩ := hD2; exact ⟨_, e⟩
          · exact W.live _ _ hst₂ b hbm
      refine wpAny_mono (turn C D i _ ys m₂ _ hlt hP (fun b o e => hst2 b o (hb' b o e)) hn₂ (hmono _ _ _ _ hst2 hj') hlive) (fun y s₄ h₄ => ?_) fun _ _ e => e
      obtain ⟨h₄, tk₄, rfl, hk₄, hj₄⟩ := h₄
      obtain ⟨nD, eD⟩ := hD2
      have eD4 : h₄.get? D = some _ := hk₄ _ _ eD
      refine append_at (hsz := by show ys.toArray.size ≤ sizeLine; rw [List.size_toArray, hyl]; exact Nat.le_trans hi hsz) eD4 fun h₅ hs₅ hD₅ => ?_
      refine ⟨n + 1 - (i + 1), by omega, h₅, tk₄, i + 1, ys ++ [y], m₂, rfl, hlt, rfl, by rw [List.length_append, List.length_singleton, hyl], ?_, ?_, ?_, ?_, ?_⟩
      · exact W.frame _ _ _ hst₂ fun b hb o e => hs₅.extBut b o (fun q => hDf (q ▸ hb)) (hk₄ _ _ e)
      · exact (hn₂.at' fun o e => hk₄ _ _ e).at' fun o e => hs₅.extBut _ _ (Ne.symm hDC) e
      · exact ⟨nD + 1, hD₅.trans (by simp)⟩
      · exact fun b o e => hideAll_get _ (hs₅.extBut _ _ (fun q => by rw [q, hD₀] at e; cases e) (hk₄ _ _ (hide_up _ _ (hst2 _ _ (hb' _ _ e))))) fun q => by
          have := hb' b o e
          rw [hideAll_none _ q] at this; cases this
      · exact hmono _ _ _ _ (hide_stays fun b o q e => hs₅.extBut b o (fun z => q (z ▸ .tail _ (.head _))) e) hj₄
    · obtain rfl : i = n := Nat.le_antisymm hi (Nat.not_lt.mp hlt)
      refine W.done _ _ _ hst' fun h₂ tk₂ hk₂ => ?_
      have hs2 : (hideAll h' (C :: D :: wr)).StaysIn (hideAll h₂ [C, D]) := hide_less (fun b hb => by
        rcases List.mem_cons.mp hb with rfl | hb
        · exact .head _
        · rw [List.mem_singleton.mp hb]; exact .tail _ (.head _)) fun b o q e => hk₂ b o (fun z => q (.tail _ (.tail _ z))) e
      exact fin D C h₂ tk₂ m' ys hD₀ hC₀ hDC (hn'.at' fun o e => hk₂ _ o hCw e) (hpl.at fun o e => hk₂ _ o hDw e) (fun b o e => hs2 b o (hb' b o e)) (hmono _ _ _ _ hs2 hj')
  exact codeAny_compStart_list (loop _ rfl) (W.self 0 _ _ _ hst₁ (loop _ rfl))
end
end
section
section
variable {prog : Program} {w : World} {A : Around} {E : Value → Shared → Prop} {env : Env} {elt target iter : Expr} {scope : Scope} {cl : List (Str × Addr)} {pos : Pos} {I : Addr} {fp wr : List Addr} {n : Nat} {x y : Str} {px py tp : Pos} {kk : Nat} {ifs : List Expr}
  {Q : Value → Shared → Prop} {RR : Value → Addr → Result → Shared → Prop}
theorem CDraw.ofW {P : Nat → Value → Prop} {St : Nat → Heap → Prop} (W : Walks prog w A I fp wr n P St) (hl : ∀ i h, St i h → ∀ b ∈ wr, ∃ o, h.get? b = some o)
    (hx : scope.names.lookup x = some .local) (hkind : scope.kind = .function) :
    CDraw prog w A (.Name x px) scope cl env I fp wr n (fun i m => ∃ v, P i v ∧ m x = some v) St where
  sub := W.sub
  frame := W.frame
  live := hl
  done := W.done
  self := W.self
  draw := fun C i s m R0 K E hi hst hn hC h => by
    refine W.item i s _ _ hi hst fun v h' tk hP hst' hk => ?_
    refine wpAny_pure ?_
    have hCw : C ∉ wr := fun q => hC (W.sub _ q)
    refine wpAny_assign_Name (wpAny_storeName_local (lookup_relabel_local hx) (hn.at' fun o e => hk C o hCw e) (fun h₃ hn₃ hs₃ => ?_) (by simp [compEnvC, relabel, hkind]))
    exact h h₃ _ _ ⟨v, hP, by simp⟩ hn₃ (W.frame _ _ _ hst' fun b hb o e => hs₃.extBut b o (fun q => hC ((show b = C from q) ▸ hb)) e) fun b o hb e => hs₃.extBut b o (fun q => hb ((show b = C from q) ▸ .head _)) (hk b o (fun q => hb (.tail _ q)) e)
theorem CDraw.ofU {Pt : Nat → Array Value → Prop} {St : Nat → Heap → Prop} {Mid : Nat → Addr → Heap → Prop} (hh : A.handled = none) (W : WalksU prog w A I fp wr n Pt St Mid) (hl : ∀ i h, St i h → ∀ b ∈ wr, ∃ o, h.get? b = some o)
    (h2 : ∀ i vals, Pt i vals → ∃ a b, vals = #[a, b]) (hxy : x ≠ y)
    (hx : scope.names.lookup x = some .local) (hy : scope.names.lookup y = some .local) (hkind : scope.kind = .function) :
    CDraw prog w A (.Tuple [.Name x px, .Name y py] kk tp) scope cl env I fp wr n (fun i m => ∃ a b, Pt i #[a, b] ∧ m x = some a ∧ m y = some b) St where
  sub := W.sub
  frame := W.frame
  live := hl
  done := W.done
  self := W.self
  draw := fun C i s m R0 K E hi hst hn hC h => by
    have hCw : C ∉ wr := fun q => hC (W.sub _ q)
    refine W.item i s _ _ hi hst fun T vals h' tk hP hT hm hk => ?_
    obtain ⟨a, b, rfl⟩ := h2 _ _ hP
    refine W.go _ _ _ i T _ _ _ hm fun h₂ hst₂ hk₂ => ?_
    have hT₂ : h₂.IsTuple T #[a, b] := hT.at fun o e => hk₂ T o (W.apart i T h' hm) e
    refine kcp_assign hh hT₂ (lookup_relabel_local hx) (lookup_relabel_local hy) (by simp [compEnvC, relabel, hkind]) ((hn.at' fun o e => hk C o hCw e).at' fun o e => hk₂ C o hCw e) fun h₃ tk₃ hn₃ hk₃ => ?_
    exact h h₃ _ _ ⟨a, b, hP, by simp [hxy], by simp⟩ hn₃ (W.frame _ _ _ hst₂ fun b hb o e => hk₃ b o (fun q => hC ((show b = C from q) ▸ hb)) e) fun b o hb e => hk₃ b o (fun q => hb ((show b = C from q) ▸ .head _)) (hk₂ b o (fun q => hb (.tail _ q)) (hk b o (fun q => hb (.tail _ q)) e))

/-- a comprehension behind its source, any target -/
def CompAtT (prog : Program) (w : World) (A : Around) (env : Env) (elt : Expr) (g : Comprehension) (gs : List Comprehension) (scope : Scope) (pos : Pos) (cl : List (Str × Addr)) (RR : Value → Addr → Result → Shared → Prop) (E : Value → Shared → Prop) (xv : Value) (s₁ : Shared) : Prop :=
  wpAny (model prog w) A (pyIter xv) (fun it s₂ => wpAny (model prog w) A (newList []) (fun acc s₃ =>
      wpAny (model prog w) A (newFunctionEnv scope env.globals cl [] env.qual none .none (some env)) (fun cenv s₄ =>
        codeAny (model prog w) A (.compStart (.ListComp elt (g :: gs) scope pos) 0 it acc { cenv with scope := relabel scope env }) (RR acc cenv.locals) s₄) E s₃) E s₂) E s₁
theorem comp_openT {s : Shared} {gs : List Comprehension} (hclos : closureFor scope env = pure cl) (h : wpAny (model prog w) A (eval iter env) (fun xv s₁ => CompAtT prog w A env elt ⟨target, iter, ifs, 0⟩ gs scope pos cl (CQ prog w A E Q) E xv s₁) E s)
    (hkind : scope.kind = .function := by rfl) (hnames : ∀ x ∈ scope.names, x.2 = .local → scope.names.lookup x.1 = some .local := by decide) (hs : ∀ x, foldedSetIterable iter env x = pure x := by intro _; rfl) :
    wpAny (model prog w) A (eval (.ListComp elt (⟨target, iter, ifs, 0⟩ :: gs) scope pos) env) Q E s := by
  rw [eval_ListComp]
  exact wpAny_comprehension_free (use := none) rfl hs hclos hkind hnames h

theorem cqT_end {b₀ : Heap} {D C : Addr} {s₁ : Shared} {h' : Heap} {tk : Nat} {m' : Str → Option Value} {ys : List Value} {n : Nat} (J : Nat → List Value → Heap → Prop) (hmono : ∀ i ys h h', h.StaysIn h' → J i ys h → J i ys h')
    (hDC : D ≠ C) (hn : h'.Ns C m') (hpl : h'.PlainList D ys.toArray) (hk : b₀.StaysIn (hideAll h' [C, D])) (hj : J n ys (hideAll h' [C, D]))
    (h : ∀ h'', h''.PlainList D ys.toArray → b₀.StaysIn h'' → J n ys (hideAll h'' [D]) → Q (.ref D) { s₁ with heap := h'', toks := tk }) : CQ prog w A E Q (.ref D) C (.ok .next) { s₁ with heap := h', toks := tk } :=
  ⟨m', hn, fun h'' hs'' => by
    have e1 : (hideAll h' [C, D]).StaysIn (hideAll h'' [D]) := hide_less (fun b hb => .tail _ hb) fun b o q e => hs''.extBut b o (fun z => q (z ▸ .head _)) e
    exact h h'' (hpl.extBut hs''.extBut hDC) (fun b o e => hide_up _ _ (e1 _ _ (hk b o e))) (hmono _ _ _ _ e1 hj)⟩

/-- what a turn's element must show -/
abbrev ElemAt (prog : Program) (w : World) (A : Around) (elt : Expr) (scope : Scope) (cl : List (Str × Addr)) (env : Env) (b₀ : Heap) (J : Nat → List Value → Heap → Prop) (n : Nat) (Pm : Nat → (Str → Option Value) → Prop) : Prop :=
  ∀ (C : Addr) (as : List Addr) (i : Nat) (s : Shared) (ys : List Value) (m : Str → Option Value) (E' : Value → Shared → Prop), i < n → Pm i m → b₀.StaysIn s.heap → b₀.StaysIn (hideAll s.heap as) → s.heap.Ns C m → J i ys (hideAll s.heap as) →
      (∀ b ∈ as, ∃ o, s.heap.get? b = some o) →
      wpAny (model prog w) A (eval elt (compEnvC scope cl C env)) (fun y s' => ∃ h' tk, s' = { s with heap := h', toks := tk } ∧ s.heap.StaysIn h' ∧ J (i + 1) (ys ++ [y]) (hideAll h' as)) E' s

theorem compT_gen {Pm : Nat → (Str → Option Value) → Prop} {St : Nat → Heap → Prop} {s₁ s₂ : Shared} (W : CDraw prog w A target scope cl env I fp wr n Pm St) (hsz : n ≤ sizeLine)
    (hst : St 0 s₂.heap) (hfp : ∀ b ∈ fp, b < s₂.heap.objs.size) (hb : ∀ b o, s₁.heap.get? b = some o → b ∉ wr ∧ s₂.heap.get? b = some o) (hs : ∃ h tk, s₂ = { s₁ with heap := h, toks := tk })
    (J : Nat → List Value → Heap → Prop) (hmono : ∀ i ys h h', h.StaysIn h' → J i ys h → J i ys h') (hj : J 0 [] s₁.heap)
    (turn : ElemAt prog w A elt scope cl env s₁.heap J n Pm)
    (fin : ∀ (D : Addr) (h' : Heap) (tk : Nat) (ys : List Value), s₁.heap.get? D = none → h'.PlainList D ys.toArray → s₁.heap.StaysIn h' → J n ys (hideAll h' [D]) → Q (.ref D) { s₁ with heap := h', toks := tk })
    (hcell : ∀ y ∈ scope.names, y.2 ≠ .cell) (hkind : scope.kind = .function) :
    wpAny (model prog w) A (newList []) (fun acc s₃ => wpAny (model prog w) A (newFunctionEnv scope env.globals cl [] env.qual none .none (some env)) (fun cenv s₄ =>
      codeAny (model prog w) A (.compStart (.ListComp elt [⟨target, iter, [], 0⟩] scope pos) 0 (.ref I) acc { cenv with scope := relabel scope env }) (CQ prog w A E Q acc cenv.locals) s₄) E s₃) E s₂ := by
  obtain ⟨hx, tkx, rfl⟩ := hs
  refine comp_gen W hsz hst hfp hb J hmono hj (fun C D i s ys m E' hi hP h1 h2 h3 h4 => turn C _ i s ys m E' hi hP (fun b o e => hide_up _ _ (h1 _ _ e)) h1 h2 h3 h4) (fun D C h' tk m' ys hD hC hDC hn hpl hk hj => ?_) hcell hkind
  exact cqT_end (s₁ := s₁) J hmono hDC hn hpl hk hj fun h'' a b c => fin D h'' tk ys hD a b c

/-- the source is a list that stands -/
theorem compT_list {l : Addr} {items : Array Value} {s₁ : Shared} (hh : A.handled = none) (hl : s₁.heap.IsList l items) (hsz : items.size ≤ sizeLine)
    (J : Nat → List Value → Heap → Prop) (hmono : ∀ i ys h h', h.StaysIn h' → J i ys h → J i ys h') (hj : J 0 [] s₁.heap)
    (turn : ElemAt prog w A elt scope cl env s₁.heap J items.size (fun i m => ∃ v, items[i]? = some v ∧ m x = some v))
    (fin : ∀ (D : Addr) (h' : Heap) (tk : Nat) (ys : List Value), s₁.heap.get? D = none → h'.PlainList D ys.toArray → s₁.heap.StaysIn h' → J items.size ys (hideAll h' [D]) → Q (.ref D) { s₁ with heap := h', toks := tk })
    (hcell : ∀ y ∈ scope.names, y.2 ≠ .cell := by decide) (hkind : scope.kind = .function := by rfl) (hx : scope.names.lookup x = some .local := by rfl) :
    CompAtT prog w A env elt ⟨.Name x px, iter, [], 0⟩ [] scope pos cl (CQ prog w A E Q) E (.ref l) s₁ := by
  obtain ⟨ol, hol, _⟩ := id hl
  have hlt : l < s₁.heap.objs.size := Heap.lt_size hol
  refine wpAny_pyIter_list hl (compT_gen (s₁ := s₁) (CDraw.ofW (Walks.list hh s₁.heap.objs.size l (Nat.ne_of_lt hlt) items) (fun i h st b hb => by obtain ⟨⟨o, e, _⟩, _⟩ := st; exact ⟨o, List.mem_singleton.mp hb ▸ e⟩) hx hkind) hsz ⟨⟨_, Heap.get?_push_size _ rfl, rfl, rfl⟩, hl.push _⟩ ?_ ?_ ⟨_, _, rfl⟩ J hmono hj turn fin hcell hkind)
  · intro b hb
    show b < (s₁.heap.push _).objs.size
    rw [Heap.size_push]
    rcases List.mem_cons.mp hb with rfl | hb
    · exact Nat.lt_succ_self _
    · rw [List.mem_singleton.mp hb]; exact Nat.lt_succ_of_lt hlt
  · exact fun b o e => ⟨fun q => absurd (Heap.lt_size e) (by rw [List.mem_singleton.mp q]; exact Nat.lt_irrefl _), Heap.get?_push_of_some _ e⟩
/-- the source is a text of low signs -/
theorem compT_str {t : Tok} {ws : List Nat} {s₁ : Shared} (hh : A.handled = none) (ha : (mk ws).cps.all (· < 128) = true) (hsz : ws.length ≤ sizeLine)
    (J : Nat → List Value → Heap → Prop) (hmono : ∀ i ys h h', h.StaysIn h' → J i ys h → J i ys h') (hj : J 0 [] s₁.heap)
    (turn : ElemAt prog w A elt scope cl env s₁.heap J ws.length (fun i m => ∃ c u, ws[i]? = some c ∧ m x = some (.str (mk [c]) u)))
    (fin : ∀ (D : Addr) (h' : Heap) (tk : Nat) (ys : List Value), s₁.heap.get? D = none → h'.PlainList D ys.toArray → s₁.heap.StaysIn h' → J ws.length ys (hideAll h' [D]) → Q (.ref D) { s₁ with heap := h', toks := tk })
    (hcell : ∀ y ∈ scope.names, y.2 ≠ .cell := by decide) (hkind : scope.kind = .function := by rfl) (hx : scope.names.lookup x = some .local := by rfl) :
    CompAtT prog w A env elt ⟨.Name x px, iter, [], 0⟩ [] scope pos cl (CQ prog w A E Q) E (.str (mk ws) t) s₁ := by
  refine wpAny_pyIter_ascii ha ?_
  have W := CDraw.ofW (px := px) (cl := cl) (env := env) (Walks.strAscii (prog := prog) (w := w) hh s₁.heap.objs.size (mk ws) t) (fun i h st b hb => by obtain ⟨o, e, _⟩ := st; exact ⟨o, List.mem_singleton.mp hb ▸ e⟩) hx hkind
  have hn : (mk ws).cps.size = ws.length := by simp
  rw [hn] at W
  refine compT_gen (s₁ := s₁) W hsz ⟨_, Heap.get?_push_size _ rfl, rfl, rfl⟩ ?_ ?_ ⟨_, _, rfl⟩ J hmono hj ?_ fin hcell hkind
  · intro b hb
    show b < (s₁.heap.push _).objs.size
    rw [Heap.size_push, List.mem_singleton.mp hb]
    exact Nat.lt_succ_self _
  · exact fun b o e => ⟨fun q => absurd (Heap.lt_size e) (by rw [List.mem_singleton.mp q]; exact Nat.lt_irrefl _), Heap.get?_push_of_some _ e⟩
  · rintro C as i s ys m E' hi ⟨v, ⟨c, u, hc, rfl⟩, hm⟩ h1 h2 h3 h4 h5
    exact turn C as i s ys m E' hi ⟨c, u, by simpa using hc, hm⟩ h1 h2 h3 h4 h5
end
end
section
section
variable {prog : Program} {w : World} {A : Around} {E : Value → Shared → Prop} {env : Env} {elt iter : Expr} {scope : Scope} {cl : List (Str × Addr)} {pos : Pos} {x y : Str} {px py tp : Pos} {kk : Nat} {Q : Value → Shared → Prop}
/-- the source is a list of pairs that stand -/
theorem compT_pairs {l : Addr} {vs : List Value} {cs hol : List Nat} {as : List Addr} {s₁ : Shared} (hh : A.handled = none) (hl : s₁.heap.IsList l vs.toArray) (hp : Prs hol as s₁.heap vs cs) (hsz : vs.length ≤ 1000000)
    (J : Nat → List Value → Heap → Prop) (hmono : ∀ i ys h h', h.StaysIn h' → J i ys h → J i ys h') (hj : J 0 [] s₁.heap)
    (turn : ElemAt prog w A elt scope cl env s₁.heap J vs.length (fun i m => ∃ c t u, cs[i]? = some c ∧ m x = some (.str (mk [c]) t) ∧ m y = some (.str (mk hol) u)))
    (fin : ∀ (D : Addr) (h' : Heap) (tk : Nat) (ys : List Value), s₁.heap.get? D = none → h'.PlainList D ys.toArray → s₁.heap.StaysIn h' → J vs.length ys (hideAll h' [D]) → Q (.ref D) { s₁ with heap := h', toks := tk })
    (hxy : x ≠ y := by decide) (hcell : ∀ y ∈ scope.names, y.2 ≠ .cell := by decide) (hkind : scope.kind = .function := by rfl) (hx : scope.names.lookup x = some .local := by rfl) (hy : scope.names.lookup y = some .local := by rfl) :
    CompAtT prog w A env elt ⟨.Tuple [.Name x px, .Name y py] kk tp, iter, [], 0⟩ [] scope pos cl (CQ prog w A E Q) E (.ref l) s₁ := by
  obtain ⟨ol, hol', _⟩ := id hl
  have hlt : l < s₁.heap.objs.size := Heap.lt_size hol'
  have hex : ∀ j : Nat, ∃ z : Addr × Array Value, j < vs.length → vs[j]? = some (.ref z.1) ∧ s₁.heap.IsTuple z.1 z.2 ∧ ∃ c t u, cs[j]? = some c ∧ z.2 = #[.str (mk [c]) t, .str (mk hol) u] := fun j => by
    by_cases hj : j < vs.length
    · obtain ⟨c, hc, T, t, u, e, _, hT⟩ := Paired.getL hp (List.getElem?_eq_getElem hj)
      exact ⟨(T, #[.str (mk [c]) t, .str (mk hol) u]), fun _ => ⟨by rw [List.getElem?_eq_getElem hj, e], hT, c, t, u, hc, rfl⟩⟩
    · exact ⟨(0, #[]), fun h => absurd h hj⟩
  obtain ⟨f, hf⟩ := Classical.skolem.mp hex
  have hsz' : vs.toArray.size = vs.length := by simp
  have W := WalksU.listOfTuples (prog := prog) (w := w) hh s₁.heap.objs.size l (Nat.ne_of_lt hlt) vs.toArray (fun j => (f j).1) (fun j => (f j).2)
    (fun j hj => by rw [List.getElem?_toArray]; exact (hf j (hsz' ▸ hj)).1) (fun j hj => by
      obtain ⟨o, e, _⟩ := (hf j (hsz' ▸ hj)).2.1
      exact Nat.ne_of_lt (Heap.lt_size e))
  refine wpAny_pyIter_list hl (compT_gen (s₁ := s₁) (CDraw.ofU hh W.bound (fun i h st b hb => by obtain ⟨⟨o, e, _⟩, _⟩ := st; exact ⟨o, List.mem_singleton.mp hb ▸ e⟩) (fun i vals ⟨hi, e⟩ => ?_) hxy hx hy hkind) (by rw [hsz', sizeLine_eq]; omega)
    ⟨⟨_, Heap.get?_push_size _ rfl, rfl, rfl⟩, hl.push _, fun k hk => (hf k (hsz' ▸ hk)).2.1.push _⟩ ?_ ?_ ⟨_, _, rfl⟩ J hmono hj ?_ (by rw [hsz']; exact fin) hcell hkind)
  · obtain ⟨_, _, c, t, u, _, e2⟩ := hf i (hsz' ▸ hi)
    exact ⟨_, _, e.trans e2⟩
  · intro b hb
    show b < (s₁.heap.push _).objs.size
    rw [Heap.size_push]
    rcases List.mem_cons.mp hb with rfl | hb
    · exact Nat.lt_succ_self _
    · rcases List.mem_cons.mp hb with rfl | hb
      · exact Nat.lt_succ_of_lt hlt
      · obtain ⟨j, hj, rfl⟩ := List.mem_map.mp hb
        obtain ⟨o, e, _⟩ := (hf j (hsz' ▸ List.mem_range.mp hj)).2.1
        exact Nat.lt_succ_of_lt (Heap.lt_size e)
  · exact fun b o e => ⟨fun q => absurd (Heap.lt_size e) (by rw [List.mem_singleton.mp q]; exact Nat.lt_irrefl _), Heap.get?_push_of_some _ e⟩
  · rintro C as i s ys m E' hi ⟨a, b, ⟨hi2, hab⟩, hm1, hm2⟩ h1 h2 h3 h4 h5
    obtain ⟨_, _, c, t, u, hc, e2⟩ := hf i (hsz' ▸ hi)
    rw [e2] at hab
    simp only [Array.mk.injEq, List.cons.injEq, and_true] at hab
    obtain ⟨rfl, rfl⟩ := hab
    exact turn C as i s ys m E' (hsz' ▸ hi) ⟨c, t, u, hc, hm1, hm2⟩ h1 h2 h3 h4 h5
end
theorem take_succ_map {α β : Type} (f : α → β) {l : List α} {i : Nat} {a : α} (h : l[i]? = some a) : (l.take (i + 1)).map f = (l.take i).map f ++ [f a] := by
  rw [List.take_add_one, h]
  simp
end
section
section
variable {prog : Program} {w : World} {A : Around} {E : Value → Shared → Prop} {s : Shared} {env : Env} {Q : Flow → Shared → Prop} {x : Str} {px pos : Pos} {body : List Stmt} {h₀ : Heap} {L : Addr}
/-- a for over a text of low signs -/
theorem for_str {ws : List Nat} {t : Tok} (hh : A.handled = none) (hL : env.locals = L) (ha : (mk ws).cps.all (· < 128) = true) (J : Nat → (Str → Option Value) → List (Addr × Obj) → Prop) {m₀ : Str → Option Value} {led₀ : List (Addr × Obj)}
    (F : Fr h₀ L s.heap m₀) (N : News h₀ L s.heap led₀) (hj : J 0 m₀ led₀)
    (turn : ∀ (I : Addr) (i : Nat) (h : Heap) (tk : Nat) (m : Str → Option Value) (led : List (Addr × Obj)) (oI : Obj) (c : Nat) (u : Tok), i < ws.length → ws[i]? = some c → J i m led → Fr h₀ L h m → News h₀ L h ((I, oI) :: led) → (∀ q ∈ led, q.1 ≠ I) →
      wpAny (model prog w) A (storeName env x (.str (mk [c]) u)) (fun _ s₂ => wpAny (model prog w) A (execs body env) (fun f s₃ => match f with
          | .next | .cont => TurnEnd h₀ L I oI [] (J (i + 1)) h s s₃
          | .brk => Q .next s₃
          | .ret v => Q (.ret v) s₃) (fun _ _ => False) s₂) (fun _ _ => False) { s with heap := h, toks := tk })
    (done : ∀ (h : Heap) (tk : Nat) (m : Str → Option Value) (led : List (Addr × Obj)), J ws.length m led → Fr h₀ L h m → News h₀ L h led → Q .next { s with heap := h, toks := tk }) :
    ForAt prog w A env x px body Q E (.str (mk ws) t) s := by
  have hn : (mk ws).cps.size = ws.length := by simp
  refine wpAny_pyIter_ascii ha ?_
  have W := Walks.strAscii (prog := prog) (w := w) hh s.heap.objs.size (mk ws) t
  rw [hn] at W
  refine for_N (s := { s with heap := s.heap.push _ }) W (.type "str_ascii_iterator") (fun i h ⟨o, e, c, _⟩ => ⟨o, e, c⟩) hL J (F.push _) (N.push F _) (fun q hq e => ?_) (by simp) ⟨_, Heap.get?_push_size _ rfl, rfl, rfl⟩ hj ?_ done
  · exact absurd (Heap.lt_size (N q hq).1) (by rw [e]; exact Nat.lt_irrefl _)
  · rintro i h tk m led oI v hi hj ⟨c, u, hc, rfl⟩ F' N' hne _ _
    exact turn _ i h tk m led oI c u hi (by simpa using hc) hj F' N' hne
end
/-- the pairs of a table lie in a ledger -/
def TB (hol : List Nat) (tb : List (Addr × Obj)) (vs : List Value) (cs : List Nat) : Prop :=
  Paired (fun v c => ∃ T o t u n, v = Value.ref T ∧ (T, o) ∈ tb ∧ o.cls = .type "tuple" ∧ o.data = .seq #[.str (mk [c]) t, .str (mk hol) u] n) vs cs
theorem TB.prs {hol : List Nat} {tb : List (Addr × Obj)} {vs : List Value} {cs : List Nat} {as : List Addr} {h : Heap} (B : TB hol tb vs cs) (hm : ∀ q ∈ tb, h.get? q.1 = some q.2) (ha : ∀ q ∈ tb, q.1 ∉ as) : Prs hol as h vs cs :=
  Paired.imp (fun _ _ ⟨T, o, t, u, n, e, hq, hc, hd⟩ => ⟨T, t, u, e, ha _ hq, o, hm _ hq, hc, n, hd⟩) B
theorem TB.of : ∀ {hol : List Nat} {tb : List (Addr × Obj)} {as : List Addr} {h : Heap} {vs : List Value} {cs : List Nat}, (∀ v ∈ vs, ∃ T o, v = Value.ref T ∧ (T, o) ∈ tb) → (∀ q ∈ tb, h.get? q.1 = some q.2) → Prs hol as h vs cs → TB hol tb vs cs
  | _, _, _, _, _, _, _, _, .nil => .nil
  | _, _, _, _, _, _, hs, hm, .cons ⟨T, t, u, e, _, o, ho, hc, n, hd⟩ r => by
    subst e
    obtain ⟨T', o', e', hq⟩ := hs _ (.head _)
    cases e'
    have := hm _ hq
    rw [ho] at this; cases this
    exact .cons ⟨T, o', t, u, n, rfl, hq, hc, hd⟩ (TB.of (fun v hv => hs v (.tail _ hv)) hm r)
theorem TB.mem {hol : List Nat} {tb : List (Addr × Obj)} {vs : List Value} {cs : List Nat} (B : TB hol tb vs cs) : ∀ v ∈ vs, ∃ T o, v = Value.ref T ∧ (T, o) ∈ tb := by
  intro v hv
  obtain ⟨i, hi, rfl⟩ := List.mem_iff_getElem.mp hv
  obtain ⟨c, _, T, o, t, u, n, e, hq, _⟩ := Paired.getL B (List.getElem?_eq_getElem hi)
  exact ⟨T, o, e, hq⟩
/-- fresh pairs make a ledger -/
theorem TB.make {hol : List Nat} {as : List Addr} {h b₀ : Heap} : ∀ {vs : List Value} {cs : List Nat}, Paired (fun v c => ∃ T t u, v = Value.ref T ∧ b₀.get? T = none ∧ T ∉ as ∧ h.IsTuple T #[.str (mk [c]) t, .str (mk hol) u]) vs cs →
    ∃ tb, TB hol tb vs cs ∧ ∀ q ∈ tb, h.get? q.1 = some q.2 ∧ b₀.get? q.1 = none ∧ q.1 ∉ as
  | _, _, .nil => ⟨[], .nil, fun _ h => nomatch h⟩
  | _, _, .cons ⟨T, t, u, e, hb, ha, o, ho, hc, n, hd⟩ r => by
    subst e
    obtain ⟨tb, B, hq⟩ := TB.make r
    refine ⟨(T, o) :: tb, .cons ⟨T, o, t, u, n, rfl, .head _, hc, hd⟩ (Paired.imp (fun _ _ ⟨T, o, t, u, n, e, h1, h2⟩ => ⟨T, o, t, u, n, e, .tail _ h1, h2⟩) B), fun q hq' => ?_⟩
    rcases List.mem_cons.mp hq' with rfl | hq'
    · exact ⟨ho, hb, ha⟩
    · exact hq q hq'
theorem letters_ascii (m : Nat) : (mk (letters m)).cps.all (· < 128) = true := by
  simp only [mk_cps, List.all_toArray, List.all_eq_true]
  intro c hc
  have := letters_low hc
  simp only [isLow, Bool.and_eq_true, decide_eq_true_eq] at this
  exact decide_eq_true (by omega)
end
section
/-- the places of a zip lie apart -/
structure ZipPts (z TI TO i1 i2 : Addr) (fp1 fp2 : List Addr) : Prop where
  TIz : TI ≠ z
  TOz : TO ≠ z
  i1z : i1 ≠ z
  i2z : i2 ≠ z
  TITO : TI ≠ TO
  TIi1 : TI ≠ i1
  TIi2 : TI ≠ i2
  TOi1 : TO ≠ i1
  TOi2 : TO ≠ i2
  i12 : i1 ≠ i2
  f1 : z ∉ fp1 ∧ TO ∉ fp1 ∧ i2 ∉ fp1
  f2 : z ∉ fp2 ∧ TO ∉ fp2 ∧ i1 ∉ fp2
section
variable {prog : Program} {w : World} {A : Around} {E : Value → Shared → Prop} {s : Shared} {z TI TO i1 i2 : Addr} {fp1 fp2 : List Addr} {n : Nat} {P1 P2 : Nat → Value → Prop} {St1 St2 : Nat → Heap → Prop}
theorem zipD_next {i : Nat} {a b : Value} {Q : Value → Shared → Prop} (hA : A.handled = none) (D1 : ∀ A : Around, A.handled = none → Draws prog w A i1 fp1 n P1 St1) (D2 : ∀ A : Around, A.handled = none → Draws prog w A i2 fp2 n P2 St2) (Z : ZipPts z TI TO i1 i2 fp1 fp2)
    (hi : i < n) (hz : IsZip s.heap z TI TO .none) (hTI : IsPair s.heap TI (.ref i1) (.ref i2)) (hTO : IsPair s.heap TO a b) (h1 : St1 i s.heap) (h2 : St2 i s.heap)
    (hQ : ∀ x y h' tk, P1 i x → P2 i y → IsZip h' z TI TO (rawInt s.heap.objs.size) → IsPair h' TO x y → St1 (i + 1) h' → St2 (i + 1) h' → IsPair h' s.heap.objs.size x y →
      (∀ c o, c ≠ z → c ≠ TO → c ≠ i1 → c ≠ i2 → s.heap.get? c = some o → h'.get? c = some o) → Q (.ref s.heap.objs.size) { s with heap := h', toks := tk }) :
    wpAny (model prog w) A (Builtin.«zip.__next__» ⟨[.ref z], []⟩) (fun fin s' => ∃ v, fin = .done (.ret v) ∧ Q v s') E s := by
  have fr1 : ∀ {j : Nat} {h h' : Heap}, St1 j h → (∀ c o, c ∈ fp1 → h.get? c = some o → h'.get? c = some o) → St1 j h' := fun a k => (D1 A hA).frame _ _ _ a fun c hc o e => k c o hc e
  have fr2 : ∀ {j : Nat} {h h' : Heap}, St2 j h → (∀ c o, c ∈ fp2 → h.get? c = some o → h'.get? c = some o) → St2 j h' := fun a k => (D2 A hA).frame _ _ _ a fun c hc o e => k c o hc e
  show wpAny _ _ (field (.ref z) 2 >>= _) _ _ _
  refine wpAny_bind (wpAny_field hz rfl (x := .bool false) rfl ?_)
  show wpAny _ _ (field (.ref z) 3 >>= _) _ _ _
  refine wpAny_bind (wpAny_field hz rfl (x := .ref TI) rfl ?_)
  refine wpAny_bind (wpAny_seqItems hTI rfl ?_)
  show wpAny _ _ (Builtin.SmallTypes.ownedTupleIsFree (.ref z) >>= _) _ _ _
  refine wpAny_bind ?_
  unfold Builtin.SmallTypes.ownedTupleIsFree
  refine wpAny_bind (wpAny_field hz rfl (x := .none) rfl (wpAny_pure ?_))
  simp only [if_true]
  refine wpAny_bind (wpAny_rule ?_)
  refine wpAny_bind (wpAny_field hz rfl (x := .ref TO) rfl ?_)
  refine wpAny_bind (wpAny_setField_rec hz (by simp) fun h₁ hz₁ hs₁ => ?_)
  replace hz₁ : IsZip h₁ z TI TO .ellipsis := hz₁
  refine wpAny_bind ?_
  simp only [List.zipIdx_cons, List.zipIdx_nil, List.forIn_cons, List.forIn_nil]
  refine wpAny_bind (wpAny_bind (wpAny_onRaise ?_))
  show wpAny _ _ (Builtin.SmallTypes.nextOf (.ref i1) >>= _) _ _ _
  have st1 : St1 i h₁ := fr1 h1 fun c o hc e => hs₁.extBut _ _ (fun q => Z.f1.1 (q ▸ hc)) e
  refine wpAny_bind ((D1 _ (by first | exact hA | (show A.handled = none; exact hA))).item i _ _ _ hi st1 fun x h₂ tk₂ hx st1₂ hs₂ => wpAny_pure ?_)
  have hTO₂ : IsPair h₂ TO a b := hs₂.extBut _ _ Z.TOi1 (hs₁.extBut _ _ Z.TOz hTO)
  refine wpAny_bind (wpAny_seqItems hTO₂ rfl ?_)
  refine wpAny_bind (wpAny_updateSeq_pair hTO₂ fun h₃ hTO₃ hs₃ => ?_)
  replace hTO₃ : IsPair h₃ TO x b := hTO₃
  refine wpAny_bind (wpAny_letGo (wpAny_pure ?_))
  refine wpAny_bind (wpAny_bind (wpAny_onRaise ?_))
  show wpAny _ _ (Builtin.SmallTypes.nextOf (.ref i2) >>= _) _ _ _
  have st2 : St2 i h₃ := fr2 h2 fun c o hc e => hs₃.extBut _ _ (fun q => Z.f2.2.1 (q ▸ hc)) (hs₂.extBut _ _ (fun q => Z.f2.2.2 (q ▸ hc)) (hs₁.extBut _ _ (fun q => Z.f2.1 (q ▸ hc)) e))
  refine wpAny_bind ((D2 _ (by first | exact hA | (show A.handled = none; exact hA))).item i _ _ _ hi st2 fun y h₄ tk₄ hy st2₄ hs₄ => wpAny_pure ?_)
  have hTO₄ : IsPair h₄ TO x b := hs₄.extBut _ _ Z.TOi2 hTO₃
  refine wpAny_bind (wpAny_seqItems hTO₄ rfl ?_)
  refine wpAny_bind (wpAny_updateSeq_pair hTO₄ fun h₅ hTO₅ hs₅ => ?_)
  replace hTO₅ : IsPair h₅ TO x y := hTO₅
  refine wpAny_bind (wpAny_letGo (wpAny_pure (wpAny_pure ?_)))
  refine wpAny_bind (wpAny_seqItems hTO₅ rfl ?_)
  refine wpAny_bind (wpAny_newTuple ?_)
  have hsz : h₅.objs.size = s.heap.objs.size := by rw [hs₅.1, hs₄.1, hs₃.1, hs₂.1, hs₁.1]
  have hz₅ : IsZip h₅ z TI TO .ellipsis := hs₅.extBut _ _ Z.TOz.symm (hs₄.extBut _ _ Z.i2z.symm (hs₃.extBut _ _ Z.TOz.symm (hs₂.extBut _ _ Z.i1z.symm hz₁)))
  have hk₅ : ∀ c o, c ≠ z → c ≠ TO → c ≠ i1 → c ≠ i2 → s.heap.get? c = some o → h₅.get? c = some o := fun c o c1 c2 c3 c4 e =>
    hs₅.extBut _ _ c2 (hs₄.extBut _ _ c4 (hs₃.extBut _ _ c2 (hs₂.extBut _ _ c3 (hs₁.extBut _ _ c1 e))))
  have st1₅ : St1 (i + 1) h₅ := fr1 st1₂ fun c o hc e => hs₅.extBut _ _ (fun q => Z.f1.2.1 (q ▸ hc)) (hs₄.extBut _ _ (fun q => Z.f1.2.2 (q ▸ hc)) (hs₃.extBut _ _ (fun q => Z.f1.2.1 (q ▸ hc)) e))
  have st2₅ : St2 (i + 1) h₅ := fr2 st2₄ fun c o hc e => hs₅.extBut _ _ (fun q => Z.f2.2.1 (q ▸ hc)) e
  have hzlt : z < h₅.objs.size := Heap.lt_size hz₅
  show wpAny _ _ (Builtin.SmallTypes.ownedTupleHandOut (.ref z) (.ref h₅.objs.size) >>= _) _ _ _
  refine wpAny_bind ?_
  unfold Builtin.SmallTypes.ownedTupleHandOut
  have hz₆ : IsZip (h₅.push { cls := .type "tuple", data := .seq #[x, y] }) z TI TO .ellipsis := Heap.get?_push_of_some _ hz₅
  refine wpAny_bind (wpAny_setField_rec hz₆ (by simp) fun h₇ hz₇ hs₇ => ?_)
  replace hz₇ : IsZip h₇ z TI TO (rawInt h₅.objs.size) := hz₇
  refine wpAny_setField_rec hz₇ (by simp) fun h₈ hz₈ hs₈ => ?_
  replace hz₈ : IsZip h₈ z TI TO (rawInt h₅.objs.size) := hz₈
  have up : ∀ c o, c ≠ z → h₅.get? c = some o → h₈.get? c = some o := fun c o c1 e => hs₈.extBut _ _ c1 (hs₇.extBut _ _ c1 (Heap.get?_push_of_some _ e))
  have hT₈ : IsPair h₈ h₅.objs.size x y := hs₈.extBut _ _ (Nat.ne_of_gt hzlt) (hs₇.extBut _ _ (Nat.ne_of_gt hzlt) (Heap.get?_push_size _ rfl))
  rw [hsz] at hz₈ hT₈
  refine wpAny_pure ⟨_, rfl, ?_⟩
  show Q (.ref h₅.objs.size) _
  rw [hsz]
  exact hQ x y h₈ _ hx hy hz₈ (up _ _ Z.TOz hTO₅) (fr1 st1₅ fun c o hc e => up c o (fun q => Z.f1.1 (q ▸ hc)) e) (fr2 st2₅ fun c o hc e => up c o (fun q => Z.f2.1 (q ▸ hc)) e) hT₈ fun c o c1 c2 c3 c4 e => up c o c1 (hk₅ c o c1 c2 c3 c4 e)

theorem zipD_stop {Q : Fin → Shared → Prop} (hA : A.handled = none) (D1 : ∀ A : Around, A.handled = none → Draws prog w A i1 fp1 n P1 St1) (Z : ZipPts z TI TO i1 i2 fp1 fp2)
    (hz : IsZip s.heap z TI TO .none) (hTI : IsPair s.heap TI (.ref i1) (.ref i2)) (h1 : St1 n s.heap)
    (hE : ∀ h' e, (∀ c o, c ≠ z → c ≠ TO → c ≠ i1 → c ≠ i2 → s.heap.get? c = some o → h'.get? c = some o) → (∃ o, h'.get? e = some o ∧ o.cls = .type "StopIteration") → E (.ref e) { s with heap := h' }) :
    wpAny (model prog w) A (Builtin.«zip.__next__» ⟨[.ref z], []⟩) Q E s := by
  show wpAny _ _ (field (.ref z) 2 >>= _) _ _ _
  refine wpAny_bind (wpAny_field hz rfl (x := .bool false) rfl ?_)
  show wpAny _ _ (field (.ref z) 3 >>= _) _ _ _
  refine wpAny_bind (wpAny_field hz rfl (x := .ref TI) rfl ?_)
  refine wpAny_bind (wpAny_seqItems hTI rfl ?_)
  show wpAny _ _ (Builtin.SmallTypes.ownedTupleIsFree (.ref z) >>= _) _ _ _
  refine wpAny_bind ?_
  unfold Builtin.SmallTypes.ownedTupleIsFree
  refine wpAny_bind (wpAny_field hz rfl (x := .none) rfl (wpAny_pure ?_))
  simp only [if_true]
  refine wpAny_bind (wpAny_rule ?_)
  refine wpAny_bind (wpAny_field hz rfl (x := .ref TO) rfl ?_)
  refine wpAny_bind (wpAny_setField_rec hz (by simp) fun h₁ hz₁ hs₁ => ?_)
  replace hz₁ : IsZip h₁ z TI TO .ellipsis := hz₁
  refine wpAny_bind ?_
  simp only [List.zipIdx_cons, List.zipIdx_nil, List.forIn_cons, List.forIn_nil]
  refine wpAny_bind (wpAny_bind (wpAny_onRaise ?_))
  show wpAny _ _ (Builtin.SmallTypes.nextOf (.ref i1) >>= _) _ _ _
  have st1 : St1 n h₁ := (D1 A hA).frame _ _ _ h1 fun c hc o e => hs₁.extBut _ _ (fun q => Z.f1.1 (q ▸ hc)) e
  refine wpAny_bind ((D1 _ (by first | exact hA | (show A.handled = none; exact hA))).done _ _ _ st1 fun h₂ e hs₂ he => ?_)
  obtain ⟨oe, hoe, hce⟩ := he
  have hz₂ : IsZip h₂ z TI TO .ellipsis := hs₂ _ _ Z.i1z.symm hz₁
  have hez : e ≠ z := fun x => by subst x; rw [hz₂] at hoe; cases hoe; simp at hce
  refine wpAny_setField_rec hz₂ (by simp) fun h₃ _ hs₃ => hE h₃ e (fun c o c1 _ c3 _ x => hs₃.extBut _ _ c1 (hs₂ _ _ c3 (hs₁.extBut _ _ c1 x))) ⟨oe, hs₃.extBut _ _ hez hoe, hce⟩

/-- a zip of two that are as long as each other, walked -/
theorem WalksU.zipD (hh : A.handled = none) (D1 : ∀ A : Around, A.handled = none → Draws prog w A i1 fp1 n P1 St1) (D2 : ∀ A : Around, A.handled = none → Draws prog w A i2 fp2 n P2 St2) (Z : ZipPts z TI TO i1 i2 fp1 fp2) :
    WalksU prog w A z (z :: TI :: TO :: i1 :: i2 :: (fp1 ++ fp2)) [z, TO, i1, i2] n (fun i vals => ∃ x y, P1 i x ∧ P2 i y ∧ vals = #[x, y])
      (fun i h => IsZip h z TI TO .none ∧ IsPair h TI (.ref i1) (.ref i2) ∧ (∃ a b, IsPair h TO a b) ∧ St1 i h ∧ St2 i h)
      (fun i T h => IsZip h z TI TO (rawInt T) ∧ IsPair h TI (.ref i1) (.ref i2) ∧ (∃ a b, IsPair h TO a b) ∧ St1 (i + 1) h ∧ St2 (i + 1) h ∧ T ≠ z ∧ T ≠ TO ∧ T ≠ i1 ∧ T ≠ i2) where
  sub := fun c hc => by simp at hc ⊢; rcases hc with rfl | rfl | rfl | rfl <;> simp
  frame := fun i h h' hst hk => by
    obtain ⟨hz, hTI, ⟨a, b, hTO⟩, h1, h2⟩ := hst
    exact ⟨hk z (by simp) _ hz, hk TI (by simp) _ hTI, ⟨a, b, hk TO (by simp) _ hTO⟩, (D1 A hh).frame _ _ _ h1 fun b hb o e => hk b (by simp [hb]) o e, (D2 A hh).frame _ _ _ h2 fun b hb o e => hk b (by simp [hb]) o e⟩
  item := fun i s Q E hi hst hQ => by
    obtain ⟨hz, hTI, ⟨a, b, hTO⟩, h1, h2⟩ := hst
    have hT : s.TypeIs (.ref z) "zip" := ⟨_, hz, rfl⟩
    have lt : ∀ {c o}, s.heap.get? c = some o → s.heap.objs.size ≠ c := fun e => Nat.ne_of_gt (Heap.lt_size e)
    obtain ⟨o1, e1⟩ := (D1 A hh).live _ _ h1
    obtain ⟨o2, e2⟩ := (D2 A hh).live _ _ h2
    unfold pyNext
    refine wpAny_bind (wpAny_attempt (wpAny_callSpecial?_slot (name := Str.ofString "__next__") hT F.slot_zip_next
      (wpAny_call_entry F.slot_zip_next hT F.entry_zip_next
        (zipD_next (by first | exact hh | (show A.handled = none; exact hh)) D1 D2 Z hi hz hTI hTO h1 h2 fun x y h' tk hx hy a1 a2 a3 a4 a5 hk => wpAny_pure ?_) (F.args_zip_next_1 _))))
    exact hQ s.heap.objs.size #[x, y] h' tk ⟨x, y, hx, hy, rfl⟩ ⟨_, a5, rfl, _, rfl⟩
      ⟨a1, hk _ _ Z.TIz Z.TITO Z.TIi1 Z.TIi2 hTI, ⟨_, _, a2⟩, a3, a4, lt hz, lt hTO, lt e1, lt e2⟩
      fun c o hc e => hk c o (fun x => hc (by simp [x])) (fun x => hc (by simp [x])) (fun x => hc (by simp [x])) (fun x => hc (by simp [x])) e
  go := fun elts k pos i T s Q E hm hQ => by
    obtain ⟨hz, hTI, ⟨a, b, hTO⟩, h1, h2, _⟩ := hm
    refine wpAny_letOwnedTupleGo_zip hz fun h' hz' hs' => hQ h' ⟨hz', hs'.extBut _ _ Z.TIz hTI, ⟨a, b, hs'.extBut _ _ Z.TOz hTO⟩, (D1 A hh).frame _ _ _ h1 fun b hb o e => hs'.extBut _ _ (fun q => Z.f1.1 (q ▸ hb)) e, (D2 A hh).frame _ _ _ h2 fun b hb o e => hs'.extBut _ _ (fun q => Z.f2.1 (q ▸ hb)) e⟩
      fun c o hc e => hs'.extBut _ _ (fun x => hc (by simp [x])) e
  apart := fun i T h hm hT => by
    obtain ⟨_, _, _, _, _, t1, t2, t3, t4⟩ := hm
    simp at hT
    rcases hT with rfl | rfl | rfl | rfl
    · exact t1 rfl
    · exact t2 rfl
    · exact t3 rfl
    · exact t4 rfl
  done := fun s Q E hst hQ => by
    obtain ⟨hz, hTI, _, h1, h2⟩ := hst
    have hT : s.TypeIs (.ref z) "zip" := ⟨_, hz, rfl⟩
    unfold pyNext
    refine wpAny_bind (wpAny_attempt (wpAny_callSpecial?_slot (name := Str.ofString "__next__") hT F.slot_zip_next
      (wpAny_call_entry F.slot_zip_next hT F.entry_zip_next (zipD_stop (by first | exact hh | (show A.handled = none; exact hh)) D1 Z hz hTI h1 fun h' e hk he => ?_) (F.args_zip_next_1 _))))
    obtain ⟨o, ho, hc⟩ := he
    refine wpAny_bind (wpAny_isInstance (T := "StopIteration") (b := true) ⟨o, ho, hc⟩ isSubtype_stop ?_)
    exact wpAny_pure (hQ _ _ fun c o hc e => hk c o (fun x => hc (by simp [x])) (fun x => hc (by simp [x])) (fun x => hc (by simp [x])) (fun x => hc (by simp [x])) e)
  self := fun i s Q E hst hQ => wpAny_pyIter_zip hst.1 hQ
end
end
section
section
variable {prog : Program} {w : World} {A : Around} {E : Value → Shared → Prop} {env : Env} {elt target iter : Expr} {scope : Scope} {cl : List (Str × Addr)} {pos : Pos} {I : Addr} {fp wr : List Addr} {n : Nat}
theorem comp_genC {c : Expr} {Pm : Nat → (Str → Option Value) → Prop} {St : Nat → Heap → Prop} (W : CDraw prog w A target scope cl env I fp wr n Pm St) (hsz : n ≤ sizeLine) {s₂ : Shared} {b₀ : Heap} {RR : Value → Addr → Result → Shared → Prop}
    (hst : St 0 s₂.heap) (hfp : ∀ b ∈ fp, b < s₂.heap.objs.size) (hb : ∀ b o, b₀.get? b = some o → b ∉ wr ∧ s₂.heap.get? b = some o)
    (J : Nat → List Value → Heap → Prop) (hmono : ∀ i ys h h', h.StaysIn h' → J i ys h → J i ys h') (hj : J 0 [] b₀)
    (turn : ∀ (C D : Addr) (i : Nat) (s : Shared) (ys : List Value) (m : Str → Option Value) (E' : Value → Shared → Prop), i < n → Pm i m → b₀.StaysIn (hideAll s.heap (C :: D :: wr)) → s.heap.Ns C m → J i ys (hideAll s.heap (C :: D :: wr)) →
      (∀ b ∈ C :: D :: wr, ∃ o, s.heap.get? b = some o) →
      wpAny (model prog w) A (isTrue c (compEnvC scope cl C env) (eval c (compEnvC scope cl C env))) (fun ok s' => if ok = true then wpAny (model prog w) A (eval elt (compEnvC scope cl C env)) (fun y s'' => ∃ h' tk, s'' = { s with heap := h', toks := tk } ∧ s.heap.StaysIn h' ∧ J (i + 1) (ys ++ [y]) (hideAll h' (C :: D :: wr))) E' s'
        else ∃ h' tk, s' = { s with heap := h', toks := tk } ∧ s.heap.StaysIn h' ∧ J (i + 1) ys (hideAll h' (C :: D :: wr))) E' s)
    (fin : ∀ (D C : Addr) (h' : Heap) (tk : Nat) (m' : Str → Option Value) (ys : List Value), b₀.get? D = none → b₀.get? C = none → D ≠ C → h'.Ns C m' → h'.PlainList D ys.toArray → b₀.StaysIn (hideAll h' [C, D]) → J n ys (hideAll h' [C, D]) → RR (.ref D) C (.ok .next) { s₂ with heap := h', toks := tk })
    (hcell : ∀ y ∈ scope.names, y.2 ≠ .cell) (hkind : scope.kind = .function) :
    wpAny (model prog w) A (newList []) (fun acc s₃ => wpAny (model prog w) A (newFunctionEnv scope env.globals cl [] env.qual none .none (some env)) (fun cenv s₄ =>
      codeAny (model prog w) A (.compStart (.ListComp elt [⟨target, iter, [c], 0⟩] scope pos) 0 (.ref I) acc { cenv with scope := relabel scope env }) (RR acc cenv.locals) s₄) E s₃) E s₂ := by
  refine wpAny_newObj_type (wpAny_newFunctionEnv hcell (by intro y hy; simp at hy) (fun h₁ hns₁ hsb₁ => ?_) hkind)
  dsimp only at hns₁ hsb₁ ⊢
  generalize hH2 : s₂.heap.push { cls := .type "list", dict := none, data := .seq ([] : List Value).toArray } = H2 at hns₁ hsb₁ ⊢
  have hC : H2.objs.size = s₂.heap.objs.size + 1 := by rw [← hH2, Heap.size_push]
  have hDC : s₂.heap.objs.size ≠ H2.objs.size := by rw [hC]; exact Nat.ne_of_lt (Nat.lt_succ_self _)
  have below : ∀ b, b < s₂.heap.objs.size → b ≠ H2.objs.size ∧ b ≠ s₂.heap.objs.size := fun b hb => ⟨by rw [hC]; exact Nat.ne_of_lt (Nat.lt_succ_of_lt hb), Nat.ne_of_lt hb⟩
  have hDf : s₂.heap.objs.size ∉ fp := fun hm => Nat.lt_irrefl _ (hfp _ hm)
  have hCf : H2.objs.size ∉ fp := fun hm => by have := hfp _ hm; rw [hC] at this; exact Nat.lt_irrefl _ (Nat.lt_of_succ_lt this)
  have hDw : s₂.heap.objs.size ∉ wr := fun h => hDf (W.sub _ h)
  have hCw : H2.objs.size ∉ wr := fun h => hCf (W.sub _ h)
  have old : ∀ b o, s₂.heap.get? b = some o → h₁.get? b = some o := fun b o e => hsb₁.extBut b o (below b (Heap.lt_size e)).1 (Heap.get?_push_of_some _ (hH2 ▸ Heap.get?_push_of_some _ e))
  have hacc : h₁.PlainList s₂.heap.objs.size #[] := ⟨_, hsb₁.extBut _ _ hDC (Heap.get?_push_of_some _ (hH2 ▸ Heap.get?_push_size _ rfl))⟩
  have hst₁ : St 0 h₁ := W.frame _ _ _ hst fun b _ o e => old b o e
  have fresh : ∀ a, s₂.heap.objs.size ≤ a → b₀.get? a = none := fun a ha => by
    cases e : b₀.get? a with
    | none => rfl
    | some o' => exact absurd (Heap.lt_size (hb _ _ e).2) (Nat.not_lt.mpr ha)
  have hD₀ : b₀.get? s₂.heap.objs.size = none := fresh _ (Nat.le_refl _)
  have hC₀ : b₀.get? H2.objs.size = none := fresh _ (by rw [hC]; exact Nat.le_succ _)
  have hb1 : b₀.StaysIn (hideAll h₁ (H2.objs.size :: s₂.heap.objs.size :: wr)) := fun b o e => hideAll_get _ (old _ _ (hb _ _ e).2) fun q => by
    rcases List.mem_cons.mp q with q | q
    · rw [q, hC₀] at e; cases e
    · rcases List.mem_cons.mp q with q | q
      · rw [q, hD₀] at e; cases e
      · exact (hb _ _ e).1 q
  generalize hHC : H2.objs.size = C at *
  generalize hHD : s₂.heap.objs.size = D at *
  have loop : ∀ s₃ : Shared, s₃ = { s₂ with heap := h₁, toks := s₂.toks + ([] : List (Str × Value)).length } →
      codeAny (model prog w) A (.compLoop (.ListComp elt [⟨target, iter, [c], 0⟩] scope pos) 0 (.ref I) (.ref D) (compEnvC scope cl C env)) (RR (.ref D) C) s₃ := by
    rintro s₃ rfl
    refine kct_loop (fun k s' => ∃ h' tk i ys m', s' = { s₂ with heap := h', toks := tk } ∧ i ≤ n ∧ k = n + 1 - i ∧ ys.length ≤ i ∧ St i h' ∧ h'.Ns C m' ∧ h'.PlainList D ys.toArray ∧ b₀.StaysIn (hideAll h' (C :: D :: wr)) ∧ J i ys (hideAll h' (C :: D :: wr))) ?_ (n + 1)
      ⟨h₁, _, 0, [], _, rfl, Nat.zero_le _, rfl, Nat.le_refl _, hst₁, hns₁, hacc, hb1, hmono _ _ _ _ hb1 hj⟩
    rintro k s' ⟨h', tk, i, ys, m', rfl, hi, rfl, hyl, hst', hn', hpl, hb', hj'⟩
    by_cases hlt : i < n
    · refine W.draw C i _ m' _ _ _ hlt hst' hn' hCf fun h₂ tk₂ m₂ hP hn₂ hst₂ hk₂ => ?_
      have hk2 : ∀ b o, b ∉ C :: D :: wr → h'.get? b = some o → h₂.get? b = some o := fun b o q e => hk₂ b o (fun z => q (by
        rcases List.mem_cons.mp z with z | z
        · exact z ▸ .head _
        · exact .tail _ (.tail _ z))) e
      have hst2 := hide_stays hk2
      have hD2 : h₂.PlainList D ys.toArray := hpl.at fun o e => hk₂ D o (fun z => by
        rcases List.mem_cons.mp z with z | z
        · exact hDC z
        · exact hDw z) e
      have hlive : ∀ b ∈ C :: D :: wr, ∃ o, h₂.get? b = some o := fun b hbm => by
        rcases List.mem_cons.mp hbm with rfl | hbm
        · obtain ⟨o, _, _, e, _⟩ := hn₂; exact ⟨o, e⟩
        · rcases List.mem_cons.mp hbm with rfl | hbm
          · obtain ⟨_, e⟩ := hD2; exact ⟨_, e⟩
          · exact W.live _ _ hst₂ b hbm
      have hbs2 : b₀.StaysIn (hideAll h₂ (C :: D :: wr)) := fun b o e => hst2 b o (hb' b o e)
      have keep4 : ∀ {h₄ h₅ : Heap}, h₂.StaysIn h₄ → (∀ b o, b ≠ D → h₄.get? b = some o → h₅.get? b = some o) → St (i + 1) h₅ ∧ h₅.Ns C m₂ ∧ b₀.StaysIn (hideAll h₅ (C :: D :: wr)) := fun {h₄ h₅} k4 k5 =>
        ⟨W.frame _ _ _ hst₂ fun b hb o e => k5 b o (fun q => hDf (q ▸ hb)) (k4 _ _ e), (hn₂.at' fun o e => k4 _ _ e).at' fun o e => k5 _ _ (Ne.symm hDC) e,
          fun b o e => hideAll_get _ (k5 _ _ (fun q => by rw [q, hD₀] at e; cases e) (k4 _ _ (hide_up _ _ (hbs2 _ _ e)))) fun q => by
            have := hb' b o e
            rw [hideAll_none _ q] at this; cases this⟩
      refine wpAny_mono (turn C D i _ ys m₂ _ hlt hP hbs2 hn₂ (hmono _ _ _ _ hst2 hj') hlive) (fun ok s₃ h₃ => ?_) fun _ _ e => e
      cases ok with
      | true =>
        rw [if_pos rfl] at h₃ ⊢
        refine wpAny_mono h₃ (fun y s₄ h₄ => ?_) fun _ _ e => e
        obtain ⟨h₄, tk₄, rfl, hk₄, hj₄⟩ := h₄
        obtain ⟨nD, eD⟩ := hD2
        have eD4 : h₄.get? D = some _ := hk₄ _ _ eD
        refine append_at (hsz := by show ys.toArray.size ≤ sizeLine; rw [List.size_toArray]; exact Nat.le_trans hyl (Nat.le_trans hi hsz)) eD4 fun h₅ hs₅ hD₅ => ?_
        obtain ⟨k1, k2, k3⟩ := keep4 hk₄ (fun b o hb e => hs₅.extBut b o hb e)
        exact ⟨n + 1 - (i + 1), by omega, h₅, tk₄, i + 1, ys ++ [y], m₂, rfl, hlt, rfl, by rw [List.length_append, List.length_singleton]; omega, k1, k2, ⟨nD + 1, hD₅.trans (by simp)⟩, k3,
          hmono _ _ _ _ (hide_stays fun b o q e => hs₅.extBut b o (fun z => q (z ▸ .tail _ (.head _))) e) hj₄⟩
      | false =>
        rw [if_neg (by decide)] at h₃ ⊢
        obtain ⟨h₄, tk₄, rfl, hk₄, hj₄⟩ := h₃
        obtain ⟨nD, eD⟩ := hD2
        obtain ⟨k1, k2, k3⟩ := keep4 hk₄ (fun b o _ e => e)
        exact ⟨n + 1 - (i + 1), by omega, h₄, tk₄, i + 1, ys, m₂, rfl, hlt, rfl, Nat.le_succ_of_le hyl, k1, k2, ⟨nD, hk₄ _ _ eD⟩, k3, hj₄⟩
    · obtain rfl : i = n := Nat.le_antisymm hi (Nat.not_lt.mp hlt)
      refine W.done _ _ _ hst' fun h₂ tk₂ hk₂ => ?_
      have hs2 : (hideAll h' (C :: D :: wr)).StaysIn (hideAll h₂ [C, D]) := hide_less (fun b hb => by
        rcases List.mem_cons.mp hb with rfl | hb
        · exact .head _
        · rw [List.mem_singleton.mp hb]; exact .tail _ (.head _)) fun b o q e => hk₂ b o (fun z => q (.tail _ (.tail _ z))) e
      exact fin D C h₂ tk₂ m' ys hD₀ hC₀ hDC (hn'.at' fun o e => hk₂ _ o hCw e) (hpl.at fun o e => hk₂ _ o hDw e) (fun b o e => hs2 b o (hb' b o e)) (hmono _ _ _ _ hs2 hj')
  exact codeAny_compStart_list (loop _ rfl) (W.self 0 _ _ _ hst₁ (loop _ rfl))
end
end
section
theorem zipPts {n : Nat} {fp1 fp2 : List Addr} (h1 : ∀ b ∈ fp1, @LE.le Nat _ b n) (h2 : ∀ b ∈ fp2, @LT.lt Nat _ b n ∨ @Eq Nat b (n + 1)) : ZipPts (n + 4) (n + 2) (n + 3) n (n + 1) fp1 fp2 where
  TIz := show @Ne Nat _ _ by omega
  TOz := show @Ne Nat _ _ by omega
  i1z := show @Ne Nat _ _ by omega
  i2z := show @Ne Nat _ _ by omega
  TITO := show @Ne Nat _ _ by omega
  TIi1 := show @Ne Nat _ _ by omega
  TIi2 := show @Ne Nat _ _ by omega
  TOi1 := show @Ne Nat _ _ by omega
  TOi2 := show @Ne Nat _ _ by omega
  i12 := show @Ne Nat _ _ by omega
  f1 := ⟨fun q => by have := h1 _ q; omega, fun q => by have := h1 _ q; omega, fun q => by have := h1 _ q; omega⟩
  f2 := ⟨fun q => by have := h2 _ q; omega, fun q => by have := h2 _ q; omega, fun q => by have := h2 _ q; omega⟩
section
variable {prog : Program} {w : World} {A : Around} {E : Value → Shared → Prop} {s : Shared}
abbrev zpH1 (h : Heap) (x : Str) (t : Tok) : Heap := h.push { cls := .type "str_ascii_iterator", data := .fields #[.str x t, .int 0 0] }
abbrev zpH2 (h : Heap) (x : Str) (t : Tok) (l2 : Addr) : Heap := (zpH1 h x t).push { cls := .type "list_iterator", data := .fields #[.ref l2, .int 0 0] }
abbrev zpH3 (h : Heap) (x : Str) (t : Tok) (l2 : Addr) : Heap := (zpH2 h x t l2).push { cls := .type "tuple", data := .seq #[.ref h.objs.size, .ref (zpH1 h x t).objs.size] }
abbrev zpH4 (h : Heap) (x : Str) (t : Tok) (l2 : Addr) : Heap := (zpH3 h x t l2).push { cls := .type "tuple", data := .seq #[.none, .none] }
abbrev zpH5 (h : Heap) (x : Str) (t : Tok) (l2 : Addr) : Heap := (zpH4 h x t l2).push { cls := .type "zip", data := .fields #[.none, .bool false, .bool false, .ref (zpH2 h x t l2).objs.size, .ref (zpH3 h x t l2).objs.size] }
set_option maxHeartbeats 400000 in
theorem meets_zip_sl (x : Str) (t : Tok) (hx : x.cps.all (· < 128) = true) (l2 : Addr) (ys : Array Value) :
    Meets (Builtin.«zip.__new__» ⟨[.type "zip", .str x t, .ref l2], []⟩) (fun _ R s => s.heap.IsList l2 ys ∧
      R (.ok (.ret (.ref (zpH4 s.heap x t l2).objs.size))) { s with heap := zpH5 s.heap x t l2 }) :=
  .of_wp fun prog w A R s h => by
    obtain ⟨hp, g, d, tk, os⟩ := s; obtain ⟨hl2, h⟩ := h
    have hL2 : Heap.IsList (Shared.heap ⟨zpH1 hp x t, g, d, tk, os⟩) l2 ys := Heap.IsList.push hl2 _
    unfold Builtin.«zip.__new__»
    refine wpAny_bind ?_
    unfold Builtin.SmallTypes.newClass
    refine wpAny_bind (wpAny_of_eq (a := true) rfl ?_)
    rw [if_neg (by decide)]
    refine wpAny_bind (wpAny_of_eq sub_zip ?_)
    rw [if_neg (by decide)]
    refine wpAny_pure ?_
    dsimp only
    rw [if_neg (by decide)]
    refine wpAny_bind ?_
    unfold Builtin.SmallTypes.iterAll
    simp only [List.forIn_cons, List.forIn_nil]
    refine wpAny_bind ?_
    refine wpAny_bind (wpAny_bind (wpAny_holding (wpAny_pyIter_ascii hx (wpAny_pure ?_))))
    dsimp only
    refine wpAny_bind (wpAny_bind (wpAny_holding (wpAny_pyIter_list hL2 (wpAny_pure ?_))))
    dsimp only
    refine wpAny_pure ?_
    refine wpAny_pure ?_
    refine wpAny_bind (wpAny_newTuple ?_ (by simp [sizeLine_eq]))
    refine wpAny_bind (wpAny_newTuple ?_ (by simp [sizeLine_eq]))
    refine wpAny_bind ?_
    unfold Builtin.SmallTypes.newRecord
    refine wpAny_newObj_type ?_ ?hz
    case hz => show (_ : Nat) ≤ _; simp [Builtin.SmallTypes.ownedTupleFields, sizeLine_eq]
    exact wpAny_pure ⟨_, rfl, h⟩
theorem call_zip_sl {x : Str} {t : Tok} (hx : x.cps.all (· < 128) = true) {l2 : Addr} {ys : Array Value} {Q : Value → Shared → Prop} (hl2 : s.heap.IsList l2 ys)
    (h : ∀ h', IsZip h' (s.heap.objs.size + 4) (s.heap.objs.size + 2) (s.heap.objs.size + 3) .none → IsPair h' (s.heap.objs.size + 2) (.ref s.heap.objs.size) (.ref (s.heap.objs.size + 1)) →
      IsPair h' (s.heap.objs.size + 3) .none .none → h'.IsStrIter s.heap.objs.size "str_ascii_iterator" x t 0 → h'.IsListIter (s.heap.objs.size + 1) l2 0 → h'.objs.size = s.heap.objs.size + 5 →
      (∀ c o, s.heap.get? c = some o → h'.get? c = some o) → Q (.ref (s.heap.objs.size + 4)) { s with heap := h' }) :
    wpAny (model prog w) A (call (.type "zip") [.str x t, .ref l2]) Q E s := by
  refine callType_new F.called_zip (by decide) (F.typeCall_zip_2 _ _) (F.newCall_zip_2 _ _) (fun obj => F.args_object_init_3 obj _ _) F.entry_zip_new
    (meets_zip_sl x t hx l2 ys) ⟨hl2, ?_⟩
  have z1 : (zpH1 s.heap x t).objs.size = s.heap.objs.size + 1 := Heap.size_push ..
  have z2 : (zpH2 s.heap x t l2).objs.size = s.heap.objs.size + 2 := by rw [Heap.size_push, z1]
  have z3 : (zpH3 s.heap x t l2).objs.size = s.heap.objs.size + 3 := by rw [Heap.size_push, z2]
  have z4 : (zpH4 s.heap x t l2).objs.size = s.heap.objs.size + 4 := by rw [Heap.size_push, z3]
  have z5 : (zpH5 s.heap x t l2).objs.size = s.heap.objs.size + 5 := by rw [Heap.size_push, z4]
  have g5 : (zpH5 s.heap x t l2).get? (zpH4 s.heap x t l2).objs.size = some _ := Heap.get?_push_size _ rfl
  have g4 : (zpH5 s.heap x t l2).get? (zpH3 s.heap x t l2).objs.size = some _ := Heap.get?_push_of_some _ (Heap.get?_push_size _ rfl)
  have g3 : (zpH5 s.heap x t l2).get? (zpH2 s.heap x t l2).objs.size = some _ := Heap.get?_push_of_some _ (Heap.get?_push_of_some _ (Heap.get?_push_size _ rfl))
  have g2 : (zpH5 s.heap x t l2).get? (zpH1 s.heap x t).objs.size = some _ := Heap.get?_push_of_some _ (Heap.get?_push_of_some _ (Heap.get?_push_of_some _ (Heap.get?_push_size _ rfl)))
  have g1 : (zpH5 s.heap x t l2).get? s.heap.objs.size = some _ := Heap.get?_push_of_some _ (Heap.get?_push_of_some _ (Heap.get?_push_of_some _ (Heap.get?_push_of_some _ (Heap.get?_push_size _ rfl))))
  show _ ∧ _
  rw [z2, z3, z4] at g5
  rw [z1, z2] at g3
  rw [z3] at g4
  rw [z1] at g2
  rw [z4]
  exact ⟨⟨_, g5, rfl⟩, h _ g5 g3 g4 ⟨_, g1, rfl, rfl⟩ ⟨_, g2, rfl, rfl⟩ z5 fun c o x =>
    Heap.get?_push_of_some _ (Heap.get?_push_of_some _ (Heap.get?_push_of_some _ (Heap.get?_push_of_some _ (Heap.get?_push_of_some _ x))))⟩
end
section
variable {prog : Program} {w : World} {A : Around} {E : Value → Shared → Prop} {env : Env} {elt iter c : Expr} {scope : Scope} {cl : List (Str × Addr)} {pos : Pos} {x y : Str} {px py tp : Pos} {kk : Nat} {Q : Value → Shared → Prop} {s : Shared}
theorem zip_live {z TI TO i1 i2 : Addr} {n : Nat} {St1 St2 : Nat → Heap → Prop} (h1 : ∀ i h, St1 i h → ∃ o, h.get? i1 = some o) (h2 : ∀ i h, St2 i h → ∃ o, h.get? i2 = some o) :
    ∀ (i : Nat) (h : Heap), (IsZip h z TI TO .none ∧ IsPair h TI (.ref i1) (.ref i2) ∧ (∃ a b, IsPair h TO a b) ∧ St1 i h ∧ St2 i h) → ∀ b ∈ [z, TO, i1, i2], ∃ o, h.get? b = some o := by
  rintro i h ⟨a, _, ⟨_, _, b⟩, c, d⟩ q hq
  simp only [List.mem_cons, List.not_mem_nil, or_false] at hq
  rcases hq with rfl | rfl | rfl | rfl
  · exact ⟨_, a⟩
  · exact ⟨_, b⟩
  · exact h1 _ _ c
  · exact h2 _ _ d
/-- a comprehension over the zip of two lists -/
theorem compT_zipLL {l1 l2 : Addr} {xs ys : Array Value} {n : Nat} (hh : A.handled = none) (hl1 : s.heap.IsList l1 xs) (hl2 : s.heap.IsList l2 ys) (hn1 : xs.size = n) (hn2 : ys.size = n) (hsz : n ≤ 1000000)
    (J : Nat → List Value → Heap → Prop) (hmono : ∀ i ys h h', h.StaysIn h' → J i ys h → J i ys h') (hj : J 0 [] s.heap)
    (turn : ElemAt prog w A elt scope cl env s.heap J n (fun i m => ∃ a b, xs[i]? = some a ∧ ys[i]? = some b ∧ m x = some a ∧ m y = some b))
    (fin : ∀ (D : Addr) (h' : Heap) (tk : Nat) (zs : List Value), s.heap.get? D = none → h'.PlainList D zs.toArray → s.heap.StaysIn h' → J n zs (hideAll h' [D]) → Q (.ref D) { s with heap := h', toks := tk })
    (hxy : x ≠ y := by decide) (hcell : ∀ y ∈ scope.names, y.2 ≠ .cell := by decide) (hkind : scope.kind = .function := by rfl) (hx : scope.names.lookup x = some .local := by rfl) (hy : scope.names.lookup y = some .local := by rfl) :
    wpAny (model prog w) A (call (.type "zip") [.ref l1, .ref l2]) (fun xv s₁ => CompAtT prog w A env elt ⟨.Tuple [.Name x px, .Name y py] kk tp, iter, [], 0⟩ [] scope pos cl (CQ prog w A E Q) E xv s₁) E s := by
  have b1 : l1 < s.heap.objs.size := by obtain ⟨o, e, _⟩ := hl1; exact Heap.lt_size e
  have b2 : l2 < s.heap.objs.size := by obtain ⟨o, e, _⟩ := hl2; exact Heap.lt_size e
  subst hn1
  refine call_zip_2 hl1 hl2 fun h' hz hTI hTO h1 h2 hs5 hk => ?_
  have L1 : ∀ A : Around, A.handled = none → Draws prog w A s.heap.objs.size [s.heap.objs.size, l1] xs.size _ _ := fun A hA => Draws.list hA _ l1 (Nat.ne_of_lt b1) xs
  have L2 : ∀ A : Around, A.handled = none → Draws prog w A (s.heap.objs.size + 1) [s.heap.objs.size + 1, l2] ys.size _ _ := fun A hA => Draws.list hA _ l2 (Nat.ne_of_lt (Nat.lt_succ_of_lt b2)) ys
  rw [hn2] at L2
  have hl1' := stays_list hk hl1
  have hl2' := stays_list hk hl2
  have Z : ZipPts (s.heap.objs.size + 4) (s.heap.objs.size + 2) (s.heap.objs.size + 3) s.heap.objs.size (s.heap.objs.size + 1) [s.heap.objs.size, l1] [s.heap.objs.size + 1, l2] :=
    zipPts (fun b hb => by
      rcases List.mem_cons.mp hb with rfl | hb
      · exact Nat.le_refl _
      · rw [List.mem_singleton.mp hb]; exact Nat.le_of_lt b1) (fun b hb => by
      rcases List.mem_cons.mp hb with rfl | hb
      · exact .inr rfl
      · rw [List.mem_singleton.mp hb]; exact .inl b2)
  have W := WalksU.zipD hh L1 L2 Z
  refine wpAny_pyIter_zip hz (compT_gen (s₁ := s) (CDraw.ofU hh W (zip_live (n := 0) (fun i h st => by obtain ⟨o, e, _⟩ := st.1; exact ⟨o, e⟩) fun i h st => by obtain ⟨o, e, _⟩ := st.1; exact ⟨o, e⟩) (fun i vals ⟨a, b, _, _, e⟩ => ⟨a, b, e⟩) hxy hx hy hkind) (by rw [sizeLine_eq]; omega)
    ⟨hz, hTI, ⟨_, _, hTO⟩, ⟨h1, hl1'⟩, h2, hl2'⟩ ?_ ?_ ⟨_, _, rfl⟩ J hmono hj ?_ fin hcell hkind)
  · intro b hb
    show @LT.lt Nat _ b h'.objs.size
    rw [hs5]
    simp only [List.cons_append, List.nil_append, List.mem_cons, List.not_mem_nil, or_false] at hb
    have c1 : @LT.lt Nat _ l1 s.heap.objs.size := b1
    have c2 : @LT.lt Nat _ l2 s.heap.objs.size := b2
    rcases hb with e | e | e | e | e | e | e | e | e <;> (rw [e]; (first | omega | exact Nat.lt_of_lt_of_le c1 (Nat.le_add_right _ _) | exact Nat.lt_of_lt_of_le c2 (Nat.le_add_right _ _)))
  · refine fun b o e => ⟨fun q => ?_, hk b o e⟩
    have c : @LT.lt Nat _ b s.heap.objs.size := Heap.lt_size e
    simp only [List.mem_cons, List.not_mem_nil, or_false] at q
    rcases q with q | q | q | q <;> (rw [q] at c; exact absurd c (by show ¬ @LT.lt Nat _ _ _; omega))
  · rintro C as i s' zs m E' hi ⟨a, b, ⟨a', b', ha, hb, e⟩, hm1, hm2⟩ h1 h2 h3 h4 h5
    simp only [Array.mk.injEq, List.cons.injEq, and_true] at e
    obtain ⟨rfl, rfl⟩ := e
    exact turn C as i s' zs m E' hi ⟨a, b, ha, hb, hm1, hm2⟩ h1 h2 h3 h4 h5
/-- what a turn's test and element must show -/
abbrev ElemTest (prog : Program) (w : World) (A : Around) (c elt : Expr) (scope : Scope) (cl : List (Str × Addr)) (env : Env) (b₀ : Heap) (J : Nat → List Value → Heap → Prop) (n : Nat) (Pm : Nat → (Str → Option Value) → Prop) : Prop :=
  ∀ (C : Addr) (as : List Addr) (i : Nat) (s : Shared) (ys : List Value) (m : Str → Option Value) (E' : Value → Shared → Prop), i < n → Pm i m → b₀.StaysIn s.heap → s.heap.Ns C m → J i ys (hideAll s.heap as) →
      wpAny (model prog w) A (isTrue c (compEnvC scope cl C env) (eval c (compEnvC scope cl C env))) (fun ok s' => if ok = true then wpAny (model prog w) A (eval elt (compEnvC scope cl C env)) (fun y s'' => ∃ h' tk, s'' = { s with heap := h', toks := tk } ∧ s.heap.StaysIn h' ∧ J (i + 1) (ys ++ [y]) (hideAll h' as)) E' s'
        else ∃ h' tk, s' = { s with heap := h', toks := tk } ∧ s.heap.StaysIn h' ∧ J (i + 1) ys (hideAll h' as)) E' s
/-- a comprehension with a test over the zip of a text and a list -/
theorem compT_zipSLC {ws : List Nat} {u : Str} {t : Tok} {l2 : Addr} {ys : Array Value} {n : Nat} (hu : u = mk ws) (ha : (mk ws).cps.all (· < 128) = true) (hh : A.handled = none) (hl2 : s.heap.IsList l2 ys) (hn1 : ws.length = n) (hn2 : ys.size = n) (hsz : n ≤ 1000000)
    (J : Nat → List Value → Heap → Prop) (hmono : ∀ i ys h h', h.StaysIn h' → J i ys h → J i ys h') (hj : J 0 [] s.heap)
    (turn : ElemTest prog w A c elt scope cl env s.heap J n (fun i m => ∃ d v b, ws[i]? = some d ∧ ys[i]? = some b ∧ m x = some (.str (mk [d]) v) ∧ m y = some b))
    (fin : ∀ (D : Addr) (h' : Heap) (tk : Nat) (zs : List Value), s.heap.get? D = none → h'.PlainList D zs.toArray → s.heap.StaysIn h' → J n zs (hideAll h' [D]) → Q (.ref D) { s with heap := h', toks := tk })
    (hxy : x ≠ y := by decide) (hcell : ∀ y ∈ scope.names, y.2 ≠ .cell := by decide) (hkind : scope.kind = .function := by rfl) (hx : scope.names.lookup x = some .local := by rfl) (hy : scope.names.lookup y = some .local := by rfl) :
    wpAny (model prog w) A (call (.type "zip") [.str u t, .ref l2]) (fun xv s₁ => CompAtT prog w A env elt ⟨.Tuple [.Name x px, .Name y py] kk tp, iter, [c], 0⟩ [] scope pos cl (CQ prog w A E Q) E xv s₁) E s := by
  subst hu
  have b2 : l2 < s.heap.objs.size := by obtain ⟨o, e, _⟩ := hl2; exact Heap.lt_size e
  refine call_zip_sl ha hl2 fun h' hz hTI hTO h1 h2 hs5 hk => ?_
  have L1 : ∀ A : Around, A.handled = none → Draws prog w A s.heap.objs.size [s.heap.objs.size] (mk ws).cps.size _ _ := fun A hA => Draws.strAscii hA _ (mk ws) t
  have L2 : ∀ A : Around, A.handled = none → Draws prog w A (s.heap.objs.size + 1) [s.heap.objs.size + 1, l2] ys.size _ _ := fun A hA => Draws.list hA _ l2 (Nat.ne_of_lt (Nat.lt_succ_of_lt b2)) ys
  rw [hn2] at L2
  rw [show (mk ws).cps.size = n by rw [← hn1]; simp] at L1
  have hl2' := stays_list hk hl2
  have Z : ZipPts (s.heap.objs.size + 4) (s.heap.objs.size + 2) (s.heap.objs.size + 3) s.heap.objs.size (s.heap.objs.size + 1) [s.heap.objs.size] [s.heap.objs.size + 1, l2] :=
    zipPts (fun b hb => by rw [List.mem_singleton.mp hb]; exact Nat.le_refl _) (fun b hb => by
      rcases List.mem_cons.mp hb with rfl | hb
      · exact .inr rfl
      · rw [List.mem_singleton.mp hb]; exact .inl b2)
  have W := WalksU.zipD hh L1 L2 Z
  have W2 := CDraw.ofU (scope := scope) (cl := cl) (env := env) (px := px) (py := py) (kk := kk) (tp := tp) hh W (zip_live (n := 0) (fun i h st => by obtain ⟨o, e, _⟩ := st; exact ⟨o, e⟩) fun i h st => by obtain ⟨o, e, _⟩ := st.1; exact ⟨o, e⟩) (fun i vals ⟨a, b, _, _, e⟩ => ⟨a, b, e⟩) hxy hx hy hkind
  refine wpAny_pyIter_zip hz (comp_genC W2 (by rw [sizeLine_eq]; omega) (b₀ := s.heap)
    ⟨hz, hTI, ⟨_, _, hTO⟩, h1, h2, hl2'⟩ ?_ ?_ J hmono hj ?_ ?_ hcell hkind)
  · intro b hb
    show @LT.lt Nat _ b h'.objs.size
    rw [hs5]
    simp only [List.cons_append, List.nil_append, List.mem_cons, List.not_mem_nil, or_false] at hb
    have c2 : @LT.lt Nat _ l2 s.heap.objs.size := b2
    rcases hb with e | e | e | e | e | e | e | e <;> (rw [e]; (first | omega | exact Nat.lt_of_lt_of_le c2 (Nat.le_add_right _ _)))
  · refine fun b o e => ⟨fun q => ?_, hk b o e⟩
    have c : @LT.lt Nat _ b s.heap.objs.size := Heap.lt_size e
    simp only [List.mem_cons, List.not_mem_nil, or_false] at q
    rcases q with q | q | q | q <;> (rw [q] at c; exact absurd c (by show ¬ @LT.lt Nat _ _ _; omega))
  · rintro C D i s' zs m E' hi ⟨a, b, ⟨a', b', ⟨d, v, hd, e1⟩, hb, e⟩, hm1, hm2⟩ h1 h2 h3 h4
    simp only [Array.mk.injEq, List.cons.injEq, and_true] at e
    obtain ⟨rfl, rfl⟩ := e
    subst e1
    exact turn C _ i s' zs m E' hi ⟨d, v, b, by simpa using hd, hb, hm1, hm2⟩ (fun b o e => hide_up _ _ (h1 _ _ e)) h2 h3
  · intro D C h'' tk m' zs hD hC hDC hn hpl hk hj
    exact cqT_end (s₁ := s) J hmono hDC hn hpl hk hj fun h3 a b c => fin D h3 tk zs hD a b c
end
end
section
theorem strs_of_txts : ∀ {ys : List Value} {ws : List (List Nat)}, Txts ys ws → ∃ l : List (Str × Tok), strValues l = ys ∧ l.map (·.1) = ws.map mk
  | _, _, .nil => ⟨[], rfl, rfl⟩
  | _, _, .cons ⟨t, h⟩ r => by
    obtain ⟨l, e1, e2⟩ := strs_of_txts r
    exact ⟨(_, t) :: l, by rw [h, ← e1]; rfl, by rw [List.map_cons, List.map_cons, e2]; rfl⟩
theorem join_txts {prog : Program} {w : World} {A : Around} {E : Value → Shared → Prop} {s : Shared} {Q : Value → Shared → Prop} {D : Addr} {ys : List Value} {ws : List (List Nat)} {x : Str} {t : Tok} (hx : x = mk []) (hl : s.heap.IsList D ys.toArray) (hp : Txts ys ws)
    (hfit : ws.flatten.length ≤ 16777216) (h : ∀ t' k, Q (.str (mk ws.flatten) t') { s with toks := k }) :
    wpAny (model prog w) A (call (.builtin "str.join") [.str x t, .ref D]) Q E s := by
  subst hx
  obtain ⟨l, e1, e2⟩ := strs_of_txts hp
  refine SC.join (l := l) (texts := ws.map mk) (by rw [e1]; simpa using hl) e2 ?_ fun t' k => ?_
  · refine joinOk_of ?_
    have : (((ws.map mk).map (·.length)).sum) = ws.flatten.length := by
      rw [List.length_flatten]; simp [Function.comp_def]
    rw [this, mk_len, List.length_nil, Nat.mul_zero, Nat.add_zero]
    exact hfit
  · rw [txt_join_nil]
    exact h t' k
theorem paired_app {α β : Type} {F : α → β → Prop} : ∀ {a a' : List α} {b b' : List β}, Paired F a b → Paired F a' b' → Paired F (a ++ a') (b ++ b')
  | _, _, _, _, .nil, h => h
  | _, _, _, _, .cons h r, h' => .cons h (paired_app r h')
theorem newsHeap {h₀ h : Heap} {L : Addr} {news : List (Addr × Obj)} (_ : News h₀ L h news) : ∃ H, H = h := ⟨h, rfl⟩
theorem ints_get : ∀ {vs : List Value} {ns : List Int} {i : Nat} {v : Value}, IntsAre vs ns → vs[i]? = some v → ∃ k t, v = .int k t ∧ ns[i]? = some k
  | _, _, _, _, .nil, e => by simp at e
  | _, _, 0, _, .cons k t _, e => by simp at e; exact ⟨k, t, e.symm, by simp⟩
  | _, _, i + 1, _, .cons _ _ r, e => by
    simp at e
    obtain ⟨k, t, e1, e2⟩ := ints_get r e
    exact ⟨k, t, e1, by simpa using e2⟩
theorem ints_app : ∀ {vs vs' : List Value} {ns ns' : List Int}, IntsAre vs ns → IntsAre vs' ns' → IntsAre (vs ++ vs') (ns ++ ns')
  | _, _, _, _, .nil, h => h
  | _, _, _, _, .cons k t r, h => .cons k t (ints_app r h)
theorem compT_strE {prog : Program} {w : World} {A : Around} {E : Value → Shared → Prop} {env : Env} {elt iter : Expr} {scope : Scope} {cl : List (Str × Addr)} {pos : Pos} {x : Str} {px : Pos} {Q : Value → Shared → Prop} {t : Tok} {z : Str} {ws : List Nat} {s₁ : Shared} (hz : z = mk ws) (hh : A.handled = none) (ha : (mk ws).cps.all (· < 128) = true) (hsz : ws.length ≤ sizeLine)
    (J : Nat → List Value → Heap → Prop) (hmono : ∀ i ys h h', h.StaysIn h' → J i ys h → J i ys h') (hj : J 0 [] s₁.heap)
    (turn : ElemAt prog w A elt scope cl env s₁.heap J ws.length (fun i m => ∃ c u, ws[i]? = some c ∧ m x = some (.str (mk [c]) u)))
    (fin : ∀ (D : Addr) (h' : Heap) (tk : Nat) (ys : List Value), s₁.heap.get? D = none → h'.PlainList D ys.toArray → s₁.heap.StaysIn h' → J ws.length ys (hideAll h' [D]) → Q (.ref D) { s₁ with heap := h', toks := tk })
    (hcell : ∀ y ∈ scope.names, y.2 ≠ .cell := by decide) (hkind : scope.kind = .function := by rfl) (hx : scope.names.lookup x = some .local := by rfl) :
    CompAtT prog w A env elt ⟨.Name x px, iter, [], 0⟩ [] scope pos cl (CQ prog w A E Q) E (.str z t) s₁ := by
  subst hz
  exact compT_str hh ha hsz J hmono hj turn fin hcell hkind hx
end
section
/-- a set of texts -/
def TxtSet (P : Program) (w : World) (o : Obj) (ks : List Str) : Prop :=
  ∃ es ep t, o.ExactSet ∧ o.data = .set es ep t ∧ ElemsOf (PySem.strKind P w) es.toList ∧ (es.toList.map fun e => strOf e.2).Perm ks ∧ ks.Nodup ∧ t.fits es.size = true ∧ t.led = !(w.params.followText "set-order") ∧ (ks = [] ∨ t.plain = false)
theorem layNew_led (t : SetTable) (es : Array (Int × Value)) (h : Int) (x : Value) : (layNew t es h x).2.1.led = t.led ∧ (t.plain = false → (layNew t es h x).2.1.plain = false) := by
  unfold layNew
  split
  · dsimp only
    unfold SetTable.orStandIn
    split
    · exact ⟨rfl, fun h => h⟩
    · exact ⟨rfl, fun _ => rfl⟩
  · exact ⟨rfl, fun _ => rfl⟩
theorem laid_led {mask finger moves : Nat} {led plain : Bool} {hs : Array Int} {t : SetTable} {o : Array Nat} (h : SetTable.laid mask finger moves led plain hs = some (t, o)) : t.led = led ∧ t.plain = plain := by
  unfold SetTable.laid at h
  cases q : SetTable.layClean mask hs with
  | none => rw [q] at h; cases h
  | some v =>
    rw [q] at h
    have h' : some _ = some (t, o) := h
    cases h'
    exact ⟨rfl, rfl⟩
theorem relayAll_led (t : SetTable) (es : Array (Int × Value)) (n : Nat) : (relayAll t es n).2.1.led = t.led ∧ (t.plain = false → (relayAll t es n).2.1.plain = false) := by
  unfold relayAll
  split
  · rename_i t' order q
    obtain ⟨h1, h2⟩ := laid_led q
    dsimp only
    split
    · exact ⟨h1, fun e => h2.trans e⟩
    · exact ⟨rfl, fun _ => rfl⟩
  · exact ⟨rfl, fun _ => rfl⟩
section
variable {prog : Program} {w : World} {A : Around} {E : Value → Shared → Prop} {s : Shared}
theorem setAdd_txt {a : Addr} {o : Obj} {ks : List Str} {x : Str} {tx : Tok} {Q : Bool → Shared → Prop} (ho : s.heap.get? a = some o) (hS : TxtSet prog w o ks) (hroom : ks.length + 1 < scanBound)
    (h : ∀ h' o' tk, Heap.SameBut a s.heap h' → h'.get? a = some o' → TxtSet prog w o' (if x ∈ ks then ks else ks ++ [x]) → Q (!decide (x ∈ ks)) { s with heap := h', toks := tk }) :
    wpAny (model prog w) A (setAdd a (.str x tx)) Q E s := by
  obtain ⟨es, ep, t, hex, hd, hel, hperm, hnd, hf, hled, hpl⟩ := hS
  have hkey : (PySem.strKind prog w).is x (.str x tx) = true := strKind_is prog w x tx
  have hsc : (Value.str x tx).scannable = true := rfl
  have hsz : es.size = ks.length := by rw [← hperm.length_eq, List.length_map, Array.length_toList]
  have hmemk : ∀ e ∈ es.toList, ∀ y, (PySem.strKind prog w).is y e.2 = true ↔ strOf e.2 = y := fun e he y => by
    obtain ⟨⟨k, hk, _⟩, _⟩ := hel e he
    obtain ⟨u, hu⟩ := Value.isStrOf_shape hk
    rw [hu]
    constructor
    · intro q
      exact (PySem.strKind prog w).inj _ _ _ (strKind_is prog w k u) q
    · intro q
      have : k = y := q
      rw [← this]
      exact strKind_is prog w k u
  unfold setAdd
  refine wpAny_holding (wpAny_bind ((PySem.strKind prog w).pyHash hkey ?_))
  unfold setAddHashed setAddHashedIn
  refine wpAny_holding (wpAny_bind (wpAny_setState_of (s := { s with toks := s.toks + 1 }) ho hd hf ?_))
  dsimp only
  rw [byScan_of hsc (by rw [hsz]; omega) hel]
  simp only [↓reduceIte]
  unfold setAddByScan
  refine wpAny_bind ?_
  refine wpAny_bind (wpAny_rule ?_)
  refine wpAny_bind (wpAny_setScan_of hkey ho hd hf hel ?_)
  cases hr : List.findIdx? (fun e => (PySem.strKind prog w).is x e.2) es.toList with
  | some j =>
    dsimp only
    obtain ⟨hj, hpj, _⟩ := List.findIdx?_eq_some_iff_getElem.mp hr
    have hin : x ∈ ks := hperm.mem_iff.mp (List.mem_map.mpr ⟨es.toList[j], List.getElem_mem hj, (hmemk _ (List.getElem_mem hj) x).mp hpj⟩)
    refine wpAny_pure (wpAny_pure ?_)
    have := h s.heap o (s.toks + 1) (Heap.SameBut.refl a s.heap) ho ⟨es, ep, t, hex, hd, hel, by rw [if_pos hin]; exact hperm, by rw [if_pos hin]; exact hnd, hf, hled, by rw [if_pos hin]; exact hpl⟩
    simpa [hin] using this
  | none =>
    dsimp only
    have hnin : x ∉ ks := fun q => by
      obtain ⟨e, he, q⟩ := List.mem_map.mp (hperm.mem_iff.mpr q)
      have := List.findIdx?_eq_none_iff.mp hr e he
      rw [(hmemk e he x).mpr q] at this; cases this
    have hgw : ∀ (b : Bool) {s₁ : Shared} {Q' : Unit → Shared → Prop}, Q' () s₁ → wpAny (model prog w) A (match b with | true => rule "set.scan.the-table-gave-way" | false => pure ()) Q' E s₁ :=
      fun b s₁ Q' hq => by cases b <;> first | exact wpAny_pure hq | exact wpAny_rule hq
    have hLp := layNew_perm t es ((PySem.strKind prog w).hash x) (.str x tx)
    have hLf := layNew_fits t es ((PySem.strKind prog w).hash x) (.str x tx)
    have hLl := layNew_led t es ((PySem.strKind prog w).hash x) (.str x tx)
    generalize hL : layNew t es ((PySem.strKind prog w).hash x) (.str x tx) = LL at hLp hLf hLl ⊢
    obtain ⟨es1, t1, wasDummy, gave⟩ := LL
    dsimp only at hLp hLf hLl ⊢
    rw [Array.toList_push] at hLp
    have hel1 : ElemsOf (PySem.strKind prog w) es1.toList := (hel.push hkey hsc).perm hLp
    have hp1 : (es1.toList.map fun e => strOf e.2).Perm (ks ++ [x]) := (hLp.map _).trans (by rw [List.map_append]; exact List.Perm.append hperm (List.Perm.refl _))
    have hnd1 : (ks ++ [x]).Nodup := by
      rw [List.nodup_append]
      refine ⟨hnd, by simp, fun a ha b hb => ?_⟩
      rw [List.mem_singleton.mp hb]
      exact fun q => hnin (q ▸ ha)
    have hsz1 : es1.size = ks.length + 1 := by rw [← Array.length_toList, hLp.length_eq, List.length_append, Array.length_toList, hsz]; rfl
    refine wpAny_bind (hgw _ ?_)
    -- the table behind the marks: plain no more
    have put : ∀ (h : Heap) (o' : Obj) (ep' : Nat) (tq : SetTable) (eq : Array (Int × Value)) (es2 : Array (Int × Value)) (t3 : SetTable), h.get? a = some o' → o'.ExactSet → o'.data = .set eq ep' tq → ElemsOf (PySem.strKind prog w) es2.toList → (es2.toList.map fun e => strOf e.2).Perm (ks ++ [x]) → t3.fits es2.size = true → t3.led = t.led → t3.plain = false →
        ∃ o2, (h.update a (Obj.putSet es2 t3)).get? a = some o2 ∧ o2.ExactSet ∧ o2.data = .set es2 (ep' + 1) t3 ∧ TxtSet prog w o2 (ks ++ [x]) := fun h o' ep' tq eq es2 t3 e1 e2 e3 e4 e5 e6 e7 e8 => by
      have hg := Heap.get?_update_self (Obj.putSet es2 t3) e1 (by rw [putSet_of es2 t3 e3]; rfl)
      rw [putSet_of es2 t3 e3] at hg
      exact ⟨_, hg, e2, rfl, es2, ep' + 1, t3, e2, rfl, e4, e5, hnd1, e6, e7.trans hled, .inr e8⟩
    have hb1 : es1.size < scanBound := by rw [hsz1]; exact hroom
    have fin : ∀ (h' : Heap) (o' : Obj), Heap.SameBut a s.heap h' → h'.get? a = some o' → TxtSet prog w o' (ks ++ [x]) → Q true { s with heap := h', toks := s.toks + 1 } := fun h' o' a1 a2 a3 => by
      have := h h' o' (s.toks + 1) a1 a2 (by rw [if_neg hnin]; exact a3)
      simpa [hnin] using this
    have tail : ∀ t2 : SetTable, t2.fits es1.size = true → t2.led = t.led → t2.plain = false → ∀ {g : Bool → Sem Unit}, (∀ (b : Bool) (s₁ : Shared) (Q' : Unit → Shared → Prop), Q' () s₁ → wpAny (model prog w) A (g b) Q' E s₁) → ∀ {R : Option Bool → Shared → Prop},
        (∀ (h' : Heap) (o' : Obj), Heap.SameBut a s.heap h' → h'.get? a = some o' → TxtSet prog w o' (ks ++ [x]) → R (some true) { s with heap := h', toks := s.toks + 1 }) →
        wpAny (model prog w) A (do
          storeSet a es1 t2
          if (!wasDummy && t2.tooFull) = true then do
              g (relayAll t2 es1 (SetTable.grown es1.size)).2.2
              storeSet a (relayAll t2 es1 (SetTable.grown es1.size)).1 (relayAll t2 es1 (SetTable.grown es1.size)).2.1
              pure (some true)
            else pure (some true)) R E { s with toks := s.toks + 1 } := by
      intro t2 hf2 hl2 hp2 g hg R hR
      obtain ⟨o1, ho1, hx1, hd1, hS1⟩ := put s.heap o ep t es es1 t2 ho hex hd hel1 hp1 hf2 hl2 hp2
      have hsb1 := Heap.SameBut.update s.heap a (Obj.putSet es1 t2)
      refine wpAny_bind (wpAny_storeSet_of (s := { s with toks := s.toks + 1 }) ho hd ?_ (fits_of_scanBound hb1))
      split
      · have hp := relayAll_perm t2 es1 (SetTable.grown es1.size)
        have hfr := relayAll_fits t2 es1 (SetTable.grown es1.size)
        have hlr := relayAll_led t2 es1 (SetTable.grown es1.size)
        generalize relayAll t2 es1 (SetTable.grown es1.size) = Rl at hp hfr hlr ⊢
        obtain ⟨es2, t3, gave2⟩ := Rl
        dsimp only at hp hfr hlr ⊢
        have hsz2 : es2.size = es1.size := by rw [← Array.length_toList, hp.length_eq, Array.length_toList]
        obtain ⟨o2, ho2, _, _, hS2⟩ := put _ o1 (ep + 1) t2 es1 es2 t3 ho1 hx1 hd1 (hel1.perm hp) ((hp.map _).trans hp1) hfr (hlr.1.trans hl2) (hlr.2 hp2)
        refine wpAny_bind (hg _ _ _ ?_)
        refine wpAny_bind (wpAny_storeSet_of ho1 hd1 ?_ (fits_of_scanBound (by rw [hsz2]; exact hb1)))
        exact wpAny_pure (hR _ o2 (hsb1.trans (Heap.SameBut.update _ a _)) ho2 hS2)
      · exact wpAny_pure (hR _ o1 hsb1 ho1 hS1)
    have hgw2 : ∀ (b : Bool) (s₁ : Shared) (Q' : Unit → Shared → Prop), Q' () s₁ → wpAny (model prog w) A.in1 (match b with | true => rule "set.scan.the-table-gave-way" | false => pure ()) Q' E s₁ :=
      fun b s₁ Q' hq => by cases b <;> first | exact wpAny_pure hq | exact wpAny_rule hq
    split
    · refine wpAny_bind ?_
      rw [hashByValue_scannable 8 hsc]
      refine wpAny_pure ?_
      refine tail _ ?_ ?_ ?_ ?_ ?_
      · exact SetTable.fits_plain_off hLf
      · exact hLl.1
      · rfl
      · intro b s₁ Q' hq; cases b <;> first | exact wpAny_pure hq | exact wpAny_rule hq
      · intro h' o' a1 a2 a3; dsimp only; exact wpAny_pure (fin h' o' a1 a2 a3)
    · rename_i hpl1
      refine wpAny_bind (wpAny_pure ?_)
      simp only [↓reduceIte]
      refine tail _ hLf hLl.1 (by simpa using hpl1) ?_ ?_
      · intro b s₁ Q' hq; cases b <;> first | exact wpAny_pure hq | exact wpAny_rule hq
      · intro h' o' a1 a2 a3; dsimp only; exact wpAny_pure (fin h' o' a1 a2 a3)
end
end
section
/-- a text joins what was met -/
def met (ks : List Str) (x : Str) : List Str := if x ∈ ks then ks else ks ++ [x]
theorem met_len (ks : List Str) (x : Str) : (met ks x).length ≤ ks.length + 1 := by
  unfold met
  split
  · omega
  · simp
theorem mets_len : ∀ (l ks : List Str), (l.foldl met ks).length ≤ ks.length + l.length
  | [], ks => by simp
  | x :: r, ks => by
    rw [List.foldl_cons, List.length_cons]
    have := mets_len r (met ks x)
    have := met_len ks x
    omega
theorem mets_mem : ∀ (l ks : List Str) (y : Str), y ∈ l.foldl met ks ↔ y ∈ ks ∨ y ∈ l
  | [], ks, y => by simp
  | x :: r, ks, y => by
    rw [List.foldl_cons, mets_mem r]
    unfold met
    by_cases h : x ∈ ks
    · rw [if_pos h]
      constructor
      · rintro (a | a)
        · exact .inl a
        · exact .inr (.tail _ a)
      · rintro (a | a)
        · exact .inl a
        · rcases List.mem_cons.mp a with rfl | a
          · exact .inl h
          · exact .inr a
    · rw [if_neg h, List.mem_append, List.mem_singleton, List.mem_cons]
      constructor
      · rintro ((a | a) | a)
        · exact .inl a
        · exact .inr (.inl a)
        · exact .inr (.inr a)
      · rintro (a | a | a)
        · exact .inl (.inl a)
        · exact .inl (.inr a)
        · exact .inr a
theorem mets_nodup : ∀ (l ks : List Str), ks.Nodup → (l.foldl met ks).Nodup
  | [], ks, h => h
  | x :: r, ks, h => by
    rw [List.foldl_cons]
    refine mets_nodup r _ ?_
    unfold met
    split
    · exact h
    · rename_i hn
      rw [List.nodup_append]
      refine ⟨h, by simp, fun a ha b hb => ?_⟩
      rw [List.mem_singleton.mp hb]
      exact fun q => hn (q ▸ ha)
theorem take_met {l : List Str} {i : Nat} {x : Str} (h : l[i]? = some x) : (l.take (i + 1)).foldl met [] = met ((l.take i).foldl met []) x := by
  rw [List.take_add_one, h, List.foldl_append]
  rfl
section
variable {prog : Program} {w : World} {A : Around} {R : Result → Shared → Prop} {I : Addr} {fp : List Addr} {n : Nat} {P : Nat → Value → Prop} {St : Nat → Heap → Prop}
theorem set_loop_txt (W : Walks prog w A.in1 I fp [I] n P St) (S : Addr) (hSf : S ∉ fp) (ss : List Str) (hn : ss.length = n) (hval : ∀ i v, P i v → ∃ x t, v = .str x t ∧ ss[i]? = some x) (hb : n + 1 < scanBound) :
    ∀ (k i : Nat) (s : Shared) (o : Obj), n - i = k → i ≤ n → St i s.heap → s.heap.get? S = some o → TxtSet prog w o ((ss.take i).foldl met []) →
      (∀ h' tk o', (∀ b ob, b ∉ [S, I] → s.heap.get? b = some ob → h'.get? b = some ob) → h'.get? S = some o' → TxtSet prog w o' (ss.foldl met []) → R (.ok (.ret .none)) { s with heap := h', toks := tk }) →
      codeAny (model prog w) A (.builtin "set.update.loop" ⟨[.ref S, .ref I], []⟩) R s := by
  have hSI : S ≠ I := fun h => hSf (h ▸ W.sub I (List.mem_singleton.mpr rfl))
  intro k
  induction k with
  | zero =>
    intro i s o hk hi hst ho hS hR
    have hin : i = n := by omega
    subst hin
    refine codeAny_builtin PyProof.Rows.F.entry_set_update_loop ?_
    rw [Around.under_plainId PyProof.Rows.F.plain_set_update_loop _]
    show wpAny _ A.in1 (pyNext (.ref I) >>= _) _ _ s
    refine wpAny_bind (W.done s _ _ hst fun h' tk hk' => ?_)
    show wpAny _ A.in1 (ret Value.none) _ _ _
    rw [← hn, List.take_length] at hS
    exact wpAny_pure (hR h' tk o (fun b ob hb e => hk' b ob (fun q => hb (.tail _ q)) e) (hk' S o (fun q => hSI (List.mem_singleton.mp q)) ho) hS)
  | succ k ih =>
    intro i s o hk hi hst ho hS hR
    have hlt : i < n := by omega
    refine codeAny_builtin PyProof.Rows.F.entry_set_update_loop ?_
    rw [Around.under_plainId PyProof.Rows.F.plain_set_update_loop _]
    show wpAny _ A.in1 (pyNext (.ref I) >>= _) _ _ s
    refine wpAny_bind (W.item i s _ _ hlt hst fun v h1 tk1 hP hst1 hk1 => ?_)
    obtain ⟨x, t, rfl, hx⟩ := hval i v hP
    have ho1 := hk1 S o (fun q => hSI (List.mem_singleton.mp q)) ho
    show wpAny _ A.in1 (holding [Value.str x t] (setAdd S (.str x t)) >>= _) _ _ _
    refine wpAny_bind (wpAny_holding ?_)
    have hlen : ((ss.take i).foldl met []).length ≤ i := by
      have := mets_len (ss.take i) []
      rw [List.length_take] at this
      simp only [List.length_nil] at this
      omega
    refine setAdd_txt ho1 hS (by omega) fun h2 o2 tk2 hsb ho2 hS2 => ?_
    have hS2' : TxtSet prog w o2 ((ss.take (i + 1)).foldl met []) := by
      rw [take_met hx]
      exact hS2
    refine wpAny_pure ⟨plainId_quiet PyProof.Rows.F.plain_set_update_loop _, ih (i + 1) _ o2 (by omega) hlt (W.frame _ h1 h2 hst1 fun b hb ob e => ?_) ho2 hS2' fun h3 tk3 o3 hk3 ho3 hS3 => ?_⟩
    · exact hsb.extBut b ob (fun q => hSf (q ▸ hb)) e
    · exact hR h3 tk3 o3 (fun b ob hb e => hk3 b ob hb (hsb.extBut b ob (fun q => hb (q ▸ .head _)) (hk1 b ob (fun q => hb (.tail _ q)) e))) ho3 hS3
end
end
section
section
variable {prog : Program} {w : World} {A : Around} {E : Value → Shared → Prop} {s : Shared}
abbrev freshSet (w : World) : Obj := { cls := .type "set", dict := none, data := .set #[] 0 (.fresh 0 0 (!(w.params.followText "set-order"))) }
theorem freshSet_is : TxtSet prog w (freshSet w) [] :=
  ⟨#[], 0, _, ⟨rfl, rfl, rfl⟩, rfl, fun e he => by simp at he, by simp, List.nodup_nil, by rfl, rfl, .inl rfl⟩
theorem set_new_txt (a : Value) {Q₁ : Value → Shared → Prop} (h : Q₁ (.ref s.heap.objs.size) { s with heap := s.heap.push (freshSet w) }) :
    codeAny (model prog w) A (.call (.builtin "set.__new__") ⟨[.type "set", a], []⟩) (wants Q₁ E) s := by
  refine codeAny_of_tree ?_
  show wpAny _ A.in1 (do checkBuiltinCall "set.__new__" ⟨[.type "set", a], []⟩; again (.builtin "set.__new__" ⟨[.type "set", a], []⟩)) _ _ s
  refine wpAny_bind (wpAny_of_eq (PySem.F.newCall_set_1 a) (wpAny_pure ⟨plainId_quiet PySem.F.plain_set_new _, codeAny_builtin PySem.F.entry_set_new ?_⟩))
  rw [Around.under_plainId PySem.F.plain_set_new _]
  unfold Builtin.«set.__new__» Builtin.Frozenset.newClass
  have hsub := sub_set_self
  obtain ⟨hp, g, d, tk, os⟩ := s
  dsimp only
  wp_walk
  refine wpAny_askSetting (wpAny_pure ?_)
  dsimp only
  simp only [newObj]
  refine wpAny_bind (wpAny_alloc (wpAny_pure ?_))
  exact wpAny_pure h
end
section
variable {prog : Program} {w : World} {A : Around} {E : Value → Shared → Prop} {s : Shared}
set_option maxRecDepth 100000 in
set_option maxHeartbeats 3200000 in
theorem call_set_txt {l : Addr} {vs : List Value} {ws : List (List Nat)} {Q : Value → Shared → Prop} (hh : A.handled = none) (hl : s.heap.IsList l vs.toArray) (hi : Txts vs ws) (hb : ws.length + 1 < scanBound)
    (h : ∀ (h' : Heap) (tk : Nat) (o : Obj), h'.get? s.heap.objs.size = some o → TxtSet prog w o ((ws.map mk).foldl met []) → (∀ b ob, s.heap.get? b = some ob → h'.get? b = some ob) → Q (.ref s.heap.objs.size) { s with heap := h', toks := tk }) :
    wpAny (model prog w) A (call (.type "set") [.ref l]) Q E s := by
  obtain ⟨c, tl, hmro⟩ := PySem.F.called_set.mro
  have hmade := PySem.F.called_set.made
  have hsub := PySem.F.called_set.sub
  refine wpAny_call (codeAny_of_tree ?_)
  show wpAny _ _ (callAny (.type "set") _) _ _ _
  refine wpAny_pure ⟨Code.quiet_builtin _ (by decide +kernel), codeAny_builtin PySem.F.entry_type_call ?_⟩
  rw [Around.under_plain (weight_type_call_type "set" [.ref l] []) rfl]
  have h1 := PySem.F.called_set.notType
  have h2 := PySem.F.called_set.canCreate
  have hct := PySem.F.typeCall_set_1 (.ref l)
  repeat (any_goals (first | assumption | wp_step))
  refine codeAny_mono (set_new_txt (.ref l) (E := E) (Q₁ := fun obj s₁ => obj = .ref s.heap.objs.size ∧ s₁ = { s with heap := s.heap.push (freshSet w) }) ⟨rfl, rfl⟩) fun r s₁ hr => ?_
  cases r with
  | error e => exact hr
  | ok fl =>
    cases fl with
    | ret obj =>
      obtain ⟨rfl, rfl⟩ := hr
      have hS : (s.heap.push (freshSet w)).get? s.heap.objs.size = some (freshSet w) := Heap.get?_push_size _ rfl
      have hT : Shared.TypeIs { s with heap := s.heap.push (freshSet w) } (.ref s.heap.objs.size) "set" := ⟨_, hS, rfl⟩
      have hli := PySem.F.called_set.init.lookup
      have hbi := PySem.F.called_set.init.bind (.ref s.heap.objs.size)
      repeat (any_goals (first | assumption | wp_step))
      refine codeAny_mono (codeAny_call_builtin (R := wants (fun r s₂ => r = .none ∧ ∃ h' tk o, s₂ = { s with heap := h', toks := tk } ∧ h'.get? s.heap.objs.size = some o ∧ TxtSet prog w o ((ws.map mk).foldl met []) ∧ (∀ b ob, s.heap.get? b = some ob → h'.get? b = some ob)) E)
        PySem.F.called_set.init.plain PySem.F.entry_set_init (check_set_init_1 hT ?_)) fun r₂ s₂ hr₂ => ?_
      · obtain ⟨ol, hol, hcl, nl, hdl⟩ := hl
        obtain ⟨ocls, odict, odata, oslots⟩ := ol
        simp only at hcl hdl
        subst hcl; subst hdl
        have hol' : (s.heap.push (freshSet w)).get? l = some { cls := .type "list", dict := odict, data := .seq vs.toArray nl, slots := oslots } := Heap.get?_push_of_some _ hol
        have hsls := PySem.F.sub_list_set
        have hslf := PySem.F.sub_list_frozenset
        have hne : (Value.type "list" == Value.type "dict") = false := by decide
        have hl1 : (s.heap.push (freshSet w)).IsList l vs.toArray := ⟨_, hol', rfl, nl, rfl⟩
        unfold Builtin.«set.__init__» noKeywords Builtin.Frozenset.updateFrom
        generalize hPI : pyIter = PI
        wp_walk
        subst hPI
        refine wpAny_pyIter_list hl1 ?_
        refine wpAny_bind (wpAny_runValue ?_)
        have hlS : l < s.heap.objs.size := Heap.lt_size hol
        have hh3 : A.in1.in1.in1.handled = none := by simp [hh]
        have hneI : l ≠ (s.heap.push (freshSet w)).objs.size := by
          rw [Heap.size_push]; exact Nat.ne_of_lt (Nat.lt_succ_of_lt hlS)
        have hSf : s.heap.objs.size ∉ [(s.heap.push (freshSet w)).objs.size, l] := by
          rw [Heap.size_push]; simp only [List.mem_cons, List.mem_singleton, List.not_mem_nil, or_false, not_or]
          exact ⟨Nat.ne_of_lt (Nat.lt_succ_self _), Nat.ne_of_gt hlS⟩
        have hvw : vs.length = ws.length := hi.length
        refine set_loop_txt (Walks.list hh3 _ l hneI vs.toArray) s.heap.objs.size hSf (ws.map mk) (by simpa using hvw.symm)
          (fun i v hv => by
            rw [List.getElem?_toArray] at hv
            obtain ⟨y, hy, t, rfl⟩ := Paired.getL hi hv
            exact ⟨mk y, t, rfl, by rw [List.getElem?_map, hy]; rfl⟩) (by simpa [hvw] using hb) (vs.toArray.size - 0) 0 _ (freshSet w) rfl (Nat.zero_le _)
          ⟨⟨_, Heap.get?_push_size _ rfl, rfl, rfl⟩, (hl1.push _)⟩ (Heap.get?_push_of_some _ hS) freshSet_is ?hR
        case hR =>
          intro h' tk' o' hk' ho' hS'
          refine wpAny_pure ?_
          show wpAny _ _ (ret Value.none) _ _ _
          refine wpAny_pure ⟨rfl, h', tk', o', rfl, ho', hS', fun b ob e => ?_⟩
          have hb0 : b < s.heap.objs.size := Heap.lt_size e
          have hb1 : b ≠ s.heap.objs.size := Nat.ne_of_lt hb0
          have hb2 : b ≠ (s.heap.push (freshSet w)).objs.size := by
            rw [Heap.size_push]; exact Nat.ne_of_lt (Nat.lt_succ_of_lt hb0)
          exact hk' b ob (by simp only [List.mem_cons, List.mem_singleton, List.not_mem_nil, or_false, not_or]; exact ⟨hb1, hb2⟩) (Heap.get?_push_of_some _ (Heap.get?_push_of_some _ e))
      · cases r₂ with
        | error e => exact hr₂
        | ok fl₂ =>
          cases fl₂ with
          | ret r =>
            obtain ⟨rfl, h', tk, o, rfl, ho, hS', hk'⟩ := hr₂
            repeat (any_goals (first | assumption | wp_step))
            exact h _ _ _ ho hS' hk'
          | _ => exact hr₂.elim
    | _ => exact hr.elim
end
end
section
theorem erase_perm {α : Type} : ∀ (l : List α) (i : Nat) (h : i < l.length), (l[i] :: l.eraseIdx i).Perm l
  | [], i, h => by simp at h
  | x :: r, 0, _ => by simp
  | x :: r, i + 1, h => by
    rw [List.getElem_cons_succ, List.eraseIdx_cons_succ]
    exact (List.Perm.swap _ _ _).trans (List.Perm.cons x (erase_perm r i (by simpa using h)))
section
variable {M : Model} {A : Around} {E : Value → Shared → Prop} {s : Shared}
theorem wpAny_choose {src : Source} {n : Nat} {Q : Nat → Shared → Prop} (hn : n ≠ 0) (h : ∀ i d, i < n → Q i { s with drawn := d }) : wpAny M A (choose src n) Q E s := fun Γ p hΓ => by
  unfold choose
  rw [Sem.wp_choose]
  exact ⟨hn, h _ _ (Nat.mod_lt _ (Nat.pos_of_ne_zero hn))⟩
theorem drawOrder_any {α : Type} : ∀ (n : Nat) (xs : List α) (s : Shared) (Q : List α → Shared → Prop), xs.length = n → (∀ ys d, ys.Perm xs → Q ys { s with drawn := d }) → wpAny M A (drawOrder n xs) Q E s
  | 0, xs, s, Q, hn, h => by
    have : xs = [] := List.length_eq_zero_iff.mp hn
    subst this
    unfold drawOrder
    exact wpAny_pure (h [] s.drawn (List.Perm.refl _))
  | n + 1, [], s, Q, hn, h => by cases hn
  | n + 1, x :: r, s, Q, hn, h => by
    unfold drawOrder
    refine wpAny_bind (wpAny_choose (by simp) fun i d hi => ?_)
    rw [List.getElem?_eq_getElem hi]
    dsimp only
    refine wpAny_bind (drawOrder_any n _ _ _ (by rw [List.length_eraseIdx, if_pos hi]; simp at hn ⊢; omega) fun ys d' hp => ?_)
    refine wpAny_pure (h _ d' ?_)
    exact (List.Perm.cons _ hp).trans (erase_perm _ _ hi)
end
theorem pick_go {α : Type} (next : Nat → Nat) : ∀ (fuel k : Nat) (left : List α) (out : Array α), left.length = fuel → (pickOrder.go next fuel k left out).toList.Perm (out.toList ++ left)
  | 0, k, left, out, h => by
    have : left = [] := List.length_eq_zero_iff.mp h
    subst this
    simp [pickOrder.go]
  | fuel + 1, k, left, out, h => by
    have hi : next k % left.length < left.length := Nat.mod_lt _ (by omega)
    unfold pickOrder.go
    rw [List.getElem?_eq_getElem hi]
    dsimp only
    refine (pick_go next fuel (k + 1) _ _ (by rw [List.length_eraseIdx, if_pos hi]; omega)).trans ?_
    rw [Array.toList_push, List.append_assoc]
    exact List.Perm.append (List.Perm.refl _) (erase_perm _ _ hi)
theorem pick_perm {α : Type} (next : Nat → Nat) (xs : Array α) : (pickOrder next xs).toList.Perm xs.toList := by
  unfold pickOrder
  refine (pick_go next xs.size 0 xs.toList #[] (by simp)).trans ?_
  simp
section
theorem slot_si_next : Slot "set_iterator" "__next__" "set_iterator.__next__" := .of (owner := "set_iterator") (n := "__next__") (by rw [typeLookup_type, builtinLookup_eq_fast]; kernel_rfl) (by decide +kernel) (by decide +kernel) (by decide +kernel)
    (by first | exact .inl (by decide +kernel) | exact .inr (by decide +kernel)) (by rw [isSubtype_type]; kernel_rfl)
theorem entry_si_next : entryFor table "set_iterator.__next__" = some Builtin.«set_iterator.__next__» := entryFor_of_tree (by kernel_rfl)
theorem slot_si_iter : Slot "set_iterator" "__iter__" "set_iterator.__iter__" := .of (owner := "set_iterator") (n := "__iter__") (by rw [typeLookup_type, builtinLookup_eq_fast]; kernel_rfl) (by decide +kernel) (by decide +kernel) (by decide +kernel)
    (by first | exact .inl (by decide +kernel) | exact .inr (by decide +kernel)) (by rw [isSubtype_type]; kernel_rfl)
theorem entry_si_iter : entryFor table "set_iterator.__iter__" = some Builtin.«dict_keyiterator.__iter__» :=
  entryFor_alias (id' := "dict_keyiterator.__iter__") (by kernel_rfl) rfl (by decide +kernel) (by kernel_rfl)
theorem entry_set_iter : entryFor table "set.__iter__" = some Builtin.«frozenset.__iter__» :=
  entryFor_alias (id' := "frozenset.__iter__") (by kernel_rfl) rfl (by decide +kernel) (by kernel_rfl)
variable {prog : Program} {w : World} {A : Around} {E : Value → Shared → Prop} {s : Shared}
abbrev siObj (first : Value) (i : Nat) (src : Value) (n ep : Nat) : Obj := { cls := .type "set_iterator", data := .fields #[first, .int (i : Int) 0, src, .int (n : Int) 0, .int (ep : Int) 0] }
end
end
section
section
variable {prog : Program} {w : World} {A : Around} {E : Value → Shared → Prop} {s : Shared}
theorem fieldsOf_at {I : Addr} {o : Obj} {vs : Array Value} {Q : Array Value → Shared → Prop} (ho : s.heap.get? I = some o) (hd : o.data = .fields vs) (h : Q vs s) : wpAny (model prog w) A (fieldsOf (.ref I)) Q E s := by
  unfold fieldsOf
  refine wpAny_bind (wpAny_load ho ?_)
  rw [hd]
  exact wpAny_pure h
theorem stop_fin {I : Addr} {Q : Fin → Shared → Prop} (hh : A.handled = none) (hE : ∀ h' e, (∀ b o, s.heap.get? b = some o → h'.get? b = some o) → (∃ o, h'.get? e = some o ∧ o.cls = .type "StopIteration") → E (.ref e) { s with heap := h' }) :
    wpAny (model prog w) A (do let e ← newExc (.type "StopIteration") []; raiseNew e) Q E s := by
  refine wpAny_bind ?_
  simp only [newExc, newTuple]
  refine wpAny_bind (wpAny_newObj_type ?_ (by size_fits))
  refine wpAny_bind (m := firstArgMember _ _) (wpAny_of_eq (a := Value.none) (by first | rfl | (simp only [firstArgMember]; rfl)) ?_)
  refine wpAny_newObj_type ?_ (by size_fits)
  simp only [raiseNew]
  refine wpAny_bind (wpAny_handled ?_)
  first | rw [show A.in1.handled = none from hh] | rw [hh]
  refine wpAny_bind (wpAny_pure (wpAny_throw ?_))
  exact hE _ _ (fun b o e => Heap.get?_push_of_some _ (Heap.get?_push_of_some _ e)) ⟨_, Heap.get?_push_size _ rfl, rfl⟩
/-- a drawn walk's step -/
theorem si_nextA {I T a : Addr} {i ep p : Nat} {places : Array Value} {o : Obj} {es : Array (Int × Value)} {t : SetTable} {hx : Int} {x : Value} {Q : Value → Shared → Prop} (hI : s.heap.get? I = some (siObj (.ref T) i (.ref a) es.size ep)) (hT : s.heap.IsTuple T places) (ho : s.heap.get? a = some o) (hd : o.data = .set es ep t) (hf : t.fits es.size = true)
    (hp : places[i]? = some (.int (p : Int) 0)) (he : es[p]? = some (hx, x)) (h : ∀ h', Heap.SameBut I s.heap h' → h'.get? I = some (siObj (.ref T) (i + 1) (.ref a) es.size ep) → Q x { s with heap := h' }) :
    wpAny (model prog w) A (Builtin.«set_iterator.__next__» ⟨[.ref I], []⟩) (fun fin s' => ∃ v, fin = .done (.ret v) ∧ Q v s') E s := by
  obtain ⟨oT, hoT, _, nT, hdT⟩ := hT
  show wpAny _ _ (fieldsOf (.ref I) >>= _) _ _ _
  refine wpAny_bind (fieldsOf_at hI rfl ?_)
  dsimp only
  refine wpAny_bind (wpAny_setEntries_of ho hd hf ?_)
  rw [if_neg (by simp)]
  refine wpAny_bind (wpAny_seqItems hoT hdT ?_)
  dsimp only
  rw [Int.toNat_natCast, hp]
  dsimp only
  refine wpAny_bind ?_
  unfold setNextDrawn
  refine wpAny_bind (wpAny_setState_of ho hd hf ?_)
  dsimp only
  rw [if_neg (by simp), Int.toNat_natCast, he]
  refine wpAny_pure ?_
  refine wpAny_bind (wpAny_setField hI rfl (by simp) ?_)
  refine wpAny_pure ⟨x, rfl, h _ (Heap.SameBut.update ..) ?_⟩
  exact (Heap.get?_update_self _ hI rfl).trans (by simp [Obj.mapFields, rawInt])
theorem si_stopA {I T a : Addr} {i ep : Nat} {places : Array Value} {o : Obj} {es : Array (Int × Value)} {t : SetTable} {Q : Fin → Shared → Prop} (hh : A.handled = none) (hI : s.heap.get? I = some (siObj (.ref T) i (.ref a) es.size ep)) (hT : s.heap.IsTuple T places) (ho : s.heap.get? a = some o) (hd : o.data = .set es ep t) (hf : t.fits es.size = true)
    (hp : places[i]? = none) (hE : ∀ h' e, (∀ b ob, b ≠ I → s.heap.get? b = some ob → h'.get? b = some ob) → (∃ ob, h'.get? e = some ob ∧ ob.cls = .type "StopIteration") → E (.ref e) { s with heap := h' }) :
    wpAny (model prog w) A (Builtin.«set_iterator.__next__» ⟨[.ref I], []⟩) Q E s := by
  obtain ⟨oT, hoT, _, nT, hdT⟩ := hT
  show wpAny _ _ (fieldsOf (.ref I) >>= _) _ _ _
  refine wpAny_bind (fieldsOf_at hI rfl ?_)
  dsimp only
  refine wpAny_bind (wpAny_setEntries_of ho hd hf ?_)
  rw [if_neg (by simp)]
  refine wpAny_bind (wpAny_seqItems hoT hdT ?_)
  dsimp only
  rw [Int.toNat_natCast, hp]
  dsimp only
  refine wpAny_bind (wpAny_setField hI rfl (by simp) ?_)
  have hI1 := Heap.get?_update_self (f := Obj.mapFields (·.setIfInBounds 0 (rawInt 0))) hI rfl
  refine wpAny_bind (wpAny_setField hI1 rfl (by simp [Obj.mapFields]) ?_)
  refine stop_fin (I := I) hh fun h' e hk he => hE h' e (fun b ob hb e' => hk b ob ?_) he
  exact (Heap.get?_update_other _ _ (Ne.symm hb)).trans ((Heap.get?_update_other _ _ (Ne.symm hb)).trans e')
/-- a step by text -/
theorem si_nextB {I a : Addr} {i ep : Nat} {o : Obj} {es : Array (Int × Value)} {t : SetTable} {hx : Int} {x : Value} {Q : Value → Shared → Prop} (hb : w.params.followText "set-order" = true) (hI : s.heap.get? I = some (siObj (.int 0 0) i (.ref a) es.size ep)) (ho : s.heap.get? a = some o) (hd : o.data = .set es ep t) (hf : t.fits es.size = true)
    (he : (pickOrder (w.params.setOrder a ep) es)[i]? = some (hx, x)) (h : ∀ h', Heap.SameBut I s.heap h' → h'.get? I = some (siObj (.int 0 0) (i + 1) (.ref a) es.size ep) → Q x { s with heap := h' }) :
    wpAny (model prog w) A (Builtin.«set_iterator.__next__» ⟨[.ref I], []⟩) (fun fin s' => ∃ v, fin = .done (.ret v) ∧ Q v s') E s := by
  show wpAny _ _ (fieldsOf (.ref I) >>= _) _ _ _
  refine wpAny_bind (fieldsOf_at hI rfl ?_)
  dsimp only
  refine wpAny_bind (wpAny_setEntries_of ho hd hf ?_)
  rw [if_neg (by simp)]
  refine wpAny_bind ?_
  unfold setNext
  refine wpAny_bind (wpAny_setState_of ho hd hf ?_)
  dsimp only
  unfold setsByText
  refine wpAny_bind (wpAny_bind (wpAny_askSetting (wpAny_pure ?_)))
  rw [if_pos (by exact hb), if_neg (by simp)]
  refine wpAny_bind ?_
  unfold setWalk
  refine wpAny_bind (wpAny_setState_of ho hd hf ?_)
  dsimp only
  unfold setsByText
  refine wpAny_bind (wpAny_bind (wpAny_askSetting (wpAny_pure ?_)))
  rw [if_pos (by exact hb)]
  refine wpAny_bind (wpAny_askSetting (wpAny_pure ?_))
  refine wpAny_pure ?_
  show wpAny _ _ (match ((pickOrder (w.params.setOrder a ep) es)[((i : Nat) : Int).toNat]?).map (fun e => (e.2, (0 : Int).toNat)) with | some (x, next) => _ | none => _) _ _ _
  rw [Int.toNat_natCast, he]
  show wpAny _ _ (setField (.ref I) 0 (rawInt 0) >>= fun _ => setField (.ref I) 1 (rawInt ((i : Int) + 1)) >>= fun _ => ret x) _ _ _
  refine wpAny_bind (wpAny_setField hI rfl (by simp) ?_)
  have hI1 := Heap.get?_update_self (f := Obj.mapFields (·.setIfInBounds 0 (rawInt 0))) hI rfl
  refine wpAny_bind (wpAny_setField hI1 rfl (by simp [Obj.mapFields]) ?_)
  refine wpAny_pure ⟨x, rfl, h _ ((Heap.SameBut.update ..).trans (Heap.SameBut.update ..)) ?_⟩
  exact (Heap.get?_update_self _ hI1 rfl).trans (by simp [Obj.mapFields, rawInt])
theorem si_stopB {I a : Addr} {i ep : Nat} {o : Obj} {es : Array (Int × Value)} {t : SetTable} {Q : Fin → Shared → Prop} (hh : A.handled = none) (hb : w.params.followText "set-order" = true) (hI : s.heap.get? I = some (siObj (.int 0 0) i (.ref a) es.size ep)) (ho : s.heap.get? a = some o) (hd : o.data = .set es ep t) (hf : t.fits es.size = true)
    (he : (pickOrder (w.params.setOrder a ep) es)[i]? = none) (hE : ∀ h' e, (∀ b ob, b ≠ I → s.heap.get? b = some ob → h'.get? b = some ob) → (∃ ob, h'.get? e = some ob ∧ ob.cls = .type "StopIteration") → E (.ref e) { s with heap := h' }) :
    wpAny (model prog w) A (Builtin.«set_iterator.__next__» ⟨[.ref I], []⟩) Q E s := by
  show wpAny _ _ (fieldsOf (.ref I) >>= _) _ _ _
  refine wpAny_bind (fieldsOf_at hI rfl ?_)
  dsimp only
  refine wpAny_bind (wpAny_setEntries_of ho hd hf ?_)
  rw [if_neg (by simp)]
  refine wpAny_bind ?_
  unfold setNext
  refine wpAny_bind (wpAny_setState_of ho hd hf ?_)
  dsimp only
  unfold setsByText
  refine wpAny_bind (wpAny_bind (wpAny_askSetting (wpAny_pure ?_)))
  rw [if_pos (by exact hb), if_neg (by simp)]
  refine wpAny_bind ?_
  unfold setWalk
  refine wpAny_bind (wpAny_setState_of ho hd hf ?_)
  dsimp only
  unfold setsByText
  refine wpAny_bind (wpAny_bind (wpAny_askSetting (wpAny_pure ?_)))
  rw [if_pos (by exact hb)]
  refine wpAny_bind (wpAny_askSetting (wpAny_pure ?_))
  refine wpAny_pure ?_
  show wpAny _ _ (match ((pickOrder (w.params.setOrder a ep) es)[((i : Nat) : Int).toNat]?).map (fun e => (e.2, (0 : Int).toNat)) with | some (x, next) => _ | none => _) _ _ _
  rw [Int.toNat_natCast, he]
  show wpAny _ _ (setField (.ref I) 2 .none >>= fun _ => _) _ _ _
  refine wpAny_bind (wpAny_setField hI rfl (by simp) ?_)
  refine stop_fin (I := I) hh fun h' e hk he => hE h' e (fun b ob hb e' => hk b ob ?_) he
  exact (Heap.get?_update_other _ _ (Ne.symm hb)).trans e'
theorem below_zero {j : Nat} : SetTable.below #[j] 0 = 0 := by
  simp [SetTable.below, SetTable.below.go]
theorem below_one {j : Nat} : SetTable.below #[j] (j + 1) = 1 := by
  simp [SetTable.below, SetTable.below.go]
/-- the only one -/
theorem si_nextC {I a : Addr} {ep j : Nat} {o : Obj} {t : SetTable} {hx : Int} {x : Value} {Q : Value → Shared → Prop} (hb : w.params.followText "set-order" = false) (hI : s.heap.get? I = some (siObj (.int 0 0) 0 (.ref a) 1 ep)) (ho : s.heap.get? a = some o) (hd : o.data = .set #[(hx, x)] ep t) (hf : t.fits 1 = true) (hl : t.led = true) (hp : t.place = #[j])
    (h : ∀ h', Heap.SameBut I s.heap h' → h'.get? I = some (siObj (.int ((j + 1 : Nat) : Int) 0) 1 (.ref a) 1 ep) → Q x { s with heap := h' }) :
    wpAny (model prog w) A (Builtin.«set_iterator.__next__» ⟨[.ref I], []⟩) (fun fin s' => ∃ v, fin = .done (.ret v) ∧ Q v s') E s := by
  show wpAny _ _ (fieldsOf (.ref I) >>= _) _ _ _
  refine wpAny_bind (fieldsOf_at hI rfl ?_)
  dsimp only
  refine wpAny_bind (wpAny_setEntries_of ho hd hf ?_)
  rw [if_neg (by simp)]
  refine wpAny_bind ?_
  unfold setNext
  refine wpAny_bind (wpAny_setState_of ho hd hf ?_)
  dsimp only
  unfold setsByText
  refine wpAny_bind (wpAny_bind (wpAny_askSetting (wpAny_pure ?_)))
  rw [if_neg (by show ¬ w.params.followText "set-order" = true; rw [hb]; decide), if_neg (by show ¬ (!t.plain && decide (1 > 1)) = true; simp)]
  refine wpAny_bind (wpAny_of_eq (a := ()) (by show (if (!t.led && true) = true then unsupported _ else pure ()) = pure (); rw [hl]; rfl) ?_)
  rw [hp]
  show wpAny _ _ (pure (match (#[(hx, x)] : Array (Int × Value))[SetTable.below #[j] 0]?, (#[j] : Array Nat)[SetTable.below #[j] 0]? with | some (_, x), some j => some (x, j + 1) | _, _ => none)) _ _ _
  rw [below_zero]
  refine wpAny_pure ?_
  show wpAny _ _ (setField (.ref I) 0 (rawInt ((j + 1 : Nat) : Int)) >>= fun _ => setField (.ref I) 1 (rawInt (((0 : Nat) : Int) + 1)) >>= fun _ => ret x) _ _ _
  refine wpAny_bind (wpAny_setField hI rfl (by simp) ?_)
  have hI1 := Heap.get?_update_self (f := Obj.mapFields (·.setIfInBounds 0 (rawInt ((j + 1 : Nat) : Int)))) hI rfl
  refine wpAny_bind (wpAny_setField hI1 rfl (by simp) ?_)
  refine wpAny_pure ⟨x, rfl, h _ ((Heap.SameBut.update ..).trans (Heap.SameBut.update ..)) ?_⟩
  exact (Heap.get?_update_self _ hI1 rfl).trans (by simp [Obj.mapFields, rawInt])
theorem si_stopC {I a : Addr} {ep j : Nat} {o : Obj} {t : SetTable} {hx : Int} {x : Value} {Q : Fin → Shared → Prop} (hh : A.handled = none) (hb : w.params.followText "set-order" = false) (hI : s.heap.get? I = some (siObj (.int ((j + 1 : Nat) : Int) 0) 1 (.ref a) 1 ep)) (ho : s.heap.get? a = some o) (hd : o.data = .set #[(hx, x)] ep t) (hf : t.fits 1 = true) (hl : t.led = true) (hp : t.place = #[j])
    (hE : ∀ h' e, (∀ b ob, b ≠ I → s.heap.get? b = some ob → h'.get? b = some ob) → (∃ ob, h'.get? e = some ob ∧ ob.cls = .type "StopIteration") → E (.ref e) { s with heap := h' }) :
    wpAny (model prog w) A (Builtin.«set_iterator.__next__» ⟨[.ref I], []⟩) Q E s := by
  show wpAny _ _ (fieldsOf (.ref I) >>= _) _ _ _
  refine wpAny_bind (fieldsOf_at hI rfl ?_)
  dsimp only
  refine wpAny_bind (wpAny_setEntries_of ho hd hf ?_)
  rw [if_neg (by simp)]
  refine wpAny_bind ?_
  unfold setNext
  refine wpAny_bind (wpAny_setState_of ho hd hf ?_)
  dsimp only
  unfold setsByText
  refine wpAny_bind (wpAny_bind (wpAny_askSetting (wpAny_pure ?_)))
  rw [if_neg (by show ¬ w.params.followText "set-order" = true; rw [hb]; decide), if_neg (by show ¬ (!t.plain && decide (1 > 1)) = true; simp)]
  refine wpAny_bind (wpAny_of_eq (a := ()) (by show (if (!t.led && true) = true then unsupported _ else pure ()) = pure (); rw [hl]; rfl) ?_)
  rw [hp, Int.toNat_natCast]
  show wpAny _ _ (pure (match (#[(hx, x)] : Array (Int × Value))[SetTable.below #[j] (j + 1)]?, (#[j] : Array Nat)[SetTable.below #[j] (j + 1)]? with | some (_, x), some j => some (x, j + 1) | _, _ => none)) _ _ _
  rw [below_one]
  refine wpAny_pure ?_
  show wpAny _ _ (setField (.ref I) 2 .none >>= fun _ => _) _ _ _
  refine wpAny_bind (wpAny_setField hI rfl (by simp) ?_)
  refine stop_fin (I := I) hh fun h' e hk he => hE h' e (fun b ob hb e' => hk b ob ?_) he
  exact (Heap.get?_update_other _ _ (Ne.symm hb)).trans e'
/-- a step, for the loop -/
theorem si_item {I : Addr} {first src : Value} {i n ep : Nat} {Q : Option Value → Shared → Prop} (hI : s.heap.get? I = some (siObj first i src n ep))
    (h : wpAny (model prog w) A.in1 (Builtin.«set_iterator.__next__» ⟨[.ref I], []⟩) (fun fin s' => ∃ v, fin = .done (.ret v) ∧ Q (some v) s') (fun _ _ => False) s) : wpAny (model prog w) A (pyNext (.ref I)) Q E s := by
  have hT : s.TypeIs (.ref I) "set_iterator" := ⟨_, hI, rfl⟩
  unfold pyNext
  refine wpAny_bind (wpAny_attempt (wpAny_callSpecial?_slot (name := Str.ofString "__next__") hT slot_si_next
    (wpAny_call_entry slot_si_next hT entry_si_next (wpAny_mono h (fun fin s' hq => ?_) fun _ _ f => f.elim) (by unfold argsOk; kernel_rfl))))
  obtain ⟨v, rfl, hq⟩ := hq
  exact ⟨v, rfl, wpAny_pure hq⟩
theorem si_end {I : Addr} {first src : Value} {i n ep : Nat} {Q : Option Value → Shared → Prop} (hI : s.heap.get? I = some (siObj first i src n ep))
    (h : ∀ (Q' : Fin → Shared → Prop) (E' : Value → Shared → Prop), (∀ h' e, (∀ b ob, b ≠ I → s.heap.get? b = some ob → h'.get? b = some ob) → (∃ ob, h'.get? e = some ob ∧ ob.cls = .type "StopIteration") → E' (.ref e) { s with heap := h' }) → wpAny (model prog w) A.in1 (Builtin.«set_iterator.__next__» ⟨[.ref I], []⟩) Q' E' s)
    (hQ : ∀ h', (∀ b ob, b ≠ I → s.heap.get? b = some ob → h'.get? b = some ob) → Q none { s with heap := h' }) : wpAny (model prog w) A (pyNext (.ref I)) Q E s := by
  have hT : s.TypeIs (.ref I) "set_iterator" := ⟨_, hI, rfl⟩
  unfold pyNext
  refine wpAny_bind (wpAny_attempt (wpAny_callSpecial?_slot (name := Str.ofString "__next__") hT slot_si_next
    (wpAny_call_entry slot_si_next hT entry_si_next (h _ _ fun h' e hk he => ?_) (by unfold argsOk; kernel_rfl))))
  obtain ⟨o, ho, hc⟩ := he
  refine wpAny_bind (wpAny_isInstance (T := "StopIteration") (b := true) ⟨o, ho, hc⟩ isSubtype_stop ?_)
  exact wpAny_pure (hQ _ hk)
end
end
section
section
variable {prog : Program} {w : World} {A : Around} {E : Value → Shared → Prop} {s : Shared}
/-- a set's walk, by its three roads -/
theorem walks_setB {I a : Addr} {ep : Nat} {o : Obj} {es : Array (Int × Value)} {t : SetTable} (hh : A.handled = none) (hne : a ≠ I) (hb : w.params.followText "set-order" = true) (hd : o.data = .set es ep t) (hf : t.fits es.size = true) :
    Walks prog w A I [I, a] [I] es.size (fun i v => ((pickOrder (w.params.setOrder a ep) es).toList.map (·.2))[i]? = some v) (fun i h => h.get? I = some (siObj (.int 0 0) i (.ref a) es.size ep) ∧ h.get? a = some o) where
  sub := fun b hb => by rw [List.mem_singleton.mp hb]; exact .head _
  frame := fun i h h' st hk => ⟨hk I (.head _) _ st.1, hk a (.tail _ (.head _)) _ st.2⟩
  item := fun i s Q E hi st hQ => by
    have hlen : (pickOrder (w.params.setOrder a ep) es).size = es.size := by rw [← Array.length_toList, (pick_perm _ es).length_eq, Array.length_toList]
    obtain ⟨⟨hx, x⟩, he⟩ : ∃ z, (pickOrder (w.params.setOrder a ep) es)[i]? = some z := ⟨_, Array.getElem?_eq_getElem (by omega)⟩
    refine si_item st.1 (si_nextB hb st.1 st.2 hd hf he fun h' hs hI => hQ x h' s.toks ?_ ⟨hI, hs.extBut a o hne st.2⟩ fun b ob hb e => hs.extBut b ob (fun q => hb (q ▸ .head _)) e)
    rw [List.getElem?_map, Array.getElem?_toList, he]; rfl
  done := fun s Q E st hQ => by
    have hlen : (pickOrder (w.params.setOrder a ep) es).size = es.size := by rw [← Array.length_toList, (pick_perm _ es).length_eq, Array.length_toList]
    exact si_end st.1 (fun Q' E' hE => si_stopB (by first | exact hh | (show A.handled = none; exact hh)) hb st.1 st.2 hd hf (Array.getElem?_eq_none (by omega)) hE) fun h' hk => hQ h' s.toks fun b ob hb e => hk b ob (fun q => hb (q ▸ .head _)) e
  self := fun i s Q E st hQ => by
    have hT : s.TypeIs (.ref I) "set_iterator" := ⟨_, st.1, rfl⟩
    refine wpAny_pyIter_slot hT slot_si_iter (wpAny_call_entry slot_si_iter hT entry_si_iter ?_ (by unfold argsOk; kernel_rfl))
    show wpAny _ _ (ret (.ref I)) _ _ s
    exact wpAny_pure ⟨_, rfl, "set_iterator", _, hT, slot_si_next.lookup, hQ⟩
theorem walks_setA {I T a : Addr} {ep : Nat} {o : Obj} {es : Array (Int × Value)} {t : SetTable} {ps : List Nat} (hh : A.handled = none) (hne : a ≠ I) (hTI : T ≠ I) (hd : o.data = .set es ep t) (hf : t.fits es.size = true) (hp : ps.Perm (List.range es.size)) :
    Walks prog w A I [I, T, a] [I] es.size (fun i v => ∃ p z, ps[i]? = some p ∧ es[p]? = some z ∧ v = z.2) (fun i h => h.get? I = some (siObj (.ref T) i (.ref a) es.size ep) ∧ h.IsTuple T (ps.map fun p : Nat => rawInt (p : Int)).toArray ∧ h.get? a = some o) where
  sub := fun b hb => by rw [List.mem_singleton.mp hb]; exact .head _
  frame := fun i h h' st hk => ⟨hk I (.head _) _ st.1, st.2.1.at fun ob e => hk T (.tail _ (.head _)) ob e, hk a (.tail _ (.tail _ (.head _))) _ st.2.2⟩
  item := fun i s Q E hi st hQ => by
    have hlen : ps.length = es.size := by rw [hp.length_eq, List.length_range]
    have hpi : ps[i]? = some (ps[i]'(by omega)) := List.getElem?_eq_getElem _
    have hlt : ps[i]'(by omega) < es.size := List.mem_range.mp (hp.mem_iff.mp (List.getElem_mem _))
    generalize ps[i]'(by omega) = p at hpi hlt
    obtain ⟨⟨hx, x⟩, he⟩ : ∃ z, es[p]? = some z := ⟨_, Array.getElem?_eq_getElem hlt⟩
    refine si_item st.1 (si_nextA st.1 st.2.1 st.2.2 hd hf (p := p) (by rw [List.getElem?_toArray, List.getElem?_map, hpi]; rfl) he fun h' hs hI => hQ x h' s.toks ⟨p, _, hpi, he, rfl⟩ ⟨hI, st.2.1.extBut hs.extBut hTI, hs.extBut a o hne st.2.2⟩ fun b ob hb e => hs.extBut b ob (fun q => hb (q ▸ .head _)) e)
  done := fun s Q E st hQ => by
    have hlen : ps.length = es.size := by rw [hp.length_eq, List.length_range]
    exact si_end st.1 (fun Q' E' hE => si_stopA (by first | exact hh | (show A.handled = none; exact hh)) st.1 st.2.1 st.2.2 hd hf (by rw [List.getElem?_toArray, List.getElem?_eq_none]; rw [List.length_map]; omega) hE) fun h' hk => hQ h' s.toks fun b ob hb e => hk b ob (fun q => hb (q ▸ .head _)) e
  self := fun i s Q E st hQ => by
    have hT : s.TypeIs (.ref I) "set_iterator" := ⟨_, st.1, rfl⟩
    refine wpAny_pyIter_slot hT slot_si_iter (wpAny_call_entry slot_si_iter hT entry_si_iter ?_ (by unfold argsOk; kernel_rfl))
    show wpAny _ _ (ret (.ref I)) _ _ s
    exact wpAny_pure ⟨_, rfl, "set_iterator", _, hT, slot_si_next.lookup, hQ⟩
theorem walks_setC {I a : Addr} {ep j : Nat} {o : Obj} {t : SetTable} {hx : Int} {x : Value} (hh : A.handled = none) (hne : a ≠ I) (hb : w.params.followText "set-order" = false) (hd : o.data = .set #[(hx, x)] ep t) (hf : t.fits 1 = true) (hl : t.led = true) (hp : t.place = #[j]) :
    Walks prog w A I [I, a] [I] 1 (fun i v => ([x] : List Value)[i]? = some v) (fun i h => ((i = 0 ∧ h.get? I = some (siObj (.int 0 0) 0 (.ref a) 1 ep)) ∨ (i = 1 ∧ h.get? I = some (siObj (.int ((j + 1 : Nat) : Int) 0) 1 (.ref a) 1 ep))) ∧ h.get? a = some o) where
  sub := fun b hb => by rw [List.mem_singleton.mp hb]; exact .head _
  frame := fun i h h' st hk => ⟨st.1.imp (fun q => ⟨q.1, hk I (.head _) _ q.2⟩) (fun q => ⟨q.1, hk I (.head _) _ q.2⟩), hk a (.tail _ (.head _)) _ st.2⟩
  item := fun i s Q E hi st hQ => by
    have hi0 : i = 0 := by omega
    subst hi0
    obtain ⟨st1, st2⟩ := st
    rcases st1 with ⟨_, st1⟩ | ⟨h, _⟩
    · exact si_item st1 (si_nextC hb st1 st2 hd hf hl hp fun h' hs hI => hQ x h' s.toks rfl ⟨.inr ⟨rfl, hI⟩, hs.extBut a o hne st2⟩ fun b ob hb e => hs.extBut b ob (fun q => hb (q ▸ .head _)) e)
    · cases h
  done := fun s Q E st hQ => by
    obtain ⟨st1, st2⟩ := st
    rcases st1 with ⟨h, _⟩ | ⟨_, st1⟩
    · cases h
    · exact si_end st1 (fun Q' E' hE => si_stopC (by first | exact hh | (show A.handled = none; exact hh)) hb st1 st2 hd hf hl hp hE) fun h' hk => hQ h' s.toks fun b ob hb e => hk b ob (fun q => hb (q ▸ .head _)) e
  self := fun i s Q E st hQ => by
    have hT : s.TypeIs (.ref I) "set_iterator" := by
      rcases st.1 with ⟨_, q⟩ | ⟨_, q⟩ <;> exact ⟨_, q, rfl⟩
    refine wpAny_pyIter_slot hT slot_si_iter (wpAny_call_entry slot_si_iter hT entry_si_iter ?_ (by unfold argsOk; kernel_rfl))
    show wpAny _ _ (ret (.ref I)) _ _ s
    exact wpAny_pure ⟨_, rfl, "set_iterator", _, hT, slot_si_next.lookup, hQ⟩
theorem one_arr {α : Type} {xs : Array α} (h : xs.size = 1) : ∃ x, xs = #[x] := by
  obtain ⟨l⟩ := xs
  match l, h with
  | [x], _ => exact ⟨x, rfl⟩
theorem map_strOf {ps : List Nat} {es : Array (Int × Value)} (hp : ps.Perm (List.range es.size)) : ∃ π : List Value, π.length = es.size ∧ (∀ (i : Nat) (v : Value), (∃ (p : Nat) (z : Int × Value), ps[i]? = some p ∧ es[p]? = some z ∧ v = z.2) → π[i]? = some v) ∧ π.Perm (es.toList.map (·.2)) := by
  have e : (List.range es.size).map (fun p : Nat => ((es[p]?).map (fun z : Int × Value => z.2)).getD Value.none) = es.toList.map (·.2) := by
    apply List.ext_getElem (by simp)
    intro i h1 h2
    have hi : i < es.size := by simpa using h1
    simp [hi]
  refine ⟨ps.map fun p : Nat => ((es[p]?).map (fun z : Int × Value => z.2)).getD Value.none, by rw [List.length_map, hp.length_eq, List.length_range], fun i v ⟨p, z, h1, h2, e⟩ => by rw [List.getElem?_map, h1, Option.map_some, h2, e]; rfl, ?_⟩
  exact (hp.map _).trans (List.Perm.of_eq e)
theorem pyIter_set_txt {a : Addr} {o : Obj} {ks : List Str} {Q : Value → Shared → Prop} (ho : s.heap.get? a = some o) (hS : TxtSet prog w o ks) (hne : ks ≠ []) (hk : ks.length < scanBound)
    (hQ : ∀ (I : Addr) (h' : Heap) (d : Drawn) (π : List Value) (fp : List Addr) (St : Nat → Heap → Prop), (∀ b ob, s.heap.get? b = some ob → h'.get? b = some ob) → s.heap.get? I = none → (∀ b ∈ fp, b = a ∨ s.heap.get? b = none) → (∀ b ∈ fp, b < h'.objs.size) → I ∈ fp → (∃ oI, h'.get? I = some oI ∧ oI.cls = .type "set_iterator") →
      (∀ A' : Around, A'.handled = none → Walks prog w A' I fp [I] π.length (fun i v => π[i]? = some v) St) → St 0 h' → (π.map strOf).Perm ks → (∀ v ∈ π, ∃ x t, v = .str x t) → Q (.ref I) { s with heap := h', drawn := d }) :
    wpAny (model prog w) A (pyIter (.ref a)) Q E s := by
  obtain ⟨es, ep, t, hex, hd, hel, hperm, hnd, hf, hled, hpl⟩ := hS
  have hsz : es.size = ks.length := by rw [← hperm.length_eq, List.length_map, Array.length_toList]
  have hplain : t.plain = false := hpl.resolve_left hne
  have hpos : 0 < es.size := by rw [hsz]; exact List.length_pos_iff.mpr hne
  have hal : a < s.heap.objs.size := Heap.lt_size ho
  have hT : s.TypeIs (.ref a) "set" := ⟨o, ho, hex.1⟩
  have hstr : ∀ π : List Value, π.Perm (es.toList.map (·.2)) → (π.map strOf).Perm ks ∧ ∀ v ∈ π, ∃ x t, v = .str x t := fun π hp => by
    refine ⟨(hp.map _).trans (by rw [List.map_map]; exact hperm), fun v hv => ?_⟩
    obtain ⟨e, he, rfl⟩ := List.mem_map.mp (hp.mem_iff.mp hv)
    obtain ⟨⟨k, hk, _⟩, _⟩ := hel e he
    obtain ⟨u, hu⟩ := Value.isStrOf_shape hk
    exact ⟨k, u, hu⟩
  refine wpAny_pyIter_slot hT PySem.F.slot_set_iter (wpAny_call_entry PySem.F.slot_set_iter hT entry_set_iter ?_ (PySem.F.args_set_iter_1 _))
  show wpAny _ _ (Builtin.Frozenset.sizeOf a >>= _) _ _ _
  unfold Builtin.Frozenset.sizeOf
  refine wpAny_bind (wpAny_bind (wpAny_setEntries_of ho hd hf (wpAny_pure ?_)))
  refine wpAny_bind ?_
  unfold setDrawn
  refine wpAny_bind (wpAny_setState_of ho hd hf ?_)
  dsimp only
  unfold setsByText
  refine wpAny_bind (wpAny_bind (wpAny_askSetting (wpAny_pure ?_)))
  refine wpAny_pure ?_
  show wpAny _ _ (if (!(w.params.followText "set-order") && (!t.plain && decide (es.size > 1))) = true then _ else _) _ _ _
  rw [hplain]
  have hnI : ∀ (h : Heap) (I : Addr), h.objs.size = I → h.get? I = none := fun h I e => Heap.get?_none_of_le (Nat.le_of_eq e)
  cases hbt : w.params.followText "set-order" with
  | true =>
    rw [if_neg (by simp)]
    refine wpAny_bind (wpAny_pure ?_)
    refine wpAny_bind (wpAny_setEpoch_of ho hd hf ?_)
    refine wpAny_bind (wpAny_newObj_type ?_ ?hz)
    case hz => show (_ : Nat) ≤ _; simp [sizeLine_eq]
    have hI : (s.heap.push (siObj (.int 0 0) 0 (.ref a) es.size ep)).get? s.heap.objs.size = some (siObj (.int 0 0) 0 (.ref a) es.size ep) := Heap.get?_push_size _ rfl
    refine wpAny_pure ⟨_, rfl, "set_iterator", _, ⟨_, hI, rfl⟩, slot_si_next.lookup, ?_⟩
    have hpp := (pick_perm (w.params.setOrder a ep) es).map (·.2)
    have hlen : ((pickOrder (w.params.setOrder a ep) es).toList.map (·.2)).length = es.size := by rw [hpp.length_eq, List.length_map, Array.length_toList]
    refine hQ s.heap.objs.size _ s.drawn ((pickOrder (w.params.setOrder a ep) es).toList.map (·.2)) [s.heap.objs.size, a] (fun i h => h.get? s.heap.objs.size = some (siObj (.int 0 0) i (.ref a) es.size ep) ∧ h.get? a = some o) (fun b ob e => Heap.get?_push_of_some _ e) (hnI _ _ rfl) ?_ ?_ (.head _) ⟨_, hI, rfl⟩
      (fun A' hA' => by rw [hlen]; exact walks_setB hA' (Nat.ne_of_lt hal) hbt hd hf) ⟨hI, Heap.get?_push_of_some _ ho⟩ (hstr _ hpp).1 (hstr _ hpp).2
    · intro b hb
      rcases List.mem_cons.mp hb with rfl | hb
      · exact .inr (hnI _ _ rfl)
      · exact .inl (List.mem_singleton.mp hb)
    · intro b hb
      show b < (s.heap.push _).objs.size
      rw [Heap.size_push]
      rcases List.mem_cons.mp hb with rfl | hb
      · exact Nat.lt_succ_self _
      · rw [List.mem_singleton.mp hb]; exact Nat.lt_succ_of_lt hal
  | false =>
    have hled' : t.led = true := by rw [hled, hbt]; rfl
    by_cases hone : es.size = 1
    · rw [if_neg (by simp [hone])]
      obtain ⟨⟨hx, x⟩, rfl⟩ := one_arr hone
      have hps : t.place.size = 1 := by
        simp only [SetTable.fits, Bool.and_eq_true, beq_iff_eq] at hf
        exact hf.1
      obtain ⟨j, hj⟩ := one_arr hps
      refine wpAny_bind (wpAny_pure ?_)
      refine wpAny_bind (wpAny_setEpoch_of ho hd hf ?_)
      refine wpAny_bind (wpAny_newObj_type ?_ ?hz)
      case hz => show (_ : Nat) ≤ _; simp [sizeLine_eq]
      have hI : (s.heap.push (siObj (.int 0 0) 0 (.ref a) 1 ep)).get? s.heap.objs.size = some (siObj (.int 0 0) 0 (.ref a) 1 ep) := Heap.get?_push_size _ rfl
      refine wpAny_pure ⟨_, rfl, "set_iterator", _, ⟨_, hI, rfl⟩, slot_si_next.lookup, ?_⟩
      refine hQ s.heap.objs.size _ s.drawn [x] [s.heap.objs.size, a] _ (fun b ob e => Heap.get?_push_of_some _ e) (hnI _ _ rfl) ?_ ?_ (.head _) ⟨_, hI, rfl⟩
        (fun A' hA' => walks_setC hA' (Nat.ne_of_lt hal) hbt hd hf hled' hj) ⟨.inl ⟨rfl, hI⟩, Heap.get?_push_of_some _ ho⟩ (hstr _ (List.Perm.refl _)).1 (hstr _ (List.Perm.refl _)).2
      · intro b hb
        rcases List.mem_cons.mp hb with rfl | hb
        · exact .inr (hnI _ _ rfl)
        · exact .inl (List.mem_singleton.mp hb)
      · intro b hb
        show b < (s.heap.push _).objs.size
        rw [Heap.size_push]
        rcases List.mem_cons.mp hb with rfl | hb
        · exact Nat.lt_succ_self _
        · rw [List.mem_singleton.mp hb]; exact Nat.lt_succ_of_lt hal
    · rw [if_pos (by simp; omega)]
      refine wpAny_bind (drawOrder_any _ _ _ _ (by rw [List.length_range]) fun ps d hp => ?_)
      have hlen : ps.length = es.size := by rw [hp.length_eq, List.length_range]
      refine wpAny_bind (wpAny_newTuple ?_ ?hz1)
      case hz1 =>
        rw [List.length_map, hlen, hsz, sizeLine_eq]
        unfold scanBound at hk
        omega
      have up : ∀ b ob, s.heap.get? b = some ob → (s.heap.push { cls := .type "tuple", data := .seq (ps.map fun i : Nat => rawInt (i : Int)).toArray }).get? b = some ob := fun b ob e => Heap.get?_push_of_some _ e
      refine wpAny_bind (wpAny_setEpoch_of (up _ _ ho) hd hf ?_)
      refine wpAny_bind (wpAny_newObj_type ?_ ?hz)
      case hz => show (_ : Nat) ≤ _; simp [sizeLine_eq]
      have hT0 : (s.heap.push { cls := .type "tuple", data := .seq (ps.map fun i : Nat => rawInt (i : Int)).toArray }).get? s.heap.objs.size = some { cls := .type "tuple", data := .seq (ps.map fun i : Nat => rawInt (i : Int)).toArray } := Heap.get?_push_size _ rfl
      have hsz1 : (s.heap.push { cls := .type "tuple", data := .seq (ps.map fun i : Nat => rawInt (i : Int)).toArray }).objs.size = s.heap.objs.size + 1 := Heap.size_push ..
      generalize s.heap.push { cls := .type "tuple", data := .seq (ps.map fun i : Nat => rawInt (i : Int)).toArray } = H1 at up hT0 hsz1 ⊢
      have hI : (H1.push (siObj (.ref s.heap.objs.size) 0 (.ref a) es.size ep)).get? H1.objs.size = some (siObj (.ref s.heap.objs.size) 0 (.ref a) es.size ep) := Heap.get?_push_size _ rfl
      refine wpAny_pure ⟨_, rfl, "set_iterator", _, ⟨_, hI, rfl⟩, slot_si_next.lookup, ?_⟩
      obtain ⟨π, hπ1, hπ2, hπ3⟩ := map_strOf hp
      have hTI : s.heap.objs.size ≠ H1.objs.size := by rw [hsz1]; exact Nat.ne_of_lt (Nat.lt_succ_self _)
      have haI : a ≠ H1.objs.size := by rw [hsz1]; exact Nat.ne_of_lt (Nat.lt_succ_of_lt hal)
      have hn1 : s.heap.get? H1.objs.size = none := Heap.get?_none_of_le (by rw [hsz1]; exact Nat.le_succ _)
      refine hQ H1.objs.size _ d π [H1.objs.size, s.heap.objs.size, a] (fun i h => h.get? H1.objs.size = some (siObj (.ref s.heap.objs.size) i (.ref a) es.size ep) ∧ h.IsTuple s.heap.objs.size (ps.map fun p : Nat => rawInt (p : Int)).toArray ∧ h.get? a = some o) (fun b ob e => Heap.get?_push_of_some _ (up _ _ e)) hn1 ?_ ?_ (.head _) ⟨_, hI, rfl⟩
        (fun A' hA' => by
          have W := walks_setA (prog := prog) (w := w) hA' haI hTI hd hf hp
          rw [hπ1]
          exact ⟨W.sub, W.frame, fun i s Q E hi st hQ => W.item i s Q E hi st fun v h' tk hP => hQ v h' tk (hπ2 i v hP), W.done, W.self⟩) ⟨hI, ⟨_, Heap.get?_push_of_some _ hT0, rfl, _, rfl⟩, Heap.get?_push_of_some _ (up _ _ ho)⟩ (hstr _ hπ3).1 (hstr _ hπ3).2
      · intro b hb
        rcases List.mem_cons.mp hb with rfl | hb
        · exact .inr hn1
        · rcases List.mem_cons.mp hb with rfl | hb
          · exact .inr (hnI _ _ rfl)
          · exact .inl (List.mem_singleton.mp hb)
      · intro b hb
        show b < (H1.push _).objs.size
        rw [Heap.size_push]
        rcases List.mem_cons.mp hb with rfl | hb
        · exact Nat.lt_succ_self _
        · rw [hsz1]
          rcases List.mem_cons.mp hb with rfl | hb
          · exact Nat.lt_succ_of_lt (Nat.lt_succ_self _)
          · rw [List.mem_singleton.mp hb]; exact Nat.lt_succ_of_lt (Nat.lt_succ_of_lt hal)
end
end
section
section
variable {prog : Program} {w : World} {A : Around} {E : Value → Shared → Prop} {s : Shared}
theorem set_hint {r : Addr} {Q : Bool → Shared → Prop} (hT : s.TypeIs (.ref r) "set") (h : Q false s) : wpAny (model prog w) A (Builtin.List.listLengthHint (.ref r)) Q E s := by
  unfold Builtin.List.listLengthHint
  refine wpAny_bind (wpAny_specialOf hT PySem.F.slot_set_len.lookup ?_)
  generalize hid : ("set.__len__" : String) = id0
  wp_delta
  rw [show splitId id0 = some ("set", "__len__") from by subst hid; decide +kernel]
  subst hid
  refine wpAny_bind (wpAny_isInstance (T := "set") (b := true) hT (by rw [isSubtype_type]; kernel_rfl) ?_)
  refine wpAny_ite_split (fun hab => absurd hab (by decide)) (fun _ => ?_)
  refine wpAny_ite_split (fun _ => ?_) (fun hab => absurd (by decide +kernel) hab)
  refine wpAny_bind (wpAny_typeOf hT ?_)
  exact wpAny_pure h
set_option maxRecDepth 20000 in
set_option maxHeartbeats 2000000 in
theorem collect_set {a : Addr} {o : Obj} {ks : List Str} {R : List Value → Shared → Prop} (hh : A.handled = none) (ho : s.heap.get? a = some o) (hS : TxtSet prog w o ks) (hne : ks ≠ []) (hk : ks.length < scanBound)
    (h : ∀ (h' : Heap) (tk : Nat) (d : Drawn) (π : List Value), (∀ b ob, s.heap.get? b = some ob → h'.get? b = some ob) → (π.map strOf).Perm ks → (∀ v ∈ π, ∃ x t, v = .str x t) → R π { s with heap := h', toks := tk, drawn := d }) :
    wpAny (model prog w) A (collect (.ref a)) R E s := by
  have hal : a < s.heap.objs.size := Heap.lt_size ho
  have hcls : o.cls = .type "set" := by obtain ⟨_, _, _, hx, _⟩ := hS; exact hx.1
  unfold collect
  refine wpAny_bind (wpAny_runValue (codeAny_builtin entry_proto_collect' ?_))
  rw [Around.under_plainId PySem.F.plain_proto_collect _]
  show wpAny _ A.in1 (newList [] >>= fun l => again (.builtin "list.__iadd__" ⟨[l, .ref a], []⟩)) _ _ s
  refine wpAny_bind (wpAny_newObj_type ?_)
  refine wpAny_pure ⟨plainId_quiet PySem.F.plain_list_iadd _, codeAny_builtin entry_list_iadd' ?_⟩
  rw [Around.under_plainId PySem.F.plain_list_iadd _]
  have hS₁ : (s.heap.push { cls := .type "list", data := .seq ([] : List Value).toArray }).get? s.heap.objs.size = some { cls := .type "list", data := .seq #[] } := Heap.get?_push_size _ rfl
  show wpAny _ A.in1 (Builtin.List.listExtendWith (.ref s.heap.objs.size) (.ref a) (.ref s.heap.objs.size)) _ _ _
  have ho1 : (s.heap.push { cls := .type "list", data := .seq ([] : List Value).toArray }).get? a = some o := Heap.get?_push_of_some _ ho
  have up1 : ∀ b ob, s.heap.get? b = some ob → (s.heap.push { cls := .type "list", data := .seq ([] : List Value).toArray }).get? b = some ob := fun b ob e => Heap.get?_push_of_some _ e
  have hlt1 : ∀ b ob, s.heap.get? b = some ob → b ≠ s.heap.objs.size := fun b ob e => Nat.ne_of_lt (Heap.lt_size e)
  generalize s.heap.push { cls := .type "list", data := .seq ([] : List Value).toArray } = H1 at hS₁ ho1 up1 ⊢
  generalize hSz : s.heap.objs.size = S at hS₁ hal hlt1 ⊢
  have hSa : S ≠ a := Nat.ne_of_gt hal
  unfold Builtin.List.listExtendWith
  refine wpAny_bind (wpAny_typeOf (T := "set") ⟨o, ho1, hcls⟩ ?_)
  have e1 : Builtin.List.listSameRef (.ref S) (.ref a) = false := by simp [Builtin.List.listSameRef, hSa]
  have e2 : (Value.type "set" == Value.type "list") = false := by decide
  have e3 : (Value.type "set" == Value.type "tuple") = false := by decide
  simp only [e1, e2, e3, Bool.or_false, Bool.false_eq_true, if_false]
  refine wpAny_bind (pyIter_set_txt (s := { s with heap := H1 }) ho1 hS hne hk fun I h2 d π fp St k2 hI hfp1 hfp2 hIf hI2 W hst hπ1 hπ2 => ?_)
  have hI1 : H1.get? I = none := hI
  have hSf : S ∉ fp := fun q => by
    rcases hfp1 S q with e | e
    · exact hSa e
    · have : H1.get? S = none := e
      rw [hS₁] at this; cases this
  have hSI : S ≠ I := fun e => hSf (e ▸ hIf)
  refine wpAny_bind (wpAny_holding (set_hint ⟨o, k2 _ _ ho1, hcls⟩ ?_))
  rw [if_pos (by show (false || _) = true; decide +kernel)]
  refine wpAny_bind (wpAny_rule ?_)
  refine wpAny_bind ?_
  show wpAny _ _ (updateSeq S (·.push .none) >>= fun _ => updateSeq S (·.pop)) _ _ _
  have hS2 := k2 _ _ hS₁
  refine wpAny_bind (wpAny_updateSeq hS2 rfl ?_)
  have hS3 := Heap.get?_update_self (Obj.mapSeq (·.push Value.none)) hS2 rfl
  refine wpAny_updateSeq (hz := by seq_fits) hS3 rfl ?_
  have hS4 := Heap.get?_update_self (Obj.mapSeq (·.pop)) hS3 rfl
  have oth : ∀ b ob, b ≠ S → h2.get? b = some ob → ((h2.update S (Obj.mapSeq (·.push Value.none))).update S (Obj.mapSeq (·.pop))).get? b = some ob :=
    fun b ob hb e => (Heap.get?_update_other _ _ (Ne.symm hb)).trans ((Heap.get?_update_other _ _ (Ne.symm hb)).trans e)
  have hhA : A.in1.handled = none := hh
  have hlen : π.length ≤ sizeLine := by
    have := hπ1.length_eq
    rw [List.length_map] at this
    unfold scanBound at hk
    rw [this, sizeLine_eq]; omega
  refine wpAny_pure ⟨plainId_quiet PySem.F.plain_extend_loop _, codeAny_extend_loopS (W _ hhA).toS hlen S hSf _ π.length 0 _ #[] _ rfl (Nat.zero_le _) ((W _ hhA).frame 0 _ _ hst fun b hb ob e => oth b ob (fun q => hSf (q ▸ hb)) e) hS4 (ItemsOf.nil _) fun s' acc' c' hm hS' hacc => ?_⟩
  rw [Moved.eq_with hm]
  show wpAny _ A (load S >>= _) _ _ _
  refine wpAny_bind (wpAny_load hS' ?_)
  have hacc2 : acc'.toList = π := by
    apply List.ext_getElem?
    intro i
    by_cases hi : i < acc'.size
    · rw [Array.getElem?_toList, Array.getElem?_eq_getElem hi]
      exact (hacc.2 i _ (Array.getElem?_eq_getElem hi)).symm
    · rw [Array.getElem?_toList, Array.getElem?_eq_none (by omega), List.getElem?_eq_none (by rw [← hacc.1]; omega)]
  show wpAny _ _ (pure acc'.toList) _ _ _
  rw [hacc2]
  refine wpAny_pure (h s'.heap s'.toks d π (fun b ob e => hm.heap b ob (fun q => ?_) (oth b ob (hlt1 b ob e) (k2 _ _ (up1 _ _ e)))) hπ1 hπ2)
  rcases List.mem_cons.mp q with q | q
  · exact hlt1 b ob e q
  · have := up1 _ _ e
    rw [List.mem_singleton.mp q] at this
    rw [this] at hI1; cases hI1
end
end
section
theorem rising_strict : ∀ (l : List Str) (p : Str), risingS p l = true → (p :: l).Nodup → ((p :: l).map fun x => x.cps.toList).Pairwise (· < ·)
  | [], p, _, _ => by simp
  | x :: r, p, h, hn => by
    rw [risingS, Bool.and_eq_true, Bool.not_eq_true', ltCps_eq] at h
    have h1 : ¬ x.cps.toList < p.cps.toList := of_decide_eq_false h.1
    have hne : p.cps.toList ≠ x.cps.toList := fun e => by
      have e2 : p = x := by
        obtain ⟨⟨a⟩⟩ := p
        obtain ⟨⟨b⟩⟩ := x
        have : a = b := e
        rw [this]
      exact (List.nodup_cons.mp hn).1 (e2 ▸ .head _)
    have hlt : p.cps.toList < x.cps.toList := by
      rcases tri p.cps.toList x.cps.toList with q | q | q
      · exact q
      · exact absurd q hne
      · exact absurd q h1
    have ih := rising_strict r x h.2 (List.nodup_cons.mp hn).2
    rw [List.map_cons, List.pairwise_cons]
    refine ⟨fun y hy => ?_, ih⟩
    rw [List.map_cons] at hy ih
    rcases List.mem_cons.mp hy with rfl | hy
    · exact hlt
    · exact List.lt_trans hlt ((List.pairwise_cons.mp ih).1 y hy)
theorem sorted_strict {l : List Str} (h : sortedS l = true) (hn : l.Nodup) : (l.map fun x => x.cps.toList).Pairwise (· < ·) := by
  cases l with
  | nil => simp
  | cons x r => exact rising_strict r x h hn
theorem strs_txts : ∀ {vs : List Value} {ss : List Str}, StrsAre vs ss → Txts vs (ss.map fun x => x.cps.toList)
  | _, _, .nil => .nil
  | _, _, .cons y t r => .cons ⟨t, rfl⟩ (strs_txts r)
section
variable {prog : Program} {w : World} {A : Around} {E : Value → Shared → Prop} {s : Shared} {h₀ : Heap} {L : Addr} {m : Str → Option Value} {news : List (Addr × Obj)}
theorem sorted_set_txt {a : Addr} {o : Obj} {ws : List (List Nat)} {Q : Value → Shared → Prop} (hh : A.handled = none) (F : Fr h₀ L s.heap m) (N : News h₀ L s.heap news) (ho : s.heap.get? a = some o) (hS : TxtSet prog w o ((ws.map mk).foldl met [])) (hne : ws ≠ []) (hk : ws.length < 64)
    (h : ∀ (D : Addr) (h' : Heap) (tk : Nat) (d : Drawn) (ys : List Value) (us : List (List Nat)) (c : Nat), Fr h₀ L h' m → News h₀ L h' ((D, listOf ys.toArray c) :: news) → s.heap.StaysIn h' → Txts ys us → us.Pairwise (· < ·) → (∀ x, x ∈ us ↔ x ∈ ws) → Q (.ref D) { s with heap := h', toks := tk, drawn := d }) :
    wpAny (model prog w) A (call (.builtin "sorted") [.ref a]) Q E s := by
  have hklen : ((ws.map mk).foldl met []).length < 64 := by
    have := mets_len (ws.map mk) []
    rw [List.length_map] at this
    simp only [List.length_nil] at this
    omega
  have hkne : (ws.map mk).foldl met [] ≠ [] := by
    cases ws with
    | nil => exact absurd rfl hne
    | cons x r =>
      have : mk x ∈ ((x :: r).map mk).foldl met [] := (mets_mem _ _ _).mpr (.inr (.head _))
      intro e
      rw [e] at this; cases this
  refine Calls.call_function_entry kind_sorted plain_sorted entry_sorted (args_sorted1 _) ?_
  unfold Builtin.«sorted»
  refine wpAny_bind (m := checkCount "sorted" 1 1 _) (wpAny_pure ?_)
  refine wpAny_bind (collect_set (by first | exact hh | (show A.handled = none; exact hh)) ho hS hkne (by unfold scanBound; omega) fun h1 tk d π k1 hπ1 hπ2 => ?_)
  have hSt := strsAre_map π hπ2
  have hsame : π.map PyProof.Rows.strOf = π.map strOf := List.map_congr_left fun v hv => by obtain ⟨x, t, rfl⟩ := hπ2 v hv; rfl
  have hπl : π.length < 64 := by
    have := hπ1.length_eq
    rw [List.length_map] at this
    omega
  refine wpAny_bind (wpAny_newList ?_ (by rw [sizeLine_eq]; omega))
  have hoL : (h1.push (seqObj "list" π.toArray 0)).get? h1.objs.size = some (seqObj "list" π.toArray 0) := Heap.get?_push_size _ rfl
  refine wpAny_bind (wpAny_holding (wpAny_call_entry slot_list_sort ⟨_, hoL, rfl⟩ entry_list_sort (list_sort_treeK strKind_oneLt hoL hSt.keysOf (fun v₁ v₂ rest e => keyKind_strs (by rw [← e]; exact hSt)) hπl fun st' a1 a2 => ⟨_, rfl, ?_⟩) (args_list_sort _)))
  obtain ⟨ss', b1, b2, b3⟩ := sorted_out_str hSt a1 a2
  obtain ⟨e, he⟩ := sortedHeap_at (out := (arrOf st').map (·.2)) hoL
  refine wpAny_pure ⟨_, rfl, ?_⟩
  have up : ∀ b ob, s.heap.get? b = some ob → (sortedHeap (h1.push (seqObj "list" π.toArray 0)) h1.objs.size π ((arrOf st').map (·.2))).get? b = some ob := fun b ob e => by
    have hb := Heap.lt_size (k1 _ _ e)
    rw [sortedHeap_old (Nat.ne_of_lt hb) (by rw [Heap.size_push]; exact Nat.lt_succ_of_lt hb)]
    exact Heap.get?_push_of_some _ (k1 _ _ e)
  have hperm : ss'.Perm ((ws.map mk).foldl met []) := b2.trans (by rw [hsame]; exact hπ1)
  have hnd : ss'.Nodup := hperm.nodup_iff.mpr (mets_nodup _ _ List.nodup_nil)
  have hD : s.heap.get? h1.objs.size = none := by
    cases q : s.heap.get? h1.objs.size with
    | none => rfl
    | some ob => exact absurd (Heap.lt_size (k1 _ _ q)) (Nat.lt_irrefl _)
  have b1' := strs_txts b1
  generalize hys : ((arrOf st').map (·.2)) = out at he up b1' ⊢
  refine h h1.objs.size _ tk d out.toList (ss'.map fun x => x.cps.toList) e (F.keeps up) (news_add (m' := fun _ => none) (news := []) F hD (N.grown up) (by simpa using he)) up b1' (sorted_strict b3 hnd) fun x => ?_
  rw [List.mem_map]
  constructor
  · rintro ⟨y, hy, rfl⟩
    rcases (mets_mem _ _ _).mp (hperm.mem_iff.mp hy) with q | q
    · cases q
    · obtain ⟨z, hz, rfl⟩ := List.mem_map.mp q
      simpa using hz
  · intro hx
    exact ⟨mk x, hperm.mem_iff.mpr ((mets_mem _ _ _).mpr (.inr (List.mem_map.mpr ⟨x, hx, rfl⟩))), by simp⟩
end
end
section
/-- places apart: a ledger, and what stands beside it -/
def Ap (led base : List (Addr × Obj)) : Prop := (led.map (·.1)).Nodup ∧ ∀ q ∈ base, q.1 ∉ led.map (·.1)
/-- where law stands -/
def LawAt (h₀ : Heap) (L : Addr) (s : Shared) (base led : List (Addr × Obj)) (Mm : (Str → Option Value) → Prop) (s' : Shared) : Prop :=
  ∃ h tk d m, s' = { s with heap := h, toks := tk, drawn := d } ∧ Fr h₀ L h m ∧ News h₀ L h (led ++ base) ∧ Mm m ∧ Ap led base
theorem news_front {h₀ h : Heap} {L : Addr} {A B : List (Addr × Obj)} {z : Addr × Obj} (N : News h₀ L h (A ++ z :: B)) : News h₀ L h (z :: (A ++ B)) := fun q hq => N q (by
  rcases List.mem_cons.mp hq with rfl | hq
  · simp
  · rcases List.mem_append.mp hq with hq | hq <;> simp [hq])
theorem news_back {h₀ h : Heap} {L : Addr} {A B : List (Addr × Obj)} {z : Addr × Obj} (N : News h₀ L h (z :: (A ++ B))) : News h₀ L h (A ++ z :: B) := fun q hq => N q (by
  rcases List.mem_append.mp hq with hq | hq
  · simp [hq]
  · rcases List.mem_cons.mp hq with rfl | hq <;> simp [*])
theorem Ap.front {A B base : List (Addr × Obj)} {z : Addr × Obj} (h : Ap (A ++ z :: B) base) : ∀ q ∈ A ++ (B ++ base), q.1 ≠ z.1 := by
  obtain ⟨h, h2⟩ := h
  rw [List.map_append, List.map_cons, List.nodup_append, List.nodup_cons] at h
  intro q hq e
  rcases List.mem_append.mp hq with hq | hq
  · exact h.2.2 q.1 (List.mem_map_of_mem hq) z.1 (.head _) e
  · rcases List.mem_append.mp hq with hq | hq
    · exact h.2.1.1 (e ▸ List.mem_map_of_mem hq)
    · exact h2 q hq (e ▸ List.mem_map_of_mem (by simp))
theorem Ap.split {A B base : List (Addr × Obj)} (h : Ap (A ++ B) base) : ∀ q ∈ B ++ base, q.1 ∉ A.map (·.1) := by
  obtain ⟨h, h2⟩ := h
  rw [List.map_append, List.nodup_append] at h
  intro q hq e
  rcases List.mem_append.mp hq with hq | hq
  · exact h.2.2 q.1 e q.1 (List.mem_map_of_mem hq) rfl
  · exact h2 q hq (by rw [List.map_append]; exact List.mem_append_left _ e)
theorem Ap.add {h₀ h : Heap} {L a : Addr} {o : Obj} {led base : List (Addr × Obj)} (h1 : Ap led base) (N : News h₀ L h (led ++ base)) (e : h.get? a = none) : Ap ((a, o) :: led) base := by
  refine ⟨?_, fun q hq => ?_⟩
  · rw [List.map_cons, List.nodup_cons]
    refine ⟨fun q => ?_, h1.1⟩
    obtain ⟨z, hz, rfl⟩ := List.mem_map.mp q
    exact news_ne N e z (List.mem_append_left _ hz) rfl
  · rw [List.map_cons, List.mem_cons]
    rintro (q' | q')
    · exact news_ne N e q (List.mem_append_right _ hq) q'
    · exact h1.2 q hq q'
theorem Ap.same {led led' base : List (Addr × Obj)} (h : Ap led base) (e : led'.map (·.1) = led.map (·.1)) : Ap led' base := ⟨e ▸ h.1, e ▸ h.2⟩
theorem Ap.perm {led led' base : List (Addr × Obj)} (h : Ap led base) (e : (led'.map (·.1)).Perm (led.map (·.1))) : Ap led' base := ⟨e.nodup_iff.mpr h.1, fun q hq z => h.2 q hq (e.mem_iff.mp z)⟩
theorem Ap.nil {led : List (Addr × Obj)} (h : (led.map (·.1)).Nodup) : Ap led [] := ⟨h, fun _ h => nomatch h⟩
def Stop (p : Prop) : Prop := p
theorem stop_id {p : Prop} (h : Stop p) : p := h
theorem written_len (c : Nat) : (written c).length ≤ 20 := by
  have h := cased_len c
  unfold written
  split
  · simp only [List.length_cons, List.length_append, List.length_nil]; omega
  · split
    · simp only [List.length_append, List.length_cons, List.length_nil]; omega
    · rw [List.length_append, flatten_two_len]; simp only [List.length_cons, List.length_nil]; omega
theorem flat_le : ∀ (l : List (List Nat)) (k : Nat), (∀ x ∈ l, x.length ≤ k) → l.flatten.length ≤ l.length * k
  | [], _, _ => by simp
  | x :: r, k, h => by
    rw [List.flatten_cons, List.length_append, List.length_cons, Nat.succ_mul]
    have := h x (.head _)
    have := flat_le r k fun y hy => h y (.tail _ hy)
    omega
theorem written_flat {cs : List Nat} (h : cs.length = 7) : ((cs.map written).flatten).length ≤ 140 := by
  have := flat_le (cs.map written) 20 fun x hx => by
    obtain ⟨c, _, rfl⟩ := List.mem_map.mp hx
    exact written_len c
  rw [List.length_map, h] at this
  exact this
theorem Ap.cons {a : Addr} {o : Obj} {led base : List (Addr × Obj)} (h : Ap led base) (h1 : ∀ q ∈ led, q.1 ≠ a) (h2 : ∀ q ∈ base, q.1 ≠ a) : Ap ((a, o) :: led) base := by
  refine ⟨?_, fun q hq => ?_⟩
  · rw [List.map_cons, List.nodup_cons]
    refine ⟨fun q => ?_, h.1⟩
    obtain ⟨z, hz, e⟩ := List.mem_map.mp q
    exact h1 z hz e
  · rw [List.map_cons, List.mem_cons]
    rintro (q' | q')
    · exact h2 q hq q'
    · exact h.2 q hq q'
theorem ne_cons {a : Addr} {z : Addr × Obj} {led : List (Addr × Obj)} (h : z.1 ≠ a) (r : ∀ q ∈ led, q.1 ≠ a) : ∀ q ∈ z :: led, q.1 ≠ a := fun q hq => by
  rcases List.mem_cons.mp hq with rfl | hq
  · exact h
  · exact r q hq
theorem news_cons {h₀ h : Heap} {L : Addr} {z : Addr × Obj} {led : List (Addr × Obj)} (h1 : h.get? z.1 = some z.2 ∧ z.1 ≠ L ∧ h₀.get? z.1 = none) (r : News h₀ L h led) : News h₀ L h (z :: led) := fun q hq => by
  rcases List.mem_cons.mp hq with rfl | hq
  · exact h1
  · exact r q hq
theorem fresh_is {h₀ h h' : Heap} {L a : Addr} {o : Obj} {m : Str → Option Value} (F : Fr h₀ L h m) (e : h.get? a = none) (ho : h'.get? a = some o) : h'.get? a = some o ∧ a ≠ L ∧ h₀.get? a = none :=
  (news_add (m' := fun _ => none) (news := []) (news' := []) F e (fun _ h => nomatch h) ho) (a, o) (.head _)
theorem Ap.back {A B base : List (Addr × Obj)} {z : Addr × Obj} (h : Ap (z :: (A ++ B)) base) : Ap (A ++ z :: B) base := h.perm (by
  rw [List.map_append, List.map_cons, List.map_cons, List.map_append]
  exact List.perm_middle)
theorem Ap.fore {A B base : List (Addr × Obj)} {z : Addr × Obj} (h : Ap (A ++ z :: B) base) : Ap (z :: (A ++ B)) base := h.perm (by
  rw [List.map_append, List.map_cons, List.map_cons, List.map_append]
  exact List.perm_middle.symm)
/-- the row of the words read -/
def rowW (l : List Nat) : List (List Nat) := l.foldl (fun r c => ins (letters (c % 64)) r) []
theorem rowW_snoc (l : List Nat) (c : Nat) : rowW (l ++ [c]) = ins (letters (c % 64)) (rowW l) := by
  unfold rowW
  rw [List.foldl_append]
  rfl
theorem rowW_take {l : List Nat} {i c : Nat} (h : l[i]? = some c) : rowW (l.take (i + 1)) = ins (letters (c % 64)) (rowW (l.take i)) := by
  rw [List.take_add_one, h]
  exact rowW_snoc _ _
theorem rowW_sorted : ∀ l : List Nat, (rowW l).Pairwise (· < ·) := by
  intro l
  unfold rowW
  have : ∀ (l : List Nat) (r : List (List Nat)), r.Pairwise (· < ·) → (l.foldl (fun r c => ins (letters (c % 64)) r) r).Pairwise (· < ·) := by
    intro l
    induction l with
    | nil => exact fun r h => h
    | cons c l ih => exact fun r h => ih _ (ins_sorted h)
  exact this l [] List.Pairwise.nil
theorem rowW_mem (l : List Nat) (y : List Nat) : y ∈ rowW l ↔ ∃ c ∈ l, y = letters (c % 64) := by
  unfold rowW
  have : ∀ (l : List Nat) (r : List (List Nat)), y ∈ l.foldl (fun r c => ins (letters (c % 64)) r) r ↔ y ∈ r ∨ ∃ c ∈ l, y = letters (c % 64) := by
    intro l
    induction l with
    | nil => intro r; simp
    | cons c l ih =>
      intro r
      rw [List.foldl_cons, ih, mem_ins]
      constructor
      · rintro ((h | h) | ⟨d, hd, h⟩)
        · exact .inr ⟨c, .head _, h⟩
        · exact .inl h
        · exact .inr ⟨d, .tail _ hd, h⟩
      · rintro (h | ⟨d, hd, h⟩)
        · exact .inl (.inr h)
        · rcases List.mem_cons.mp hd with rfl | hd
          · exact .inl (.inl h)
          · exact .inr ⟨d, hd, h⟩
  rw [this]
  simp
theorem rowW_len (l : List Nat) : (rowW l).length ≤ l.length := by
  unfold rowW
  have : ∀ (l : List Nat) (r : List (List Nat)), r.Pairwise (· < ·) → (l.foldl (fun r c => ins (letters (c % 64)) r) r).length ≤ r.length + l.length := by
    intro l
    induction l with
    | nil => intro r _; simp
    | cons c l ih =>
      intro r h
      rw [List.foldl_cons, List.length_cons]
      have := ih _ (ins_sorted (x := letters (c % 64)) h)
      have := ins_len (letters (c % 64)) r h
      omega
  simpa using this l [] List.Pairwise.nil
theorem upLow {c : Nat} (hc : isLow c = true) : isUp (c - 32) = true ∧ lowC (c - 32) = c := by
  have : c = 97 ∨ c = 98 ∨ c = 99 ∨ c = 100 ∨ c = 101 ∨ c = 102 := by simp [isLow] at hc; omega
  rcases this with rfl | rfl | rfl | rfl | rfl | rfl <;> decide
theorem low_cased (c : Nat) : (cased c).map lowC = letters (c % 64) := by
  unfold cased
  split
  · rw [List.map_map]
    conv => rhs; rw [← List.map_id (letters (c % 64))]
    refine List.map_congr_left fun d hd => ?_
    exact (upLow (letters_low hd)).2
  · conv => rhs; rw [← List.map_id (letters (c % 64))]
    refine List.map_congr_left fun d hd => ?_
    have := letters_low hd
    simp only [isLow, Bool.and_eq_true, decide_eq_true_eq] at this
    exact if_neg (by omega)
theorem cased_signs (c : Nat) : ∀ d ∈ cased c, isLow d = true ∨ isUp d = true := by
  intro d hd
  unfold cased at hd
  split at hd
  · obtain ⟨e, he, rfl⟩ := List.mem_map.mp hd
    exact .inr (upLow (letters_low he)).1
  · exact .inl (letters_low hd)
/-- what is left to read behind i words -/
def LeftAt (text : List Nat) (cs : List Nat) (ps i : Nat) : Prop := ps ≤ text.length ∧ ∃ lead, (lead = [] ∨ lead = [32]) ∧ text.drop ps = lead ++ ((cs.drop i).map written).flatten
theorem leftAt_lex {text cs : List Nat} {ps i c : Nat} (h : LeftAt text cs ps i) (hc : cs[i]? = some c) : ∃ lead, (lead = [] ∨ lead = [32]) ∧ lexS (text.drop ps) = some (cased c, lead ++ ((cs.drop (i + 1)).map written).flatten) := by
  obtain ⟨_, lead, hl, e⟩ := h
  obtain ⟨hi, rfl⟩ := List.getElem?_eq_some_iff.mp hc
  rw [List.drop_eq_getElem_cons hi, List.map_cons, List.flatten_cons] at e
  obtain ⟨l2, h2, e2⟩ := lexS_written cs[i] ((cs.drop (i + 1)).map written).flatten
  refine ⟨l2, h2, ?_⟩
  rw [e]
  rcases hl with rfl | rfl
  · exact e2
  · exact (lexS_ws 32 _ rfl).trans e2
theorem leftAt_end {text cs : List Nat} {ps : Nat} (h : LeftAt text cs ps cs.length) : ∃ rest, lexS (text.drop ps) = some ([], rest) ∧ (text.drop ps).count 10 = 0 ∧ rest = [] := by
  obtain ⟨_, lead, hl, e⟩ := h
  rw [List.drop_length, List.map_nil, List.flatten_nil, List.append_nil] at e
  rw [e]
  rcases hl with rfl | rfl
  · exact ⟨[], rfl, rfl, rfl⟩
  · exact ⟨[], by rfl, by decide, rfl⟩
theorem letters_ok (m : Nat) : PyData.strOk (mk (letters m)) = true := by
  have h : ∀ n < 64, PyData.strOk (mk (letters n)) = true := by decide +kernel
  have e : letters m = letters (m % 64) := by
    unfold letters
    congr 1
    refine List.filter_congr fun k hk => ?_
    have := List.mem_range.mp hk
    rw [show (64 : Nat) = 2 ^ 6 from rfl, Nat.testBit_mod_two_pow]
    simp [this]
  rw [e]
  exact h _ (Nat.mod_lt _ (by decide))
theorem allLt_ne {d : Addr} : ∀ {l : List (Addr × Obj)}, AllLt d l → ∀ q ∈ l, q.1 ≠ d
  | [], _, _, h => nomatch h
  | p :: r, h, q, hq => by
    rcases List.mem_cons.mp hq with rfl | hq
    · exact Nat.ne_of_lt h.1
    · exact allLt_ne h.2 q hq
theorem Ap.lt {a : Addr} {o : Obj} {led base : List (Addr × Obj)} (h : Ap led base) (l : AllLt a (led ++ base)) : Ap ((a, o) :: led) base :=
  Ap.cons h (fun q hq => allLt_ne l q (List.mem_append_left _ hq)) fun q hq => allLt_ne l q (List.mem_append_right _ hq)
theorem rowW_ok (l : List Nat) : TOk (rowW l) := fun y hy => by
  obtain ⟨c, _, rfl⟩ := (rowW_mem l y).mp hy
  exact letters_ok _
theorem updF_of {d : Addr} {o : Obj} {B : List (Addr × Obj)} : ∀ {A : List (Addr × Obj)}, (∀ q ∈ A, q.1 ≠ d) → (∀ q ∈ B, q.1 ≠ d) → UpdF d o (A ++ (d, o) :: B) (fun o' => A ++ (d, o') :: B)
  | [], _, h => .head h
  | p :: A, h1, h2 => .tail (h1 p (.head _)) (updF_of (fun q hq => h1 q (.tail _ hq)) h2)
/-- rows in order with like members are alike -/
theorem sorted_same : ∀ {a b : List (List Nat)}, a.Pairwise (· < ·) → b.Pairwise (· < ·) → (∀ x, x ∈ a ↔ x ∈ b) → a = b
  | [], [], _, _, _ => rfl
  | [], y :: _, _, _, h => by have := (h y).mpr (.head _); cases this
  | x :: _, [], _, _, h => by have := (h x).mp (.head _); cases this
  | x :: r, y :: t, ha, hb, h => by
    rw [List.pairwise_cons] at ha hb
    have hxy : x = y := by
      rcases List.mem_cons.mp ((h x).mp (.head _)) with e | hx
      · exact e
      · rcases List.mem_cons.mp ((h y).mpr (.head _)) with e | hy
        · exact e.symm
        · exact absurd (List.lt_trans (ha.1 y hy) (hb.1 x hx)) (List.lt_irrefl _)
    subst hxy
    congr 1
    refine sorted_same ha.2 hb.2 fun z => ?_
    constructor
    · intro hz
      rcases List.mem_cons.mp ((h z).mp (.tail _ hz)) with e | q
      · exact absurd (ha.1 z hz) (e ▸ List.lt_irrefl _)
      · exact q
    · intro hz
      rcases List.mem_cons.mp ((h z).mpr (.tail _ hz)) with e | q
      · exact absurd (hb.1 z hz) (e ▸ List.lt_irrefl _)
      · exact q
theorem pick_take (vs : List Value) (k : Nat) (hk : k ≤ vs.length) : slicePick vs.toArray none (some (k : Int)) none = (vs.take k).toArray := by
  have h := slicePick_run vs.toArray 0 k (by rw [List.size_toArray]; exact hk) (Nat.zero_le _)
  have e : slicePick vs.toArray none (some (k : Int)) none = slicePick vs.toArray (some ((0 : Nat) : Int)) (some (k : Int)) none := by
    unfold slicePick
    have : sliceBounds none (some (k : Int)) none vs.toArray.size = sliceBounds (some ((0 : Nat) : Int)) (some (k : Int)) none vs.toArray.size := by
      unfold sliceBounds
      simp
      omega
    rw [this]
  rw [e, h]
  simp
theorem pick_drop (vs : List Value) (k : Nat) (hk : k ≤ vs.length) : slicePick vs.toArray (some (k : Int)) none none = (vs.drop k).toArray := by
  have h := slicePick_run vs.toArray k vs.length (by rw [List.size_toArray]; exact Nat.le_refl _) hk
  have e : slicePick vs.toArray (some (k : Int)) none none = slicePick vs.toArray (some (k : Int)) (some ((vs.length : Nat) : Int)) none := by
    unfold slicePick
    have : sliceBounds (some (k : Int)) none none vs.toArray.size = sliceBounds (some (k : Int)) (some ((vs.length : Nat) : Int)) none vs.toArray.size := by
      unfold sliceBounds
      simp
      have : ¬ ((vs.length : Int) < 0) := by omega
      rw [if_neg this]
      omega
    rw [this]
  rw [e, h]
  simp
  exact List.take_of_length_le (by rw [List.length_drop]; exact Nat.le_refl _)
theorem nats_take : ∀ {vs : List Value} {cs : List Nat} (n : Nat), Nats vs cs → Nats (vs.take n) (cs.take n)
  | _, _, 0, _ => by rw [List.take_zero, List.take_zero]; exact .nil
  | _, _, _ + 1, .nil => .nil
  | _, _, n + 1, .cons h r => .cons h (nats_take n r)
theorem nats_drop : ∀ {vs : List Value} {cs : List Nat} (n : Nat), Nats vs cs → Nats (vs.drop n) (cs.drop n)
  | _, _, 0, h => h
  | _, _, _ + 1, .nil => .nil
  | _, _, n + 1, .cons _ r => nats_drop n r
open Builtin Builtin.Str in
theorem txt_count_one (xs : List Nat) (c : Nat) : (occurrences (mk xs) (mk [c]) 0 (mk xs).length ((mk xs).length + 1)).length = xs.count c := by
  rw [mk_len, occ_one, List.length_take, filter_pos]
  have := List.count_le_length (a := c) (l := xs)
  omega
theorem count_one {prog : Program} {w : World} {A : Around} {E : Value → Shared → Prop} {s : Shared} {y : Str} {c : Nat} {xs : List Nat} {t u : Tok} {Q : Value → Shared → Prop} (hy : y = mk [c]) (h : ∀ t' k, Q (.int ((xs.count c : Nat) : Int) t') { s with toks := k }) :
    wpAny (model prog w) A (call (.builtin "str.count") [.str (mk xs) t, .str y u]) Q E s := by
  subst hy
  refine SC.count ?_
  have e : (Txt.count (mk xs) (mk [c]) : Int) = ((xs.count c : Nat) : Int) := by
    show ((Builtin.Str.occurrences (mk xs) (mk [c]) 0 (mk xs).length ((mk xs).length + 1)).length : Int) = _
    rw [txt_count_one]
  rw [e]
  exact h _ _
end
section
section
variable {prog : Program} {w : World} {A : Around} {E : Value → Shared → Prop} {s : Shared} {env : Env} {Q : Flow → Shared → Prop} {x : Str} {px pos : Pos} {body : List Stmt} {h₀ : Heap} {L : Addr}
/-- a for over a list, wherever it lies -/
theorem for_listL {l : Addr} {vs : List Value} (hh : A.handled = none) (hL : env.locals = L) (hl : s.heap.IsList l vs.toArray) (J : Nat → (Str → Option Value) → List (Addr × Obj) → Prop) {m₀ : Str → Option Value} {led₀ : List (Addr × Obj)}
    (F : Fr h₀ L s.heap m₀) (N : News h₀ L s.heap led₀) (hj : J 0 m₀ led₀)
    (turn : ∀ (I : Addr) (i : Nat) (h : Heap) (tk : Nat) (m : Str → Option Value) (led : List (Addr × Obj)) (oI : Obj) (v : Value), i < vs.length → vs[i]? = some v → J i m led → Fr h₀ L h m → News h₀ L h ((I, oI) :: led) → (∀ q ∈ led, q.1 ≠ I) →
      wpAny (model prog w) A (storeName env x v) (fun _ s₂ => wpAny (model prog w) A (execs body env) (fun f s₃ => match f with
          | .next | .cont => TurnEnd h₀ L I oI [l] (J (i + 1)) h s s₃
          | .brk => Q .next s₃
          | .ret v => Q (.ret v) s₃) (fun _ _ => False) s₂) (fun _ _ => False) { s with heap := h, toks := tk })
    (done : ∀ (h : Heap) (tk : Nat) (m : Str → Option Value) (led : List (Addr × Obj)), J vs.length m led → Fr h₀ L h m → News h₀ L h led → Q .next { s with heap := h, toks := tk }) :
    ForAt prog w A env x px body Q E (.ref l) s := by
  obtain ⟨ol, hol, _⟩ := id hl
  have hlt : l < s.heap.objs.size := Heap.lt_size hol
  refine wpAny_pyIter_list hl ?_
  have W := Walks.list (prog := prog) (w := w) hh s.heap.objs.size l (Nat.ne_of_lt hlt) vs.toArray
  rw [List.size_toArray] at W
  refine for_N (s := { s with heap := s.heap.push _ }) (rest := [l]) W (.type "list_iterator") (fun i h ⟨⟨o, e, c, _⟩, _⟩ => ⟨o, e, c⟩) hL J (F.push _) (N.push F _) (fun q hq e => ?_) (fun q => Nat.ne_of_lt hlt (List.mem_singleton.mp q).symm) ⟨⟨_, Heap.get?_push_size _ rfl, rfl, rfl⟩, hl.push _⟩ hj ?_ done
  · exact absurd (Heap.lt_size (N q hq).1) (by rw [e]; exact Nat.lt_irrefl _)
  · rintro i h tk m led oI v hi hj hv F' N' hne _ _
    exact turn _ i h tk m led oI v hi (by rw [List.getElem?_toArray] at hv; exact hv) hj F' N' hne
end
end
section
/-- the light of a word at a sign -/
def bitI (m c : Nat) : Int := if c ∈ letters m then 1 else 0
theorem bitI_mem (m c : Nat) : bitI m c ∈ [(0 : Int), 1] := by
  unfold bitI
  split <;> simp
/-- the signs whose parts are one -/
def shownL (bs : List Int) : List Nat := (([97, 98, 99, 100, 101, 102].zip bs).filter fun p => decide (p.2 = 1)).map (·.1)
theorem letter_mem {m c : Nat} : c ∈ letters m ↔ ∃ k, k < 6 ∧ m.testBit k = true ∧ c = 97 + k := by
  unfold letters
  rw [List.mem_map]
  constructor
  · rintro ⟨k, hk, rfl⟩
    obtain ⟨h1, h2⟩ := List.mem_filter.mp hk
    exact ⟨k, List.mem_range.mp h1, h2, rfl⟩
  · rintro ⟨k, h1, h2, rfl⟩
    exact ⟨k, List.mem_filter.mpr ⟨List.mem_range.mpr h1, h2⟩, rfl⟩
theorem letter_bit {m k : Nat} (hk : k < 6) : (97 + k ∈ letters m) ↔ m.testBit k = true := by
  rw [letter_mem]
  constructor
  · rintro ⟨j, _, h2, e⟩
    have : j = k := by omega
    exact this ▸ h2
  · intro h
    exact ⟨k, hk, h, rfl⟩
theorem letters_inj {a b : Nat} (ha : a < 64) (hb : b < 64) (h : letters a = letters b) : a = b := by
  apply Nat.eq_of_testBit_eq
  intro k
  by_cases hk : k < 6
  · have h1 := letter_bit (m := a) hk
    have h2 := letter_bit (m := b) hk
    rw [h] at h1
    cases q : a.testBit k <;> cases q2 : b.testBit k
    · rfl
    · rw [q] at h1; rw [q2] at h2; exact absurd (h1.mp (h2.mpr rfl)) (by decide)
    · rw [q] at h1; rw [q2] at h2; exact absurd (h2.mp (h1.mpr rfl)) (by decide)
    · rfl
  · have big : ∀ {x : Nat}, x < 64 → x.testBit k = false := fun {x} hx => Nat.testBit_lt_two_pow (Nat.lt_of_lt_of_le hx (by
      have : 2 ^ 6 ≤ 2 ^ k := Nat.pow_le_pow_right (by decide) (by omega)
      simpa using this))
    rw [big ha, big hb]
theorem co_bit {t k : Nat} (hk : k < 6) : (63 ^^^ t).testBit k = !t.testBit k := by
  rw [Nat.testBit_xor]
  have : (63 : Nat).testBit k = true := by
    have : k = 0 ∨ k = 1 ∨ k = 2 ∨ k = 3 ∨ k = 4 ∨ k = 5 := by omega
    rcases this with rfl | rfl | rfl | rfl | rfl | rfl <;> decide
  rw [this, Bool.true_xor]
theorem letters_left (h t : Nat) : ((letters h).filter fun c => !decide (c ∈ letters t)) = letters (h &&& (63 ^^^ t)) := by
  unfold letters
  rw [List.filter_map, List.filter_filter]
  congr 1
  refine List.filter_congr fun k hk => ?_
  have hk6 := List.mem_range.mp hk
  rw [Nat.testBit_and, co_bit hk6]
  have := letter_bit (m := t) hk6
  unfold letters at this
  simp only [Function.comp_def]
  by_cases q : t.testBit k = true
  · have h2 := this.mpr q
    simp [q, h2]
  · have h2 : ¬ (97 + k ∈ List.map (fun x => 97 + x) (List.filter t.testBit (List.range 6))) := fun z => q (this.mp z)
    simp [q, h2]
theorem bitI_bit (m : Nat) {k : Nat} (hk : k < 6) : bitI m (97 + k) = if m.testBit k = true then 1 else 0 := by
  unfold bitI
  by_cases h : m.testBit k = true
  · rw [if_pos h, if_pos ((letter_bit hk).mpr h)]
  · rw [if_neg h, if_neg fun q => h ((letter_bit hk).mp q)]
theorem zip_map_filter (f : Nat → Int) : ∀ l : List Nat, ((l.zip (l.map f)).filter fun p => decide (p.2 = 1)).map (·.1) = l.filter fun c => decide (f c = 1)
  | [] => rfl
  | a :: r => by
    rw [List.map_cons, List.zip_cons_cons, List.filter_cons, List.filter_cons]
    by_cases h : f a = 1
    · simp only [h, decide_true, if_true, List.map_cons]
      rw [zip_map_filter f r]
    · simp only [h, decide_false, Bool.false_eq_true, if_false]
      exact zip_map_filter f r
/-- the part of the rest's light -/
def restI (h t c : Nat) : Int := 1 - max (bitI h c) (1 - bitI t c)
theorem shown_rest (h t : Nat) : shownL [restI h t 97, restI h t 98, restI h t 99, restI h t 100, restI h t 101, restI h t 102] = letters (t &&& (63 ^^^ h)) := by
  have e : shownL ([97, 98, 99, 100, 101, 102].map (restI h t)) = [97, 98, 99, 100, 101, 102].filter fun c => decide (restI h t c = 1) := zip_map_filter _ _
  refine Eq.trans e ?_
  unfold letters
  rw [show ([97, 98, 99, 100, 101, 102] : List Nat) = (List.range 6).map (97 + ·) from rfl, List.filter_map]
  congr 1
  refine List.filter_congr fun k hk => ?_
  have hk6 := List.mem_range.mp hk
  simp only [Function.comp_def]
  rw [Nat.testBit_and, co_bit hk6]
  unfold restI
  rw [bitI_bit h hk6, bitI_bit t hk6]
  cases h.testBit k <;> cases t.testBit k <;> decide
theorem restI_mem (h t c : Nat) : max (bitI h c) (1 - bitI t c) ∈ [(0 : Int), 1] := by
  have h1 := bitI_mem h c
  have h2 := bitI_mem t c
  simp only [List.mem_cons, List.not_mem_nil, or_false] at h1 h2 ⊢
  rcases h1 with e | e <;> rcases h2 with e2 | e2 <;> rw [e, e2] <;> decide
/-- a row of words by its masks -/
theorem row_masks : ∀ (r : List (List Nat)), (∀ y ∈ r, ∃ m, m < 64 ∧ y = letters m) → ∃ T : List Nat, r = T.map letters ∧ ∀ t ∈ T, t < 64
  | [], _ => ⟨[], rfl, fun _ h => nomatch h⟩
  | y :: r, h => by
    obtain ⟨m, hm, e⟩ := h y (.head _)
    obtain ⟨T, e2, hT⟩ := row_masks r fun z hz => h z (.tail _ hz)
    exact ⟨m :: T, by rw [e, e2]; rfl, fun t ht => by
      rcases List.mem_cons.mp ht with rfl | ht
      · exact hm
      · exact hT t ht⟩
theorem rowW_masks (l : List Nat) : ∃ T : List Nat, rowW l = T.map letters ∧ (∀ t ∈ T, t < 64) ∧ T.Nodup ∧ ∀ m, m < 64 → (m ∈ T ↔ ∃ c ∈ l, m = c % 64) := by
  obtain ⟨T, e, hT⟩ := row_masks (rowW l) fun y hy => by
    obtain ⟨c, _, rfl⟩ := (rowW_mem l y).mp hy
    exact ⟨c % 64, Nat.mod_lt _ (by decide), rfl⟩
  refine ⟨T, e, hT, ?_, fun m hm => ?_⟩
  · have hs := rowW_sorted l
    rw [e, List.pairwise_map] at hs
    refine List.Pairwise.imp ?_ hs
    intro a b hab q
    rw [q] at hab
    exact List.lt_irrefl _ hab
  · have hmem := rowW_mem l (letters m)
    rw [e] at hmem
    constructor
    · intro h
      obtain ⟨c, hc, e2⟩ := hmem.mp (List.mem_map_of_mem h)
      exact ⟨c, hc, letters_inj hm (Nat.mod_lt _ (by decide)) e2⟩
    · rintro ⟨c, hc, rfl⟩
      obtain ⟨t, ht, e2⟩ := List.mem_map.mp (hmem.mpr ⟨c, hc, rfl⟩)
      exact letters_inj (hT t ht) hm e2 ▸ ht
end
section
/-- a light in a list that a comprehension makes -/
def LightF (b₀ h : Heap) (v : Value) (b : List Int) : Prop := ∃ S zs, v = .ref S ∧ b₀.get? S = none ∧ h.PlainList S zs.toArray ∧ IntsAre zs b
theorem lightF_up {b₀ h h' : Heap} (k : h.StaysIn h') : ∀ {ys : List Value} {bs : List (List Int)}, Paired (LightF b₀ h) ys bs → Paired (LightF b₀ h') ys bs
  | _, _, .nil => .nil
  | _, _, .cons ⟨S, zs, e, n, ⟨m, hp⟩, hi⟩ r => .cons ⟨S, zs, e, n, ⟨m, k _ _ hp⟩, hi⟩ (lightF_up k r)
theorem lights_snoc {b₀ h h' : Heap} {as : List Addr} {ys zs : List Value} {bs : List (List Int)} {i : Nat} {b : List Int} {D : Addr} (hj : Paired (LightF b₀ (hideAll h as)) ys (bs.take i)) (hb : bs[i]? = some b)
    (h0 : b₀.StaysIn h) (hlive : ∀ a ∈ as, ∃ o, h.get? a = some o) (hst : h.StaysIn h') (hD : h.get? D = none) (hp : h'.PlainList D zs.toArray) (hi : IntsAre zs b) :
    Paired (LightF b₀ (hideAll h' as)) (ys ++ [.ref D]) (bs.take (i + 1)) := by
  rw [List.take_add_one, hb]
  refine paired_app (lightF_up (hide_stays fun b o _ e => hst b o e) hj) (.cons ⟨D, zs, rfl, ?_, ?_, hi⟩ .nil)
  · cases e : b₀.get? D with
    | none => rfl
    | some o => rw [h0 _ _ e] at hD; cases hD
  · obtain ⟨n, e⟩ := hp
    refine ⟨n, hideAll_get as e fun q => ?_⟩
    obtain ⟨o, e2⟩ := hlive _ q
    rw [hD] at e2; cases e2
theorem lights_two {b₀ h : Heap} {ys : List Value} {b1 b2 : List Int} (hj : Paired (LightF b₀ h) ys [b1, b2]) : ∃ S1 S2 zs1 zs2, ys = [.ref S1, .ref S2] ∧ b₀.get? S1 = none ∧ b₀.get? S2 = none ∧ h.PlainList S1 zs1.toArray ∧ h.PlainList S2 zs2.toArray ∧ IntsAre zs1 b1 ∧ IntsAre zs2 b2 := by
  cases hj with
  | cons h1 r =>
    cases r with
    | cons h2 r =>
      cases r
      obtain ⟨S1, zs1, rfl, n1, p1, i1⟩ := h1
      obtain ⟨S2, zs2, rfl, n2, p2, i2⟩ := h2
      exact ⟨S1, S2, zs1, zs2, rfl, n1, n2, p1, p2, i1, i2⟩
theorem ints_three {vs : List Value} {a b c : Int} (h : IntsAre vs [a, b, c]) : ∃ t u v, vs = [.int a t, .int b u, .int c v] := by
  cases h with
  | cons _ t r =>
    cases r with
    | cons _ u r =>
      cases r with
      | cons _ v r =>
        cases r
        exact ⟨t, u, v, rfl⟩
theorem two_get {α : Type} {x y v : α} {i : Nat} (h : (#[x, y] : Array α)[i]? = some v) : (i = 0 ∧ v = x) ∨ (i = 1 ∧ v = y) := by
  match i with
  | 0 => simp at h; exact .inl ⟨rfl, h.symm⟩
  | 1 => simp at h; exact .inr ⟨rfl, h.symm⟩
  | i + 2 => simp at h
theorem letters_mod (m : Nat) : letters (m % 64) = letters m := by
  unfold letters
  congr 1
  refine List.filter_congr fun k hk => ?_
  have hk6 := List.mem_range.mp hk
  rw [show (64 : Nat) = 2 ^ 6 from rfl, Nat.testBit_mod_two_pow]
  simp [hk6]
/-- the masks of both kinds of rests -/
def pairsL (T H : List Nat) : List Nat := T.flatMap fun t => H.map fun h => h &&& (63 ^^^ t)
def pairsR (T H : List Nat) : List Nat := T.flatMap fun t => H.map fun h => t &&& (63 ^^^ h)
theorem pairsL_len : ∀ (T H : List Nat), (pairsL T H).length = T.length * H.length
  | [], H => by simp [pairsL]
  | t :: T, H => by
    have := pairsL_len T H
    unfold pairsL at *
    rw [List.flatMap_cons, List.length_append, List.length_map, this, List.length_cons, Nat.succ_mul, Nat.add_comm]
theorem pairsR_len : ∀ (T H : List Nat), (pairsR T H).length = T.length * H.length
  | [], H => by simp [pairsR]
  | t :: T, H => by
    have := pairsR_len T H
    unfold pairsR at *
    rw [List.flatMap_cons, List.length_append, List.length_map, this, List.length_cons, Nat.succ_mul, Nat.add_comm]
theorem pairsL_snoc {T H : List Nat} {i t : Nat} (h : T[i]? = some t) : pairsL (T.take (i + 1)) H = pairsL (T.take i) H ++ H.map fun h => h &&& (63 ^^^ t) := by
  unfold pairsL
  rw [List.take_add_one, h]
  simp
theorem pairsR_snoc {T H : List Nat} {i t : Nat} (h : T[i]? = some t) : pairsR (T.take (i + 1)) H = pairsR (T.take i) H ++ H.map fun h => t &&& (63 ^^^ h) := by
  unfold pairsR
  rw [List.take_add_one, h]
  simp
theorem row_step {A : List Nat} {H : List Nat} {f : Nat → Nat} {j h : Nat} (e : H[j]? = some h) : rowW (A ++ (H.take (j + 1)).map f) = ins (letters (f h)) (rowW (A ++ (H.take j).map f)) := by
  rw [take_succ_map f e, ← List.append_assoc, rowW_snoc, letters_mod]
theorem rowL_len {T H : List Nat} (i j : Nat) (f : Nat → Nat) (hT : T.length ≤ 3) (hH : H.length ≤ 4) : (rowW (pairsL (T.take i) H ++ (H.take j).map f)).length ≤ 1000000 := by
  refine Nat.le_trans (rowW_len _) ?_
  rw [List.length_append, pairsL_len, List.length_map, List.length_take, List.length_take]
  have : (min i T.length) * H.length ≤ 3 * 4 := Nat.mul_le_mul (by omega) hH
  omega
theorem rowR_len {T H : List Nat} (i j : Nat) (f : Nat → Nat) (hT : T.length ≤ 3) (hH : H.length ≤ 4) : (rowW (pairsR (T.take i) H ++ (H.take j).map f)).length ≤ 1000000 := by
  refine Nat.le_trans (rowW_len _) ?_
  rw [List.length_append, pairsR_len, List.length_map, List.length_take, List.length_take]
  have : (min i T.length) * H.length ≤ 3 * 4 := Nat.mul_le_mul (by omega) hH
  omega
end
section
section
variable {prog : Program} {w : World} {A : Around} {E : Value → Shared → Prop} {env : Env} {elt target iter : Expr} {scope : Scope} {cl : List (Str × Addr)} {pos spos : Pos} {I : Addr} {fp wr : List Addr} {n : Nat} {x y yn : Str} {px py pn tp : Pos} {kk : Nat} {ifs : List Expr}
  {QF : Flow → Shared → Prop} {mm : Str → Option Value}
/-- what must hold behind a comprehension whose list is given a name -/
def AQ (prog : Program) (w : World) (A : Around) (E : Value → Shared → Prop) (env : Env) (yn : Str) (pn : Pos) (Q : Flow → Shared → Prop) : Value → Addr → Result → Shared → Prop := fun acc C => compPost (model prog w) A E (some (assign (.Name yn pn) env)) (fun _ s' => Q .next s') acc C
theorem comp_openA {s : Shared} {gs : List Comprehension} (hclos : closureFor scope env = pure cl)
    (h : wpAny (model prog w) A (eval iter env) (fun xv s₁ => CompAtT prog w A env elt ⟨target, iter, ifs, 0⟩ gs scope pos cl (AQ prog w A E env yn pn QF) E xv s₁) E s)
    (hsw : swapsWith (.ListComp elt (⟨target, iter, ifs, 0⟩ :: gs) scope pos) (some (.Name yn pn)) spos.line env = pure true := by with_unfolding_all rfl)
    (hkind : scope.kind = .function := by rfl) (hnames : ∀ x ∈ scope.names, x.2 = .local → scope.names.lookup x.1 = some .local := by decide) (hs : ∀ x, foldedSetIterable iter env x = pure x := by intro _; rfl) :
    wpAny (model prog w) A (exec (.Assign [.Name yn pn] (.ListComp elt (⟨target, iter, ifs, 0⟩ :: gs) scope pos) spos) env) QF E s := by
  rw [exec_Assign_Name_used _ _ _ _ hsw]
  refine wpAny_bind (wpAny_standAt (wpAny_bind ?_))
  show wpAny _ A (do let _ ← comprehension (.ListComp elt (⟨target, iter, ifs, 0⟩ :: gs) scope pos) scope env _ (newList []) false (eval iter env) (some (assign (.Name yn pn) env))) _ _ s
  exact wpAny_bind (wpAny_mono (wpAny_comprehension_free (use := some (assign (.Name yn pn) env)) (Q := fun _ s' => QF .next s') rfl hs hclos hkind hnames h) (fun _ s' hq => wpAny_pure (wpAny_pure hq)) fun _ _ e => e)
theorem cqA_end {b₀ : Heap} {D C : Addr} {s₁ : Shared} {h' : Heap} {tk : Nat} {m' : Str → Option Value} {ys : List Value} {n : Nat} (J : Nat → List Value → Heap → Prop) (hmono : ∀ i ys h h', h.StaysIn h' → J i ys h → J i ys h')
    (hmonoL : ∀ i ys h h', (∀ b o, b ≠ env.locals → h.get? b = some o → h'.get? b = some o) → J i ys h → J i ys h') (hns : b₀.Ns env.locals mm) (hy : env.kindOf yn = some .local) (hp : (env.scope.kind == .class || (env.scope.kind == .module && env.locals != env.globals)) = false)
    (hD : b₀.get? D = none) (hC : b₀.get? C = none) (hDC : D ≠ C) (hn : h'.Ns C m') (hpl : h'.PlainList D ys.toArray) (hk : b₀.StaysIn (hideAll h' [C, D])) (hj : J n ys (hideAll h' [C, D]))
    (h : ∀ h'', h''.PlainList D ys.toArray → h''.Ns env.locals (fun z => if z = yn then some (.ref D) else mm z) → (∀ b o, b ≠ env.locals → b₀.get? b = some o → h''.get? b = some o) → J n ys (hideAll h'' [D]) → QF .next { s₁ with heap := h'', toks := tk + 1 }) : AQ prog w A E env yn pn QF (.ref D) C (.ok .next) { s₁ with heap := h', toks := tk } := by
  have hLC : env.locals ≠ C := by rintro rfl; obtain ⟨o, _, _, ho, _⟩ := hns; rw [hC] at ho; cases ho
  have hLD : env.locals ≠ D := by rintro rfl; obtain ⟨o, _, _, ho, _⟩ := hns; rw [hD] at ho; cases ho
  show wpAny _ A (assign (.Name yn pn) env (.ref D)) _ _ _
  refine wpAny_assign_Name (wpAny_storeName_local hy (hns.at' fun o e => hide_up _ _ (hk _ o e)) (fun h₂ hn₂ hs₂ => ?_) hp)
  refine ⟨m', hn.sameBut hs₂ (Ne.symm hLC), fun h₃ hs₃ => ?_⟩
  have old : ∀ b o, b ≠ env.locals → b ≠ C → h'.get? b = some o → h₃.get? b = some o := fun b o hL hc e => hs₃.extBut b o hc (hs₂.extBut b o hL e)
  refine h h₃ ((hpl.extBut hs₂.extBut (Ne.symm hLD)).extBut hs₃.extBut hDC) (hn₂.sameBut hs₃ hLC) (fun b o hL e => old b o hL (fun q => by rw [q, hC] at e; cases e) (hide_up _ _ (hk _ _ e))) ?_
  refine hmonoL _ _ _ _ (fun b o hL e => ?_) hj
  have hb : b ∉ [C, D] := fun q => by rw [hideAll_none _ q] at e; cases e
  refine hideAll_get _ (old b o hL (fun q => hb (q ▸ .head _)) (hide_up _ _ e)) fun q => hb (.tail _ q)
theorem compA_gen {Pm : Nat → (Str → Option Value) → Prop} {St : Nat → Heap → Prop} {s₁ s₂ : Shared} (W : CDraw prog w A target scope cl env I fp wr n Pm St) (hsz : n ≤ sizeLine)
    (hst : St 0 s₂.heap) (hfp : ∀ b ∈ fp, b < s₂.heap.objs.size) (hb : ∀ b o, s₁.heap.get? b = some o → b ∉ wr ∧ s₂.heap.get? b = some o) (hs : ∃ h tk, s₂ = { s₁ with heap := h, toks := tk })
    (J : Nat → List Value → Heap → Prop) (hmono : ∀ i ys h h', h.StaysIn h' → J i ys h → J i ys h') (hj : J 0 [] s₁.heap)
    (hmonoL : ∀ i ys h h', (∀ b o, b ≠ env.locals → h.get? b = some o → h'.get? b = some o) → J i ys h → J i ys h') (hns : s₁.heap.Ns env.locals mm)
    (turn : ElemAt prog w A elt scope cl env s₁.heap J n Pm)
    (fin : ∀ (D : Addr) (h' : Heap) (tk : Nat) (ys : List Value), s₁.heap.get? D = none → h'.PlainList D ys.toArray → h'.Ns env.locals (fun z => if z = yn then some (.ref D) else mm z) → (∀ b o, b ≠ env.locals → s₁.heap.get? b = some o → h'.get? b = some o) → J n ys (hideAll h' [D]) → QF .next { s₁ with heap := h', toks := tk })
    (hcell : ∀ y ∈ scope.names, y.2 ≠ .cell) (hkind : scope.kind = .function) (hy : env.kindOf yn = some .local) (hp : (env.scope.kind == .class || (env.scope.kind == .module && env.locals != env.globals)) = false) :
    wpAny (model prog w) A (newList []) (fun acc s₃ => wpAny (model prog w) A (newFunctionEnv scope env.globals cl [] env.qual none .none (some env)) (fun cenv s₄ =>
      codeAny (model prog w) A (.compStart (.ListComp elt [⟨target, iter, [], 0⟩] scope pos) 0 (.ref I) acc { cenv with scope := relabel scope env }) (AQ prog w A E env yn pn QF acc cenv.locals) s₄) E s₃) E s₂ := by
  obtain ⟨hx, tkx, rfl⟩ := hs
  refine comp_gen W hsz hst hfp hb J hmono hj (fun C D i s ys m E' hi hP h1 h2 h3 h4 => turn C _ i s ys m E' hi hP (fun b o e => hide_up _ _ (h1 _ _ e)) h1 h2 h3 h4) (fun D C h' tk m' ys hD hC hDC hn hpl hk hj => ?_) hcell hkind
  exact cqA_end (s₁ := s₁) J hmono hmonoL hns hy hp hD hC hDC hn hpl hk hj fun h'' a b c d => fin D h'' _ ys hD a b c d

theorem compA_list {l : Addr} {items : Array Value} {s₁ : Shared} (hh : A.handled = none) (hl : s₁.heap.IsList l items) (hsz : items.size ≤ sizeLine)
    (J : Nat → List Value → Heap → Prop) (hmono : ∀ i ys h h', h.StaysIn h' → J i ys h → J i ys h') (hj : J 0 [] s₁.heap)
    (hmonoL : ∀ i ys h h', (∀ b o, b ≠ env.locals → h.get? b = some o → h'.get? b = some o) → J i ys h → J i ys h') (hns : s₁.heap.Ns env.locals mm)
    (turn : ElemAt prog w A elt scope cl env s₁.heap J items.size (fun i m => ∃ v, items[i]? = some v ∧ m x = some v))
    (fin : ∀ (D : Addr) (h' : Heap) (tk : Nat) (ys : List Value), s₁.heap.get? D = none → h'.PlainList D ys.toArray → h'.Ns env.locals (fun z => if z = yn then some (.ref D) else mm z) → (∀ b o, b ≠ env.locals → s₁.heap.get? b = some o → h'.get? b = some o) → J items.size ys (hideAll h' [D]) → QF .next { s₁ with heap := h', toks := tk })
    (hcell : ∀ y ∈ scope.names, y.2 ≠ .cell := by decide) (hkind : scope.kind = .function := by rfl) (hx : scope.names.lookup x = some .local := by rfl) (hyn : env.kindOf yn = some .local := by rfl) (hpp : (env.scope.kind == .class || (env.scope.kind == .module && env.locals != env.globals)) = false := by rfl) :
    CompAtT prog w A env elt ⟨.Name x px, iter, [], 0⟩ [] scope pos cl (AQ prog w A E env yn pn QF) E (.ref l) s₁ := by
  obtain ⟨ol, hol, _⟩ := id hl
  have hlt : l < s₁.heap.objs.size := Heap.lt_size hol
  refine wpAny_pyIter_list hl (compA_gen (s₁ := s₁) (CDraw.ofW (Walks.list hh s₁.heap.objs.size l (Nat.ne_of_lt hlt) items) (fun i h st b hb => by obtain ⟨⟨o, e, _⟩, _⟩ := st; exact ⟨o, List.mem_singleton.mp hb ▸ e⟩) hx hkind) hsz ⟨⟨_, Heap.get?_push_size _ rfl, rfl, rfl⟩, hl.push _⟩ ?_ ?_ ⟨_, _, rfl⟩ J hmono hj hmonoL hns turn fin hcell hkind hyn hpp)
  · intro b hb
    show b < (s₁.heap.push _).objs.size
    rw [Heap.size_push]
    rcases List.mem_cons.mp hb with rfl | hb
    · exact Nat.lt_succ_self _
    · rw [List.mem_singleton.mp hb]; exact Nat.lt_succ_of_lt hlt
  · exact fun b o e => ⟨fun q => absurd (Heap.lt_size e) (by rw [List.mem_singleton.mp q]; exact Nat.lt_irrefl _), Heap.get?_push_of_some _ e⟩
theorem compA_zipLL {s : Shared} {l1 l2 : Addr} {xs ys : Array Value} {n : Nat} (hh : A.handled = none) (hl1 : s.heap.IsList l1 xs) (hl2 : s.heap.IsList l2 ys) (hn1 : xs.size = n) (hn2 : ys.size = n) (hsz : n ≤ 1000000)
    (J : Nat → List Value → Heap → Prop) (hmono : ∀ i ys h h', h.StaysIn h' → J i ys h → J i ys h') (hj : J 0 [] s.heap)
    (hmonoL : ∀ i ys h h', (∀ b o, b ≠ env.locals → h.get? b = some o → h'.get? b = some o) → J i ys h → J i ys h') (hns : s.heap.Ns env.locals mm)
    (turn : ElemAt prog w A elt scope cl env s.heap J n (fun i m => ∃ a b, xs[i]? = some a ∧ ys[i]? = some b ∧ m x = some a ∧ m y = some b))
    (fin : ∀ (D : Addr) (h' : Heap) (tk : Nat) (zs : List Value), s.heap.get? D = none → h'.PlainList D zs.toArray → h'.Ns env.locals (fun z => if z = yn then some (.ref D) else mm z) → (∀ b o, b ≠ env.locals → s.heap.get? b = some o → h'.get? b = some o) → J n zs (hideAll h' [D]) → QF .next { s with heap := h', toks := tk })
    (hxy : x ≠ y := by decide) (hcell : ∀ y ∈ scope.names, y.2 ≠ .cell := by decide) (hkind : scope.kind = .function := by rfl) (hx : scope.names.lookup x = some .local := by rfl) (hy : scope.names.lookup y = some .local := by rfl) (hyn : env.kindOf yn = some .local := by rfl) (hpp : (env.scope.kind == .class || (env.scope.kind == .module && env.locals != env.globals)) = false := by rfl) :
    wpAny (model prog w) A (call (.type "zip") [.ref l1, .ref l2]) (fun xv s₁ => CompAtT prog w A env elt ⟨.Tuple [.Name x px, .Name y py] kk tp, iter, [], 0⟩ [] scope pos cl (AQ prog w A E env yn pn QF) E xv s₁) E s := by
  have b1 : l1 < s.heap.objs.size := by obtain ⟨o, e, _⟩ := hl1; exact Heap.lt_size e
  have b2 : l2 < s.heap.objs.size := by obtain ⟨o, e, _⟩ := hl2; exact Heap.lt_size e
  subst hn1
  refine call_zip_2 hl1 hl2 fun h' hz hTI hTO h1 h2 hs5 hk => ?_
  have L1 : ∀ A : Around, A.handled = none → Draws prog w A s.heap.objs.size [s.heap.objs.size, l1] xs.size _ _ := fun A hA => Draws.list hA _ l1 (Nat.ne_of_lt b1) xs
  have L2 : ∀ A : Around, A.handled = none → Draws prog w A (s.heap.objs.size + 1) [s.heap.objs.size + 1, l2] ys.size _ _ := fun A hA => Draws.list hA _ l2 (Nat.ne_of_lt (Nat.lt_succ_of_lt b2)) ys
  rw [hn2] at L2
  have hl1' := stays_list hk hl1
  have hl2' := stays_list hk hl2
  have Z : ZipPts (s.heap.objs.size + 4) (s.heap.objs.size + 2) (s.heap.objs.size + 3) s.heap.objs.size (s.heap.objs.size + 1) [s.heap.objs.size, l1] [s.heap.objs.size + 1, l2] :=
    zipPts (fun b hb => by
      rcases List.mem_cons.mp hb with rfl | hb
      · exact Nat.le_refl _
      · rw [List.mem_singleton.mp hb]; exact Nat.le_of_lt b1) (fun b hb => by
      rcases List.mem_cons.mp hb with rfl | hb
      · exact .inr rfl
      · rw [List.mem_singleton.mp hb]; exact .inl b2)
  have W := WalksU.zipD hh L1 L2 Z
  refine wpAny_pyIter_zip hz (compA_gen (s₁ := s) (CDraw.ofU hh W (zip_live (n := 0) (fun i h st => by obtain ⟨o, e, _⟩ := st.1; exact ⟨o, e⟩) fun i h st => by obtain ⟨o, e, _⟩ := st.1; exact ⟨o, e⟩) (fun i vals ⟨a, b, _, _, e⟩ => ⟨a, b, e⟩) hxy hx hy hkind) (by rw [sizeLine_eq]; omega)
    ⟨hz, hTI, ⟨_, _, hTO⟩, ⟨h1, hl1'⟩, h2, hl2'⟩ ?_ ?_ ⟨_, _, rfl⟩ J hmono hj hmonoL hns ?_ fin hcell hkind hyn hpp)
  · intro b hb
    show @LT.lt Nat _ b h'.objs.size
    rw [hs5]
    simp only [List.cons_append, List.nil_append, List.mem_cons, List.not_mem_nil, or_false] at hb
    have c1 : @LT.lt Nat _ l1 s.heap.objs.size := b1
    have c2 : @LT.lt Nat _ l2 s.heap.objs.size := b2
    rcases hb with e | e | e | e | e | e | e | e | e <;> (rw [e]; (first | omega | exact Nat.lt_of_lt_of_le c1 (Nat.le_add_right _ _) | exact Nat.lt_of_lt_of_le c2 (Nat.le_add_right _ _)))
  · refine fun b o e => ⟨fun q => ?_, hk b o e⟩
    have c : @LT.lt Nat _ b s.heap.objs.size := Heap.lt_size e
    simp only [List.mem_cons, List.not_mem_nil, or_false] at q
    rcases q with q | q | q | q <;> (rw [q] at c; exact absurd c (by show ¬ @LT.lt Nat _ _ _; omega))
  · rintro C as i s' zs m E' hi ⟨a, b, ⟨a', b', ha, hb, e⟩, hm1, hm2⟩ h1 h2 h3 h4 h5
    simp only [Array.mk.injEq, List.cons.injEq, and_true] at e
    obtain ⟨rfl, rfl⟩ := e
    exact turn C as i s' zs m E' hi ⟨a, b, ha, hb, hm1, hm2⟩ h1 h2 h3 h4 h5
theorem lightF_upL {b₀ h h' : Heap} {L : Addr} {m : Str → Option Value} (hL : b₀.Ns L m) (k : ∀ b o, b ≠ L → h.get? b = some o → h'.get? b = some o) : ∀ {ys : List Value} {bs : List (List Int)}, Paired (LightF b₀ h) ys bs → Paired (LightF b₀ h') ys bs
  | _, _, .nil => .nil
  | _, _, .cons ⟨S, zs, e, n, ⟨m, hp⟩, hi⟩ r => .cons ⟨S, zs, e, n, ⟨m, k _ _ (fun q => by obtain ⟨o, _, _, e2, _⟩ := hL; rw [← q, n] at e2; cases e2) hp⟩, hi⟩ (lightF_upL hL k r)
theorem Fr.named {h₀ h h' : Heap} {L : Addr} {m m' : Str → Option Value} (F : Fr h₀ L h m) (hn : h'.Ns L m') (k : ∀ b o, b ≠ L → h.get? b = some o → h'.get? b = some o) : Fr h₀ L h' m' :=
  ⟨hn, fun b o e => k b o (Nat.ne_of_lt (Nat.lt_of_lt_of_le (Heap.lt_size e) F.above)) (F.keep b o e), F.above⟩
theorem News.named {h₀ h h' : Heap} {L : Addr} {news : List (Addr × Obj)} (N : News h₀ L h news) (k : ∀ b o, b ≠ L → h.get? b = some o → h'.get? b = some o) : News h₀ L h' news :=
  fun q hq => ⟨k _ _ (N q hq).2.1 (N q hq).1, (N q hq).2⟩
end
end
section
section
variable {prog : Program} {w : World} {A : Around} {E : Value → Shared → Prop} {env : Env} {elt i0 i1 : Expr} {scope : Scope} {cl : List (Str × Addr)} {pos : Pos} {x y : Str} {px py : Pos} {Q : Value → Shared → Prop} {s : Shared}
/-- a list comprehension with two sources -/
abbrev LC2 (elt : Expr) (x : Str) (px : Pos) (i0 : Expr) (y : Str) (py : Pos) (i1 : Expr) (scope : Scope) (pos : Pos) : Expr := .ListComp elt [⟨.Name x px, i0, [], 0⟩, ⟨.Name y py, i1, [], 0⟩] scope pos
theorem lc2_inner (it acc : Value) (env : Env) : compTurn (LC2 elt x px i0 y py i1 scope pos) 1 it acc env = (standAt i1.pos >>= fun _ => pyNext it >>= fun r => match r with
      | none => pure (.done .next)
      | some v => letOwnedTupleGo (.Name y py) it v >>= fun _ => assign (.Name y py) env v >>= fun _ =>
        (eval elt env >>= fun x => call (.builtin "list.append") [acc, x] >>= fun _ => pure ()) >>= fun _ =>
          again (.compLoop (LC2 elt x px i0 y py i1 scope pos) 1 it acc env)) := by rfl
theorem lc2_outer (it acc : Value) (env : Env) : compTurn (LC2 elt x px i0 y py i1 scope pos) 0 it acc env = (standAt i0.pos >>= fun _ => pyNext it >>= fun r => match r with
      | none => pure (.done .next)
      | some v => letOwnedTupleGo (.Name x px) it v >>= fun _ => assign (.Name x px) env v >>= fun _ =>
        eval i1 env >>= fun xv => standAt i1.pos >>= fun _ => foldedSetIterable i1 env xv >>= fun xv => holding [xv] (pyIter xv) >>= fun it' => runOwn (.compStart (LC2 elt x px i0 y py i1 scope pos) 1 it' acc env) env >>= fun _ =>
          again (.compLoop (LC2 elt x px i0 y py i1 scope pos) 0 it acc env)) := by rfl
theorem lc2_start {it acc : Value} {env : Env} {R : Result → Shared → Prop} (h0 : codeAny (model prog w) A (.compLoop (LC2 elt x px i0 y py i1 scope pos) 1 it acc env) R s)
    (h : wpAny (model prog w) A (pyIter it) (fun it' s' => codeAny (model prog w) A (.compLoop (LC2 elt x px i0 y py i1 scope pos) 1 it' acc env) R s') (notedBy (model prog w) A env fun x s' => R (.error x) s') s) :
    codeAny (model prog w) A (.compStart (LC2 elt x px i0 y py i1 scope pos) 1 it acc env) R s := by
  refine codeAny_of_tree ?_
  show wpAny _ _ ((compStart (LC2 elt x px i0 y py i1 scope pos) 1 it acc env).onRaise (fun x => do noteFrame x env; standAt theWindowsPlace)) _ _ s
  refine wpAny_notedAt ?_
  unfold compStart
  show wpAny _ _ (ask >>= _) _ _ s
  refine wpAny_bind (wpAny_askSetting (wpAny_ite ?_))
  split
  · first
      | exact wpAny_bind (wpAny_pure (wpAny_pure (And.intro rfl h0)))
      | exact wpAny_pure (And.intro rfl h0)
  · first
      | exact wpAny_bind (wpAny_rule (wpAny_bind (wpAny_standAt (wpAny_bind (wpAny_mono h (fun it' s' h' => wpAny_pure (And.intro rfl h')) fun _ _ x => x)))))
      | (refine wpAny_bind (wpAny_rule ?_); show wpAny _ _ (standAt i1.pos >>= _) _ _ s; exact wpAny_bind (wpAny_standAt (wpAny_bind (wpAny_mono h (fun it' s' h' => wpAny_pure (And.intro rfl h')) fun _ _ x => x))))
theorem lc2_loop1 {it acc : Value} {env : Env} {R : Result → Shared → Prop} (I : Nat → Shared → Prop)
    (turn : ∀ n s, I n s → ∀ E', wpAny (model prog w) A (pyNext it) (fun r s₁ => match r with
      | none => R (.ok .next) s₁
      | some v => wpAny (model prog w) A (assign (.Name y py) env v) (fun _ s₂ =>
          wpAny (model prog w) A (eval elt env) (fun x s₄ =>
            wpAny (model prog w) A (call (.builtin "list.append") [acc, x]) (fun _ s₅ => ∃ m, m < n ∧ I m s₅) E' s₄) E' s₂) E' s₁) E' s)
    (n : Nat) (h : I n s) : codeAny (model prog w) A (.compLoop (LC2 elt x px i0 y py i1 scope pos) 1 it acc env) R s := by
  refine codeAny_loop rfl I (fun n s hI => ?_) n h
  show wpAny _ A ((compTurn (LC2 elt x px i0 y py i1 scope pos) 1 it acc env).onRaise (fun x => do noteFrame x env; theTreesLotGoes x)) _ _ s
  refine wpAny_noted ?_
  rw [lc2_inner]
  refine wpAny_bind (wpAny_standAt (wpAny_bind (wpAny_mono (turn n s hI _) (fun r s₁ h₁ => ?_) fun _ _ h' => h')))
  cases r with
  | none => exact wpAny_pure h₁
  | some v =>
    refine wpAny_bind (wpAny_of_eq (show letOwnedTupleGo (.Name y py) it v = pure () from rfl) ?_)
    refine wpAny_bind (wpAny_mono h₁ (fun _ s₂ h₂ => ?_) fun _ _ h' => h')
    exact wpAny_bind (wpAny_bind (wpAny_mono h₂ (fun x s₄ h₄ => wpAny_bind (wpAny_mono h₄ (fun _ s₅ h₅ => wpAny_pure (wpAny_pure ⟨rfl, h₅⟩)) fun _ _ h' => h')) fun _ _ h' => h'))
theorem lc2_loop0 {it acc : Value} {env : Env} {R : Result → Shared → Prop} (I : Nat → Shared → Prop) (hs : ∀ z, foldedSetIterable i1 env z = pure z)
    (turn : ∀ n s, I n s → ∀ E', wpAny (model prog w) A (pyNext it) (fun r s₁ => match r with
      | none => R (.ok .next) s₁
      | some v => wpAny (model prog w) A (assign (.Name x px) env v) (fun _ s₂ =>
          wpAny (model prog w) A (eval i1 env) (fun xv s₃ => wpAny (model prog w) A (pyIter xv) (fun it' s₄ =>
            ∀ R', (∀ s₅, (∃ m, m < n ∧ I m s₅) → R' (.ok .next) s₅) → codeAny (model prog w) A (.compStart (LC2 elt x px i0 y py i1 scope pos) 1 it' acc env) R' s₄) E' s₃) E' s₂) E' s₁) E' s)
    (n : Nat) (h : I n s) : codeAny (model prog w) A (.compLoop (LC2 elt x px i0 y py i1 scope pos) 0 it acc env) R s := by
  refine codeAny_loop rfl I (fun n s hI => ?_) n h
  show wpAny _ A ((compTurn (LC2 elt x px i0 y py i1 scope pos) 0 it acc env).onRaise (fun x => do noteFrame x env; theTreesLotGoes x)) _ _ s
  refine wpAny_noted ?_
  rw [lc2_outer]
  refine wpAny_bind (wpAny_standAt (wpAny_bind (wpAny_mono (turn n s hI _) (fun r s₁ h₁ => ?_) fun _ _ h' => h')))
  cases r with
  | none => exact wpAny_pure h₁
  | some v =>
    refine wpAny_bind (wpAny_of_eq (show letOwnedTupleGo (.Name x px) it v = pure () from rfl) ?_)
    refine wpAny_bind (wpAny_mono h₁ (fun _ s₂ h₂ => ?_) fun _ _ h' => h')
    refine wpAny_bind (wpAny_mono h₂ (fun xv s₃ h₃ => ?_) fun _ _ h' => h')
    refine wpAny_bind (wpAny_standAt (wpAny_bind (wpAny_of_eq (hs xv) (wpAny_bind (wpAny_holding (wpAny_mono h₃ (fun it' s₄ h₄ => ?_) fun _ _ h' => h'))))))
    exact wpAny_bind (wpAny_runOwn (h₄ _ fun s₅ h₅ => wpAny_pure ⟨rfl, h₅⟩))
/-- where the outer loop stands -/
inductive C2Out (s₁ : Shared) (items1 : Array Value) (I l1 C D : Addr) (J : Nat → Nat → List Value → Prop) (k : Nat) (s' : Shared) : Prop
  | mk (h' : Heap) (tk i : Nat) (ys : List Value) (m' : Str → Option Value) (e : s' = { s₁ with heap := h', toks := tk }) (hi : i ≤ items1.size) (ek : k = items1.size + 1 - i) (hit : h'.IsListIter I l1 i) (hli : h'.IsList l1 items1) (hn : h'.Ns C m') (hpl : h'.PlainList D ys.toArray) (hst : s₁.heap.StaysIn h') (hj : J i 0 ys) : C2Out s₁ items1 I l1 C D J k s'
/-- where the inner loop stands -/
inductive C2In (s₁ : Shared) (items2 : Array Value) (I l1 i I2 l2 C D : Addr) (x : Str) (v : Value) (J : Nat → Nat → List Value → Prop) (k : Nat) (s' : Shared) : Prop
  | mk (h' : Heap) (tk j : Nat) (ys : List Value) (m' : Str → Option Value) (e : s' = { s₁ with heap := h', toks := tk }) (hj : j ≤ items2.size) (ek : k = items2.size + 1 - j) (hit : h'.IsListIter I l1 (i + 1)) (hit2 : h'.IsListIter I2 l2 j) (hl2 : h'.IsList l2 items2) (hn : h'.Ns C m') (hmx : m' x = some v) (hpl : h'.PlainList D ys.toArray) (hst : s₁.heap.StaysIn h') (hjj : J i j ys) : C2In s₁ items2 I l1 i I2 l2 C D x v J k s'
/-- two sources, both lists; the elements' values are held apart from the heap -/
theorem comp2_list {l1 : Addr} {items1 items2 : Array Value} {s₁ : Shared} (hh : A.handled = none) (hl : s₁.heap.IsList l1 items1)
    (J : Nat → Nat → List Value → Prop) (hj : J 0 0 []) (hJ : ∀ i ys, i < items1.size → J i items2.size ys → J (i + 1) 0 ys) (hlen : ∀ i j ys, i < items1.size → j ≤ items2.size → J i j ys → ys.length ≤ sizeLine)
    (src : ∀ (C : Addr) (i : Nat) (s : Shared) (m : Str → Option Value) (v : Value) (E' : Value → Shared → Prop), items1[i]? = some v → m x = some v → s₁.heap.StaysIn s.heap → s.heap.Ns C m →
      wpAny (model prog w) A (eval i1 (compEnvC scope cl C env)) (fun xv s' => ∃ l2 h' tk, xv = .ref l2 ∧ s' = { s with heap := h', toks := tk } ∧ s.heap.StaysIn h' ∧ s.heap.get? l2 = none ∧ h'.IsList l2 items2) E' s)
    (turn : ∀ (C : Addr) (i j : Nat) (s : Shared) (ys : List Value) (m : Str → Option Value) (v u : Value) (E' : Value → Shared → Prop), items1[i]? = some v → items2[j]? = some u → m x = some v → m y = some u → s₁.heap.StaysIn s.heap → s.heap.Ns C m → J i j ys →
      wpAny (model prog w) A (eval elt (compEnvC scope cl C env)) (fun z s' => ∃ h' tk, s' = { s with heap := h', toks := tk } ∧ s.heap.StaysIn h' ∧ J i (j + 1) (ys ++ [z])) E' s)
    (fin : ∀ (D : Addr) (h' : Heap) (tk : Nat) (ys : List Value), s₁.heap.get? D = none → h'.PlainList D ys.toArray → s₁.heap.StaysIn h' → J items1.size 0 ys → Q (.ref D) { s₁ with heap := h', toks := tk })
    (hxy : x ≠ y := by decide) (hs : ∀ C z, foldedSetIterable i1 (compEnvC scope cl C env) z = pure z := by intro _ _; rfl)
    (hcell : ∀ y ∈ scope.names, y.2 ≠ .cell := by decide) (hkind : scope.kind = .function := by rfl) (hx : scope.names.lookup x = some .local := by rfl) (hy : scope.names.lookup y = some .local := by rfl) :
    CompAtT prog w A env elt ⟨.Name x px, i0, [], 0⟩ [⟨.Name y py, i1, [], 0⟩] scope pos cl (CQ prog w A E Q) E (.ref l1) s₁ := by
  obtain ⟨ol, hol, _⟩ := id hl
  have hlt : l1 < s₁.heap.objs.size := Heap.lt_size hol
  refine wpAny_pyIter_list hl ?_
  have fresh : ∀ a, s₁.heap.objs.size ≤ a → s₁.heap.get? a = none := fun a ha => by
    cases e : s₁.heap.get? a with
    | none => rfl
    | some o' => exact absurd (Heap.lt_size e) (Nat.not_lt.mpr ha)
  refine wpAny_newObj_type (wpAny_newFunctionEnv hcell (by intro y hy; simp at hy) (fun h₁ hns₁ hsb₁ => ?_) hkind)
  dsimp only at hns₁ hsb₁ ⊢
  have hit0 := Heap.get?_push_size s₁.heap (o := { cls := .type "list_iterator", data := .fields #[.ref l1, .int 0 0] }) rfl
  have old0 : ∀ b o, s₁.heap.get? b = some o → (s₁.heap.push { cls := .type "list_iterator", data := .fields #[.ref l1, .int 0 0] }).get? b = some o := fun b o e => Heap.get?_push_of_some _ e
  have hsz0 : (s₁.heap.push { cls := .type "list_iterator", data := .fields #[.ref l1, .int 0 0] }).objs.size = s₁.heap.objs.size + 1 := Heap.size_push _ _
  generalize s₁.heap.push { cls := .type "list_iterator", data := .fields #[.ref l1, .int 0 0] } = H1 at *
  have hD0 := Heap.get?_push_size H1 (o := { cls := .type "list", data := .seq ([] : List Value).toArray }) rfl
  have old1 : ∀ b o, H1.get? b = some o → (H1.push { cls := .type "list", data := .seq ([] : List Value).toArray }).get? b = some o := fun b o e => Heap.get?_push_of_some _ e
  have hsz1 : (H1.push { cls := .type "list", data := .seq ([] : List Value).toArray }).objs.size = H1.objs.size + 1 := Heap.size_push _ _
  generalize H1.push { cls := .type "list", data := .seq ([] : List Value).toArray } = H2 at *
  generalize hI : s₁.heap.objs.size = I at *
  generalize hD : H1.objs.size = D at *
  generalize hC : H2.objs.size = C at *
  have hID : I ≠ D := by omega
  have hIC : I ≠ C := by omega
  have hDC : D ≠ C := by omega
  have hlI : l1 ≠ I := Nat.ne_of_lt (hlt)
  have hlD : l1 ≠ D := Nat.ne_of_lt (Nat.lt_of_lt_of_le hlt (by omega))
  have hlC : l1 ≠ C := Nat.ne_of_lt (Nat.lt_of_lt_of_le hlt (by omega))
  have nI : s₁.heap.get? I = none := fresh _ (by omega)
  have nD : s₁.heap.get? D = none := fresh _ (by omega)
  have nC : s₁.heap.get? C = none := fresh _ (by omega)
  have up : ∀ {h h' : Heap} {a : Addr}, s₁.heap.get? a = none → (∀ b o, b ≠ a → h.get? b = some o → h'.get? b = some o) → s₁.heap.StaysIn h → s₁.heap.StaysIn h' := fun hn k st b o e => k b o (fun q => by rw [q, hn] at e; cases e) (st b o e)
  have st1 : s₁.heap.StaysIn h₁ := up nC hsb₁.extBut fun b o e => Heap.get?_push_of_some _ (old1 _ _ (old0 _ _ e))
  have loop : ∀ s₃ : Shared, s₃ = { s₁ with heap := h₁, toks := s₁.toks + ([] : List (Str × Value)).length } →
      codeAny (model prog w) A (.compLoop (LC2 elt x px i0 y py i1 scope pos) 0 (.ref I) (.ref D) (compEnvC scope cl C env)) (CQ prog w A E Q (.ref D) C) s₃ := by
    rintro s₃ rfl
    refine lc2_loop0 (C2Out s₁ items1 I l1 C D J) (hs C) ?_ (items1.size + 1)
      ⟨h₁, _, 0, [], _, rfl, Nat.zero_le _, rfl, ⟨_, hsb₁.extBut _ _ hIC (Heap.get?_push_of_some _ (old1 _ _ hit0)), rfl, rfl⟩, hl.at fun o e => st1 _ _ e, hns₁, ⟨_, hsb₁.extBut _ _ hDC (Heap.get?_push_of_some _ hD0)⟩, st1, hj⟩
    rintro k s' ⟨h', tk, i, ys, m', rfl, hi, rfl, hit, hli, hn, hpl, hst, hjj⟩ E'
    by_cases hlt : i < items1.size
    · have hv : items1[i]? = some (items1[i]'hlt) := Array.getElem?_eq_getElem hlt
      generalize items1[i]'hlt = v at hv
      refine wpAny_pyNext_list_item hit hli hv fun h₂ hit₂ hs₂ => ?_
      have hn₂ := hn.at' fun o e => hs₂.extBut _ _ (Ne.symm hIC) e
      refine wpAny_assign_Name (wpAny_storeName_local (lookup_relabel_local hx) hn₂ (fun h₃ hn₃ hs₃ => ?_) (by simp [compEnvC, relabel, hkind]))
      have st3 : s₁.heap.StaysIn h₃ := up nC hs₃.extBut (up nI hs₂.extBut hst)
      have hit₃ : h₃.IsListIter I l1 (i + 1) := hit₂.at fun o e => hs₃.extBut _ _ hIC e
      have hpl₃ : h₃.PlainList D ys.toArray := (hpl.extBut hs₂.extBut (Ne.symm hID)).extBut hs₃.extBut hDC
      refine wpAny_mono (src C i _ _ v _ hv (by simp) st3 hn₃) (fun xv s₄ h₄ => ?_) fun _ _ e => e
      obtain ⟨l2, h₄, tk₄, rfl, rfl, hk₄, hl2n, hl2⟩ := h₄
      refine wpAny_pyIter_list hl2 ?_
      intro R' hR'
      have st4 : s₁.heap.StaysIn h₄ := fun b o e => hk₄ _ _ (st3 _ _ e)
      have hit₄ : h₄.IsListIter I l1 (i + 1) := hit₃.at fun o e => hk₄ _ _ e
      have hpl₄ : h₄.PlainList D ys.toArray := hpl₃.at fun o e => hk₄ _ _ e
      have hn₄ := hn₃.at' fun o e => hk₄ _ _ e
      have l2I : l2 ≠ I := by rintro rfl; obtain ⟨o, e, _⟩ := hit₃; rw [show h₃.get? l2 = none from hl2n] at e; cases e
      have l2D : l2 ≠ D := by rintro rfl; obtain ⟨o, e⟩ := hpl₃; rw [show h₃.get? l2 = none from hl2n] at e; cases e
      have l2C : l2 ≠ C := by rintro rfl; obtain ⟨o, _, _, e, _⟩ := hn₃; exact absurd (hl2n.symm.trans e) (by simp)
      have hI2 := Heap.get?_push_size h₄ (o := { cls := .type "list_iterator", data := .fields #[.ref l2, .int 0 0] }) rfl
      have old5 : ∀ b o, h₄.get? b = some o → (h₄.push { cls := .type "list_iterator", data := .fields #[.ref l2, .int 0 0] }).get? b = some o := fun b o e => Heap.get?_push_of_some _ e
      have big : ∀ b o, h₄.get? b = some o → b ≠ h₄.objs.size := fun b o e => Nat.ne_of_lt (Heap.lt_size e)
      show codeAny (model prog w) A (.compStart (LC2 elt x px i0 y py i1 scope pos) 1 (.ref h₄.objs.size) (.ref D) (compEnvC scope cl C env)) R' { s₁ with heap := h₄.push { cls := .type "list_iterator", data := .fields #[.ref l2, .int 0 0] }, toks := tk₄ }
      generalize h₄.push { cls := .type "list_iterator", data := .fields #[.ref l2, .int 0 0] } = h₅ at *
      have iI : I ≠ h₄.objs.size := by obtain ⟨o, e, _⟩ := hit₄; exact big _ _ e
      have iD : D ≠ h₄.objs.size := by obtain ⟨o, e⟩ := hpl₄; exact big _ _ e
      have iC : C ≠ h₄.objs.size := by obtain ⟨o, _, _, e, _⟩ := hn₄; exact big _ _ e
      have il2 : l2 ≠ h₄.objs.size := by obtain ⟨o, e, _⟩ := hl2; exact big _ _ e
      have nI2 : s₁.heap.get? h₄.objs.size = none := by
        cases e : s₁.heap.get? h₄.objs.size with
        | none => rfl
        | some o => exact absurd rfl (big _ _ (st4 _ _ e))
      generalize h₄.objs.size = I2 at *
      have inner : codeAny (model prog w) A (.compLoop (LC2 elt x px i0 y py i1 scope pos) 1 (.ref I2) (.ref D) (compEnvC scope cl C env)) R' { s₁ with heap := h₅, toks := tk₄ } := by
        refine lc2_loop1 (C2In s₁ items2 I l1 i I2 l2 C D x v J) ?_ (items2.size + 1)
          ⟨h₅, tk₄, 0, ys, _, rfl, Nat.zero_le _, rfl, hit₄.at fun o e => old5 _ _ e, ⟨_, hI2, rfl, rfl⟩, hl2.at fun o e => old5 _ _ e, hn₄.at' fun o e => old5 _ _ e, by simp, hpl₄.at fun o e => old5 _ _ e, fun b o e => old5 _ _ (st4 _ _ e), hjj⟩
        clear hit hli hn hpl hst hjj hit₂ hs₂ hn₂ hn₃ hs₃ st3 hit₃ hpl₃ hk₄ hl2n st4 hit₄ hpl₄ hn₄ hI2 old5 big hl2
        rintro k s' ⟨h', tk, j, ys, m', rfl, hj', rfl, hit, hit', hl2, hn, hmx, hpl, hst, hjj⟩ E''
        by_cases hlt2 : j < items2.size
        · have hu : items2[j]? = some (items2[j]'hlt2) := Array.getElem?_eq_getElem hlt2
          generalize items2[j]'hlt2 = u at hu
          refine wpAny_pyNext_list_item hit' hl2 hu fun h₂ hit₂ hs₂ => ?_
          have hn₂ := hn.at' fun o e => hs₂.extBut _ _ iC e
          refine wpAny_assign_Name (wpAny_storeName_local (lookup_relabel_local hy) hn₂ (fun h₃ hn₃ hs₃ => ?_) (by simp [compEnvC, relabel, hkind]))
          have st3 : s₁.heap.StaysIn h₃ := up nC hs₃.extBut (up nI2 hs₂.extBut hst)
          refine wpAny_mono (turn C i j _ ys _ v u _ hv hu (by simp [hxy, hmx]) (by simp) st3 hn₃ hjj) (fun z s₄ h₄ => ?_) fun _ _ e => e
          obtain ⟨h₄, tk₄, rfl, hk₄, hj₄⟩ := h₄
          have hpl₄ : h₄.PlainList D ys.toArray := ((hpl.extBut hs₂.extBut iD).extBut hs₃.extBut hDC).at fun o e => hk₄ _ _ e
          obtain ⟨nD', eD⟩ := hpl₄
          refine append_at (hsz := by show ys.toArray.size ≤ sizeLine; rw [List.size_toArray]; exact hlen i j ys hlt hj' hjj) eD fun h₅ hs₅ hD₅ => ?_
          refine ⟨items2.size + 1 - (j + 1), by omega, h₅, tk₄, j + 1, ys ++ [z], fun n => if n = y then some u else m' n, rfl, hlt2, rfl, ?_, ?_, ?_, ?_, ?_, ⟨nD' + 1, hD₅.trans (by simp)⟩, up nD hs₅.extBut fun b o e => hk₄ _ _ (st3 _ _ e), hj₄⟩
          · exact (((hit.at fun o e => hs₂.extBut _ _ iI e).at fun o e => hs₃.extBut _ _ hIC e).at fun o e => hk₄ _ _ e).at fun o e => hs₅.extBut _ _ hID e
          · exact ((hit₂.at fun o e => hs₃.extBut _ _ (Ne.symm iC) e).at fun o e => hk₄ _ _ e).at fun o e => hs₅.extBut _ _ (Ne.symm iD) e
          · exact (((hl2.at fun o e => hs₂.extBut _ _ il2 e).at fun o e => hs₃.extBut _ _ l2C e).at fun o e => hk₄ _ _ e).at fun o e => hs₅.extBut _ _ l2D e
          · exact (hn₃.at' fun o e => hk₄ _ _ e).at' fun o e => hs₅.extBut _ _ (Ne.symm hDC) e
          · simp [hxy, hmx]
        · obtain rfl : j = items2.size := Nat.le_antisymm hj' (Nat.not_lt.mp hlt2)
          refine wpAny_pyNext_list_end hh hit' hl2 (by simp) fun h₂ hs₂ => ?_
          refine hR' _ ⟨items1.size + 1 - (i + 1), by omega, h₂, tk, i + 1, ys, m', rfl, hlt, rfl, hit.at fun o e => hs₂ _ _ iI e, ?_, hn.at' fun o e => hs₂ _ _ iC e, hpl.at fun o e => hs₂ _ _ iD e, up nI2 hs₂ hst, hJ i ys hlt hjj⟩
          exact hl.at fun o e => up nI2 hs₂ hst _ _ e
      exact lc2_start inner (wpAny_pyIter_listiter ⟨_, hI2, rfl, rfl⟩ inner)
    · obtain rfl : i = items1.size := Nat.le_antisymm hi (Nat.not_lt.mp hlt)
      refine wpAny_pyNext_list_end hh hit hli (by simp) fun h₂ hs₂ => ?_
      exact ⟨m', hn.at' fun o e => hs₂ _ _ (Ne.symm hIC) e, fun h'' hs'' => fin D h'' _ ys nD ((hpl.at fun o e => hs₂ _ _ (Ne.symm hID) e).extBut hs''.extBut hDC) (up nC hs''.extBut (up nI hs₂ hst)) hjj⟩
  exact codeAny_compStart_list (loop _ rfl) (wpAny_pyIter_listiter ⟨_, hsb₁.extBut _ _ hIC (Heap.get?_push_of_some _ (old1 _ _ hit0)), rfl, rfl⟩ (loop _ rfl))
end
end
section
theorem rot_take {α : Type} {l : List α} {j : Nat} {v : α} (h : l[j]? = some v) : l.drop j ++ l.take j = v :: (l.drop (j + 1) ++ l.take j) := by
  obtain ⟨hlt, e⟩ := List.getElem?_eq_some_iff.mp h
  rw [List.drop_eq_getElem_cons hlt, e]; rfl
theorem rot_push {α : Type} {l : List α} {j : Nat} {v : α} (h : l[j]? = some v) : (l.drop (j + 1) ++ l.take j) ++ [v] = l.drop (j + 1) ++ l.take (j + 1) := by
  rw [List.take_add_one, h]; simp
theorem max_step {prog : Program} {w : World} {A : Around} {E : Value → Shared → Prop} {s : Shared} {as bs : List Int} {ys : List Value} {q : Nat} {a b : Int} {t u : Tok} (hh : A.handled = none) (hj : IntsAre ys ((List.zipWith max as bs).take q)) (ha : as[q]? = some a) (hb : bs[q]? = some b) :
    wpAny (model prog w) A (call (.builtin "max") [.int a t, .int b u]) (fun y s' => ∃ h' tk, s' = { s with heap := h', toks := tk } ∧ s.heap.StaysIn h' ∧ IntsAre (ys ++ [y]) ((List.zipWith max as bs).take (q + 1))) E s := by
  refine max_two_ints hh fun h' tk hk => ?_
  have e : (List.zipWith max as bs)[q]? = some (max a b) := by rw [List.getElem?_zipWith, ha, hb]
  rw [List.take_add_one, e]
  by_cases c : b > a
  · rw [if_pos c]
    refine ⟨h', tk, rfl, hk, ints_app hj ?_⟩
    rw [Int.max_eq_right (by omega)]
    exact .cons _ _ .nil
  · rw [if_neg c]
    refine ⟨h', tk, rfl, hk, ints_app hj ?_⟩
    rw [Int.max_eq_left (by omega)]
    exact .cons _ _ .nil
/-- the unlike rests are many -/
theorem rests_many {T H : List Nat} (nT : T.Nodup) (nH : H.Nodup) (bT : ∀ t ∈ T, t < 64) (bH : ∀ h ∈ H, h < 64) : H.length * T.length ≤ (rowW (pairsL T H)).length * (rowW (pairsR T H)).length := by
  obtain ⟨Lm, eL, bL, nL, mL⟩ := rowW_masks (pairsL T H)
  obtain ⟨Rm, eR, bR, nR, mR⟩ := rowW_masks (pairsR T H)
  rw [eL, eR, List.length_map, List.length_map, Nat.mul_comm Lm.length]
  refine ad_rests H T Lm Rm nH nT nL nR bH bT bL bR (fun h hh t ht => ?_) (fun h hh t ht => ?_)
  · have b : h &&& (63 ^^^ t) < 64 := Nat.lt_of_le_of_lt Nat.and_le_left (bH h hh)
    refine (mL _ b).mpr ⟨h &&& (63 ^^^ t), ?_, (Nat.mod_eq_of_lt b).symm⟩
    exact List.mem_flatMap.mpr ⟨t, ht, List.mem_map.mpr ⟨h, hh, rfl⟩⟩
  · have b : t &&& (63 ^^^ h) < 64 := Nat.lt_of_le_of_lt Nat.and_le_left (bT t ht)
    refine (mR _ b).mpr ⟨t &&& (63 ^^^ h), ?_, (Nat.mod_eq_of_lt b).symm⟩
    exact List.mem_flatMap.mpr ⟨t, ht, List.mem_map.mpr ⟨h, hh, rfl⟩⟩
end
section
/-- what two loops, one within the other, have made of two rows -/
def grid {α β : Type} (f : α → α → β) (A B : List α) (i j : Nat) : List β := ((A.take i).flatMap fun a => B.map (f a)) ++ ((A.drop i).take 1).flatMap fun a => (B.take j).map (f a)
theorem grid_next {α β : Type} {f : α → α → β} {A B : List α} {i : Nat} (h : i < A.length) : grid f A B i B.length = grid f A B (i + 1) 0 := by
  unfold grid
  have e : A[i]? = some A[i] := List.getElem?_eq_getElem h
  have e2 : A.take (i + 1) = A.take i ++ [A[i]] := by rw [List.take_add_one, e]; rfl
  have e3 : ∀ l : List α, (l.flatMap fun a => (B.take 0).map (f a)) = [] := fun l => by
    induction l with
    | nil => rfl
    | cons a r ih => rw [List.flatMap_cons, ih]; rfl
  rw [List.drop_eq_getElem_cons h, e2, e3]
  simp only [List.take_succ_cons, List.take_zero, List.flatMap_append, List.flatMap_cons, List.flatMap_nil, List.append_nil, List.take_length]
theorem grid_step {α β : Type} {f : α → α → β} {A B : List α} {i j : Nat} {a b : α} (ha : A[i]? = some a) (hb : B[j]? = some b) : grid f A B i (j + 1) = grid f A B i j ++ [f a b] := by
  obtain ⟨h, e⟩ := List.getElem?_eq_some_iff.mp ha
  unfold grid
  have e2 : B.take (j + 1) = B.take j ++ [b] := by rw [List.take_add_one, hb]; rfl
  rw [List.drop_eq_getElem_cons h, e, e2]
  simp only [List.take_succ_cons, List.take_zero, List.flatMap_cons, List.flatMap_nil, List.append_nil, List.map_append, List.map_cons, List.map_nil, List.append_assoc]
theorem grid_len {α β : Type} (f : α → α → β) : ∀ (A B : List α) (i j : Nat), i < A.length → j ≤ B.length → (grid f A B i j).length ≤ A.length * B.length
  | A, B, i, j, hi, hj => by
    have h1 : ∀ A : List α, (A.flatMap fun a => B.map (f a)).length = A.length * B.length := by
      intro A
      induction A with
      | nil => simp
      | cons a r ih => rw [List.flatMap_cons, List.length_append, ih, List.length_map, List.length_cons, Nat.succ_mul, Nat.add_comm]
    unfold grid
    rw [List.drop_eq_getElem_cons hi, List.length_append, h1, List.length_take, Nat.min_eq_left (Nat.le_of_lt hi)]
    simp only [List.take_succ_cons, List.take_zero, List.flatMap_cons, List.flatMap_nil, List.append_nil, List.length_map, List.length_take]
    have : (i + 1) * B.length ≤ A.length * B.length := Nat.mul_le_mul_right _ hi
    rw [Nat.succ_mul] at this
    omega
theorem grid_full {α β : Type} (f : α → α → β) (A B : List α) : grid f A B A.length 0 = A.flatMap fun a => B.map (f a) := by
  unfold grid
  rw [List.take_length, List.drop_length]
  simp
theorem grid_zero {α β : Type} (f : α → α → β) (A B : List α) : grid f A B 0 0 = [] := by
  cases A <;> rfl
theorem flat_len {α β : Type} (f : α → α → β) (B : List α) : ∀ A : List α, (A.flatMap fun a => B.map (f a)).length = A.length * B.length
  | [] => by simp
  | a :: r => by rw [List.flatMap_cons, List.length_append, flat_len f B r, List.length_map, List.length_cons, Nat.succ_mul, Nat.add_comm]
theorem bit_rest : ∀ a < 64, ∀ b < 64, Builtin.bitAnd ((a : Nat) : Int) (Builtin.bitNot ((b : Nat) : Int)) = ((a &&& (63 ^^^ b) : Nat) : Int) := by decide +kernel
theorem row_grid {T H Mt Mh : List Nat} (f : Nat → Nat → Nat) (hT : ∀ m, m ∈ T ↔ m ∈ Mt) (hH : ∀ m, m ∈ H ↔ m ∈ Mh) (z : List Nat) : z ∈ (Mh.flatMap fun h => Mt.map fun t => letters (f h t)) ↔ z ∈ rowW (T.flatMap fun t => H.map fun h => f h t) := by
  rw [rowW_mem]
  constructor
  · intro h
    obtain ⟨a, ha, h⟩ := List.mem_flatMap.mp h
    obtain ⟨b, hb, rfl⟩ := List.mem_map.mp h
    exact ⟨f a b, List.mem_flatMap.mpr ⟨b, (hT b).mpr hb, List.mem_map.mpr ⟨a, (hH a).mpr ha, rfl⟩⟩, (letters_mod _).symm⟩
  · rintro ⟨c, hc, rfl⟩
    obtain ⟨b, hb, hc⟩ := List.mem_flatMap.mp hc
    obtain ⟨a, ha, rfl⟩ := List.mem_map.mp hc
    exact List.mem_flatMap.mpr ⟨a, (hH a).mp ha, List.mem_map.mpr ⟨b, (hT b).mp hb, (letters_mod _).symm⟩⟩
theorem same_masks {l T : List Nat} (h1 : ∀ t ∈ T, t < 64) (h2 : ∀ m, m < 64 → (m ∈ T ↔ ∃ c ∈ l, m = c % 64)) (m : Nat) : m ∈ T ↔ m ∈ l.map (· % 64) := by
  constructor
  · intro h
    obtain ⟨c, hc, rfl⟩ := (h2 m (h1 m h)).mp h
    exact List.mem_map.mpr ⟨c, hc, rfl⟩
  · intro h
    obtain ⟨c, hc, rfl⟩ := List.mem_map.mp h
    exact (h2 _ (Nat.mod_lt _ (by decide))).mpr ⟨c, hc, rfl⟩
/-- a mark: the walk stops at len, * and >= -/
def MarkStop : Prop := True
/-- a mark: the walk stops at a list named by a comprehension -/
def MarkComp : Prop := True
end
section
section
variable {M : Model} {prog : Program} {w : World} {A : Around} {E : Value → Shared → Prop} {s : Shared} {env : Env} {x : Str} {px : Pos} {body : List Stmt} {h₀ : Heap} {L : Addr}
/-- what stands behind a tree said for any post: the post becomes a name -/
theorem absV {α : Type} {t : Sem α} {Q0 : α → Shared → Prop} {v : α} (P : Shared → Prop) (hP : ∀ s', P s' → Q0 v s') (h : ∀ (Q : α → Shared → Prop) (E : Value → Shared → Prop), (∀ s', P s' → Q v s') → wpAny M A t Q E s) : wpAny M A t Q0 E s := h Q0 E hP
/-- what stands behind a tree becomes a name -/
theorem absQ {α : Type} {t : Sem α} {Q : α → Shared → Prop} (h : ∀ Q' : α → Shared → Prop, (∀ v s', Q v s' → Q' v s') → wpAny M A t Q' E s) : wpAny M A t Q E s := h Q fun _ _ x => x
theorem cutV {st : Stmt} {rest : List Stmt} {Q : Flow → Shared → Prop} (P : Shared → Prop) (h1 : ∀ (Q1 : Flow → Shared → Prop) (E1 : Value → Shared → Prop), (∀ s', P s' → Q1 .next s') → wpAny M A (exec st env) Q1 E1 s)
    (h2 : ∀ s', P s' → wpAny M A (execs rest env) Q E s') : wpAny M A (execs (st :: rest) env) Q E s :=
  cut P (h1 _ E fun _ h => ⟨rfl, h⟩) h2
theorem for_rangeV {Q : Flow → Shared → Prop} {r : Addr} {n : Nat} {t u k : Tok} (hh : A.handled = none) (hL : env.locals = L) (hr : IsRange s.heap r 0 n 1 t u k) (hn : n ≤ sizeLine) (J : Nat → (Str → Option Value) → List (Addr × Obj) → Prop) {m₀ : Str → Option Value} {led₀ : List (Addr × Obj)}
    (F : Fr h₀ L s.heap m₀) (N : News h₀ L s.heap led₀) (hj : J 0 m₀ led₀)
    (turn : ∀ (I : Addr) (i : Nat) (h : Heap) (tk : Nat) (m : Str → Option Value) (led : List (Addr × Obj)) (oI : Obj) (tv : Tok), i < n → J i m led → Fr h₀ L h m → News h₀ L h ((I, oI) :: led) → (∀ q ∈ led, q.1 ≠ I) → oI.cls = .type "range_iterator" →
      ∀ (Q' : Flow → Shared → Prop) (E' : Value → Shared → Prop), (∀ s₃, TurnEnd h₀ L I oI [] (J (i + 1)) h s s₃ → Q' .next s₃) →
      wpAny (model prog w) A (storeName env x (.int i tv)) (fun _ s₂ => wpAny (model prog w) A (execs body env) Q' E' s₂) E' { s with heap := h, toks := tk })
    (done : ∀ (h : Heap) (tk : Nat) (m : Str → Option Value) (led : List (Addr × Obj)), J n m led → Fr h₀ L h m → News h₀ L h led → Q .next { s with heap := h, toks := tk }) :
    ForAt prog w A env x px body Q E (.ref r) s :=
  for_range hh hL hr hn J F N hj (fun I i h tk m led oI tv hi hJ F' N' hne hc => turn I i h tk m led oI tv hi hJ F' N' hne hc (fun f s₃ => match f with
          | .next | .cont => TurnEnd h₀ L I oI [] (J (i + 1)) h s s₃
          | .brk => Q .next s₃
          | .ret v => Q (.ret v) s₃) (fun _ _ => False) fun _ h => h) done
theorem for_listV {Q : Flow → Shared → Prop} {l : Addr} {vs : List Value} (hh : A.handled = none) (hL : env.locals = L) (hl : s.heap.IsList l vs.toArray) (J : Nat → (Str → Option Value) → List (Addr × Obj) → Prop) {m₀ : Str → Option Value} {led₀ : List (Addr × Obj)}
    (F : Fr h₀ L s.heap m₀) (N : News h₀ L s.heap led₀) (hj : J 0 m₀ led₀)
    (turn : ∀ (I : Addr) (i : Nat) (h : Heap) (tk : Nat) (m : Str → Option Value) (led : List (Addr × Obj)) (oI : Obj) (v : Value), i < vs.length → vs[i]? = some v → J i m led → Fr h₀ L h m → News h₀ L h ((I, oI) :: led) → (∀ q ∈ led, q.1 ≠ I) →
      ∀ (Q' : Flow → Shared → Prop) (E' : Value → Shared → Prop), (∀ s₃, TurnEnd h₀ L I oI [l] (J (i + 1)) h s s₃ → Q' .next s₃) →
      wpAny (model prog w) A (storeName env x v) (fun _ s₂ => wpAny (model prog w) A (execs body env) Q' E' s₂) E' { s with heap := h, toks := tk })
    (done : ∀ (h : Heap) (tk : Nat) (m : Str → Option Value) (led : List (Addr × Obj)), J vs.length m led → Fr h₀ L h m → News h₀ L h led → Q .next { s with heap := h, toks := tk }) :
    ForAt prog w A env x px body Q E (.ref l) s :=
  for_listL hh hL hl J F N hj (fun I i h tk m led oI v hi hv hJ F' N' hne => turn I i h tk m led oI v hi hv hJ F' N' hne (fun f s₃ => match f with
          | .next | .cont => TurnEnd h₀ L I oI [l] (J (i + 1)) h s s₃
          | .brk => Q .next s₃
          | .ret v => Q (.ret v) s₃) (fun _ _ => False) fun _ h => h) done
theorem while_invV {Q : Flow → Shared → Prop} {test : Expr} {pos : Pos} (I : Nat → Shared → Prop)
    (turn : ∀ n s, I n s → ∀ (Q' : Flow → Shared → Prop), (∀ m s₃, m < n → I m s₃ → Q' .next s₃) →
      wpAny (model prog w) A (isTrue test env (eval test env)) (fun b s₂ => if b = true then wpAny (model prog w) A (execs body env) Q' (fun _ _ => False) s₂ else Q .next s₂) (fun _ _ => False) s)
    (n : Nat) (h : I n s) : wpAny (model prog w) A (exec (.While test body [] pos) env) Q E s :=
  while_inv I (fun n s h => turn n s h (fun f s₃ => match f with
            | .next | .cont => ∃ m, m < n ∧ I m s₃
            | .brk => Q .next s₃
            | .ret v => Q (.ret v) s₃) fun m _ h h' => ⟨m, h, h'⟩) n h
end
end
local macro_rules | `(tactic| walk_at $s:str) => `(tactic| k_extra $s)
section
theorem ln_WWord0 : True := by
  k_with_none
  k_with "my mk" => (first | (with_reducible rfl) | exact lit_e | exact lit_nl | exact lit_tab | exact lit_q | exact lit_qs | exact lit_bs)
  k_with "my len" => (((try simp only [List.length_append, List.length_cons, List.length_nil, List.length_map]); omega))
  k_with "my get" => (first | with_reducible assumption | rfl | ((repeat' (refine (if_neg (by decide)).trans ?_)); first | with_reducible assumption | rfl))
  k_with "eval Name" => ((k_here; k_dflt (first
  | (refine' nameX_L ?zF ?zv ?_ ?za ?zb; (case za => rfl); (case zb => rfl); (case zF => with_reducible assumption); (case zv => walk_at "my get"))
  | (refine' nmL ?zn ?zv ?_ ?zl ?za ?zb; (case za => rfl); (case zb => rfl); (case zl => rfl); (case zn => with_reducible assumption); (case zv => walk_at "my get"))
  | (refine' nmC ?zc ?zo ?zd ?_ ?za ?zb; (case za => rfl); (case zb => rfl); (case zc => rfl); (case zo => with_reducible assumption); (case zd => with_reducible assumption)))))
  k_with "binaryOp Add str str" => ((k_here; refine' add_mk ?za ?zb ?zl ?_; (case za => walk_at "my mk"); (case zb => walk_at "my mk"); (case zl => walk_at "my len"); intro _ _; (try dsimp only)))
  k_with "inplaceOp Add str str" => ((k_here; refine' iadd_mk ?za ?zb ?zl ?_; (case za => walk_at "my mk"); (case zb => walk_at "my mk"); (case zl => walk_at "my len"); intro _ _; (try dsimp only)))
  k_with "compareOp Eq str str" => ((k_here; refine' eq_mk ?za ?zb ?_; (case za => walk_at "my mk"); (case zb => walk_at "my mk")))
  k_with "compareOp NotEq str str" => ((k_here; refine' ne_mk ?za ?zb ?_; (case za => walk_at "my mk"); (case zb => walk_at "my mk")))
  k_with "eval ListComp" => ((k_here; k_dflt (refine' comp_open ?zc ?_ ?zk ?zn ?zs; (case zc => with_unfolding_all rfl); (case zk => rfl); (case zn => decide); (case zs => (intro _; rfl)))))
  k_with "my enter" => ((refine' enterP (by assumption) (TopRead.nolimit (by assumption)) ?zk8 ?zk6 ?zk7 ?zk9 ?zkB ?_ ?zc1 ?zc2 ?zc3 ?zc4; (case zk8 => (dsimp only); omega); (case zk6 => k_dflt k_is); (case zk7 => k_dflt k_is); (case zk9 => first | exact BindsTo.of_eq rfl | exact binds_K (by assumption) rfl (by k_dflt k_is) rfl rfl rfl | exact kp_binds (by assumption) (fun _ => by with_unfolding_all rfl)); (case zkB => exact locs rfl); (case zc1 => decide); (case zc2 => exact rfl); (case zc3 => exact rfl); (case zc4 => exact rfl)))
  k_with "my enterC" => ((refine' enterC (by assumption) (TopRead.nolimit (by assumption)) ?zk8 ?zk6 ?zk7 ?zk9 ?zkB ?zkD ?_ ?zc2 ?zc3 ?zc4; (case zk8 => (dsimp only); omega); (case zk6 => k_dflt k_is); (case zk7 => k_dflt k_is); (case zk9 => first | exact BindsTo.of_eq rfl | exact binds_K (by assumption) rfl (by k_dflt k_is) rfl rfl rfl | exact kp_binds (by assumption) (fun _ => by with_unfolding_all rfl)); (case zkB => exact rfl); (case zkD => decide +kernel); (case zc2 => exact rfl); (case zc3 => exact rfl); (case zc4 => exact rfl)))
  k_with "my run" => (repeat' (first | ((with_reducible show wpAny _ _ _ _ _ _); walk1) | ((with_reducible show (if _ = true then _ else _)); walk1) | ((with_reducible show Frag.In _ _ ∧ _); walk1) | (dsimp only; (with_reducible show wpAny _ _ _ _ _ _); walk1)))
  k_with "my list" => (first | assumption | exact stays_list (Fr.keep (by assumption)) (by assumption) | exact ⟨_, News.get (by assumption) (by k_mem), rfl, _, rfl⟩)
  k_with "call builtin:len" => ((k_here; (with_reducible show wpAny _ _ (call (Value.builtin "len") [Value.ref _]) _ _ _); k_dflt (refine' len_list ?zl ?zf ?_; (case zl => walk_at "my list"); (case zf => first | ((simp only [List.size_toArray]); omega)))))
  k_with "exec For Name Call cons nil" => ((k_here; k_dflt (refine' for_open ?_ ?zs; (case zs => (intro _; rfl)))))
  k_with "exec For Name Name cons nil" => ((k_here; k_dflt (refine' for_open ?_ ?zs; (case zs => (intro _; rfl)))))
  k_with "exec For" => ((k_here; k_dflt (refine' for_open ?_ ?zs; (case zs => (intro _; rfl)))))
  exact True.intro
set_option maxRecDepth 100000 in
set_option maxHeartbeats 8000000 in
theorem word_ctr (w : World) (x : Int) (t : Tok) (h0 : 0 ≤ x) : Ctr w 268 [.int x t] [] 1 8 (fun _ => True) (fun h v h' => h.StaysIn h' ∧ ∃ t, v = .str (mk (letters x.toNat)) t) := by
  w_on
  unfold Ctr
  dsimp only [KK, prog, Cx]
  k_fill
  intro p loose mg mb dp un gd fr s Q E X T hd hu hp hret
  refine' enterC (binds := [("mask", .int x t)]) X T.nolimit ?k8 ?k6 ?k7 ?k9 ?kB ?kD ?_ ?c2 ?c3 ?c4
  case k8 => ktr_room
  case k6 => k_dflt k_is
  case k7 => k_dflt k_is
  case k9 => exact BindsTo.of_eq rfl
  case kB => exact rfl
  case kD => decide +kernel
  case c2 => exact rfl
  case c3 => exact rfl
  case c4 => exact rfl
  intro L h₁ tk cells F N Y
  k_cells Y
  rename _ = Data.cell _ => hcell
  have hm : (N : _) = N := rfl
  have ho := N.get (.head _)
  replace hcell := hcell.trans (show _ = Data.cell (some (.int x t)) from rfl)
  w_strict (iterate 7 walk1)
  refine comp_open (cl := [("mask", L + 1)]) (by rfl) ?_
  w_strict (iterate 7 walk1)
  rename IsRange _ _ _ _ _ _ _ _ => hr
  rename News _ _ _ _ => N1
  rename Fr _ _ _ _ => F1
  have ho1 := N1.get (.head _)
  refine comp_range (n := 6) rfl hr (by decide) (fun v => (Builtin.bitAnd (x.fdiv (2 ^ (intOf v).toNat)) 1 != 0)) (fun v y => ∃ u, y = .str (mk ((fun v => [97 + (intOf v).toNat]) v)) u) ?_ ?_ ?_
  · rintro C i v s₃ m₃ E' ⟨hi, t', rfl⟩ hk hn hm
    refine wpAny_tests_one ?_
    have ho3 := hk _ _ ho1
    w_strict (iterate 9 walk1)
    exact ⟨rfl, _, _, rfl, fun _ _ e => e⟩
  · rintro C i v s₃ m₃ E' ⟨hi, t', rfl⟩ hp hk hn hm
    have ho3 := hk _ _ ho1
    w_strict (iterate 4 walk1)
    refine ⟨⟨s₃.toks + 1, ?_⟩, _, _, rfl, fun _ _ e => e⟩
    rw [item_meets ⟨by omega, by show (i : Int) < ((6 : Nat) : Int); omega⟩]
    have : ∀ i < 6, (⟨#[(Str.ofString "abcdef").cps.getD ((i : Nat) : Int).toNat 0]⟩ : Str) = mk [97 + ((i : Nat) : Int).toNat] := by decide +kernel
    exact congrArg (fun x => Value.str x (s₃.toks + 1)) (this i hi)
  · intro D C h' tk' m' ys vs hD hC hDC hnC hpl hlen hP hF hst
    refine cq_end hC hDC hnC hpl hst fun h'' hpl hst => ?_
    w_strict walk1
    have e1 : (vs.filter (fun v => (Builtin.bitAnd (x.fdiv (2 ^ (intOf v).toNat)) 1 != 0))).map (fun v => [97 + (intOf v).toNat]) = ((List.range 6).filter fun k => (Builtin.bitAnd (x.fdiv (2 ^ k)) 1 != 0)).map fun k => [97 + k] :=
      range_filter hlen hP (fun k => (Builtin.bitAnd (x.fdiv (2 ^ k)) 1 != 0)) (fun k => [97 + k])
    have e2 : ((vs.filter (fun v => (Builtin.bitAnd (x.fdiv (2 ^ (intOf v).toNat)) 1 != 0))).map (fun v => [97 + (intOf v).toNat])).flatten = letters x.toNat := by
      rw [e1, flatten_single]
      unfold letters
      rw [show (fun k => (Builtin.bitAnd (x.fdiv (2 ^ k)) 1 != 0)) = x.toNat.testBit from funext fun k => bit_is h0 k]
    have e3 : (letters x.toNat).length ≤ 6 := by
      unfold letters
      rw [List.length_map]
      exact Nat.le_trans (List.length_filter_le _ _) (by simp)
    refine join_paired (by rfl) hpl.isList hF (by rw [e2]; omega) fun t' k => ?_
    rw [e2]
    exact hret _ _ _ ⟨fun b o e => hst b o (F1.keep b o e), _, rfl⟩
end
section
theorem ln_WWritten0 : True := by
  k_with_none
  k_with "my mk" => (first | (with_reducible rfl) | exact lit_e | exact lit_nl | exact lit_tab | exact lit_q | exact lit_qs | exact lit_bs)
  k_with "my len" => (((try simp only [List.length_append, List.length_cons, List.length_nil, List.length_map]); omega))
  k_with "my get" => (first | with_reducible assumption | rfl | ((repeat' (refine (if_neg (by decide)).trans ?_)); first | with_reducible assumption | rfl))
  k_with "eval Name" => ((k_here; k_dflt (first
  | (refine' nameX_L ?zF ?zv ?_ ?za ?zb; (case za => rfl); (case zb => rfl); (case zF => with_reducible assumption); (case zv => walk_at "my get"))
  | (refine' nmL ?zn ?zv ?_ ?zl ?za ?zb; (case za => rfl); (case zb => rfl); (case zl => rfl); (case zn => with_reducible assumption); (case zv => walk_at "my get"))
  | (refine' nmC ?zc ?zo ?zd ?_ ?za ?zb; (case za => rfl); (case zb => rfl); (case zc => rfl); (case zo => with_reducible assumption); (case zd => with_reducible assumption)))))
  k_with "binaryOp Add str str" => ((k_here; refine' add_mk ?za ?zb ?zl ?_; (case za => walk_at "my mk"); (case zb => walk_at "my mk"); (case zl => walk_at "my len"); intro _ _; (try dsimp only)))
  k_with "inplaceOp Add str str" => ((k_here; refine' iadd_mk ?za ?zb ?zl ?_; (case za => walk_at "my mk"); (case zb => walk_at "my mk"); (case zl => walk_at "my len"); intro _ _; (try dsimp only)))
  k_with "compareOp Eq str str" => ((k_here; refine' eq_mk ?za ?zb ?_; (case za => walk_at "my mk"); (case zb => walk_at "my mk")))
  k_with "compareOp NotEq str str" => ((k_here; refine' ne_mk ?za ?zb ?_; (case za => walk_at "my mk"); (case zb => walk_at "my mk")))
  k_with "eval ListComp" => ((k_here; k_dflt (refine' comp_open ?zc ?_ ?zk ?zn ?zs; (case zc => with_unfolding_all rfl); (case zk => rfl); (case zn => decide); (case zs => (intro _; rfl)))))
  k_with "my enter" => ((refine' enterP (by assumption) (TopRead.nolimit (by assumption)) ?zk8 ?zk6 ?zk7 ?zk9 ?zkB ?_ ?zc1 ?zc2 ?zc3 ?zc4; (case zk8 => (dsimp only); omega); (case zk6 => k_dflt k_is); (case zk7 => k_dflt k_is); (case zk9 => first | exact BindsTo.of_eq rfl | exact binds_K (by assumption) rfl (by k_dflt k_is) rfl rfl rfl | exact kp_binds (by assumption) (fun _ => by with_unfolding_all rfl)); (case zkB => exact locs rfl); (case zc1 => decide); (case zc2 => exact rfl); (case zc3 => exact rfl); (case zc4 => exact rfl)))
  k_with "my enterC" => ((refine' enterC (by assumption) (TopRead.nolimit (by assumption)) ?zk8 ?zk6 ?zk7 ?zk9 ?zkB ?zkD ?_ ?zc2 ?zc3 ?zc4; (case zk8 => (dsimp only); omega); (case zk6 => k_dflt k_is); (case zk7 => k_dflt k_is); (case zk9 => first | exact BindsTo.of_eq rfl | exact binds_K (by assumption) rfl (by k_dflt k_is) rfl rfl rfl | exact kp_binds (by assumption) (fun _ => by with_unfolding_all rfl)); (case zkB => exact rfl); (case zkD => decide +kernel); (case zc2 => exact rfl); (case zc3 => exact rfl); (case zc4 => exact rfl)))
  k_with "my run" => (repeat' (first | ((with_reducible show wpAny _ _ _ _ _ _); walk1) | ((with_reducible show (if _ = true then _ else _)); walk1) | ((with_reducible show Frag.In _ _ ∧ _); walk1) | (dsimp only; (with_reducible show wpAny _ _ _ _ _ _); walk1)))
  k_with "my list" => (first | assumption | exact stays_list (Fr.keep (by assumption)) (by assumption) | exact ⟨_, News.get (by assumption) (by k_mem), rfl, _, rfl⟩)
  k_with "call builtin:len" => ((k_here; (with_reducible show wpAny _ _ (call (Value.builtin "len") [Value.ref _]) _ _ _); k_dflt (refine' len_list ?zl ?zf ?_; (case zl => walk_at "my list"); (case zf => first | ((simp only [List.size_toArray]); omega)))))
  k_with "exec For Name Call cons nil" => ((k_here; k_dflt (refine' for_open ?_ ?zs; (case zs => (intro _; rfl)))))
  k_with "exec For Name Name cons nil" => ((k_here; k_dflt (refine' for_open ?_ ?zs; (case zs => (intro _; rfl)))))
  k_with "exec For" => ((k_here; k_dflt (refine' for_open ?_ ?zs; (case zs => (intro _; rfl)))))
  k_with "call ref" => ((k_here; k_dflt (refine' Ctr.use (word_ctr _ _ _ ?zh0) ?zhR ?zF ?zX ?zN ?zT ?zd ?zu True.intro ?_; (case zhR => exact fun _ _ _ r => r.1); (case zF => k_asm); (case zX => k_asm); (case zN => k_asm); (case zT => k_asm); (case zd => (dsimp only); omega); (case zu => (dsimp only); omega); (case zh0 => first | assumption | omega); intro _ _ _ _ _ _ r9; obtain ⟨_, tv, e9⟩ := r9; subst e9; (try k_sweep))))
  exact True.intro
set_option maxRecDepth 100000 in
set_option maxHeartbeats 8000000 in
theorem written_ctr (w : World) (c : Nat) (t : Tok) : Ctr w 273 [.int c t] [] 2 16 (fun _ => True) (fun h v h' => h.StaysIn h' ∧ ∃ t, v = .str (mk (written c)) t) := by
  w_on
  unfold Ctr
  dsimp only [KK, prog, Cx]
  k_fill
  intro p loose mg mb dp un gd fr s Q E X T hd hu hp hret
  refine' enterP (binds := [("cell", .int c t)]) X T.nolimit ?k8 ?k6 ?k7 ?k9 ?kB ?_ ?c1 ?c2 ?c3 ?c4
  case k8 => (dsimp only); omega
  case k6 => k_dflt k_is
  case k7 => k_dflt k_is
  case k9 => exact BindsTo.of_eq rfl
  case kB => exact locs rfl
  case c1 => decide
  case c2 => exact rfl
  case c3 => exact rfl
  case c4 => exact rfl
  intro L h₁ tk F N
  have hf : 0 ≤ (c : Int).fmod 64 := Int.fmod_nonneg_of_pos _ (by decide)
  w_strict (iterate 15 walk1)
  rename Fr _ _ _ _ => F1
  rename News _ _ _ _ => N1
  have e64 : ((c : Int).fmod 64).toNat = c % 64 := by rw [show ((64 : Int)) = ((64 : Nat) : Int) from rfl, fmod_nat]; rfl
  rw [e64] at F1
  have hl6 := letters_len (c % 64)
  refine cut (fun s' => ∃ h' tk' tv m, s' = { s with heap := h', toks := tk' } ∧ Fr s.heap L h' m ∧ News s.heap L h' [] ∧ m "cell" = some (.int c t) ∧ m "word" = some (.str (mk (cased c)) tv)) ?_ ?_
  · w_strict (iterate 12 walk1)
    rw [show ((c : Int).fdiv 192).fmod 2 = ((c / 192 % 2 : Nat) : Int) from by rw [show (192 : Int) = ((192 : Nat) : Int) from rfl, show (2 : Int) = ((2 : Nat) : Int) from rfl, fdiv_nat, fmod_nat]]
    refine split_bool (fun hc => ?_) (fun hc => ?_)
    · w_strict (iterate 7 walk1)
      dsimp only
      refine upper_call (a := letters (c % 64)) rfl (fun c hc => letters_low hc) (by omega) fun t' k' => ?_
      w_strict (iterate 3 walk1)
      rename Fr _ _ _ _ => F2
      rename News _ _ _ _ => N2
      refine ⟨rfl, _, _, t', _, rfl, F2, N2, rfl, ?_⟩
      have e1 : c / 192 % 2 = 1 := by have := of_decide_eq_true hc; omega
      have : (letters (c % 64)).map (· - 32) = cased c := by unfold cased; rw [if_pos e1]
      rw [← this]
      rfl
    · w_strict (iterate 2 walk1)
      have e1 : ¬ c / 192 % 2 = 1 := by have := of_decide_eq_false hc; omega
      have : letters (c % 64) = cased c := by unfold cased; rw [if_neg e1]
      rw [this] at F1
      exact ⟨rfl, _, _, _, _, rfl, F1, N1, rfl, rfl⟩
  · rintro s' ⟨h', tk', tv, m, rfl, F2, N2, hc, hw⟩
    clear N1 F1
    have hl := cased_len c
    have e3 : ((c : Int).fdiv 64).fmod 3 = ((c / 64 % 3 : Nat) : Int) := by rw [show (64 : Int) = ((64 : Nat) : Int) from rfl, show (3 : Int) = ((3 : Nat) : Int) from rfl, fdiv_nat, fmod_nat]
    w_strict (repeat' walk1)
    · rename ((_ : Int).fmod 3 = 1) => q1
      refine hret _ _ _ ⟨Fr.keep (by assumption), _, congrArg (fun l => Value.str (mk l) _) (?_ : _ = written c)⟩
      have : c / 64 % 3 = 1 := by omega
      unfold written
      rw [if_pos (.inl this)]
      rfl
    · rename (decide (cased c = []) = true) => q1
      refine hret _ _ _ ⟨Fr.keep (by assumption), _, congrArg (fun l => Value.str (mk l) _) (?_ : _ = written c)⟩
      unfold written
      rw [if_pos (.inr (of_decide_eq_true q1))]
      rfl
    · rename ((_ : Int).fmod 3 ≠ 1) => q1
      rename (decide (cased c = []) = false) => q2
      rename ((_ : Int).fmod 3 = 0) => q3
      refine hret _ _ _ ⟨Fr.keep (by assumption), _, congrArg (fun l => Value.str (mk l) _) (?_ : _ = written c)⟩
      unfold written
      have q2' := of_decide_eq_false q2
      rw [if_neg (by rintro (h | h); (· omega); (· exact q2' h)), if_pos (by omega)]
    · rename ((_ : Int).fmod 3 ≠ 1) => q1
      rename (decide (cased c = []) = false) => q2
      rename ((_ : Int).fmod 3 ≠ 0) => q3
      have q2' := of_decide_eq_false q2
      rename Fr _ _ _ _ => F3
      refine comp_str rfl (by rw [sizeLine_eq]; show (mk (cased c)).length ≤ _; rw [mk_len]; omega) (fun _ => true) (fun v y => ∃ u, y = .str (mk ((fun v => 92 :: (strOf v).cps.toList) v)) u) ?_ ?_ ?_
      · intro C i v s₃ m₃ E' hv hk hn hm
        exact wpAny_tests_nil ⟨rfl, _, _, rfl, fun _ _ e => e⟩
      · rintro C i v s₃ m₃ E' ⟨ch, u, hch, rfl⟩ hp hk hn hm
        have hv : m₃ "sign" = some (.str (mk [ch]) u) := hm
        w_strict (repeat' walk1)
        exact ⟨_, _, rfl, fun _ _ e => e⟩
      · intro D C h' tk' m' ys vs hD hC hDC hnC hpl hlen hP hF hst
        refine cq_end hC hDC hnC hpl hst fun h'' hpl hst => ?_
        w_strict walk1
        have e1 : ((vs.filter (fun _ => true)).map fun v => 92 :: (strOf v).cps.toList) = (cased c).map fun s => [92, s] := by
          rw [List.filter_eq_self.mpr (fun _ _ => rfl)]
          exact sign_map hlen hP fun l => 92 :: l
        refine join_paired lit_e hpl.isList hF ?_ fun t' k => ?_
        · rw [e1, flatten_two_len]; omega
        · rw [e1]
          have h2 := flatten_two_len (cased c)
          w_strict (iterate 2 walk1)
          refine hret _ _ _ ⟨fun b o e => hst b o (F3.keep b o e), _, congrArg (fun l => Value.str (mk l) _) (?_ : _ = written c)⟩
          unfold written
          rw [if_neg (by rintro (h | h); (· omega); (· exact q2' h)), if_neg (by omega)]
end
section
theorem ln_WBisect0 : True := by
  k_with_none
  k_with "my mk" => (first | (with_reducible rfl) | exact lit_e | exact lit_nl | exact lit_tab | exact lit_q | exact lit_qs | exact lit_bs)
  k_with "my len" => (((try simp only [List.length_append, List.length_cons, List.length_nil, List.length_map]); omega))
  k_with "my get" => (first | with_reducible assumption | rfl | ((repeat' (refine (if_neg (by decide)).trans ?_)); first | with_reducible assumption | rfl))
  k_with "eval Name" => ((k_here; k_dflt (first
  | (refine' nameX_L ?zF ?zv ?_ ?za ?zb; (case za => rfl); (case zb => rfl); (case zF => with_reducible assumption); (case zv => walk_at "my get"))
  | (refine' nmL ?zn ?zv ?_ ?zl ?za ?zb; (case za => rfl); (case zb => rfl); (case zl => rfl); (case zn => with_reducible assumption); (case zv => walk_at "my get"))
  | (refine' nmC ?zc ?zo ?zd ?_ ?za ?zb; (case za => rfl); (case zb => rfl); (case zc => rfl); (case zo => with_reducible assumption); (case zd => with_reducible assumption)))))
  k_with "binaryOp Add str str" => ((k_here; refine' add_mk ?za ?zb ?zl ?_; (case za => walk_at "my mk"); (case zb => walk_at "my mk"); (case zl => walk_at "my len"); intro _ _; (try dsimp only)))
  k_with "inplaceOp Add str str" => ((k_here; refine' iadd_mk ?za ?zb ?zl ?_; (case za => walk_at "my mk"); (case zb => walk_at "my mk"); (case zl => walk_at "my len"); intro _ _; (try dsimp only)))
  k_with "compareOp Eq str str" => ((k_here; refine' eq_mk ?za ?zb ?_; (case za => walk_at "my mk"); (case zb => walk_at "my mk")))
  k_with "compareOp NotEq str str" => ((k_here; refine' ne_mk ?za ?zb ?_; (case za => walk_at "my mk"); (case zb => walk_at "my mk")))
  k_with "eval ListComp" => ((k_here; k_dflt (refine' comp_open ?zc ?_ ?zk ?zn ?zs; (case zc => with_unfolding_all rfl); (case zk => rfl); (case zn => decide); (case zs => (intro _; rfl)))))
  k_with "my enter" => ((refine' enterP (by assumption) (TopRead.nolimit (by assumption)) ?zk8 ?zk6 ?zk7 ?zk9 ?zkB ?_ ?zc1 ?zc2 ?zc3 ?zc4; (case zk8 => (dsimp only); omega); (case zk6 => k_dflt k_is); (case zk7 => k_dflt k_is); (case zk9 => first | exact BindsTo.of_eq rfl | exact binds_K (by assumption) rfl (by k_dflt k_is) rfl rfl rfl | exact kp_binds (by assumption) (fun _ => by with_unfolding_all rfl)); (case zkB => exact locs rfl); (case zc1 => decide); (case zc2 => exact rfl); (case zc3 => exact rfl); (case zc4 => exact rfl)))
  k_with "my enterC" => ((refine' enterC (by assumption) (TopRead.nolimit (by assumption)) ?zk8 ?zk6 ?zk7 ?zk9 ?zkB ?zkD ?_ ?zc2 ?zc3 ?zc4; (case zk8 => (dsimp only); omega); (case zk6 => k_dflt k_is); (case zk7 => k_dflt k_is); (case zk9 => first | exact BindsTo.of_eq rfl | exact binds_K (by assumption) rfl (by k_dflt k_is) rfl rfl rfl | exact kp_binds (by assumption) (fun _ => by with_unfolding_all rfl)); (case zkB => exact rfl); (case zkD => decide +kernel); (case zc2 => exact rfl); (case zc3 => exact rfl); (case zc4 => exact rfl)))
  k_with "my run" => (repeat' (first | ((with_reducible show wpAny _ _ _ _ _ _); walk1) | ((with_reducible show (if _ = true then _ else _)); walk1) | ((with_reducible show Frag.In _ _ ∧ _); walk1) | (dsimp only; (with_reducible show wpAny _ _ _ _ _ _); walk1)))
  k_with "my list" => (first | assumption | exact stays_list (Fr.keep (by assumption)) (by assumption) | exact ⟨_, News.get (by assumption) (by k_mem), rfl, _, rfl⟩)
  k_with "call builtin:len" => ((k_here; (with_reducible show wpAny _ _ (call (Value.builtin "len") [Value.ref _]) _ _ _); k_dflt (refine' len_list ?zl ?zf ?_; (case zl => walk_at "my list"); (case zf => first | ((simp only [List.size_toArray]); omega)))))
  k_with "exec For Name Call cons nil" => ((k_here; k_dflt (refine' for_open ?_ ?zs; (case zs => (intro _; rfl)))))
  k_with "exec For Name Name cons nil" => ((k_here; k_dflt (refine' for_open ?_ ?zs; (case zs => (intro _; rfl)))))
  k_with "exec For" => ((k_here; k_dflt (refine' for_open ?_ ?zs; (case zs => (intro _; rfl)))))
  k_with "compareOp Lt str str" => ((k_here; refine' lt_mk ?za ?zb ?_; (case za => walk_at "my mk"); (case zb => walk_at "my mk")))
  exact True.intro
/-- where bisect's loop stands -/
inductive BisI (h₀ : Heap) (L r : Addr) (x : List Nat) (t : Tok) (ws : List (List Nat)) (s : Shared) (n : Nat) (s' : Shared) : Prop
  | mk (h' : Heap) (tk' : Nat) (m : Str → Option Value) (lo hi : Nat) (tl : Tok) (e : s' = { s with heap := h', toks := tk' }) (F : Fr h₀ L h' m) (N : News h₀ L h' []) (ma : m "a" = some (.ref r)) (mx : m "x" = some (.str (Mine.mk x) t)) (ml : m "lo" = some (.int lo tl)) (mh : ∃ th, m "hi" = some (.int hi th))
      (h1 : lo ≤ hi) (h2 : hi ≤ ws.length) (h3 : ∀ i y, i < lo → ws[i]? = some y → y < x) (h4 : ∀ i y, hi ≤ i → ws[i]? = some y → ¬ y < x) (en : n = hi - lo) : BisI h₀ L r x t ws s n s'
theorem bis_mid (lo hi : Nat) : (((lo : Int) + (hi : Int)).fdiv 2) = (((lo + hi) / 2 : Nat) : Int) := by
  rw [show (lo : Int) + (hi : Int) = ((lo + hi : Nat) : Int) from by push_cast; rfl, show (2 : Int) = ((2 : Nat) : Int) from rfl, fdiv_nat]
theorem bis_up {ws : List (List Nat)} {x : List Nat} {mid : Nat} (hsort : ws.Pairwise (· < ·)) (hmw : mid < ws.length) (hy : ws[mid] < x) : ∀ i y, i < mid + 1 → ws[i]? = some y → y < x := fun i y hi e => by
  by_cases q : i = mid
  · subst q
    rw [List.getElem?_eq_getElem hmw] at e
    exact Option.some.inj e ▸ hy
  · exact List.lt_trans (sorted_get hsort (by omega) e (List.getElem?_eq_getElem hmw)) hy
theorem bis_dn {ws : List (List Nat)} {x : List Nat} {mid : Nat} (hsort : ws.Pairwise (· < ·)) (hmw : mid < ws.length) (hy : ¬ ws[mid] < x) : ∀ i y, mid ≤ i → ws[i]? = some y → ¬ y < x := fun i y hi e hlt' => by
  by_cases q : i = mid
  · subst q
    rw [List.getElem?_eq_getElem hmw] at e
    exact hy (Option.some.inj e ▸ hlt')
  · exact hy (List.lt_trans (sorted_get hsort (by omega) (List.getElem?_eq_getElem hmw) e) hlt')
set_option maxRecDepth 100000 in
set_option maxHeartbeats 8000000 in
theorem bisect_ctr (w : World) (r : Addr) (vs : List Value) (ws : List (List Nat)) (x : List Nat) (t : Tok) (args : List Value) (hargs : args = [.ref r, .str (mk x) t] ∨ ∃ t2, args = [.ref r, .str (mk x) t, .int 0 t2, .none])
    (hs : Txts vs ws) (hsort : ws.Pairwise (· < ·)) (hlen : ws.length ≤ 1000000) :
    Ctr w 70 args [] 1 8 (fun h => h.IsList r vs.toArray) (fun h v h' => h.StaysIn h' ∧ ∃ p t, v = .int ((p : Nat) : Int) t ∧ Place ws x p) := by
  w_on
  unfold Ctr
  dsimp only [KK, prog, Cx]
  k_fill
  intro p loose mg mb dp un gd fr s Q E X T hd hu hp hret
  have hvl := hs.length
  refine (fun (main : ∀ (tl : Tok) (L : Addr) (h₁ : Heap) (tk0 : Nat), Fr s.heap L h₁ (mOf [("a", .ref r), ("x", .str (mk x) t), ("lo", .int 0 tl), ("hi", .none), ("key", .none)]) → News s.heap L h₁ [] →
      wpAny (model prog w) ((?A : Addr → Around) L) (execs ?body ((?env : Addr → Env) L)) ?Q ?E { s with heap := h₁, toks := tk0 }) => ?use) ?main
  case use =>
    rcases hargs with rfl | ⟨t2, rfl⟩
    all_goals walk_at "my enter"
    all_goals intro L h₁ tk0 F N
    · exact main 330 L h₁ tk0 (Fr_map F (fun _ => rfl)) N
    · exact main t2 L h₁ tk0 (Fr_map F (fun _ => rfl)) N
  intro tl L h₁ tk0 F N
  have hl1 := stays_list F.keep hp
  w_strict (iterate 26 walk1)
  refine len_list (items := vs.toArray) hl1 (by rw [List.size_toArray]; omega) ?_
  w_strict (iterate 12 walk1)
  rename Fr _ _ _ _ => F1
  rename News _ _ _ _ => N1
  refine while_invV (BisI s.heap L r x t ws s) ?_ (ws.length - 0)
    ⟨_, _, _, 0, ws.length, _, rfl, F1, N1, rfl, rfl, rfl, ?_, Nat.zero_le _, Nat.le_refl _, fun i y h => absurd h (Nat.not_lt_zero _), fun i y hi e => ?_, rfl⟩
  · rintro n s' ⟨h', tk', m, lo, hi, tl, rfl, F2, N2, ma, mx, ml, ⟨th, mh⟩, h1, h2, h3, h4, rfl⟩ Q2 hq2
    clear F1 N1
    have hl2 := stays_list F2.keep hp
    w_strict (iterate 6 walk1)
    · rename ((lo : Int) < (hi : Int)) => hlt
      w_strict (iterate 16 walk1)
      rename Fr _ _ _ _ => F3
      rw [bis_mid] at F3 ⊢
      generalize hmd : (lo + hi) / 2 = mid at F3 ⊢
      have hmw : mid < ws.length := by omega
      obtain ⟨v, hv, tv, rfl⟩ := Paired.get hs (List.getElem?_eq_getElem hmw)
      refine item_list (stays_list F3.keep hp) (by omega) (by omega) (by rw [List.getElem?_toArray, Int.toNat_natCast]; exact hv) ?_
      w_strict (iterate 5 walk1)
      · rename ((_ : List Nat) < x) => hy
        w_strict (walk_at "my run")
        rename Fr _ _ _ _ => F4
        rename News _ _ _ _ => N4
        exact hq2 (hi - (mid + 1)) _ (by omega) ⟨_, _, _, mid + 1, hi, _, rfl, F4, N4, by walk_at "my get", by walk_at "my get", if_pos rfl, ⟨th, by walk_at "my get"⟩, by omega, h2, bis_up hsort hmw hy, h4, rfl⟩
      · rename (¬ (_ : List Nat) < x) => hy
        w_strict (walk_at "my run")
        rename Fr _ _ _ _ => F4
        rename News _ _ _ _ => N4
        exact hq2 (mid - lo) _ (by omega) ⟨_, _, _, lo, mid, _, rfl, F4, N4, by walk_at "my get", by walk_at "my get", by walk_at "my get", ⟨_, if_pos rfl⟩, by omega, by omega, h3, bis_dn hsort hmw hy, rfl⟩
    · rename (¬ (lo : Int) < (hi : Int)) => hlt
      w_strict (iterate 4 walk1)
      have hll : lo = hi := by omega
      exact hret _ _ _ ⟨F2.keep, lo, _, rfl, h2 |> Nat.le_trans h1, h3, hll ▸ h4⟩
  · rw [← hvl, ← List.size_toArray]
    exact ⟨_, rfl⟩
  · rw [List.getElem?_eq_none hi] at e; cases e
theorem bisect_ctr2 (w : World) (r : Addr) (vs : List Value) (ws : List (List Nat)) (x : List Nat) (t : Tok) (hs : Txts vs ws) (hsort : ws.Pairwise (· < ·)) (hlen : ws.length ≤ 1000000) :
    Ctr w 70 [.ref r, .str (mk x) t] [] 1 8 (fun h => h.IsList r vs.toArray) (fun h v h' => h.StaysIn h' ∧ ∃ p t, v = .int ((p : Nat) : Int) t ∧ Place ws x p) := bisect_ctr w r vs ws x t _ (.inl rfl) hs hsort hlen
theorem bisect_ctr4 (w : World) (r : Addr) (vs : List Value) (ws : List (List Nat)) (x : List Nat) (t t2 : Tok) (hs : Txts vs ws) (hsort : ws.Pairwise (· < ·)) (hlen : ws.length ≤ 1000000) :
    Ctr w 70 [.ref r, .str (mk x) t, .int 0 t2, .none] [] 1 8 (fun h => h.IsList r vs.toArray) (fun h v h' => h.StaysIn h' ∧ ∃ p t, v = .int ((p : Nat) : Int) t ∧ Place ws x p) := bisect_ctr w r vs ws x t _ (.inr ⟨_, rfl⟩) hs hsort hlen
end
section
theorem ln_WInsort0 : True := by
  k_with_none
  k_with "my mk" => (first | (with_reducible rfl) | exact lit_e | exact lit_nl | exact lit_tab | exact lit_q | exact lit_qs | exact lit_bs)
  k_with "my len" => (((try simp only [List.length_append, List.length_cons, List.length_nil, List.length_map]); omega))
  k_with "my get" => (first | with_reducible assumption | rfl | ((repeat' (refine (if_neg (by decide)).trans ?_)); first | with_reducible assumption | rfl))
  k_with "eval Name" => ((k_here; k_dflt (first
  | (refine' nameX_L ?zF ?zv ?_ ?za ?zb; (case za => rfl); (case zb => rfl); (case zF => with_reducible assumption); (case zv => walk_at "my get"))
  | (refine' nmL ?zn ?zv ?_ ?zl ?za ?zb; (case za => rfl); (case zb => rfl); (case zl => rfl); (case zn => with_reducible assumption); (case zv => walk_at "my get"))
  | (refine' nmC ?zc ?zo ?zd ?_ ?za ?zb; (case za => rfl); (case zb => rfl); (case zc => rfl); (case zo => with_reducible assumption); (case zd => with_reducible assumption)))))
  k_with "binaryOp Add str str" => ((k_here; refine' add_mk ?za ?zb ?zl ?_; (case za => walk_at "my mk"); (case zb => walk_at "my mk"); (case zl => walk_at "my len"); intro _ _; (try dsimp only)))
  k_with "inplaceOp Add str str" => ((k_here; refine' iadd_mk ?za ?zb ?zl ?_; (case za => walk_at "my mk"); (case zb => walk_at "my mk"); (case zl => walk_at "my len"); intro _ _; (try dsimp only)))
  k_with "compareOp Eq str str" => ((k_here; refine' eq_mk ?za ?zb ?_; (case za => walk_at "my mk"); (case zb => walk_at "my mk")))
  k_with "compareOp NotEq str str" => ((k_here; refine' ne_mk ?za ?zb ?_; (case za => walk_at "my mk"); (case zb => walk_at "my mk")))
  k_with "eval ListComp" => ((k_here; k_dflt (refine' comp_open ?zc ?_ ?zk ?zn ?zs; (case zc => with_unfolding_all rfl); (case zk => rfl); (case zn => decide); (case zs => (intro _; rfl)))))
  k_with "my enter" => ((refine' enterP (by assumption) (TopRead.nolimit (by assumption)) ?zk8 ?zk6 ?zk7 ?zk9 ?zkB ?_ ?zc1 ?zc2 ?zc3 ?zc4; (case zk8 => (dsimp only); omega); (case zk6 => k_dflt k_is); (case zk7 => k_dflt k_is); (case zk9 => first | exact BindsTo.of_eq rfl | exact binds_K (by assumption) rfl (by k_dflt k_is) rfl rfl rfl | exact kp_binds (by assumption) (fun _ => by with_unfolding_all rfl)); (case zkB => exact locs rfl); (case zc1 => decide); (case zc2 => exact rfl); (case zc3 => exact rfl); (case zc4 => exact rfl)))
  k_with "my enterC" => ((refine' enterC (by assumption) (TopRead.nolimit (by assumption)) ?zk8 ?zk6 ?zk7 ?zk9 ?zkB ?zkD ?_ ?zc2 ?zc3 ?zc4; (case zk8 => (dsimp only); omega); (case zk6 => k_dflt k_is); (case zk7 => k_dflt k_is); (case zk9 => first | exact BindsTo.of_eq rfl | exact binds_K (by assumption) rfl (by k_dflt k_is) rfl rfl rfl | exact kp_binds (by assumption) (fun _ => by with_unfolding_all rfl)); (case zkB => exact rfl); (case zkD => decide +kernel); (case zc2 => exact rfl); (case zc3 => exact rfl); (case zc4 => exact rfl)))
  k_with "my run" => (repeat' (first | ((with_reducible show wpAny _ _ _ _ _ _); walk1) | ((with_reducible show (if _ = true then _ else _)); walk1) | ((with_reducible show Frag.In _ _ ∧ _); walk1) | (dsimp only; (with_reducible show wpAny _ _ _ _ _ _); walk1)))
  k_with "my list" => (first | assumption | exact stays_list (Fr.keep (by assumption)) (by assumption) | exact ⟨_, News.get (by assumption) (by k_mem), rfl, _, rfl⟩)
  k_with "call builtin:len" => ((k_here; (with_reducible show wpAny _ _ (call (Value.builtin "len") [Value.ref _]) _ _ _); k_dflt (refine' len_list ?zl ?zf ?_; (case zl => walk_at "my list"); (case zf => first | ((simp only [List.size_toArray]); omega)))))
  k_with "exec For Name Call cons nil" => ((k_here; k_dflt (refine' for_open ?_ ?zs; (case zs => (intro _; rfl)))))
  k_with "exec For Name Name cons nil" => ((k_here; k_dflt (refine' for_open ?_ ?zs; (case zs => (intro _; rfl)))))
  k_with "exec For" => ((k_here; k_dflt (refine' for_open ?_ ?zs; (case zs => (intro _; rfl)))))
  k_with "my enterM" => ((refine' enterM (by assumption) (by assumption) (by assumption) (by assumption) (by assumption) ?zk8 ?zk6 ?zk7 ?zk9 ?zkB ?_ ?zc1 ?zc2 ?zc3 ?zc4; (case zk8 => (dsimp only); omega); (case zk6 => k_dflt k_is); (case zk7 => k_dflt k_is); (case zk9 => first | exact BindsTo.of_eq rfl | exact binds_K (Frag.In.keeps (by assumption) (by assumption)) rfl (by k_dflt k_is) rfl rfl rfl | exact kp_binds (Frag.In.keeps (by assumption) (by assumption)) (fun _ => by with_unfolding_all rfl)); (case zkB => exact locs rfl); (case zc1 => decide); (case zc2 => exact rfl); (case zc3 => exact rfl); (case zc4 => exact rfl)))
  k_with "call ref" => ((k_here; k_dflt (refine' Ctr.use (bisect_ctr4 _ _ _ _ _ _ _ (by assumption) (by assumption) (by assumption)) ?zhR ?zF ?zX ?zN ?zT ?zd ?zu ?zpr ?_; (case zhR => exact fun _ _ _ r => r.1); (case zF => k_asm); (case zX => k_asm); (case zN => k_asm); (case zT => k_asm); (case zd => (dsimp only); omega); (case zu => (dsimp only); omega); (case zpr => exact ⟨_, News.get (by k_asm) (.head _), rfl, _, rfl⟩); intro _ _ _ _ _ _ r9; obtain ⟨_, p9, tv, e9, hpl⟩ := r9; subst e9; (try k_sweep))))
  exact True.intro
set_option maxRecDepth 100000 in
set_option maxHeartbeats 8000000 in
theorem insort_ctr (w : World) (r : Addr) (vs : List Value) (n : Nat) (ws : List (List Nat)) (x : List Nat) (t : Tok)
    (hs : Txts vs ws) (hsort : ws.Pairwise (· < ·)) (hlen : ws.length ≤ 1000000) :
    CtrM w 61 [.ref r, .str (mk x) t] [] 2 16 r (listOf vs.toArray n) (fun _ _ o' => ∃ p, Place ws x p ∧ o' = listOf (vs.take p ++ .str (mk x) t :: vs.drop p).toArray (n + 1)) := by
  w_on
  unfold CtrM
  dsimp only [KK, prog, Cx]
  k_fill
  intro p loose mg mb dp un gd fr g s Q E X T st hg hr hd hu hret
  have hvl := hs.length
  walk_at "my enterM"
  intro L h₁ tk0 F N X T
  replace F := Fr_map (m' := mOf [("a", .ref r), ("x", .str (mk x) t), ("lo", .int 0 317), ("hi", .none), ("key", .none)]) F (fun _ => rfl)
  w_strict (walk_at "my run")
  rename Fr _ _ _ _ => F2
  rename News _ _ _ _ => N2
  have hp1 : p9 ≤ vs.length := by rw [hvl]; exact hpl.1
  have e : kl_ins vs (p9 : Int) (.str (mk x) t) = vs.take p9 ++ .str (mk x) t :: vs.drop p9 := by
    unfold kl_ins
    rw [if_neg (by omega), Int.toNat_natCast, Nat.min_eq_left hp1]
  refine kl_insert (its := vs.toArray) F2 N2 ?_ e (Upd.head (fun _ h => nomatch h)) (by rw [List.toList_toArray, sizeLine_eq]; omega) fun h' F3 N3 => ?_
  · unfold Builtin.List.listFitsIndex
    rw [decide_eq_true (by omega), decide_eq_true (by omega)]
    rfl
  · w_strict (walk_at "my run")
    exact hret _ _ _ _ (buts_of F3) (N3.get (.head _)) ⟨p9, hpl, rfl⟩
end
section
theorem ln_WLayIn0 : True := by
  k_with_none
  k_with "my mk" => (first | (with_reducible rfl) | exact lit_e | exact lit_nl | exact lit_tab | exact lit_q | exact lit_qs | exact lit_bs)
  k_with "my len" => (((try simp only [List.length_append, List.length_cons, List.length_nil, List.length_map]); omega))
  k_with "my get" => (first | with_reducible assumption | rfl | ((repeat' (refine (if_neg (by decide)).trans ?_)); first | with_reducible assumption | rfl))
  k_with "eval Name" => ((k_here; k_dflt (first
  | (refine' nameX_L ?zF ?zv ?_ ?za ?zb; (case za => rfl); (case zb => rfl); (case zF => with_reducible assumption); (case zv => walk_at "my get"))
  | (refine' nmL ?zn ?zv ?_ ?zl ?za ?zb; (case za => rfl); (case zb => rfl); (case zl => rfl); (case zn => with_reducible assumption); (case zv => walk_at "my get"))
  | (refine' nmC ?zc ?zo ?zd ?_ ?za ?zb; (case za => rfl); (case zb => rfl); (case zc => rfl); (case zo => with_reducible assumption); (case zd => with_reducible assumption)))))
  k_with "binaryOp Add str str" => ((k_here; refine' add_mk ?za ?zb ?zl ?_; (case za => walk_at "my mk"); (case zb => walk_at "my mk"); (case zl => walk_at "my len"); intro _ _; (try dsimp only)))
  k_with "inplaceOp Add str str" => ((k_here; refine' iadd_mk ?za ?zb ?zl ?_; (case za => walk_at "my mk"); (case zb => walk_at "my mk"); (case zl => walk_at "my len"); intro _ _; (try dsimp only)))
  k_with "compareOp Eq str str" => ((k_here; refine' eq_mk ?za ?zb ?_; (case za => walk_at "my mk"); (case zb => walk_at "my mk")))
  k_with "compareOp NotEq str str" => ((k_here; refine' ne_mk ?za ?zb ?_; (case za => walk_at "my mk"); (case zb => walk_at "my mk")))
  k_with "eval ListComp" => ((k_here; k_dflt (refine' comp_open ?zc ?_ ?zk ?zn ?zs; (case zc => with_unfolding_all rfl); (case zk => rfl); (case zn => decide); (case zs => (intro _; rfl)))))
  k_with "my enter" => ((refine' enterP (by assumption) (TopRead.nolimit (by assumption)) ?zk8 ?zk6 ?zk7 ?zk9 ?zkB ?_ ?zc1 ?zc2 ?zc3 ?zc4; (case zk8 => (dsimp only); omega); (case zk6 => k_dflt k_is); (case zk7 => k_dflt k_is); (case zk9 => first | exact BindsTo.of_eq rfl | exact binds_K (by assumption) rfl (by k_dflt k_is) rfl rfl rfl | exact kp_binds (by assumption) (fun _ => by with_unfolding_all rfl)); (case zkB => exact locs rfl); (case zc1 => decide); (case zc2 => exact rfl); (case zc3 => exact rfl); (case zc4 => exact rfl)))
  k_with "my enterC" => ((refine' enterC (by assumption) (TopRead.nolimit (by assumption)) ?zk8 ?zk6 ?zk7 ?zk9 ?zkB ?zkD ?_ ?zc2 ?zc3 ?zc4; (case zk8 => (dsimp only); omega); (case zk6 => k_dflt k_is); (case zk7 => k_dflt k_is); (case zk9 => first | exact BindsTo.of_eq rfl | exact binds_K (by assumption) rfl (by k_dflt k_is) rfl rfl rfl | exact kp_binds (by assumption) (fun _ => by with_unfolding_all rfl)); (case zkB => exact rfl); (case zkD => decide +kernel); (case zc2 => exact rfl); (case zc3 => exact rfl); (case zc4 => exact rfl)))
  k_with "my run" => (repeat' (first | ((with_reducible show wpAny _ _ _ _ _ _); walk1) | ((with_reducible show (if _ = true then _ else _)); walk1) | ((with_reducible show Frag.In _ _ ∧ _); walk1) | (dsimp only; (with_reducible show wpAny _ _ _ _ _ _); walk1)))
  k_with "my list" => (first | assumption | exact stays_list (Fr.keep (by assumption)) (by assumption) | exact ⟨_, News.get (by assumption) (by k_mem), rfl, _, rfl⟩)
  k_with "call builtin:len" => ((k_here; (with_reducible show wpAny _ _ (call (Value.builtin "len") [Value.ref _]) _ _ _); k_dflt (refine' len_list ?zl ?zf ?_; (case zl => walk_at "my list"); (case zf => first | ((simp only [List.size_toArray]); omega)))))
  k_with "exec For Name Call cons nil" => ((k_here; k_dflt (refine' for_open ?_ ?zs; (case zs => (intro _; rfl)))))
  k_with "exec For Name Name cons nil" => ((k_here; k_dflt (refine' for_open ?_ ?zs; (case zs => (intro _; rfl)))))
  k_with "exec For" => ((k_here; k_dflt (refine' for_open ?_ ?zs; (case zs => (intro _; rfl)))))
  k_with "my enterM" => ((refine' enterM (by assumption) (by assumption) (by assumption) (by assumption) (by assumption) ?zk8 ?zk6 ?zk7 ?zk9 ?zkB ?_ ?zc1 ?zc2 ?zc3 ?zc4; (case zk8 => (dsimp only); omega); (case zk6 => k_dflt k_is); (case zk7 => k_dflt k_is); (case zk9 => first | exact BindsTo.of_eq rfl | exact binds_K (Frag.In.keeps (by assumption) (by assumption)) rfl (by k_dflt k_is) rfl rfl rfl | exact kp_binds (Frag.In.keeps (by assumption) (by assumption)) (fun _ => by with_unfolding_all rfl)); (case zkB => exact locs rfl); (case zc1 => decide); (case zc2 => exact rfl); (case zc3 => exact rfl); (case zc4 => exact rfl)))
  k_with "call ref" => ((k_here; k_dflt (refine' Ctr.use (bisect_ctr2 _ _ _ _ _ _ (by assumption) (by assumption) (by assumption)) ?zhR ?zF ?zX ?zN ?zT ?zd ?zu ?zpr ?_; (case zhR => exact fun _ _ _ r => r.1); (case zF => k_asm); (case zX => k_asm); (case zN => k_asm); (case zT => k_asm); (case zd => (dsimp only); omega); (case zu => (dsimp only); omega); (case zpr => exact ⟨_, News.get (by k_asm) (.head _), rfl, _, rfl⟩); intro _ _ _ _ _ _ r9; obtain ⟨_, p9, tv, e9, hpl⟩ := r9; subst e9; (try k_sweep))))
  exact True.intro
set_option maxRecDepth 100000 in
set_option maxHeartbeats 8000000 in
theorem layIn_ctr (w : World) (r : Addr) (vs : List Value) (n : Nat) (ws : List (List Nat)) (x : List Nat) (t : Tok)
    (hs : Txts vs ws) (hsort : ws.Pairwise (· < ·)) (hlen : ws.length ≤ 1000000) (hok : TOk ws) (hx : PyData.strOk (mk x) = true) :
    CtrM w 280 [.ref r, .str (mk x) t] [] 3 100 r (listOf vs.toArray n) (fun _ _ o' => ∃ vs' n', Txts vs' (ins x ws) ∧ o' = listOf vs'.toArray n') := by
  w_on
  unfold CtrM
  dsimp only [KK, prog, Cx]
  k_fill
  intro p loose mg mb dp un gd fr g s Q E X T st hg hr hd hu hret
  have hvl := hs.length
  walk_at "my enterM"
  intro L h₁ tk0 F N X T
  replace F := Fr_map (m' := mOf [("row", .ref r), ("word", .str (mk x) t)]) F (fun _ => rfl)
  w_strict (walk_at "my run")
  rename Fr _ _ _ _ => F2
  rename News _ _ _ _ => N2
  rw [slice_one vs p9 (by rw [hvl]; exact hpl.1)] at N2
  have hT : Txts ((vs.drop p9).take 1) ((ws.drop p9).take 1) := txts_take 1 (txts_drop p9 hs)
  refine ne_txts (ns := (ws.drop p9).take 1) (ms := [x]) (xs := (vs.drop p9).take 1) (ys := [.str (mk x) t]) ⟨_, N2.get (.tail _ (.head _)), rfl, _, rfl⟩ ⟨_, N2.get (.head _), rfl, _, rfl⟩ hT (.cons ⟨_, rfl⟩ .nil)
    (fun l hl => hok l (List.mem_of_mem_drop (List.mem_of_mem_take hl))) (fun l hl => by rw [List.mem_singleton.mp hl]; exact hx) (by show un + 3 + 64 < cLine; omega) ?_
  have N3 : News (s.heap.hide r) L _ [(r, listOf vs.toArray n)] := fun q hq => N2 q (.tail _ (.tail _ hq))
  clear N2
  w_strict (walk_at "my run")
  · rename ((ws.drop p9).take 1 = [x]) => hq
    exact hret _ _ _ _ (buts_of (by assumption)) (N3.get (.head _)) ⟨vs, n, by rw [ins_present hsort hpl (hq)]; exact hs, rfl⟩
  · rename (¬ (ws.drop p9).take 1 = [x]) => hq
    refine CtrM.use (insort_ctr w r vs n ws x t hs hsort hlen) (by assumption) (by assumption) N3 (fun _ h => nomatch h) (by assumption) (by (try dsimp only); omega) (by (try dsimp only); omega) ?_
    rintro v h' tk' o' F4 N4 _ ⟨q, hq1, rfl⟩
    w_strict (walk_at "my run")
    exact hret _ _ _ _ (buts_of F4) (N4.get (.head _)) ⟨_, _, by rw [ins_absent hsort hq1 (place_unique hpl hq1 ▸ hq)]; exact txts_append (txts_take _ hs) (.cons ⟨_, rfl⟩ (txts_drop _ hs)), rfl⟩
end
section
theorem ln_WCells0 : True := by
  k_with_none
  k_with "my mk" => (first | (with_reducible rfl) | exact lit_e | exact lit_nl | exact lit_tab | exact lit_q | exact lit_qs | exact lit_bs)
  k_with "my len" => (((try simp only [List.length_append, List.length_cons, List.length_nil, List.length_map]); omega))
  k_with "my get" => (first | with_reducible assumption | rfl | ((repeat' (refine (if_neg (by decide)).trans ?_)); first | with_reducible assumption | rfl))
  k_with "eval Name" => ((k_here; k_dflt (first
  | (refine' nameX_L ?zF ?zv ?_ ?za ?zb; (case za => rfl); (case zb => rfl); (case zF => with_reducible assumption); (case zv => walk_at "my get"))
  | (refine' nmL ?zn ?zv ?_ ?zl ?za ?zb; (case za => rfl); (case zb => rfl); (case zl => rfl); (case zn => with_reducible assumption); (case zv => walk_at "my get"))
  | (refine' nmC ?zc ?zo ?zd ?_ ?za ?zb; (case za => rfl); (case zb => rfl); (case zc => rfl); (case zo => with_reducible assumption); (case zd => with_reducible assumption)))))
  k_with "binaryOp Add str str" => ((k_here; refine' add_mk ?za ?zb ?zl ?_; (case za => walk_at "my mk"); (case zb => walk_at "my mk"); (case zl => walk_at "my len"); intro _ _; (try dsimp only)))
  k_with "inplaceOp Add str str" => ((k_here; refine' iadd_mk ?za ?zb ?zl ?_; (case za => walk_at "my mk"); (case zb => walk_at "my mk"); (case zl => walk_at "my len"); intro _ _; (try dsimp only)))
  k_with "compareOp Eq str str" => ((k_here; refine' eq_mk ?za ?zb ?_; (case za => walk_at "my mk"); (case zb => walk_at "my mk")))
  k_with "compareOp NotEq str str" => ((k_here; refine' ne_mk ?za ?zb ?_; (case za => walk_at "my mk"); (case zb => walk_at "my mk")))
  k_with "eval ListComp" => ((k_here; k_dflt (refine' comp_open ?zc ?_ ?zk ?zn ?zs; (case zc => with_unfolding_all rfl); (case zk => rfl); (case zn => decide); (case zs => (intro _; rfl)))))
  k_with "my enter" => ((refine' enterP (by assumption) (TopRead.nolimit (by assumption)) ?zk8 ?zk6 ?zk7 ?zk9 ?zkB ?_ ?zc1 ?zc2 ?zc3 ?zc4; (case zk8 => (dsimp only); omega); (case zk6 => k_dflt k_is); (case zk7 => k_dflt k_is); (case zk9 => first | exact BindsTo.of_eq rfl | exact binds_K (by assumption) rfl (by k_dflt k_is) rfl rfl rfl | exact kp_binds (by assumption) (fun _ => by with_unfolding_all rfl)); (case zkB => exact locs rfl); (case zc1 => decide); (case zc2 => exact rfl); (case zc3 => exact rfl); (case zc4 => exact rfl)))
  k_with "my enterC" => ((refine' enterC (by assumption) (TopRead.nolimit (by assumption)) ?zk8 ?zk6 ?zk7 ?zk9 ?zkB ?zkD ?_ ?zc2 ?zc3 ?zc4; (case zk8 => (dsimp only); omega); (case zk6 => k_dflt k_is); (case zk7 => k_dflt k_is); (case zk9 => first | exact BindsTo.of_eq rfl | exact binds_K (by assumption) rfl (by k_dflt k_is) rfl rfl rfl | exact kp_binds (by assumption) (fun _ => by with_unfolding_all rfl)); (case zkB => exact rfl); (case zkD => decide +kernel); (case zc2 => exact rfl); (case zc3 => exact rfl); (case zc4 => exact rfl)))
  k_with "my run" => (repeat' (first | ((with_reducible show wpAny _ _ _ _ _ _); walk1) | ((with_reducible show (if _ = true then _ else _)); walk1) | ((with_reducible show Frag.In _ _ ∧ _); walk1) | (dsimp only; (with_reducible show wpAny _ _ _ _ _ _); walk1)))
  k_with "my list" => (first | assumption | exact stays_list (Fr.keep (by assumption)) (by assumption) | exact ⟨_, News.get (by assumption) (by k_mem), rfl, _, rfl⟩)
  k_with "call builtin:len" => ((k_here; (with_reducible show wpAny _ _ (call (Value.builtin "len") [Value.ref _]) _ _ _); k_dflt (refine' len_list ?zl ?zf ?_; (case zl => walk_at "my list"); (case zf => first | ((simp only [List.size_toArray]); omega)))))
  k_with "exec For Name Call cons nil" => ((k_here; k_dflt (refine' for_open ?_ ?zs; (case zs => (intro _; rfl)))))
  k_with "exec For Name Name cons nil" => ((k_here; k_dflt (refine' for_open ?_ ?zs; (case zs => (intro _; rfl)))))
  k_with "exec For" => ((k_here; k_dflt (refine' for_open ?_ ?zs; (case zs => (intro _; rfl)))))
  exact True.intro
set_option maxRecDepth 100000 in
set_option maxHeartbeats 8000000 in
theorem cells_ctr (w : World) (r d : Addr) (vs tvs : List Value) (ns : List Int) (ts : List Nat) (hi : IntsAre vs ns) (hn : ns.length ≤ 63) (ht : Nats tvs ts) (hts : ts.length = 7) (htb : ∀ c ∈ ts, c ≤ 1000) :
    Ctr w 256 [.ref r, .ref d] [] 1 16 (fun h => h.IsList r vs.toArray ∧ h.IsList d tvs.toArray)
      (fun h v h' => h.StaysIn h' ∧ ∃ D vs' cs n, v = .ref D ∧ h.get? D = none ∧ h'.get? D = some (listOf vs'.toArray n) ∧ Nats vs' cs ∧ cs.length = 7 ∧ ∀ c ∈ cs, c ≤ 64000000) := by
  w_on
  unfold Ctr
  dsimp only [KK, prog, Cx]
  k_fill
  intro p loose mg mb dp un gd fr s Q E X T hd hu hp hret
  obtain ⟨hp1, hp2⟩ := hp
  walk_at "my enter"
  intro L h₁ tk0 F N
  replace F := Fr_map (m' := mOf [("script", .ref r), ("told", .ref d)]) F (fun _ => rfl)
  have hl1 := stays_list F.keep hp1
  have hl2 := stays_list F.keep hp2
  w_strict (walk_at "my run")
  have htl := ht.length
  have hil := hi.length
  refine list_copyK F N hl2 (fun D c h' F1 N1 _ => ?_) (by rw [List.size_toArray, sizeLine_eq]; omega)
  clear hl1 hl2
  w_strict (walk_at "my run")
  rename IsRange _ _ _ _ _ _ _ _ => hr
  rename Fr _ _ _ _ => F2
  rename News _ _ _ _ => N2
  refine for_range (n := ns.length) rfl rfl hr (by rw [sizeLine_eq]; omega) (fun i m led => m "script" = some (.ref r) ∧ m "told" = some (.ref d) ∧ m "cells" = some (.ref D) ∧ ∃ vs' cs n', led = [(D, listOf vs'.toArray n')] ∧ Nats vs' cs ∧ cs.length = 7 ∧ ∀ c ∈ cs, c ≤ 1000 + i * 1000000)
    F2 N2 ⟨by walk_at "my get", by walk_at "my get", by walk_at "my get", tvs, ts, _, rfl, ht, hts, fun c hc => by have := htb c hc; omega⟩ ?_ ?_
  · rintro I i h tk m led oI tv hi' ⟨m1, m2, m3, vs', cs, n', rfl, hcs, hcl, hcb⟩ F3 N3 hne hcI
    clear hr
    have hl1 := stays_list F3.keep hp1
    have hl2 := stays_list F3.keep hp2
    have hID : I ≠ D := fun e => hne _ (.head _) e.symm
    have hsz : tvs.toArray.size = 7 := by rw [List.size_toArray]; omega
    have hcl2 := hcs.length
    have hmod : ((i : Int)).fmod (tvs.toArray.size : Int) = ((i % 7 : Nat) : Int) := by rw [hsz, fmod_nat]
    have hm7 : i % 7 < 7 := Nat.mod_lt _ (by decide)
    generalize i % 7 = q at hmod hm7
    obtain ⟨v, hv, tv1, rfl⟩ := Paired.get hcs (List.getElem?_eq_getElem (show q < cs.length by omega))
    generalize hcq : cs[q]'(by omega) = cq at hv
    have hcq' : cq ∈ cs := hcq ▸ List.getElem_mem _
    w_strict (walk_at "my run")
    rw [hmod]
    refine item_list (vs := vs'.toArray) (by walk_at "my list") (by omega) (by omega) (by rw [List.getElem?_toArray, Int.toNat_natCast]; exact hv) ?_
    w_strict (walk_at "my run")
    rw [hmod]
    have hnn : 0 ≤ (ns.getD ((i : Int)).toNat 0).fmod 1000000 ∧ (ns.getD ((i : Int)).toNat 0).fmod 1000000 < 1000000 := ⟨Int.fmod_nonneg_of_pos _ (by decide), Int.fmod_lt_of_pos _ (by decide)⟩
    obtain ⟨e, he⟩ : ∃ e : Nat, (ns.getD ((i : Int)).toNat 0).fmod 1000000 = (e : Int) := ⟨_, (Int.toNat_of_nonneg hnn.1).symm⟩
    rw [he] at hnn ⊢
    rw [show (cq : Int) + (e : Int) = ((cq + e : Nat) : Int) from by push_cast; rfl]
    refine' ksa_set (n := n') (by assumption) (by assumption) ?U (nats_ints hcs) (by omega) (by rw [List.length_map]; omega) (by omega) ?_
    case U => k_upd
    intro h' F4 N4 _ _ _
    w_strict (walk_at "my run")
    refine ⟨h', _, _, _, rfl, F4, N4, ?_, ⟨by walk_at "my get", by walk_at "my get", by walk_at "my get", _, cs.set q (cq + e), n', rfl, nats_set hcs, by rw [List.length_set]; exact hcl, fun c hc => ?_⟩, fun b hb => nomatch hb⟩
    · intro q hq
      rw [List.mem_singleton.mp hq]
      exact Ne.symm hID
    · rw [Nat.add_mul, Nat.one_mul]
      rcases mem_set hc with rfl | hc
      · have := hcb _ hcq'
        omega
      · exact Nat.le_trans (hcb _ hc) (Nat.add_le_add_left (Nat.le_add_right _ _) _)
  · rintro h tk m led ⟨m1, m2, m3, vs', cs, n', rfl, hcs, hcl, hcb⟩ F3 N3
    w_strict (walk_at "my run")
    refine hret _ _ _ ⟨F3.keep, D, vs', cs, n', rfl, (N3 _ (.head _)).2.2, N3.get (.head _), hcs, hcl, fun c hc => ?_⟩
    have := hcb c hc
    omega
end
section
theorem ln_WInit0 : True := by
  k_with_none
  k_with "my mk" => (first | (with_reducible rfl) | exact lit_e | exact lit_nl | exact lit_tab | exact lit_q | exact lit_qs | exact lit_bs)
  k_with "my len" => (((try simp only [List.length_append, List.length_cons, List.length_nil, List.length_map]); omega))
  k_with "my get" => (first | with_reducible assumption | rfl | ((repeat' (refine (if_neg (by decide)).trans ?_)); first | with_reducible assumption | rfl))
  k_with "eval Name" => ((k_here; k_dflt (first
  | (refine' nameX_L ?zF ?zv ?_ ?za ?zb; (case za => rfl); (case zb => rfl); (case zF => with_reducible assumption); (case zv => walk_at "my get"))
  | (refine' nmL ?zn ?zv ?_ ?zl ?za ?zb; (case za => rfl); (case zb => rfl); (case zl => rfl); (case zn => with_reducible assumption); (case zv => walk_at "my get"))
  | (refine' nmC ?zc ?zo ?zd ?_ ?za ?zb; (case za => rfl); (case zb => rfl); (case zc => rfl); (case zo => with_reducible assumption); (case zd => with_reducible assumption)))))
  k_with "binaryOp Add str str" => ((k_here; refine' add_mk ?za ?zb ?zl ?_; (case za => walk_at "my mk"); (case zb => walk_at "my mk"); (case zl => walk_at "my len"); intro _ _; (try dsimp only)))
  k_with "inplaceOp Add str str" => ((k_here; refine' iadd_mk ?za ?zb ?zl ?_; (case za => walk_at "my mk"); (case zb => walk_at "my mk"); (case zl => walk_at "my len"); intro _ _; (try dsimp only)))
  k_with "compareOp Eq str str" => ((k_here; refine' eq_mk ?za ?zb ?_; (case za => walk_at "my mk"); (case zb => walk_at "my mk")))
  k_with "compareOp NotEq str str" => ((k_here; refine' ne_mk ?za ?zb ?_; (case za => walk_at "my mk"); (case zb => walk_at "my mk")))
  k_with "eval ListComp" => ((k_here; k_dflt (refine' comp_open ?zc ?_ ?zk ?zn ?zs; (case zc => with_unfolding_all rfl); (case zk => rfl); (case zn => decide); (case zs => (intro _; rfl)))))
  k_with "my enter" => ((refine' enterP (by assumption) (TopRead.nolimit (by assumption)) ?zk8 ?zk6 ?zk7 ?zk9 ?zkB ?_ ?zc1 ?zc2 ?zc3 ?zc4; (case zk8 => (dsimp only); omega); (case zk6 => k_dflt k_is); (case zk7 => k_dflt k_is); (case zk9 => first | exact BindsTo.of_eq rfl | exact binds_K (by assumption) rfl (by k_dflt k_is) rfl rfl rfl | exact kp_binds (by assumption) (fun _ => by with_unfolding_all rfl)); (case zkB => exact locs rfl); (case zc1 => decide); (case zc2 => exact rfl); (case zc3 => exact rfl); (case zc4 => exact rfl)))
  k_with "my enterC" => ((refine' enterC (by assumption) (TopRead.nolimit (by assumption)) ?zk8 ?zk6 ?zk7 ?zk9 ?zkB ?zkD ?_ ?zc2 ?zc3 ?zc4; (case zk8 => (dsimp only); omega); (case zk6 => k_dflt k_is); (case zk7 => k_dflt k_is); (case zk9 => first | exact BindsTo.of_eq rfl | exact binds_K (by assumption) rfl (by k_dflt k_is) rfl rfl rfl | exact kp_binds (by assumption) (fun _ => by with_unfolding_all rfl)); (case zkB => exact rfl); (case zkD => decide +kernel); (case zc2 => exact rfl); (case zc3 => exact rfl); (case zc4 => exact rfl)))
  k_with "my run" => (repeat' (first | ((with_reducible show wpAny _ _ _ _ _ _); walk1) | ((with_reducible show (if _ = true then _ else _)); walk1) | ((with_reducible show Frag.In _ _ ∧ _); walk1) | (dsimp only; (with_reducible show wpAny _ _ _ _ _ _); walk1)))
  k_with "my list" => (first | assumption | exact stays_list (Fr.keep (by assumption)) (by assumption) | exact ⟨_, News.get (by assumption) (by k_mem), rfl, _, rfl⟩)
  k_with "call builtin:len" => ((k_here; (with_reducible show wpAny _ _ (call (Value.builtin "len") [Value.ref _]) _ _ _); k_dflt (refine' len_list ?zl ?zf ?_; (case zl => walk_at "my list"); (case zf => first | ((simp only [List.size_toArray]); omega)))))
  k_with "exec For Name Call cons nil" => ((k_here; k_dflt (refine' for_open ?_ ?zs; (case zs => (intro _; rfl)))))
  k_with "exec For Name Name cons nil" => ((k_here; k_dflt (refine' for_open ?_ ?zs; (case zs => (intro _; rfl)))))
  k_with "exec For" => ((k_here; k_dflt (refine' for_open ?_ ?zs; (case zs => (intro _; rfl)))))
  k_with "my enterK" => ((refine' enterK (by assumption) (by assumption) (by assumption) (by assumption) ?zk8 ?zk6 ?zk7 ?zk9 ?zkB ?_ ?zc1 ?zc2 ?zc3 ?zc4; (case zk8 => (dsimp only); omega); (case zk6 => k_dflt k_is); (case zk7 => k_dflt k_is); (case zk9 => first | exact BindsTo.of_eq rfl | exact binds_K (Frag.In.keeps (by assumption) (by assumption)) rfl (by k_dflt k_is) rfl rfl rfl | exact kp_binds (Frag.In.keeps (by assumption) (by assumption)) (fun _ => by with_unfolding_all rfl)); (case zkB => exact locs rfl); (case zc1 => decide); (case zc2 => exact rfl); (case zc3 => exact rfl); (case zc4 => exact rfl)))
  exact True.intro
set_option maxRecDepth 100000 in
set_option maxHeartbeats 8000000 in
theorem init_ctr (w : World) (x dx fp : Addr) (hxd : @LT.lt Nat _ dx x) :
    CtrK w 84 [.ref x, .ref fp] [] 2 100 [(x, instObj 108 dx), (dx, dictOf [] 0)] (fun _ => True)
      (fun h v h' led => v = .none ∧ ∃ pb ts, led = [(x, instObj 108 dx), (dx, dictOf (lexD w 1 fp pb ts) 4)] ∧ h.get? pb = none ∧ h'.get? pb = some (listOf #[] 0)) := by
  w_on
  unfold CtrK
  dsimp only [KK, prog, Cx]
  k_fill
  intro p loose mean mg mb dp un gd fr g s Q X T st hl hpre hd hu hret
  walk_at "my enterK"
  intro L h₁ tk0 F N X' T' hlt
  simp only [List.map_cons, List.map_nil] at F N X' T'
  have hlt1 : @LT.lt Nat _ x L := hlt _ (.head _)
  have hlt2 : @LT.lt Nat _ dx L := hlt _ (.tail _ (.head _))
  clear X st hl hlt
  replace F := Fr_map (m' := mOf [("self", .ref x), ("fp", .ref fp)]) F (fun _ => rfl)
  w_strict (walk_at "my run")
  rename News _ _ _ _ => N9
  rename Fr _ _ _ _ => F9
  rename (_ ∧ _) => l9
  refine hret _ _ _ [(x, instObj 108 dx), (dx, dictOf _ 4)] (butL_of F9) rfl (fun q hq => (N9 q (.tail _ hq)).1) ⟨rfl, _, toks6 _ _ _ _ _ _, rfl, hide_none_of (N9 _ (.head _)).2.2 ?_, (N9 _ (.head _)).1⟩
  intro q
  rcases List.mem_cons.mp q with q | q
  · exact Nat.ne_of_gt l9.1 q
  · exact Nat.ne_of_gt l9.2 (List.mem_singleton.mp q)
end
section
theorem ln_WMachine0 : True := by
  k_with_none
  k_with "my mk" => (first | (with_reducible rfl) | exact lit_e | exact lit_nl | exact lit_tab | exact lit_q | exact lit_qs | exact lit_bs)
  k_with "my len" => (((try simp only [List.length_append, List.length_cons, List.length_nil, List.length_map]); omega))
  k_with "my get" => (first | with_reducible assumption | rfl | ((repeat' (refine (if_neg (by decide)).trans ?_)); first | with_reducible assumption | rfl))
  k_with "eval Name" => ((k_here; k_dflt (first
  | (refine' nameX_L ?zF ?zv ?_ ?za ?zb; (case za => rfl); (case zb => rfl); (case zF => with_reducible assumption); (case zv => walk_at "my get"))
  | (refine' nmL ?zn ?zv ?_ ?zl ?za ?zb; (case za => rfl); (case zb => rfl); (case zl => rfl); (case zn => with_reducible assumption); (case zv => walk_at "my get"))
  | (refine' nmC ?zc ?zo ?zd ?_ ?za ?zb; (case za => rfl); (case zb => rfl); (case zc => rfl); (case zo => with_reducible assumption); (case zd => with_reducible assumption)))))
  k_with "binaryOp Add str str" => ((k_here; refine' add_mk ?za ?zb ?zl ?_; (case za => walk_at "my mk"); (case zb => walk_at "my mk"); (case zl => walk_at "my len"); intro _ _; (try dsimp only)))
  k_with "inplaceOp Add str str" => ((k_here; refine' iadd_mk ?za ?zb ?zl ?_; (case za => walk_at "my mk"); (case zb => walk_at "my mk"); (case zl => walk_at "my len"); intro _ _; (try dsimp only)))
  k_with "compareOp Eq str str" => ((k_here; refine' eq_mk ?za ?zb ?_; (case za => walk_at "my mk"); (case zb => walk_at "my mk")))
  k_with "compareOp NotEq str str" => ((k_here; refine' ne_mk ?za ?zb ?_; (case za => walk_at "my mk"); (case zb => walk_at "my mk")))
  k_with "eval ListComp" => ((k_here; k_dflt (refine' comp_open ?zc ?_ ?zk ?zn ?zs; (case zc => with_unfolding_all rfl); (case zk => rfl); (case zn => decide); (case zs => (intro _; rfl)))))
  k_with "my enter" => ((refine' enterP (by assumption) (TopRead.nolimit (by assumption)) ?zk8 ?zk6 ?zk7 ?zk9 ?zkB ?_ ?zc1 ?zc2 ?zc3 ?zc4; (case zk8 => (dsimp only); omega); (case zk6 => k_dflt k_is); (case zk7 => k_dflt k_is); (case zk9 => first | exact BindsTo.of_eq rfl | exact binds_K (by assumption) rfl (by k_dflt k_is) rfl rfl rfl | exact kp_binds (by assumption) (fun _ => by with_unfolding_all rfl)); (case zkB => exact locs rfl); (case zc1 => decide); (case zc2 => exact rfl); (case zc3 => exact rfl); (case zc4 => exact rfl)))
  k_with "my enterC" => ((refine' enterC (by assumption) (TopRead.nolimit (by assumption)) ?zk8 ?zk6 ?zk7 ?zk9 ?zkB ?zkD ?_ ?zc2 ?zc3 ?zc4; (case zk8 => (dsimp only); omega); (case zk6 => k_dflt k_is); (case zk7 => k_dflt k_is); (case zk9 => first | exact BindsTo.of_eq rfl | exact binds_K (by assumption) rfl (by k_dflt k_is) rfl rfl rfl | exact kp_binds (by assumption) (fun _ => by with_unfolding_all rfl)); (case zkB => exact rfl); (case zkD => decide +kernel); (case zc2 => exact rfl); (case zc3 => exact rfl); (case zc4 => exact rfl)))
  k_with "my run" => (repeat' (first | ((with_reducible show wpAny _ _ _ _ _ _); walk1) | ((with_reducible show (if _ = true then _ else _)); walk1) | ((with_reducible show Frag.In _ _ ∧ _); walk1) | (dsimp only; (with_reducible show wpAny _ _ _ _ _ _); walk1)))
  k_with "my list" => (first | assumption | exact stays_list (Fr.keep (by assumption)) (by assumption) | exact ⟨_, News.get (by assumption) (by k_mem), rfl, _, rfl⟩)
  k_with "call builtin:len" => ((k_here; (with_reducible show wpAny _ _ (call (Value.builtin "len") [Value.ref _]) _ _ _); k_dflt (refine' len_list ?zl ?zf ?_; (case zl => walk_at "my list"); (case zf => first | ((simp only [List.size_toArray]); omega)))))
  k_with "exec For Name Call cons nil" => ((k_here; k_dflt (refine' for_open ?_ ?zs; (case zs => (intro _; rfl)))))
  k_with "exec For Name Name cons nil" => ((k_here; k_dflt (refine' for_open ?_ ?zs; (case zs => (intro _; rfl)))))
  k_with "exec For" => ((k_here; k_dflt (refine' for_open ?_ ?zs; (case zs => (intro _; rfl)))))
  k_with "call builtin:len" => ((k_here; (with_reducible show wpAny _ _ (call (Value.builtin "len") [Value.str _ _]) _ _ _); refine' len_mk ?zh ?_; (case zh => (rw [List.length_take]; omega))))
  k_with "subscriptTail Name Slice str ref" => ((k_here; (refine' cut_one (s := ⟨_, _, _, _, _⟩) (p := ps) ?zF ?zN ?zhi ?zhj ?zhp ?zhx ?_ ?zhs ?zht); (case zF => k_asm); (case zN => k_asm); (case zhi => rfl); (case zhj => rfl); (case zhp => assumption); (case zhx => omega); (case zhs => with_unfolding_all rfl); (case zht => (intro _; with_unfolding_all rfl)); intro _ _ _ _ _; (try k_sweep)))
  k_with "eval Name" => ((k_here; k_dflt (first
  | (refine' nameX_L ?zF ?zv ?_ ?za ?zb; (case za => rfl); (case zb => rfl); (case zF => with_reducible assumption); (case zv => walk_at "my get"))
  | (refine' nmF ?zc ?zo ?zd ?_ ?zl ?za ?zb; (case zl => rfl); (case za => rfl); (case zb => rfl); (case zc => rfl); (case zo => exact Fr.keep (by with_reducible assumption) _ _ (by with_reducible assumption)); (case zd => with_reducible assumption)))))
  k_with "setAttr ref" => ((k_here; k_dflt (refine' fn_storeN ?zF ?zN ?zne ?zc ?zd ?zn ?_; (case zF => k_asm); (case zN => k_asm); (case zne => k_all); (case zc => rfl); (case zd => rfl); (case zn => rfl)); intro _ _ _ _ _ _ _ N'; (try dsimp only at N'); (try k_sweep)))
  k_with "my enterLC" => ((refine' enterLC (by assumption) (by assumption) (by assumption) (by assumption) ?zk8 ?zk6 ?zk7 ?zk9 ?zkB ?zkD ?_ ?zc2 ?zc3 ?zc4; (case zk8 => (dsimp only); omega); (case zk6 => k_dflt k_is); (case zk7 => k_dflt k_is); (case zk9 => first | exact BindsTo.of_eq rfl | exact binds_K (Frag.In.keeps (by assumption) (by assumption)) rfl (by k_dflt k_is) rfl rfl rfl | exact kp_binds (Frag.In.keeps (by assumption) (by assumption)) (fun _ => by with_unfolding_all rfl)); (case zkB => exact rfl); (case zkD => decide +kernel); (case zc2 => exact rfl); (case zc3 => exact rfl); (case zc4 => exact rfl)))
  exact True.intro
set_option maxRecDepth 100000 in
set_option maxHeartbeats 8000000 in
theorem machine_ctr (w : World) (text : List Nat) (t : Tok) (hlen : text.length ≤ 1000) :
    CtrL w 263 [.str (mk text) t] [] 6 200 [((258 : Nat), tabObj #[])] (fun h => CodeHd h 262 258)
      (fun h v h' led => ∃ x dx fp pb al base ts n tv tab, v = .ref x ∧ led = [((258 : Nat), tabObj tab)] ∧ LexSpec w fp al text base ∧ LexPts x dx pb al base ∧
        (∀ q ∈ base, h'.get? q.1 = some q.2) ∧ h'.get? x = some (instObj 108 dx) ∧ h'.get? dx = some (dictOf (lexD w 1 fp pb ts) 4) ∧ h'.get? pb = some (listOf #[] 0) ∧ h'.get? al = some (listOf #[.int 0 tv] n) ∧
        (∀ q ∈ base, h.get? q.1 = none) ∧ h.get? x = none ∧ h.get? dx = none ∧ h.get? pb = none ∧ h.get? al = none) := by
  w_on
  unfold CtrL
  dsimp only [KK, prog, Cx]
  k_fill
  intro p loose mean mg mb dp un gd fr g s Q E X T st hl hpre hd hu hret
  walk_at "my enterLC"
  intro L h₁ tk0 cells F N Y X' T' hlt
  simp only [List.map_cons, List.map_nil] at F N X' T'
  have C' : CodeHd (hideAll s.heap [(258 : Nat)]) 262 258 := by
    obtain ⟨o, vs, file, tf, flags, tg, inF, text', tt, e, r⟩ := hpre
    exact ⟨o, vs, file, tf, flags, tg, inF, text', tt, hideAll_get _ e (by decide), r⟩
  clear X st hl
  replace hlt : (258 : Nat) < L := hlt _ (.head _)
  k_cells Y
  rename_i o1 o2 c1 c2
  replace c1 := c1.trans (show _ = Data.cell none from rfl)
  replace c2 := c2.trans (show _ = Data.cell (some (.str (mk text) t)) from rfl)
  replace F := Fr_map (m' := fun _ => none) F (fun _ => rfl)
  simp only [List.cons_append, List.nil_append] at N
  dsimp only
  rw [show cellsFrom (L + 1) ([("text", NameKind.cell), ("_law_read_on", .local), ("stream", .local), ("at", .cell), ("_netrclex", .globalImplicit)] : List (Str × NameKind)) [] = ([("at", L + (1 : Nat) + (1 : Nat)), ("text", L + (1 : Nat))] : List (Str × Addr)) from rfl]
  w_strict (walk_at "my run")
  rename News _ _ _ _ => N9
  rename Fr _ _ _ _ => F9
  rename_i al _ l1 _ oat hat _ rf c1 oc1 vs1 t1 ct1 dc1 _ _ d1 d2 l2 l3 _ _ S c2 oc2 vs2 t2 ct2 _ _ d3 d4 l4 l5 _ _ _ dS oD hI hne
  refine wpAny_call (make_K F9 N9 (X'.keeps F9.keep) (by k_dflt k_is) (by k_dflt k_is) (by k_dflt k_is) fun x dx h8 F8 N8 hlt8 hxd => ?_)
  refine CtrK.use (init_ctr w x dx _ hxd) F8 X' N8 ?ne T' trivial ?d1 ?d2 ?_
  case ne =>
    intro q hq hm
    have h1 : @LT.lt Nat _ q.1 dx := hlt8 q hq
    rcases List.mem_cons.mp hm with e | e
    · rw [e] at h1; exact Nat.lt_irrefl _ (Nat.lt_trans h1 hxd)
    · rw [List.mem_singleton.mp e] at h1; exact Nat.lt_irrefl _ h1
  case d1 => show dp + 1 + 1 + 2 < recursionLimit; omega
  case d2 => show un + 3 + 1 + 100 < cLine; omega
  rintro v h' tk' led' - F10 N10 hb ⟨rfl, pb, ts, rfl, hpb0, hpb1⟩
  refine ⟨rfl, ?_⟩
  simp only [List.cons_append, List.nil_append] at N10
  obtain ⟨base, hB, mdS, mS, mc1, mrf, mat, mtx, hsel⟩ := mach_sel N10
  have hR : ReadSpec w rf al text base := by
    clear hret hb F10 N10 F8 N8 F9 N9 hB hsel hlt8 T' X' hpre hd hu C'
    intro ps n tv t hps
    unfold CtrL
    dsimp only [KK, prog, Cx]
    intro p loose mean mg mb dp un gd fr g s Q E X T st hl hpre hd hu hret
    have hcd : s.heap.CodeRec (.ref c1) _ := ⟨c1, oc1, vs1, t1, rfl, hpre _ mc1, d1, d2⟩
    refine' enterLF X T st hl ?k8 (hpre _ mrf) hcd ?k9 ?kB ?_ ?c1 ?c2 ?c3 ?c4
    case k8 => (dsimp only); omega
    case k9 => exact BindsTo.of_eq rfl
    case kB => exact locs rfl
    case c1 => decide
    case c2 => exact rfl
    case c3 => exact rfl
    case c4 => exact rfl
    intro L2 h₁ tk0 F N X' T' hlt
    simp only [List.map_cons, List.map_nil] at F N X' T'
    have hal : @LT.lt Nat _ al L2 := hlt _ (.head _)
    clear X st hlt
    replace F := Fr_map (m' := mOf [("size", .int 1 t)]) F (fun _ => rfl)
    have gat : (hideAll s.heap [al]).get? (L + 1 + 1) = some oat := hideAll_get _ (hpre _ mat) (by intro q; exact absurd (List.mem_singleton.mp q) (Nat.ne_of_lt l1.1))
    have gtx : (hideAll s.heap [al]).get? (L + 1) = some o2 := hideAll_get _ (hpre _ mtx) (by intro q; exact absurd (List.mem_singleton.mp q) (Nat.ne_of_lt l1.2.1))
    clear hpre mdS mS mc1 mrf mat mtx hcd hI d1 d2 d3 d4 hne
    w_strict (walk_at "my run")
    rename Fr _ _ _ _ => F9
    rename News _ _ _ _ => N9
    refine' hret _ _ _ [(al, _)] (butL_of F9) ?r0 ?r1 ⟨_, _, rfl, ?r2⟩
    case r1 =>
      intro q hq
      rw [List.mem_singleton.mp hq]
      exact (N9 _ (.head _)).1
    case r0 => rfl
    case r2 => rfl
  dsimp only
  refine' hret _ _ _ [(258, _)] (butL_of F10) ?r0 ?r1 ⟨x, dx, S, pb, al, base, ts, 0, tk0, _, rfl, ?rt, ⟨rf, _, dS, oD, _, mS, mdS, ⟨_, _, mrf, rfl, rfl⟩, rfl, rfl, rfl, hI, hR⟩, ?r2⟩
  case r1 =>
    intro q hq
    rw [List.mem_singleton.mp hq]
    exact N10.get (by k_mem)
  case r0 => rfl
  case rt => rfl
  case r2 =>
    have hp := news_ne N8 (show h8.get? pb = none from hpb0)
    k_lt hlt8
    simp only [List.forall_mem_cons] at hp hne
    obtain ⟨g1, g2, g3, g4, g5, g6, g7, g8, g9⟩ := hlt8
    obtain ⟨p1, p2, p3, p4, p5, p6, p7, p8, p9, p10, p11, -⟩ := hp
    obtain ⟨n1, n2, n3, n4, n5, n6, n7, n8, -⟩ := hne
    have hL2 : @LT.lt Nat _ 258 (L + 1) := Nat.lt_succ_of_lt hlt
    have nal : (hideAll s.heap [258]).get? al = none := (N8 (al, listOf #[.int 0 tk0] 0) (by k_mem)).2.2
    have hall : ∀ q ∈ base, s.heap.get? q.1 = none ∧ q.1 ≠ x ∧ q.1 ≠ dx ∧ q.1 ≠ pb ∧ q.1 ≠ al := by
      intro q hq
      have hq0 := (hB q hq).2
      rcases hsel q hq with e | e | e | e | e | e | e <;> rw [e] at hq0 ⊢ <;> dsimp only at hq0 ⊢
      · exact ⟨hide_none_of hq0 (fun z => n8 (List.mem_singleton.mp z).symm), Nat.ne_of_lt (Nat.lt_trans g1 hxd), Nat.ne_of_lt g1, p3, Ne.symm n5⟩
      · exact ⟨hide_none_of hq0 (not_in258 (Nat.lt_trans l4.2.2.2.2.2 l5)), Nat.ne_of_lt (Nat.lt_trans g2 hxd), Nat.ne_of_lt g2, p4, Nat.ne_of_gt (Nat.lt_trans l4.2.2.1 l5)⟩
      · exact ⟨hide_none_of hq0 (not_in258 l4.2.2.2.2.2), Nat.ne_of_lt (Nat.lt_trans g3 hxd), Nat.ne_of_lt g3, p5, Nat.ne_of_gt l4.2.2.1⟩
      · exact ⟨hide_none_of hq0 (not_in258 (Nat.lt_trans l2.2.2.2 l3)), Nat.ne_of_lt (Nat.lt_trans g4 hxd), Nat.ne_of_lt g4, p6, Nat.ne_of_gt (Nat.lt_trans l2.1 l3)⟩
      · exact ⟨hide_none_of hq0 (not_in258 l2.2.2.2), Nat.ne_of_lt (Nat.lt_trans g5 hxd), Nat.ne_of_lt g5, p7, Nat.ne_of_gt l2.1⟩
      · exact ⟨hide_none_of hq0 (not_in258 (Nat.lt_succ_of_lt hL2)), Nat.ne_of_lt (Nat.lt_trans g7 hxd), Nat.ne_of_lt g7, p9, Nat.ne_of_lt l1.1⟩
      · exact ⟨hide_none_of hq0 (not_in258 hL2), Nat.ne_of_lt (Nat.lt_trans g8 hxd), Nat.ne_of_lt g8, p10, Nat.ne_of_lt l1.2.1⟩
    exact ⟨⟨Nat.ne_of_gt hxd, p1, Nat.ne_of_gt (Nat.lt_trans g6 hxd), p2, Nat.ne_of_gt g6, Ne.symm p8, fun q hq => (hall q hq).2.1, fun q hq => (hall q hq).2.2.1, fun q hq => (hall q hq).2.2.2.1, fun q hq => (hall q hq).2.2.2.2⟩,
      fun q hq => (hB q hq).1, N10.get (.head _), N10.get (.tail _ (.head _)), hpb1, N10.get (by k_mem), fun q hq => (hall q hq).1, hide_none_of (N10 _ (.head _)).2.2 (not_in258 (Nat.lt_trans g9 hxd)), hide_none_of (N10 _ (.tail _ (.head _))).2.2 (not_in258 g9), hide_none_of (fr_none F8 hpb0) (fun q => p11 (List.mem_singleton.mp q).symm), hide_none_of nal (not_in258 l1.2.2)⟩
end
section
theorem ln_WRead0 : True := by
  k_with_none
  k_with "my mk" => (first | (with_reducible rfl) | exact lit_e | exact lit_nl | exact lit_tab | exact lit_q | exact lit_qs | exact lit_bs)
  k_with "my len" => (((try simp only [List.length_append, List.length_cons, List.length_nil, List.length_map]); omega))
  k_with "my get" => (first | with_reducible assumption | rfl | ((repeat' (refine (if_neg (by decide)).trans ?_)); first | with_reducible assumption | rfl))
  k_with "eval Name" => ((k_here; k_dflt (first
  | (refine' nameX_L ?zF ?zv ?_ ?za ?zb; (case za => rfl); (case zb => rfl); (case zF => with_reducible assumption); (case zv => walk_at "my get"))
  | (refine' nmL ?zn ?zv ?_ ?zl ?za ?zb; (case za => rfl); (case zb => rfl); (case zl => rfl); (case zn => with_reducible assumption); (case zv => walk_at "my get"))
  | (refine' nmC ?zc ?zo ?zd ?_ ?za ?zb; (case za => rfl); (case zb => rfl); (case zc => rfl); (case zo => with_reducible assumption); (case zd => with_reducible assumption)))))
  k_with "binaryOp Add str str" => ((k_here; refine' add_mk ?za ?zb ?zl ?_; (case za => walk_at "my mk"); (case zb => walk_at "my mk"); (case zl => walk_at "my len"); intro _ _; (try dsimp only)))
  k_with "inplaceOp Add str str" => ((k_here; refine' iadd_mk ?za ?zb ?zl ?_; (case za => walk_at "my mk"); (case zb => walk_at "my mk"); (case zl => walk_at "my len"); intro _ _; (try dsimp only)))
  k_with "compareOp Eq str str" => ((k_here; refine' eq_mk ?za ?zb ?_; (case za => walk_at "my mk"); (case zb => walk_at "my mk")))
  k_with "compareOp NotEq str str" => ((k_here; refine' ne_mk ?za ?zb ?_; (case za => walk_at "my mk"); (case zb => walk_at "my mk")))
  k_with "eval ListComp" => ((k_here; k_dflt (refine' comp_open ?zc ?_ ?zk ?zn ?zs; (case zc => with_unfolding_all rfl); (case zk => rfl); (case zn => decide); (case zs => (intro _; rfl)))))
  k_with "my enter" => ((refine' enterP (by assumption) (TopRead.nolimit (by assumption)) ?zk8 ?zk6 ?zk7 ?zk9 ?zkB ?_ ?zc1 ?zc2 ?zc3 ?zc4; (case zk8 => (dsimp only); omega); (case zk6 => k_dflt k_is); (case zk7 => k_dflt k_is); (case zk9 => first | exact BindsTo.of_eq rfl | exact binds_K (by assumption) rfl (by k_dflt k_is) rfl rfl rfl | exact kp_binds (by assumption) (fun _ => by with_unfolding_all rfl)); (case zkB => exact locs rfl); (case zc1 => decide); (case zc2 => exact rfl); (case zc3 => exact rfl); (case zc4 => exact rfl)))
  k_with "my enterC" => ((refine' enterC (by assumption) (TopRead.nolimit (by assumption)) ?zk8 ?zk6 ?zk7 ?zk9 ?zkB ?zkD ?_ ?zc2 ?zc3 ?zc4; (case zk8 => (dsimp only); omega); (case zk6 => k_dflt k_is); (case zk7 => k_dflt k_is); (case zk9 => first | exact BindsTo.of_eq rfl | exact binds_K (by assumption) rfl (by k_dflt k_is) rfl rfl rfl | exact kp_binds (by assumption) (fun _ => by with_unfolding_all rfl)); (case zkB => exact rfl); (case zkD => decide +kernel); (case zc2 => exact rfl); (case zc3 => exact rfl); (case zc4 => exact rfl)))
  k_with "my run" => (repeat' (first | ((with_reducible show wpAny _ _ _ _ _ _); walk1) | ((with_reducible show (if _ = true then _ else _)); walk1) | ((with_reducible show Frag.In _ _ ∧ _); walk1) | (dsimp only; (with_reducible show wpAny _ _ _ _ _ _); walk1)))
  k_with "my list" => (first | assumption | exact stays_list (Fr.keep (by assumption)) (by assumption) | exact ⟨_, News.get (by assumption) (by k_mem), rfl, _, rfl⟩)
  k_with "call builtin:len" => ((k_here; (with_reducible show wpAny _ _ (call (Value.builtin "len") [Value.ref _]) _ _ _); k_dflt (refine' len_list ?zl ?zf ?_; (case zl => walk_at "my list"); (case zf => first | ((simp only [List.size_toArray]); omega)))))
  k_with "exec For Name Call cons nil" => ((k_here; k_dflt (refine' for_open ?_ ?zs; (case zs => (intro _; rfl)))))
  k_with "exec For Name Name cons nil" => ((k_here; k_dflt (refine' for_open ?_ ?zs; (case zs => (intro _; rfl)))))
  k_with "exec For" => ((k_here; k_dflt (refine' for_open ?_ ?zs; (case zs => (intro _; rfl)))))
  k_with "getMethod ref" => ((k_here; (refine' fn_getMethod (Fr.keep ?zF _ _ gS) hS1 hS2 hS3 (Fr.keep ?zF _ _ gD) hDI rfl ?_); (case zF => k_asm); dsimp only; refine callWith_F (hfn _ (Fr.keep (by k_asm))) ?_))
  k_with "And" => (((with_reducible show FnAt _ _ ∧ _); (refine ⟨hfn _ (Fr.keep (by k_asm)), ?_⟩); dsimp only [List.nil_append, List.cons_append]))
  k_with "my enterK" => ((refine' enterK (by assumption) (by assumption) (by assumption) (by assumption) ?zk8 ?zk6 ?zk7 ?zk9 ?zkB ?_ ?zc1 ?zc2 ?zc3 ?zc4; (case zk8 => (dsimp only); omega); (case zk6 => k_dflt k_is); (case zk7 => k_dflt k_is); (case zk9 => first | exact BindsTo.of_eq rfl | exact binds_K (Frag.In.keeps (by assumption) (by assumption)) rfl (by k_dflt k_is) rfl rfl rfl | exact kp_binds (Frag.In.keeps (by assumption) (by assumption)) (fun _ => by with_unfolding_all rfl)); (case zkB => exact locs rfl); (case zc1 => decide); (case zc2 => exact rfl); (case zc3 => exact rfl); (case zc4 => exact rfl)))
  exact True.intro
set_option maxRecDepth 100000 in
set_option maxHeartbeats 8000000 in
theorem readChar_ctr (w : World) (x dx fp pb al : Addr) (text : List Nat) (base : List (Addr × Obj)) (S : LexSpec w fp al text base) (P : LexPts x dx pb al base)
    (ln : Int) (ts : Nat → Tok) (ps n : Nat) (tv : Tok) (hps : ps ≤ text.length) :
    CtrK w 91 [.ref x] [] 4 200 [(x, instObj 108 dx), (dx, dictOf (lexD w ln fp pb ts) 4), (al, listOf #[.int (ps : Int) tv] n)] (fun h => ∀ q ∈ base, h.get? q.1 = some q.2)
      (fun _ v h' led => ∃ u ts' tv', v = .str (mk ((text.drop ps).take 1)) u ∧
        led = [(x, instObj 108 dx), (dx, dictOf (lexD w (if (text.drop ps).take 1 = [10] then ln + 1 else ln) fp pb ts') 4), (al, listOf #[.int ((ps + ((text.drop ps).take 1).length : Nat) : Int) tv'] n)]) := by
  w_on
  unfold CtrK
  dsimp only [KK, prog, Cx]
  k_fill
  intro p loose mean mg mb dp un gd fr g s Q X T st hl hpre hd hu hret
  walk_at "my enterK"
  intro L h₁ tk0 F N X' T' hlt
  simp only [List.map_cons, List.map_nil] at F N X' T'
  have gB : ∀ q ∈ base, (hideAll s.heap [x, dx, al]).get? q.1 = some q.2 := fun q hq => hideAll_get _ (hpre q hq) (by
    intro z
    rcases List.mem_cons.mp z with z | z
    · exact P.bx q hq z
    · rcases List.mem_cons.mp z with z | z
      · exact P.bd q hq z
      · exact P.ba q hq (List.mem_singleton.mp z))
  have e1 : @Ne Nat x dx := P.xd
  have e2 : @Ne Nat x al := P.xa
  have e3 : @Ne Nat dx al := P.da
  clear X st hl hlt hpre
  obtain ⟨rf, oS, d, oD, fd, mS, mD, ⟨oR, fR, mR, hR1, hR2⟩, hS1, hS2, hS3, hDI, hread⟩ := S
  have gS := gB _ mS
  have gD := gB _ mD
  have gR := gB _ mR
  dsimp only at gS gD gR
  replace F := Fr_map (m' := mOf [("self", .ref x)]) F (fun _ => rfl)
  have hfn : ∀ h, (∀ b o, (hideAll s.heap [x, dx, al]).get? b = some o → h.get? b = some o) → FnAt rf h := by
    intro h k
    obtain ⟨c0, d0, dt0, sl0⟩ := oR
    cases hR2
    exact ⟨_, _, _, _, k _ _ gR⟩
  w_strict (walk_at "my run")
  walk1
  w_strict (walk_at "my run")
  refine CtrL.use (hread ps n tv _ hps) (news := [(x, instObj 108 dx), (dx, dictOf (lexD w ln fp pb ts) 4)]) F X' (fun q hq => N q (by simp only [List.cons_append, List.nil_append, List.mem_cons, List.not_mem_nil, or_false] at hq ⊢; rcases hq with h | h | h <;> simp [h])) ?ne T' (fun q hq => F.keep _ _ (gB q hq)) ?d1 ?d2 ?_
  case d1 => show dp + 1 + 2 < recursionLimit; omega
  case d2 => show un + 3 + 100 < cLine; omega
  case ne =>
    intro q hq hm
    have hm := List.mem_singleton.mp hm
    rcases List.mem_cons.mp hq with rfl | hq
    · exact e2 hm
    · rw [List.mem_singleton.mp hq] at hm
      exact e3 hm
  rintro v h' tk' led' - F2 N2 - ⟨u, tv', rfl, rfl⟩
  have N3 : News (hideAll s.heap [x, dx, al]) L h' [(x, instObj 108 dx), (dx, dictOf (lexD w ln fp pb ts) 4), (al, listOf #[.int ((ps + ((text.drop ps).take 1).length : Nat) : Int) tv'] n)] := fun q hq => N2 q (by simp only [List.cons_append, List.nil_append, List.mem_cons, List.not_mem_nil, or_false] at hq ⊢; rcases hq with h | h | h <;> simp [h])
  clear F N N2
  generalize hcs : (text.drop ps).take 1 = cs at *
  w_strict (walk_at "my run")
  · rename News _ _ _ _ => N9
    rename Fr _ _ _ _ => F9
    rename (cs = _) => hc
    obtain ⟨k, N8⟩ : ∃ k, News (hideAll s.heap [x, dx, al]) L _ [(x, instObj 108 dx), (dx, dictOf (lexD w (ln + 1) fp pb (toks6 (ts 0) k (ts 2) (ts 3) (ts 4) (ts 5))) 4), (al, listOf #[.int ((ps + cs.length : Nat) : Int) tv'] n)] := ⟨_, N9⟩
    exact hret _ _ _ [(x, instObj 108 dx), (dx, dictOf (lexD w (ln + 1) fp pb (toks6 (ts 0) k (ts 2) (ts 3) (ts 4) (ts 5))) 4), (al, listOf #[.int ((ps + cs.length : Nat) : Int) tv'] n)] (butL_of F9) rfl (fun q hq => (N8 q hq).1) ⟨u, _, tv', rfl, by rw [if_pos hc]⟩
  · rename News _ _ _ _ => N9
    rename Fr _ _ _ _ => F9
    rename (¬ cs = _) => hc
    exact hret _ _ _ [(x, instObj 108 dx), (dx, dictOf (lexD w ln fp pb ts) 4), (al, listOf #[.int ((ps + cs.length : Nat) : Int) tv'] n)] (butL_of F9) rfl (fun q hq => (N9 q hq).1) ⟨u, ts, tv', rfl, by rw [if_neg hc]⟩
end
section
theorem ln_WForCi0 : True := by
  k_with_none
  k_with "my mk" => (first | (with_reducible rfl) | exact lit_e | exact lit_nl | exact lit_tab | exact lit_q | exact lit_qs | exact lit_bs)
  k_with "my len" => (((try simp only [List.length_append, List.length_cons, List.length_nil, List.length_map]); omega))
  k_with "my get" => (first | with_reducible assumption | rfl | ((repeat' (refine (if_neg (by decide)).trans ?_)); first | with_reducible assumption | rfl))
  k_with "eval Name" => ((k_here; k_dflt (first
  | (refine' nameX_L ?zF ?zv ?_ ?za ?zb; (case za => rfl); (case zb => rfl); (case zF => with_reducible assumption); (case zv => walk_at "my get"))
  | (refine' nmL ?zn ?zv ?_ ?zl ?za ?zb; (case za => rfl); (case zb => rfl); (case zl => rfl); (case zn => with_reducible assumption); (case zv => walk_at "my get"))
  | (refine' nmC ?zc ?zo ?zd ?_ ?za ?zb; (case za => rfl); (case zb => rfl); (case zc => rfl); (case zo => with_reducible assumption); (case zd => with_reducible assumption)))))
  k_with "binaryOp Add str str" => ((k_here; refine' add_mk ?za ?zb ?zl ?_; (case za => walk_at "my mk"); (case zb => walk_at "my mk"); (case zl => walk_at "my len"); intro _ _; (try dsimp only)))
  k_with "inplaceOp Add str str" => ((k_here; refine' iadd_mk ?za ?zb ?zl ?_; (case za => walk_at "my mk"); (case zb => walk_at "my mk"); (case zl => walk_at "my len"); intro _ _; (try dsimp only)))
  k_with "compareOp Eq str str" => ((k_here; refine' eq_mk ?za ?zb ?_; (case za => walk_at "my mk"); (case zb => walk_at "my mk")))
  k_with "compareOp NotEq str str" => ((k_here; refine' ne_mk ?za ?zb ?_; (case za => walk_at "my mk"); (case zb => walk_at "my mk")))
  k_with "eval ListComp" => ((k_here; k_dflt (refine' comp_open ?zc ?_ ?zk ?zn ?zs; (case zc => with_unfolding_all rfl); (case zk => rfl); (case zn => decide); (case zs => (intro _; rfl)))))
  k_with "my enter" => ((refine' enterP (by assumption) (TopRead.nolimit (by assumption)) ?zk8 ?zk6 ?zk7 ?zk9 ?zkB ?_ ?zc1 ?zc2 ?zc3 ?zc4; (case zk8 => (dsimp only); omega); (case zk6 => k_dflt k_is); (case zk7 => k_dflt k_is); (case zk9 => first | exact BindsTo.of_eq rfl | exact binds_K (by assumption) rfl (by k_dflt k_is) rfl rfl rfl | exact kp_binds (by assumption) (fun _ => by with_unfolding_all rfl)); (case zkB => exact locs rfl); (case zc1 => decide); (case zc2 => exact rfl); (case zc3 => exact rfl); (case zc4 => exact rfl)))
  k_with "my enterC" => ((refine' enterC (by assumption) (TopRead.nolimit (by assumption)) ?zk8 ?zk6 ?zk7 ?zk9 ?zkB ?zkD ?_ ?zc2 ?zc3 ?zc4; (case zk8 => (dsimp only); omega); (case zk6 => k_dflt k_is); (case zk7 => k_dflt k_is); (case zk9 => first | exact BindsTo.of_eq rfl | exact binds_K (by assumption) rfl (by k_dflt k_is) rfl rfl rfl | exact kp_binds (by assumption) (fun _ => by with_unfolding_all rfl)); (case zkB => exact rfl); (case zkD => decide +kernel); (case zc2 => exact rfl); (case zc3 => exact rfl); (case zc4 => exact rfl)))
  k_with "my run" => (repeat' (first | ((with_reducible show wpAny _ _ _ _ _ _); walk1) | ((with_reducible show (if _ = true then _ else _)); walk1) | ((with_reducible show Frag.In _ _ ∧ _); walk1) | (dsimp only; (with_reducible show wpAny _ _ _ _ _ _); walk1)))
  k_with "my list" => (first | assumption | exact stays_list (Fr.keep (by assumption)) (by assumption) | exact ⟨_, News.get (by assumption) (by k_mem), rfl, _, rfl⟩)
  k_with "call builtin:len" => ((k_here; (with_reducible show wpAny _ _ (call (Value.builtin "len") [Value.ref _]) _ _ _); k_dflt (refine' len_list ?zl ?zf ?_; (case zl => walk_at "my list"); (case zf => first | ((simp only [List.size_toArray]); omega)))))
  k_with "exec For Name Call cons nil" => ((k_here; k_dflt (refine' for_open ?_ ?zs; (case zs => (intro _; rfl)))))
  k_with "exec For Name Name cons nil" => ((k_here; k_dflt (refine' for_open ?_ ?zs; (case zs => (intro _; rfl)))))
  k_with "exec For" => ((k_here; k_dflt (refine' for_open ?_ ?zs; (case zs => (intro _; rfl)))))
  exact True.intro
/-- the ledger of a token under way -/
abbrev tokLed (w : World) (x dx fp pb al M I : Addr) (te : Tok) (n n' : Nat) (ln : Int) (ps : Nat) (ts : Nat → Tok) (tv : Tok) : List (Addr × Obj) :=
  [(I, ciObj M (.str (mk []) te) false), (M, methodObj (.ref 91) (.ref x)), (x, instObj 108 dx), (dx, dictOf (lexD w ln fp pb ts) 4), (pb, listOf #[] n'), (al, listOf #[.int (ps : Int) tv] n)]
theorem sel6_in {α : Type} {a b c d e f q : α} (h : q ∈ [c, d, f] ++ [a, b, e]) : q ∈ [a, b, c, d, e, f] := by
  simp only [List.cons_append, List.nil_append, List.mem_cons, List.not_mem_nil, or_false] at h ⊢
  rcases h with h | h | h | h | h | h <;> simp [h]
theorem sel6_out {α : Type} {a b c d e f q : α} (h : q ∈ [a, b, c, d, e, f]) : q ∈ [c, d, f] ++ [a, b, e] := by
  simp only [List.cons_append, List.nil_append, List.mem_cons, List.not_mem_nil, or_false] at h ⊢
  rcases h with h | h | h | h | h | h <;> simp [h]
theorem apart3 {α β : Type} {q1 q2 q3 : α × β} {a b c : α} (h11 : q1.1 ≠ a) (h12 : q1.1 ≠ b) (h13 : q1.1 ≠ c) (h21 : q2.1 ≠ a) (h22 : q2.1 ≠ b) (h23 : q2.1 ≠ c) (h31 : q3.1 ≠ a) (h32 : q3.1 ≠ b) (h33 : q3.1 ≠ c) : ∀ q ∈ [q1, q2, q3], q.1 ∉ [a, b, c] := by
  intro q hq hm
  simp only [List.mem_cons, List.not_mem_nil, or_false] at hq hm
  rcases hq with rfl | rfl | rfl <;> rcases hm with e | e | e <;> contradiction
theorem ci_apart {x dx pb al M I : Addr} {base : List (Addr × Obj)} (P : LexPts x dx pb al base) (hI : ∀ a ∈ [M, x, dx, pb, al], a ≠ I) (hM : ∀ a ∈ [x, dx, pb, al], a ≠ M) {o1 o2 o3 : Obj} : ∀ q ∈ [(I, o1), (M, o2), (pb, o3)], q.1 ∉ [x, dx, al] :=
  apart3 (hI _ (.tail _ (.head _))).symm (hI _ (.tail _ (.tail _ (.head _)))).symm (hI _ (.tail _ (.tail _ (.tail _ (.tail _ (.head _)))))).symm (hM _ (.head _)).symm (hM _ (.tail _ (.head _))).symm (hM _ (.tail _ (.tail _ (.tail _ (.head _))))).symm P.xp.symm P.dp.symm P.pa
theorem ten_if (c : Nat) (ln : Int) : (if ([c] : List Nat) = [10] then ln + 1 else ln) = (if c = 10 then ln + 1 else ln) := by simp
/-- a sign is drawn by the iterator -/
theorem ci_draw {w : World} {x dx fp pb al M I L : Addr} {text : List Nat} {base : List (Addr × Obj)} (S : LexSpec w fp al text base) (P : LexPts x dx pb al base) {te : Tok} {n n' : Nat} {dp un : Nat} {gd : Option (List Code)} {fr : Option (List Env)} {h₀ : Heap}
    {p : Program} {loose : List Str} {mean : ExcName → Option Value} {mg mb : Str → Option Value} {Q : Option Value → Shared → Prop} {E : Value → Shared → Prop} {s : Shared} {m : Str → Option Value} {ln : Int} {ps : Nat} {ts : Nat → Tok} {tv : Tok}
    (X : (KK w).In h₀) (T : Top p loose mean mg mb h₀) (gB : ∀ q ∈ base, h₀.get? q.1 = some q.2) (h91 : ∀ h, (∀ b o, h₀.get? b = some o → h.get? b = some o) → FnAt 91 h) (hd : dp + 5 < recursionLimit) (hu : un + 300 < cLine)
    (hI : ∀ a ∈ [M, x, dx, pb, al], a ≠ I) (hM : ∀ a ∈ [x, dx, pb, al], a ≠ M)
    (F : Fr h₀ L s.heap m) (N : News h₀ L s.heap (tokLed w x dx fp pb al M I te n n' ln ps ts tv)) (hps : ps ≤ text.length)
    (some_ : ∀ c r u ts' tv' h' tk', text.drop ps = c :: r → Fr h₀ L h' m → News h₀ L h' (tokLed w x dx fp pb al M I te n n' (if c = 10 then ln + 1 else ln) (ps + 1) ts' tv') → Q (some (.str (mk [c]) u)) { s with heap := h', toks := tk' })
    (none_ : ∀ ts' tv' h' tk', text.drop ps = [] → Fr h₀ L h' m → News h₀ L h' [(I, ciEnd), (M, methodObj (.ref 91) (.ref x)), (x, instObj 108 dx), (dx, dictOf (lexD w ln fp pb ts') 4), (pb, listOf #[] n'), (al, listOf #[.int (ps : Int) tv'] n)] → Q none { s with heap := h', toks := tk' }) :
    wpAny (model prog w) (Cx dp un gd fr) (pyNext (.ref I)) Q E s := by
  have nI := N (I, _) (.head _)
  have nM := N (M, _) (.tail _ (.head _))
  refine ci_next (f := 91) (self := .ref x) (te := te) rfl nI.1 nM.1 (h91 _ F.keep) ?_
  refine CtrK.use (dp := dp) (un := un + 1) (readChar_ctr w x dx fp pb al text base S P ln ts ps n tv hps) (news := [(I, ciObj M (.str (mk []) te) false), (M, methodObj (.ref 91) (.ref x)), (pb, listOf #[] n')]) F X
    (fun q hq => N q (sel6_in hq)) (ci_apart P hI hM) T (fun q hq => F.keep _ _ (gB q hq)) (by omega) (by omega) ?_
  · rintro v h' tk' led' - F2 N2 - ⟨u, ts', tv', rfl, rfl⟩
    refine ⟨(text.drop ps).take 1, u, rfl, (N2 (I, _) (.tail _ (.tail _ (.tail _ (.head _))))).1, (N2 (M, _) (.tail _ (.tail _ (.tail _ (.tail _ (.head _)))))).1, h91 _ F2.keep, fun hne => ?_, fun he h'' tk'' hE hk => ?_⟩
    · obtain ⟨c, r, hc⟩ : ∃ c r, text.drop ps = c :: r := by
        cases q : text.drop ps with
        | nil => rw [q] at hne; exact absurd rfl hne
        | cons c r => exact ⟨c, r, rfl⟩
      have e : (text.drop ps).take 1 = [c] := by rw [hc]; rfl
      rw [e, ten_if] at N2
      rw [e]
      exact some_ c r u ts' tv' h' tk' hc F2 fun q hq => N2 q (sel6_out hq)
    · have hnil : text.drop ps = [] := by
        cases q : text.drop ps with
        | nil => rfl
        | cons c r => rw [q] at he; cases he
      rw [he, if_neg (fun h => nomatch h)] at N2
      have N3 : News h₀ L h' (tokLed w x dx fp pb al M I te n n' ln ps ts' tv') := fun q hq => N2 q (sel6_out hq)
      have nI2 := N3 (I, ciObj M (.str (mk []) te) false) (.head _)
      refine none_ ts' tv' h'' tk'' hnil ⟨F2.ns.at' fun ob e => hk L ob (fun q => nI2.2.1 q.symm) e, fun b ob e => hk b ob (fun q => by rw [q] at e; rw [nI2.2.2] at e; cases e) (F2.keep b ob e), F2.above⟩ fun q hq => ?_
      rcases List.mem_cons.mp hq with rfl | hq
      · exact ⟨hE, nI2.2.1, nI2.2.2⟩
      · have z := N3 q (.tail _ hq)
        exact ⟨hk _ _ (hI _ (List.mem_map_of_mem (f := Prod.fst) hq)) z.1, z.2⟩
/-- where a turn ends -/
inductive CiTurnI (w : World) (x dx fp pb al M I L : Addr) (text : List Nat) (te : Tok) (n n' : Nat) (h₀ : Heap) (J : Nat → Int → (Str → Option Value) → Prop) (ps : Nat) (mkS : Heap → Nat → Shared) (s₃ : Shared) : Prop
  | mk (ps' : Nat) (ln' : Int) (ts' : Nat → Tok) (tv' : Tok) (m' : Str → Option Value) (h' : Heap) (tk' : Nat) (e : s₃ = mkS h' tk') (a1 : ps < ps') (a2 : ps' ≤ text.length) (F : Fr h₀ L h' m') (N : News h₀ L h' (tokLed w x dx fp pb al M I te n n' ln' ps' ts' tv')) (j : J ps' ln' m') : CiTurnI w x dx fp pb al M I L text te n n' h₀ J ps mkS s₃
def CiTurn (w : World) (x dx fp pb al M I L : Addr) (text : List Nat) (te : Tok) (n n' : Nat) (h₀ : Heap) (J : Nat → Int → (Str → Option Value) → Prop) (ps : Nat) (s s₃ : Shared) : Prop :=
  CiTurnI w x dx fp pb al M I L text te n n' h₀ J ps (fun h' tk' => { s with heap := h', toks := tk' }) s₃
/-- a for over such an iterator -/
theorem for_ci {w : World} {x dx fp pb al M I L : Addr} {text : List Nat} {base : List (Addr × Obj)} (S : LexSpec w fp al text base) (P : LexPts x dx pb al base) {te : Tok} {n n' : Nat} {dp un : Nat} {gd : Option (List Code)} {fr : Option (List Env)} {h₀ : Heap}
    {p : Program} {loose : List Str} {mean : ExcName → Option Value} {mg mb : Str → Option Value} {env : Env} {ch : Str} {pch : Pos} {body : List Stmt} {Q : Flow → Shared → Prop} {E : Value → Shared → Prop} {s : Shared} {m₀ : Str → Option Value} {ln₀ : Int} {ps₀ : Nat} {ts₀ : Nat → Tok} {tv₀ : Tok}
    (X : (KK w).In h₀) (T : Top p loose mean mg mb h₀) (gB : ∀ q ∈ base, h₀.get? q.1 = some q.2) (h91 : ∀ h, (∀ b o, h₀.get? b = some o → h.get? b = some o) → FnAt 91 h) (hd : dp + 5 < recursionLimit) (hu : un + 300 < cLine)
    (hI : ∀ a ∈ [M, x, dx, pb, al], a ≠ I) (hM : ∀ a ∈ [x, dx, pb, al], a ≠ M)
    (J : Nat → Int → (Str → Option Value) → Prop)
    (F : Fr h₀ L s.heap m₀) (N : News h₀ L s.heap (tokLed w x dx fp pb al M I te n n' ln₀ ps₀ ts₀ tv₀)) (hj : J ps₀ ln₀ m₀) (hps : ps₀ ≤ text.length)
    (turn : ∀ (ps : Nat) (ln : Int) (m : Str → Option Value) (c : Nat) (r : List Nat) (u : Tok) (ts : Nat → Tok) (tv : Tok) (h : Heap) (tk : Nat), ps < text.length → J ps ln m → text.drop ps = c :: r → Fr h₀ L h m →
      News h₀ L h (tokLed w x dx fp pb al M I te n n' (if c = 10 then ln + 1 else ln) (ps + 1) ts tv) →
      ∀ (Q' : Flow → Shared → Prop) (E' : Value → Shared → Prop), (∀ s₃, CiTurn w x dx fp pb al M I L text te n n' h₀ J ps s s₃ → Q' .next s₃ ∧ Q' .cont s₃) → (∀ v s₃, Q (.ret v) s₃ → Q' (.ret v) s₃) →
      wpAny (model prog w) (Cx dp un gd fr) (storeName env ch (.str (mk [c]) u)) (fun _ s₂ => wpAny (model prog w) (Cx dp un gd fr) (execs body env) Q' E' s₂) E' { s with heap := h, toks := tk })
    (done : ∀ (ps : Nat) (ln : Int) (m : Str → Option Value) (ts : Nat → Tok) (tv : Tok) (h : Heap) (tk : Nat), J ps ln m → ps ≤ text.length → text.drop ps = [] → Fr h₀ L h m →
      News h₀ L h [(I, ciEnd), (M, methodObj (.ref 91) (.ref x)), (x, instObj 108 dx), (dx, dictOf (lexD w ln fp pb ts) 4), (pb, listOf #[] n'), (al, listOf #[.int (ps : Int) tv] n)] → Q .next { s with heap := h, toks := tk }) :
    codeAny (model prog w) (Cx dp un gd fr) (.forLoop (.Name ch pch) (.ref I) body [] env) (fun r s' => match r with | .ok f => Q f s' | .error e => cameBackBy (model prog w) (Cx dp un gd fr) env E e s') s := by
  refine codeAny_forLoop (fun k s' => ∃ h tk m ln ps ts tv, s' = { s with heap := h, toks := tk } ∧ k = text.length - ps ∧ ps ≤ text.length ∧ Fr h₀ L h m ∧ News h₀ L h (tokLed w x dx fp pb al M I te n n' ln ps ts tv) ∧ J ps ln m) ?_ (text.length - ps₀) ⟨s.heap, s.toks, m₀, ln₀, ps₀, ts₀, tv₀, rfl, rfl, hps, F, N, hj⟩
  rintro k s' ⟨h, tk, m, ln, ps, ts, tv, rfl, rfl, hps', F', N', hj'⟩
  refine ci_draw S P X T gB h91 hd hu hI hM F' N' hps' ?_ ?_
  · intro c r u ts' tv' h' tk' hc F2 N2
    have hlt : ps < text.length := by
      rcases Nat.lt_or_ge ps text.length with q | q
      · exact q
      · rw [List.drop_eq_nil_of_le q] at hc; cases hc
    refine wpAny_assign_Name (wpAny_mono (turn ps ln m c r u ts' tv' h' tk' hlt hj' hc F2 N2 (fun f s₃ => match f with
          | .next | .cont => CiTurn w x dx fp pb al M I L text te n n' h₀ J ps s s₃
          | .brk => Q .next s₃
          | .ret v => Q (.ret v) s₃) (fun _ _ => False) (fun _ h => ⟨h, h⟩) (fun _ _ h => h)) (fun _ s₂ h₂ => wpAny_mono h₂ (fun f s₃ h₃ => ?_) fun _ _ f => f.elim) fun _ _ f => f.elim)
    have fin : CiTurn w x dx fp pb al M I L text te n n' h₀ J ps s s₃ →
        ∃ k', k' < text.length - ps ∧ ∃ h tk m ln ps ts tv, s₃ = { s with heap := h, toks := tk } ∧ k' = text.length - ps ∧ ps ≤ text.length ∧ Fr h₀ L h m ∧ News h₀ L h (tokLed w x dx fp pb al M I te n n' ln ps ts tv) ∧ J ps ln m := by
      rintro ⟨ps', ln', ts', tv', m', h', tk', e, a1, a2, a3, a4, a5⟩
      exact ⟨text.length - ps', by omega, h', tk', m', ln', ps', ts', tv', e, rfl, a2, a3, a4, a5⟩
    cases f with
    | next => exact fin h₃
    | cont => exact fin h₃
    | brk => exact h₃
    | ret v => exact h₃
  · intro ts' tv' h' tk' hn F2 N2
    exact wpAny_execs_nil (done ps ln m ts' tv' h' tk' hj' hps' hn F2 N2)
/-- a sign is read by the method itself -/
theorem read_in {w : World} {x dx fp pb al M I L : Addr} {text : List Nat} {base : List (Addr × Obj)} (S : LexSpec w fp al text base) (P : LexPts x dx pb al base) {te : Tok} {n n' : Nat} {dp un : Nat} {gd : Option (List Code)} {fr : Option (List Env)} {h₀ : Heap}
    {p : Program} {loose : List Str} {mean : ExcName → Option Value} {mg mb : Str → Option Value} {Q : Value → Shared → Prop} {E : Value → Shared → Prop} {s : Shared} {m : Str → Option Value} {ln : Int} {ps : Nat} {ts : Nat → Tok} {tv : Tok}
    (X : (KK w).In h₀) (T : Top p loose mean mg mb h₀) (gB : ∀ q ∈ base, h₀.get? q.1 = some q.2) (hd : dp + 5 < recursionLimit) (hu : un + 300 < cLine)
    (hI : ∀ a ∈ [M, x, dx, pb, al], a ≠ I) (hM : ∀ a ∈ [x, dx, pb, al], a ≠ M)
    (F : Fr h₀ L s.heap m) (N : News h₀ L s.heap (tokLed w x dx fp pb al M I te n n' ln ps ts tv)) (hps : ps ≤ text.length) {c : Nat} {r : List Nat} (hc : text.drop ps = c :: r)
    (some_ : ∀ u ts' tv' h' tk', Fr h₀ L h' m → News h₀ L h' (tokLed w x dx fp pb al M I te n n' (if c = 10 then ln + 1 else ln) (ps + 1) ts' tv') → Q (.str (mk [c]) u) { s with heap := h', toks := tk' }) :
    wpAny (model prog w) (Cx dp un gd fr) (call (.ref 91) [.ref x]) Q E s := by
  refine CtrL.use (dp := dp) (un := un) (readChar_ctr w x dx fp pb al text base S P ln ts ps n tv hps).toL (news := [(I, ciObj M (.str (mk []) te) false), (M, methodObj (.ref 91) (.ref x)), (pb, listOf #[] n')]) F X
    (fun q hq => N q (sel6_in hq)) (ci_apart P hI hM) T (fun q hq => F.keep _ _ (gB q hq)) (by omega) (by omega) ?_
  · rintro v h' tk' led' - F2 N2 - ⟨u, ts', tv', rfl, rfl⟩
    have e : (text.drop ps).take 1 = [c] := by rw [hc]; rfl
    rw [e, ten_if] at N2
    rw [e]
    exact some_ u ts' tv' h' tk' F2 fun q hq => N2 q (sel6_out hq)
theorem drop_step {xs : List Nat} {ps c : Nat} {r : List Nat} (h : xs.drop ps = c :: r) : xs.drop (ps + 1) = r ∧ ps < xs.length := by
  have hlt : ps < xs.length := by
    rcases Nat.lt_or_ge ps xs.length with q | q
    · exact q
    · rw [List.drop_eq_nil_of_le q] at h; cases h
  exact ⟨by rw [← List.drop_drop, h]; rfl, hlt⟩
theorem count_step {c : Nat} {r : List Nat} {a b : Int} (h : a + ((c :: r).count 10 : Int) = b) : (if c = 10 then a + 1 else a) + (r.count 10 : Int) = b := by
  rw [List.count_cons] at h
  by_cases e : c = 10
  · rw [if_pos e]; simp [e] at h; omega
  · rw [if_neg e]; simp [e] at h; omega
theorem fnAt_of {K : Frag} {h : Heap} {f : Addr} {oc : Value} {od : Option Addr} {fd : FuncData} {sl : Array (Option Value)} (X : K.In h) (ho : K.lookup f = some ⟨oc, od, .func fd, sl⟩) : FnAt f h := ⟨oc, od, fd, sl, X _ _ ho⟩
end
section
theorem ln_WTok0 : True := by
  k_with_none
  k_with "my mk" => (first | (with_reducible rfl) | exact lit_e | exact lit_nl | exact lit_tab | exact lit_q | exact lit_qs | exact lit_bs)
  k_with "my len" => (((try simp only [List.length_append, List.length_cons, List.length_nil, List.length_map]); omega))
  k_with "my get" => (first | with_reducible assumption | rfl | ((repeat' (refine (if_neg (by decide)).trans ?_)); first | with_reducible assumption | rfl))
  k_with "eval Name" => ((k_here; k_dflt (first
  | (refine' nameX_L ?zF ?zv ?_ ?za ?zb; (case za => rfl); (case zb => rfl); (case zF => with_reducible assumption); (case zv => walk_at "my get"))
  | (refine' nmL ?zn ?zv ?_ ?zl ?za ?zb; (case za => rfl); (case zb => rfl); (case zl => rfl); (case zn => with_reducible assumption); (case zv => walk_at "my get"))
  | (refine' nmC ?zc ?zo ?zd ?_ ?za ?zb; (case za => rfl); (case zb => rfl); (case zc => rfl); (case zo => with_reducible assumption); (case zd => with_reducible assumption)))))
  k_with "binaryOp Add str str" => ((k_here; refine' add_mk ?za ?zb ?zl ?_; (case za => walk_at "my mk"); (case zb => walk_at "my mk"); (case zl => walk_at "my len"); intro _ _; (try dsimp only)))
  k_with "inplaceOp Add str str" => ((k_here; refine' iadd_mk ?za ?zb ?zl ?_; (case za => walk_at "my mk"); (case zb => walk_at "my mk"); (case zl => walk_at "my len"); intro _ _; (try dsimp only)))
  k_with "compareOp Eq str str" => ((k_here; refine' eq_mk ?za ?zb ?_; (case za => walk_at "my mk"); (case zb => walk_at "my mk")))
  k_with "compareOp NotEq str str" => ((k_here; refine' ne_mk ?za ?zb ?_; (case za => walk_at "my mk"); (case zb => walk_at "my mk")))
  k_with "eval ListComp" => ((k_here; k_dflt (refine' comp_open ?zc ?_ ?zk ?zn ?zs; (case zc => with_unfolding_all rfl); (case zk => rfl); (case zn => decide); (case zs => (intro _; rfl)))))
  k_with "my enter" => ((refine' enterP (by assumption) (TopRead.nolimit (by assumption)) ?zk8 ?zk6 ?zk7 ?zk9 ?zkB ?_ ?zc1 ?zc2 ?zc3 ?zc4; (case zk8 => (dsimp only); omega); (case zk6 => k_dflt k_is); (case zk7 => k_dflt k_is); (case zk9 => first | exact BindsTo.of_eq rfl | exact binds_K (by assumption) rfl (by k_dflt k_is) rfl rfl rfl | exact kp_binds (by assumption) (fun _ => by with_unfolding_all rfl)); (case zkB => exact locs rfl); (case zc1 => decide); (case zc2 => exact rfl); (case zc3 => exact rfl); (case zc4 => exact rfl)))
  k_with "my enterC" => ((refine' enterC (by assumption) (TopRead.nolimit (by assumption)) ?zk8 ?zk6 ?zk7 ?zk9 ?zkB ?zkD ?_ ?zc2 ?zc3 ?zc4; (case zk8 => (dsimp only); omega); (case zk6 => k_dflt k_is); (case zk7 => k_dflt k_is); (case zk9 => first | exact BindsTo.of_eq rfl | exact binds_K (by assumption) rfl (by k_dflt k_is) rfl rfl rfl | exact kp_binds (by assumption) (fun _ => by with_unfolding_all rfl)); (case zkB => exact rfl); (case zkD => decide +kernel); (case zc2 => exact rfl); (case zc3 => exact rfl); (case zc4 => exact rfl)))
  k_with "my run" => (repeat' (first | ((with_reducible show wpAny _ _ _ _ _ _); walk1) | ((with_reducible show (if _ = true then _ else _)); walk1) | ((with_reducible show Frag.In _ _ ∧ _); walk1) | (dsimp only; (with_reducible show wpAny _ _ _ _ _ _); walk1)))
  k_with "my list" => (first | assumption | exact stays_list (Fr.keep (by assumption)) (by assumption) | exact ⟨_, News.get (by assumption) (by k_mem), rfl, _, rfl⟩)
  k_with "call builtin:len" => ((k_here; (with_reducible show wpAny _ _ (call (Value.builtin "len") [Value.ref _]) _ _ _); k_dflt (refine' len_list ?zl ?zf ?_; (case zl => walk_at "my list"); (case zf => first | ((simp only [List.size_toArray]); omega)))))
  k_with "exec For Name Call cons nil" => ((k_here; k_dflt (refine' for_open ?_ ?zs; (case zs => (intro _; rfl)))))
  k_with "exec For Name Name cons nil" => ((k_here; k_dflt (refine' for_open ?_ ?zs; (case zs => (intro _; rfl)))))
  k_with "exec For" => ((k_here; k_dflt (refine' for_open ?_ ?zs; (case zs => (intro _; rfl)))))
  k_with "loadName" => ((k_here; (refine' wpAny_loadName_local ?zk ?zl (Fr.ns ?zF) ?zv ?_); (case zF => with_reducible assumption); (case zk => rfl); (case zl => rfl); (case zv => walk_at "my get")))
  k_with "call builtin:iter" => ((k_here; (refine' ci_make ?zF ?zN ?zM ?_); (case zF => k_asm); (case zN => k_asm); (case zM => exact News.get (by k_asm) (by k_mem)); intro _ _ _ _ _ _; (try k_sweep)))
  k_with "compareOp In str str" => ((k_here; (refine' in_ws ?zb ?_); (case zb => exact lit_ws)))
  k_with "my enterL" => ((refine' enterL (by assumption) (by assumption) (by assumption) (by assumption) ?zk8 ?zk6 ?zk7 ?zk9 ?zkB ?_ ?zc1 ?zc2 ?zc3 ?zc4; (case zk8 => (dsimp only); omega); (case zk6 => k_dflt k_is); (case zk7 => k_dflt k_is); (case zk9 => first | exact BindsTo.of_eq rfl | exact binds_K (Frag.In.keeps (by assumption) (by assumption)) rfl (by k_dflt k_is) rfl rfl rfl | exact kp_binds (Frag.In.keeps (by assumption) (by assumption)) (fun _ => by with_unfolding_all rfl)); (case zkB => exact locs rfl); (case zc1 => decide); (case zc2 => exact rfl); (case zc3 => exact rfl); (case zc4 => exact rfl)))
  exact True.intro
theorem lt_ne4 {a b c d z : Addr} (h : a < z ∧ b < z ∧ c < z ∧ d < z) : ∀ q ∈ [a, b, c, d], q ≠ z := by
  intro q hq
  simp only [List.mem_cons, List.not_mem_nil, or_false] at hq
  rcases hq with rfl | rfl | rfl | rfl
  · exact Nat.ne_of_lt h.1
  · exact Nat.ne_of_lt h.2.1
  · exact Nat.ne_of_lt h.2.2.1
  · exact Nat.ne_of_lt h.2.2.2
theorem lt_ne5 {a b c d e z : Addr} (h : a < z ∧ b < z ∧ c < z ∧ d < z ∧ e < z) : ∀ q ∈ [a, b, c, d, e], q ≠ z := fun q hq => by
  rcases List.mem_cons.mp hq with rfl | hq
  · exact Nat.ne_of_lt h.1
  · exact lt_ne4 h.2 q hq
theorem lexT_stopE {b : Bool} {acc r tok rest : List Nat} {c : Nat} (hst : stops b c = true) (h : lexT b acc (c :: r) = some (tok, rest)) : acc = tok ∧ r = rest := by
  rcases lexT_cons b acc c r h with ⟨_, e⟩ | ⟨z, _⟩ | ⟨z, _⟩
  · cases e; exact ⟨rfl, rfl⟩
  all_goals rw [hst] at z; cases z
theorem lexT_bsE {b : Bool} {acc r tok rest : List Nat} {c : Nat} (hst : stops b c = false) (hb : c = 92) (h : lexT b acc (c :: r) = some (tok, rest)) : r = r.headD 0 :: r.tail ∧ lexT b (acc ++ [r.headD 0]) r.tail = some (tok, rest) := by
  rcases lexT_cons b acc c r h with ⟨z, _⟩ | ⟨_, _, d, r', rfl, hl⟩ | ⟨_, z, _⟩
  · rw [hst] at z; cases z
  · exact ⟨rfl, hl⟩
  · exact absurd hb z
theorem lexT_onE {b : Bool} {acc r tok rest : List Nat} {c : Nat} (hst : stops b c = false) (hb : ¬ c = 92) (h : lexT b acc (c :: r) = some (tok, rest)) : lexT b (acc ++ [c]) r = some (tok, rest) := by
  rcases lexT_cons b acc c r h with ⟨z, _⟩ | ⟨_, z, _⟩ | ⟨_, _, hl⟩
  · rw [hst] at z; cases z
  · exact absurd z hb
  · exact hl
theorem lexS_ws2 {c : Nat} {r tok rest : List Nat} (hw : isWs c = true) (hl : lexS (c :: r) = some (tok, rest)) : lexS r = some (tok, rest) := by
  rcases lexS_cons c r hl with ⟨_, h⟩ | ⟨h, _⟩ | ⟨h, _⟩ | ⟨h, _⟩
  · exact h
  all_goals rw [hw] at h; cases h
theorem lexS_q {c : Nat} {r tok rest : List Nat} (hw : isWs c = false) (hq : c = 34) (hl : lexS (c :: r) = some (tok, rest)) : lexT true [] r = some (tok, rest) := by
  rcases lexS_cons c r hl with ⟨h, _⟩ | ⟨_, _, h⟩ | ⟨_, h, _⟩ | ⟨_, h, _⟩
  · rw [hw] at h; cases h
  · exact h
  · rw [hq] at h; cases h
  · exact absurd hq h
theorem one_sign {c d : Nat} (h : ([c] : List Nat) = [d]) : c = d := by simpa using h
theorem stops_q {c : Nat} (h : ([c] : List Nat) = [34]) : stops true c = true := by rw [one_sign h]; rfl
theorem stops_nq {c : Nat} (h : ¬ ([c] : List Nat) = [34]) : stops true c = false := by show (c == 34) = false; exact beq_eq_false_iff_ne.mpr fun e => h (by rw [e])
theorem snoc_le {acc : List Nat} {d k ps : Nat} (h : acc.length ≤ ps) (hk : ps + 1 ≤ k) : (acc ++ [d]).length ≤ k := by rw [List.length_append]; exact Nat.le_trans (Nat.succ_le_succ h) hk
theorem lexS_bs {c : Nat} {r tok rest : List Nat} (hw : isWs c = false) (hq : c = 92) (hl : lexS (c :: r) = some (tok, rest)) : r = r.headD 0 :: r.tail ∧ lexT false [r.headD 0] r.tail = some (tok, rest) := by
  rcases lexS_cons c r hl with ⟨h, _⟩ | ⟨_, h, _⟩ | ⟨_, _, d, r', rfl, h⟩ | ⟨_, _, h, _⟩
  · rw [hw] at h; cases h
  · rw [hq] at h; cases h
  · exact ⟨rfl, h⟩
  · exact absurd hq h
theorem lexS_bare {c : Nat} {r tok rest : List Nat} (hw : isWs c = false) (h1 : ¬ c = 34) (h2 : ¬ c = 92) (hl : lexS (c :: r) = some (tok, rest)) : lexT false [c] r = some (tok, rest) := by
  rcases lexS_cons c r hl with ⟨h, _⟩ | ⟨_, h, _⟩ | ⟨_, h, _⟩ | ⟨_, _, _, h⟩
  · rw [hw] at h; cases h
  · exact absurd h h1
  · exact absurd h h2
  · exact h
/-- what holds between the turns of an inner loop -/
inductive TokIn (x : Addr) (text tok rest : List Nat) (tot : Int) (b : Bool) (ps : Nat) (ln : Int) (m : Str → Option Value) : Prop
  | mk (m1 : m "self" = some (.ref x)) (acc : List Nat) (t : Tok) (m2 : m "token" = some (.str (Mine.mk acc) t)) (hl : lexT b acc (text.drop ps) = some (tok, rest)) (ha : acc.length ≤ ps) (hn : ln + ((text.drop ps).count 10 : Int) = tot) : TokIn x text tok rest tot b ps ln m
inductive TokOut (x I : Addr) (text tok rest : List Nat) (tot : Int) (ps : Nat) (ln : Int) (m : Str → Option Value) : Prop
  | mk (m1 : m "self" = some (.ref x)) (m2 : m "fiter" = some (.ref I)) (m3 : ∃ t, m "token" = some (.str (Mine.mk []) t)) (hl : lexS (text.drop ps) = some (tok, rest)) (hn : ln + ((text.drop ps).count 10 : Int) = tot) : TokOut x I text tok rest tot ps ln m
/-- what get_token gives -/
inductive TokenR (w : World) (x dx fp pb al : Addr) (text tok rest : List Nat) (tot : Int) (n n' : Nat) (v : Value) (led : List (Addr × Obj)) : Prop
  | mk (u : Tok) (ts' : Nat → Tok) (tv' : Tok) (ps' : Nat) (ln' : Int) (e : v = .str (Mine.mk tok) u) (hps : ps' ≤ text.length) (hd : text.drop ps' = rest) (hl : ln' = tot - (rest.count 10 : Int)) (el : led = [(x, instObj 108 dx), (dx, dictOf (lexD w ln' fp pb ts') 4), (pb, listOf #[] n'), (al, listOf #[.int (ps' : Int) tv'] n)]) : TokenR w x dx fp pb al text tok rest tot n n' v led
/-- the first sign of a bare word is read -/
inductive AtSign (w : World) (x dx fp pb al M I L : Addr) (text : List Nat) (te : Tok) (n n' : Nat) (h₀ : Heap) (tok rest : List Nat) (tot : Int) (lo : Nat) (s s' : Shared) : Prop
  | mk (c : Nat) (ps : Nat) (ln : Int) (ts : Nat → Tok) (tv t u : Tok) (m : Str → Option Value) (h : Heap) (tk : Nat) (e : s' = { s with heap := h, toks := tk }) (hlo : lo < ps) (hps : ps ≤ text.length) (hl : lexT false [c] (text.drop ps) = some (tok, rest)) (hn : ln + ((text.drop ps).count 10 : Int) = tot)
      (m1 : m "self" = some (.ref x)) (m2 : m "fiter" = some (.ref I)) (m3 : m "token" = some (.str (Mine.mk []) t)) (m4 : m "ch" = some (.str (Mine.mk [c]) u)) (F : Fr h₀ L h m) (N : News h₀ L h (tokLed w x dx fp pb al M I te n n' ln ps ts tv)) : AtSign w x dx fp pb al M I L text te n n' h₀ tok rest tot lo s s'
set_option maxRecDepth 100000 in
set_option maxHeartbeats 8000000 in
theorem token_ctr (w : World) (x dx fp pb al : Addr) (text : List Nat) (base : List (Addr × Obj)) (S : LexSpec w fp al text base) (P : LexPts x dx pb al base) (hlen : text.length ≤ 1000)
    (ln : Int) (ts : Nat → Tok) (ps n n' : Nat) (tv : Tok) (tok rest : List Nat) (hps : ps ≤ text.length) (hlex : lexS (text.drop ps) = some (tok, rest)) :
    CtrL w 98 [.ref x] [] 8 400 [(x, instObj 108 dx), (dx, dictOf (lexD w ln fp pb ts) 4), (pb, listOf #[] n'), (al, listOf #[.int (ps : Int) tv] n)] (fun h => ∀ q ∈ base, h.get? q.1 = some q.2)
      (fun _ v _ led => TokenR w x dx fp pb al text tok rest (ln + ((text.drop ps).count 10 : Int)) n n' v led) := by
  w_on
  unfold CtrL
  dsimp only [KK, prog, Cx]
  k_fill
  intro p loose mean mg mb dp un gd fr g s Q E X T st hl hpre hd hu hret
  walk_at "my enterL"
  intro L h₁ tk0 F N X' T' hlt
  simp only [List.map_cons, List.map_nil] at F N X' T'
  have gB : ∀ q ∈ base, (hideAll s.heap [x, dx, pb, al]).get? q.1 = some q.2 := fun q hq => hideAll_get _ (hpre q hq) (by
    intro z
    rcases List.mem_cons.mp z with z | z
    · exact P.bx q hq z
    · rcases List.mem_cons.mp z with z | z
      · exact P.bd q hq z
      · rcases List.mem_cons.mp z with z | z
        · exact P.bp q hq z
        · exact P.ba q hq (List.mem_singleton.mp z))
  have e1 : @Ne Nat x dx := P.xd
  have e2 : @Ne Nat x al := P.xa
  have e3 : @Ne Nat dx al := P.da
  have e4 : @Ne Nat x pb := P.xp
  have e5 : @Ne Nat dx pb := P.dp
  have e6 : @Ne Nat pb al := P.pa
  clear X st hl hlt hpre
  replace F := Fr_map (m' := mOf [("self", .ref x)]) F (fun _ => rfl)
  w_strict (walk_at "my run")
  rename News _ _ _ _ => N9
  rename Fr _ _ _ _ => F9
  rename_i tk1 h1' tk2 M h2' l1 I h3' tk3 l2 h4'
  simp only [lit_e] at N9 F9
  k_lt l2
  have hIs : ∀ a ∈ [M, x, dx, pb, al], a ≠ I := lt_ne5 l2
  have hMs : ∀ a ∈ [x, dx, pb, al], a ≠ M := lt_ne4 l1
  have h91 : ∀ h, (∀ b o, (hideAll s.heap [x, dx, pb, al]).get? b = some o → h.get? b = some o) → FnAt 91 h := by
    intro h k
    refine' fnAt_of (X'.keeps k) ?h
    case h => k_dflt k_is
  have fin : ∀ (ps2 : Nat) (ln2 : Int) (ts2 : Nat → Tok) (tv2 : Tok) (m : Str → Option Value) (h : Heap) (tk : Nat) (u : Tok) (acc : List Nat), acc = tok → ps2 ≤ text.length → text.drop ps2 = rest → ln2 + (rest.count 10 : Int) = ln + ((text.drop ps).count 10 : Int) → Fr (hideAll s.heap [x, dx, pb, al]) L h m →
      News (hideAll s.heap [x, dx, pb, al]) L h (tokLed w x dx fp pb al M I (tk2 + 1) n n' ln2 ps2 ts2 tv2) → Q (.str (mk acc) u) { s with heap := h, toks := tk } := by
    intro ps2 ln2 ts2 tv2 m h tk u acc a0 a1 a2 a3 F2 N2
    rw [a0]
    exact hret _ _ _ [(x, instObj 108 dx), (dx, dictOf (lexD w ln2 fp pb ts2) 4), (pb, listOf #[] n'), (al, listOf #[.int (ps2 : Int) tv2] n)] (butL_of F2) rfl (fun q hq => (N2 q (.tail _ (.tail _ hq))).1) ⟨u, ts2, tv2, ps2, ln2, rfl, a1, a2, by omega, rfl⟩
  refine ci_iter (N9 _ (.head _)).1 rfl ?_
  refine for_ci S P (dp := dp + 1) (un := un + 3) X' T' gB h91 (by omega) (by omega) hIs hMs
    (TokOut x I text tok rest (ln + ((text.drop ps).count 10 : Int)))
    F9 N9 ⟨by walk_at "my get", by walk_at "my get", ⟨_, by walk_at "my get"⟩, hlex, rfl⟩ hps ?_ ?_
  · intro ps' ln' m c r u ts' tv' h tk hlt ⟨m1, m2, ⟨t3, m3⟩, hl, hn⟩ hc F2 N2 Q2 E2 hq2 hz2
    clear F9 N9 hlex
    have hr := (drop_step hc).1
    rw [hc] at hl hn
    have hn2 := count_step hn
    generalize hln : (if c = 10 then ln' + 1 else ln') = ln2 at N2 hn2
    w_strict (iterate 12 walk1)
    · w_strict (walk_at "my run")
      rename News _ _ _ _ => N9
      rename Fr _ _ _ _ => F9
      rename (isWs c = true) => hw
      have h := lexS_ws2 hw hl
      dsimp only
      exact (hq2 _ ⟨ps' + 1, ln2, _, _, _, _, _, rfl, Nat.lt_succ_self _, hlt, F9, N9, by walk_at "my get", by walk_at "my get", ⟨_, by walk_at "my get"⟩, by rw [hr]; exact h, by rw [hr]; exact hn2⟩).2
    w_strict (iterate 10 walk1)
    · w_strict (walk_at "my run")
      rename News _ _ _ _ => N9
      rename Fr _ _ _ _ => F9
      rename (isWs c = false) => hw
      rename (_ = [34]) => hq
      have hq := one_sign hq
      have h0 := lexS_q hw hq hl
      refine ci_iter (N9 _ (.head _)).1 rfl ?_
      refine for_ci S P (dp := dp + 1) (un := un + 3) X' T' gB h91 (by omega) (by omega) hIs hMs
        (TokIn x text tok rest (ln + ((text.drop ps).count 10 : Int)) true)
        F9 N9 ⟨by walk_at "my get", _, _, by walk_at "my get", by rw [hr]; exact h0, Nat.zero_le _, by rw [hr]; exact hn2⟩ hlt ?_ ?_
      · rintro ps3 ln3 m c3 r3 u3 ts3 tv3 h3 tk3 hlt3 ⟨mm1, acc, t4, mm3, hl3, ha3, hn3⟩ hc3 F3 N3 Q3 E3 hq3 hz3
        clear F9 N9
        have hr3 := (drop_step hc3).1
        rw [hc3] at hl3 hn3
        have hn4 := count_step hn3
        generalize hln3 : (if c3 = 10 then ln3 + 1 else ln3) = ln4 at N3 hn4
        w_strict (walk_at "my run")
        · rename News _ _ _ _ => N9
          rename Fr _ _ _ _ => F9
          rename (_ = [34]) => hst0
          have hst := stops_q hst0
          first | exact hz2 _ _ (fin (ps3 + 1) ln4 _ _ _ _ _ _ _ (lexT_stopE hst hl3).1 hlt3 (hr3.trans (lexT_stopE hst hl3).2) ((lexT_stopE hst hl3).2 ▸ hn4) F9 N9) | exact hz3 _ _ (hz2 _ _ (fin (ps3 + 1) ln4 _ _ _ _ _ _ _ (lexT_stopE hst hl3).1 hlt3 (hr3.trans (lexT_stopE hst hl3).2) ((lexT_stopE hst hl3).2 ▸ hn4) F9 N9))
        · rename News _ _ _ _ => N9
          rename Fr _ _ _ _ => F9
          rename (_ = [92]) => hb
          have hb := one_sign hb
          rename (¬ _ = [34]) => hst0
          have hst := stops_nq hst0
          have hl4 := (lexT_bsE hst hb hl3).2
          have hc4 := hr3.trans (lexT_bsE hst hb hl3).1
          rw [(lexT_bsE hst hb hl3).1] at hn4
          generalize r3.headD 0 = d at hl4 hc4 hn4
          generalize r3.tail = r' at hl4 hc4 hn4
          have hr4 := (drop_step hc4).1
          have hlt4 := (drop_step hc4).2
          have hn5 := count_step hn4
          show wpAny _ _ (call (.ref 91) [.ref x]) _ _ _
          refine read_in S P (dp := dp + 1) (un := un + 3) X' T' gB (by omega) (by omega) hIs hMs F9 N9 hlt3 hc4 ?_
          intro u5 ts5 tv5 h5 tk5 F5 N5
          generalize hln5 : (if d = 10 then ln4 + 1 else ln4) = ln5 at N5 hn5
          clear F9 N9
          w_strict (walk_at "my run")
          rename News _ _ _ _ => N9
          rename Fr _ _ _ _ => F9
          exact (hq3 _ ⟨ps3 + 1 + 1, ln5, _, _, _, _, _, rfl, Nat.lt_succ_of_lt (Nat.lt_succ_self _), hlt4, F9, N9, by walk_at "my get", acc ++ [d], _, by walk_at "my get", by rw [hr4]; exact hl4, snoc_le ha3 (Nat.le_succ _), by rw [hr4]; exact hn5⟩).1
        · rename News _ _ _ _ => N9
          rename Fr _ _ _ _ => F9
          rename (¬ _ = [92]) => hb
          have hb : ¬ c3 = 92 := fun e => hb (by rw [e])
          rename (¬ _ = [34]) => hst0
          have hst := stops_nq hst0
          have hl4 := lexT_onE hst hb hl3
          exact (hq3 _ ⟨ps3 + 1, ln4, _, _, _, _, _, rfl, Nat.lt_succ_self _, hlt3, F9, N9, by walk_at "my get", acc ++ [c3], _, by walk_at "my get", by rw [hr3]; exact hl4, snoc_le ha3 (Nat.le_refl _), by rw [hr3]; exact hn4⟩).1
      · rintro ps3 ln3 m ts3 tv3 h3 tk3 ⟨_, acc, _, _, hl3, _⟩ _ hnil _ _
        rw [hnil] at hl3
        cases hl3
    · refine cutV (AtSign w x dx fp pb al M I L text (tk2 + 1) n n' (hideAll s.heap [x, dx, pb, al]) tok rest (ln + ((text.drop ps).count 10 : Int)) ps' s) ?_ ?_
      · intro Q1 E1 hQ1
        w_strict (walk_at "my run")
        · rename News _ _ _ _ => N9
          rename Fr _ _ _ _ => F9
          rename (isWs c = false) => hw
          rename (_ = [92]) => hq
          have hq := one_sign hq
          have h0 := (lexS_bs hw hq hl).2
          have hc4 := hr.trans (lexS_bs hw hq hl).1
          rw [(lexS_bs hw hq hl).1] at hn2
          generalize r.headD 0 = d at h0 hc4 hn2
          generalize r.tail = r' at h0 hc4 hn2
          have hr2 := (drop_step hc4).1
          have hlt2 := (drop_step hc4).2
          have hn5 := count_step hn2
          show wpAny _ _ (call (.ref 91) [.ref x]) _ _ _
          refine read_in S P (dp := dp + 1) (un := un + 3) X' T' gB (by omega) (by omega) hIs hMs F9 N9 hlt hc4 ?_
          intro u5 ts5 tv5 h5 tk5 F5 N5
          dsimp only
          generalize hln5 : (if d = 10 then ln2 + 1 else ln2) = ln5 at N5 hn5
          clear F9 N9
          w_strict (walk_at "my run")
          rename News _ _ _ _ => N9
          rename Fr _ _ _ _ => F9
          exact hQ1 _ (.mk d _ ln5 _ _ _ _ _ _ _ rfl (Nat.lt_succ_of_lt (Nat.lt_succ_self _)) hlt2 (by rw [hr2]; exact h0) (by rw [hr2]; exact hn5) (by walk_at "my get") (by walk_at "my get") (by walk_at "my get") (by walk_at "my get") F9 N9)
        · rename News _ _ _ _ => N9
          rename Fr _ _ _ _ => F9
          rename (isWs c = false) => hw
          rename (¬ _ = [34]) => hq1
          rename (¬ _ = [92]) => hq2
          have h0 := lexS_bare hw (fun h => hq1 (congrArg (fun c => [c]) h)) (fun h => hq2 (congrArg (fun c => [c]) h)) hl
          exact hQ1 _ (.mk c _ ln2 _ _ _ _ _ _ _ rfl (Nat.lt_succ_self _) hlt (by rw [hr]; exact h0) (by rw [hr]; exact hn2) (by walk_at "my get") (by walk_at "my get") (by walk_at "my get") (by walk_at "my get") F9 N9)
      rintro _ ⟨c7, ps7, ln7, ts7, tv7, t7, u7, m7, h7, tk7, rfl, hlo, hps7, h0, hn7, n1, n2, n3, n4, F7, N7⟩
      w_strict (walk_at "my run")
      rename News _ _ _ _ => N9
      rename Fr _ _ _ _ => F9
      refine ci_iter (N9 _ (.head _)).1 rfl ?_
      refine for_ci S P (dp := dp + 1) (un := un + 3) X' T' gB h91 (by omega) (by omega) hIs hMs
        (TokIn x text tok rest (ln + ((text.drop ps).count 10 : Int)) false)
        F9 N9 ⟨by walk_at "my get", _, _, by walk_at "my get", h0, Nat.lt_of_le_of_lt (Nat.zero_le _) hlo, hn7⟩ hps7 ?_ ?_
      · rintro ps3 ln3 m c3 r3 u3 ts3 tv3 h3 tk3 hlt3 ⟨mm1, acc, t4, mm3, hl3, ha3, hn3⟩ hc3 F3 N3 Q3 E3 hq3 hz3
        clear F9 N9
        have hr3 := (drop_step hc3).1
        rw [hc3] at hl3 hn3
        have hn4 := count_step hn3
        generalize hln3 : (if c3 = 10 then ln3 + 1 else ln3) = ln4 at N3 hn4
        w_strict (walk_at "my run")
        · rename News _ _ _ _ => N9
          rename Fr _ _ _ _ => F9
          rename (isWs c3 = true) => hst0
          have hst : stops false c3 = true := hst0
          first | exact hz2 _ _ (fin (ps3 + 1) ln4 _ _ _ _ _ _ _ (lexT_stopE hst hl3).1 hlt3 (hr3.trans (lexT_stopE hst hl3).2) ((lexT_stopE hst hl3).2 ▸ hn4) F9 N9) | exact hz3 _ _ (hz2 _ _ (fin (ps3 + 1) ln4 _ _ _ _ _ _ _ (lexT_stopE hst hl3).1 hlt3 (hr3.trans (lexT_stopE hst hl3).2) ((lexT_stopE hst hl3).2 ▸ hn4) F9 N9))
        · rename News _ _ _ _ => N9
          rename Fr _ _ _ _ => F9
          rename (_ = [92]) => hb
          have hb := one_sign hb
          rename (isWs c3 = false) => hst0
          have hst : stops false c3 = false := hst0
          have hl4 := (lexT_bsE hst hb hl3).2
          have hc4 := hr3.trans (lexT_bsE hst hb hl3).1
          rw [(lexT_bsE hst hb hl3).1] at hn4
          generalize r3.headD 0 = d at hl4 hc4 hn4
          generalize r3.tail = r' at hl4 hc4 hn4
          have hr4 := (drop_step hc4).1
          have hlt4 := (drop_step hc4).2
          have hn5 := count_step hn4
          show wpAny _ _ (call (.ref 91) [.ref x]) _ _ _
          refine read_in S P (dp := dp + 1) (un := un + 3) X' T' gB (by omega) (by omega) hIs hMs F9 N9 hlt3 hc4 ?_
          intro u5 ts5 tv5 h5 tk5 F5 N5
          generalize hln5 : (if d = 10 then ln4 + 1 else ln4) = ln5 at N5 hn5
          clear F9 N9
          w_strict (walk_at "my run")
          rename News _ _ _ _ => N9
          rename Fr _ _ _ _ => F9
          exact (hq3 _ ⟨ps3 + 1 + 1, ln5, _, _, _, _, _, rfl, Nat.lt_succ_of_lt (Nat.lt_succ_self _), hlt4, F9, N9, by walk_at "my get", acc ++ [d], _, by walk_at "my get", by rw [hr4]; exact hl4, snoc_le ha3 (Nat.le_succ _), by rw [hr4]; exact hn5⟩).1
        · rename News _ _ _ _ => N9
          rename Fr _ _ _ _ => F9
          rename (¬ _ = [92]) => hb
          have hb : ¬ c3 = 92 := fun e => hb (by rw [e])
          rename (isWs c3 = false) => hst0
          have hst : stops false c3 = false := hst0
          have hl4 := lexT_onE hst hb hl3
          exact (hq3 _ ⟨ps3 + 1, ln4, _, _, _, _, _, rfl, Nat.lt_succ_self _, hlt3, F9, N9, by walk_at "my get", acc ++ [c3], _, by walk_at "my get", by rw [hr3]; exact hl4, snoc_le ha3 (Nat.le_refl _), by rw [hr3]; exact hn4⟩).1
      · rintro ps3 ln3 m ts3 tv3 h3 tk3 ⟨_, acc, _, _, hl3, _⟩ _ hnil _ _
        rw [hnil] at hl3
        cases hl3
  · rintro ps' ln' m ts' tv' h tk ⟨m1, m2, ⟨t3, m3⟩, hl, hn⟩ hps' hnil F2 N2
    rw [hnil] at hl hn
    cases hl
    dsimp only
    clear F9 N9
    w_strict (walk_at "my run")
    exact hret _ _ _ [(x, instObj 108 dx), (dx, dictOf (lexD w ln' fp pb ts') 4), (pb, listOf #[] n'), (al, listOf #[.int (ps' : Int) tv'] n)] (butL_of F2) rfl (fun q hq => (N2 q (.tail _ (.tail _ hq))).1) ⟨_, ts', tv', ps', ln', rfl, hps', hnil, by omega, rfl⟩
end
section
theorem ln_WPush0 : True := by
  k_with_none
  k_with "my mk" => (first | (with_reducible rfl) | exact lit_e | exact lit_nl | exact lit_tab | exact lit_q | exact lit_qs | exact lit_bs)
  k_with "my len" => (((try simp only [List.length_append, List.length_cons, List.length_nil, List.length_map]); omega))
  k_with "my get" => (first | with_reducible assumption | rfl | ((repeat' (refine (if_neg (by decide)).trans ?_)); first | with_reducible assumption | rfl))
  k_with "eval Name" => ((k_here; k_dflt (first
  | (refine' nameX_L ?zF ?zv ?_ ?za ?zb; (case za => rfl); (case zb => rfl); (case zF => with_reducible assumption); (case zv => walk_at "my get"))
  | (refine' nmL ?zn ?zv ?_ ?zl ?za ?zb; (case za => rfl); (case zb => rfl); (case zl => rfl); (case zn => with_reducible assumption); (case zv => walk_at "my get"))
  | (refine' nmC ?zc ?zo ?zd ?_ ?za ?zb; (case za => rfl); (case zb => rfl); (case zc => rfl); (case zo => with_reducible assumption); (case zd => with_reducible assumption)))))
  k_with "binaryOp Add str str" => ((k_here; refine' add_mk ?za ?zb ?zl ?_; (case za => walk_at "my mk"); (case zb => walk_at "my mk"); (case zl => walk_at "my len"); intro _ _; (try dsimp only)))
  k_with "inplaceOp Add str str" => ((k_here; refine' iadd_mk ?za ?zb ?zl ?_; (case za => walk_at "my mk"); (case zb => walk_at "my mk"); (case zl => walk_at "my len"); intro _ _; (try dsimp only)))
  k_with "compareOp Eq str str" => ((k_here; refine' eq_mk ?za ?zb ?_; (case za => walk_at "my mk"); (case zb => walk_at "my mk")))
  k_with "compareOp NotEq str str" => ((k_here; refine' ne_mk ?za ?zb ?_; (case za => walk_at "my mk"); (case zb => walk_at "my mk")))
  k_with "eval ListComp" => ((k_here; k_dflt (refine' comp_open ?zc ?_ ?zk ?zn ?zs; (case zc => with_unfolding_all rfl); (case zk => rfl); (case zn => decide); (case zs => (intro _; rfl)))))
  k_with "my enter" => ((refine' enterP (by assumption) (TopRead.nolimit (by assumption)) ?zk8 ?zk6 ?zk7 ?zk9 ?zkB ?_ ?zc1 ?zc2 ?zc3 ?zc4; (case zk8 => (dsimp only); omega); (case zk6 => k_dflt k_is); (case zk7 => k_dflt k_is); (case zk9 => first | exact BindsTo.of_eq rfl | exact binds_K (by assumption) rfl (by k_dflt k_is) rfl rfl rfl | exact kp_binds (by assumption) (fun _ => by with_unfolding_all rfl)); (case zkB => exact locs rfl); (case zc1 => decide); (case zc2 => exact rfl); (case zc3 => exact rfl); (case zc4 => exact rfl)))
  k_with "my enterC" => ((refine' enterC (by assumption) (TopRead.nolimit (by assumption)) ?zk8 ?zk6 ?zk7 ?zk9 ?zkB ?zkD ?_ ?zc2 ?zc3 ?zc4; (case zk8 => (dsimp only); omega); (case zk6 => k_dflt k_is); (case zk7 => k_dflt k_is); (case zk9 => first | exact BindsTo.of_eq rfl | exact binds_K (by assumption) rfl (by k_dflt k_is) rfl rfl rfl | exact kp_binds (by assumption) (fun _ => by with_unfolding_all rfl)); (case zkB => exact rfl); (case zkD => decide +kernel); (case zc2 => exact rfl); (case zc3 => exact rfl); (case zc4 => exact rfl)))
  k_with "my run" => (repeat' (first | ((with_reducible show wpAny _ _ _ _ _ _); walk1) | ((with_reducible show (if _ = true then _ else _)); walk1) | ((with_reducible show Frag.In _ _ ∧ _); walk1) | (dsimp only; (with_reducible show wpAny _ _ _ _ _ _); walk1)))
  k_with "my list" => (first | assumption | exact stays_list (Fr.keep (by assumption)) (by assumption) | exact ⟨_, News.get (by assumption) (by k_mem), rfl, _, rfl⟩)
  k_with "call builtin:len" => ((k_here; (with_reducible show wpAny _ _ (call (Value.builtin "len") [Value.ref _]) _ _ _); k_dflt (refine' len_list ?zl ?zf ?_; (case zl => walk_at "my list"); (case zf => first | ((simp only [List.size_toArray]); omega)))))
  k_with "exec For Name Call cons nil" => ((k_here; k_dflt (refine' for_open ?_ ?zs; (case zs => (intro _; rfl)))))
  k_with "exec For Name Name cons nil" => ((k_here; k_dflt (refine' for_open ?_ ?zs; (case zs => (intro _; rfl)))))
  k_with "exec For" => ((k_here; k_dflt (refine' for_open ?_ ?zs; (case zs => (intro _; rfl)))))
  k_with "truthy ref" => ((k_here; k_dflt (refine' truthy_cons ?zl ?zf ?_; (case zl => walk_at "my list"); (case zf => omega))))
  k_with "my enterL" => ((refine' enterL (by assumption) (by assumption) (by assumption) (by assumption) ?zk8 ?zk6 ?zk7 ?zk9 ?zkB ?_ ?zc1 ?zc2 ?zc3 ?zc4; (case zk8 => (dsimp only); omega); (case zk6 => k_dflt k_is); (case zk7 => k_dflt k_is); (case zk9 => first | exact BindsTo.of_eq rfl | exact binds_K (Frag.In.keeps (by assumption) (by assumption)) rfl (by k_dflt k_is) rfl rfl rfl | exact kp_binds (Frag.In.keeps (by assumption) (by assumption)) (fun _ => by with_unfolding_all rfl)); (case zkB => exact locs rfl); (case zc1 => decide); (case zc2 => exact rfl); (case zc3 => exact rfl); (case zc4 => exact rfl)))
  exact True.intro
set_option maxRecDepth 100000 in
set_option maxHeartbeats 8000000 in
theorem push_ctr (w : World) (x dx fp pb : Addr) (e1 : @Ne Nat x dx) (e4 : @Ne Nat x pb) (e5 : @Ne Nat dx pb) (ln : Int) (ts : Nat → Tok) (vs : List Value) (n : Nat) (v : Value) (hv : vs.length ≤ 1000) :
    CtrL w 105 [.ref x, v] [] 8 400 [(x, instObj 108 dx), (dx, dictOf (lexD w ln fp pb ts) 4), (pb, listOf vs.toArray n)] (fun _ => True)
      (fun _ _ _ led => ∃ n', led = [(x, instObj 108 dx), (dx, dictOf (lexD w ln fp pb ts) 4), (pb, listOf (vs ++ [v]).toArray n')]) := by
  w_on
  unfold CtrL
  dsimp only [KK, prog, Cx]
  k_fill
  intro p loose mean mg mb dp un gd fr g s Q E X T st hl hpre hd hu hret
  walk_at "my enterL"
  intro L h₁ tk0 F N X' T' hlt
  simp only [List.map_cons, List.map_nil] at F N X' T'
  clear X st hl hlt hpre
  replace F := Fr_map (m' := mOf [("self", .ref x), ("token", v)]) F (fun _ => rfl)
  w_strict (walk_at "my run")
  show wpAny _ _ (call (.builtin "list.append") [.ref pb, v]) _ _ _
  refine' append_K (its := vs.toArray) ?k1 ?k2 ?k3 ?_ ?z
  case k1 => k_asm
  case k2 => k_asm
  case k3 => k_upd
  case z => rw [List.size_toArray, sizeLine_eq]; omega
  intro h' F' N'
  w_strict (walk_at "my run")
  exact hret _ _ _ [(x, instObj 108 dx), (dx, dictOf (lexD w ln fp pb ts) 4), (pb, listOf (vs ++ [v]).toArray (n + 1))] (butL_of F') rfl (fun q hq => (N' q (by rw [List.push_toArray]; exact hq)).1) ⟨_, rfl⟩
set_option maxRecDepth 100000 in
set_option maxHeartbeats 8000000 in
theorem pop_ctr (w : World) (x dx fp pb : Addr) (e1 : @Ne Nat x dx) (e4 : @Ne Nat x pb) (e5 : @Ne Nat dx pb) (ln : Int) (ts : Nat → Tok) (vs : List Value) (n : Nat) (v : Value) (hv : vs.length ≤ 1000) :
    CtrL w 98 [.ref x] [] 8 400 [(x, instObj 108 dx), (dx, dictOf (lexD w ln fp pb ts) 4), (pb, listOf (v :: vs).toArray n)] (fun _ => True)
      (fun _ r _ led => r = v ∧ ∃ n', led = [(x, instObj 108 dx), (dx, dictOf (lexD w ln fp pb ts) 4), (pb, listOf vs.toArray n')]) := by
  w_on
  unfold CtrL
  dsimp only [KK, prog, Cx]
  k_fill
  intro p loose mean mg mb dp un gd fr g s Q E X T st hl hpre hd hu hret
  walk_at "my enterL"
  intro L h₁ tk0 F N X' T' hlt
  simp only [List.map_cons, List.map_nil] at F N X' T'
  clear X st hl hlt hpre
  replace F := Fr_map (m' := mOf [("self", .ref x)]) F (fun _ => rfl)
  w_strict (walk_at "my run")
  show wpAny _ _ (call (.builtin "list.pop") [.ref pb, .int 0 _]) _ _ _
  refine' kl_popAt (its := (v :: vs).toArray) (k := 0) (p := []) (q := vs) (y := v) ?F ?N ?hf ?hk ?e ?U ?hz ?_
  case F => k_asm
  case N => k_asm
  case hf => decide
  case hk => simp [seqIndex?]
  case e => rfl
  case U => k_upd
  case hz => simp only [List.toList_toArray, List.length_cons, sizeLine_eq]; omega
  intro h' F' N'
  w_strict (walk_at "my run")
  exact hret _ _ _ [(x, instObj 108 dx), (dx, dictOf (lexD w ln fp pb ts) 4), (pb, listOf vs.toArray (n + 1))] (butL_of F') rfl (fun q hq => (N' q hq).1) ⟨rfl, _, rfl⟩
end
section
theorem ln_WConv0 : True := by
  k_with_none
  k_with "my mk" => (first | (with_reducible rfl) | exact lit_e | exact lit_nl | exact lit_tab | exact lit_q | exact lit_qs | exact lit_bs)
  k_with "my len" => (((try simp only [List.length_append, List.length_cons, List.length_nil, List.length_map]); omega))
  k_with "my get" => (first | with_reducible assumption | rfl | ((repeat' (refine (if_neg (by decide)).trans ?_)); first | with_reducible assumption | rfl))
  k_with "eval Name" => ((k_here; k_dflt (first
  | (refine' nameX_L ?zF ?zv ?_ ?za ?zb; (case za => rfl); (case zb => rfl); (case zF => with_reducible assumption); (case zv => walk_at "my get"))
  | (refine' nmL ?zn ?zv ?_ ?zl ?za ?zb; (case za => rfl); (case zb => rfl); (case zl => rfl); (case zn => with_reducible assumption); (case zv => walk_at "my get"))
  | (refine' nmC ?zc ?zo ?zd ?_ ?za ?zb; (case za => rfl); (case zb => rfl); (case zc => rfl); (case zo => with_reducible assumption); (case zd => with_reducible assumption)))))
  k_with "binaryOp Add str str" => ((k_here; refine' add_mk ?za ?zb ?zl ?_; (case za => walk_at "my mk"); (case zb => walk_at "my mk"); (case zl => walk_at "my len"); intro _ _; (try dsimp only)))
  k_with "inplaceOp Add str str" => ((k_here; refine' iadd_mk ?za ?zb ?zl ?_; (case za => walk_at "my mk"); (case zb => walk_at "my mk"); (case zl => walk_at "my len"); intro _ _; (try dsimp only)))
  k_with "compareOp Eq str str" => ((k_here; refine' eq_mk ?za ?zb ?_; (case za => walk_at "my mk"); (case zb => walk_at "my mk")))
  k_with "compareOp NotEq str str" => ((k_here; refine' ne_mk ?za ?zb ?_; (case za => walk_at "my mk"); (case zb => walk_at "my mk")))
  k_with "eval ListComp" => ((k_here; k_dflt (refine' comp_open ?zc ?_ ?zk ?zn ?zs; (case zc => with_unfolding_all rfl); (case zk => rfl); (case zn => decide); (case zs => (intro _; rfl)))))
  k_with "my enter" => ((refine' enterP (by assumption) (TopRead.nolimit (by assumption)) ?zk8 ?zk6 ?zk7 ?zk9 ?zkB ?_ ?zc1 ?zc2 ?zc3 ?zc4; (case zk8 => (dsimp only); omega); (case zk6 => k_dflt k_is); (case zk7 => k_dflt k_is); (case zk9 => first | exact BindsTo.of_eq rfl | exact binds_K (by assumption) rfl (by k_dflt k_is) rfl rfl rfl | exact kp_binds (by assumption) (fun _ => by with_unfolding_all rfl)); (case zkB => exact locs rfl); (case zc1 => decide); (case zc2 => exact rfl); (case zc3 => exact rfl); (case zc4 => exact rfl)))
  k_with "my enterC" => ((refine' enterC (by assumption) (TopRead.nolimit (by assumption)) ?zk8 ?zk6 ?zk7 ?zk9 ?zkB ?zkD ?_ ?zc2 ?zc3 ?zc4; (case zk8 => (dsimp only); omega); (case zk6 => k_dflt k_is); (case zk7 => k_dflt k_is); (case zk9 => first | exact BindsTo.of_eq rfl | exact binds_K (by assumption) rfl (by k_dflt k_is) rfl rfl rfl | exact kp_binds (by assumption) (fun _ => by with_unfolding_all rfl)); (case zkB => exact rfl); (case zkD => decide +kernel); (case zc2 => exact rfl); (case zc3 => exact rfl); (case zc4 => exact rfl)))
  k_with "my run" => (repeat' (first | ((with_reducible show wpAny _ _ _ _ _ _); walk1) | ((with_reducible show (if _ = true then _ else _)); walk1) | ((with_reducible show Frag.In _ _ ∧ _); walk1) | (dsimp only; (with_reducible show wpAny _ _ _ _ _ _); walk1)))
  k_with "my list" => (first | assumption | exact stays_list (Fr.keep (by assumption)) (by assumption) | exact ⟨_, News.get (by assumption) (by k_mem), rfl, _, rfl⟩)
  k_with "call builtin:len" => ((k_here; (with_reducible show wpAny _ _ (call (Value.builtin "len") [Value.ref _]) _ _ _); k_dflt (refine' len_list ?zl ?zf ?_; (case zl => walk_at "my list"); (case zf => first | ((simp only [List.size_toArray]); omega)))))
  k_with "exec For Name Call cons nil" => ((k_here; k_dflt (refine' for_open ?_ ?zs; (case zs => (intro _; rfl)))))
  k_with "exec For Name Name cons nil" => ((k_here; k_dflt (refine' for_open ?_ ?zs; (case zs => (intro _; rfl)))))
  k_with "exec For" => ((k_here; k_dflt (refine' for_open ?_ ?zs; (case zs => (intro _; rfl)))))
  k_with "getMethod ref" => ((k_here; (refine' pat_method (Fr.keep ?zF _ _ (in_at ?zX ?ze)) ?_); (case zF => k_asm); (case zX => k_asm); (case ze => k_dflt k_is)))
  exact True.intro
set_option maxRecDepth 100000 in
set_option maxHeartbeats 8000000 in
theorem conv_ctr (w : World) (self : Value) (n : Nat) (t : Tok) (b : Bool) (hn : n < 64) :
    Ctr w 144 [self, .str (mk (letters n)) t] [("name", .bool b)] 4 200 (fun _ => True) (fun h v h' => h.StaysIn h' ∧ v = .str (mk (letters n)) t) := by
  w_on
  unfold Ctr
  dsimp only [KK, prog, Cx]
  k_fill
  intro p loose mg mb dp un gd fr s Q E X T hd hu hp hret
  walk_at "my enter"
  intro L h₁ tk0 F N
  replace F := Fr_map (m' := mOf [("self", self), ("value", .str (mk (letters n)) t), ("name", .bool b)]) F (fun _ => rfl)
  w_strict (walk_at "my run")
  all_goals
    rename Fr _ _ _ _ => F9
    refine' search_none (k := 200) (F9.keep _ _ (in_at X ?e)) ?h5 ?h6 (F9.keep _ _ (in_at X ?e2)) ?hf ?hk ?_
    case e => k_dflt k_is
    case h5 => rfl
    case h6 => rfl
    case e2 => k_dflt k_is
    case hk => decide
    case hf =>
      refine' fails_letters ?a hn
      case a => decide +kernel
    w_strict (walk_at "my run")
    exact hret _ _ _ ⟨Fr.keep (by assumption), rfl⟩
end
section
theorem ln_WHdr0 : True := by
  k_with_none
  k_with "my mk" => (first | (with_reducible rfl) | exact lit_e | exact lit_nl | exact lit_tab | exact lit_q | exact lit_qs | exact lit_bs)
  k_with "my len" => (((try simp only [List.length_append, List.length_cons, List.length_nil, List.length_map]); omega))
  k_with "my get" => (first | with_reducible assumption | rfl | ((repeat' (refine (if_neg (by decide)).trans ?_)); first | with_reducible assumption | rfl))
  k_with "eval Name" => ((k_here; k_dflt (first
  | (refine' nameX_L ?zF ?zv ?_ ?za ?zb; (case za => rfl); (case zb => rfl); (case zF => with_reducible assumption); (case zv => walk_at "my get"))
  | (refine' nmL ?zn ?zv ?_ ?zl ?za ?zb; (case za => rfl); (case zb => rfl); (case zl => rfl); (case zn => with_reducible assumption); (case zv => walk_at "my get"))
  | (refine' nmC ?zc ?zo ?zd ?_ ?za ?zb; (case za => rfl); (case zb => rfl); (case zc => rfl); (case zo => with_reducible assumption); (case zd => with_reducible assumption)))))
  k_with "binaryOp Add str str" => ((k_here; refine' add_mk ?za ?zb ?zl ?_; (case za => walk_at "my mk"); (case zb => walk_at "my mk"); (case zl => walk_at "my len"); intro _ _; (try dsimp only)))
  k_with "inplaceOp Add str str" => ((k_here; refine' iadd_mk ?za ?zb ?zl ?_; (case za => walk_at "my mk"); (case zb => walk_at "my mk"); (case zl => walk_at "my len"); intro _ _; (try dsimp only)))
  k_with "compareOp Eq str str" => ((k_here; refine' eq_mk ?za ?zb ?_; (case za => walk_at "my mk"); (case zb => walk_at "my mk")))
  k_with "compareOp NotEq str str" => ((k_here; refine' ne_mk ?za ?zb ?_; (case za => walk_at "my mk"); (case zb => walk_at "my mk")))
  k_with "eval ListComp" => ((k_here; k_dflt (refine' comp_open ?zc ?_ ?zk ?zn ?zs; (case zc => with_unfolding_all rfl); (case zk => rfl); (case zn => decide); (case zs => (intro _; rfl)))))
  k_with "my enter" => ((refine' enterP (by assumption) (TopRead.nolimit (by assumption)) ?zk8 ?zk6 ?zk7 ?zk9 ?zkB ?_ ?zc1 ?zc2 ?zc3 ?zc4; (case zk8 => (dsimp only); omega); (case zk6 => k_dflt k_is); (case zk7 => k_dflt k_is); (case zk9 => first | exact BindsTo.of_eq rfl | exact binds_K (by assumption) rfl (by k_dflt k_is) rfl rfl rfl | exact kp_binds (by assumption) (fun _ => by with_unfolding_all rfl)); (case zkB => exact locs rfl); (case zc1 => decide); (case zc2 => exact rfl); (case zc3 => exact rfl); (case zc4 => exact rfl)))
  k_with "my enterC" => ((refine' enterC (by assumption) (TopRead.nolimit (by assumption)) ?zk8 ?zk6 ?zk7 ?zk9 ?zkB ?zkD ?_ ?zc2 ?zc3 ?zc4; (case zk8 => (dsimp only); omega); (case zk6 => k_dflt k_is); (case zk7 => k_dflt k_is); (case zk9 => first | exact BindsTo.of_eq rfl | exact binds_K (by assumption) rfl (by k_dflt k_is) rfl rfl rfl | exact kp_binds (by assumption) (fun _ => by with_unfolding_all rfl)); (case zkB => exact rfl); (case zkD => decide +kernel); (case zc2 => exact rfl); (case zc3 => exact rfl); (case zc4 => exact rfl)))
  k_with "my run" => (repeat' (first | ((with_reducible show wpAny _ _ _ _ _ _); walk1) | ((with_reducible show (if _ = true then _ else _)); walk1) | ((with_reducible show Frag.In _ _ ∧ _); walk1) | (dsimp only; (with_reducible show wpAny _ _ _ _ _ _); walk1)))
  k_with "my list" => (first | assumption | exact stays_list (Fr.keep (by assumption)) (by assumption) | exact ⟨_, News.get (by assumption) (by k_mem), rfl, _, rfl⟩)
  k_with "call builtin:len" => ((k_here; (with_reducible show wpAny _ _ (call (Value.builtin "len") [Value.ref _]) _ _ _); k_dflt (refine' len_list ?zl ?zf ?_; (case zl => walk_at "my list"); (case zf => first | ((simp only [List.size_toArray]); omega)))))
  k_with "exec For Name Call cons nil" => ((k_here; k_dflt (refine' for_open ?_ ?zs; (case zs => (intro _; rfl)))))
  k_with "exec For Name Name cons nil" => ((k_here; k_dflt (refine' for_open ?_ ?zs; (case zs => (intro _; rfl)))))
  k_with "exec For" => ((k_here; k_dflt (refine' for_open ?_ ?zs; (case zs => (intro _; rfl)))))
  k_with "my enterK" => ((refine' enterK (by assumption) (by assumption) (by assumption) (by assumption) ?zk8 ?zk6 ?zk7 ?zk9 ?zkB ?_ ?zc1 ?zc2 ?zc3 ?zc4; (case zk8 => (dsimp only); omega); (case zk6 => k_dflt k_is); (case zk7 => k_dflt k_is); (case zk9 => first | exact BindsTo.of_eq rfl | exact binds_K (Frag.In.keeps (by assumption) (by assumption)) rfl (by k_dflt k_is) rfl rfl rfl | exact kp_binds (Frag.In.keeps (by assumption) (by assumption)) (fun _ => by with_unfolding_all rfl)); (case zkB => exact locs rfl); (case zc1 => decide); (case zc2 => exact rfl); (case zc3 => exact rfl); (case zc4 => exact rfl)))
  k_with "exec For Tuple Name cons nil" => ((k_here; k_dflt (refine' for_openT ?_ ?zs; (case zs => (intro _; rfl)))))
  exact True.intro
theorem type_listB {prog : Program} {w : World} {A : Around} {E : Value → Shared → Prop} {s : Shared} {Q : Value → Shared → Prop} {h₀ : Heap} {L l : Addr} {m : Str → Option Value} {items : Array Value} (F : Fr h₀ L s.heap m) (hl : h₀.IsList l items) (h : Q (.type "list") s) :
    wpAny (model prog w) A (call (.type "type") [.ref l]) Q E s := by
  obtain ⟨o, e, c, _⟩ := hl
  obtain ⟨hh, g, d, t, os⟩ := s
  exact call_type_obj (F.keep _ _ e) (by rw [c]; rfl) (by rw [c]; exact h)
theorem ln_WHdr1 : True := by
  k_with "call type:type" => ((k_here; (with_reducible show wpAny _ _ (call (Value.type "type") [Value.ref _]) _ _ _); (refine' type_listB ?zF ?zl ?_; (case zF => k_asm); (case zl => assumption))))
  k_with "call ref" => ((k_here; (refine' Ctr.use (conv_ctr _ _ _ _ _ (by assumption)) ?zhR ?zF ?zX ?zN ?zT ?zd ?zu ?zpr ?_; (case zhR => exact fun _ _ _ r => r.1); (case zF => k_asm); (case zX => k_asm); (case zN => k_asm); (case zT => first | assumption | exact topRead_of (by assumption)); (case zd => (dsimp only); omega); (case zu => (dsimp only); omega); (case zpr => trivial)); intro _ _ _ _ _ _ r9; obtain ⟨_, e9⟩ := r9; subst e9; (try k_sweep)))
  exact True.intro
/-- the table's fields -/
abbrev hdrD (w : World) (l : Addr) (t : Tok) : List DictEntry := [⟨PyData.keyHash w.params "_headers", .str "_headers" t, .ref l⟩]
set_option maxRecDepth 100000 in
set_option maxHeartbeats 8000000 in
theorem hdrInit_ctr (w : World) (x dx l : Addr) (hol : Nat) (hh : hol < 64) (vs : List Value) (cs : List Nat) (hcl : ∀ c ∈ cs, isLow c = true) (hlen : cs.length ≤ 100) (h1 : @Ne Nat x dx) (h2 : @Ne Nat l x) (h3 : @Ne Nat l dx) :
    CtrK w 137 [.ref x, .ref l] [] 8 600 [(x, instObj 245 dx), (dx, dictOf [] 0)] (fun h => h.IsList l vs.toArray ∧ Prs (letters hol) [x, dx] h vs cs)
      (fun h v h' led => v = .none ∧ ∃ t, led = [(x, instObj 245 dx), (dx, dictOf (hdrD w l t) 1)]) := by
  w_on
  unfold CtrK
  dsimp only [KK, prog, Cx]
  k_fill
  intro p loose mean mg mb dp un gd fr g s Q X T st hl hpre hd hu hret
  walk_at "my enterK"
  intro L h₁ tk0 F N X' T' hlt
  simp only [List.map_cons, List.map_nil] at F N X' T'
  have hlt1 : @LT.lt Nat _ x L := hlt _ (.head _)
  have hlt2 : @LT.lt Nat _ dx L := hlt _ (.tail _ (.head _))
  obtain ⟨hp1, hp2⟩ := hpre
  have hp3 : Prs (letters hol) [x, dx] (hideAll s.heap [x, dx]) vs cs := hp2.hide (fun _ h => h)
  have hp4 : (hideAll s.heap [x, dx]).IsList l vs.toArray := by
    obtain ⟨o, e, r⟩ := hp1
    exact ⟨o, hideAll_get _ e (by simp [h2, h3]), r⟩
  clear X st hl hlt
  replace F := Fr_map (m' := mOf [("self", .ref x), ("headers", .ref l)]) F (fun _ => rfl)
  w_strict (walk_at "my run")
  rename Fr _ _ _ _ => F9
  rename News _ _ _ _ => N9
  obtain ⟨tt, N9'⟩ : ∃ tt, News (hideAll s.heap [x, dx]) L _ [(x, instObj 245 dx), (dx, dictOf (hdrD w l tt) 1)] := ⟨_, fun q hq => N9 q hq⟩
  clear N9
  refine for_pairs (led₀ := [(x, instObj 245 dx), (dx, dictOf (hdrD w l tt) 1)]) rfl rfl hp4 (fun _ a b => ∃ n t u, n < 64 ∧ a = .str (mk (letters n)) t ∧ b = .str (mk (letters hol)) u) ?hT
    (fun _ m led => m "self" = some (.ref x) ∧ led = [(x, instObj 245 dx), (dx, dictOf (hdrD w l tt) 1)]) F9 N9' ⟨by walk_at "my get", rfl⟩ ?turn ?done rfl rfl rfl
  case hT =>
    intro i v hv
    obtain ⟨c, hc, T, t, u, rfl, _, hT⟩ := Paired.getL hp3 hv
    obtain ⟨n, hn, e⟩ := one_letter c (hcl c (List.mem_of_getElem? hc))
    exact ⟨T, _, _, rfl, hT, n, t, u, hn, by rw [e], rfl⟩
  case done =>
    rintro h tk m led ⟨_, rfl⟩ F' N'
    w_strict (walk_at "my run")
    exact hret _ _ _ [(x, instObj 245 dx), (dx, dictOf (hdrD w l tt) 1)] (butL_of F') rfl (fun q hq => (N' q hq).1) ⟨rfl, _, rfl⟩
  case turn =>
    rintro I i h tk m led oI a b hi ⟨mg', rfl⟩ ⟨n, t, u, hn, rfl, rfl⟩ F' N' hne
    w_strict (walk_at "my run")
    rename Fr _ _ _ _ => F8
    rename News _ _ _ _ => N8
    exact ⟨_, _, _, _, rfl, F8, N8, hne, ⟨by walk_at "my get", rfl⟩, fun b hb => nomatch hb⟩
end
section
theorem ln_WDel0 : True := by
  k_with_none
  k_with "my mk" => (first | (with_reducible rfl) | exact lit_e | exact lit_nl | exact lit_tab | exact lit_q | exact lit_qs | exact lit_bs)
  k_with "my len" => (((try simp only [List.length_append, List.length_cons, List.length_nil, List.length_map]); omega))
  k_with "my get" => (first | with_reducible assumption | rfl | ((repeat' (refine (if_neg (by decide)).trans ?_)); first | with_reducible assumption | rfl))
  k_with "eval Name" => ((k_here; k_dflt (first
  | (refine' nameX_L ?zF ?zv ?_ ?za ?zb; (case za => rfl); (case zb => rfl); (case zF => with_reducible assumption); (case zv => walk_at "my get"))
  | (refine' nmL ?zn ?zv ?_ ?zl ?za ?zb; (case za => rfl); (case zb => rfl); (case zl => rfl); (case zn => with_reducible assumption); (case zv => walk_at "my get"))
  | (refine' nmC ?zc ?zo ?zd ?_ ?za ?zb; (case za => rfl); (case zb => rfl); (case zc => rfl); (case zo => with_reducible assumption); (case zd => with_reducible assumption)))))
  k_with "binaryOp Add str str" => ((k_here; refine' add_mk ?za ?zb ?zl ?_; (case za => walk_at "my mk"); (case zb => walk_at "my mk"); (case zl => walk_at "my len"); intro _ _; (try dsimp only)))
  k_with "inplaceOp Add str str" => ((k_here; refine' iadd_mk ?za ?zb ?zl ?_; (case za => walk_at "my mk"); (case zb => walk_at "my mk"); (case zl => walk_at "my len"); intro _ _; (try dsimp only)))
  k_with "compareOp Eq str str" => ((k_here; refine' eq_mk ?za ?zb ?_; (case za => walk_at "my mk"); (case zb => walk_at "my mk")))
  k_with "compareOp NotEq str str" => ((k_here; refine' ne_mk ?za ?zb ?_; (case za => walk_at "my mk"); (case zb => walk_at "my mk")))
  k_with "eval ListComp" => ((k_here; k_dflt (refine' comp_open ?zc ?_ ?zk ?zn ?zs; (case zc => with_unfolding_all rfl); (case zk => rfl); (case zn => decide); (case zs => (intro _; rfl)))))
  k_with "my enter" => ((refine' enterP (by assumption) (TopRead.nolimit (by assumption)) ?zk8 ?zk6 ?zk7 ?zk9 ?zkB ?_ ?zc1 ?zc2 ?zc3 ?zc4; (case zk8 => (dsimp only); omega); (case zk6 => k_dflt k_is); (case zk7 => k_dflt k_is); (case zk9 => first | exact BindsTo.of_eq rfl | exact binds_K (by assumption) rfl (by k_dflt k_is) rfl rfl rfl | exact kp_binds (by assumption) (fun _ => by with_unfolding_all rfl)); (case zkB => exact locs rfl); (case zc1 => decide); (case zc2 => exact rfl); (case zc3 => exact rfl); (case zc4 => exact rfl)))
  k_with "my enterC" => ((refine' enterC (by assumption) (TopRead.nolimit (by assumption)) ?zk8 ?zk6 ?zk7 ?zk9 ?zkB ?zkD ?_ ?zc2 ?zc3 ?zc4; (case zk8 => (dsimp only); omega); (case zk6 => k_dflt k_is); (case zk7 => k_dflt k_is); (case zk9 => first | exact BindsTo.of_eq rfl | exact binds_K (by assumption) rfl (by k_dflt k_is) rfl rfl rfl | exact kp_binds (by assumption) (fun _ => by with_unfolding_all rfl)); (case zkB => exact rfl); (case zkD => decide +kernel); (case zc2 => exact rfl); (case zc3 => exact rfl); (case zc4 => exact rfl)))
  k_with "my run" => (repeat' (first | ((with_reducible show wpAny _ _ _ _ _ _); walk1) | ((with_reducible show (if _ = true then _ else _)); walk1) | ((with_reducible show Frag.In _ _ ∧ _); walk1) | (dsimp only; (with_reducible show wpAny _ _ _ _ _ _); walk1)))
  k_with "my list" => (first | assumption | exact stays_list (Fr.keep (by assumption)) (by assumption) | exact ⟨_, News.get (by assumption) (by k_mem), rfl, _, rfl⟩)
  k_with "call builtin:len" => ((k_here; (with_reducible show wpAny _ _ (call (Value.builtin "len") [Value.ref _]) _ _ _); k_dflt (refine' len_list ?zl ?zf ?_; (case zl => walk_at "my list"); (case zf => first | ((simp only [List.size_toArray]); omega)))))
  k_with "exec For Name Call cons nil" => ((k_here; k_dflt (refine' for_open ?_ ?zs; (case zs => (intro _; rfl)))))
  k_with "exec For Name Name cons nil" => ((k_here; k_dflt (refine' for_open ?_ ?zs; (case zs => (intro _; rfl)))))
  k_with "exec For" => ((k_here; k_dflt (refine' for_open ?_ ?zs; (case zs => (intro _; rfl)))))
  k_with "my enterLC" => ((refine' enterLC (by assumption) (by assumption) (by assumption) (by assumption) ?zk8 ?zk6 ?zk7 ?zk9 ?zkB ?zkD ?_ ?zc2 ?zc3 ?zc4; (case zk8 => (dsimp only); omega); (case zk6 => k_dflt k_is); (case zk7 => k_dflt k_is); (case zk9 => first | exact BindsTo.of_eq rfl | exact binds_K (Frag.In.keeps (by assumption) (by assumption)) rfl (by k_dflt k_is) rfl rfl rfl | exact kp_binds (Frag.In.keeps (by assumption) (by assumption)) (fun _ => by with_unfolding_all rfl)); (case zkB => exact rfl); (case zkD => decide +kernel); (case zc2 => exact rfl); (case zc3 => exact rfl); (case zc4 => exact rfl)))
  exact True.intro
theorem low_up {C : Nat} (hC : isUp C = true) : isLow (lowC C) = true := by
  have : C = 65 ∨ C = 66 ∨ C = 67 ∨ C = 68 ∨ C = 69 ∨ C = 70 := by simp [isUp] at hC; omega
  rcases this with rfl | rfl | rfl | rfl | rfl | rfl <;> decide
theorem low_low {c C : Nat} (hc : isLow c = true) : (!decide (List.map lowC [c] = [lowC C])) = !decide (c = lowC C) := by
  have : lowC c = c := by
    simp only [isLow, Bool.and_eq_true, decide_eq_true_eq] at hc
    exact if_neg (by omega)
  simp [this]
theorem conv1_ctr (w : World) (self : Value) (c : Nat) (t : Tok) (b : Bool) (hc : isLow c = true) :
    Ctr w 144 [self, .str (mk [c]) t] [("name", .bool b)] 4 200 (fun _ => True) (fun h v h' => h.StaysIn h' ∧ v = .str (mk [c]) t) := by
  obtain ⟨n, hn, e⟩ := one_letter c hc
  rw [e]
  exact conv_ctr w self n t b hn
theorem ln_WDel1 : True := by
  k_with "call ref" => ((k_here; (refine' Ctr.use (conv1_ctr _ _ _ _ _ (by assumption)) ?zhR ?zF ?zX ?zN ?zT ?zd ?zu ?zpr ?_; (case zhR => exact fun _ _ _ r => r.1); (case zF => k_asm); (case zX => k_asm); (case zN => k_asm); (case zT => first | assumption | exact topRead_of (by assumption)); (case zd => (dsimp only); omega); (case zu => (dsimp only); omega); (case zpr => trivial)); intro _ _ _ _ _ _ r9; obtain ⟨_, e9⟩ := r9; subst e9; (try k_sweep)))
  k_with "call builtin:str.lower" => ((k_here; refine' lower_call ?za ?zl ?zn ?_; (case za => with_reducible rfl); (case zl => assumption); (case zn => walk_at "my len"); intro _ _))
  exact True.intro
set_option maxRecDepth 100000 in
set_option maxHeartbeats 8000000 in
theorem del_ctr (w : World) (x dx l : Addr) (hol : List Nat) (tt : Tok) (vs : List Value) (cs : List Nat) (n C : Nat) (t : Tok) (hC : isUp C = true) (hcl : ∀ c ∈ cs, isLow c = true) (hlen : cs.length ≤ 100) (h1 : @Ne Nat x dx) (h2 : @Ne Nat l x) (h3 : @Ne Nat l dx) :
    CtrL w 163 [.ref x, .str (mk [C]) t] [] 8 600 [(x, instObj 245 dx), (dx, dictOf (hdrD w l tt) 1), (l, listOf vs.toArray n)] (fun h => Prs hol [x, dx, l] h vs cs)
      (fun h v h' led => ∃ vs' n', led = [(x, instObj 245 dx), (dx, dictOf (hdrD w l tt) 1), (l, listOf vs'.toArray n')] ∧ (∀ v ∈ vs', v ∈ vs) ∧ Prs hol [x, dx, l] h' vs' (cs.filter fun c => !decide (c = lowC C))) := by
  w_on
  unfold CtrL
  dsimp only [KK, prog, Cx]
  k_fill
  intro p loose mean mg mb dp un gd fr g s Q E X T st hl hpre hd hu hret
  walk_at "my enterLC"
  intro L h₁ tk0 cells F N Y X' T' hlt
  simp only [List.map_cons, List.map_nil] at F N X' T'
  have hlt1 : @LT.lt Nat _ x L := hlt _ (.head _)
  have hlt2 : @LT.lt Nat _ dx L := hlt _ (.tail _ (.head _))
  have hlt3 : @LT.lt Nat _ l L := hlt _ (.tail _ (.tail _ (.head _)))
  have hp3 : Prs hol [x, dx, l] (hideAll s.heap [x, dx, l]) vs cs := hpre.hide (fun _ h => h)
  clear X st hl hlt
  k_cells Y
  replace F := Fr_map (m' := fun y => if y = "self" then some (.ref x) else none) F (fun _ => by with_unfolding_all rfl)
  have hlow : isLow (lowC C) = true := low_up hC
  have hlw : ∀ c ∈ [C], isLow c = true ∨ isUp c = true := fun c hc => .inr (by rw [List.mem_singleton.mp hc]; exact hC)
  w_strict (walk_at "my run")
  rename Fr _ _ _ _ => F9
  rename News _ _ _ _ => N9
  rename_i hcell
  have hl9 : Heap.IsList _ l vs.toArray := ⟨_, N9.get (by k_mem), rfl, _, rfl⟩
  have hn9 := N9.get (.head _)
  have hp9 := hp3.stays F9.keep
  refine comp_list rfl hl9 (by rw [List.size_toArray, hp3.length, sizeLine_eq]; omega) (fun v => !decide (nameOf (hideAll s.heap [x, dx, l]) v = lowC C)) (fun v y => y = v) ?_ ?_ ?_
  · intro D i v s₃ m₃ E' hv hk hn hm
    refine wpAny_tests_one ?_
    have ho3 := hk _ _ hn9
    rw [List.getElem?_toArray] at hv
    obtain ⟨c, hc, T, t, u, rfl, _, hT⟩ := Paired.getL hp3 hv
    have hT3 : s₃.heap.IsTuple T #[.str (mk [c]) t, .str (mk hol) u] := by
      obtain ⟨o, e, r⟩ := hT
      exact ⟨o, hk _ _ (F9.keep _ _ e), r⟩
    have hlc := hcl c (List.mem_of_getElem? hc)
    have hlw : ∀ c' ∈ [c], isLow c' = true ∨ isUp c' = true := fun c' hc' => .inl (by rw [List.mem_singleton.mp hc']; exact hlc)
    w_strict (walk_at "my run")
    refine ⟨?_, _, _, rfl, fun _ _ e => e⟩
    rw [nameOf_eq hT, low_low hlc]
  · intro D i v s₃ m₃ E' hv hp hk hn hm
    w_strict (walk_at "my run")
    exact ⟨rfl, _, _, rfl, fun _ _ e => e⟩
  · intro D D' h' tk' m' ys hD hC' hDC hnC hpl hF hst
    refine cq_end hC' hDC hnC hpl hst fun h'' hpl hst => ?_
    have hl0 : D ≠ l := fun e => by obtain ⟨o, e2, _⟩ := hl9; rw [e, e2] at hD; cases hD
    clear hnC hD hC'
    replace F9 := F9.keeps hst
    replace N9 := N9.grown hst
    w_strict (walk_at "my run")
    rename News _ _ _ _ => N8
    rename Fr _ _ _ _ => F8
    have hzy : ys.size ≤ 1000000 := by
      have := hF.length
      have h2 : (List.filter (fun v => !decide (nameOf (hideAll s.heap [x, dx, l]) v = lowC C)) vs).length ≤ vs.length := List.length_filter_le _ _
      have h3 := hp3.length
      simp only [Array.length_toList] at this
      omega
    refine' setAllN (n := n) (its := vs.toArray) (its2 := ys) ?F ?N ?U (Heap.IsSliceOf.new ..) (hpl.isList.push _) (Ne.symm hl0) (by rw [List.size_toArray, hp3.length]; omega) hzy ?_
    case F => exact F8.push _
    case N => exact N8.grown fun b o e => Heap.get?_push_of_some _ e
    case U => k_upd
    intro h9 F7 N7
    w_strict (walk_at "my run")
    have eys : ys = (vs.filter fun v => !decide (nameOf (hideAll s.heap [x, dx, l]) v = lowC C)).toArray := by
      rw [← paired_eq (fun _ _ h => h) hF]
    rw [eys] at N7
    obtain ⟨n', N6⟩ : ∃ n', News (hideAll s.heap [x, dx, l]) L h9 [(x, instObj 245 dx), (dx, dictOf (hdrD w l tt) 1), (l, listOf (vs.filter fun v => !decide (nameOf (hideAll s.heap [x, dx, l]) v = lowC C)).toArray n')] := ⟨_, fun q hq => N7 q (.tail _ hq)⟩
    refine hret _ _ _ [(x, instObj 245 dx), (dx, dictOf (hdrD w l tt) 1), (l, listOf (vs.filter fun v => !decide (nameOf (hideAll s.heap [x, dx, l]) v = lowC C)).toArray n')] (butL_of F7) rfl (fun q hq => (N6 q hq).1) ⟨_, _, rfl, fun v hv => (List.mem_filter.mp hv).1, ?_⟩
    refine Prs.stays (h := hideAll s.heap [x, dx, l]) ?_ F7.keep
    refine Paired.filter ?_ hp3
    rintro v c ⟨T, t, u, rfl, _, hT⟩
    rw [nameOf_eq hT]
end
section
theorem ln_WKeys0 : True := by
  k_with_none
  k_with "my mk" => (first | (with_reducible rfl) | exact lit_e | exact lit_nl | exact lit_tab | exact lit_q | exact lit_qs | exact lit_bs)
  k_with "my len" => (((try simp only [List.length_append, List.length_cons, List.length_nil, List.length_map]); omega))
  k_with "my get" => (first | with_reducible assumption | rfl | ((repeat' (refine (if_neg (by decide)).trans ?_)); first | with_reducible assumption | rfl))
  k_with "eval Name" => ((k_here; k_dflt (first
  | (refine' nameX_L ?zF ?zv ?_ ?za ?zb; (case za => rfl); (case zb => rfl); (case zF => with_reducible assumption); (case zv => walk_at "my get"))
  | (refine' nmL ?zn ?zv ?_ ?zl ?za ?zb; (case za => rfl); (case zb => rfl); (case zl => rfl); (case zn => with_reducible assumption); (case zv => walk_at "my get"))
  | (refine' nmC ?zc ?zo ?zd ?_ ?za ?zb; (case za => rfl); (case zb => rfl); (case zc => rfl); (case zo => with_reducible assumption); (case zd => with_reducible assumption)))))
  k_with "binaryOp Add str str" => ((k_here; refine' add_mk ?za ?zb ?zl ?_; (case za => walk_at "my mk"); (case zb => walk_at "my mk"); (case zl => walk_at "my len"); intro _ _; (try dsimp only)))
  k_with "inplaceOp Add str str" => ((k_here; refine' iadd_mk ?za ?zb ?zl ?_; (case za => walk_at "my mk"); (case zb => walk_at "my mk"); (case zl => walk_at "my len"); intro _ _; (try dsimp only)))
  k_with "compareOp Eq str str" => ((k_here; refine' eq_mk ?za ?zb ?_; (case za => walk_at "my mk"); (case zb => walk_at "my mk")))
  k_with "compareOp NotEq str str" => ((k_here; refine' ne_mk ?za ?zb ?_; (case za => walk_at "my mk"); (case zb => walk_at "my mk")))
  k_with "eval ListComp" => ((k_here; k_dflt (refine' comp_open ?zc ?_ ?zk ?zn ?zs; (case zc => with_unfolding_all rfl); (case zk => rfl); (case zn => decide); (case zs => (intro _; rfl)))))
  k_with "my enter" => ((refine' enterP (by assumption) (TopRead.nolimit (by assumption)) ?zk8 ?zk6 ?zk7 ?zk9 ?zkB ?_ ?zc1 ?zc2 ?zc3 ?zc4; (case zk8 => (dsimp only); omega); (case zk6 => k_dflt k_is); (case zk7 => k_dflt k_is); (case zk9 => first | exact BindsTo.of_eq rfl | exact binds_K (by assumption) rfl (by k_dflt k_is) rfl rfl rfl | exact kp_binds (by assumption) (fun _ => by with_unfolding_all rfl)); (case zkB => exact locs rfl); (case zc1 => decide); (case zc2 => exact rfl); (case zc3 => exact rfl); (case zc4 => exact rfl)))
  k_with "my enterC" => ((refine' enterC (by assumption) (TopRead.nolimit (by assumption)) ?zk8 ?zk6 ?zk7 ?zk9 ?zkB ?zkD ?_ ?zc2 ?zc3 ?zc4; (case zk8 => (dsimp only); omega); (case zk6 => k_dflt k_is); (case zk7 => k_dflt k_is); (case zk9 => first | exact BindsTo.of_eq rfl | exact binds_K (by assumption) rfl (by k_dflt k_is) rfl rfl rfl | exact kp_binds (by assumption) (fun _ => by with_unfolding_all rfl)); (case zkB => exact rfl); (case zkD => decide +kernel); (case zc2 => exact rfl); (case zc3 => exact rfl); (case zc4 => exact rfl)))
  k_with "my run" => (repeat' (first | ((with_reducible show wpAny _ _ _ _ _ _); walk1) | ((with_reducible show (if _ = true then _ else _)); walk1) | ((with_reducible show Frag.In _ _ ∧ _); walk1) | (dsimp only; (with_reducible show wpAny _ _ _ _ _ _); walk1)))
  k_with "my list" => (first | assumption | exact stays_list (Fr.keep (by assumption)) (by assumption) | exact ⟨_, News.get (by assumption) (by k_mem), rfl, _, rfl⟩)
  k_with "call builtin:len" => ((k_here; (with_reducible show wpAny _ _ (call (Value.builtin "len") [Value.ref _]) _ _ _); k_dflt (refine' len_list ?zl ?zf ?_; (case zl => walk_at "my list"); (case zf => first | ((simp only [List.size_toArray]); omega)))))
  k_with "exec For Name Call cons nil" => ((k_here; k_dflt (refine' for_open ?_ ?zs; (case zs => (intro _; rfl)))))
  k_with "exec For Name Name cons nil" => ((k_here; k_dflt (refine' for_open ?_ ?zs; (case zs => (intro _; rfl)))))
  k_with "exec For" => ((k_here; k_dflt (refine' for_open ?_ ?zs; (case zs => (intro _; rfl)))))
  k_with "my enterL" => ((refine' enterL (by assumption) (by assumption) (by assumption) (by assumption) ?zk8 ?zk6 ?zk7 ?zk9 ?zkB ?_ ?zc1 ?zc2 ?zc3 ?zc4; (case zk8 => (dsimp only); omega); (case zk6 => k_dflt k_is); (case zk7 => k_dflt k_is); (case zk9 => first | exact BindsTo.of_eq rfl | exact binds_K (Frag.In.keeps (by assumption) (by assumption)) rfl (by k_dflt k_is) rfl rfl rfl | exact kp_binds (Frag.In.keeps (by assumption) (by assumption)) (fun _ => by with_unfolding_all rfl)); (case zkB => exact locs rfl); (case zc1 => decide); (case zc2 => exact rfl); (case zc3 => exact rfl); (case zc4 => exact rfl)))
  k_with "eval ListComp" => ((k_here; k_dflt (refine' comp_openT ?zc ?_ ?zk ?zn ?zs; (case zc => with_unfolding_all rfl); (case zk => rfl); (case zn => decide); (case zs => (intro _; rfl)))))
  exact True.intro
set_option maxRecDepth 100000 in
set_option maxHeartbeats 8000000 in
theorem keys_ctr (w : World) (x dx l : Addr) (hol : List Nat) (tt : Tok) (vs : List Value) (cs : List Nat) (n : Nat) (hlen : cs.length ≤ 100) (h1 : @Ne Nat x dx) (h2 : @Ne Nat l x) (h3 : @Ne Nat l dx) :
    CtrL w 197 [.ref x] [] 8 600 [(x, instObj 245 dx), (dx, dictOf (hdrD w l tt) 1), (l, listOf vs.toArray n)] (fun h => Prs hol [x, dx, l] h vs cs)
      (fun h v h' led => ∃ D ys, v = .ref D ∧ led = [(x, instObj 245 dx), (dx, dictOf (hdrD w l tt) 1), (l, listOf vs.toArray n)] ∧ h'.PlainList D ys.toArray ∧ h.get? D = none ∧ Txts ys (cs.map fun c => [c])) := by
  w_on
  unfold CtrL
  dsimp only [KK, prog, Cx]
  k_fill
  intro p loose mean mg mb dp un gd fr g s Q E X T st hl hpre hd hu hret
  walk_at "my enterL"
  intro L h₁ tk0 F N X' T' hlt
  simp only [List.map_cons, List.map_nil] at F N X' T'
  have hlt1 : @LT.lt Nat _ x L := hlt _ (.head _)
  have hlt2 : @LT.lt Nat _ dx L := hlt _ (.tail _ (.head _))
  have hlt3 : @LT.lt Nat _ l L := hlt _ (.tail _ (.tail _ (.head _)))
  have hp3 : Prs hol [x, dx, l] (hideAll s.heap [x, dx, l]) vs cs := hpre.hide (fun _ h => h)
  clear X st hl hlt
  replace F := Fr_map (m' := mOf [("self", .ref x)]) F (fun _ => rfl)
  w_strict (walk_at "my run")
  rename Fr _ _ _ _ => F9
  rename News _ _ _ _ => N9
  have hvl := hp3.length
  refine compT_pairs (l := l) (vs := vs) (cs := cs) (hol := hol) (as := [x, dx, l]) rfl ⟨_, N9.get (by k_mem), rfl, _, rfl⟩ (hp3.stays F9.keep) (by omega) (fun i ys h => Txts ys ((cs.take i).map fun c => [c])) (fun _ _ _ _ _ j => j) .nil ?_ ?_
  · rintro C as i s3 ys m E' hi ⟨c, t, u, hc, hm1, hm2⟩ hb hb' hn hj hlive
    w_strict (walk_at "my run")
    refine ⟨_, _, rfl, fun _ _ e => e, ?_⟩
    dsimp only
    rw [take_succ_map _ hc]
    exact txts_append hj (.cons ⟨_, rfl⟩ .nil)
  · intro D h' tk ys hD hpl hst hj
    rw [hvl, List.take_length] at hj
    w_strict (walk_at "my run")
    have hlD : D ∉ [x, dx, l] := fun q => by
      rcases List.mem_cons.mp q with q | q
      · rw [q, N9.get (.head _)] at hD; cases hD
      · rcases List.mem_cons.mp q with q | q
        · rw [q, N9.get (.tail _ (.head _))] at hD; cases hD
        · rw [List.mem_singleton.mp q, N9.get (.tail _ (.tail _ (.head _)))] at hD; cases hD
    exact hret _ _ _ [(x, instObj 245 dx), (dx, dictOf (hdrD w l tt) 1), (l, listOf vs.toArray n)] (butL_of (F9.keeps hst)) rfl (fun q hq => hst _ _ (N9 q hq).1) ⟨D, ys, rfl, rfl, hpl, hide_none_of (fr_none F9 hD) hlD, hj⟩
end
section
theorem ln_WLeft0 : True := by
  k_with_none
  k_with "my mk" => (first | (with_reducible rfl) | exact lit_e | exact lit_nl | exact lit_tab | exact lit_q | exact lit_qs | exact lit_bs)
  k_with "my len" => (((try simp only [List.length_append, List.length_cons, List.length_nil, List.length_map]); omega))
  k_with "my get" => (first | with_reducible assumption | rfl | ((repeat' (refine (if_neg (by decide)).trans ?_)); first | with_reducible assumption | rfl))
  k_with "eval Name" => ((k_here; k_dflt (first
  | (refine' nameX_L ?zF ?zv ?_ ?za ?zb; (case za => rfl); (case zb => rfl); (case zF => with_reducible assumption); (case zv => walk_at "my get"))
  | (refine' nmL ?zn ?zv ?_ ?zl ?za ?zb; (case za => rfl); (case zb => rfl); (case zl => rfl); (case zn => with_reducible assumption); (case zv => walk_at "my get"))
  | (refine' nmC ?zc ?zo ?zd ?_ ?za ?zb; (case za => rfl); (case zb => rfl); (case zc => rfl); (case zo => with_reducible assumption); (case zd => with_reducible assumption)))))
  k_with "binaryOp Add str str" => ((k_here; refine' add_mk ?za ?zb ?zl ?_; (case za => walk_at "my mk"); (case zb => walk_at "my mk"); (case zl => walk_at "my len"); intro _ _; (try dsimp only)))
  k_with "inplaceOp Add str str" => ((k_here; refine' iadd_mk ?za ?zb ?zl ?_; (case za => walk_at "my mk"); (case zb => walk_at "my mk"); (case zl => walk_at "my len"); intro _ _; (try dsimp only)))
  k_with "compareOp Eq str str" => ((k_here; refine' eq_mk ?za ?zb ?_; (case za => walk_at "my mk"); (case zb => walk_at "my mk")))
  k_with "compareOp NotEq str str" => ((k_here; refine' ne_mk ?za ?zb ?_; (case za => walk_at "my mk"); (case zb => walk_at "my mk")))
  k_with "eval ListComp" => ((k_here; k_dflt (refine' comp_open ?zc ?_ ?zk ?zn ?zs; (case zc => with_unfolding_all rfl); (case zk => rfl); (case zn => decide); (case zs => (intro _; rfl)))))
  k_with "my enter" => ((refine' enterP (by assumption) (TopRead.nolimit (by assumption)) ?zk8 ?zk6 ?zk7 ?zk9 ?zkB ?_ ?zc1 ?zc2 ?zc3 ?zc4; (case zk8 => (dsimp only); omega); (case zk6 => k_dflt k_is); (case zk7 => k_dflt k_is); (case zk9 => first | exact BindsTo.of_eq rfl | exact binds_K (by assumption) rfl (by k_dflt k_is) rfl rfl rfl | exact kp_binds (by assumption) (fun _ => by with_unfolding_all rfl)); (case zkB => exact locs rfl); (case zc1 => decide); (case zc2 => exact rfl); (case zc3 => exact rfl); (case zc4 => exact rfl)))
  k_with "my enterC" => ((refine' enterC (by assumption) (TopRead.nolimit (by assumption)) ?zk8 ?zk6 ?zk7 ?zk9 ?zkB ?zkD ?_ ?zc2 ?zc3 ?zc4; (case zk8 => (dsimp only); omega); (case zk6 => k_dflt k_is); (case zk7 => k_dflt k_is); (case zk9 => first | exact BindsTo.of_eq rfl | exact binds_K (by assumption) rfl (by k_dflt k_is) rfl rfl rfl | exact kp_binds (by assumption) (fun _ => by with_unfolding_all rfl)); (case zkB => exact rfl); (case zkD => decide +kernel); (case zc2 => exact rfl); (case zc3 => exact rfl); (case zc4 => exact rfl)))
  k_with "my run" => (repeat' (first | ((with_reducible show wpAny _ _ _ _ _ _); walk1) | ((with_reducible show (if _ = true then _ else _)); walk1) | ((with_reducible show Frag.In _ _ ∧ _); walk1) | (dsimp only; (with_reducible show wpAny _ _ _ _ _ _); walk1)))
  k_with "my list" => (first | assumption | exact stays_list (Fr.keep (by assumption)) (by assumption) | exact ⟨_, News.get (by assumption) (by k_mem), rfl, _, rfl⟩)
  k_with "call builtin:len" => ((k_here; (with_reducible show wpAny _ _ (call (Value.builtin "len") [Value.ref _]) _ _ _); k_dflt (refine' len_list ?zl ?zf ?_; (case zl => walk_at "my list"); (case zf => first | ((simp only [List.size_toArray]); omega)))))
  k_with "exec For Name Call cons nil" => ((k_here; k_dflt (refine' for_open ?_ ?zs; (case zs => (intro _; rfl)))))
  k_with "exec For Name Name cons nil" => ((k_here; k_dflt (refine' for_open ?_ ?zs; (case zs => (intro _; rfl)))))
  k_with "exec For" => ((k_here; k_dflt (refine' for_open ?_ ?zs; (case zs => (intro _; rfl)))))
  k_with "my enterLC" => ((refine' enterLC (by assumption) (by assumption) (by assumption) (by assumption) ?zk8 ?zk6 ?zk7 ?zk9 ?zkB ?zkD ?_ ?zc2 ?zc3 ?zc4; (case zk8 => (dsimp only); omega); (case zk6 => k_dflt k_is); (case zk7 => k_dflt k_is); (case zk9 => first | exact BindsTo.of_eq rfl | exact binds_K (Frag.In.keeps (by assumption) (by assumption)) rfl (by k_dflt k_is) rfl rfl rfl | exact kp_binds (Frag.In.keeps (by assumption) (by assumption)) (fun _ => by with_unfolding_all rfl)); (case zkB => exact rfl); (case zkD => decide +kernel); (case zc2 => exact rfl); (case zc3 => exact rfl); (case zc4 => exact rfl)))
  k_with "eval ListComp" => ((k_here; k_dflt (refine' comp_openT ?zc ?_ ?zk ?zn ?zs; (case zc => with_unfolding_all rfl); (case zk => rfl); (case zn => decide); (case zs => (intro _; rfl)))))
  k_with "call builtin:str.upper" => ((k_here; refine' upper_call ?za ?zl ?zn ?_; (case za => with_reducible rfl); (case zl => assumption); (case zn => walk_at "my len"); intro _ _))
  k_with "delItem ref" => ((k_here; (refine' delItem_inst ?zF ?zX ?zI ?zhQ ?zhS ?zhF ?_; (case zF => k_asm); (case zX => k_asm); (case zI => k_inst); (case zhS => k_dflt k_is); (case zhF => k_dflt k_is); (case zhQ => k_dflt k_is))))
  k_with "delItem ref str" => ((k_here; (refine' delItem_inst ?zF ?zX ?zI ?zhQ ?zhS ?zhF ?_; (case zF => k_asm); (case zX => k_asm); (case zI => k_inst); (case zhS => k_dflt k_is); (case zhF => k_dflt k_is); (case zhQ => k_dflt k_is))))
  exact True.intro
theorem up_low {c : Nat} (hc : isLow c = true) : isUp (c - 32) = true ∧ lowC (c - 32) = c := by
  have : c = 97 ∨ c = 98 ∨ c = 99 ∨ c = 100 ∨ c = 101 ∨ c = 102 := by simp [isLow] at hc; omega
  rcases this with rfl | rfl | rfl | rfl | rfl | rfl <;> decide
theorem filter_take {l k : List Nat} {i c : Nat} (hc : k[i]? = some c) : (l.filter fun x => !decide (x ∈ k.take i)).filter (fun x => !decide (x = c)) = l.filter fun x => !decide (x ∈ k.take (i + 1)) := by
  rw [List.filter_filter]
  refine List.filter_congr fun x _ => ?_
  rw [List.take_add_one, hc]
  by_cases h1 : x ∈ k.take i <;> by_cases h2 : x = c <;> simp [h1, h2]
set_option maxRecDepth 100000 in
set_option maxHeartbeats 8000000 in
theorem left_ctr (w : World) (hol tak : Nat) (t1 t2 : Tok) (hh : hol < 64) (hk : tak < 64) :
    CtrL w 285 [.str (mk (letters hol)) t1, .str (mk (letters tak)) t2] [] 14 900 [] (fun _ => True)
      (fun h v h' led => ∃ u, v = .str (mk ((letters hol).filter fun c => !decide (c ∈ letters tak))) u) := by
  w_on
  unfold CtrL
  dsimp only [KK, prog, Cx]
  k_fill
  intro p loose mean mg mb dp un gd fr g s Q E X T st hl hpre hd hu hret
  walk_at "my enterLC"
  intro L h₁ tk0 cells F N Y X' T' hlt
  simp only [List.map_nil] at F N X' T'
  clear X st hl hlt
  k_cells Y
  replace F := Fr_map (m' := fun y => if y = "taker" then some (.str (mk (letters tak)) t2) else none) F (fun _ => by with_unfolding_all rfl)
  w_strict (walk_at "my run")
  rename Fr _ _ _ _ => F9
  rename News _ _ _ _ => N9
  rename _ = Data.cell _ => hcell
  replace hcell := hcell.trans (show _ = Data.cell (some (.str (mk (letters hol)) t1)) from rfl)
  have hn9 := N9.get (.head _)
  obtain ⟨hg9, e9⟩ := newsHeap N9
  refine compT_str (ws := letters hol) rfl (letters_ascii _) (by have := letters_len hol; rw [sizeLine_eq]; omega) (fun i ys h => Paired (fun v c => ∃ T t u, v = Value.ref T ∧ hg9.get? T = none ∧ T ∉ ([] : List Addr) ∧ h.IsTuple T #[.str (mk [c]) t, .str (mk (letters hol)) u]) ys ((letters hol).take i))
    (fun _ _ _ _ k j => Paired.imp (fun _ _ ⟨T, t, u, e, e2, e3, o, ho, r⟩ => ⟨T, t, u, e, e2, e3, o, k _ _ ho, r⟩) j) .nil ?_ ?_
  · rintro C as i s3 ys m E' hi ⟨c, u, hc, hm⟩ hb hb' hn hj hlive
    have ho3 := hb _ _ hn9
    w_strict (walk_at "my run")
    have hnew : s3.heap.objs.size ∉ as := fun q => by
      obtain ⟨o, e⟩ := hlive _ q
      exact absurd (Heap.lt_size e) (Nat.lt_irrefl _)
    refine wpAny_newTuple ?_
    refine ⟨_, _, rfl, fun b o e => Heap.get?_push_of_some _ e, ?_⟩
    dsimp only
    rw [List.take_add_one, hc]
    refine paired_app (Paired.imp (fun _ _ ⟨T, t, u, e, e2, e3, o, ho, r⟩ => ⟨T, t, u, e, e2, e3, o, hide_stays (fun b o _ e => Heap.get?_push_of_some _ e) _ _ ho, r⟩) hj) (.cons ⟨_, _, _, rfl, ?_, (fun q => nomatch q), ⟨_, hideAll_get _ (Heap.get?_push_size _ rfl) hnew, rfl, _, rfl⟩⟩ .nil)
    rw [e9]
    cases z : Heap.get? _ s3.heap.objs.size with
    | none => rfl
    | some o => exact absurd (Heap.lt_size (hb _ _ z)) (Nat.lt_irrefl _)
  · intro D h' tk ys hD hpl hst hj
    rw [List.take_length, e9] at hj
    obtain ⟨tb, hB, htb⟩ := TB.make (as := [D]) (h := h') (Paired.imp (fun _ _ ⟨T, t, u, e, e2, e3, o, ho, r⟩ => ⟨T, t, u, e, e2, (fun q => by rw [hideAll_none _ q] at ho; cases ho), o, hide_up _ _ ho, r⟩) hj)
    obtain ⟨nD, eD⟩ := hpl
    have Ftb := F9
    replace F9 := F9.keeps hst
    have N8 := N9.grown hst
    have N7 : News _ L h' ((D, listOf ys.toArray nD) :: tb) := news_add (m' := fun _ => none) (news := []) Ftb hD (fun q hq => (news_add (m' := fun _ => none) (news := []) Ftb (htb q hq).2.1 (news' := []) (fun _ h => nomatch h) (htb q hq).1) q (.head _)) eD
    have htD : ∀ q ∈ tb, q.1 ≠ D := fun q hq e => (htb q hq).2.2 (List.mem_singleton.mpr e)
    clear hj hst hD N8 N9 hcell hn9
    w_strict (walk_at "my run")
    rename News _ _ _ _ => N6
    rename Fr _ _ _ _ => F6
    refine wpAny_call (make_K F6 N6 (X'.keeps F6.keep) (by k_dflt k_is) (by k_dflt k_is) (by k_dflt k_is) fun x dx h8 F8 N8 hlt8 hxd => ?_)
    have hDd : @LT.lt Nat _ D dx := hlt8 _ (.head _)
    have htx : ∀ q ∈ tb, q.1 ∉ [x, dx] := fun q hq z => by
      have := hlt8 q (.tail _ hq)
      rcases List.mem_cons.mp z with z | z
      · exact absurd (Nat.lt_trans this hxd) (by rw [z]; exact Nat.lt_irrefl _)
      · exact absurd this (by rw [List.mem_singleton.mp z]; exact Nat.lt_irrefl _)
    have hle := letters_len hol
    refine CtrK.use (hdrInit_ctr w x dx D hol hh ys (letters hol) (fun c hc => letters_low hc) (by omega) (Nat.ne_of_gt hxd) (Nat.ne_of_lt (Nat.lt_trans hDd hxd)) (Nat.ne_of_lt hDd)) F8 X' N8 ?ne T' ⟨⟨_, (N8 (D, listOf ys.toArray nD) (.tail _ (.tail _ (.head _)))).1, rfl, _, rfl⟩, hB.prs (fun q hq => (N8 q (.tail _ (.tail _ (.tail _ hq)))).1) htx⟩ ?d1 ?d2 ?_
    case ne =>
      intro q hq hm
      have h1 : @LT.lt Nat _ q.1 dx := hlt8 q hq
      rcases List.mem_cons.mp hm with e | e
      · rw [e] at h1; exact Nat.lt_irrefl _ (Nat.lt_trans h1 hxd)
      · rw [List.mem_singleton.mp e] at h1; exact Nat.lt_irrefl _ h1
    case d1 => show dp + 1 + 1 + 8 < recursionLimit; omega
    case d2 => show un + 3 + 1 + 600 < cLine; omega
    rintro v h9 tk' led' - F10 N10 hb ⟨rfl, tt, rfl⟩
    refine ⟨rfl, ?_⟩
    simp only [List.cons_append, List.nil_append] at N10
    clear F8 N8 F6 N6 hb
    w_strict (walk_at "my run")
    rename News _ _ _ _ => N5
    rename Fr _ _ _ _ => F5
    refine for_str (ws := letters tak) (led₀ := (x, instObj 245 dx) :: (dx, dictOf (hdrD w D tt) 1) :: (D, listOf ys.toArray nD) :: tb) rfl rfl (letters_ascii _) (fun i m led => m "table" = some (.ref x) ∧ ∃ vs' n', led = (x, instObj 245 dx) :: (dx, dictOf (hdrD w D tt) 1) :: (D, listOf vs'.toArray n') :: tb ∧ TB (letters hol) tb vs' ((letters hol).filter fun c => !decide (c ∈ (letters tak).take i)))
      F5 N5 ⟨by walk_at "my get", ys, nD, rfl, ?b0⟩ ?turn ?done
    case b0 =>
      have : (letters hol).filter (fun c => !decide (c ∈ (letters tak).take 0)) = letters hol := List.filter_eq_self.mpr fun c _ => by simp
      rw [this]
      exact hB
    case turn =>
      rintro I i h tk m led oI c u hi hc ⟨mt, vs', n', rfl, hB'⟩ F' N' hne
      have hlc : isLow c = true := letters_low (List.mem_of_getElem? hc)
      have hlw : ∀ c' ∈ [c], isLow c' = true := fun c' q => by rw [List.mem_singleton.mp q]; exact hlc
      w_strict (walk_at "my run")
      rename News _ _ _ _ => N4
      rename Fr _ _ _ _ => F4
      have N3 : News _ L _ ([(x, instObj 245 dx), (dx, dictOf (hdrD w D tt) 1), (D, listOf vs'.toArray n')] ++ ((I, oI) :: tb)) := fun q hq => N4 q (by
        simp only [List.cons_append, List.nil_append, List.mem_cons] at hq ⊢
        rcases hq with e | e | e | e | e
        · exact .inr (.inl e)
        · exact .inr (.inr (.inl e))
        · exact .inr (.inr (.inr (.inl e)))
        · exact .inl e
        · exact .inr (.inr (.inr (.inr e))))
      have hup := up_low hlc
      refine CtrL.use (del_ctr w x dx D (letters hol) tt vs' _ n' (c - 32) _ hup.1 (fun c hc => letters_low (List.mem_filter.mp hc).1) (Nat.le_trans (List.length_filter_le _ _) (by omega)) (Nat.ne_of_gt hxd) (Nat.ne_of_lt (Nat.lt_trans hDd hxd)) (Nat.ne_of_lt hDd)) F4 X' N3 ?ne T' (hB'.prs (fun q hq => (N4 q (.tail _ (.tail _ (.tail _ (.tail _ hq))))).1) fun q hq z => ?_) (by (try dsimp only); omega) (by (try dsimp only); omega) ?_
      case ne =>
        intro q hq z
        simp only [List.map_cons, List.map_nil, List.mem_cons, List.not_mem_nil, or_false] at z
        rcases List.mem_cons.mp hq with rfl | hq
        · rcases z with z | z | z
          · exact hne _ (.head _) z.symm
          · exact hne _ (.tail _ (.head _)) z.symm
          · exact hne _ (.tail _ (.tail _ (.head _))) z.symm
        · rcases z with z | z | z
          · exact htx q hq (z ▸ .head _)
          · exact htx q hq (z ▸ .tail _ (.head _))
          · exact htD q hq z
      · rcases List.mem_cons.mp z with z | z
        · exact htx q hq (z ▸ .head _)
        · rcases List.mem_cons.mp z with z | z
          · exact htx q hq (z ▸ .tail _ (.head _))
          · exact htD q hq (List.mem_singleton.mp z)
      rintro v h4 tk4 led4 - F3 N2 hb ⟨vs2, n2, rfl, hsub, hP⟩
      simp only [List.cons_append, List.nil_append] at N2
      have hB2 := TB.of (tb := tb) (fun v hv => hB'.mem v (hsub v hv)) (fun q hq => (N2 q (.tail _ (.tail _ (.tail _ (.tail _ hq))))).1) hP
      rw [hup.2, filter_take hc] at hB2
      clear N4 N3 F4 hP hB'
      w_strict (walk_at "my run")
      refine ⟨_, _, _, _, rfl, F3, ?_, ?_, ⟨by walk_at "my get", vs2, n2, rfl, hB2⟩, fun b hb => nomatch hb⟩
      · intro q hq
        refine N2 q ?_
        simp only [List.mem_cons] at hq ⊢
        rcases hq with e | e | e | e | e
        · exact .inr (.inr (.inr (.inl e)))
        · exact .inl e
        · exact .inr (.inl e)
        · exact .inr (.inr (.inl e))
        · exact .inr (.inr (.inr (.inr e)))
      · intro q hq
        simp only [List.mem_cons] at hq
        rcases hq with rfl | rfl | rfl | e
        · exact hne _ (.head _)
        · exact hne _ (.tail _ (.head _))
        · exact hne (D, listOf vs'.toArray n') (.tail _ (.tail _ (.head _)))
        · exact hne _ (.tail _ (.tail _ (.tail _ e)))
    case done =>
      rintro h tk m led ⟨mt, vs', n', rfl, hB'⟩ F' N'
      rw [List.take_length] at hB'
      w_strict (walk_at "my run")
      rename News _ _ _ _ => N4
      rename Fr _ _ _ _ => F4
      show wpAny _ _ (call (.ref 197) [.ref x]) _ _ _
      refine CtrL.use (led := [(x, instObj 245 dx), (dx, dictOf (hdrD w D tt) 1), (D, listOf vs'.toArray n')]) (news := tb) (keys_ctr w x dx D (letters hol) tt vs' _ n' (Nat.le_trans (List.length_filter_le _ _) (by omega)) (Nat.ne_of_gt hxd) (Nat.ne_of_lt (Nat.lt_trans hDd hxd)) (Nat.ne_of_lt hDd)) F4 X' N4 ?ne T' (hB'.prs (fun q hq => (N4 q (.tail _ (.tail _ (.tail _ hq)))).1) fun q hq z => ?_) (by (try dsimp only); omega) (by (try dsimp only); omega) ?_
      case ne =>
        intro q hq z
        simp only [List.map_cons, List.map_nil, List.mem_cons, List.not_mem_nil, or_false] at z
        rcases z with z | z | z
        · exact htx q hq (z ▸ .head _)
        · exact htx q hq (z ▸ .tail _ (.head _))
        · exact htD q hq z
      · rcases List.mem_cons.mp z with z | z
        · exact htx q hq (z ▸ .head _)
        · rcases List.mem_cons.mp z with z | z
          · exact htx q hq (z ▸ .tail _ (.head _))
          · exact htD q hq (List.mem_singleton.mp z)
      rintro v h4 tk4 led4 - F3 N2 hb ⟨D2, ys2, rfl, rfl, hpl, _, hj⟩
      clear N4 F4 hB'
      w_strict (walk_at "my run")
      show wpAny _ _ (call (.builtin "str.join") [.str "" _, .ref D2]) _ _ _
      have hfl : (((letters hol).filter fun c => !decide (c ∈ letters tak)).map fun c => [c]).flatten = (letters hol).filter fun c => !decide (c ∈ letters tak) := by rw [flatten_single]; simp
      refine join_txts (by rfl) hpl.isList hj ?_ fun t' k => ?_
      · rw [hfl]
        exact Nat.le_trans (List.length_filter_le _ _) (by omega)
      rw [hfl]
      exact hret _ _ _ [] (butL_of F3) rfl (fun q hq => nomatch hq) ⟨_, rfl⟩
end
section
section
theorem ln_WYiq0 : True := by
  k_with_none
  k_with "my mk" => (first | (with_reducible rfl) | exact lit_e | exact lit_nl | exact lit_tab | exact lit_q | exact lit_qs | exact lit_bs)
  k_with "my len" => (((try simp only [List.length_append, List.length_cons, List.length_nil, List.length_map]); omega))
  k_with "my get" => (first | with_reducible assumption | rfl | ((repeat' (refine (if_neg (by decide)).trans ?_)); first | with_reducible assumption | rfl))
  k_with "eval Name" => ((k_here; k_dflt (first
  | (refine' nameX_L ?zF ?zv ?_ ?za ?zb; (case za => rfl); (case zb => rfl); (case zF => with_reducible assumption); (case zv => walk_at "my get"))
  | (refine' nmL ?zn ?zv ?_ ?zl ?za ?zb; (case za => rfl); (case zb => rfl); (case zl => rfl); (case zn => with_reducible assumption); (case zv => walk_at "my get"))
  | (refine' nmC ?zc ?zo ?zd ?_ ?za ?zb; (case za => rfl); (case zb => rfl); (case zc => rfl); (case zo => with_reducible assumption); (case zd => with_reducible assumption)))))
  k_with "binaryOp Add str str" => ((k_here; refine' add_mk ?za ?zb ?zl ?_; (case za => walk_at "my mk"); (case zb => walk_at "my mk"); (case zl => walk_at "my len"); intro _ _; (try dsimp only)))
  k_with "inplaceOp Add str str" => ((k_here; refine' iadd_mk ?za ?zb ?zl ?_; (case za => walk_at "my mk"); (case zb => walk_at "my mk"); (case zl => walk_at "my len"); intro _ _; (try dsimp only)))
  k_with "compareOp Eq str str" => ((k_here; refine' eq_mk ?za ?zb ?_; (case za => walk_at "my mk"); (case zb => walk_at "my mk")))
  k_with "compareOp NotEq str str" => ((k_here; refine' ne_mk ?za ?zb ?_; (case za => walk_at "my mk"); (case zb => walk_at "my mk")))
  k_with "eval ListComp" => ((k_here; k_dflt (refine' comp_open ?zc ?_ ?zk ?zn ?zs; (case zc => with_unfolding_all rfl); (case zk => rfl); (case zn => decide); (case zs => (intro _; rfl)))))
  k_with "my enter" => ((refine' enterP (by assumption) (TopRead.nolimit (by assumption)) ?zk8 ?zk6 ?zk7 ?zk9 ?zkB ?_ ?zc1 ?zc2 ?zc3 ?zc4; (case zk8 => (dsimp only); omega); (case zk6 => k_dflt k_is); (case zk7 => k_dflt k_is); (case zk9 => first | exact BindsTo.of_eq rfl | exact binds_K (by assumption) rfl (by k_dflt k_is) rfl rfl rfl | exact kp_binds (by assumption) (fun _ => by with_unfolding_all rfl)); (case zkB => exact locs rfl); (case zc1 => decide); (case zc2 => exact rfl); (case zc3 => exact rfl); (case zc4 => exact rfl)))
  k_with "my enterC" => ((refine' enterC (by assumption) (TopRead.nolimit (by assumption)) ?zk8 ?zk6 ?zk7 ?zk9 ?zkB ?zkD ?_ ?zc2 ?zc3 ?zc4; (case zk8 => (dsimp only); omega); (case zk6 => k_dflt k_is); (case zk7 => k_dflt k_is); (case zk9 => first | exact BindsTo.of_eq rfl | exact binds_K (by assumption) rfl (by k_dflt k_is) rfl rfl rfl | exact kp_binds (by assumption) (fun _ => by with_unfolding_all rfl)); (case zkB => exact rfl); (case zkD => decide +kernel); (case zc2 => exact rfl); (case zc3 => exact rfl); (case zc4 => exact rfl)))
  k_with "my run" => (repeat' (first | ((with_reducible show wpAny _ _ _ _ _ _); walk1) | ((with_reducible show (if _ = true then _ else _)); walk1) | ((with_reducible show Frag.In _ _ ∧ _); walk1) | (dsimp only; (with_reducible show wpAny _ _ _ _ _ _); walk1)))
  k_with "my list" => (first | assumption | exact stays_list (Fr.keep (by assumption)) (by assumption) | exact ⟨_, News.get (by assumption) (by k_mem), rfl, _, rfl⟩)
  k_with "call builtin:len" => ((k_here; (with_reducible show wpAny _ _ (call (Value.builtin "len") [Value.ref _]) _ _ _); k_dflt (refine' len_list ?zl ?zf ?_; (case zl => walk_at "my list"); (case zf => first | ((simp only [List.size_toArray]); omega)))))
  k_with "exec For Name Call cons nil" => ((k_here; k_dflt (refine' for_open ?_ ?zs; (case zs => (intro _; rfl)))))
  k_with "exec For Name Name cons nil" => ((k_here; k_dflt (refine' for_open ?_ ?zs; (case zs => (intro _; rfl)))))
  k_with "exec For" => ((k_here; k_dflt (refine' for_open ?_ ?zs; (case zs => (intro _; rfl)))))
  exact True.intro
variable {prog : Program} {w : World} {A : Around} {E : Value → Shared → Prop} {s : Shared} {Q : Value → Shared → Prop} {a : UInt64} {t u : Tok} {n : Int}
theorem small_not {n : Int} (h : n.natAbs ≤ 1) : ¬ 2 ^ 1024 - 2 ^ 970 ≤ n.natAbs := Nat.not_le.mpr (Nat.lt_of_le_of_lt h (by decide +kernel))
theorem mul_fi1 (hA : A.handled = none) (hn : n.natAbs ≤ 1) (h : Q (.float (Float64.mul a (Float64.ofInt n)) s.toks) { s with toks := s.toks + 1 }) : wpAny (model prog w) A (binaryOp .Mult (.float a t) (.int n u)) Q E s :=
  mul_fi_sharp hA (fun q => absurd q (small_not hn)) fun _ => h
theorem sub_if1 (hA : A.handled = none) (hn : n.natAbs ≤ 1) (h : Q (.float (Float64.sub (Float64.ofInt n) a) s.toks) { s with toks := s.toks + 1 }) : wpAny (model prog w) A (binaryOp .Sub (.int n u) (.float a t)) Q E s :=
  sub_if_sharp hA (fun q => absurd q (small_not hn)) fun _ => h
end
theorem ln_WYiq1 : True := by
  k_with "binaryOp Mult float int" => ((k_here; refine mul_fi1 rfl (by assumption) ?_; try dsimp only))
  k_with "binaryOp Sub int float" => ((k_here; refine sub_if1 rfl (by assumption) ?_; try dsimp only))
  exact True.intro
def yF (a b c : Int) : UInt64 := Float64.add (Float64.add (Float64.mul 4599075939470750515 (Float64.ofInt a)) (Float64.mul 4603489467105573601 (Float64.ofInt b))) (Float64.mul 4592590756007337001 (Float64.ofInt c))
def iF (a b c : Int) : UInt64 := Float64.sub (Float64.mul 4604840546993784750 (Float64.sub (Float64.ofInt a) (yF a b c))) (Float64.mul 4598535507515466056 (Float64.sub (Float64.ofInt c) (yF a b c)))
def qF (a b c : Int) : UInt64 := Float64.add (Float64.mul 4602318531202457272 (Float64.sub (Float64.ofInt a) (yF a b c))) (Float64.mul 4601057523306793533 (Float64.sub (Float64.ofInt c) (yF a b c)))
set_option maxRecDepth 100000 in
set_option maxHeartbeats 8000000 in
theorem rgb_ctr (w : World) (a b c : Int) (ta tb tc : Tok) (ha : a.natAbs ≤ 1) (hb : b.natAbs ≤ 1) (hc : c.natAbs ≤ 1) :
    Ctr w 45 [.int a ta, .int b tb, .int c tc] [] 1 16 (fun _ => True) (fun h v h' => h.StaysIn h' ∧ ∃ D ty ti tq, v = .ref D ∧ h'.IsTuple D #[.float (yF a b c) ty, .float (iF a b c) ti, .float (qF a b c) tq]) := by
  w_on
  unfold Ctr
  dsimp only [KK, prog, Cx]
  k_fill
  intro p loose mg mb dp un gd fr s Q E X T hd hu hp hret
  walk_at "my enter"
  intro L h₁ tk0 F N
  replace F := Fr_map (m' := mOf [("r", .int a ta), ("g", .int b tb), ("b", .int c tc)]) F (fun _ => rfl)
  w_strict (walk_at "my run")
  rename Fr _ _ _ _ => F9
  rename News _ _ _ _ => N9
  exact hret _ _ _ ⟨F9.keep, _, _, _, _, rfl, _, N9.get (.head _), rfl, _, rfl⟩
def rF (y i q : UInt64) : UInt64 := Float64.add (Float64.add y (Float64.mul 4606703976345377586 i)) (Float64.mul 4603791717925830846 q)
def gF (y i q : UInt64) : UInt64 := Float64.sub (Float64.sub y (Float64.mul 4598621754083818298 i)) (Float64.mul 4603901015759978483 q)
def bF (y i q : UInt64) : UInt64 := Float64.add (Float64.sub y (Float64.mul 4607671262177584182 i)) (Float64.mul 4610375502138591871 q)
def clL (x : UInt64) : UInt64 := if (Float64.cmp x 0 == some Ordering.lt) = true then 0 else x
def clH (x : UInt64) : UInt64 := if (Float64.cmp x 4607182418800017408 == some Ordering.gt) = true then 4607182418800017408 else x
inductive PP (s : Shared) (L : Addr) (r g b : UInt64) (s' : Shared) : Prop
  | mk (h' : Heap) (tk' : Nat) (m' : Str → Option Value) (tr tg tb : Tok) (e : s' = { s with heap := h', toks := tk' }) (F : Fr s.heap L h' m') (N : News s.heap L h' []) (mr : m' "r" = some (.float r tr)) (mg : m' "g" = some (.float g tg)) (mb : m' "b" = some (.float b tb)) : PP s L r g b s'
theorem PP.eq {s : Shared} {L : Addr} {r g b r' g' b' : UInt64} {s' : Shared} (P : PP s L r g b s') (e1 : r' = r) (e2 : g' = g) (e3 : b' = b) : PP s L r' g' b' s' := by
  subst e1 e2 e3; exact P
set_option maxRecDepth 100000 in
set_option maxHeartbeats 8000000 in
theorem yiq_ctr (w : World) (y i q : UInt64) (ty ti tq : Tok) :
    Ctr w 52 [.float y ty, .float i ti, .float q tq] [] 1 16 (fun _ => True) (fun h v h' => h.StaysIn h' ∧ ∃ D tr tg tb, v = .ref D ∧ h'.IsTuple D #[.float (clH (clL (rF y i q))) tr, .float (clH (clL (gF y i q))) tg, .float (clH (clL (bF y i q))) tb]) := by
  w_on
  unfold Ctr
  dsimp only [KK, prog, Cx]
  k_fill
  intro p loose mg mb dp un gd fr s Q E X T hd hu hp hret
  walk_at "my enter"
  intro L h₁ tk0 F N
  replace F := Fr_map (m' := mOf [("y", .float y ty), ("i", .float i ti), ("q", .float q tq)]) F (fun _ => rfl)
  w_strict (iterate 51 walk1)
  refine cut (PP s L (clL (rF y i q)) (gF y i q) (bF y i q)) ?_ ?_
  · clear hret
    w_strict (walk_at "my run")
    · rename Fr _ _ _ _ => F9
      rename News _ _ _ _ => N9
      refine ⟨rfl, PP.eq ⟨_, _, _, _, _, _, rfl, F9, N9, by walk_at "my get", by walk_at "my get", by walk_at "my get"⟩ (if_pos (by assumption)) (rfl) (rfl)⟩
    · rename Fr _ _ _ _ => F9
      rename News _ _ _ _ => N9
      refine ⟨rfl, PP.eq ⟨_, _, _, _, _, _, rfl, F9, N9, by walk_at "my get", by walk_at "my get", by walk_at "my get"⟩ (if_neg (by first | assumption | exact Bool.eq_false_iff.mp (by assumption))) (rfl) (rfl)⟩
  rintro _ ⟨h0, tk0, m0, tr0, tg0, tb0, rfl, F, N, mr, mg', mb'⟩
  refine cut (PP s L (clL (rF y i q)) (clL (gF y i q)) (bF y i q)) ?_ ?_
  · clear hret
    w_strict (walk_at "my run")
    · rename Fr _ _ _ _ => F9
      rename News _ _ _ _ => N9
      refine ⟨rfl, PP.eq ⟨_, _, _, _, _, _, rfl, F9, N9, by walk_at "my get", by walk_at "my get", by walk_at "my get"⟩ (rfl) (if_pos (by assumption)) (rfl)⟩
    · rename Fr _ _ _ _ => F9
      rename News _ _ _ _ => N9
      refine ⟨rfl, PP.eq ⟨_, _, _, _, _, _, rfl, F9, N9, by walk_at "my get", by walk_at "my get", by walk_at "my get"⟩ (rfl) (if_neg (by first | assumption | exact Bool.eq_false_iff.mp (by assumption))) (rfl)⟩
  rintro _ ⟨h1, tk1, m1, tr1, tg1, tb1, rfl, F, N, mr, mg', mb'⟩
  refine cut (PP s L (clL (rF y i q)) (clL (gF y i q)) (clL (bF y i q))) ?_ ?_
  · clear hret
    w_strict (walk_at "my run")
    · rename Fr _ _ _ _ => F9
      rename News _ _ _ _ => N9
      refine ⟨rfl, PP.eq ⟨_, _, _, _, _, _, rfl, F9, N9, by walk_at "my get", by walk_at "my get", by walk_at "my get"⟩ (rfl) (rfl) (if_pos (by assumption))⟩
    · rename Fr _ _ _ _ => F9
      rename News _ _ _ _ => N9
      refine ⟨rfl, PP.eq ⟨_, _, _, _, _, _, rfl, F9, N9, by walk_at "my get", by walk_at "my get", by walk_at "my get"⟩ (rfl) (rfl) (if_neg (by first | assumption | exact Bool.eq_false_iff.mp (by assumption)))⟩
  rintro _ ⟨h2, tk2, m2, tr2, tg2, tb2, rfl, F, N, mr, mg', mb'⟩
  refine cut (PP s L (clH (clL (rF y i q))) (clL (gF y i q)) (clL (bF y i q))) ?_ ?_
  · clear hret
    w_strict (walk_at "my run")
    · rename Fr _ _ _ _ => F9
      rename News _ _ _ _ => N9
      refine ⟨rfl, PP.eq ⟨_, _, _, _, _, _, rfl, F9, N9, by walk_at "my get", by walk_at "my get", by walk_at "my get"⟩ (if_pos (by assumption)) (rfl) (rfl)⟩
    · rename Fr _ _ _ _ => F9
      rename News _ _ _ _ => N9
      refine ⟨rfl, PP.eq ⟨_, _, _, _, _, _, rfl, F9, N9, by walk_at "my get", by walk_at "my get", by walk_at "my get"⟩ (if_neg (by first | assumption | exact Bool.eq_false_iff.mp (by assumption))) (rfl) (rfl)⟩
  rintro _ ⟨h3, tk3, m3, tr3, tg3, tb3, rfl, F, N, mr, mg', mb'⟩
  refine cut (PP s L (clH (clL (rF y i q))) (clH (clL (gF y i q))) (clL (bF y i q))) ?_ ?_
  · clear hret
    w_strict (walk_at "my run")
    · rename Fr _ _ _ _ => F9
      rename News _ _ _ _ => N9
      refine ⟨rfl, PP.eq ⟨_, _, _, _, _, _, rfl, F9, N9, by walk_at "my get", by walk_at "my get", by walk_at "my get"⟩ (rfl) (if_pos (by assumption)) (rfl)⟩
    · rename Fr _ _ _ _ => F9
      rename News _ _ _ _ => N9
      refine ⟨rfl, PP.eq ⟨_, _, _, _, _, _, rfl, F9, N9, by walk_at "my get", by walk_at "my get", by walk_at "my get"⟩ (rfl) (if_neg (by first | assumption | exact Bool.eq_false_iff.mp (by assumption))) (rfl)⟩
  rintro _ ⟨h4, tk4, m4, tr4, tg4, tb4, rfl, F, N, mr, mg', mb'⟩
  refine cut (PP s L (clH (clL (rF y i q))) (clH (clL (gF y i q))) (clH (clL (bF y i q)))) ?_ ?_
  · clear hret
    w_strict (walk_at "my run")
    · rename Fr _ _ _ _ => F9
      rename News _ _ _ _ => N9
      refine ⟨rfl, PP.eq ⟨_, _, _, _, _, _, rfl, F9, N9, by walk_at "my get", by walk_at "my get", by walk_at "my get"⟩ (rfl) (rfl) (if_pos (by assumption))⟩
    · rename Fr _ _ _ _ => F9
      rename News _ _ _ _ => N9
      refine ⟨rfl, PP.eq ⟨_, _, _, _, _, _, rfl, F9, N9, by walk_at "my get", by walk_at "my get", by walk_at "my get"⟩ (rfl) (rfl) (if_neg (by first | assumption | exact Bool.eq_false_iff.mp (by assumption)))⟩
  rintro _ ⟨h5, tk5, m5, tr5, tg5, tb5, rfl, F, N, mr, mg', mb'⟩
  w_strict (walk_at "my run")
  rename Fr _ _ _ _ => F9
  rename News _ _ _ _ => N9
  exact hret _ _ _ ⟨F9.keep, _, _, _, _, rfl, _, N9.get (.head _), rfl, _, rfl⟩
end
section
section
theorem ln_WNeg0 : True := by
  k_with_none
  k_with "my mk" => (first | (with_reducible rfl) | exact lit_e | exact lit_nl | exact lit_tab | exact lit_q | exact lit_qs | exact lit_bs)
  k_with "my len" => (((try simp only [List.length_append, List.length_cons, List.length_nil, List.length_map]); omega))
  k_with "my get" => (first | with_reducible assumption | rfl | ((repeat' (refine (if_neg (by decide)).trans ?_)); first | with_reducible assumption | rfl))
  k_with "eval Name" => ((k_here; k_dflt (first
  | (refine' nameX_L ?zF ?zv ?_ ?za ?zb; (case za => rfl); (case zb => rfl); (case zF => with_reducible assumption); (case zv => walk_at "my get"))
  | (refine' nmL ?zn ?zv ?_ ?zl ?za ?zb; (case za => rfl); (case zb => rfl); (case zl => rfl); (case zn => with_reducible assumption); (case zv => walk_at "my get"))
  | (refine' nmC ?zc ?zo ?zd ?_ ?za ?zb; (case za => rfl); (case zb => rfl); (case zc => rfl); (case zo => with_reducible assumption); (case zd => with_reducible assumption)))))
  k_with "binaryOp Add str str" => ((k_here; refine' add_mk ?za ?zb ?zl ?_; (case za => walk_at "my mk"); (case zb => walk_at "my mk"); (case zl => walk_at "my len"); intro _ _; (try dsimp only)))
  k_with "inplaceOp Add str str" => ((k_here; refine' iadd_mk ?za ?zb ?zl ?_; (case za => walk_at "my mk"); (case zb => walk_at "my mk"); (case zl => walk_at "my len"); intro _ _; (try dsimp only)))
  k_with "compareOp Eq str str" => ((k_here; refine' eq_mk ?za ?zb ?_; (case za => walk_at "my mk"); (case zb => walk_at "my mk")))
  k_with "compareOp NotEq str str" => ((k_here; refine' ne_mk ?za ?zb ?_; (case za => walk_at "my mk"); (case zb => walk_at "my mk")))
  k_with "eval ListComp" => ((k_here; k_dflt (refine' comp_open ?zc ?_ ?zk ?zn ?zs; (case zc => with_unfolding_all rfl); (case zk => rfl); (case zn => decide); (case zs => (intro _; rfl)))))
  k_with "my enter" => ((refine' enterP (by assumption) (TopRead.nolimit (by assumption)) ?zk8 ?zk6 ?zk7 ?zk9 ?zkB ?_ ?zc1 ?zc2 ?zc3 ?zc4; (case zk8 => (dsimp only); omega); (case zk6 => k_dflt k_is); (case zk7 => k_dflt k_is); (case zk9 => first | exact BindsTo.of_eq rfl | exact binds_K (by assumption) rfl (by k_dflt k_is) rfl rfl rfl | exact kp_binds (by assumption) (fun _ => by with_unfolding_all rfl)); (case zkB => exact locs rfl); (case zc1 => decide); (case zc2 => exact rfl); (case zc3 => exact rfl); (case zc4 => exact rfl)))
  k_with "my enterC" => ((refine' enterC (by assumption) (TopRead.nolimit (by assumption)) ?zk8 ?zk6 ?zk7 ?zk9 ?zkB ?zkD ?_ ?zc2 ?zc3 ?zc4; (case zk8 => (dsimp only); omega); (case zk6 => k_dflt k_is); (case zk7 => k_dflt k_is); (case zk9 => first | exact BindsTo.of_eq rfl | exact binds_K (by assumption) rfl (by k_dflt k_is) rfl rfl rfl | exact kp_binds (by assumption) (fun _ => by with_unfolding_all rfl)); (case zkB => exact rfl); (case zkD => decide +kernel); (case zc2 => exact rfl); (case zc3 => exact rfl); (case zc4 => exact rfl)))
  k_with "my run" => (repeat' (first | ((with_reducible show wpAny _ _ _ _ _ _); walk1) | ((with_reducible show (if _ = true then _ else _)); walk1) | ((with_reducible show Frag.In _ _ ∧ _); walk1) | (dsimp only; (with_reducible show wpAny _ _ _ _ _ _); walk1)))
  k_with "my list" => (first | assumption | exact stays_list (Fr.keep (by assumption)) (by assumption) | exact ⟨_, News.get (by assumption) (by k_mem), rfl, _, rfl⟩)
  k_with "call builtin:len" => ((k_here; (with_reducible show wpAny _ _ (call (Value.builtin "len") [Value.ref _]) _ _ _); k_dflt (refine' len_list ?zl ?zf ?_; (case zl => walk_at "my list"); (case zf => first | ((simp only [List.size_toArray]); omega)))))
  k_with "exec For Name Call cons nil" => ((k_here; k_dflt (refine' for_open ?_ ?zs; (case zs => (intro _; rfl)))))
  k_with "exec For Name Name cons nil" => ((k_here; k_dflt (refine' for_open ?_ ?zs; (case zs => (intro _; rfl)))))
  k_with "exec For" => ((k_here; k_dflt (refine' for_open ?_ ?zs; (case zs => (intro _; rfl)))))
  exact True.intro
variable {prog : Program} {w : World} {A : Around} {E : Value → Shared → Prop} {s : Shared} {Q : Value → Shared → Prop} {x : UInt64} {t : Tok}
def okF (x : UInt64) (n : Int) : Bool := !Float64.isNaN x && !Float64.isInf x && decide (PySem.Flt.toInt Float64.truncOf x = n)
theorem int_float1 {n : Int} (hA : A.handled = none) (hx : okF x n = true) (h : Q (.int n s.toks) { s with toks := s.toks + 1 }) : wpAny (model prog w) A (call (.type "int") [.float x t]) Q E s := by
  unfold okF at hx
  simp only [Bool.and_eq_true, Bool.not_eq_true', decide_eq_true_eq] at hx
  obtain ⟨⟨h1, h2⟩, h3⟩ := hx
  exact PySem.Flt.call_int_float3 hA (fun q => by rw [h1] at q; cases q) (fun q => by rw [h2] at q; cases q) fun _ => by rw [h3]; exact h
end
abbrev neg1 (f : UInt64 → UInt64 → UInt64 → UInt64) (a b c : Int) : UInt64 := clH (clL (f (Float64.sub 4607182418800017408 (yF a b c)) (Float64.neg (iF a b c)) (Float64.neg (qF a b c))))
theorem neg_facts : ∀ a ∈ [(0 : Int), 1], ∀ b ∈ [(0 : Int), 1], ∀ c ∈ [(0 : Int), 1], okF (Float64.add (neg1 rF a b c) 4602678819172646912) (1 - a) = true ∧ okF (Float64.add (neg1 gF a b c) 4602678819172646912) (1 - b) = true ∧ okF (Float64.add (neg1 bF a b c) 4602678819172646912) (1 - c) = true := by decide +kernel
def fval : Value → Int
  | .float x _ => PySem.Flt.toInt Float64.truncOf (Float64.add x 4602678819172646912)
  | _ => 0
theorem okF_val {x : UInt64} {n : Int} (h : okF x n = true) : PySem.Flt.toInt Float64.truncOf x = n := by
  unfold okF at h
  simp only [Bool.and_eq_true, decide_eq_true_eq] at h
  exact h.2
theorem three_get {α : Type} {x y z v : α} {i : Nat} (h : (#[x, y, z] : Array α)[i]? = some v) : v = x ∨ v = y ∨ v = z := by
  match i with
  | 0 => simp at h; exact .inl h.symm
  | 1 => simp at h; exact .inr (.inl h.symm)
  | 2 => simp at h; exact .inr (.inr h.symm)
  | i + 3 => simp at h
theorem ln_WNeg1 : True := by
  k_with "call ref" => ((k_here; (first
  | (refine' Ctr.use (rgb_ctr _ _ _ _ _ _ _ (by assumption) (by assumption) (by assumption)) ?zhR ?zF ?zX ?zN ?zT ?zd ?zu ?zpr ?_)
  | (refine' Ctr.use (yiq_ctr _ _ _ _ _ _ _) ?zhR ?zF ?zX ?zN ?zT ?zd ?zu ?zpr ?_)); (case zhR => exact fun _ _ _ r => r.1); (case zF => k_asm); (case zX => k_asm); (case zN => k_asm); (case zT => first | assumption | exact topRead_of (by assumption)); (case zd => (dsimp only); omega); (case zu => (dsimp only); omega); (case zpr => trivial); intro _ _ _ _ _ _ r9; obtain ⟨_, D9, t1, t2, t3, e9, hT9⟩ := r9; subst e9; (try k_sweep)))
  k_with "subscriptTail Name Constant ref int" => ((k_here; refine' item_list (stays_list (Fr.keep (by assumption)) (by assumption)) ?za ?zb ?zc ?_; (case za => decide); (case zb => decide); (case zc => rfl)))
  k_with "call type:int" => ((k_here; refine' int_float1 rfl ?zh ?_; (case zh => assumption)))
  exact True.intro
set_option maxRecDepth 100000 in
set_option maxHeartbeats 8000000 in
theorem neg_ctr (w : World) (l : Addr) (a b c : Int) (ta tb tc : Tok) (ha : a ∈ [(0 : Int), 1]) (hb : b ∈ [(0 : Int), 1]) (hc : c ∈ [(0 : Int), 1]) :
    Ctr w 295 [.ref l] [] 3 60 (fun h => h.IsList l #[.int a ta, .int b tb, .int c tc])
      (fun h v h' => h.StaysIn h' ∧ ∃ D ys, v = .ref D ∧ h.get? D = none ∧ h'.PlainList D ys.toArray ∧ IntsAre ys [1 - a, 1 - b, 1 - c]) := by
  have hf := neg_facts a ha b hb c hc
  have one : ∀ x : Int, x ∈ [(0 : Int), 1] → x.natAbs ≤ 1 := fun x hx => by
    rcases List.mem_cons.mp hx with rfl | hx
    · decide
    · rw [List.mem_singleton.mp hx]; decide
  have na := one a ha
  have nb := one b hb
  have nc := one c hc
  obtain ⟨f1, f2, f3⟩ := hf
  clear one ha hb hc
  w_on
  unfold Ctr
  dsimp only [KK, prog, Cx]
  k_fill
  intro p loose mg mb dp un gd fr s Q E X T hd hu hp hret
  walk_at "my enter"
  intro L h₁ tk0 F N
  replace F := Fr_map (m' := mOf [("light", .ref l)]) F (fun _ => rfl)
  w_strict (walk_at "my run")
  rename Fr _ _ _ _ => F9
  refine comp_tuple rfl (by assumption) (by simp [sizeLine_eq]) (fun _ => true) (fun v y => ∃ t, y = .int (fval v) t) ?_ ?_ ?_
  · intro C i v s₃ m₃ E' hv hk hn hm
    exact wpAny_tests_nil ⟨rfl, _, _, rfl, fun _ _ e => e⟩
  · intro C i v s₃ m₃ E' hv hp hk hn hm
    obtain ⟨x, t, n, rfl, hx⟩ : ∃ x t n, v = .float x t ∧ okF (Float64.add x 4602678819172646912) n = true := by
      rcases three_get hv with rfl | rfl | rfl
      · exact ⟨_, _, _, rfl, f1⟩
      · exact ⟨_, _, _, rfl, f2⟩
      · exact ⟨_, _, _, rfl, f3⟩
    have X3 := X.keeps (fun b o e => hk _ _ (F9.keep b o e))
    have T3 := T.keeps (fun b o e => hk _ _ (F9.keep b o e))
    w_strict (walk_at "my run")
    refine' nmB (v := .type "int") X3 T3 (fun _ _ e => e) ?ne ?nv ?nn ?_
    case ne => k_dflt k_is
    case nv => exact rfl
    case nn => decide
    w_strict (walk_at "my run")
    exact ⟨⟨_, by show _ = Value.int (PySem.Flt.toInt _ _) _; rw [okF_val hx]⟩, _, _, rfl, fun _ _ e => e⟩
  · intro D C h' tk' m' ys hD hC hDC hnC hpl hF hst
    refine cq_end hC hDC hnC hpl hst fun h'' hpl hst => ?_
    w_strict (walk_at "my run")
    have hF' : Paired (fun v y => ∃ t, y = Value.int (fval v) t) [_, _, _] ys.toList := hF
    obtain ⟨ys⟩ := ys
    refine hret _ _ _ ⟨fun b o e => hst _ _ (F9.keep _ _ e), D, ys, rfl, fr_none F9 hD, hpl, ?_⟩
    dsimp only at hF'
    cases hF' with
    | cons e1 r =>
      cases r with
      | cons e2 r =>
        cases r with
        | cons e3 r =>
          cases r
          obtain ⟨t1, rfl⟩ := e1
          obtain ⟨t2, rfl⟩ := e2
          obtain ⟨t3, rfl⟩ := e3
          rw [← okF_val f1, ← okF_val f2, ← okF_val f3]
          exact .cons _ _ (.cons _ _ (.cons _ _ .nil))
end
section
theorem ln_WLights0 : True := by
  k_with_none
  k_with "my mk" => (first | (with_reducible rfl) | exact lit_e | exact lit_nl | exact lit_tab | exact lit_q | exact lit_qs | exact lit_bs)
  k_with "my len" => (((try simp only [List.length_append, List.length_cons, List.length_nil, List.length_map]); omega))
  k_with "my get" => (first | with_reducible assumption | rfl | ((repeat' (refine (if_neg (by decide)).trans ?_)); first | with_reducible assumption | rfl))
  k_with "eval Name" => ((k_here; k_dflt (first
  | (refine' nameX_L ?zF ?zv ?_ ?za ?zb; (case za => rfl); (case zb => rfl); (case zF => with_reducible assumption); (case zv => walk_at "my get"))
  | (refine' nmL ?zn ?zv ?_ ?zl ?za ?zb; (case za => rfl); (case zb => rfl); (case zl => rfl); (case zn => with_reducible assumption); (case zv => walk_at "my get"))
  | (refine' nmC ?zc ?zo ?zd ?_ ?za ?zb; (case za => rfl); (case zb => rfl); (case zc => rfl); (case zo => with_reducible assumption); (case zd => with_reducible assumption)))))
  k_with "binaryOp Add str str" => ((k_here; refine' add_mk ?za ?zb ?zl ?_; (case za => walk_at "my mk"); (case zb => walk_at "my mk"); (case zl => walk_at "my len"); intro _ _; (try dsimp only)))
  k_with "inplaceOp Add str str" => ((k_here; refine' iadd_mk ?za ?zb ?zl ?_; (case za => walk_at "my mk"); (case zb => walk_at "my mk"); (case zl => walk_at "my len"); intro _ _; (try dsimp only)))
  k_with "compareOp Eq str str" => ((k_here; refine' eq_mk ?za ?zb ?_; (case za => walk_at "my mk"); (case zb => walk_at "my mk")))
  k_with "compareOp NotEq str str" => ((k_here; refine' ne_mk ?za ?zb ?_; (case za => walk_at "my mk"); (case zb => walk_at "my mk")))
  k_with "eval ListComp" => ((k_here; k_dflt (refine' comp_open ?zc ?_ ?zk ?zn ?zs; (case zc => with_unfolding_all rfl); (case zk => rfl); (case zn => decide); (case zs => (intro _; rfl)))))
  k_with "my enter" => ((refine' enterP (by assumption) (TopRead.nolimit (by assumption)) ?zk8 ?zk6 ?zk7 ?zk9 ?zkB ?_ ?zc1 ?zc2 ?zc3 ?zc4; (case zk8 => (dsimp only); omega); (case zk6 => k_dflt k_is); (case zk7 => k_dflt k_is); (case zk9 => first | exact BindsTo.of_eq rfl | exact binds_K (by assumption) rfl (by k_dflt k_is) rfl rfl rfl | exact kp_binds (by assumption) (fun _ => by with_unfolding_all rfl)); (case zkB => exact locs rfl); (case zc1 => decide); (case zc2 => exact rfl); (case zc3 => exact rfl); (case zc4 => exact rfl)))
  k_with "my enterC" => ((refine' enterC (by assumption) (TopRead.nolimit (by assumption)) ?zk8 ?zk6 ?zk7 ?zk9 ?zkB ?zkD ?_ ?zc2 ?zc3 ?zc4; (case zk8 => (dsimp only); omega); (case zk6 => k_dflt k_is); (case zk7 => k_dflt k_is); (case zk9 => first | exact BindsTo.of_eq rfl | exact binds_K (by assumption) rfl (by k_dflt k_is) rfl rfl rfl | exact kp_binds (by assumption) (fun _ => by with_unfolding_all rfl)); (case zkB => exact rfl); (case zkD => decide +kernel); (case zc2 => exact rfl); (case zc3 => exact rfl); (case zc4 => exact rfl)))
  k_with "my run" => (repeat' (first | ((with_reducible show wpAny _ _ _ _ _ _); walk1) | ((with_reducible show (if _ = true then _ else _)); walk1) | ((with_reducible show Frag.In _ _ ∧ _); walk1) | (dsimp only; (with_reducible show wpAny _ _ _ _ _ _); walk1)))
  k_with "my list" => (first | assumption | exact stays_list (Fr.keep (by assumption)) (by assumption) | exact ⟨_, News.get (by assumption) (by k_mem), rfl, _, rfl⟩)
  k_with "call builtin:len" => ((k_here; (with_reducible show wpAny _ _ (call (Value.builtin "len") [Value.ref _]) _ _ _); k_dflt (refine' len_list ?zl ?zf ?_; (case zl => walk_at "my list"); (case zf => first | ((simp only [List.size_toArray]); omega)))))
  k_with "exec For Name Call cons nil" => ((k_here; k_dflt (refine' for_open ?_ ?zs; (case zs => (intro _; rfl)))))
  k_with "exec For Name Name cons nil" => ((k_here; k_dflt (refine' for_open ?_ ?zs; (case zs => (intro _; rfl)))))
  k_with "exec For" => ((k_here; k_dflt (refine' for_open ?_ ?zs; (case zs => (intro _; rfl)))))
  k_with "eval ListComp" => ((k_here; k_dflt (refine' comp_openT ?zc ?_ ?zk ?zn ?zs; (case zc => with_unfolding_all rfl); (case zk => rfl); (case zn => decide); (case zs => (intro _; rfl)))))
  k_with "compareOp In str str" => ((k_here; refine' in_mk (by with_reducible rfl) (by with_reducible rfl) ?_))
  exact True.intro
theorem lit_abc : Str.ofString "abc" = mk [97, 98, 99] := by decide +kernel
theorem lit_def : Str.ofString "def" = mk [100, 101, 102] := by decide +kernel
set_option maxRecDepth 100000 in
set_option maxHeartbeats 8000000 in
theorem lights_ctr (w : World) (m : Nat) (t : Tok) :
    Ctr w 290 [.str (mk (letters m)) t] [] 1 16 (fun _ => True)
      (fun h v h' => h.StaysIn h' ∧ ∃ D D1 D2 ys1 ys2, v = .ref D ∧ h.get? D = none ∧ h.get? D1 = none ∧ h.get? D2 = none ∧ h'.PlainList D #[.ref D1, .ref D2] ∧ h'.PlainList D1 ys1.toArray ∧ h'.PlainList D2 ys2.toArray ∧
        IntsAre ys1 [bitI m 97, bitI m 98, bitI m 99] ∧ IntsAre ys2 [bitI m 100, bitI m 101, bitI m 102]) := by
  w_on
  unfold Ctr
  dsimp only [KK, prog, Cx]
  k_fill
  intro p loose mg mb dp un gd fr s Q E X T hd hu hp hret
  walk_at "my enterC"
  intro L h₁ tk0 cells F N Y
  k_cells Y
  rename _ = Data.cell _ => hcell
  replace hcell := hcell.trans (show _ = Data.cell (some (.str (mk (letters m)) t)) from rfl)
  replace F := Fr_map (m' := fun _ => none) F (fun _ => by with_unfolding_all rfl)
  have hn9 := N.get (.head _)
  w_strict (walk_at "my run")
  rename Fr _ _ _ _ => F9
  rename News _ _ _ _ => N9
  refine compT_strE lit_abc rfl (by decide +kernel) (by rw [sizeLine_eq]; decide) (fun i ys h => IntsAre ys (([97, 98, 99].take i).map (bitI m))) (fun _ _ _ _ _ j => j) .nil ?_ ?_
  · rintro C as i s3 ys m3 E' hi ⟨c, u, hc, hm⟩ hb hb' hn hj hlive
    have ho3 := hb _ _ hn9
    w_strict (walk_at "my run")
    · refine ⟨_, _, rfl, fun _ _ e => e, ?_⟩
      dsimp only
      rw [take_succ_map _ hc, show bitI m c = 1 from if_pos (by assumption)]
      exact ints_app hj (.cons _ _ .nil)
    · refine ⟨_, _, rfl, fun _ _ e => e, ?_⟩
      dsimp only
      rw [take_succ_map _ hc, show bitI m c = 0 from if_neg (by assumption)]
      exact ints_app hj (.cons _ _ .nil)
  · intro D1 h1 tk1 ys1 hD1 hpl1 hst1 hj1
    have F8 := F9.keeps hst1
    have hn8 := hst1 _ _ hn9
    have hD1' := fr_none F9 hD1
    obtain ⟨n1, e1⟩ := hpl1
    have N8 : News _ L h1 [(D1, listOf ys1.toArray n1)] := news_add (m' := fun _ => none) (news := []) F9 hD1 (fun _ h => nomatch h) e1
    clear F9 N9 hst1 hn9
    w_strict (walk_at "my run")
    rename Fr _ _ _ _ => F7
    rename News _ _ _ _ => N7
    refine compT_strE lit_def rfl (by decide +kernel) (by rw [sizeLine_eq]; decide) (fun i ys h => IntsAre ys (([100, 101, 102].take i).map (bitI m))) (fun _ _ _ _ _ j => j) .nil ?_ ?_
    · rintro C as i s3 ys m3 E' hi ⟨c, u, hc, hm⟩ hb hb' hn hj hlive
      have ho3 := hb _ _ hn8
      w_strict (walk_at "my run")
      · refine ⟨_, _, rfl, fun _ _ e => e, ?_⟩
        dsimp only
        rw [take_succ_map _ hc, show bitI m c = 1 from if_pos (by assumption)]
        exact ints_app hj (.cons _ _ .nil)
      · refine ⟨_, _, rfl, fun _ _ e => e, ?_⟩
        dsimp only
        rw [take_succ_map _ hc, show bitI m c = 0 from if_neg (by assumption)]
        exact ints_app hj (.cons _ _ .nil)
    · intro D2 h2 tk2 ys2 hD2 hpl2 hst2 hj2
      have F6 := F7.keeps hst2
      obtain ⟨n2, e2⟩ := hpl2
      have N6 : News _ L h2 [(D2, listOf ys2.toArray n2), (D1, listOf ys1.toArray n1)] := news_add (m' := fun _ => none) (news := []) F7 hD2 (N7.grown hst2) e2
      have hD2' := fr_none F7 hD2
      clear hst2 hn8
      w_strict (walk_at "my run")
      rename News _ _ _ _ => N5
      rename Fr _ _ _ _ => F5
      exact hret _ _ _ ⟨F5.keep, _, D1, D2, ys1, ys2, rfl, (N5 _ (.head _)).2.2, hD1', hD2', ⟨_, N5.get (.head _)⟩, ⟨_, N5.get (.tail _ (.tail _ (.head _)))⟩, ⟨_, N5.get (.tail _ (.head _))⟩, hj1, hj2⟩
end
section
theorem ln_WShown0 : True := by
  k_with_none
  k_with "my mk" => (first | (with_reducible rfl) | exact lit_e | exact lit_nl | exact lit_tab | exact lit_q | exact lit_qs | exact lit_bs)
  k_with "my len" => (((try simp only [List.length_append, List.length_cons, List.length_nil, List.length_map]); omega))
  k_with "my get" => (first | with_reducible assumption | rfl | ((repeat' (refine (if_neg (by decide)).trans ?_)); first | with_reducible assumption | rfl))
  k_with "eval Name" => ((k_here; k_dflt (first
  | (refine' nameX_L ?zF ?zv ?_ ?za ?zb; (case za => rfl); (case zb => rfl); (case zF => with_reducible assumption); (case zv => walk_at "my get"))
  | (refine' nmL ?zn ?zv ?_ ?zl ?za ?zb; (case za => rfl); (case zb => rfl); (case zl => rfl); (case zn => with_reducible assumption); (case zv => walk_at "my get"))
  | (refine' nmC ?zc ?zo ?zd ?_ ?za ?zb; (case za => rfl); (case zb => rfl); (case zc => rfl); (case zo => with_reducible assumption); (case zd => with_reducible assumption)))))
  k_with "binaryOp Add str str" => ((k_here; refine' add_mk ?za ?zb ?zl ?_; (case za => walk_at "my mk"); (case zb => walk_at "my mk"); (case zl => walk_at "my len"); intro _ _; (try dsimp only)))
  k_with "inplaceOp Add str str" => ((k_here; refine' iadd_mk ?za ?zb ?zl ?_; (case za => walk_at "my mk"); (case zb => walk_at "my mk"); (case zl => walk_at "my len"); intro _ _; (try dsimp only)))
  k_with "compareOp Eq str str" => ((k_here; refine' eq_mk ?za ?zb ?_; (case za => walk_at "my mk"); (case zb => walk_at "my mk")))
  k_with "compareOp NotEq str str" => ((k_here; refine' ne_mk ?za ?zb ?_; (case za => walk_at "my mk"); (case zb => walk_at "my mk")))
  k_with "eval ListComp" => ((k_here; k_dflt (refine' comp_open ?zc ?_ ?zk ?zn ?zs; (case zc => with_unfolding_all rfl); (case zk => rfl); (case zn => decide); (case zs => (intro _; rfl)))))
  k_with "my enter" => ((refine' enterP (by assumption) (TopRead.nolimit (by assumption)) ?zk8 ?zk6 ?zk7 ?zk9 ?zkB ?_ ?zc1 ?zc2 ?zc3 ?zc4; (case zk8 => (dsimp only); omega); (case zk6 => k_dflt k_is); (case zk7 => k_dflt k_is); (case zk9 => first | exact BindsTo.of_eq rfl | exact binds_K (by assumption) rfl (by k_dflt k_is) rfl rfl rfl | exact kp_binds (by assumption) (fun _ => by with_unfolding_all rfl)); (case zkB => exact locs rfl); (case zc1 => decide); (case zc2 => exact rfl); (case zc3 => exact rfl); (case zc4 => exact rfl)))
  k_with "my enterC" => ((refine' enterC (by assumption) (TopRead.nolimit (by assumption)) ?zk8 ?zk6 ?zk7 ?zk9 ?zkB ?zkD ?_ ?zc2 ?zc3 ?zc4; (case zk8 => (dsimp only); omega); (case zk6 => k_dflt k_is); (case zk7 => k_dflt k_is); (case zk9 => first | exact BindsTo.of_eq rfl | exact binds_K (by assumption) rfl (by k_dflt k_is) rfl rfl rfl | exact kp_binds (by assumption) (fun _ => by with_unfolding_all rfl)); (case zkB => exact rfl); (case zkD => decide +kernel); (case zc2 => exact rfl); (case zc3 => exact rfl); (case zc4 => exact rfl)))
  k_with "my run" => (repeat' (first | ((with_reducible show wpAny _ _ _ _ _ _); walk1) | ((with_reducible show (if _ = true then _ else _)); walk1) | ((with_reducible show Frag.In _ _ ∧ _); walk1) | (dsimp only; (with_reducible show wpAny _ _ _ _ _ _); walk1)))
  k_with "my list" => (first | assumption | exact stays_list (Fr.keep (by assumption)) (by assumption) | exact ⟨_, News.get (by assumption) (by k_mem), rfl, _, rfl⟩)
  k_with "call builtin:len" => ((k_here; (with_reducible show wpAny _ _ (call (Value.builtin "len") [Value.ref _]) _ _ _); k_dflt (refine' len_list ?zl ?zf ?_; (case zl => walk_at "my list"); (case zf => first | ((simp only [List.size_toArray]); omega)))))
  k_with "exec For Name Call cons nil" => ((k_here; k_dflt (refine' for_open ?_ ?zs; (case zs => (intro _; rfl)))))
  k_with "exec For Name Name cons nil" => ((k_here; k_dflt (refine' for_open ?_ ?zs; (case zs => (intro _; rfl)))))
  k_with "exec For" => ((k_here; k_dflt (refine' for_open ?_ ?zs; (case zs => (intro _; rfl)))))
  k_with "eval ListComp" => ((k_here; k_dflt (refine' comp_openT ?zc ?_ ?zk ?zn ?zs; (case zc => with_unfolding_all rfl); (case zk => rfl); (case zn => decide); (case zs => (intro _; rfl)))))
  k_with "subscriptTail Name Constant ref int" => ((k_here; refine' item_list (stays_list (Fr.keep (by assumption)) (by assumption)) ?za ?zb ?zc ?_; (case za => decide); (case zb => decide); (case zc => rfl)))
  exact True.intro
theorem lit_af : Str.ofString "abcdef" = mk [97, 98, 99, 100, 101, 102] := by decide +kernel
set_option maxRecDepth 100000 in
set_option maxHeartbeats 8000000 in
theorem shown_ctr (w : World) (D D1 D2 : Addr) (ys1 ys2 : List Value) (b1 b2 b3 b4 b5 b6 : Int) (h1 : IntsAre ys1 [b1, b2, b3]) (h2 : IntsAre ys2 [b4, b5, b6]) :
    Ctr w 300 [.ref D] [] 1 20 (fun h => h.IsList D #[.ref D1, .ref D2] ∧ h.IsList D1 ys1.toArray ∧ h.IsList D2 ys2.toArray)
      (fun h v h' => h.StaysIn h' ∧ ∃ u, v = .str (mk (shownL [b1, b2, b3, b4, b5, b6])) u) := by
  w_on
  unfold Ctr
  dsimp only [KK, prog, Cx]
  k_fill
  intro p loose mg mb dp un gd fr s Q E X T hd hu hp hret
  obtain ⟨hp0, hp1, hp2⟩ := hp
  walk_at "my enter"
  intro L h₁ tk0 F N
  replace F := Fr_map (m' := mOf [("lights", .ref D)]) F (fun _ => rfl)
  w_strict (walk_at "my run")
  rename Fr _ _ _ _ => F9
  rename News _ _ _ _ => N9
  show wpAny _ _ (binaryOp .Add (.ref D1) (.ref D2)) _ _ _
  have hI : IntsAre (ys1 ++ ys2) [b1, b2, b3, b4, b5, b6] := h1.append h2
  have hI6 : (ys1 ++ ys2).length = 6 := hI.length
  refine add_lists F9 N9 (stays_list F9.keep hp1) (stays_list F9.keep hp2) (fun h2 F8 N8 => ?_) (by rw [← List.length_append, hI6, sizeLine_eq]; decide)
  w_strict (walk_at "my run")
  rename Fr _ _ _ _ => F7
  rename News _ _ _ _ => N7
  refine compT_zipSLC lit_af (by decide +kernel) rfl (n := 6) ⟨_, N7.get (.head _), rfl, _, rfl⟩ rfl (by simpa using hI6) (by decide) (fun i zs h => Txts zs (((([97, 98, 99, 100, 101, 102].zip [b1, b2, b3, b4, b5, b6]).take i).filter fun (p : Nat × Int) => decide (p.2 = 1)).map fun (p : Nat × Int) => [p.1])) (fun _ _ _ _ _ j => j) .nil ?_ ?_
  · rintro C as i s3 zs m3 E' hi ⟨d, v, b, hd, hb, hm1, hm2⟩ hbs hn hj
    rw [List.getElem?_toArray] at hb
    obtain ⟨b', t', rfl, hbb⟩ : ∃ b' t', b = .int b' t' ∧ [b1, b2, b3, b4, b5, b6][i]? = some b' := ints_get hI hb
    have hz : ([97, 98, 99, 100, 101, 102].zip [b1, b2, b3, b4, b5, b6])[i]? = some (d, b') := by rw [List.getElem?_zip_eq_some]; exact ⟨hd, hbb⟩
    w_strict (walk_at "my run")
    all_goals
      refine ⟨_, _, rfl, fun _ _ e => e, ?_⟩
      dsimp only
      rw [List.take_add_one, hz, List.filter_append, List.map_append]
    · rename (b' = 1) => hq
      refine txts_append hj ?_
      have e : (List.filter (fun (p : Nat × Int) => decide (p.2 = 1)) (some (d, b')).toList).map (fun (p : Nat × Int) => [p.1]) = [[d]] := by simp [hq]
      rw [e]
      exact .cons ⟨_, rfl⟩ .nil
    · rename (¬ b' = 1) => hq
      have e : (List.filter (fun (p : Nat × Int) => decide (p.2 = 1)) (some (d, b')).toList).map (fun (p : Nat × Int) => [p.1]) = [] := by simp [hq]
      rw [e, List.append_nil]
      exact hj
  · intro D' h' tk zs hD' hpl hst hj
    w_strict (walk_at "my run")
    have e : ((([97, 98, 99, 100, 101, 102].zip [b1, b2, b3, b4, b5, b6]).filter fun (p : Nat × Int) => decide (p.2 = 1)).map fun (p : Nat × Int) => [p.1]).flatten = shownL [b1, b2, b3, b4, b5, b6] := by rw [flatten_single]; rfl
    have hj' : Txts zs ((([97, 98, 99, 100, 101, 102].zip [b1, b2, b3, b4, b5, b6]).filter fun (p : Nat × Int) => decide (p.2 = 1)).map fun (p : Nat × Int) => [p.1]) := hj
    refine join_txts (by rfl) hpl.isList hj' ?_ fun t' k => ?_
    · rw [e]
      unfold shownL
      rw [List.length_map]
      exact Nat.le_trans (List.length_filter_le _ _) (by simp)
    rw [e]
    exact hret _ _ _ ⟨fun b o e => hst _ _ (F7.keep _ _ e), _, rfl⟩
end
section
inductive Cut1 (h₀ : Heap) (L : Addr) (s1 : Shared) (ocell : Obj) : Shared → Prop
  | mk (Dc : Addr) (vsc : List Value) (cs : List Nat) (nc : Nat) (a0 : Nats vsc cs) (a1 : cs.length = 7) (a2 : (∀ c ∈ cs, c ≤ 64000000)) (h : Heap) (tk : Nat) (d : Drawn) (m : Str → Option Value) (F : Fr h₀ L h m) (N : News h₀ L h ((Dc, listOf vsc.toArray nc) :: (L + 1, ocell) :: ((258 : Nat), tabObj #[]) :: [])) (g0 : m "cells" = some (.ref Dc)) (ap : Ap [(Dc, listOf vsc.toArray nc), (L + 1, ocell), ((258 : Nat), tabObj #[])] []) : Cut1 h₀ L s1 ocell { s1 with heap := h, toks := tk, drawn := d }
inductive Cut2 (h₀ : Heap) (L : Addr) (s1 : Shared) (Dc : Addr) (vsc : List Value) (cs : List Nat) (nc : Nat) (ocell : Obj) : Shared → Prop
  | mk (t : Tok) (h : Heap) (tk : Nat) (d : Drawn) (m : Str → Option Value) (F : Fr h₀ L h m) (N : News h₀ L h ((Dc, listOf vsc.toArray nc) :: (L + 1, ocell) :: ((258 : Nat), tabObj #[]) :: [])) (g0 : m "cells" = some (.ref Dc)) (g1 : m "text" = some (.str (mk (cs.map written).flatten) t)) (ap : Ap [(Dc, listOf vsc.toArray nc), (L + 1, ocell), ((258 : Nat), tabObj #[])] []) : Cut2 h₀ L s1 Dc vsc cs nc ocell { s1 with heap := h, toks := tk, drawn := d }
inductive Cut3 (w0 : World) (h₀ : Heap) (L : Addr) (s1 : Shared) (Dc : Addr) (vsc : List Value) (text : List Nat) (nc : Nat) (tt : Tok) (ocell : Obj) : Shared → Prop
  | mk (x : Addr) (dx : Addr) (fp : Addr) (pb : Addr) (al : Addr) (base : List (Addr × Obj)) (ts : Nat → Tok) (n : Nat) (tv : Tok) (tab : Array Value) (a0 : LexSpec w0 fp al text base) (a1 : LexPts x dx pb al base) (h : Heap) (tk : Nat) (d : Drawn) (m : Str → Option Value) (F : Fr h₀ L h m) (N : News h₀ L h ((x, instObj 108 dx) :: (dx, dictOf (lexD w0 1 fp pb ts) 4) :: (pb, listOf #[] 0) :: (al, listOf #[.int ((0 : Nat) : Int) tv] n) :: (Dc, listOf vsc.toArray nc) :: (L + 1, ocell) :: ((258 : Nat), tabObj tab) :: base)) (g0 : m "cells" = some (.ref Dc)) (g1 : m "text" = some (.str (mk text) tt)) (g2 : m "machine" = some (.ref x)) (ap : Ap [(x, instObj 108 dx), (dx, dictOf (lexD w0 1 fp pb ts) 4), (pb, listOf #[] 0), (al, listOf #[.int ((0 : Nat) : Int) tv] n), (Dc, listOf vsc.toArray nc), (L + 1, ocell), ((258 : Nat), tabObj tab)] base) : Cut3 w0 h₀ L s1 Dc vsc text nc tt ocell { s1 with heap := h, toks := tk, drawn := d }
inductive Cut4 (w0 : World) (h₀ : Heap) (L : Addr) (s1 : Shared) (x : Addr) (dx : Addr) (fp : Addr) (pb : Addr) (al : Addr) (Dc : Addr) (vsc : List Value) (text : List Nat) (nc : Nat) (n : Nat) (tt : Tok) (tv : Tok) (ts : Nat → Tok) (tab : Array Value) (ocell : Obj) (base : List (Addr × Obj)) : Shared → Prop
  | mk (Lt : Addr) (nt : Nat) (h : Heap) (tk : Nat) (d : Drawn) (m : Str → Option Value) (F : Fr h₀ L h m) (N : News h₀ L h ((x, instObj 108 dx) :: (dx, dictOf (lexD w0 1 fp pb ts) 4) :: (pb, listOf #[] 0) :: (al, listOf #[.int ((0 : Nat) : Int) tv] n) :: (Lt, listOf #[] nt) :: (Dc, listOf vsc.toArray nc) :: (L + 1, ocell) :: ((258 : Nat), tabObj tab) :: base)) (g0 : m "cells" = some (.ref Dc)) (g1 : m "text" = some (.str (mk text) tt)) (g2 : m "machine" = some (.ref x)) (g3 : m "takers" = some (.ref Lt)) (ap : Ap [(x, instObj 108 dx), (dx, dictOf (lexD w0 1 fp pb ts) 4), (pb, listOf #[] 0), (al, listOf #[.int ((0 : Nat) : Int) tv] n), (Lt, listOf #[] nt), (Dc, listOf vsc.toArray nc), (L + 1, ocell), ((258 : Nat), tabObj tab)] base) : Cut4 w0 h₀ L s1 x dx fp pb al Dc vsc text nc n tt tv ts tab ocell base { s1 with heap := h, toks := tk, drawn := d }
inductive Cut5 (w0 : World) (h₀ : Heap) (L : Addr) (s1 : Shared) (x : Addr) (dx : Addr) (fp : Addr) (pb : Addr) (al : Addr) (Dc : Addr) (Lt : Addr) (vsc : List Value) (text : List Nat) (nc : Nat) (n : Nat) (nt : Nat) (tt : Tok) (tv : Tok) (ts : Nat → Tok) (tab : Array Value) (ocell : Obj) (base : List (Addr × Obj)) : Shared → Prop
  | mk (Lh : Addr) (nh : Nat) (h : Heap) (tk : Nat) (d : Drawn) (m : Str → Option Value) (F : Fr h₀ L h m) (N : News h₀ L h ((x, instObj 108 dx) :: (dx, dictOf (lexD w0 1 fp pb ts) 4) :: (pb, listOf #[] 0) :: (al, listOf #[.int ((0 : Nat) : Int) tv] n) :: (Lt, listOf #[] nt) :: (Lh, listOf #[] nh) :: (Dc, listOf vsc.toArray nc) :: (L + 1, ocell) :: ((258 : Nat), tabObj tab) :: base)) (g0 : m "cells" = some (.ref Dc)) (g1 : m "text" = some (.str (mk text) tt)) (g2 : m "machine" = some (.ref x)) (g3 : m "takers" = some (.ref Lt)) (g4 : m "holders" = some (.ref Lh)) (ap : Ap [(x, instObj 108 dx), (dx, dictOf (lexD w0 1 fp pb ts) 4), (pb, listOf #[] 0), (al, listOf #[.int ((0 : Nat) : Int) tv] n), (Lt, listOf #[] nt), (Lh, listOf #[] nh), (Dc, listOf vsc.toArray nc), (L + 1, ocell), ((258 : Nat), tabObj tab)] base) : Cut5 w0 h₀ L s1 x dx fp pb al Dc Lt vsc text nc n nt tt tv ts tab ocell base { s1 with heap := h, toks := tk, drawn := d }
inductive Cut6 (w0 : World) (h₀ : Heap) (L : Addr) (s1 : Shared) (x : Addr) (dx : Addr) (fp : Addr) (pb : Addr) (al : Addr) (Dc : Addr) (Lt : Addr) (Lh : Addr) (vsc : List Value) (cs : List Nat) (text : List Nat) (nc : Nat) (nh : Nat) (tt : Tok) (tab : Array Value) (ocell : Obj) (base : List (Addr × Obj)) : Shared → Prop
  | mk (ts : Nat → Tok) (ps : Nat) (tv : Tok) (n : Nat) (vs : List Value) (n2 : Nat) (a0 : Txts vs (rowW (cs.take 3))) (a1 : LeftAt text cs ps (0 + 3)) (h : Heap) (tk : Nat) (d : Drawn) (m : Str → Option Value) (F : Fr h₀ L h m) (N : News h₀ L h ((x, instObj 108 dx) :: (dx, dictOf (lexD w0 (1 + (text.count 10 : Int) - ((text.drop ps).count 10 : Int)) fp pb ts) 4) :: (pb, listOf #[] 0) :: (al, listOf #[.int ((ps : Nat) : Int) tv] n) :: (Lt, listOf vs.toArray n2) :: (Lh, listOf #[] nh) :: (Dc, listOf vsc.toArray nc) :: (L + 1, ocell) :: ((258 : Nat), tabObj tab) :: base)) (g0 : m "cells" = some (.ref Dc)) (g1 : m "text" = some (.str (mk text) tt)) (g2 : m "machine" = some (.ref x)) (g3 : m "takers" = some (.ref Lt)) (g4 : m "holders" = some (.ref Lh)) (ap : Ap [(x, instObj 108 dx), (dx, dictOf (lexD w0 (1 + (text.count 10 : Int) - ((text.drop ps).count 10 : Int)) fp pb ts) 4), (pb, listOf #[] 0), (al, listOf #[.int ((ps : Nat) : Int) tv] n), (Lt, listOf vs.toArray n2), (Lh, listOf #[] nh), (Dc, listOf vsc.toArray nc), (L + 1, ocell), ((258 : Nat), tabObj tab)] base) : Cut6 w0 h₀ L s1 x dx fp pb al Dc Lt Lh vsc cs text nc nh tt tab ocell base { s1 with heap := h, toks := tk, drawn := d }
inductive Cut7 (w0 : World) (h₀ : Heap) (L : Addr) (s1 : Shared) (x : Addr) (dx : Addr) (fp : Addr) (pb : Addr) (al : Addr) (Dc : Addr) (Lt : Addr) (Lh : Addr) (vsc : List Value) (vst : List Value) (cs : List Nat) (text : List Nat) (nc : Nat) (ntt : Nat) (tt : Tok) (tab : Array Value) (ocell : Obj) (base : List (Addr × Obj)) : Shared → Prop
  | mk (ts : Nat → Tok) (ps : Nat) (tv : Tok) (n : Nat) (vs : List Value) (n2 : Nat) (a0 : Txts vs (rowW ((cs.drop 3).take 4))) (a1 : LeftAt text cs ps (3 + 4)) (h : Heap) (tk : Nat) (d : Drawn) (m : Str → Option Value) (F : Fr h₀ L h m) (N : News h₀ L h ((x, instObj 108 dx) :: (dx, dictOf (lexD w0 (1 + (text.count 10 : Int) - ((text.drop ps).count 10 : Int)) fp pb ts) 4) :: (pb, listOf #[] 0) :: (al, listOf #[.int ((ps : Nat) : Int) tv] n) :: (Lt, listOf vst.toArray ntt) :: (Lh, listOf vs.toArray n2) :: (Dc, listOf vsc.toArray nc) :: (L + 1, ocell) :: ((258 : Nat), tabObj tab) :: base)) (g0 : m "cells" = some (.ref Dc)) (g1 : m "text" = some (.str (mk text) tt)) (g2 : m "machine" = some (.ref x)) (g3 : m "takers" = some (.ref Lt)) (g4 : m "holders" = some (.ref Lh)) (ap : Ap [(x, instObj 108 dx), (dx, dictOf (lexD w0 (1 + (text.count 10 : Int) - ((text.drop ps).count 10 : Int)) fp pb ts) 4), (pb, listOf #[] 0), (al, listOf #[.int ((ps : Nat) : Int) tv] n), (Lt, listOf vst.toArray ntt), (Lh, listOf vs.toArray n2), (Dc, listOf vsc.toArray nc), (L + 1, ocell), ((258 : Nat), tabObj tab)] base) : Cut7 w0 h₀ L s1 x dx fp pb al Dc Lt Lh vsc vst cs text nc ntt tt tab ocell base { s1 with heap := h, toks := tk, drawn := d }
inductive Cut8 (w0 : World) (h₀ : Heap) (L : Addr) (s1 : Shared) (x : Addr) (dx : Addr) (fp : Addr) (pb : Addr) (al : Addr) (Dc : Addr) (Lt : Addr) (Lh : Addr) (vsc : List Value) (vst : List Value) (vsh : List Value) (cs : List Nat) (text : List Nat) (nc : Nat) (n : Nat) (ntt : Nat) (nhh : Nat) (ps : Nat) (tt : Tok) (tv : Tok) (ts : Nat → Tok) (tab : Array Value) (base : List (Addr × Obj)) : Shared → Prop
  | mk (Dm : Addr) (vsm : List Value) (nm : Nat) (ocm : Obj) (a0 : Nats vsm (cs.map (· % 64))) (a1 : ocm.data = .cell (some (.ref Dm))) (h : Heap) (tk : Nat) (d : Drawn) (m : Str → Option Value) (F : Fr h₀ L h m) (N : News h₀ L h ((x, instObj 108 dx) :: (dx, dictOf (lexD w0 (1 + (text.count 10 : Int) - ((text.drop ps).count 10 : Int)) fp pb ts) 4) :: (pb, listOf #[] 0) :: (al, listOf #[.int ((ps : Nat) : Int) tv] n) :: (Lt, listOf vst.toArray ntt) :: (Lh, listOf vsh.toArray nhh) :: (Dm, listOf vsm.toArray nm) :: (Dc, listOf vsc.toArray nc) :: (L + 1, ocm) :: ((258 : Nat), tabObj tab) :: base)) (g0 : m "cells" = some (.ref Dc)) (g1 : m "text" = some (.str (mk text) tt)) (g2 : m "machine" = some (.ref x)) (g3 : m "takers" = some (.ref Lt)) (g4 : m "holders" = some (.ref Lh)) (ap : Ap [(x, instObj 108 dx), (dx, dictOf (lexD w0 (1 + (text.count 10 : Int) - ((text.drop ps).count 10 : Int)) fp pb ts) 4), (pb, listOf #[] 0), (al, listOf #[.int ((ps : Nat) : Int) tv] n), (Lt, listOf vst.toArray ntt), (Lh, listOf vsh.toArray nhh), (Dm, listOf vsm.toArray nm), (Dc, listOf vsc.toArray nc), (L + 1, ocm), ((258 : Nat), tabObj tab)] base) : Cut8 w0 h₀ L s1 x dx fp pb al Dc Lt Lh vsc vst vsh cs text nc n ntt nhh ps tt tv ts tab base { s1 with heap := h, toks := tk, drawn := d }
inductive Cut9 (w0 : World) (h₀ : Heap) (L : Addr) (s1 : Shared) (x : Addr) (dx : Addr) (fp : Addr) (pb : Addr) (al : Addr) (Dc : Addr) (Lt : Addr) (Lh : Addr) (Dm : Addr) (vsc : List Value) (vst : List Value) (vsh : List Value) (vsm : List Value) (text : List Nat) (nc : Nat) (n : Nat) (ntt : Nat) (nhh : Nat) (nm : Nat) (ps : Nat) (tt : Tok) (tv : Tok) (ts : Nat → Tok) (tab : Array Value) (ocm : Obj) (base : List (Addr × Obj)) : Shared → Prop
  | mk (h : Heap) (tk : Nat) (d : Drawn) (m : Str → Option Value) (F : Fr h₀ L h m) (N : News h₀ L h ((x, instObj 108 dx) :: (dx, dictOf (lexD w0 (1 + (text.count 10 : Int) - ((text.drop ps).count 10 : Int)) fp pb ts) 4) :: (pb, listOf #[] 0) :: (al, listOf #[.int ((ps : Nat) : Int) tv] n) :: (Lt, listOf vst.toArray ntt) :: (Lh, listOf vsh.toArray nhh) :: (Dm, listOf vsm.toArray nm) :: (Dc, listOf vsc.toArray nc) :: (L + 1, ocm) :: ((258 : Nat), tabObj tab) :: base)) (g0 : m "cells" = some (.ref Dc)) (g1 : m "text" = some (.str (mk text) tt)) (g2 : m "machine" = some (.ref x)) (g3 : m "takers" = some (.ref Lt)) (g4 : m "holders" = some (.ref Lh)) (ap : Ap [(x, instObj 108 dx), (dx, dictOf (lexD w0 (1 + (text.count 10 : Int) - ((text.drop ps).count 10 : Int)) fp pb ts) 4), (pb, listOf #[] 0), (al, listOf #[.int ((ps : Nat) : Int) tv] n), (Lt, listOf vst.toArray ntt), (Lh, listOf vsh.toArray nhh), (Dm, listOf vsm.toArray nm), (Dc, listOf vsc.toArray nc), (L + 1, ocm), ((258 : Nat), tabObj tab)] base) : Cut9 w0 h₀ L s1 x dx fp pb al Dc Lt Lh Dm vsc vst vsh vsm text nc n ntt nhh nm ps tt tv ts tab ocm base { s1 with heap := h, toks := tk, drawn := d }
inductive Cut11 (w0 : World) (h₀ : Heap) (L : Addr) (s1 : Shared) (x : Addr) (dx : Addr) (fp : Addr) (pb : Addr) (al : Addr) (Dc : Addr) (Lt : Addr) (Lh : Addr) (Dm : Addr) (vsc : List Value) (vst : List Value) (vsh : List Value) (vsm : List Value) (text : List Nat) (nc : Nat) (ntt : Nat) (nhh : Nat) (nm : Nat) (tt : Tok) (tab : Array Value) (ocm : Obj) (base : List (Addr × Obj)) : Shared → Prop
  | mk (ln : Int) (tz : Nat → Tok) (oal : Obj) (h : Heap) (tk : Nat) (d : Drawn) (m : Str → Option Value) (F : Fr h₀ L h m) (N : News h₀ L h ((x, instObj 108 dx) :: (dx, dictOf (lexD w0 ln fp pb tz) 4) :: (pb, listOf #[] 0) :: (al, oal) :: (Lt, listOf vst.toArray ntt) :: (Lh, listOf vsh.toArray nhh) :: (Dm, listOf vsm.toArray nm) :: (Dc, listOf vsc.toArray nc) :: (L + 1, ocm) :: ((258 : Nat), tabObj tab) :: base)) (g0 : m "cells" = some (.ref Dc)) (g1 : m "text" = some (.str (mk text) tt)) (g2 : m "machine" = some (.ref x)) (g3 : m "takers" = some (.ref Lt)) (g4 : m "holders" = some (.ref Lh)) (ap : Ap [(x, instObj 108 dx), (dx, dictOf (lexD w0 ln fp pb tz) 4), (pb, listOf #[] 0), (al, oal), (Lt, listOf vst.toArray ntt), (Lh, listOf vsh.toArray nhh), (Dm, listOf vsm.toArray nm), (Dc, listOf vsc.toArray nc), (L + 1, ocm), ((258 : Nat), tabObj tab)] base) : Cut11 w0 h₀ L s1 x dx fp pb al Dc Lt Lh Dm vsc vst vsh vsm text nc ntt nhh nm tt tab ocm base { s1 with heap := h, toks := tk, drawn := d }
inductive Cut12 (w0 : World) (h₀ : Heap) (L : Addr) (s1 : Shared) (x : Addr) (dx : Addr) (fp : Addr) (pb : Addr) (al : Addr) (Dc : Addr) (Lt : Addr) (Lh : Addr) (Dm : Addr) (vsc : List Value) (vst : List Value) (vsh : List Value) (vsm : List Value) (text : List Nat) (nc : Nat) (ntt : Nat) (nhh : Nat) (nm : Nat) (tt : Tok) (tz : Nat → Tok) (tab : Array Value) (ln : Int) (ocm : Obj) (oal : Obj) (base : List (Addr × Obj)) : Shared → Prop
  | mk (n3 : Nat) (h : Heap) (tk : Nat) (d : Drawn) (m : Str → Option Value) (F : Fr h₀ L h m) (N : News h₀ L h ((x, instObj 108 dx) :: (dx, dictOf (lexD w0 ln fp pb tz) 4) :: (pb, listOf vsh.toArray n3) :: (al, oal) :: (Lt, listOf vst.toArray ntt) :: (Lh, listOf vsh.toArray nhh) :: (Dm, listOf vsm.toArray nm) :: (Dc, listOf vsc.toArray nc) :: (L + 1, ocm) :: ((258 : Nat), tabObj tab) :: base)) (g0 : m "cells" = some (.ref Dc)) (g1 : m "text" = some (.str (mk text) tt)) (g2 : m "machine" = some (.ref x)) (g3 : m "takers" = some (.ref Lt)) (g4 : m "holders" = some (.ref Lh)) (ap : Ap [(x, instObj 108 dx), (dx, dictOf (lexD w0 ln fp pb tz) 4), (pb, listOf vsh.toArray n3), (al, oal), (Lt, listOf vst.toArray ntt), (Lh, listOf vsh.toArray nhh), (Dm, listOf vsm.toArray nm), (Dc, listOf vsc.toArray nc), (L + 1, ocm), ((258 : Nat), tabObj tab)] base) : Cut12 w0 h₀ L s1 x dx fp pb al Dc Lt Lh Dm vsc vst vsh vsm text nc ntt nhh nm tt tz tab ln ocm oal base { s1 with heap := h, toks := tk, drawn := d }
inductive Cut13 (w0 : World) (h₀ : Heap) (L : Addr) (s1 : Shared) (x : Addr) (dx : Addr) (fp : Addr) (pb : Addr) (al : Addr) (Dc : Addr) (Lt : Addr) (Lh : Addr) (Dm : Addr) (vsc : List Value) (vst : List Value) (vsh : List Value) (vsm : List Value) (text : List Nat) (nc : Nat) (ntt : Nat) (nhh : Nat) (nm : Nat) (n3 : Nat) (tt : Tok) (tz : Nat → Tok) (tab : Array Value) (ln : Int) (ocm : Obj) (oal : Obj) (base : List (Addr × Obj)) : Shared → Prop
  | mk (Ll : Addr) (nl : Nat) (h : Heap) (tk : Nat) (d : Drawn) (m : Str → Option Value) (F : Fr h₀ L h m) (N : News h₀ L h ((x, instObj 108 dx) :: (dx, dictOf (lexD w0 ln fp pb tz) 4) :: (pb, listOf vsh.toArray n3) :: (al, oal) :: (Lt, listOf vst.toArray ntt) :: (Lh, listOf vsh.toArray nhh) :: (Ll, listOf #[] nl) :: (Dm, listOf vsm.toArray nm) :: (Dc, listOf vsc.toArray nc) :: (L + 1, ocm) :: ((258 : Nat), tabObj tab) :: base)) (g0 : m "cells" = some (.ref Dc)) (g1 : m "text" = some (.str (mk text) tt)) (g2 : m "machine" = some (.ref x)) (g3 : m "takers" = some (.ref Lt)) (g4 : m "holders" = some (.ref Lh)) (g5 : m "lefts" = some (.ref Ll)) (ap : Ap [(x, instObj 108 dx), (dx, dictOf (lexD w0 ln fp pb tz) 4), (pb, listOf vsh.toArray n3), (al, oal), (Lt, listOf vst.toArray ntt), (Lh, listOf vsh.toArray nhh), (Ll, listOf #[] nl), (Dm, listOf vsm.toArray nm), (Dc, listOf vsc.toArray nc), (L + 1, ocm), ((258 : Nat), tabObj tab)] base) : Cut13 w0 h₀ L s1 x dx fp pb al Dc Lt Lh Dm vsc vst vsh vsm text nc ntt nhh nm n3 tt tz tab ln ocm oal base { s1 with heap := h, toks := tk, drawn := d }
inductive Cut14 (w0 : World) (h₀ : Heap) (L : Addr) (s1 : Shared) (x : Addr) (dx : Addr) (fp : Addr) (pb : Addr) (al : Addr) (Dc : Addr) (Lt : Addr) (Lh : Addr) (Ll : Addr) (Dm : Addr) (vsc : List Value) (vst : List Value) (vsh : List Value) (vsm : List Value) (text : List Nat) (nc : Nat) (ntt : Nat) (nhh : Nat) (nm : Nat) (n3 : Nat) (nl : Nat) (tt : Tok) (tz : Nat → Tok) (tab : Array Value) (ln : Int) (ocm : Obj) (oal : Obj) (base : List (Addr × Obj)) : Shared → Prop
  | mk (Lr : Addr) (nr : Nat) (h : Heap) (tk : Nat) (d : Drawn) (m : Str → Option Value) (F : Fr h₀ L h m) (N : News h₀ L h ((x, instObj 108 dx) :: (dx, dictOf (lexD w0 ln fp pb tz) 4) :: (pb, listOf vsh.toArray n3) :: (al, oal) :: (Lt, listOf vst.toArray ntt) :: (Lh, listOf vsh.toArray nhh) :: (Ll, listOf #[] nl) :: (Lr, listOf #[] nr) :: (Dm, listOf vsm.toArray nm) :: (Dc, listOf vsc.toArray nc) :: (L + 1, ocm) :: ((258 : Nat), tabObj tab) :: base)) (g0 : m "cells" = some (.ref Dc)) (g1 : m "text" = some (.str (mk text) tt)) (g2 : m "machine" = some (.ref x)) (g3 : m "takers" = some (.ref Lt)) (g4 : m "holders" = some (.ref Lh)) (g5 : m "lefts" = some (.ref Ll)) (g6 : m "rights" = some (.ref Lr)) (ap : Ap [(x, instObj 108 dx), (dx, dictOf (lexD w0 ln fp pb tz) 4), (pb, listOf vsh.toArray n3), (al, oal), (Lt, listOf vst.toArray ntt), (Lh, listOf vsh.toArray nhh), (Ll, listOf #[] nl), (Lr, listOf #[] nr), (Dm, listOf vsm.toArray nm), (Dc, listOf vsc.toArray nc), (L + 1, ocm), ((258 : Nat), tabObj tab)] base) : Cut14 w0 h₀ L s1 x dx fp pb al Dc Lt Lh Ll Dm vsc vst vsh vsm text nc ntt nhh nm n3 nl tt tz tab ln ocm oal base { s1 with heap := h, toks := tk, drawn := d }
inductive Cut15 (w0 : World) (h₀ : Heap) (L : Addr) (s1 : Shared) (x : Addr) (dx : Addr) (fp : Addr) (pb : Addr) (al : Addr) (Dc : Addr) (Lt : Addr) (Lh : Addr) (Ll : Addr) (Lr : Addr) (Dm : Addr) (vsc : List Value) (vst : List Value) (vsh : List Value) (vsm : List Value) (text : List Nat) (T : List Nat) (H : List Nat) (nc : Nat) (ntt : Nat) (nhh : Nat) (nm : Nat) (tt : Tok) (tz : Nat → Tok) (tab : Array Value) (ln : Int) (ocm : Obj) (oal : Obj) (base : List (Addr × Obj)) : Shared → Prop
  | mk (n3 : Nat) (vl : List Value) (nl : Nat) (vr : List Value) (nr : Nat) (a0 : Txts vl (rowW (pairsL T H))) (a1 : Txts vr (rowW (pairsR T H))) (h : Heap) (tk : Nat) (d : Drawn) (m : Str → Option Value) (F : Fr h₀ L h m) (N : News h₀ L h ((x, instObj 108 dx) :: (dx, dictOf (lexD w0 ln fp pb tz) 4) :: (pb, listOf vsh.toArray n3) :: (al, oal) :: (Lt, listOf vst.toArray ntt) :: (Lh, listOf vsh.toArray nhh) :: (Ll, listOf vl.toArray nl) :: (Lr, listOf vr.toArray nr) :: (Dm, listOf vsm.toArray nm) :: (Dc, listOf vsc.toArray nc) :: (L + 1, ocm) :: ((258 : Nat), tabObj tab) :: base)) (g0 : m "cells" = some (.ref Dc)) (g1 : m "text" = some (.str (mk text) tt)) (g2 : m "machine" = some (.ref x)) (g3 : m "takers" = some (.ref Lt)) (g4 : m "holders" = some (.ref Lh)) (g5 : m "lefts" = some (.ref Ll)) (g6 : m "rights" = some (.ref Lr)) (ap : Ap [(x, instObj 108 dx), (dx, dictOf (lexD w0 ln fp pb tz) 4), (pb, listOf vsh.toArray n3), (al, oal), (Lt, listOf vst.toArray ntt), (Lh, listOf vsh.toArray nhh), (Ll, listOf vl.toArray nl), (Lr, listOf vr.toArray nr), (Dm, listOf vsm.toArray nm), (Dc, listOf vsc.toArray nc), (L + 1, ocm), ((258 : Nat), tabObj tab)] base) : Cut15 w0 h₀ L s1 x dx fp pb al Dc Lt Lh Ll Lr Dm vsc vst vsh vsm text T H nc ntt nhh nm tt tz tab ln ocm oal base { s1 with heap := h, toks := tk, drawn := d }
inductive Cut16 (w0 : World) (h₀ : Heap) (L : Addr) (s1 : Shared) (x : Addr) (dx : Addr) (fp : Addr) (pb : Addr) (al : Addr) (Dc : Addr) (Lt : Addr) (Lh : Addr) (Ll : Addr) (Lr : Addr) (Dm : Addr) (vsc : List Value) (vst : List Value) (vsh : List Value) (vsm : List Value) (vl : List Value) (vr : List Value) (text : List Nat) (nc : Nat) (ntt : Nat) (nhh : Nat) (nm : Nat) (n3 : Nat) (nl : Nat) (nr : Nat) (tt : Tok) (tz : Nat → Tok) (tab : Array Value) (ln : Int) (ocm : Obj) (oal : Obj) (base : List (Addr × Obj)) : Shared → Prop
  | mk (h : Heap) (tk : Nat) (d : Drawn) (m : Str → Option Value) (F : Fr h₀ L h m) (N : News h₀ L h ((x, instObj 108 dx) :: (dx, dictOf (lexD w0 ln fp pb tz) 4) :: (pb, listOf vsh.toArray n3) :: (al, oal) :: (Lt, listOf vst.toArray ntt) :: (Lh, listOf vsh.toArray nhh) :: (Ll, listOf vl.toArray nl) :: (Lr, listOf vr.toArray nr) :: (Dm, listOf vsm.toArray nm) :: (Dc, listOf vsc.toArray nc) :: (L + 1, ocm) :: ((258 : Nat), tabObj tab) :: base)) (g0 : m "cells" = some (.ref Dc)) (g1 : m "text" = some (.str (mk text) tt)) (g2 : m "machine" = some (.ref x)) (g3 : m "takers" = some (.ref Lt)) (g4 : m "holders" = some (.ref Lh)) (g5 : m "lefts" = some (.ref Ll)) (g6 : m "rights" = some (.ref Lr)) (ap : Ap [(x, instObj 108 dx), (dx, dictOf (lexD w0 ln fp pb tz) 4), (pb, listOf vsh.toArray n3), (al, oal), (Lt, listOf vst.toArray ntt), (Lh, listOf vsh.toArray nhh), (Ll, listOf vl.toArray nl), (Lr, listOf vr.toArray nr), (Dm, listOf vsm.toArray nm), (Dc, listOf vsc.toArray nc), (L + 1, ocm), ((258 : Nat), tabObj tab)] base) : Cut16 w0 h₀ L s1 x dx fp pb al Dc Lt Lh Ll Lr Dm vsc vst vsh vsm vl vr text nc ntt nhh nm n3 nl nr tt tz tab ln ocm oal base { s1 with heap := h, toks := tk, drawn := d }
inductive Turn1 (w0 : World) (L : Addr) (x : Addr) (dx : Addr) (fp : Addr) (pb : Addr) (al : Addr) (Dc : Addr) (Lt : Addr) (Lh : Addr) (vsc : List Value) (cs : List Nat) (text : List Nat) (nc : Nat) (nh : Nat) (tt : Tok) (tab : Array Value) (ocell : Obj) (base : List (Addr × Obj)) (i : Nat) (m : Str → Option Value) (led : List (Addr × Obj)) : Prop
  | mk (g0 : m "cells" = some (.ref Dc)) (g1 : m "text" = some (.str (mk text) tt)) (g2 : m "machine" = some (.ref x)) (g3 : m "takers" = some (.ref Lt)) (g4 : m "holders" = some (.ref Lh)) (ts : Nat → Tok) (ps : Nat) (tv : Tok) (n : Nat) (vs : List Value) (n2 : Nat) (a0 : Txts vs (rowW (cs.take i))) (a1 : LeftAt text cs ps (0 + i)) (a2 : led = [(x, instObj 108 dx), (dx, dictOf (lexD w0 (1 + (text.count 10 : Int) - ((text.drop ps).count 10 : Int)) fp pb ts) 4), (pb, listOf #[] 0), (al, listOf #[.int ((ps : Nat) : Int) tv] n), (Lt, listOf vs.toArray n2), (Lh, listOf #[] nh), (Dc, listOf vsc.toArray nc), (L + 1, ocell), ((258 : Nat), tabObj tab)] ++ base) : Turn1 w0 L x dx fp pb al Dc Lt Lh vsc cs text nc nh tt tab ocell base i m led
inductive Turn2 (w0 : World) (L : Addr) (x : Addr) (dx : Addr) (fp : Addr) (pb : Addr) (al : Addr) (Dc : Addr) (Lt : Addr) (Lh : Addr) (vsc : List Value) (vst : List Value) (cs : List Nat) (text : List Nat) (nc : Nat) (ntt : Nat) (tt : Tok) (tab : Array Value) (ocell : Obj) (base : List (Addr × Obj)) (i : Nat) (m : Str → Option Value) (led : List (Addr × Obj)) : Prop
  | mk (g0 : m "cells" = some (.ref Dc)) (g1 : m "text" = some (.str (mk text) tt)) (g2 : m "machine" = some (.ref x)) (g3 : m "takers" = some (.ref Lt)) (g4 : m "holders" = some (.ref Lh)) (ts : Nat → Tok) (ps : Nat) (tv : Tok) (n : Nat) (vs : List Value) (n2 : Nat) (a0 : Txts vs (rowW ((cs.drop 3).take i))) (a1 : LeftAt text cs ps (3 + i)) (a2 : led = [(x, instObj 108 dx), (dx, dictOf (lexD w0 (1 + (text.count 10 : Int) - ((text.drop ps).count 10 : Int)) fp pb ts) 4), (pb, listOf #[] 0), (al, listOf #[.int ((ps : Nat) : Int) tv] n), (Lt, listOf vst.toArray ntt), (Lh, listOf vs.toArray n2), (Dc, listOf vsc.toArray nc), (L + 1, ocell), ((258 : Nat), tabObj tab)] ++ base) : Turn2 w0 L x dx fp pb al Dc Lt Lh vsc vst cs text nc ntt tt tab ocell base i m led
inductive Turn3 (w0 : World) (L : Addr) (x : Addr) (dx : Addr) (fp : Addr) (pb : Addr) (al : Addr) (Dc : Addr) (Lt : Addr) (Lh : Addr) (Dm : Addr) (vsc : List Value) (vst : List Value) (vsh : List Value) (vsm : List Value) (text : List Nat) (nc : Nat) (ntt : Nat) (nhh : Nat) (nm : Nat) (tt : Tok) (tz : Nat → Tok) (tab : Array Value) (ln : Int) (ocm : Obj) (oal : Obj) (base : List (Addr × Obj)) (i : Nat) (m : Str → Option Value) (led : List (Addr × Obj)) : Prop
  | mk (g0 : m "cells" = some (.ref Dc)) (g1 : m "text" = some (.str (mk text) tt)) (g2 : m "machine" = some (.ref x)) (g3 : m "takers" = some (.ref Lt)) (g4 : m "holders" = some (.ref Lh)) (n3 : Nat) (a0 : led = [(x, instObj 108 dx), (dx, dictOf (lexD w0 ln fp pb tz) 4), (pb, listOf (vsh.take i).toArray n3), (al, oal), (Lt, listOf vst.toArray ntt), (Lh, listOf vsh.toArray nhh), (Dm, listOf vsm.toArray nm), (Dc, listOf vsc.toArray nc), (L + 1, ocm), ((258 : Nat), tabObj tab)] ++ base) : Turn3 w0 L x dx fp pb al Dc Lt Lh Dm vsc vst vsh vsm text nc ntt nhh nm tt tz tab ln ocm oal base i m led
inductive Turn4 (w0 : World) (L : Addr) (x : Addr) (dx : Addr) (fp : Addr) (pb : Addr) (al : Addr) (Dc : Addr) (Lt : Addr) (Lh : Addr) (Ll : Addr) (Lr : Addr) (Dm : Addr) (vsc : List Value) (vst : List Value) (vsh : List Value) (vsm : List Value) (text : List Nat) (T : List Nat) (H : List Nat) (nc : Nat) (ntt : Nat) (nhh : Nat) (nm : Nat) (tt : Tok) (tz : Nat → Tok) (tab : Array Value) (ln : Int) (ocm : Obj) (oal : Obj) (base : List (Addr × Obj)) (i : Nat) (m : Str → Option Value) (led : List (Addr × Obj)) : Prop
  | mk (g0 : m "cells" = some (.ref Dc)) (g1 : m "text" = some (.str (mk text) tt)) (g2 : m "machine" = some (.ref x)) (g3 : m "takers" = some (.ref Lt)) (g4 : m "holders" = some (.ref Lh)) (g5 : m "lefts" = some (.ref Ll)) (g6 : m "rights" = some (.ref Lr)) (n3 : Nat) (vl : List Value) (nl : Nat) (vr : List Value) (nr : Nat) (a0 : Txts vl (rowW (pairsL (T.take i) H))) (a1 : Txts vr (rowW (pairsR (T.take i) H))) (a2 : led = [(x, instObj 108 dx), (dx, dictOf (lexD w0 ln fp pb tz) 4), (pb, listOf vsh.toArray n3), (al, oal), (Lt, listOf vst.toArray ntt), (Lh, listOf vsh.toArray nhh), (Ll, listOf vl.toArray nl), (Lr, listOf vr.toArray nr), (Dm, listOf vsm.toArray nm), (Dc, listOf vsc.toArray nc), (L + 1, ocm), ((258 : Nat), tabObj tab)] ++ base) : Turn4 w0 L x dx fp pb al Dc Lt Lh Ll Lr Dm vsc vst vsh vsm text T H nc ntt nhh nm tt tz tab ln ocm oal base i m led
inductive Turn5 (w0 : World) (L : Addr) (x : Addr) (dx : Addr) (fp : Addr) (pb : Addr) (al : Addr) (Dc : Addr) (Lt : Addr) (Lh : Addr) (Ll : Addr) (Lr : Addr) (Dm : Addr) (DS : Addr) (vsc : List Value) (vst : List Value) (vsh : List Value) (vsm : List Value) (text : List Nat) (T : List Nat) (H : List Nat) (nc : Nat) (ntt : Nat) (nhh : Nat) (nm : Nat) (tt : Tok) (u : Tok) (tz : Nat → Tok) (tab : Array Value) (ln : Int) (ocm : Obj) (oal : Obj) (base2 : List (Addr × Obj)) (t : Nat) (i : Nat) (j : Nat) (m : Str → Option Value) (led : List (Addr × Obj)) : Prop
  | mk (g0 : m "cells" = some (.ref Dc)) (g1 : m "text" = some (.str (mk text) tt)) (g2 : m "machine" = some (.ref x)) (g3 : m "takers" = some (.ref Lt)) (g4 : m "holders" = some (.ref Lh)) (g5 : m "lefts" = some (.ref Ll)) (g6 : m "rights" = some (.ref Lr)) (g7 : m "taker" = some (.str (mk (letters t)) u)) (g8 : m "shades" = some (.ref DS)) (n3 : Nat) (vl : List Value) (nl : Nat) (vr : List Value) (nr : Nat) (a0 : Txts vl (rowW (pairsL (T.take i) H ++ (H.take j).map fun h => h &&& (63 ^^^ t)))) (a1 : Txts vr (rowW (pairsR (T.take i) H ++ (H.take j).map fun h => t &&& (63 ^^^ h)))) (a2 : led = [(x, instObj 108 dx), (dx, dictOf (lexD w0 ln fp pb tz) 4), (pb, listOf (vsh.drop j ++ vsh.take j).toArray n3), (al, oal), (Lt, listOf vst.toArray ntt), (Lh, listOf vsh.toArray nhh), (Ll, listOf vl.toArray nl), (Lr, listOf vr.toArray nr), (Dm, listOf vsm.toArray nm), (Dc, listOf vsc.toArray nc), (L + 1, ocm), ((258 : Nat), tabObj tab)] ++ base2) : Turn5 w0 L x dx fp pb al Dc Lt Lh Ll Lr Dm DS vsc vst vsh vsm text T H nc ntt nhh nm tt u tz tab ln ocm oal base2 t i j m led
end
section
theorem ln_WLaw0 : True := by
  k_with_none
  k_with "my mk" => (first | (with_reducible rfl) | exact lit_e | exact lit_nl | exact lit_tab | exact lit_q | exact lit_qs | exact lit_bs)
  k_with "my len" => (((try simp only [List.length_append, List.length_cons, List.length_nil, List.length_map]); omega))
  k_with "my get" => (first | with_reducible assumption | rfl | ((repeat' (refine (if_neg (by decide)).trans ?_)); first | with_reducible assumption | rfl))
  k_with "eval Name" => ((k_here; k_dflt (first
  | (refine' nameX_L ?zF ?zv ?_ ?za ?zb; (case za => rfl); (case zb => rfl); (case zF => with_reducible assumption); (case zv => walk_at "my get"))
  | (refine' nmL ?zn ?zv ?_ ?zl ?za ?zb; (case za => rfl); (case zb => rfl); (case zl => rfl); (case zn => with_reducible assumption); (case zv => walk_at "my get"))
  | (refine' nmC ?zc ?zo ?zd ?_ ?za ?zb; (case za => rfl); (case zb => rfl); (case zc => rfl); (case zo => with_reducible assumption); (case zd => with_reducible assumption)))))
  k_with "binaryOp Add str str" => ((k_here; refine' add_mk ?za ?zb ?zl ?_; (case za => walk_at "my mk"); (case zb => walk_at "my mk"); (case zl => walk_at "my len"); intro _ _; (try dsimp only)))
  k_with "inplaceOp Add str str" => ((k_here; refine' iadd_mk ?za ?zb ?zl ?_; (case za => walk_at "my mk"); (case zb => walk_at "my mk"); (case zl => walk_at "my len"); intro _ _; (try dsimp only)))
  k_with "compareOp Eq str str" => ((k_here; refine' eq_mk ?za ?zb ?_; (case za => walk_at "my mk"); (case zb => walk_at "my mk")))
  k_with "compareOp NotEq str str" => ((k_here; refine' ne_mk ?za ?zb ?_; (case za => walk_at "my mk"); (case zb => walk_at "my mk")))
  k_with "eval ListComp" => ((k_here; k_dflt (refine' comp_open ?zc ?_ ?zk ?zn ?zs; (case zc => with_unfolding_all rfl); (case zk => rfl); (case zn => decide); (case zs => (intro _; rfl)))))
  k_with "my enter" => ((refine' enterP (by assumption) (TopRead.nolimit (by assumption)) ?zk8 ?zk6 ?zk7 ?zk9 ?zkB ?_ ?zc1 ?zc2 ?zc3 ?zc4; (case zk8 => (dsimp only); omega); (case zk6 => k_dflt k_is); (case zk7 => k_dflt k_is); (case zk9 => first | exact BindsTo.of_eq rfl | exact binds_K (by assumption) rfl (by k_dflt k_is) rfl rfl rfl | exact kp_binds (by assumption) (fun _ => by with_unfolding_all rfl)); (case zkB => exact locs rfl); (case zc1 => decide); (case zc2 => exact rfl); (case zc3 => exact rfl); (case zc4 => exact rfl)))
  k_with "my enterC" => ((refine' enterC (by assumption) (TopRead.nolimit (by assumption)) ?zk8 ?zk6 ?zk7 ?zk9 ?zkB ?zkD ?_ ?zc2 ?zc3 ?zc4; (case zk8 => (dsimp only); omega); (case zk6 => k_dflt k_is); (case zk7 => k_dflt k_is); (case zk9 => first | exact BindsTo.of_eq rfl | exact binds_K (by assumption) rfl (by k_dflt k_is) rfl rfl rfl | exact kp_binds (by assumption) (fun _ => by with_unfolding_all rfl)); (case zkB => exact rfl); (case zkD => decide +kernel); (case zc2 => exact rfl); (case zc3 => exact rfl); (case zc4 => exact rfl)))
  k_with "my run" => (repeat' (first | ((with_reducible show wpAny _ _ _ _ _ _); walk1) | ((with_reducible show (if _ = true then _ else _)); walk1) | ((with_reducible show Frag.In _ _ ∧ _); walk1) | (dsimp only; (with_reducible show wpAny _ _ _ _ _ _); walk1)))
  k_with "my list" => (first | assumption | exact stays_list (Fr.keep (by assumption)) (by assumption) | exact ⟨_, News.get (by assumption) (by k_mem), rfl, _, rfl⟩)
  k_with "call builtin:len" => ((k_here; (with_reducible show wpAny _ _ (call (Value.builtin "len") [Value.ref _]) _ _ _); k_dflt (refine' len_list ?zl ?zf ?_; (case zl => walk_at "my list"); (case zf => first | ((simp only [List.size_toArray]); omega)))))
  k_with "exec For Name Call cons nil" => ((k_here; k_dflt (refine' for_open ?_ ?zs; (case zs => (intro _; rfl)))))
  k_with "exec For Name Name cons nil" => ((k_here; k_dflt (refine' for_open ?_ ?zs; (case zs => (intro _; rfl)))))
  k_with "exec For" => ((k_here; k_dflt (refine' for_open ?_ ?zs; (case zs => (intro _; rfl)))))
  k_with "my mem" => ((first | with_reducible_and_instances assumption | with_reducible_and_instances exact List.Mem.head _ | (refine List.Mem.tail _ ?_; k_extra "my mem")))
  k_with "call ref" => ((k_here; refine (stop_id ?_)))
  k_with "call type:set" => ((k_here; refine (stop_id ?_)))
  k_with "call type:set cons nil" => ((k_here; refine (stop_id ?_)))
  k_with "call builtin:sorted" => ((k_here; refine (stop_id ?_)))
  k_with "compareOp NotEq ref ref" => ((k_here; refine (stop_id ?_)))
  k_with "call builtin:str.count" => ((k_here; refine count_one (by first | exact lit_nl | rfl) ?_; intro _ _))
  k_with "eval Subscript" => ((k_here; refine (stop_id ?_)))
  k_with "eval ListComp" => ((k_here; refine (stop_id ?_)))
  k_with "exec Assign cons ListComp" => ((k_here; (with_reducible rename MarkComp => mkY); refine (stop_id ?_)))
  k_with "eval Name" => ((k_here; (with_reducible show wpAny _ _ (eval (Expr.Name _ _) (compEnvC _ _ _ _)) _ _ _); k_dflt ((refine' nmG (by with_reducible assumption) (by with_reducible assumption) (fun _ _ e => e) ?ze ?_); (case ze => k_is))))
  k_with "eval Name" => ((k_here; (with_reducible show wpAny _ _ (eval (Expr.Name _ _) (compEnvC _ _ _ _)) _ _ _); k_dflt ((refine' nmB (by with_reducible assumption) (by with_reducible assumption) (fun _ _ e => e) ?ze ?zv ?zn ?_); (case ze => k_is); (case zv => boot_by_name); (case zn => decide))))
  k_with "eval Name" => ((k_here; (with_reducible show wpAny _ _ (eval (Expr.Name _ _) (compEnvC _ _ _ _)) _ _ _); k_dflt (refine' nmL ?zn ?zv ?_ ?zl ?za ?zb; (case zl => rfl); (case za => rfl); (case zb => rfl); (case zn => with_reducible assumption); (case zv => with_reducible assumption))))
  k_with "call type:zip" => ((k_here; refine (stop_id ?_)))
  k_with "call builtin:len" => ((k_here; (with_reducible rename MarkStop => mkX); refine (stop_id ?_)))
  k_with "binaryOp Mult int int" => ((k_here; (with_reducible rename MarkStop => mkX); refine (stop_id ?_)))
  k_with "compareOp GtE int int" => ((k_here; (with_reducible rename MarkStop => mkX); refine (stop_id ?_)))
  k_with "callWith ref" => ((k_here; k_dflt (refine' callWith_K0 ?zk1 ?zk2 ?_; (case zk1 => exact Frag.In.keeps (by with_reducible assumption) (Fr.keep (by with_reducible assumption))); (case zk2 => k_is); k_whole)))
  k_with "call builtin:str.lower" => ((k_here; refine' lower_call ?za ?zl ?zn ?_; (case za => with_reducible rfl); (case zl => exact cased_signs _); (case zn => (have h := cased_len; exact Nat.le_trans (h _) (by decide))); intro _ _))
  exact True.intro
set_option maxRecDepth 100000 in
set_option maxHeartbeats 8000000 in
theorem law_holds : Challenge.rw_tl0041_01.Holds := by
  refine hd ?_
  w_strict (k_go0; (all_goals try k_fold))
  rename World => w0
  rename Shared => s1
  rename Obj => ocell
  rename Heap => h1
  rename Heap.CodeRec _ _ _ => z1
  clear z1
  rename Dflts _ _ _ _ _ _ => z2
  clear z2
  rename CellsAre _ _ _ => z3
  clear z3
  rename (ocell.data = _) => hcell
  replace hcell := hcell.trans (show _ = Data.cell none from rfl)
  rename Fr _ _ _ _ => F0
  rename News _ _ _ _ => N0
  rename Top topProg _ _ _ _ _ => T0
  rename Frag.In _ (ghostOf _ _) => X0
  rename IntsAre _ _ => hI0
  rename (¬ (63 : Int) < _) => hlen0
  replace F0 := Fr_map (m' := fun y => if y = "script" then some _ else none) F0 (fun _ => by with_unfolding_all rfl)
  rename (@LT.lt Nat _ 258 _) => hlt0
  dsimp only
  have hap0 : Ap [(s1.heap.objs.size + 1, ocell), ((258 : Nat), tabObj #[])] [] := by
    refine Ap.nil ?_
    show [s1.heap.objs.size + 1, (258 : Nat)].Nodup
    simp only [List.nodup_cons, List.mem_singleton, List.not_mem_nil, not_false_eq_true, List.nodup_nil, and_true]
    omega
  generalize hh0 : ghostOf s1.heap _ = h₀ at F0 N0 T0 X0 lifted codeHd
  generalize hL0 : s1.heap.objs.size = L at F0 N0 hap0 hlt0 ⊢
  refine absV (v := Flow.ret (.bool true)) (fun s' => ∃ h tk d m tab, s' = { s1 with heap := h, toks := tk, drawn := d } ∧ Fr h₀ L h m ∧ h.get? (258 : Nat) = some (tabObj tab)) ?_ ?_
  · rintro _ ⟨h, tk, d, m, tab, rfl, F, ht⟩
    refine And.intro ?_ ⟨⟨tab, ht⟩, True.intro⟩
    refine goodW_bool F (by assumption) (raisesW_false ?hn) ?hp
    case hn => wrow_none_raised
    case hp => kc_post
  intro Q0 E0 hq0
  refine cutV (Cut1 h₀ L s1 ocell) ?_ ?_
  · -- <1
    intro Q1 E1 hq
    w_strict (walk_at "my run")
    rename Fr _ _ _ _ => F1
    rename News _ _ _ _ => N1
    show wpAny _ _ (call (.ref 256) [_, _]) _ _ _
    refine absQ ?_
    intro Qn hQn
    refine' Ctr.use (cells_ctr _ _ _ _ _ _ [66, 197, 140, 3, 262, 327, 113] hI0 ?hl ?ht rfl (by decide)) (fun _ _ _ r => r.1) F1 X0 N1 (topRead_of T0) ?d ?u ⟨stays_list F1.keep lifted, ⟨_, N1.get (.head _), rfl, _, rfl⟩⟩ ?_
    case hl => omega
    case ht => exact .cons ⟨_, rfl⟩ (.cons ⟨_, rfl⟩ (.cons ⟨_, rfl⟩ (.cons ⟨_, rfl⟩ (.cons ⟨_, rfl⟩ (.cons ⟨_, rfl⟩ (.cons ⟨_, rfl⟩ .nil))))))
    case d => decide
    case u => decide
    rintro v h1 tk1 F2 N2 - ⟨st1, Dc, vsc, cs, nc, rfl, hDc0, hDc1, hcs, hcl, hcb⟩
    have N2' : News _ _ _ [(L + 1, ocell), ((258 : Nat), tabObj #[])] := fun q hq => N2 q (.tail _ hq)
    have N3 := news_add (m' := fun _ => none) (news := []) F1 hDc0 N2' hDc1
    have hap := Ap.add (o := listOf vsc.toArray nc) hap0 (fun q hq => N1 q (.tail _ hq)) hDc0
    clear N2 F1 N1 st1 hDc0 N2'
    refine hQn _ _ ?_
    w_strict (walk_at "my run")
    rename Fr _ _ _ _ => F4
    rename News _ _ _ _ => N4
    exact hq _ ⟨Dc, vsc, cs, nc, hcs, hcl, hcb, _, _, _, _, F4, N4, if_pos rfl, hap⟩
    -- 1>
  -- end 1
  clear F0 N0 hap0 hI0 hlen0 lifted
  rintro _ ⟨Dc, vsc, cs, nc, hcs, hcl, hcb, h2, tk2, d2, m2, F, N, hm2, hap⟩
  refine cutV (Cut2 h₀ L s1 Dc vsc cs nc ocell) ?_ ?_
  · -- <2
    intro Q1 E1 hq
    w_strict (walk_at "my run")
    refine comp_openT (cl := []) (by with_unfolding_all rfl) ?_
    w_strict (walk_at "my run")
    rename Fr _ _ _ _ => F4
    rename News _ _ _ _ => N4
    refine compT_list rfl ⟨_, N4.get (.head _), rfl, _, rfl⟩ (by rw [List.size_toArray, hcs.length, hcl, sizeLine_eq]; decide) (fun i ys h => Txts ys ((cs.take i).map written)) (fun _ _ _ _ _ j => j) .nil ?_ ?_
    · rintro C as i s3 ys m3 E' hi ⟨v, hv, hm⟩ hb hb' hn hj hlive
      rw [List.getElem?_toArray] at hv
      obtain ⟨c, hc, tc, rfl⟩ := Paired.getL hcs hv
      have X3 := X0.keeps (fun b o e => hb _ _ (F4.keep b o e))
      have T3 := (topRead_of T0).keeps (fun b o e => hb _ _ (F4.keep b o e))
      w_strict (walk_at "my run")
      show wpAny _ _ (call (.ref 273) [.int c _]) _ _ _
      refine absQ ?_
      intro Qn hQn
      refine written_ctr _ c _ _ _ _ _ _ _ _ _ _ _ _ X3 T3 (by decide) (by decide) trivial fun v h' tk' r => ?_
      obtain ⟨hst, u, rfl⟩ := r
      refine hQn _ _ ⟨_, _, rfl, hst, ?_⟩
      show Txts _ ((cs.take (i + 1)).map written)
      rw [take_succ_map _ hc]
      exact txts_append hj (.cons ⟨_, rfl⟩ .nil)
    · intro D h2 tk2 ys hD hpl hst hj
      rw [List.size_toArray, hcs.length, List.take_length] at hj
      have F5 := F4.keeps hst
      have N5 := N4.grown hst
      clear F4 N4
      w_strict (walk_at "my run")
      show wpAny _ _ (call (.builtin "str.join") [.str "" _, .ref D]) _ _ _
      refine join_txts (by rfl) hpl.isList hj (by have := written_flat hcl; omega) fun t' k => ?_
      w_strict (walk_at "my run")
      rename Fr _ _ _ _ => F6
      rename News _ _ _ _ => N6
      exact hq _ ⟨_, _, _, _, _, F6, N6, by walk_at "my get", by walk_at "my get", hap⟩
    -- 2>
  -- end 2
  rintro _ ⟨tt, h3, tk3, d3, m3, F, N, hm3, hmt, hap⟩
  have hfl := written_flat hcl
  generalize hText : (cs.map written).flatten = text at hmt hfl ⊢
  refine cutV (Cut3 w0 h₀ L s1 Dc vsc text nc tt ocell) ?_ ?_
  · -- <3
    intro Q1 E1 hq
    w_strict (walk_at "my run")
    rename Fr _ _ _ _ => F4
    rename News _ _ _ _ => N4
    show wpAny _ _ (call (.ref 263) [.str (mk text) tt]) _ _ _
    have hap1 : Ap [((258 : Nat), tabObj #[]), (Dc, listOf vsc.toArray nc), (L + 1, ocell)] [] := hap.perm (by
      show List.Perm [(258 : Nat), Dc, L + 1] [Dc, L + 1, 258]
      exact (List.perm_append_comm (l₁ := [(258 : Nat)]) (l₂ := [Dc, L + 1])))
    refine absQ ?_
    intro Qn hQn
    refine CtrL.use (machine_ctr w0 text tt (by omega)) F4 X0 (news := [(Dc, listOf vsc.toArray nc), (L + 1, ocell)]) (news_front (A := [(Dc, listOf vsc.toArray nc), (L + 1, ocell)]) (B := []) N4) (hap1.split (A := [((258 : Nat), tabObj #[])]) (B := [(Dc, listOf vsc.toArray nc), (L + 1, ocell)])) T0 ?pre (by decide) (by decide) ?_
    case pre =>
      obtain ⟨o, vs, file, tf, flags, tg, inF, text', tt, e, r⟩ := codeHd
      exact ⟨o, vs, file, tf, flags, tg, inF, text', tt, F4.keep _ _ e, r⟩
    rintro v h5 tk5 led5 hled F5 N5 hb ⟨x, dx, fp, pb, al, base, ts, n, tv, tab, rfl, rfl, hLS, hLP, hbase, gx, gdx, gpb, gal, nb, nx, ndx, npb, nal⟩
    have hapb : Ap [(Dc, listOf vsc.toArray nc), (L + 1, ocell), ((258 : Nat), tabObj tab)] base := ⟨hap.1, fun q hq z => by
      have hne := news_ne N4 (nb q hq)
      simp only [List.map_cons, List.map_nil, List.mem_cons, List.not_mem_nil, or_false] at z
      rcases z with z | z | z
      · exact hne _ (.head _) z.symm
      · exact hne _ (.tail _ (.head _)) z.symm
      · exact hne _ (.tail _ (.tail _ (.head _))) z.symm⟩
    have ne4 : ∀ {a : Addr}, (∀ q ∈ [(Dc, listOf vsc.toArray nc), (L + 1, ocell), ((258 : Nat), tabObj #[])], q.1 ≠ a) → ∀ q ∈ [(Dc, listOf vsc.toArray nc), (L + 1, ocell), ((258 : Nat), tabObj tab)], q.1 ≠ a := fun h =>
      ne_cons (z := (Dc, listOf vsc.toArray nc)) (h _ (.head _)) (ne_cons (z := (L + 1, ocell)) (h _ (.tail _ (.head _))) (ne_cons (z := ((258 : Nat), tabObj tab)) (h ((258 : Nat), tabObj #[]) (.tail _ (.tail _ (.head _)))) (fun _ h => nomatch h)))
    have hap4 : Ap [(x, instObj 108 dx), (dx, dictOf (lexD w0 1 fp pb ts) 4), (pb, listOf #[] 0), (al, listOf #[.int ((0 : Nat) : Int) tv] n), (Dc, listOf vsc.toArray nc), (L + 1, ocell), ((258 : Nat), tabObj tab)] base :=
      Ap.cons (Ap.cons (Ap.cons (Ap.cons hapb (ne4 (news_ne N4 nal)) hLP.ba) (ne_cons (z := (al, _)) (Ne.symm hLP.pa) (ne4 (news_ne N4 npb))) hLP.bp)
        (ne_cons (z := (pb, _)) (Ne.symm hLP.dp) (ne_cons (z := (al, _)) (Ne.symm hLP.da) (ne4 (news_ne N4 ndx)))) hLP.bd)
        (ne_cons (z := (dx, _)) (Ne.symm hLP.xd) (ne_cons (z := (pb, _)) (Ne.symm hLP.xp) (ne_cons (z := (al, _)) (Ne.symm hLP.xa) (ne4 (news_ne N4 nx))))) hLP.bx
    have N6 : News h₀ L h5 ((x, instObj 108 dx) :: (dx, dictOf (lexD w0 1 fp pb ts) 4) :: (pb, listOf #[] 0) :: (al, listOf #[.int ((0 : Nat) : Int) tv] n) :: (Dc, listOf vsc.toArray nc) :: (L + 1, ocell) :: ((258 : Nat), tabObj tab) :: base) :=
      news_cons (fresh_is F4 nx gx) (news_cons (fresh_is F4 ndx gdx) (news_cons (fresh_is F4 npb gpb) (news_cons (fresh_is F4 nal gal) (news_cons (N5 (Dc, listOf vsc.toArray nc) (.tail _ (.head _))) (news_cons (N5 (L + 1, ocell) (.tail _ (.tail _ (.head _)))) (news_cons (N5 ((258 : Nat), tabObj tab) (.head _)) fun q hq => fresh_is F4 (nb q hq) (hbase q hq)))))))
    clear N4 F4 N5 hb hbase gx gdx gpb gal nb nx ndx npb nal hapb ne4 hap1
    refine hQn _ _ ?_
    w_strict (walk_at "my run")
    rename Fr _ _ _ _ => F7
    rename News _ _ _ _ => N7
    exact hq _ ⟨x, dx, fp, pb, al, base, ts, n, tv, tab, hLS, hLP, _, _, _, _, F7, N7, by walk_at "my get", by walk_at "my get", by walk_at "my get", hap4⟩
    -- 3>
  -- end 3
  rintro _ ⟨x, dx, fp, pb, al, base, ts, n, tv, tab, hLS, hLP, h4, tk4, d4, m4, F, N, hm4, hmt4, hmm4, hap⟩
  refine cutV (Cut4 w0 h₀ L s1 x dx fp pb al Dc vsc text nc n tt tv ts tab ocell base) ?_ ?_
  · -- <4
    intro Q1 E1 hq
    w_strict (walk_at "my run")
    rename Fr _ _ _ _ => F7
    rename News _ _ _ _ => N7
    rename (_ ∧ _) => hlt4
    have hap4 := Ap.lt (o := listOf #[] 0) hap hlt4
    exact hq _ ⟨_, _, _, _, _, _, F7, news_back (A := [(x, instObj 108 dx), (dx, dictOf (lexD w0 1 fp pb ts) 4), (pb, listOf #[] 0), (al, listOf #[.int ((0 : Nat) : Int) tv] n)]) N7, by walk_at "my get", by walk_at "my get", by walk_at "my get", by walk_at "my get", Ap.back (A := [(x, instObj 108 dx), (dx, dictOf (lexD w0 1 fp pb ts) 4), (pb, listOf #[] 0), (al, listOf #[.int ((0 : Nat) : Int) tv] n)]) hap4⟩
    -- 4>
  -- end 4
  rintro _ ⟨Lt, nt, h5, tk5, d5, m5, F, N, hmc5, hmt5, hmm5, hmk5, hap⟩
  refine cutV (Cut5 w0 h₀ L s1 x dx fp pb al Dc Lt vsc text nc n nt tt tv ts tab ocell base) ?_ ?_
  · -- <5
    intro Q1 E1 hq
    w_strict (walk_at "my run")
    rename Fr _ _ _ _ => F7
    rename News _ _ _ _ => N7
    rename (_ ∧ _) => hlt4
    have hap4 := Ap.lt (o := listOf #[] 0) hap hlt4
    exact hq _ ⟨_, _, _, _, _, _, F7, news_back (A := [(x, instObj 108 dx), (dx, dictOf (lexD w0 1 fp pb ts) 4), (pb, listOf #[] 0), (al, listOf #[.int ((0 : Nat) : Int) tv] n), (Lt, listOf #[] nt)]) N7, by walk_at "my get", by walk_at "my get", by walk_at "my get", by walk_at "my get", by walk_at "my get", Ap.back (A := [(x, instObj 108 dx), (dx, dictOf (lexD w0 1 fp pb ts) 4), (pb, listOf #[] 0), (al, listOf #[.int ((0 : Nat) : Int) tv] n), (Lt, listOf #[] nt)]) hap4⟩
    -- 5>
  -- end 5
  rintro _ ⟨Lh, nh, h6, tk6, d6, m6, F, N, hmc6, hmt6, hmm6, hmk6, hmh6, hap⟩
  refine cutV (Cut6 w0 h₀ L s1 x dx fp pb al Dc Lt Lh vsc cs text nc nh tt tab ocell base) ?_ ?_
  · -- <6
    intro Q1 E1 hq
    w_strict (walk_at "my run")
    rename Fr _ _ _ _ => F7
    rename News _ _ _ _ => N7
    rename IsRange _ _ _ _ _ _ _ _ => hr
    refine for_rangeV (n := 3) rfl rfl hr (by decide) (Turn1 w0 L x dx fp pb al Dc Lt Lh vsc cs text nc nh tt tab ocell base) F7 (led₀ := [(x, instObj 108 dx), (dx, dictOf (lexD w0 (1) fp pb ts) 4), (pb, listOf #[] 0), (al, listOf #[.int ((0 : Nat) : Int) tv] n), (Lt, listOf #[] nt), (Lh, listOf #[] nh), (Dc, listOf vsc.toArray nc), (L + 1, ocell), ((258 : Nat), tabObj tab)] ++ base) N7
      ⟨by walk_at "my get", by walk_at "my get", by walk_at "my get", by walk_at "my get", by walk_at "my get", ts, 0, tv, n, [], nt, .nil, ⟨Nat.zero_le _, [], .inl rfl, by rw [← hText]; rfl⟩, ?led0⟩ ?turn ?done
    case led0 => rw [List.drop_zero, show (1 : Int) + (text.count 10 : Int) - (text.count 10 : Int) = 1 by omega]
    case turn =>
      rintro I i h tk m led oI tI hi ⟨g1, g2, g3, g4, g5, ts, ps, tv, n, vs, n2, hrow, hleft, rfl⟩ F' N' hneI hcI Q2 E2 hq2
      clear F7 N7 hr
      have hci : cs[0 + i]? = some (cs[0 + i]'(by omega)) := List.getElem?_eq_getElem _
      generalize cs[0 + i]'(by omega) = c at hci
      obtain ⟨l2, hl2, hlex⟩ := leftAt_lex hleft hci
      have hapI : Ap ((I, oI) :: [(x, instObj 108 dx), (dx, dictOf (lexD w0 (1 + (text.count 10 : Int) - ((text.drop ps).count 10 : Int)) fp pb ts) 4), (pb, listOf #[] 0), (al, listOf #[.int ((ps : Nat) : Int) tv] n), (Lt, listOf vs.toArray n2), (Lh, listOf #[] nh), (Dc, listOf vsc.toArray nc), (L + 1, ocell), ((258 : Nat), tabObj tab)]) base := Ap.cons (hap.same rfl) (fun q hq => hneI q (List.mem_append_left _ hq)) fun q hq => hneI q (List.mem_append_right _ hq)
      dsimp only [List.cons_append, List.nil_append] at N' hneI
      w_strict (walk_at "my run")
      rename Fr _ _ _ _ => F8
      rename News _ _ _ _ => N8
      show wpAny _ _ (call (.ref 98) [.ref x]) _ _ _
      refine absQ ?_
      intro Qn hQn
      refine CtrL.use (token_ctr w0 x dx fp pb al text base hLS hLP (by omega) _ ts ps n 0 tv (cased c) _ hleft.1 hlex) F8 X0 (news := (I, oI) :: (Lt, listOf vs.toArray n2) :: (Lh, listOf #[] nh) :: (Dc, listOf vsc.toArray nc) :: (L + 1, ocell) :: ((258 : Nat), tabObj tab) :: base) (news_back (A := [(x, instObj 108 dx), (dx, dictOf (lexD w0 (1 + (text.count 10 : Int) - ((text.drop ps).count 10 : Int)) fp pb ts) 4), (pb, listOf #[] 0), (al, listOf #[.int ((ps : Nat) : Int) tv] n)]) N8) (Ap.split (A := [(x, instObj 108 dx), (dx, dictOf (lexD w0 (1 + (text.count 10 : Int) - ((text.drop ps).count 10 : Int)) fp pb ts) 4), (pb, listOf #[] 0), (al, listOf #[.int ((ps : Nat) : Int) tv] n)]) (B := [(I, oI), (Lt, listOf vs.toArray n2), (Lh, listOf #[] nh), (Dc, listOf vsc.toArray nc), (L + 1, ocell), ((258 : Nat), tabObj tab)]) (Ap.back (A := [(x, instObj 108 dx), (dx, dictOf (lexD w0 (1 + (text.count 10 : Int) - ((text.drop ps).count 10 : Int)) fp pb ts) 4), (pb, listOf #[] 0), (al, listOf #[.int ((ps : Nat) : Int) tv] n)]) hapI)) T0 (fun q hq => (N8 q ?hm).1) (by decide) (by decide) ?_
      case hm => simp [hq]
      rintro v h' tk' led' - F9 N9 - ⟨u, ts', tv', ps', ln', rfl, hps', hdrop, hln', rfl⟩
      have hln2 : ln' = 1 + (text.count 10 : Int) - ((text.drop ps').count 10 : Int) := by rw [hln', hdrop]; omega
      subst hln2
      dsimp only [List.cons_append, List.nil_append] at N9
      clear N8 F8 hln'
      refine hQn _ _ ?_
      w_strict (walk_at "my run")
      rename Fr _ _ _ _ => F10
      rename News _ _ _ _ => N10
      rw [low_cased]
      show wpAny _ _ (call (.ref 280) [.ref Lt, .str (mk (letters (c % 64))) _]) _ _ _
      have hapR := hapI.same (led' := [(I, oI), (x, instObj 108 dx), (dx, dictOf (lexD w0 (1 + (text.count 10 : Int) - ((text.drop ps').count 10 : Int)) fp pb ts') 4), (pb, listOf #[] 0), (al, listOf #[.int ((ps' : Nat) : Int) tv'] n), (Lt, listOf vs.toArray n2), (Lh, listOf #[] nh), (Dc, listOf vsc.toArray nc), (L + 1, ocell), ((258 : Nat), tabObj tab)]) rfl
      refine absQ ?_
      intro Qn hQn
      refine CtrM.use (layIn_ctr w0 Lt vs n2 (rowW (cs.take i)) (letters (c % 64)) _ hrow (rowW_sorted _) ?hlen (rowW_ok _) (letters_ok _)) F10 X0 (news_front (A := [(x, instObj 108 dx), (dx, dictOf (lexD w0 (1 + (text.count 10 : Int) - ((text.drop ps').count 10 : Int)) fp pb ts') 4), (pb, listOf #[] 0), (al, listOf #[.int ((ps' : Nat) : Int) tv'] n), (I, oI)]) N10) ?hne (topRead_of T0) (by decide) (by decide) ?_
      case hlen =>
        have := rowW_len (cs.take i)
        rw [List.length_take] at this
        omega
      case hne => exact Ap.front (A := [(x, instObj 108 dx), (dx, dictOf (lexD w0 (1 + (text.count 10 : Int) - ((text.drop ps').count 10 : Int)) fp pb ts') 4), (pb, listOf #[] 0), (al, listOf #[.int ((ps' : Nat) : Int) tv'] n), (I, oI)]) (B := [(Lh, listOf #[] nh), (Dc, listOf vsc.toArray nc), (L + 1, ocell), ((258 : Nat), tabObj tab)]) (base := base) (Ap.back (A := [(x, instObj 108 dx), (dx, dictOf (lexD w0 (1 + (text.count 10 : Int) - ((text.drop ps').count 10 : Int)) fp pb ts') 4), (pb, listOf #[] 0), (al, listOf #[.int ((ps' : Nat) : Int) tv'] n)]) hapR)
      rintro v h7 tk7 o7 F11 N11 - ⟨vs', n', htx, rfl⟩
      clear N10 F10
      have N12 := news_front (A := [(x, instObj 108 dx), (dx, dictOf (lexD w0 (1 + (text.count 10 : Int) - ((text.drop ps').count 10 : Int)) fp pb ts') 4), (pb, listOf #[] 0), (al, listOf #[.int ((ps' : Nat) : Int) tv'] n)]) (news_back (A := [(x, instObj 108 dx), (dx, dictOf (lexD w0 (1 + (text.count 10 : Int) - ((text.drop ps').count 10 : Int)) fp pb ts') 4), (pb, listOf #[] 0), (al, listOf #[.int ((ps' : Nat) : Int) tv'] n), (I, oI)]) N11)
      clear N11
      dsimp only [List.cons_append, List.nil_append] at N12
      refine hQn _ _ ?_
      w_strict (walk_at "my run")
      rename Fr _ _ _ _ => F13
      rename News _ _ _ _ => N13
      refine hq2 _ ⟨_, _, _, [(x, instObj 108 dx), (dx, dictOf (lexD w0 (1 + (text.count 10 : Int) - ((text.drop ps').count 10 : Int)) fp pb ts') 4), (pb, listOf #[] 0), (al, listOf #[.int ((ps' : Nat) : Int) tv'] n), (Lt, listOf vs'.toArray n'), (Lh, listOf #[] nh), (Dc, listOf vsc.toArray nc), (L + 1, ocell), ((258 : Nat), tabObj tab)] ++ base, rfl, F13, N13, ?hne2, ⟨by walk_at "my get", by walk_at "my get", by walk_at "my get", by walk_at "my get", by walk_at "my get", ts', ps', tv', n, vs', n', ?row, ⟨hps', l2, hl2, ?drop⟩, rfl⟩, fun b hb => nomatch hb⟩
      case hne2 =>
        intro q hq
        have hfr : ∀ q ∈ [(x, instObj 108 dx), (dx, dictOf (lexD w0 (1 + (text.count 10 : Int) - ((text.drop ps).count 10 : Int)) fp pb ts) 4), (pb, listOf #[] 0), (al, listOf #[.int ((ps : Nat) : Int) tv] n), (Lt, listOf vs.toArray n2), (Lh, listOf #[] nh), (Dc, listOf vsc.toArray nc), (L + 1, ocell), ((258 : Nat), tabObj tab)] ++ base, q.1 ≠ I := Ap.front (A := []) hapI
        rcases List.mem_append.mp hq with hq | hq
        · have h0 : q.1 ∈ [(x, instObj 108 dx), (dx, dictOf (lexD w0 (1 + (text.count 10 : Int) - ((text.drop ps').count 10 : Int)) fp pb ts') 4), (pb, listOf #[] 0), (al, listOf #[.int ((ps' : Nat) : Int) tv'] n), (Lt, listOf vs'.toArray n'), (Lh, listOf #[] nh), (Dc, listOf vsc.toArray nc), (L + 1, ocell), ((258 : Nat), tabObj tab)].map (·.1) := List.mem_map_of_mem (f := Prod.fst) hq
          have h1 : q.1 ∈ [(x, instObj 108 dx), (dx, dictOf (lexD w0 (1 + (text.count 10 : Int) - ((text.drop ps).count 10 : Int)) fp pb ts) 4), (pb, listOf #[] 0), (al, listOf #[.int ((ps : Nat) : Int) tv] n), (Lt, listOf vs.toArray n2), (Lh, listOf #[] nh), (Dc, listOf vsc.toArray nc), (L + 1, ocell), ((258 : Nat), tabObj tab)].map (·.1) := h0
          obtain ⟨z, hz, e⟩ := List.mem_map.mp h1
          exact e ▸ hfr z (List.mem_append_left _ hz)
        · exact hfr q (List.mem_append_right _ hq)
      case row =>
        rw [rowW_take (l := cs) (c := c) ?_]
        · exact htx
        · simpa using hci
      case drop => rw [hdrop]; rfl
    case done =>
      rintro h tk m led ⟨g1, g2, g3, g4, g5, ts, ps, tv, n, vs, n2, hrow, hleft, rfl⟩ F' N'
      exact hq _ ⟨ts, ps, tv, n, vs, n2, hrow, hleft, _, _, _, _, F', N', g1, g2, g3, g4, g5, hap.same rfl⟩
    -- 6>
  -- end 6
  rintro _ ⟨ts, ps, tv, n, vst, ntt, hrowT, hleft, h7, tk7, d7, m7, F, N, hmc7, hmt7, hmm7, hmk7, hmh7, hap⟩
  refine cutV (Cut7 w0 h₀ L s1 x dx fp pb al Dc Lt Lh vsc vst cs text nc ntt tt tab ocell base) ?_ ?_
  · -- <7
    intro Q1 E1 hq
    w_strict (walk_at "my run")
    rename Fr _ _ _ _ => F7
    rename News _ _ _ _ => N7
    rename IsRange _ _ _ _ _ _ _ _ => hr
    refine for_rangeV (n := 4) rfl rfl hr (by decide) (Turn2 w0 L x dx fp pb al Dc Lt Lh vsc vst cs text nc ntt tt tab ocell base) F7 (led₀ := [(x, instObj 108 dx), (dx, dictOf (lexD w0 (1 + (text.count 10 : Int) - ((text.drop ps).count 10 : Int)) fp pb ts) 4), (pb, listOf #[] 0), (al, listOf #[.int ((ps : Nat) : Int) tv] n), (Lt, listOf vst.toArray ntt), (Lh, listOf #[] nh), (Dc, listOf vsc.toArray nc), (L + 1, ocell), ((258 : Nat), tabObj tab)] ++ base) N7
      ⟨by walk_at "my get", by walk_at "my get", by walk_at "my get", by walk_at "my get", by walk_at "my get", ts, ps, tv, n, [], nh, .nil, hleft, rfl⟩ ?turn ?done
    case turn =>
      rintro I i h tk m led oI tI hi ⟨g1, g2, g3, g4, g5, ts, ps, tv, n, vs, n2, hrow, hleft, rfl⟩ F' N' hneI hcI Q2 E2 hq2
      clear F7 N7 hr
      have hci : cs[3 + i]? = some (cs[3 + i]'(by omega)) := List.getElem?_eq_getElem _
      generalize cs[3 + i]'(by omega) = c at hci
      obtain ⟨l2, hl2, hlex⟩ := leftAt_lex hleft hci
      have hapI : Ap ((I, oI) :: [(x, instObj 108 dx), (dx, dictOf (lexD w0 (1 + (text.count 10 : Int) - ((text.drop ps).count 10 : Int)) fp pb ts) 4), (pb, listOf #[] 0), (al, listOf #[.int ((ps : Nat) : Int) tv] n), (Lt, listOf vst.toArray ntt), (Lh, listOf vs.toArray n2), (Dc, listOf vsc.toArray nc), (L + 1, ocell), ((258 : Nat), tabObj tab)]) base := Ap.cons (hap.same rfl) (fun q hq => hneI q (List.mem_append_left _ hq)) fun q hq => hneI q (List.mem_append_right _ hq)
      dsimp only [List.cons_append, List.nil_append] at N' hneI
      w_strict (walk_at "my run")
      rename Fr _ _ _ _ => F8
      rename News _ _ _ _ => N8
      show wpAny _ _ (call (.ref 98) [.ref x]) _ _ _
      refine absQ ?_
      intro Qn hQn
      refine CtrL.use (token_ctr w0 x dx fp pb al text base hLS hLP (by omega) _ ts ps n 0 tv (cased c) _ hleft.1 hlex) F8 X0 (news := (I, oI) :: (Lt, listOf vst.toArray ntt) :: (Lh, listOf vs.toArray n2) :: (Dc, listOf vsc.toArray nc) :: (L + 1, ocell) :: ((258 : Nat), tabObj tab) :: base) (news_back (A := [(x, instObj 108 dx), (dx, dictOf (lexD w0 (1 + (text.count 10 : Int) - ((text.drop ps).count 10 : Int)) fp pb ts) 4), (pb, listOf #[] 0), (al, listOf #[.int ((ps : Nat) : Int) tv] n)]) N8) (Ap.split (A := [(x, instObj 108 dx), (dx, dictOf (lexD w0 (1 + (text.count 10 : Int) - ((text.drop ps).count 10 : Int)) fp pb ts) 4), (pb, listOf #[] 0), (al, listOf #[.int ((ps : Nat) : Int) tv] n)]) (B := [(I, oI), (Lt, listOf vst.toArray ntt), (Lh, listOf vs.toArray n2), (Dc, listOf vsc.toArray nc), (L + 1, ocell), ((258 : Nat), tabObj tab)]) (Ap.back (A := [(x, instObj 108 dx), (dx, dictOf (lexD w0 (1 + (text.count 10 : Int) - ((text.drop ps).count 10 : Int)) fp pb ts) 4), (pb, listOf #[] 0), (al, listOf #[.int ((ps : Nat) : Int) tv] n)]) hapI)) T0 (fun q hq => (N8 q ?hm).1) (by decide) (by decide) ?_
      case hm => simp [hq]
      rintro v h' tk' led' - F9 N9 - ⟨u, ts', tv', ps', ln', rfl, hps', hdrop, hln', rfl⟩
      have hln2 : ln' = 1 + (text.count 10 : Int) - ((text.drop ps').count 10 : Int) := by rw [hln', hdrop]; omega
      subst hln2
      dsimp only [List.cons_append, List.nil_append] at N9
      clear N8 F8 hln'
      refine hQn _ _ ?_
      w_strict (walk_at "my run")
      rename Fr _ _ _ _ => F10
      rename News _ _ _ _ => N10
      rw [low_cased]
      show wpAny _ _ (call (.ref 280) [.ref Lh, .str (mk (letters (c % 64))) _]) _ _ _
      have hapR := hapI.same (led' := [(I, oI), (x, instObj 108 dx), (dx, dictOf (lexD w0 (1 + (text.count 10 : Int) - ((text.drop ps').count 10 : Int)) fp pb ts') 4), (pb, listOf #[] 0), (al, listOf #[.int ((ps' : Nat) : Int) tv'] n), (Lt, listOf vst.toArray ntt), (Lh, listOf vs.toArray n2), (Dc, listOf vsc.toArray nc), (L + 1, ocell), ((258 : Nat), tabObj tab)]) rfl
      refine absQ ?_
      intro Qn hQn
      refine CtrM.use (layIn_ctr w0 Lh vs n2 (rowW ((cs.drop 3).take i)) (letters (c % 64)) _ hrow (rowW_sorted _) ?hlen (rowW_ok _) (letters_ok _)) F10 X0 (news_front (A := [(x, instObj 108 dx), (dx, dictOf (lexD w0 (1 + (text.count 10 : Int) - ((text.drop ps').count 10 : Int)) fp pb ts') 4), (pb, listOf #[] 0), (al, listOf #[.int ((ps' : Nat) : Int) tv'] n), (I, oI), (Lt, listOf vst.toArray ntt)]) N10) ?hne (topRead_of T0) (by decide) (by decide) ?_
      case hlen =>
        have := rowW_len ((cs.drop 3).take i)
        rw [List.length_take] at this
        omega
      case hne => exact Ap.front (A := [(x, instObj 108 dx), (dx, dictOf (lexD w0 (1 + (text.count 10 : Int) - ((text.drop ps').count 10 : Int)) fp pb ts') 4), (pb, listOf #[] 0), (al, listOf #[.int ((ps' : Nat) : Int) tv'] n), (I, oI), (Lt, listOf vst.toArray ntt)]) (B := [(Dc, listOf vsc.toArray nc), (L + 1, ocell), ((258 : Nat), tabObj tab)]) (base := base) (Ap.back (A := [(x, instObj 108 dx), (dx, dictOf (lexD w0 (1 + (text.count 10 : Int) - ((text.drop ps').count 10 : Int)) fp pb ts') 4), (pb, listOf #[] 0), (al, listOf #[.int ((ps' : Nat) : Int) tv'] n)]) hapR)
      rintro v h7 tk7 o7 F11 N11 - ⟨vs', n', htx, rfl⟩
      clear N10 F10
      have N12 := news_front (A := [(x, instObj 108 dx), (dx, dictOf (lexD w0 (1 + (text.count 10 : Int) - ((text.drop ps').count 10 : Int)) fp pb ts') 4), (pb, listOf #[] 0), (al, listOf #[.int ((ps' : Nat) : Int) tv'] n)]) (news_back (A := [(x, instObj 108 dx), (dx, dictOf (lexD w0 (1 + (text.count 10 : Int) - ((text.drop ps').count 10 : Int)) fp pb ts') 4), (pb, listOf #[] 0), (al, listOf #[.int ((ps' : Nat) : Int) tv'] n), (I, oI), (Lt, listOf vst.toArray ntt)]) N11)
      clear N11
      dsimp only [List.cons_append, List.nil_append] at N12
      refine hQn _ _ ?_
      w_strict (walk_at "my run")
      rename Fr _ _ _ _ => F13
      rename News _ _ _ _ => N13
      refine hq2 _ ⟨_, _, _, [(x, instObj 108 dx), (dx, dictOf (lexD w0 (1 + (text.count 10 : Int) - ((text.drop ps').count 10 : Int)) fp pb ts') 4), (pb, listOf #[] 0), (al, listOf #[.int ((ps' : Nat) : Int) tv'] n), (Lt, listOf vst.toArray ntt), (Lh, listOf vs'.toArray n'), (Dc, listOf vsc.toArray nc), (L + 1, ocell), ((258 : Nat), tabObj tab)] ++ base, rfl, F13, N13, ?hne2, ⟨by walk_at "my get", by walk_at "my get", by walk_at "my get", by walk_at "my get", by walk_at "my get", ts', ps', tv', n, vs', n', ?row, ⟨hps', l2, hl2, ?drop⟩, rfl⟩, fun b hb => nomatch hb⟩
      case hne2 =>
        intro q hq
        have hfr : ∀ q ∈ [(x, instObj 108 dx), (dx, dictOf (lexD w0 (1 + (text.count 10 : Int) - ((text.drop ps).count 10 : Int)) fp pb ts) 4), (pb, listOf #[] 0), (al, listOf #[.int ((ps : Nat) : Int) tv] n), (Lt, listOf vst.toArray ntt), (Lh, listOf vs.toArray n2), (Dc, listOf vsc.toArray nc), (L + 1, ocell), ((258 : Nat), tabObj tab)] ++ base, q.1 ≠ I := Ap.front (A := []) hapI
        rcases List.mem_append.mp hq with hq | hq
        · have h0 : q.1 ∈ [(x, instObj 108 dx), (dx, dictOf (lexD w0 (1 + (text.count 10 : Int) - ((text.drop ps').count 10 : Int)) fp pb ts') 4), (pb, listOf #[] 0), (al, listOf #[.int ((ps' : Nat) : Int) tv'] n), (Lt, listOf vst.toArray ntt), (Lh, listOf vs'.toArray n'), (Dc, listOf vsc.toArray nc), (L + 1, ocell), ((258 : Nat), tabObj tab)].map (·.1) := List.mem_map_of_mem (f := Prod.fst) hq
          have h1 : q.1 ∈ [(x, instObj 108 dx), (dx, dictOf (lexD w0 (1 + (text.count 10 : Int) - ((text.drop ps).count 10 : Int)) fp pb ts) 4), (pb, listOf #[] 0), (al, listOf #[.int ((ps : Nat) : Int) tv] n), (Lt, listOf vst.toArray ntt), (Lh, listOf vs.toArray n2), (Dc, listOf vsc.toArray nc), (L + 1, ocell), ((258 : Nat), tabObj tab)].map (·.1) := h0
          obtain ⟨z, hz, e⟩ := List.mem_map.mp h1
          exact e ▸ hfr z (List.mem_append_left _ hz)
        · exact hfr q (List.mem_append_right _ hq)
      case row =>
        rw [rowW_take (l := (cs.drop 3)) (c := c) ?_]
        · exact htx
        · rw [List.getElem?_drop]; exact hci
      case drop => rw [hdrop]; rfl
    case done =>
      rintro h tk m led ⟨g1, g2, g3, g4, g5, ts, ps, tv, n, vs, n2, hrow, hleft, rfl⟩ F' N'
      exact hq _ ⟨ts, ps, tv, n, vs, n2, hrow, hleft, _, _, _, _, F', N', g1, g2, g3, g4, g5, hap.same rfl⟩
    -- 7>
  -- end 7
  rintro _ ⟨ts, ps, tv, n, vsh, nhh, hrowH, hleft, h8, tk8, d8, m8, F, N, hmc8, hmt8, hmm8, hmk8, hmh8, hap⟩
  refine cutV (Cut8 w0 h₀ L s1 x dx fp pb al Dc Lt Lh vsc vst vsh cs text nc n ntt nhh ps tt tv ts tab base) ?_ ?_
  · -- <8
    intro Q1 E1 hq
    w_strict (walk_at "my run")
    refine comp_openT (cl := []) (by with_unfolding_all rfl) ?_
    w_strict (walk_at "my run")
    rename Fr _ _ _ _ => F4
    rename News _ _ _ _ => N4
    refine compT_list rfl ⟨_, (N4 (Dc, listOf vsc.toArray nc) (by walk_at "my mem")).1, rfl, _, rfl⟩ (by rw [List.size_toArray, hcs.length, hcl, sizeLine_eq]; decide) (fun i ys h => Nats ys ((cs.take i).map (· % 64))) (fun _ _ _ _ _ j => j) .nil ?_ ?_
    · rintro C as i s3 ys m3 E' hi ⟨v, hv, hm⟩ hb hb' hn hj hlive
      rw [List.getElem?_toArray] at hv
      obtain ⟨c, hc, tc, rfl⟩ := Paired.getL hcs hv
      w_strict (walk_at "my run")
      refine ⟨_, _, rfl, fun _ _ e => e, ?_⟩
      show Nats _ ((cs.take (i + 1)).map (· % 64))
      rw [take_succ_map _ hc]
      exact paired_app hj (.cons ⟨_, by rw [show (64 : Int) = ((64 : Nat) : Int) from rfl, fmod_nat]⟩ .nil)
    · intro D h2 tk2 ys hD hpl hst hj
      rw [List.size_toArray, hcs.length, List.take_length] at hj
      obtain ⟨nD, eD⟩ := hpl
      have hap2 := Ap.add (o := listOf ys.toArray nD) hap N4 hD
      have F5 := F4.keeps hst
      have N5 := news_back (A := [(x, instObj 108 dx), (dx, dictOf (lexD w0 (1 + (text.count 10 : Int) - ((text.drop ps).count 10 : Int)) fp pb ts) 4), (pb, listOf #[] 0), (al, listOf #[.int ((ps : Nat) : Int) tv] n), (Lt, listOf vst.toArray ntt), (Lh, listOf vsh.toArray nhh)]) (news_add (m' := fun _ => none) (news := []) F4 hD (N4.grown hst) eD)
      have hap3 := Ap.back (A := [(x, instObj 108 dx), (dx, dictOf (lexD w0 (1 + (text.count 10 : Int) - ((text.drop ps).count 10 : Int)) fp pb ts) 4), (pb, listOf #[] 0), (al, listOf #[.int ((ps : Nat) : Int) tv] n), (Lt, listOf vst.toArray ntt), (Lh, listOf vsh.toArray nhh)]) hap2
      clear F4 N4 hD hst hap2
      dsimp only [List.cons_append, List.nil_append] at N5
      w_strict (walk_at "my run")
      rename Fr _ _ _ _ => F6
      rename News _ _ _ _ => N6
      have hfr := Ap.front (A := [(x, instObj 108 dx), (dx, dictOf (lexD w0 (1 + (text.count 10 : Int) - ((text.drop ps).count 10 : Int)) fp pb ts) 4), (pb, listOf #[] 0), (al, listOf #[.int ((ps : Nat) : Int) tv] n), (Lt, listOf vst.toArray ntt), (Lh, listOf vsh.toArray nhh), (D, listOf ys.toArray nD), (Dc, listOf vsc.toArray nc)]) (B := [((258 : Nat), tabObj tab)]) hap3
      refine' storeX_C F6 N6 ?qc (updF_of (A := [(x, instObj 108 dx), (dx, dictOf (lexD w0 (1 + (text.count 10 : Int) - ((text.drop ps).count 10 : Int)) fp pb ts) 4), (pb, listOf #[] 0), (al, listOf #[.int ((ps : Nat) : Int) tv] n), (Lt, listOf vst.toArray ntt), (Lh, listOf vsh.toArray nhh), (D, listOf ys.toArray nD), (Dc, listOf vsc.toArray nc)]) (B := ((258 : Nat), tabObj tab) :: base) (fun q hq => hfr q (List.mem_append_left _ hq)) (fun q hq => hfr q (List.mem_append_right _ hq))) hcell ?_ ?qa ?qb
      case qa => rfl
      case qb => rfl
      case qc => rfl
      intro h9 ocm F7 N7 hcm
      clear N6 F6
      dsimp only [List.cons_append, List.nil_append] at N7
      exact hq _ ⟨D, ys, nD, ocm, hj, hcm, _, _, _, _, F7, N7, by walk_at "my get", by walk_at "my get", by walk_at "my get", by walk_at "my get", by walk_at "my get", hap3.same rfl⟩
    -- 8>
  -- end 8
  rintro _ ⟨Dm, vsm, nm, ocm, hmask, hcm, h9, tk9, d9, m9, F, N, hmc9, hmt9, hmm9, hmk9, hmh9, hap⟩
  clear hcell
  refine cutV (Cut9 w0 h₀ L s1 x dx fp pb al Dc Lt Lh Dm vsc vst vsh vsm text nc n ntt nhh nm ps tt tv ts tab ocm base) ?_ ?_
  · -- <9
    intro Q1 E1 hq
    have hml : vsm.length = 7 := by rw [hmask.length, List.length_map, hcl]
    w_strict (walk_at "my run")
    refine comp_openT (cl := []) (by with_unfolding_all rfl) ?_
    w_strict (walk_at "my run")
    have gm := (N (L + 1, ocm) (by walk_at "my mem")).1
    refine wpAny_Subscript_list_slice (nmC (o := ocm) (by rfl) gm hcm ?_)
    w_strict (walk_at "my run")
    refine ⟨Dm, vsm.toArray, none, some ((3 : Nat) : Int), rfl, ⟨_, (N (Dm, listOf vsm.toArray nm) (by walk_at "my mem")).1, rfl, _, rfl⟩, by rw [List.size_toArray, hml, sizeLine_eq]; decide, .none, .int _ _, ?_⟩
    rw [pick_take vsm 3 (by omega)]
    have F4 := (F.push { cls := .type "slice", data := .fields #[.none, .int 3 tk9, .none] }).push { cls := .type "list", data := .seq (vsm.take 3).toArray }
    have N4 := N.grown (fun b o e => Heap.get?_push_of_some { cls := .type "list", data := .seq (vsm.take 3).toArray } (Heap.get?_push_of_some { cls := .type "slice", data := .fields #[.none, .int 3 tk9, .none] } e))
    have hls := Heap.get?_push_size (h9.push { cls := .type "slice", data := .fields #[.none, .int 3 tk9, .none] }) (o := { cls := .type "list", data := .seq (vsm.take 3).toArray }) rfl
    rw [Heap.size_push] at hls
    have hsub : Nats (vsm.take 3) ((cs.take 3).map (· % 64)) := by
      have := nats_take 3 hmask
      rwa [← List.map_take] at this
    have hslen : (cs.take 3).length = 3 := by simp [hcl]
    clear F N gm
    refine compT_list rfl ⟨_, hls, rfl, _, rfl⟩ (by rw [List.size_toArray, hsub.length, List.length_map, hslen, sizeLine_eq]; decide) (fun i ys h => Txts ys (((cs.take 3).take i).map fun c => letters (c % 64))) (fun _ _ _ _ _ j => j) .nil ?_ ?_
    · rintro C as i s3 ys m3 E' hi ⟨v, hv, hm⟩ hb hb' hn hj hlive
      rw [List.getElem?_toArray] at hv
      obtain ⟨c6, hc6, tc, rfl⟩ := Paired.getL hsub hv
      rw [List.getElem?_map] at hc6
      obtain ⟨c, hc, rfl⟩ := Option.map_eq_some_iff.mp hc6
      have X3 := X0.keeps (fun b o e => hb _ _ (F4.keep b o e))
      have T3 := (topRead_of T0).keeps (fun b o e => hb _ _ (F4.keep b o e))
      w_strict (walk_at "my run")
      show wpAny _ _ (call (.ref 268) [.int ((c % 64 : Nat) : Int) _]) _ _ _
      refine absQ ?_
      intro Qn hQn
      refine word_ctr _ ((c % 64 : Nat) : Int) _ (Int.natCast_nonneg _) _ _ _ _ _ _ _ _ _ _ _ X3 T3 (by decide) (by decide) trivial fun v h' tk' r => ?_
      obtain ⟨hst, u, rfl⟩ := r
      refine hQn _ _ ⟨_, _, rfl, hst, ?_⟩
      show Txts _ (((cs.take 3).take (i + 1)).map fun c => letters (c % 64))
      rw [take_succ_map _ hc, Int.toNat_natCast]
      exact txts_append hj (.cons ⟨_, rfl⟩ .nil)
    · intro D h2 tk2 ys hD hpl hst hj
      rw [List.size_toArray, hsub.length, List.length_map, List.take_length] at hj
      have F5 := F4.keeps hst
      have N5 := N4.grown hst
      clear F4 N4 hls
      w_strict (walk_at "my run")
      show wpAny _ _ (call (.type "set") [.ref D]) _ _ _
      refine call_set_txt rfl hpl.isList hj (by rw [List.length_map, hslen]; decide) fun h3 tk3 oS hoS hS k3 => ?_
      have F6 := F5.keeps k3
      have N6 := N5.grown k3
      clear F5 N5
      w_strict (walk_at "my run")
      show wpAny _ _ (call (.builtin "sorted") [.ref _]) _ _ _
      refine sorted_set_txt rfl F6 N6 hoS hS (by intro e; have := congrArg List.length e; rw [List.length_map, hslen] at this; cases this) (by rw [List.length_map, hslen]; decide) fun D2 h4 tk4 d4 zs us c4 F7 N7 _ hus hsu hmem => ?_
      have hus2 : us = rowW (cs.take 3) := sorted_same hsu (rowW_sorted _) fun z => by
        rw [hmem, rowW_mem, List.mem_map]
        
        exact ⟨fun ⟨c, hc, e⟩ => ⟨c, hc, e.symm⟩, fun ⟨c, hc, e⟩ => ⟨c, hc, e.symm⟩⟩
      subst hus2
      clear F6 N6
      w_strict (walk_at "my run")
      rename Fr _ _ _ _ => F8
      rename News _ _ _ _ => N8
      show wpAny _ _ (compareOp .NotEq (.ref Lt) (.ref D2)) _ _ _
      refine ne_txts (ns := rowW (cs.take 3)) (ms := rowW (cs.take 3)) ⟨_, (N8 (Lt, listOf vst.toArray ntt) (by walk_at "my mem")).1, rfl, _, rfl⟩ ⟨_, (N8 (D2, listOf zs.toArray c4) (by walk_at "my mem")).1, rfl, _, rfl⟩ hrowT hus (rowW_ok _) (rowW_ok _) (show (7 : Nat) + 64 < cLine by decide) ?_
      rw [show (!decide (rowW (cs.take 3) = rowW (cs.take 3))) = false by simp]
      w_strict (walk_at "my run")
      rename Fr _ _ _ _ => F9
      rename News _ _ _ _ => N9
      exact hq _ ⟨_, _, _, _, F9, fun q hq => N9 q (.tail _ hq), by walk_at "my get", by walk_at "my get", by walk_at "my get", by walk_at "my get", by walk_at "my get", hap.same rfl⟩
    -- 9>
  -- end 9
  rintro _ ⟨h10, tk10, d10, m10, F, N, hmc10, hmt10, hmm10, hmk10, hmh10, hap⟩
  refine cutV (Cut9 w0 h₀ L s1 x dx fp pb al Dc Lt Lh Dm vsc vst vsh vsm text nc n ntt nhh nm ps tt tv ts tab ocm base) ?_ ?_
  · -- <10
    intro Q1 E1 hq
    have hml : vsm.length = 7 := by rw [hmask.length, List.length_map, hcl]
    w_strict (walk_at "my run")
    refine comp_openT (cl := []) (by with_unfolding_all rfl) ?_
    w_strict (walk_at "my run")
    have gm := (N (L + 1, ocm) (by walk_at "my mem")).1
    refine wpAny_Subscript_list_slice (nmC (o := ocm) (by rfl) gm hcm ?_)
    w_strict (walk_at "my run")
    refine ⟨Dm, vsm.toArray, some ((3 : Nat) : Int), none, rfl, ⟨_, (N (Dm, listOf vsm.toArray nm) (by walk_at "my mem")).1, rfl, _, rfl⟩, by rw [List.size_toArray, hml, sizeLine_eq]; decide, .int _ _, .none, ?_⟩
    rw [pick_drop vsm 3 (by omega)]
    have F4 := (F.push { cls := .type "slice", data := .fields #[.int 3 tk10, .none, .none] }).push { cls := .type "list", data := .seq (vsm.drop 3).toArray }
    have N4 := N.grown (fun b o e => Heap.get?_push_of_some { cls := .type "list", data := .seq (vsm.drop 3).toArray } (Heap.get?_push_of_some { cls := .type "slice", data := .fields #[.int 3 tk10, .none, .none] } e))
    have hls := Heap.get?_push_size (h10.push { cls := .type "slice", data := .fields #[.int 3 tk10, .none, .none] }) (o := { cls := .type "list", data := .seq (vsm.drop 3).toArray }) rfl
    rw [Heap.size_push] at hls
    have hsub : Nats (vsm.drop 3) ((cs.drop 3).map (· % 64)) := by
      have := nats_drop 3 hmask
      rwa [← List.map_drop] at this
    have hslen : (cs.drop 3).length = 4 := by simp [hcl]
    clear F N gm
    refine compT_list rfl ⟨_, hls, rfl, _, rfl⟩ (by rw [List.size_toArray, hsub.length, List.length_map, hslen, sizeLine_eq]; decide) (fun i ys h => Txts ys (((cs.drop 3).take i).map fun c => letters (c % 64))) (fun _ _ _ _ _ j => j) .nil ?_ ?_
    · rintro C as i s3 ys m3 E' hi ⟨v, hv, hm⟩ hb hb' hn hj hlive
      rw [List.getElem?_toArray] at hv
      obtain ⟨c6, hc6, tc, rfl⟩ := Paired.getL hsub hv
      rw [List.getElem?_map] at hc6
      obtain ⟨c, hc, rfl⟩ := Option.map_eq_some_iff.mp hc6
      have X3 := X0.keeps (fun b o e => hb _ _ (F4.keep b o e))
      have T3 := (topRead_of T0).keeps (fun b o e => hb _ _ (F4.keep b o e))
      w_strict (walk_at "my run")
      show wpAny _ _ (call (.ref 268) [.int ((c % 64 : Nat) : Int) _]) _ _ _
      refine absQ ?_
      intro Qn hQn
      refine word_ctr _ ((c % 64 : Nat) : Int) _ (Int.natCast_nonneg _) _ _ _ _ _ _ _ _ _ _ _ X3 T3 (by decide) (by decide) trivial fun v h' tk' r => ?_
      obtain ⟨hst, u, rfl⟩ := r
      refine hQn _ _ ⟨_, _, rfl, hst, ?_⟩
      show Txts _ (((cs.drop 3).take (i + 1)).map fun c => letters (c % 64))
      rw [take_succ_map _ hc, Int.toNat_natCast]
      exact txts_append hj (.cons ⟨_, rfl⟩ .nil)
    · intro D h2 tk2 ys hD hpl hst hj
      rw [List.size_toArray, hsub.length, List.length_map, List.take_length] at hj
      have F5 := F4.keeps hst
      have N5 := N4.grown hst
      clear F4 N4 hls
      w_strict (walk_at "my run")
      show wpAny _ _ (call (.type "set") [.ref D]) _ _ _
      refine call_set_txt rfl hpl.isList hj (by rw [List.length_map, hslen]; decide) fun h3 tk3 oS hoS hS k3 => ?_
      have F6 := F5.keeps k3
      have N6 := N5.grown k3
      clear F5 N5
      w_strict (walk_at "my run")
      show wpAny _ _ (call (.builtin "sorted") [.ref _]) _ _ _
      refine sorted_set_txt rfl F6 N6 hoS hS (by intro e; have := congrArg List.length e; rw [List.length_map, hslen] at this; cases this) (by rw [List.length_map, hslen]; decide) fun D2 h4 tk4 d4 zs us c4 F7 N7 _ hus hsu hmem => ?_
      have hus2 : us = rowW ((cs.drop 3).take 4) := sorted_same hsu (rowW_sorted _) fun z => by
        rw [hmem, rowW_mem, List.mem_map]
        rw [show (cs.drop 3).take 4 = cs.drop 3 from List.take_of_length_le (by omega)]
        exact ⟨fun ⟨c, hc, e⟩ => ⟨c, hc, e.symm⟩, fun ⟨c, hc, e⟩ => ⟨c, hc, e.symm⟩⟩
      subst hus2
      clear F6 N6
      w_strict (walk_at "my run")
      rename Fr _ _ _ _ => F8
      rename News _ _ _ _ => N8
      show wpAny _ _ (compareOp .NotEq (.ref Lh) (.ref D2)) _ _ _
      refine ne_txts (ns := rowW ((cs.drop 3).take 4)) (ms := rowW ((cs.drop 3).take 4)) ⟨_, (N8 (Lh, listOf vsh.toArray nhh) (by walk_at "my mem")).1, rfl, _, rfl⟩ ⟨_, (N8 (D2, listOf zs.toArray c4) (by walk_at "my mem")).1, rfl, _, rfl⟩ hrowH hus (rowW_ok _) (rowW_ok _) (show (7 : Nat) + 64 < cLine by decide) ?_
      rw [show (!decide (rowW ((cs.drop 3).take 4) = rowW ((cs.drop 3).take 4))) = false by simp]
      w_strict (walk_at "my run")
      rename Fr _ _ _ _ => F9
      rename News _ _ _ _ => N9
      exact hq _ ⟨_, _, _, _, F9, fun q hq => N9 q (.tail _ hq), by walk_at "my get", by walk_at "my get", by walk_at "my get", by walk_at "my get", by walk_at "my get", hap.same rfl⟩
    -- 10>
  -- end 10
  rintro _ ⟨h11, tk11, d11, m11, F, N, hmc11, hmt11, hmm11, hmk11, hmh11, hap⟩
  refine cutV (Cut11 w0 h₀ L s1 x dx fp pb al Dc Lt Lh Dm vsc vst vsh vsm text nc ntt nhh nm tt tab ocm base) ?_ ?_
  · -- <11
    intro Q1 E1 hq
    obtain ⟨rest, hlex, hcnt, hrest⟩ := leftAt_end (cs := cs) (text := text) (ps := ps) (by rw [hcl]; exact hleft)
    w_strict (walk_at "my run")
    show wpAny _ _ (call (.ref 98) [.ref x]) _ _ _
    refine absQ ?_
    intro Qn hQn
    refine CtrL.use (token_ctr w0 x dx fp pb al text base hLS hLP (by omega) _ ts ps n 0 tv [] _ hleft.1 hlex) F X0 (led := [(x, instObj 108 dx), (dx, dictOf (lexD w0 (1 + (text.count 10 : Int) - ((text.drop ps).count 10 : Int)) fp pb ts) 4), (pb, listOf #[] 0), (al, listOf #[.int ((ps : Nat) : Int) tv] n)]) (news := (Lt, listOf vst.toArray ntt) :: (Lh, listOf vsh.toArray nhh) :: (Dm, listOf vsm.toArray nm) :: (Dc, listOf vsc.toArray nc) :: (L + 1, ocm) :: ((258 : Nat), tabObj tab) :: base) N (Ap.split (A := [(x, instObj 108 dx), (dx, dictOf (lexD w0 (1 + (text.count 10 : Int) - ((text.drop ps).count 10 : Int)) fp pb ts) 4), (pb, listOf #[] 0), (al, listOf #[.int ((ps : Nat) : Int) tv] n)]) (B := [(Lt, listOf vst.toArray ntt), (Lh, listOf vsh.toArray nhh), (Dm, listOf vsm.toArray nm), (Dc, listOf vsc.toArray nc), (L + 1, ocm), ((258 : Nat), tabObj tab)]) hap) T0 (fun q hq => (N q ?hm).1) (by decide) (by decide) ?_
    case hm => simp [hq]
    rintro v h' tk' led' - F9 N9 - ⟨u, ts', tv', ps', ln', rfl, hps', hdrop, hln', rfl⟩
    dsimp only [List.cons_append, List.nil_append] at N9
    have hln2 : ln' = 1 + (text.count 10 : Int) := by rw [hln', hrest]; simp
    clear F N hln'
    subst hln2
    refine hQn _ _ ?_
    w_strict (walk_at "my run")
    · exfalso
      rename (¬ (_ : Int) = _) => hne
      exact hne rfl
    rename Fr _ _ _ _ => F10
    rename News _ _ _ _ => N10
    exact hq _ ⟨_, _, _, _, _, _, _, F10, N10, by walk_at "my get", by walk_at "my get", by walk_at "my get", by walk_at "my get", by walk_at "my get", hap.same rfl⟩
    -- 11>
  -- end 11
  rintro _ ⟨ln, tz, oal, h12, tk12, d12, m12, F, N, hmc12, hmt12, hmm12, hmk12, hmh12, hap⟩
  have hshl : vsh.length ≤ 4 := by
    rw [hrowH.length]
    exact Nat.le_trans (rowW_len _) (by rw [List.length_take]; omega)
  refine cutV (Cut12 w0 h₀ L s1 x dx fp pb al Dc Lt Lh Dm vsc vst vsh vsm text nc ntt nhh nm tt tz tab ln ocm oal base) ?_ ?_
  · -- <12
    intro Q1 E1 hq
    w_strict (walk_at "my run")
    rename Fr _ _ _ _ => F7
    rename News _ _ _ _ => N7
    refine for_listV rfl rfl ⟨_, (N7 (Lh, listOf vsh.toArray nhh) (by walk_at "my mem")).1, rfl, _, rfl⟩ (Turn3 w0 L x dx fp pb al Dc Lt Lh Dm vsc vst vsh vsm text nc ntt nhh nm tt tz tab ln ocm oal base) F7 (led₀ := [(x, instObj 108 dx), (dx, dictOf (lexD w0 ln fp pb tz) 4), (pb, listOf #[] 0), (al, oal), (Lt, listOf vst.toArray ntt), (Lh, listOf vsh.toArray nhh), (Dm, listOf vsm.toArray nm), (Dc, listOf vsc.toArray nc), (L + 1, ocm), ((258 : Nat), tabObj tab)] ++ base) N7
      ⟨by walk_at "my get", by walk_at "my get", by walk_at "my get", by walk_at "my get", by walk_at "my get", 0, rfl⟩ ?turn ?done
    case turn =>
      rintro I i h tk m led oI v hi hv ⟨g1, g2, g3, g4, g5, n3, rfl⟩ F' N' hneI Q2 E2 hq2
      clear F7 N7
      have hapI : Ap ((I, oI) :: [(x, instObj 108 dx), (dx, dictOf (lexD w0 ln fp pb tz) 4), (pb, listOf (vsh.take i).toArray n3), (al, oal), (Lt, listOf vst.toArray ntt), (Lh, listOf vsh.toArray nhh), (Dm, listOf vsm.toArray nm), (Dc, listOf vsc.toArray nc), (L + 1, ocm), ((258 : Nat), tabObj tab)]) base := Ap.cons (hap.same rfl) (fun q hq => hneI q (List.mem_append_left _ hq)) fun q hq => hneI q (List.mem_append_right _ hq)
      have hfrI : ∀ q ∈ [(x, instObj 108 dx), (dx, dictOf (lexD w0 ln fp pb tz) 4), (pb, listOf (vsh.take i).toArray n3), (al, oal), (Lt, listOf vst.toArray ntt), (Lh, listOf vsh.toArray nhh), (Dm, listOf vsm.toArray nm), (Dc, listOf vsc.toArray nc), (L + 1, ocm), ((258 : Nat), tabObj tab)] ++ base, q.1 ≠ I := hneI
      dsimp only [List.cons_append, List.nil_append] at N'
      w_strict (walk_at "my run")
      rename Fr _ _ _ _ => F8
      rename News _ _ _ _ => N8
      show wpAny _ _ (call (.ref 105) [.ref x, v]) _ _ _
      refine absQ ?_
      intro Qn hQn
      refine CtrL.use (push_ctr w0 x dx fp pb hLP.xd hLP.xp hLP.dp ln tz (vsh.take i) n3 v (by rw [List.length_take]; omega)) F8 X0 (led := [(x, instObj 108 dx), (dx, dictOf (lexD w0 ln fp pb tz) 4), (pb, listOf (vsh.take i).toArray n3)]) (news := (I, oI) :: (al, oal) :: (Lt, listOf vst.toArray ntt) :: (Lh, listOf vsh.toArray nhh) :: (Dm, listOf vsm.toArray nm) :: (Dc, listOf vsc.toArray nc) :: (L + 1, ocm) :: ((258 : Nat), tabObj tab) :: base) (news_back (A := [(x, instObj 108 dx), (dx, dictOf (lexD w0 ln fp pb tz) 4), (pb, listOf (vsh.take i).toArray n3)]) N8) (Ap.split (A := [(x, instObj 108 dx), (dx, dictOf (lexD w0 ln fp pb tz) 4), (pb, listOf (vsh.take i).toArray n3)]) (B := [(I, oI), (al, oal), (Lt, listOf vst.toArray ntt), (Lh, listOf vsh.toArray nhh), (Dm, listOf vsm.toArray nm), (Dc, listOf vsc.toArray nc), (L + 1, ocm), ((258 : Nat), tabObj tab)]) (Ap.back (A := [(x, instObj 108 dx), (dx, dictOf (lexD w0 ln fp pb tz) 4), (pb, listOf (vsh.take i).toArray n3)]) hapI)) T0 trivial (by decide) (by decide) ?_
      rintro v2 h' tk' led' - F9 N9 - ⟨n4, rfl⟩
      have N10 := news_front (A := [(x, instObj 108 dx), (dx, dictOf (lexD w0 ln fp pb tz) 4), (pb, listOf (vsh.take i ++ [v]).toArray n4)]) N9
      dsimp only [List.cons_append, List.nil_append] at N10
      have gl := (N10 (Lh, listOf vsh.toArray nhh) (by walk_at "my mem")).1
      have gl0 := (N8 (Lh, listOf vsh.toArray nhh) (by walk_at "my mem")).1
      have gl00 := (N' (Lh, listOf vsh.toArray nhh) (by walk_at "my mem")).1
      clear N8 F8 N9
      refine hQn _ _ ?_
      w_strict (walk_at "my run")
      rename Fr _ _ _ _ => F13
      rename News _ _ _ _ => N13
      refine hq2 _ ⟨_, _, _, [(x, instObj 108 dx), (dx, dictOf (lexD w0 ln fp pb tz) 4), (pb, listOf (vsh.take i ++ [v]).toArray n4), (al, oal), (Lt, listOf vst.toArray ntt), (Lh, listOf vsh.toArray nhh), (Dm, listOf vsm.toArray nm), (Dc, listOf vsc.toArray nc), (L + 1, ocm), ((258 : Nat), tabObj tab)] ++ base, rfl, F13, N13, ?hne2, ⟨by walk_at "my get", by walk_at "my get", by walk_at "my get", by walk_at "my get", by walk_at "my get", n4, ?row⟩, ?keep⟩
      case row => rw [List.take_add_one, hv]; rfl
      case keep =>
        intro b hb ob e
        rw [List.mem_singleton.mp hb] at e ⊢
        rw [gl00] at e
        cases e
        exact (N13 (Lh, listOf vsh.toArray nhh) (by walk_at "my mem")).1
      case hne2 =>
        intro q hq
        rcases List.mem_append.mp hq with hq | hq
        · have h0 : q.1 ∈ [(x, instObj 108 dx), (dx, dictOf (lexD w0 ln fp pb tz) 4), (pb, listOf (vsh.take i ++ [v]).toArray n4), (al, oal), (Lt, listOf vst.toArray ntt), (Lh, listOf vsh.toArray nhh), (Dm, listOf vsm.toArray nm), (Dc, listOf vsc.toArray nc), (L + 1, ocm), ((258 : Nat), tabObj tab)].map (·.1) := List.mem_map_of_mem (f := Prod.fst) hq
          have h1 : q.1 ∈ [(x, instObj 108 dx), (dx, dictOf (lexD w0 ln fp pb tz) 4), (pb, listOf (vsh.take i).toArray n3), (al, oal), (Lt, listOf vst.toArray ntt), (Lh, listOf vsh.toArray nhh), (Dm, listOf vsm.toArray nm), (Dc, listOf vsc.toArray nc), (L + 1, ocm), ((258 : Nat), tabObj tab)].map (·.1) := h0
          obtain ⟨z, hz, e⟩ := List.mem_map.mp h1
          exact e ▸ hfrI z (List.mem_append_left _ hz)
        · exact hfrI q (List.mem_append_right _ hq)
    case done =>
      rintro h tk m led ⟨g1, g2, g3, g4, g5, n3, rfl⟩ F' N'
      rw [List.take_length] at N'
      exact hq _ ⟨n3, _, _, _, _, F', N', g1, g2, g3, g4, g5, hap.same rfl⟩
    -- 12>
  -- end 12
  rintro _ ⟨n3, h13, tk13, d13, m13, F, N, hmc13, hmt13, hmm13, hmk13, hmh13, hap⟩
  refine cutV (Cut13 w0 h₀ L s1 x dx fp pb al Dc Lt Lh Dm vsc vst vsh vsm text nc ntt nhh nm n3 tt tz tab ln ocm oal base) ?_ ?_
  · -- <13
    intro Q1 E1 hq
    w_strict (walk_at "my run")
    rename Fr _ _ _ _ => F7
    rename News _ _ _ _ => N7
    rename (_ ∧ _) => hlt4
    have hap4 := Ap.lt (o := listOf #[] 0) hap hlt4
    exact hq _ ⟨_, _, _, _, _, _, F7, news_back (A := [(x, instObj 108 dx), (dx, dictOf (lexD w0 ln fp pb tz) 4), (pb, listOf vsh.toArray n3), (al, oal), (Lt, listOf vst.toArray ntt), (Lh, listOf vsh.toArray nhh)]) N7, by walk_at "my get", by walk_at "my get", by walk_at "my get", by walk_at "my get", by walk_at "my get", by walk_at "my get", Ap.back (A := [(x, instObj 108 dx), (dx, dictOf (lexD w0 ln fp pb tz) 4), (pb, listOf vsh.toArray n3), (al, oal), (Lt, listOf vst.toArray ntt), (Lh, listOf vsh.toArray nhh)]) hap4⟩
    -- 13>
  -- end 13
  rintro _ ⟨Ll, nl, h14, tk14, d14, m14, F, N, hmc14, hmt14, hmm14, hmk14, hmh14, hml14, hap⟩
  refine cutV (Cut14 w0 h₀ L s1 x dx fp pb al Dc Lt Lh Ll Dm vsc vst vsh vsm text nc ntt nhh nm n3 nl tt tz tab ln ocm oal base) ?_ ?_
  · -- <14
    intro Q1 E1 hq
    w_strict (walk_at "my run")
    rename Fr _ _ _ _ => F7
    rename News _ _ _ _ => N7
    rename (_ ∧ _) => hlt4
    have hap4 := Ap.lt (o := listOf #[] 0) hap hlt4
    exact hq _ ⟨_, _, _, _, _, _, F7, news_back (A := [(x, instObj 108 dx), (dx, dictOf (lexD w0 ln fp pb tz) 4), (pb, listOf vsh.toArray n3), (al, oal), (Lt, listOf vst.toArray ntt), (Lh, listOf vsh.toArray nhh), (Ll, listOf #[] nl)]) N7, by walk_at "my get", by walk_at "my get", by walk_at "my get", by walk_at "my get", by walk_at "my get", by walk_at "my get", by walk_at "my get", Ap.back (A := [(x, instObj 108 dx), (dx, dictOf (lexD w0 ln fp pb tz) 4), (pb, listOf vsh.toArray n3), (al, oal), (Lt, listOf vst.toArray ntt), (Lh, listOf vsh.toArray nhh), (Ll, listOf #[] nl)]) hap4⟩
    -- 14>
  -- end 14
  rintro _ ⟨Lr, nr, h15, tk15, d15, m15, F, N, hmc15, hmt15, hmm15, hmk15, hmh15, hml15, hmr15, hap⟩
  obtain ⟨T, eT, hT64, hTn, hTm⟩ := rowW_masks (cs.take 3)
  obtain ⟨H, eH, hH64, hHn, hHm⟩ := rowW_masks ((cs.drop 3).take 4)
  have hTl : T.length ≤ 3 := by
    have := rowW_len (cs.take 3)
    rw [eT, List.length_map, List.length_take] at this
    omega
  have hHl : H.length ≤ 4 := by
    have := rowW_len ((cs.drop 3).take 4)
    rw [eH, List.length_map, List.length_take] at this
    omega
  rw [eT] at hrowT
  rw [eH] at hrowH
  have hvT : vst.length = T.length := by rw [hrowT.length, List.length_map]
  have hvH : vsh.length = H.length := by rw [hrowH.length, List.length_map]
  refine cutV (Cut15 w0 h₀ L s1 x dx fp pb al Dc Lt Lh Ll Lr Dm vsc vst vsh vsm text T H nc ntt nhh nm tt tz tab ln ocm oal base) ?_ ?_
  · -- <15
    intro Q1 E1 hq
    have hmarkC : MarkComp := trivial
    w_strict (walk_at "my run")
    rename Fr _ _ _ _ => F7
    rename News _ _ _ _ => N7
    refine for_listV rfl rfl ⟨_, (N7 (Lt, listOf vst.toArray ntt) (by walk_at "my mem")).1, rfl, _, rfl⟩ (Turn4 w0 L x dx fp pb al Dc Lt Lh Ll Lr Dm vsc vst vsh vsm text T H nc ntt nhh nm tt tz tab ln ocm oal base) F7 (led₀ := [(x, instObj 108 dx), (dx, dictOf (lexD w0 ln fp pb tz) 4), (pb, listOf vsh.toArray n3), (al, oal), (Lt, listOf vst.toArray ntt), (Lh, listOf vsh.toArray nhh), (Ll, listOf #[] nl), (Lr, listOf #[] nr), (Dm, listOf vsm.toArray nm), (Dc, listOf vsc.toArray nc), (L + 1, ocm), ((258 : Nat), tabObj tab)] ++ base) N7
      ⟨by walk_at "my get", by walk_at "my get", by walk_at "my get", by walk_at "my get", by walk_at "my get", by walk_at "my get", by walk_at "my get", n3, [], nl, [], nr, .nil, .nil, rfl⟩ ?turn ?done
    case done =>
      rintro h tk m led ⟨g1, g2, g3, g4, g5, g6, g7, n3, vl, nl, vr, nr, hrl, hrr, rfl⟩ F' N'
      rw [hvT, List.take_length] at hrl hrr
      exact hq _ ⟨n3, vl, nl, vr, nr, hrl, hrr, _, _, _, _, F', N', g1, g2, g3, g4, g5, g6, g7, hap.same rfl⟩
    case turn =>
      clear F N F7 N7
      rintro I i h tk m led oI v hi hv ⟨g1, g2, g3, g4, g5, g6, g7, n3, vl, nl, vr, nr, hrl, hrr, rfl⟩ F' N' hneI Q2 E2 hq2
      obtain ⟨y, hy, u, rfl⟩ := Paired.getL hrowT hv
      rw [List.getElem?_map] at hy
      obtain ⟨t, ht, rfl⟩ := Option.map_eq_some_iff.mp hy
      clear hy
      dsimp only [List.cons_append, List.nil_append] at N'
      have gl00 := (N' (Lt, listOf vst.toArray ntt) (by walk_at "my mem")).1
      w_strict (walk_at "my run")
      refine comp_openA (cl := []) (by with_unfolding_all rfl) ?_
      w_strict (walk_at "my run")
      rename Fr _ _ _ _ => F8
      rename News _ _ _ _ => N8
      show wpAny _ _ (call (.ref 290) [.str (mk (letters t)) _]) _ _ _
      refine absQ ?_
      intro Qn hQn
      refine Ctr.use (lights_ctr w0 t _) (fun _ _ _ r => r.1) F8 X0 N8 (topRead_of T0) (by decide) (by decide) trivial ?_
      rintro v9 h9 tk9 F9 N9 - ⟨-, D0, D1, D2, ys1, ys2, rfl, -, -, -, hp0, hp1, hp2, hi1, hi2⟩
      clear N8 F8 N' F'
      obtain ⟨ta, tb, tc, rfl⟩ := ints_three hi1
      obtain ⟨td, te, tf, rfl⟩ := ints_three hi2
      refine hQn _ _ ?_
      refine compA_list rfl hp0.isList (by rw [sizeLine_eq]; exact (by decide : 2 ≤ 16777216)) (fun i ys h => Paired (LightF h9 h) ys ([[1 - bitI t 97, 1 - bitI t 98, 1 - bitI t 99], [1 - bitI t 100, 1 - bitI t 101, 1 - bitI t 102]].take i)) (fun _ _ _ _ k j => lightF_up k j) .nil (fun _ _ _ _ k j => lightF_upL F9.ns k j) F9.ns ?_ ?_
      · rintro C as j s3 ys m3 E' hj ⟨v, hv, hm⟩ hb hb' hn hjj hlive
        have X3 := X0.keeps (fun b o e => hb _ _ (F9.keep b o e))
        have T3 := (topRead_of T0).keeps (fun b o e => hb _ _ (F9.keep b o e))
        obtain ⟨k1, e1⟩ := hp1
        obtain ⟨k2, e2⟩ := hp2
        replace e1 := hb _ _ e1
        replace e2 := hb _ _ e2
        rcases two_get hv with ⟨rfl, rfl⟩ | ⟨rfl, rfl⟩
        · w_strict (walk_at "my run")
          show wpAny _ _ (call (.ref 295) [.ref D1]) _ _ _
          refine absQ ?_
          intro Qn hQn
          refine neg_ctr _ D1 _ _ _ _ _ _ (bitI_mem _ _) (bitI_mem _ _) (bitI_mem _ _) _ _ _ _ _ _ _ _ _ _ _ X3 T3 (by decide) (by decide) ⟨_, e1, rfl, _, rfl⟩ fun v h' tk' r => ?_
          obtain ⟨hst, D, zs, rfl, hD, hp, hi⟩ := r
          exact hQn _ _ ⟨_, _, rfl, hst, lights_snoc hjj rfl hb hlive hst hD hp hi⟩
        · w_strict (walk_at "my run")
          show wpAny _ _ (call (.ref 295) [.ref D2]) _ _ _
          refine absQ ?_
          intro Qn hQn
          refine neg_ctr _ D2 _ _ _ _ _ _ (bitI_mem _ _) (bitI_mem _ _) (bitI_mem _ _) _ _ _ _ _ _ _ _ _ _ _ X3 T3 (by decide) (by decide) ⟨_, e2, rfl, _, rfl⟩ fun v h' tk' r => ?_
          obtain ⟨hst, D, zs, rfl, hD, hp, hi⟩ := r
          exact hQn _ _ ⟨_, _, rfl, hst, lights_snoc hjj rfl hb hlive hst hD hp hi⟩
      intro DS h10 tk10 yss hDS hplS hns10 hst hjj
      obtain ⟨S1, S2, z1, z2, rfl, hS1, hS2, ⟨k1, e1⟩, ⟨k2, e2⟩, hz1, hz2⟩ := lights_two (lightF_up hide_up hjj)
      obtain ⟨kD, eD⟩ := hplS
      have hz12 := And.intro hz1 hz2
      clear hjj hi1 hi2 hp0 hp1 hp2 hz1 hz2
      have F10 := Fr.named F9 hns10 hst
      have N10 := News.named N9 hst
      have f1 := fresh_is F9 hS1 e1
      have f2 := fresh_is F9 hS2 e2
      have f3 := fresh_is F9 hDS eD
      obtain ⟨base2, hbs, hbI, hbD, hb1, hb2, hN2, hap2⟩ : ∃ base2 : List (Addr × Obj), (∀ q ∈ base, q ∈ base2) ∧ (I, oI) ∈ base2 ∧ (DS, listOf [.ref S1, .ref S2].toArray kD) ∈ base2 ∧ (S1, listOf z1.toArray k1) ∈ base2 ∧ (S2, listOf z2.toArray k2) ∈ base2 ∧
          News h₀ L h10 ([(x, instObj 108 dx), (dx, dictOf (lexD w0 ln fp pb tz) 4), (pb, listOf vsh.toArray n3), (al, oal), (Lt, listOf vst.toArray ntt), (Lh, listOf vsh.toArray nhh), (Ll, listOf vl.toArray nl), (Lr, listOf vr.toArray nr), (Dm, listOf vsm.toArray nm), (Dc, listOf vsc.toArray nc), (L + 1, ocm), ((258 : Nat), tabObj tab)] ++ base2) ∧ Ap [(x, instObj 108 dx), (dx, dictOf (lexD w0 ln fp pb tz) 4), (pb, listOf vsh.toArray n3), (al, oal), (Lt, listOf vst.toArray ntt), (Lh, listOf vsh.toArray nhh), (Ll, listOf vl.toArray nl), (Lr, listOf vr.toArray nr), (Dm, listOf vsm.toArray nm), (Dc, listOf vsc.toArray nc), (L + 1, ocm), ((258 : Nat), tabObj tab)] base2 := by
        have N9' : News h₀ L h9 ((I, oI) :: ([(x, instObj 108 dx), (dx, dictOf (lexD w0 ln fp pb tz) 4), (pb, listOf vsh.toArray n3), (al, oal), (Lt, listOf vst.toArray ntt), (Lh, listOf vsh.toArray nhh), (Ll, listOf vl.toArray nl), (Lr, listOf vr.toArray nr), (Dm, listOf vsm.toArray nm), (Dc, listOf vsc.toArray nc), (L + 1, ocm), ((258 : Nat), tabObj tab)] ++ base)) := N9
        have N10' : News h₀ L h10 ((I, oI) :: ([(x, instObj 108 dx), (dx, dictOf (lexD w0 ln fp pb tz) 4), (pb, listOf vsh.toArray n3), (al, oal), (Lt, listOf vst.toArray ntt), (Lh, listOf vsh.toArray nhh), (Ll, listOf vl.toArray nl), (Lr, listOf vr.toArray nr), (Dm, listOf vsm.toArray nm), (Dc, listOf vsc.toArray nc), (L + 1, ocm), ((258 : Nat), tabObj tab)] ++ base)) := N10
        have hled : ∀ q ∈ [(x, instObj 108 dx), (dx, dictOf (lexD w0 ln fp pb tz) 4), (pb, listOf vsh.toArray n3), (al, oal), (Lt, listOf vst.toArray ntt), (Lh, listOf vsh.toArray nhh), (Ll, listOf vl.toArray nl), (Lr, listOf vr.toArray nr), (Dm, listOf vsm.toArray nm), (Dc, listOf vsc.toArray nc), (L + 1, ocm), ((258 : Nat), tabObj tab)], ∃ o, h9.get? q.1 = some o := fun q hq => ⟨_, (N9' q (.tail _ (List.mem_append_left _ hq))).1⟩
        have nn : ∀ {a : Addr}, h9.get? a = none → a ∉ [(x, instObj 108 dx), (dx, dictOf (lexD w0 ln fp pb tz) 4), (pb, listOf vsh.toArray n3), (al, oal), (Lt, listOf vst.toArray ntt), (Lh, listOf vsh.toArray nhh), (Ll, listOf vl.toArray nl), (Lr, listOf vr.toArray nr), (Dm, listOf vsm.toArray nm), (Dc, listOf vsc.toArray nc), (L + 1, ocm), ((258 : Nat), tabObj tab)].map (·.1) := fun {a} e z => by
          obtain ⟨q, hq, e2⟩ := List.mem_map.mp z
          obtain ⟨o, e3⟩ := hled q hq
          rw [e2, e] at e3; cases e3
        refine ⟨(DS, listOf [.ref S1, .ref S2].toArray kD) :: (S1, listOf z1.toArray k1) :: (S2, listOf z2.toArray k2) :: (I, oI) :: base, fun q hq => by simp [hq], by simp, by simp, by simp, by simp, fun q hq => ?_, (hap.same rfl).1, fun q hq => ?_⟩
        · rcases List.mem_append.mp hq with hq | hq
          · exact N10' q (.tail _ (List.mem_append_left _ hq))
          · rcases List.mem_cons.mp hq with rfl | hq
            · exact f3
            rcases List.mem_cons.mp hq with rfl | hq
            · exact f1
            rcases List.mem_cons.mp hq with rfl | hq
            · exact f2
            rcases List.mem_cons.mp hq with rfl | hq
            · exact N10' _ (.head _)
            exact N10' q (.tail _ (List.mem_append_right _ hq))
        · rcases List.mem_cons.mp hq with rfl | hq
          · exact nn hDS
          rcases List.mem_cons.mp hq with rfl | hq
          · exact nn hS1
          rcases List.mem_cons.mp hq with rfl | hq
          · exact nn hS2
          rcases List.mem_cons.mp hq with rfl | hq
          · intro z
            obtain ⟨q, hq, e2⟩ := List.mem_map.mp z
            exact hneI q (List.mem_append_left _ hq) e2
          · exact (hap.same rfl).2 q hq
      clear F9 N9 N10 f1 f2 f3 hst hDS hS1 hS2 hns10
      dsimp only [List.cons_append, List.nil_append] at hN2
      w_strict (walk_at "my run")
      rename Fr _ _ _ _ => F11
      rename News _ _ _ _ => N11
      rename IsRange _ _ _ _ _ _ _ _ => hr
      have gl0 := (N11 (Lt, listOf vst.toArray ntt) (by walk_at "my mem")).1
      refine for_rangeV (n := vsh.length) rfl rfl hr (by rw [sizeLine_eq]; omega) (Turn5 w0 L x dx fp pb al Dc Lt Lh Ll Lr Dm DS vsc vst vsh vsm text T H nc ntt nhh nm tt u tz tab ln ocm oal base2 t i) F11 (led₀ := [(x, instObj 108 dx), (dx, dictOf (lexD w0 ln fp pb tz) 4), (pb, listOf (vsh.drop 0 ++ vsh.take 0).toArray n3), (al, oal), (Lt, listOf vst.toArray ntt), (Lh, listOf vsh.toArray nhh), (Ll, listOf vl.toArray nl), (Lr, listOf vr.toArray nr), (Dm, listOf vsm.toArray nm), (Dc, listOf vsc.toArray nc), (L + 1, ocm), ((258 : Nat), tabObj tab)] ++ base2) ?ledq
        ⟨by walk_at "my get", by walk_at "my get", by walk_at "my get", by walk_at "my get", by walk_at "my get", by walk_at "my get", by walk_at "my get", by walk_at "my get", by walk_at "my get", n3, vl, nl, vr, nr, by simpa using hrl, by simpa using hrr, rfl⟩ ?turn2 ?done2
      case ledq =>
        rw [List.drop_zero, List.take_zero, List.append_nil]
        exact N11
      case done2 =>
        rintro h tk m led ⟨g1, g2, g3, g4, g5, g6, g7, g8, g9, n3, vl, nl, vr, nr, hrl, hrr, rfl⟩ F' N'
        rw [hvH, List.take_length, ← pairsL_snoc ht] at hrl
        rw [hvH, List.take_length, ← pairsR_snoc ht] at hrr
        rw [List.drop_length, List.take_length, List.nil_append] at N'
        refine wpAny_execs_nil ?_
        refine hq2 _ ⟨_, _, _, [(x, instObj 108 dx), (dx, dictOf (lexD w0 ln fp pb tz) 4), (pb, listOf vsh.toArray n3), (al, oal), (Lt, listOf vst.toArray ntt), (Lh, listOf vsh.toArray nhh), (Ll, listOf vl.toArray nl), (Lr, listOf vr.toArray nr), (Dm, listOf vsm.toArray nm), (Dc, listOf vsc.toArray nc), (L + 1, ocm), ((258 : Nat), tabObj tab)] ++ base, rfl, F', fun q hq => ?_, fun q hq => ?_, ⟨g1, g2, g3, g4, g5, g6, g7, n3, vl, nl, vr, nr, hrl, hrr, rfl⟩, ?keep⟩
        · rcases List.mem_cons.mp hq with rfl | hq
          · exact N' _ (List.mem_append_right _ hbI)
          · rcases List.mem_append.mp hq with hq | hq
            · exact N' q (List.mem_append_left _ hq)
            · exact N' q (List.mem_append_right _ (hbs q hq))
        · have hI2 : I ∉ [(x, instObj 108 dx), (dx, dictOf (lexD w0 ln fp pb tz) 4), (pb, listOf vsh.toArray n3), (al, oal), (Lt, listOf vst.toArray ntt), (Lh, listOf vsh.toArray nhh), (Ll, listOf vl.toArray nl), (Lr, listOf vr.toArray nr), (Dm, listOf vsm.toArray nm), (Dc, listOf vsc.toArray nc), (L + 1, ocm), ((258 : Nat), tabObj tab)].map (·.1) := (hap2.same rfl).2 _ hbI
          rcases List.mem_append.mp hq with hq | hq
          · exact fun e => hI2 (e ▸ List.mem_map_of_mem (f := Prod.fst) hq)
          · exact hneI q (List.mem_append_right _ hq)
        case keep =>
          intro b hb ob e
          rw [List.mem_singleton.mp hb] at e ⊢
          rw [gl00] at e
          cases e
          exact (N' (Lt, listOf vst.toArray ntt) (.tail _ (.tail _ (.tail _ (.tail _ (.head _)))))).1
      case turn2 =>
        clear F11 N11 hr hrl hrr
        rintro J j h tk m led oJ tJ hj ⟨g1, g2, g3, g4, g5, g6, g7, g8, g9, n3, vl, nl, vr, nr, hrl, hrr, rfl⟩ F' N' hneJ hcJ Q3 E3 hq3
        have hvj : vsh[j]? = some (vsh[j]'hj) := List.getElem?_eq_getElem _
        obtain ⟨yh, hyh, uh, hvh⟩ := Paired.getL hrowH hvj
        rw [List.getElem?_map] at hyh
        obtain ⟨ho, hho, rfl⟩ := Option.map_eq_some_iff.mp hyh
        rw [hvh] at hvj
        clear hyh hvh
        have hrot : vsh.drop j ++ vsh.take j = Value.str (mk (letters ho)) uh :: (vsh.drop (j + 1) ++ vsh.take j) := rot_take hvj
        have hrot2 : (vsh.drop (j + 1) ++ vsh.take j) ++ [Value.str (mk (letters ho)) uh] = vsh.drop (j + 1) ++ vsh.take (j + 1) := rot_push hvj
        have hrlen : (vsh.drop (j + 1) ++ vsh.take j).length ≤ 1000 := by
          rw [List.length_append, List.length_drop, List.length_take]; omega
        rw [hrot] at N' hneJ
        generalize vsh.drop (j + 1) ++ vsh.take j = rest at N' hneJ hrot hrot2 hrlen
        clear hrot
        have ho64 := hH64 ho (List.mem_of_getElem? hho)
        have t64 := hT64 t (List.mem_of_getElem? ht)
        have hapJ : Ap ((J, oJ) :: [(x, instObj 108 dx), (dx, dictOf (lexD w0 ln fp pb tz) 4), (pb, listOf ((Value.str (mk (letters ho)) uh) :: rest).toArray n3), (al, oal), (Lt, listOf vst.toArray ntt), (Lh, listOf vsh.toArray nhh), (Ll, listOf vl.toArray nl), (Lr, listOf vr.toArray nr), (Dm, listOf vsm.toArray nm), (Dc, listOf vsc.toArray nc), (L + 1, ocm), ((258 : Nat), tabObj tab)]) base2 := Ap.cons (hap2.same rfl) (fun q hq => hneJ q (List.mem_append_left _ hq)) fun q hq => hneJ q (List.mem_append_right _ hq)
        dsimp only [List.cons_append, List.nil_append] at N'
        w_strict (walk_at "my run")
        rename Fr _ _ _ _ => F8
        rename News _ _ _ _ => N8
        show wpAny _ _ (call (.ref 98) [.ref x]) _ _ _
        refine absQ ?_
        intro Qn hQn
        refine CtrL.use (pop_ctr w0 x dx fp pb hLP.xd hLP.xp hLP.dp ln tz rest n3 (Value.str (mk (letters ho)) uh) hrlen) F8 X0 (led := [(x, instObj 108 dx), (dx, dictOf (lexD w0 ln fp pb tz) 4), (pb, listOf ((Value.str (mk (letters ho)) uh) :: rest).toArray n3)]) (news := (J, oJ) :: (al, oal) :: (Lt, listOf vst.toArray ntt) :: (Lh, listOf vsh.toArray nhh) :: (Ll, listOf vl.toArray nl) :: (Lr, listOf vr.toArray nr) :: (Dm, listOf vsm.toArray nm) :: (Dc, listOf vsc.toArray nc) :: (L + 1, ocm) :: ((258 : Nat), tabObj tab) :: base2) (news_back (A := [(x, instObj 108 dx), (dx, dictOf (lexD w0 ln fp pb tz) 4), (pb, listOf ((Value.str (mk (letters ho)) uh) :: rest).toArray n3)]) N8) (Ap.split (A := [(x, instObj 108 dx), (dx, dictOf (lexD w0 ln fp pb tz) 4), (pb, listOf ((Value.str (mk (letters ho)) uh) :: rest).toArray n3)]) (B := [(J, oJ), (al, oal), (Lt, listOf vst.toArray ntt), (Lh, listOf vsh.toArray nhh), (Ll, listOf vl.toArray nl), (Lr, listOf vr.toArray nr), (Dm, listOf vsm.toArray nm), (Dc, listOf vsc.toArray nc), (L + 1, ocm), ((258 : Nat), tabObj tab)]) (Ap.back (A := [(x, instObj 108 dx), (dx, dictOf (lexD w0 ln fp pb tz) 4), (pb, listOf ((Value.str (mk (letters ho)) uh) :: rest).toArray n3)]) hapJ)) T0 trivial (by decide) (by decide) ?_
        rintro v2 h2 tk2 led2 - F9 N9 - ⟨rfl, n4, rfl⟩
        dsimp only [List.cons_append, List.nil_append] at N9
        clear N8 F8
        refine hQn _ _ ?_
        w_strict (walk_at "my run")
        rename Fr _ _ _ _ => F10
        rename News _ _ _ _ => N10
        show wpAny _ _ (call (.ref 105) [.ref x, Value.str (mk (letters ho)) uh]) _ _ _
        refine absQ ?_
        intro Qn hQn
        refine CtrL.use (push_ctr w0 x dx fp pb hLP.xd hLP.xp hLP.dp ln tz rest n4 (Value.str (mk (letters ho)) uh) hrlen) F10 X0 (led := [(x, instObj 108 dx), (dx, dictOf (lexD w0 ln fp pb tz) 4), (pb, listOf rest.toArray n4)]) (news := (J, oJ) :: (al, oal) :: (Lt, listOf vst.toArray ntt) :: (Lh, listOf vsh.toArray nhh) :: (Ll, listOf vl.toArray nl) :: (Lr, listOf vr.toArray nr) :: (Dm, listOf vsm.toArray nm) :: (Dc, listOf vsc.toArray nc) :: (L + 1, ocm) :: ((258 : Nat), tabObj tab) :: base2) N10 (Ap.split (A := [(x, instObj 108 dx), (dx, dictOf (lexD w0 ln fp pb tz) 4), (pb, listOf rest.toArray n4)]) (B := [(J, oJ), (al, oal), (Lt, listOf vst.toArray ntt), (Lh, listOf vsh.toArray nhh), (Ll, listOf vl.toArray nl), (Lr, listOf vr.toArray nr), (Dm, listOf vsm.toArray nm), (Dc, listOf vsc.toArray nc), (L + 1, ocm), ((258 : Nat), tabObj tab)]) (Ap.back (A := [(x, instObj 108 dx), (dx, dictOf (lexD w0 ln fp pb tz) 4), (pb, listOf rest.toArray n4)]) (hapJ.same rfl))) T0 trivial (by decide) (by decide) ?_
        rintro v3 h3 tk3 led3 - F11 N11 - ⟨n5, rfl⟩
        replace N11 := news_front (A := [(x, instObj 108 dx), (dx, dictOf (lexD w0 ln fp pb tz) 4), (pb, listOf (rest ++ [Value.str (mk (letters ho)) uh]).toArray n5)]) N11
        dsimp only [List.cons_append, List.nil_append] at N11
        clear N10 F10
        refine hQn _ _ ?_
        w_strict (walk_at "my run")
        rename Fr _ _ _ _ => F12
        rename News _ _ _ _ => N12
        show wpAny _ _ (call (.ref 285) [.str (mk (letters ho)) uh, .str (mk (letters t)) u]) _ _ _
        refine absQ ?_
        intro Qn hQn
        refine CtrL.use (left_ctr w0 ho t uh u ho64 t64) F12 X0 (led := []) N12 (fun _ _ z => nomatch z) T0 trivial (by decide) (by decide) ?_
        rintro v4 h4 tk4 led4 hled4 F13 N13 - ⟨u4, rfl⟩
        obtain rfl : led4 = [] := List.map_eq_nil_iff.mp hled4
        rw [letters_left]
        rw [List.nil_append] at N13
        clear N12 F12
        refine hQn _ _ ?_
        w_strict (walk_at "my run")
        rename Fr _ _ _ _ => F14
        rename News _ _ _ _ => N14
        show wpAny _ _ (call (.ref 280) [.ref Ll, .str (mk (letters (ho &&& (63 ^^^ t)))) u4]) _ _ _
        have hap14 : Ap ((J, oJ) :: [(x, instObj 108 dx), (dx, dictOf (lexD w0 ln fp pb tz) 4), (pb, listOf (rest ++ [Value.str (mk (letters ho)) uh]).toArray n5), (al, oal), (Lt, listOf vst.toArray ntt), (Lh, listOf vsh.toArray nhh), (Ll, listOf vl.toArray nl), (Lr, listOf vr.toArray nr), (Dm, listOf vsm.toArray nm), (Dc, listOf vsc.toArray nc), (L + 1, ocm), ((258 : Nat), tabObj tab)]) base2 := hapJ.same rfl
        refine absQ ?_
        intro Qn hQn
        refine CtrM.use (layIn_ctr w0 Ll vl nl (rowW (pairsL (T.take i) H ++ (H.take j).map fun h => h &&& (63 ^^^ t))) (letters (ho &&& (63 ^^^ t))) _ hrl (rowW_sorted _) (rowL_len i j _ hTl hHl) (rowW_ok _) (letters_ok _)) F14 X0 (news_front (A := (J, oJ) :: [(x, instObj 108 dx), (dx, dictOf (lexD w0 ln fp pb tz) 4), (pb, listOf (rest ++ [Value.str (mk (letters ho)) uh]).toArray n5), (al, oal), (Lt, listOf vst.toArray ntt), (Lh, listOf vsh.toArray nhh)]) N14) (Ap.front (A := (J, oJ) :: [(x, instObj 108 dx), (dx, dictOf (lexD w0 ln fp pb tz) 4), (pb, listOf (rest ++ [Value.str (mk (letters ho)) uh]).toArray n5), (al, oal), (Lt, listOf vst.toArray ntt), (Lh, listOf vsh.toArray nhh)]) (B := [(Lr, listOf vr.toArray nr), (Dm, listOf vsm.toArray nm), (Dc, listOf vsc.toArray nc), (L + 1, ocm), ((258 : Nat), tabObj tab)]) hap14) (topRead_of T0) (by decide) (by decide) ?_
        rintro v5 h5 tk5 o5 F15 N15 - ⟨vl', nl', hrl', rfl⟩
        clear N14 F14
        have N16 := news_back (A := (J, oJ) :: [(x, instObj 108 dx), (dx, dictOf (lexD w0 ln fp pb tz) 4), (pb, listOf (rest ++ [Value.str (mk (letters ho)) uh]).toArray n5), (al, oal), (Lt, listOf vst.toArray ntt), (Lh, listOf vsh.toArray nhh)]) N15
        clear N15
        dsimp only [List.cons_append, List.nil_append] at N16
        refine hQn _ _ ?_
        w_strict (walk_at "my run")
        refine comp_openA (cl := []) (by with_unfolding_all rfl) ?_
        w_strict (walk_at "my run")
        rename Fr _ _ _ _ => F17
        rename News _ _ _ _ => N17
        show wpAny _ _ (call (.ref 290) [.str (mk (letters ho)) _]) _ _ _
        refine absQ ?_
        intro Qn hQn
        refine Ctr.use (lights_ctr w0 ho _) (fun _ _ _ r => r.1) F17 X0 N17 (topRead_of T0) (by decide) (by decide) trivial ?_
        rintro v9 h9 tk9 F18 N18 - ⟨-, D0, D1, D2, ys1, ys2, rfl, -, -, -, hp0, hp1, hp2, hi1, hi2⟩
        clear N17 F17
        have hi12 := And.intro hi1 hi2
        clear hi1 hi2
        refine hQn _ _ ?_
        w_strict (walk_at "my run")
        have gDS := (N18 (DS, listOf [Value.ref S1, .ref S2].toArray kD) (by walk_at "my mem")).1
        have gS1 := (N18 (S1, listOf z1.toArray k1) (by walk_at "my mem")).1
        have gS2 := (N18 (S2, listOf z2.toArray k2) (by walk_at "my mem")).1
        refine compA_zipLL rfl hp0.isList ⟨_, gDS, rfl, _, rfl⟩ (n := 2) rfl rfl (by decide) (fun i ys h => Paired (LightF h9 h) ys ([List.zipWith max [bitI ho 97, bitI ho 98, bitI ho 99] [1 - bitI t 97, 1 - bitI t 98, 1 - bitI t 99], List.zipWith max [bitI ho 100, bitI ho 101, bitI ho 102] [1 - bitI t 100, 1 - bitI t 101, 1 - bitI t 102]].take i)) (fun _ _ _ _ k j => lightF_up k j) .nil (fun _ _ _ _ k j => lightF_upL F18.ns k j) F18.ns ?_ ?_
        · rintro C as j2 s3 ys m3 E' hj2 ⟨va, vb, hva, hvb, hma, hmb⟩ hb hb' hn hjj hlive
          have X3 := X0.keeps (fun b o e => hb _ _ (F18.keep b o e))
          have T3 := (topRead_of T0).keeps (fun b o e => hb _ _ (F18.keep b o e))
          obtain ⟨m1, e1⟩ := hp1
          obtain ⟨m2, e2⟩ := hp2
          replace e1 := hb _ _ e1
          replace e2 := hb _ _ e2
          replace gS1 := hb _ _ gS1
          replace gS2 := hb _ _ gS2
          rcases two_get hva with ⟨rfl, rfl⟩ | ⟨rfl, rfl⟩
          · obtain rfl : vb = .ref S1 := by simpa using hvb.symm
            w_strict (walk_at "my run")
            refine comp_openT (cl := []) (by with_unfolding_all rfl) ?_
            w_strict (walk_at "my run")
            refine compT_zipLL rfl ⟨_, e1, rfl, _, rfl⟩ ⟨_, gS1, rfl, _, rfl⟩ (n := 3) (by simpa using hi12.1.length) (by simpa using hz12.1.length) (by decide) (fun i ys h => IntsAre ys ((List.zipWith max [bitI ho 97, bitI ho 98, bitI ho 99] [1 - bitI t 97, 1 - bitI t 98, 1 - bitI t 99]).take i)) (fun _ _ _ _ _ j => j) .nil ?_ ?_
            · rintro C2 as2 q s4 ys4 m4 E2 hq ⟨a, b, ha, hb4, hm1, hm2⟩ hbs hbs' hn2 hj4 hlive2
              rw [List.getElem?_toArray] at ha hb4
              obtain ⟨a, a', rfl, ha2⟩ := ints_get hi12.1 ha
              obtain ⟨b, b', rfl, hb2⟩ := ints_get hz12.1 hb4
              have X4 := X3.keeps hbs
              have T4 := T3.keeps hbs
              w_strict (walk_at "my run")
              exact max_step rfl hj4 ha2 hb2
            · intro DX h6 tk6 zs6 hDX hpx hstx hj6
              exact ⟨_, _, rfl, hstx, lights_snoc hjj rfl hb hlive hstx hDX hpx hj6⟩
          · obtain rfl : vb = .ref S2 := by simpa using hvb.symm
            w_strict (walk_at "my run")
            refine comp_openT (cl := []) (by with_unfolding_all rfl) ?_
            w_strict (walk_at "my run")
            refine compT_zipLL rfl ⟨_, e2, rfl, _, rfl⟩ ⟨_, gS2, rfl, _, rfl⟩ (n := 3) (by simpa using hi12.2.length) (by simpa using hz12.2.length) (by decide) (fun i ys h => IntsAre ys ((List.zipWith max [bitI ho 100, bitI ho 101, bitI ho 102] [1 - bitI t 100, 1 - bitI t 101, 1 - bitI t 102]).take i)) (fun _ _ _ _ _ j => j) .nil ?_ ?_
            · rintro C2 as2 q s4 ys4 m4 E2 hq ⟨a, b, ha, hb4, hm1, hm2⟩ hbs hbs' hn2 hj4 hlive2
              rw [List.getElem?_toArray] at ha hb4
              obtain ⟨a, a', rfl, ha2⟩ := ints_get hi12.2 ha
              obtain ⟨b, b', rfl, hb2⟩ := ints_get hz12.2 hb4
              have X4 := X3.keeps hbs
              have T4 := T3.keeps hbs
              w_strict (walk_at "my run")
              exact max_step rfl hj4 ha2 hb2
            · intro DX h6 tk6 zs6 hDX hpx hstx hj6
              exact ⟨_, _, rfl, hstx, lights_snoc hjj rfl hb hlive hstx hDX hpx hj6⟩
        intro DG h20 tk20 yss2 hDG hplG hns20 hst20 hjj2
        obtain ⟨G1, G2, y1, y2, rfl, hG1, hG2, ⟨n1, g1'⟩, ⟨n2, g2'⟩, hy1, hy2⟩ := lights_two (lightF_up hide_up hjj2)
        obtain ⟨nG, gG⟩ := hplG
        clear hjj2 hi12 hp0 hp1 hp2
        have hy12 := And.intro hy1 hy2
        clear hy1 hy2
        have F20 := Fr.named F18 hns20 hst20
        have N20 := News.named N18 hst20
        have f1 := fresh_is F18 hG1 g1'
        have f2 := fresh_is F18 hG2 g2'
        have f3 := fresh_is F18 hDG gG
        have N21 := news_cons (z := (DG, listOf [Value.ref G1, .ref G2].toArray nG)) f3 (news_cons (z := (G1, listOf y1.toArray n1)) f1 (news_cons (z := (G2, listOf y2.toArray n2)) f2 N20))
        clear F18 N18 N20 f1 f2 f3 hst20 hDG hG1 hG2 hns20
        w_strict (walk_at "my run")
        refine comp_openT (cl := []) (by with_unfolding_all rfl) ?_
        w_strict (walk_at "my run")
        rename Fr _ _ _ _ => F22
        rename News _ _ _ _ => N22
        replace gG := (N22 (DG, listOf [Value.ref G1, .ref G2].toArray nG) (by walk_at "my mem")).1
        replace g1' := (N22 (G1, listOf y1.toArray n1) (by walk_at "my mem")).1
        replace g2' := (N22 (G2, listOf y2.toArray n2) (by walk_at "my mem")).1
        obtain ⟨hy1, hy2⟩ := hy12
        obtain ⟨pa, pb', pc, rfl⟩ := ints_three (show IntsAre y1 [max (bitI ho 97) (1 - bitI t 97), max (bitI ho 98) (1 - bitI t 98), max (bitI ho 99) (1 - bitI t 99)] from hy1)
        obtain ⟨pd, pe, pf, rfl⟩ := ints_three (show IntsAre y2 [max (bitI ho 100) (1 - bitI t 100), max (bitI ho 101) (1 - bitI t 101), max (bitI ho 102) (1 - bitI t 102)] from hy2)
        clear hy1 hy2
        refine compT_list rfl ⟨_, gG, rfl, _, rfl⟩ (by rw [sizeLine_eq]; exact (by decide : 2 ≤ 16777216)) (fun i ys h => Paired (LightF h20 h) ys ([[restI ho t 97, restI ho t 98, restI ho t 99], [restI ho t 100, restI ho t 101, restI ho t 102]].take i)) (fun _ _ _ _ k j => lightF_up k j) .nil ?_ ?_
        · rintro C as j2 s3 ys m3 E' hj2 ⟨v, hv, hm⟩ hb hb' hn hjj hlive
          have X3 := X0.keeps (fun b o e => hb _ _ (F22.keep b o e))
          have T3 := (topRead_of T0).keeps (fun b o e => hb _ _ (F22.keep b o e))
          have e1 := hb _ _ g1'
          have e2 := hb _ _ g2'
          rcases two_get hv with ⟨rfl, rfl⟩ | ⟨rfl, rfl⟩
          · w_strict (walk_at "my run")
            show wpAny _ _ (call (.ref 295) [.ref G1]) _ _ _
            refine absQ ?_
            intro Qn hQn
            refine neg_ctr _ G1 _ _ _ _ _ _ (restI_mem _ _ _) (restI_mem _ _ _) (restI_mem _ _ _) _ _ _ _ _ _ _ _ _ _ _ X3 T3 (by decide) (by decide) ⟨_, e1, rfl, _, rfl⟩ fun v h' tk' r => ?_
            obtain ⟨hst, D, zs, rfl, hD, hp, hi⟩ := r
            exact hQn _ _ ⟨_, _, rfl, hst, lights_snoc hjj rfl hb hlive hst hD hp hi⟩
          · w_strict (walk_at "my run")
            show wpAny _ _ (call (.ref 295) [.ref G2]) _ _ _
            refine absQ ?_
            intro Qn hQn
            refine neg_ctr _ G2 _ _ _ _ _ _ (restI_mem _ _ _) (restI_mem _ _ _) (restI_mem _ _ _) _ _ _ _ _ _ _ _ _ _ _ X3 T3 (by decide) (by decide) ⟨_, e2, rfl, _, rfl⟩ fun v h' tk' r => ?_
            obtain ⟨hst, D, zs, rfl, hD, hp, hi⟩ := r
            exact hQn _ _ ⟨_, _, rfl, hst, lights_snoc hjj rfl hb hlive hst hD hp hi⟩
        intro DN h23 tk23 yss3 hDN hplN hst23 hjj3
        obtain ⟨M1, M2, x1, x2, rfl, -, -, hpM1, hpM2, hx1, hx2⟩ := lights_two (lightF_up hide_up hjj3)
        have F23 := F22.keeps hst23
        have N23 := N22.grown hst23
        replace N23 : News _ _ _ ((J, oJ) :: [(x, instObj 108 dx), (dx, dictOf (lexD w0 ln fp pb tz) 4), (pb, listOf (rest ++ [Value.str (mk (letters ho)) uh]).toArray n5), (al, oal), (Lt, listOf vst.toArray ntt), (Lh, listOf vsh.toArray nhh), (Ll, listOf vl'.toArray nl'), (Lr, listOf vr.toArray nr), (Dm, listOf vsm.toArray nm), (Dc, listOf vsc.toArray nc), (L + 1, ocm), ((258 : Nat), tabObj tab)] ++ base2) := fun q hq => N23 q (.tail _ (.tail _ (.tail _ hq)))
        have hx12 := And.intro hx1 hx2
        clear F22 N22 gG g1' g2' hjj3 hst23 hx1 hx2
        w_strict (walk_at "my run")
        rename Fr _ _ _ _ => F24
        rename News _ _ _ _ => N24
        show wpAny _ _ (call (.ref 300) [.ref DN]) _ _ _
        refine absQ ?_
        intro Qn hQn
        refine Ctr.use (shown_ctr w0 DN M1 M2 x1 x2 _ _ _ _ _ _ hx12.1 hx12.2) (fun _ _ _ r => r.1) F24 X0 N24 (topRead_of T0) (by decide) (by decide) ⟨hplN.isList, hpM1.isList, hpM2.isList⟩ ?_
        rintro v24 h24 tk24 F25 N25 - ⟨-, u24, rfl⟩
        rw [show shownL [restI ho t 97, restI ho t 98, restI ho t 99, restI ho t 100, restI ho t 101, restI ho t 102] = letters (t &&& (63 ^^^ ho)) from shown_rest ho t]
        clear F24 N24 hplN hpM1 hpM2 hx12
        dsimp only [List.cons_append, List.nil_append] at N25
        refine hQn _ _ ?_
        w_strict (walk_at "my run")
        rename Fr _ _ _ _ => F26
        rename News _ _ _ _ => N26
        show wpAny _ _ (call (.ref 280) [.ref Lr, .str (mk (letters (t &&& (63 ^^^ ho)))) u24]) _ _ _
        have hap26 : Ap ((J, oJ) :: [(x, instObj 108 dx), (dx, dictOf (lexD w0 ln fp pb tz) 4), (pb, listOf (rest ++ [Value.str (mk (letters ho)) uh]).toArray n5), (al, oal), (Lt, listOf vst.toArray ntt), (Lh, listOf vsh.toArray nhh), (Ll, listOf vl'.toArray nl'), (Lr, listOf vr.toArray nr), (Dm, listOf vsm.toArray nm), (Dc, listOf vsc.toArray nc), (L + 1, ocm), ((258 : Nat), tabObj tab)]) base2 := hapJ.same rfl
        refine absQ ?_
        intro Qn hQn
        refine CtrM.use (layIn_ctr w0 Lr vr nr (rowW (pairsR (T.take i) H ++ (H.take j).map fun h => t &&& (63 ^^^ h))) (letters (t &&& (63 ^^^ ho))) _ hrr (rowW_sorted _) (rowR_len i j _ hTl hHl) (rowW_ok _) (letters_ok _)) F26 X0 (news_front (A := (J, oJ) :: [(x, instObj 108 dx), (dx, dictOf (lexD w0 ln fp pb tz) 4), (pb, listOf (rest ++ [Value.str (mk (letters ho)) uh]).toArray n5), (al, oal), (Lt, listOf vst.toArray ntt), (Lh, listOf vsh.toArray nhh), (Ll, listOf vl'.toArray nl')]) N26) (Ap.front (A := (J, oJ) :: [(x, instObj 108 dx), (dx, dictOf (lexD w0 ln fp pb tz) 4), (pb, listOf (rest ++ [Value.str (mk (letters ho)) uh]).toArray n5), (al, oal), (Lt, listOf vst.toArray ntt), (Lh, listOf vsh.toArray nhh), (Ll, listOf vl'.toArray nl')]) (B := [(Dm, listOf vsm.toArray nm), (Dc, listOf vsc.toArray nc), (L + 1, ocm), ((258 : Nat), tabObj tab)]) hap26) (topRead_of T0) (by decide) (by decide) ?_
        rintro v27 h27 tk27 o27 F27 N27 - ⟨vr', nr', hrr', rfl⟩
        clear N26 F26
        have N28 := news_back (A := (J, oJ) :: [(x, instObj 108 dx), (dx, dictOf (lexD w0 ln fp pb tz) 4), (pb, listOf (rest ++ [Value.str (mk (letters ho)) uh]).toArray n5), (al, oal), (Lt, listOf vst.toArray ntt), (Lh, listOf vsh.toArray nhh), (Ll, listOf vl'.toArray nl')]) N27
        clear N27
        dsimp only [List.cons_append, List.nil_append] at N28
        refine hQn _ _ ?_
        w_strict (walk_at "my run")
        rename Fr _ _ _ _ => F29
        rename News _ _ _ _ => N29
        refine hq3 _ ⟨_, _, _, [(x, instObj 108 dx), (dx, dictOf (lexD w0 ln fp pb tz) 4), (pb, listOf (rest ++ [Value.str (mk (letters ho)) uh]).toArray n5), (al, oal), (Lt, listOf vst.toArray ntt), (Lh, listOf vsh.toArray nhh), (Ll, listOf vl'.toArray nl'), (Lr, listOf vr'.toArray nr'), (Dm, listOf vsm.toArray nm), (Dc, listOf vsc.toArray nc), (L + 1, ocm), ((258 : Nat), tabObj tab)] ++ base2, rfl, F29, N29, ?hne2, ⟨by walk_at "my get", by walk_at "my get", by walk_at "my get", by walk_at "my get", by walk_at "my get", by walk_at "my get", by walk_at "my get", by walk_at "my get", by walk_at "my get", n5, vl', nl', vr', nr', ?rowl, ?rowr, ?led⟩, fun b hb => nomatch hb⟩
        case hne2 => exact Ap.front (A := []) (hapJ.same (led' := (J, oJ) :: [(x, instObj 108 dx), (dx, dictOf (lexD w0 ln fp pb tz) 4), (pb, listOf (rest ++ [Value.str (mk (letters ho)) uh]).toArray n5), (al, oal), (Lt, listOf vst.toArray ntt), (Lh, listOf vsh.toArray nhh), (Ll, listOf vl'.toArray nl'), (Lr, listOf vr'.toArray nr'), (Dm, listOf vsm.toArray nm), (Dc, listOf vsc.toArray nc), (L + 1, ocm), ((258 : Nat), tabObj tab)]) rfl)
        case rowl => rw [row_step hho]; exact hrl'
        case rowr => rw [row_step hho]; exact hrr'
        case led => rw [hrot2]
    -- 15>
  -- end 15
  rintro _ ⟨n3, vl, nl, vr, nr, hrl, hrr, h16, tk16, d16, m16, F, N, hmc16, hmt16, hmm16, hmk16, hmh16, hml16, hmr16, hap⟩
  refine cutV (Cut16 w0 h₀ L s1 x dx fp pb al Dc Lt Lh Ll Lr Dm vsc vst vsh vsm vl vr text nc ntt nhh nm n3 nl nr tt tz tab ln ocm oal base) ?_ ?_
  · -- <16
    intro Q1 E1 hq
    have hml : vsm.length = 7 := by rw [hmask.length, List.length_map, hcl]
    w_strict (walk_at "my run")
    refine comp_openT (cl := [("masks", L + 1)]) (by with_unfolding_all rfl) ?_
    w_strict (walk_at "my run")
    have gm := (N (L + 1, ocm) (by walk_at "my mem")).1
    have gD := (N (Dm, listOf vsm.toArray nm) (by walk_at "my mem")).1
    refine wpAny_Subscript_list_slice (nmC (o := ocm) (by rfl) gm hcm ?_)
    w_strict (walk_at "my run")
    refine ⟨Dm, vsm.toArray, some ((3 : Nat) : Int), none, rfl, ⟨_, gD, rfl, _, rfl⟩, by rw [List.size_toArray, hml, sizeLine_eq]; decide, .int _ _, .none, ?_⟩
    rw [pick_drop vsm 3 (by omega)]
    have F4 := (F.push { cls := .type "slice", data := .fields #[.int 3 tk16, .none, .none] }).push { cls := .type "list", data := .seq (vsm.drop 3).toArray }
    have hst4 : h16.StaysIn ((h16.push { cls := .type "slice", data := .fields #[.int 3 tk16, .none, .none] }).push { cls := .type "list", data := .seq (vsm.drop 3).toArray }) := fun b o e => Heap.get?_push_of_some { cls := .type "list", data := .seq (vsm.drop 3).toArray } (Heap.get?_push_of_some { cls := .type "slice", data := .fields #[.int 3 tk16, .none, .none] } e)
    have N4 := N.grown hst4
    have hls := Heap.get?_push_size (h16.push { cls := .type "slice", data := .fields #[.int 3 tk16, .none, .none] }) (o := { cls := .type "list", data := .seq (vsm.drop 3).toArray }) rfl
    rw [Heap.size_push] at hls
    replace gm := hst4 _ _ gm
    replace gD := hst4 _ _ gD
    have hsub : Nats (vsm.drop 3) ((cs.drop 3).map (· % 64)) := by
      have := nats_drop 3 hmask
      rwa [← List.map_drop] at this
    have hsubT : Nats (vsm.take 3) ((cs.take 3).map (· % 64)) := by
      have := nats_take 3 hmask
      rwa [← List.map_take] at this
    have hHl4 : ((cs.drop 3).map (· % 64)).length = 4 := by simp [hcl]
    have hTl3 : ((cs.take 3).map (· % 64)).length = 3 := by simp [hcl]
    have hH64' : ∀ h ∈ (cs.drop 3).map (· % 64), h < 64 := fun h hh => by
      obtain ⟨c, _, rfl⟩ := List.mem_map.mp hh
      exact Nat.mod_lt _ (by decide)
    have hT64' : ∀ t ∈ (cs.take 3).map (· % 64), t < 64 := fun t hh => by
      obtain ⟨c, _, rfl⟩ := List.mem_map.mp hh
      exact Nat.mod_lt _ (by decide)
    generalize hMh : (cs.drop 3).map (· % 64) = Mh at hsub hHl4 hH64'
    generalize hMt : (cs.take 3).map (· % 64) = Mt at hsubT hTl3 hT64'
    clear F N hst4
    have hs1 : (vsm.drop 3).toArray.size = Mh.length := by rw [List.size_toArray, hsub.length]
    have hs2 : (vsm.take 3).toArray.size = Mt.length := by rw [List.size_toArray, hsubT.length]
    refine comp2_list (items2 := (vsm.take 3).toArray) rfl ⟨_, hls, rfl, _, rfl⟩ (fun i j ys => Txts ys (grid (fun h t => letters (h &&& (63 ^^^ t))) Mh Mt i j)) (by rw [grid_zero]; exact .nil) (fun i ys hi hj => ?_) (fun i j ys hi hj hy => ?_) ?src ?turn ?fin
    · rw [hs2] at hj
      rwa [grid_next (by rw [← hs1]; exact hi)] at hj
    · rw [hy.length, sizeLine_eq]
      rw [hs1] at hi
      rw [hs2] at hj
      exact Nat.le_trans (grid_len _ _ _ _ _ hi hj) (by rw [hHl4, hTl3]; decide)
    case src =>
      intro C i s m v E' hv hm hb hn
      refine wpAny_Subscript_list_slice (nmC (o := ocm) (by rfl) (hb _ _ gm) hcm ?_)
      w_strict (walk_at "my run")
      refine ⟨Dm, vsm.toArray, none, some ((3 : Nat) : Int), rfl, ⟨_, hb _ _ gD, rfl, _, rfl⟩, by rw [List.size_toArray, hml, sizeLine_eq]; decide, .none, .int _ _, ?_⟩
      rw [pick_take vsm 3 (by omega)]
      have hz := Heap.get?_push_size (s.heap.push { cls := .type "slice", data := .fields #[.none, .int 3 s.toks, .none] }) (o := { cls := .type "list", data := .seq (vsm.take 3).toArray }) rfl
      rw [Heap.size_push] at hz
      exact ⟨_, _, _, rfl, rfl, fun b o e => Heap.get?_push_of_some _ (Heap.get?_push_of_some _ e), Heap.get?_none_of_le (Nat.le_succ _), ⟨_, hz, rfl, _, rfl⟩⟩
    case turn =>
      intro C i j s ys m v u E' hv hu hmv hmu hb hn hjj
      rw [List.getElem?_toArray] at hv hu
      obtain ⟨a, ha, ta, rfl⟩ := Paired.getL hsub hv
      obtain ⟨b, hb2, tb, rfl⟩ := Paired.getL hsubT hu
      have X3 := X0.keeps (fun b o e => hb _ _ (F4.keep b o e))
      have T3 := (topRead_of T0).keeps (fun b o e => hb _ _ (F4.keep b o e))
      w_strict (walk_at "my run")
      have a64 := hH64' a (List.mem_of_getElem? ha)
      have b64 := hT64' b (List.mem_of_getElem? hb2)
      rw [bit_rest a a64 b b64]
      show wpAny _ _ (call (.ref 268) [.int ((a &&& (63 ^^^ b) : Nat) : Int) _]) _ _ _
      refine absQ ?_
      intro Qn hQn
      refine word_ctr _ ((a &&& (63 ^^^ b) : Nat) : Int) _ (Int.natCast_nonneg _) _ _ _ _ _ _ _ _ _ _ _ X3 T3 (by decide) (by decide) trivial fun v h' tk' r => ?_
      obtain ⟨hst, u, rfl⟩ := r
      refine hQn _ _ ⟨_, _, rfl, hst, ?_⟩
      rw [grid_step ha hb2, Int.toNat_natCast]
      exact txts_append hjj (.cons ⟨_, rfl⟩ .nil)
    case fin =>
      intro D h2 tk2 ys hD hpl hst hj
      rw [hs1, grid_full] at hj
      have hgl := flat_len (fun h t => letters (h &&& (63 ^^^ t))) Mt Mh
      rw [hHl4, hTl3] at hgl
      have F5 := F4.keeps hst
      have N5 := N4.grown hst
      clear F4 N4 hls gm gD hst
      w_strict (walk_at "my run")
      show wpAny _ _ (call (.type "set") [.ref D]) _ _ _
      refine call_set_txt rfl hpl.isList hj (by rw [hgl]; decide) fun h3 tk3 oS hoS hS k3 => ?_
      have F6 := F5.keeps k3
      have N6 := N5.grown k3
      clear F5 N5
      w_strict (walk_at "my run")
      show wpAny _ _ (call (.builtin "sorted") [.ref _]) _ _ _
      refine sorted_set_txt rfl F6 N6 hoS hS (by intro e; have := congrArg List.length e; rw [hgl] at this; cases this) (by rw [hgl]; decide) fun D2 h4 tk4 d4 zs us c4 F7 N7 _ hus hsu hmem => ?_
      have hus2 : us = rowW (pairsL T H) := sorted_same hsu (rowW_sorted _) fun z => by
        rw [hmem]
        exact row_grid (fun h t => h &&& (63 ^^^ t)) (fun m => by rw [← hMt]; exact same_masks hT64 hTm m) (fun m => by rw [← hMh]; exact same_masks hH64 (by rw [List.take_of_length_le (by rw [List.length_drop]; omega)] at hHm; exact hHm) m) z
      subst hus2
      clear F6 N6
      w_strict (walk_at "my run")
      rename Fr _ _ _ _ => F8
      rename News _ _ _ _ => N8
      show wpAny _ _ (compareOp .NotEq (.ref Ll) (.ref D2)) _ _ _
      refine ne_txts (ns := rowW (pairsL T H)) (ms := rowW (pairsL T H)) ⟨_, (N8 (Ll, listOf vl.toArray nl) (by walk_at "my mem")).1, rfl, _, rfl⟩ ⟨_, (N8 (D2, listOf zs.toArray c4) (by walk_at "my mem")).1, rfl, _, rfl⟩ hrl hus (rowW_ok _) (rowW_ok _) (show (7 : Nat) + 64 < cLine by decide) ?_
      rw [show (!decide (rowW (pairsL T H) = rowW (pairsL T H))) = false by simp]
      w_strict (walk_at "my run")
      rename Fr _ _ _ _ => F9
      rename News _ _ _ _ => N9
      exact hq _ ⟨_, _, _, _, F9, fun q hq => N9 q (.tail _ hq), by walk_at "my get", by walk_at "my get", by walk_at "my get", by walk_at "my get", by walk_at "my get", by walk_at "my get", by walk_at "my get", hap.same rfl⟩
    -- 16>
  -- end 16
  rintro _ ⟨h16, tk16, d16, m16, F, N, hmc16, hmt16, hmm16, hmk16, hmh16, hml16, hmr16, hap⟩
  refine cutV (Cut16 w0 h₀ L s1 x dx fp pb al Dc Lt Lh Ll Lr Dm vsc vst vsh vsm vl vr text nc ntt nhh nm n3 nl nr tt tz tab ln ocm oal base) ?_ ?_
  · -- <17
    intro Q1 E1 hq
    have hml : vsm.length = 7 := by rw [hmask.length, List.length_map, hcl]
    w_strict (walk_at "my run")
    refine comp_openT (cl := [("masks", L + 1)]) (by with_unfolding_all rfl) ?_
    w_strict (walk_at "my run")
    have gm := (N (L + 1, ocm) (by walk_at "my mem")).1
    have gD := (N (Dm, listOf vsm.toArray nm) (by walk_at "my mem")).1
    refine wpAny_Subscript_list_slice (nmC (o := ocm) (by rfl) gm hcm ?_)
    w_strict (walk_at "my run")
    refine ⟨Dm, vsm.toArray, some ((3 : Nat) : Int), none, rfl, ⟨_, gD, rfl, _, rfl⟩, by rw [List.size_toArray, hml, sizeLine_eq]; decide, .int _ _, .none, ?_⟩
    rw [pick_drop vsm 3 (by omega)]
    have F4 := (F.push { cls := .type "slice", data := .fields #[.int 3 tk16, .none, .none] }).push { cls := .type "list", data := .seq (vsm.drop 3).toArray }
    have hst4 : h16.StaysIn ((h16.push { cls := .type "slice", data := .fields #[.int 3 tk16, .none, .none] }).push { cls := .type "list", data := .seq (vsm.drop 3).toArray }) := fun b o e => Heap.get?_push_of_some { cls := .type "list", data := .seq (vsm.drop 3).toArray } (Heap.get?_push_of_some { cls := .type "slice", data := .fields #[.int 3 tk16, .none, .none] } e)
    have N4 := N.grown hst4
    have hls := Heap.get?_push_size (h16.push { cls := .type "slice", data := .fields #[.int 3 tk16, .none, .none] }) (o := { cls := .type "list", data := .seq (vsm.drop 3).toArray }) rfl
    rw [Heap.size_push] at hls
    replace gm := hst4 _ _ gm
    replace gD := hst4 _ _ gD
    have hsub : Nats (vsm.drop 3) ((cs.drop 3).map (· % 64)) := by
      have := nats_drop 3 hmask
      rwa [← List.map_drop] at this
    have hsubT : Nats (vsm.take 3) ((cs.take 3).map (· % 64)) := by
      have := nats_take 3 hmask
      rwa [← List.map_take] at this
    have hHl4 : ((cs.drop 3).map (· % 64)).length = 4 := by simp [hcl]
    have hTl3 : ((cs.take 3).map (· % 64)).length = 3 := by simp [hcl]
    have hH64' : ∀ h ∈ (cs.drop 3).map (· % 64), h < 64 := fun h hh => by
      obtain ⟨c, _, rfl⟩ := List.mem_map.mp hh
      exact Nat.mod_lt _ (by decide)
    have hT64' : ∀ t ∈ (cs.take 3).map (· % 64), t < 64 := fun t hh => by
      obtain ⟨c, _, rfl⟩ := List.mem_map.mp hh
      exact Nat.mod_lt _ (by decide)
    generalize hMh : (cs.drop 3).map (· % 64) = Mh at hsub hHl4 hH64'
    generalize hMt : (cs.take 3).map (· % 64) = Mt at hsubT hTl3 hT64'
    clear F N hst4
    have hs1 : (vsm.drop 3).toArray.size = Mh.length := by rw [List.size_toArray, hsub.length]
    have hs2 : (vsm.take 3).toArray.size = Mt.length := by rw [List.size_toArray, hsubT.length]
    refine comp2_list (items2 := (vsm.take 3).toArray) rfl ⟨_, hls, rfl, _, rfl⟩ (fun i j ys => Txts ys (grid (fun h t => letters (t &&& (63 ^^^ h))) Mh Mt i j)) (by rw [grid_zero]; exact .nil) (fun i ys hi hj => ?_) (fun i j ys hi hj hy => ?_) ?src ?turn ?fin
    · rw [hs2] at hj
      rwa [grid_next (by rw [← hs1]; exact hi)] at hj
    · rw [hy.length, sizeLine_eq]
      rw [hs1] at hi
      rw [hs2] at hj
      exact Nat.le_trans (grid_len _ _ _ _ _ hi hj) (by rw [hHl4, hTl3]; decide)
    case src =>
      intro C i s m v E' hv hm hb hn
      refine wpAny_Subscript_list_slice (nmC (o := ocm) (by rfl) (hb _ _ gm) hcm ?_)
      w_strict (walk_at "my run")
      refine ⟨Dm, vsm.toArray, none, some ((3 : Nat) : Int), rfl, ⟨_, hb _ _ gD, rfl, _, rfl⟩, by rw [List.size_toArray, hml, sizeLine_eq]; decide, .none, .int _ _, ?_⟩
      rw [pick_take vsm 3 (by omega)]
      have hz := Heap.get?_push_size (s.heap.push { cls := .type "slice", data := .fields #[.none, .int 3 s.toks, .none] }) (o := { cls := .type "list", data := .seq (vsm.take 3).toArray }) rfl
      rw [Heap.size_push] at hz
      exact ⟨_, _, _, rfl, rfl, fun b o e => Heap.get?_push_of_some _ (Heap.get?_push_of_some _ e), Heap.get?_none_of_le (Nat.le_succ _), ⟨_, hz, rfl, _, rfl⟩⟩
    case turn =>
      intro C i j s ys m v u E' hv hu hmv hmu hb hn hjj
      rw [List.getElem?_toArray] at hv hu
      obtain ⟨a, ha, ta, rfl⟩ := Paired.getL hsub hv
      obtain ⟨b, hb2, tb, rfl⟩ := Paired.getL hsubT hu
      have X3 := X0.keeps (fun b o e => hb _ _ (F4.keep b o e))
      have T3 := (topRead_of T0).keeps (fun b o e => hb _ _ (F4.keep b o e))
      w_strict (walk_at "my run")
      have a64 := hH64' a (List.mem_of_getElem? ha)
      have b64 := hT64' b (List.mem_of_getElem? hb2)
      rw [bit_rest b b64 a a64]
      show wpAny _ _ (call (.ref 268) [.int ((b &&& (63 ^^^ a) : Nat) : Int) _]) _ _ _
      refine absQ ?_
      intro Qn hQn
      refine word_ctr _ ((b &&& (63 ^^^ a) : Nat) : Int) _ (Int.natCast_nonneg _) _ _ _ _ _ _ _ _ _ _ _ X3 T3 (by decide) (by decide) trivial fun v h' tk' r => ?_
      obtain ⟨hst, u, rfl⟩ := r
      refine hQn _ _ ⟨_, _, rfl, hst, ?_⟩
      rw [grid_step ha hb2, Int.toNat_natCast]
      exact txts_append hjj (.cons ⟨_, rfl⟩ .nil)
    case fin =>
      intro D h2 tk2 ys hD hpl hst hj
      rw [hs1, grid_full] at hj
      have hgl := flat_len (fun h t => letters (t &&& (63 ^^^ h))) Mt Mh
      rw [hHl4, hTl3] at hgl
      have F5 := F4.keeps hst
      have N5 := N4.grown hst
      clear F4 N4 hls gm gD hst
      w_strict (walk_at "my run")
      show wpAny _ _ (call (.type "set") [.ref D]) _ _ _
      refine call_set_txt rfl hpl.isList hj (by rw [hgl]; decide) fun h3 tk3 oS hoS hS k3 => ?_
      have F6 := F5.keeps k3
      have N6 := N5.grown k3
      clear F5 N5
      w_strict (walk_at "my run")
      show wpAny _ _ (call (.builtin "sorted") [.ref _]) _ _ _
      refine sorted_set_txt rfl F6 N6 hoS hS (by intro e; have := congrArg List.length e; rw [hgl] at this; cases this) (by rw [hgl]; decide) fun D2 h4 tk4 d4 zs us c4 F7 N7 _ hus hsu hmem => ?_
      have hus2 : us = rowW (pairsR T H) := sorted_same hsu (rowW_sorted _) fun z => by
        rw [hmem]
        exact row_grid (fun h t => t &&& (63 ^^^ h)) (fun m => by rw [← hMt]; exact same_masks hT64 hTm m) (fun m => by rw [← hMh]; exact same_masks hH64 (by rw [List.take_of_length_le (by rw [List.length_drop]; omega)] at hHm; exact hHm) m) z
      subst hus2
      clear F6 N6
      w_strict (walk_at "my run")
      rename Fr _ _ _ _ => F8
      rename News _ _ _ _ => N8
      show wpAny _ _ (compareOp .NotEq (.ref Lr) (.ref D2)) _ _ _
      refine ne_txts (ns := rowW (pairsR T H)) (ms := rowW (pairsR T H)) ⟨_, (N8 (Lr, listOf vr.toArray nr) (by walk_at "my mem")).1, rfl, _, rfl⟩ ⟨_, (N8 (D2, listOf zs.toArray c4) (by walk_at "my mem")).1, rfl, _, rfl⟩ hrr hus (rowW_ok _) (rowW_ok _) (show (7 : Nat) + 64 < cLine by decide) ?_
      rw [show (!decide (rowW (pairsR T H) = rowW (pairsR T H))) = false by simp]
      w_strict (walk_at "my run")
      rename Fr _ _ _ _ => F9
      rename News _ _ _ _ => N9
      exact hq _ ⟨_, _, _, _, F9, fun q hq => N9 q (.tail _ hq), by walk_at "my get", by walk_at "my get", by walk_at "my get", by walk_at "my get", by walk_at "my get", by walk_at "my get", by walk_at "my get", hap.same rfl⟩
    -- 17>
  -- end 17
  rintro _ ⟨h18, tk18, d18, m18, F, N, hmc18, hmt18, hmm18, hmk18, hmh18, hml18, hmr18, hap⟩
  have hlL : vl.length = (rowW (pairsL T H)).length := hrl.length
  have hlR : vr.length = (rowW (pairsR T H)).length := hrr.length
  have hbL : (rowW (pairsL T H)).length ≤ 3 * 4 := Nat.le_trans (rowW_len _) (by rw [pairsL_len]; exact Nat.mul_le_mul hTl hHl)
  have hbR : (rowW (pairsR T H)).length ≤ 3 * 4 := Nat.le_trans (rowW_len _) (by rw [pairsR_len]; exact Nat.mul_le_mul hTl hHl)
  have hmany := rests_many hTn hHn hT64 hH64
  have gLl := (N (Ll, listOf vl.toArray nl) (by walk_at "my mem")).1
  have gLr := (N (Lr, listOf vr.toArray nr) (by walk_at "my mem")).1
  have gLh := (N (Lh, listOf vsh.toArray nhh) (by walk_at "my mem")).1
  have gLt := (N (Lt, listOf vst.toArray ntt) (by walk_at "my mem")).1
  have hmark : MarkStop := trivial
  w_strict (walk_at "my run")
  refine len_list (items := vl.toArray) ⟨_, gLl, rfl, _, rfl⟩ (by rw [List.size_toArray]; omega) ?_
  w_strict (walk_at "my run")
  refine len_list (items := vr.toArray) ⟨_, gLr, rfl, _, rfl⟩ (by rw [List.size_toArray]; omega) ?_
  w_strict (walk_at "my run")
  refine mul_int ?_ (IntMulOk.of_left (intBits_le_64 (by rw [List.size_toArray]; omega) (by rw [List.size_toArray]; omega)))
  w_strict (walk_at "my run")
  refine len_list (items := vsh.toArray) ⟨_, gLh, rfl, _, rfl⟩ (by rw [List.size_toArray]; omega) ?_
  w_strict (walk_at "my run")
  refine len_list (items := vst.toArray) ⟨_, gLt, rfl, _, rfl⟩ (by rw [List.size_toArray]; omega) ?_
  w_strict (walk_at "my run")
  refine mul_int ?_ (IntMulOk.of_left (intBits_le_64 (by rw [List.size_toArray]; omega) (by rw [List.size_toArray]; omega)))
  w_strict (walk_at "my run")
  refine ge_int ?_
  have hge : ((vsh.toArray.size : Int) * (vst.toArray.size : Int) ≤ (vl.toArray.size : Int) * (vr.toArray.size : Int)) := by
    rw [List.size_toArray, List.size_toArray, List.size_toArray, List.size_toArray, hlL, hlR, hvH, hvT]
    exact_mod_cast hmany
  rw [decide_eq_true hge]
  w_strict (walk_at "my run")
  exact hq0 _ ⟨_, _, _, _, tab, rfl, F, (N ((258 : Nat), tabObj tab) (by walk_at "my mem")).1⟩
  -- end 18

end
end Mine
theorem PySem.Challenge.cw_tl0041_01_holds : PySem.Challenge.rw_tl0041_01.Holds := by
  exact Mine.law_holds
