import PyProof.Rows.All
import Wide.All
import OpenK.AllK
import Wide.FinOn
import OpenK.XGo
import Lean
import PySem.Challenge.RW_il0159_01
set_option Elab.async false
noncomputable section
open PySem PySem.W PyProof.Rows
set_option maxRecDepth 100000
set_option maxHeartbeats 0
namespace Mine
/-! the whole top in one small check: its run over a tree of objects -/
noncomputable def runT (thr ok : Thread → Bool) (st : SharedT → Thread → Option (SharedT × Thread)) : Nat → SharedT → Thread → Option SharedT
  | 0, _, _ => none
  | n + 1, s, t => match thr t with
    | true => some s
    | false => match ok t with
      | false => none
      | true => match st s t with
        | some (s', t') => runT thr ok st n s' t'
        | none => none
noncomputable def toT : List Obj → Nat → BT → BT
  | [], _, t => t
  | o :: r, n, t => toT r (n + 1) (t.ins n o)
noncomputable def fromT (s : Shared) : SharedT := ⟨toT s.heap.objs.toList 0 .nil, s.heap.objs.size, s.heap.life, s.gens, s.drawn, s.toks, s.os⟩
theorem runT_of {tb : String → Option Builtin} {p : Program} {w : World} {n₀ : Nat} {ann : Option Value} : ∀ {n : Nat} {s s' : SharedT} {t : Thread}, runT through (stepOk n₀ ann) (stepT (denote tb) p w) n s t = some s' → topRun tb p w n₀ ann n s.abs t = some s'.abs
  | 0, _, _, _, h => by cases h
  | n + 1, s, s', t, h => by
    unfold runT at h
    unfold topRun
    cases h1 : through t with
    | true => rw [h1] at h; cases h; rfl
    | false =>
      rw [h1] at h
      dsimp only at h ⊢
      cases h2 : stepOk n₀ ann t with
      | false => rw [h2] at h; cases h
      | true =>
        rw [h2] at h
        dsimp only at h ⊢
        cases h3 : stepT (denote tb) p w s t with
        | none => rw [h3] at h; cases h
        | some r =>
          obtain ⟨s₂, t₂⟩ := r
          rw [h3] at h
          dsimp only at h
          rw [stepT_spec h3]
          exact runT_of h
theorem ins_here (o : Obj) : ∀ (t : BT) (n : Nat), (∀ i, i < n → (t.get i).isSome = true) → ((t.ins n o).get n).isSome = true
  | .nil, n, h => by
    rcases Nat.eq_zero_or_pos n with q | q
    · subst q; rfl
    · have := h 0 q; cases this
  | .node v l r, n, h => by
    rw [BT.ins_node]
    by_cases h0 : n = 0
    · subst h0; rfl
    rw [if_neg h0]
    by_cases h1 : n % 2 = 1
    · rw [if_pos h1, BT.get_node, if_neg h0, if_pos h1]
      refine ins_here o l (n / 2) fun i hi => ?_
      have := h (2 * i + 1) (by omega)
      rw [BT.get_node, if_neg (by omega), if_pos (by omega), show (2 * i + 1) / 2 = i by omega] at this
      exact this
    · rw [if_neg h1, BT.get_node, if_neg h0, if_neg h1]
      refine ins_here o r (n / 2 - 1) fun i hi => ?_
      have := h (2 * i + 2) (by omega)
      rw [BT.get_node, if_neg (by omega), if_neg (by omega), show (2 * i + 2) / 2 - 1 = i by omega] at this
      exact this
theorem toT_abs (life : Life) : ∀ (l : List Obj) (n : Nat) (t : BT), (∀ i, i < n → (t.get i).isSome = true) → (absHeap (toT l n t) (n + l.length) life).objs = (absHeap t n life).objs ++ l.toArray
  | [], n, t, _ => by simp [toT]
  | o :: r, n, t, h => by
    have g := ins_here o t n h
    have ih := toT_abs life r (n + 1) (t.ins n o) (fun i hi => by
      rw [BT.get_ins o t n g]
      by_cases e : i = n
      · rw [if_pos e]; rfl
      · rw [if_neg e]; exact h i (by omega))
    rw [absHeap_ins g] at ih
    show (absHeap (toT r (n + 1) (t.ins n o)) (n + (r.length + 1)) life).objs = _
    rw [show n + (r.length + 1) = n + 1 + r.length by omega, ih]
    show (absHeap t n life).objs.push o ++ r.toArray = _
    simp
theorem fromT_abs (s : Shared) : (fromT s).abs = s := by
  obtain ⟨⟨objs, life⟩, gens, drawn, toks, os⟩ := s
  have h := toT_abs life objs.toList 0 .nil (fun i hi => absurd hi (by omega))
  have e : (absHeap .nil 0 life).objs = #[] := rfl
  rw [e, Nat.zero_add, Array.length_toList] at h
  show Shared.mk (Heap.mk (absHeap (toT objs.toList 0 .nil) objs.size life).objs life) gens drawn toks os = _
  rw [h]
  simp
theorem leftT {p q : Program} {loose : List Str} {Xt : Shared → Bool} {α : Type} {Yf : Shared → α} {Ya : World → α} {N : Nat} {g0 : Bool}
    (h : ∀ w, ((fencedOpening treeTable p w N).bind fun s₀ => match s₀.heap.isNs mainGlobals && s₀.gens.size == 0 with
      | true => (runT through (stepOk s₀.heap.objs.size (s₀.heap.nsMap mainGlobals "__annotations__")) (stepT (denote treeTable) p w) N (fromT s₀) (topStub p)).bind fun s₂ => match staticsOk (importedModules p.main.body) s₀.heap s₂.abs.heap && namesBound p s₂.abs.heap && gensDone s₂.abs && laidKept s₀.heap s₂.abs.heap with
          | true => some s₂.abs
          | false => none
      | false => none).map (fun s => (openSeen q loose (importedModules p.main.body) Xt g0 s, Yf s)) = some (openGood q loose, Ya w)) : LeftO p q loose Xt Yf Ya N g0 := fun w => by
  obtain ⟨s, hs, hv⟩ := Option.map_eq_some_iff.mp (h w)
  obtain ⟨s₀, h0, h1⟩ := Option.bind_eq_some_iff.mp hs
  show ((fencedOpening treeTable p w N).bind (topFrom treeTable p w N)).map _ = _
  rw [h0]
  have key : topFrom treeTable p w N s₀ = some s := by
    unfold topFrom
    cases e : (s₀.heap.isNs mainGlobals && s₀.gens.size == 0) with
    | false => rw [e] at h1; cases h1
    | true =>
      rw [e] at h1
      dsimp only at h1 ⊢
      obtain ⟨s₂, h2, h3⟩ := Option.bind_eq_some_iff.mp h1
      have := runT_of h2
      rw [fromT_abs] at this
      rw [this]
      exact h3
  show (topFrom treeTable p w N s₀).map _ = _
  rw [key]
  exact congrArg some hv
def keepIx : List Nat := [0,1,2,3,4,5,7,10,11,12,13,14,15]
def q0 : Program := { PySem.Challenge.pw_il0159_01 with main := { PySem.Challenge.pw_il0159_01.main with body := keepIx.filterMap fun i => PySem.Challenge.pw_il0159_01.main.body[i]? } }
end Mine
local macro_rules | `(tactic| o_head $H) => `(tactic| (
  refine holds_open (q := Mine.q0) (loose := [PySem.Str.ofString "_tuplegetter", PySem.Str.ofString "Pair"]) (Xt := fun s => xlAt Mine.q0 [] s && recOk [] s) (XP := XL Mine.q0 []) (Yf := Hook.obs $H) (Ya := Hook.val $H) (YP := Hook.says $H) (N := 4454) ?hl (Hook.of $H) (Hook.keeps $H) (fun s e => xl_of s (Bool.and_eq_true_iff.mp e).1) XL.keeps (by rfl) (by rfl) (by rfl) (fun s e => recFacts_of (Bool.and_eq_true_iff.mp e).2) (by rfl) (by first | assumption | decide +kernel) (by decide +kernel) ⟨rfl, rfl, rfl, rfl, rfl, by decide +kernel⟩ ?hw ?hc;
  (case hl => refine Mine.leftT (fun w => ?_); unfold fencedOpening; rw [PySem.W.Fast.te14364793385576792824, PySem.W.Fast.te10274390034422433532, PySem.W.Fast.te1435165496053646825, PySem.W.Fast.te14289696077712309145, PySem.W.Fast.te10156331382660048174, PySem.W.Fast.te11892475500146522536, PySem.W.Fast.te4187177175401517315, PySem.W.Fast.te5923862056798008813]; simp only [PySem.W.Fast.te6613529449190102663, PySem.W.Fast.te8920871248978507458]; kernel_rfl!)))
namespace Mine
open_top hd for PySem.Challenge.rw_il0159_01
end Mine
end

local macro_rules | `(tactic| walk_at $s:str) => `(tactic| k_extra $s)
local macro_rules | `(tactic| x_close) => `(tactic| k_extra "x_close")

noncomputable section
/-! the plain law: no program in sight -/
namespace Mine

/-- a plain walk from the left -/
noncomputable def putL (w c : List Nat) (t : List Nat) : List Nat :=
  match t with
  | [] => []
  | a :: r => if _h : w = [] then a :: r else if (a :: r).take w.length = w then c ++ putL w c ((a :: r).drop w.length) else a :: putL w c r
termination_by t.length
decreasing_by
  · have : 0 < w.length := List.length_pos_iff.mpr (by assumption)
    simp only [List.length_drop, List.length_cons]; omega
  · simp

theorem putL_nil (w c : List Nat) : putL w c [] = [] := by rw [putL]
theorem putL_hit {w c t : List Nat} (hw : w ≠ []) (ht : t ≠ []) (h : t.take w.length = w) : putL w c t = c ++ putL w c (t.drop w.length) := by
  cases t with
  | nil => exact absurd rfl ht
  | cons a r => rw [putL, dif_neg hw, if_pos h]
theorem putL_miss {w c : List Nat} {a : Nat} {r : List Nat} (hw : w ≠ []) (h : (a :: r).take w.length ≠ w) : putL w c (a :: r) = a :: putL w c r := by
  rw [putL, dif_neg hw, if_neg h]

theorem putL_miss' {w c t : List Nat} (hw : w ≠ []) (ht : t ≠ []) (h : t.take w.length ≠ w) : putL w c t = t.take 1 ++ putL w c (t.drop 1) := by
  cases t with
  | nil => exact absurd rfl ht
  | cons a r => rw [putL_miss hw h]; rfl
end Mine
end

noncomputable section
namespace Mine
/-- rows so far, texts so far -/
abbrev PS := List (List Nat × List Nat) × List (List Nat)
def lastT (ts : List (List Nat)) : List Nat := ts.getLast?.getD []
def pickW (t : List Nat) (x : Int) : List Nat := (t.drop (x % ((t.length : Int) - 1)).toNat).take 2
def stepP (codes : List Nat) (st : PS) (x : Int) : PS :=
  if 1 < (lastT st.2).length then
    (st.1 ++ [(pickW (lastT st.2) x, [codes.getD (st.1.length - 1) 0])], st.2 ++ [putL (pickW (lastT st.2) x) [codes.getD (st.1.length - 1) 0] (lastT st.2)])
  else st
def startP (whole : List Nat) : PS := ([([46], [46, 46])], [whole, putL [46] [46, 46] whole, putL [46] [46, 46] (putL [46] [46, 46] whole)])
def planP (codes whole : List Nat) (ns : List Int) : PS := ns.foldl (stepP codes) (startP whole)

theorem putL_len_mul (w c : List Nat) (k : Nat) (hk : 1 ≤ k) (hc : c.length ≤ k * w.length) : ∀ n (t : List Nat), t.length ≤ n → (putL w c t).length ≤ k * t.length := by
  intro n
  induction n with
  | zero => intro t ht; have : t = [] := List.eq_nil_of_length_eq_zero (by omega); subst this; simp [putL_nil]
  | succ n ih =>
    intro t ht
    by_cases hw : w = []
    · cases t with
      | nil => simp [putL_nil]
      | cons a r => rw [putL, dif_pos hw]; exact Nat.le_mul_of_pos_left _ hk
    cases t with
    | nil => simp [putL_nil]
    | cons a r =>
      have hwp := List.length_pos_iff.mpr hw
      by_cases h : (a :: r).take w.length = w
      · rw [putL_hit hw (by simp) h, List.length_append]
        have hl : w.length ≤ (a :: r).length := by
          have := congrArg List.length h
          rw [List.length_take] at this; omega
        have := ih ((a :: r).drop w.length) (by rw [List.length_drop]; omega)
        rw [List.length_drop] at this
        calc c.length + _ ≤ k * w.length + k * ((a :: r).length - w.length) := Nat.add_le_add hc this
          _ = k * (a :: r).length := by rw [← Nat.mul_add]; congr 1; omega
      · rw [putL_miss hw h, List.length_cons, List.length_cons, Nat.mul_succ]
        have := ih r (by simp at ht; omega)
        omega
theorem putL_len {w c t : List Nat} (hc : c.length ≤ w.length) : (putL w c t).length ≤ t.length := by
  have := putL_len_mul w c 1 (Nat.le_refl 1) (by omega) _ t (Nat.le_refl _)
  omega
theorem putL_len2 {w c t : List Nat} (hc : c.length ≤ 2 * w.length) : (putL w c t).length ≤ 2 * t.length :=
  putL_len_mul w c 2 (by omega) hc _ t (Nat.le_refl _)

theorem pickW_len {t : List Nat} {x : Int} (h : 1 < t.length) : (pickW t x).length = 2 := by
  unfold pickW
  rw [List.length_take, List.length_drop]
  have h1 : 0 ≤ x % ((t.length : Int) - 1) := Int.emod_nonneg _ (by omega)
  have h2 : x % ((t.length : Int) - 1) < (t.length : Int) - 1 := Int.emod_lt_of_pos _ (by omega)
  omega

theorem lastT_snoc (ts : List (List Nat)) (t : List Nat) : lastT (ts ++ [t]) = t := by simp [lastT]

/-- what every stage of a plan keeps -/
structure Stage (n : Nat) (st : PS) : Prop where
  rows : 1 ≤ st.1.length
  rowsU : st.1.length ≤ n + 1
  texts : st.2.length = st.1.length + 2
  lens : ∀ t ∈ st.2, t.length ≤ 60
  keys : ∀ r ∈ st.1, r.1.length ≤ 2 ∧ 1 ≤ r.1.length ∧ r.2.length ≤ 2 ∧ 1 ≤ r.2.length
theorem lastT_mem {ts : List (List Nat)} (h : ts ≠ []) : lastT ts ∈ ts := by
  unfold lastT
  rw [List.getLast?_eq_some_getLast h]
  exact List.getLast_mem h
theorem Stage.ne {n : Nat} {st : PS} (S : Stage n st) : st.2 ≠ [] := by
  intro e; have := S.texts; rw [e] at this; simp at this
theorem Stage.last {n : Nat} {st : PS} (S : Stage n st) : (lastT st.2).length ≤ 60 := S.lens _ (lastT_mem S.ne)
theorem stage_start {whole : List Nat} (h : whole.length ≤ 15) : Stage 0 (startP whole) := by
  have h1 : (putL [46] [46, 46] whole).length ≤ 2 * whole.length := putL_len2 (by simp)
  have h2 : (putL [46] [46, 46] (putL [46] [46, 46] whole)).length ≤ 2 * (putL [46] [46, 46] whole).length := putL_len2 (by simp)
  refine ⟨by simp [startP], by simp [startP], by simp [startP], ?_, ?_⟩
  · intro t ht
    simp only [startP, List.mem_cons, List.not_mem_nil, or_false] at ht
    rcases ht with rfl | rfl | rfl <;> omega
  · intro r hr
    simp only [startP, List.mem_cons, List.not_mem_nil, or_false] at hr
    subst hr; simp
theorem Stage.step {n : Nat} {st : PS} (codes : List Nat) (x : Int) (S : Stage n st) : Stage (n + 1) (stepP codes st x) := by
  unfold stepP
  split
  · rename_i h
    refine ⟨by simp, ?_, ?_, ?_, ?_⟩
    · have := S.rowsU; simp; omega
    · have := S.texts; simp; omega
    · intro t ht
      rcases List.mem_append.mp ht with ht | ht
      · exact S.lens t ht
      · rw [List.mem_singleton.mp ht]
        have := putL_len (w := pickW (lastT st.2) x) (c := [codes.getD (st.1.length - 1) 0]) (t := lastT st.2) (by rw [pickW_len h]; simp)
        have := S.last
        omega
    · intro r hr
      rcases List.mem_append.mp hr with hr | hr
      · exact S.keys r hr
      · rw [List.mem_singleton.mp hr]
        simp only [pickW_len h]; simp
  · exact ⟨S.rows, by have := S.rowsU; omega, S.texts, S.lens, S.keys⟩
theorem stage_foldl (codes : List Nat) : ∀ (ns : List Int) {n : Nat} {st : PS}, Stage n st → Stage (n + ns.length) (ns.foldl (stepP codes) st)
  | [], _, _, S => S
  | x :: r, n, st, S => by
    have := stage_foldl codes r (S.step codes x)
    rw [List.foldl_cons, List.length_cons, show n + (r.length + 1) = n + 1 + r.length by omega]
    exact this
theorem planP_stage {codes whole : List Nat} (h : whole.length ≤ 15) (ns : List Int) : Stage ns.length (planP codes whole ns) := by
  have := stage_foldl codes ns (stage_start h)
  rwa [Nat.zero_add] at this
end Mine
end

noncomputable section
namespace Mine
def baseS : List Nat := [97, 46, 61, 92]
/-- two signs, neighbours in a text -/
def Occ (a b : Nat) (t : List Nat) : Prop := ∃ p q, t = p ++ a :: b :: q
theorem Occ.cons {a b x : Nat} {t : List Nat} (h : Occ a b t) : Occ a b (x :: t) := by
  obtain ⟨p, q, rfl⟩ := h; exact ⟨x :: p, q, rfl⟩
theorem Occ.app {a b : Nat} {s t : List Nat} (h : Occ a b t) : Occ a b (s ++ t) := by
  obtain ⟨p, q, rfl⟩ := h; exact ⟨s ++ p, q, by simp⟩
theorem Occ.inv {a b x : Nat} {t : List Nat} (h : Occ a b (x :: t)) : (x = a ∧ ∃ q, t = b :: q) ∨ Occ a b t := by
  obtain ⟨p, q, e⟩ := h
  cases p with
  | nil => rw [List.nil_append] at e; injection e with e1 e2; exact .inl ⟨e1, q, e2⟩
  | cons y p => rw [List.cons_append] at e; injection e with _ e2; exact .inr ⟨p, q, e2⟩
theorem Occ.nil {a b : Nat} (h : Occ a b []) : False := by
  obtain ⟨p, q, e⟩ := h; cases p <;> cases e
/-- induction along a walk -/
theorem put_ind {w c : List Nat} (hw : w ≠ []) (P : List Nat → List Nat → Prop) (h0 : P [] [])
    (h1 : ∀ t, t ≠ [] → t.take w.length = w → P (t.drop w.length) (putL w c (t.drop w.length)) → P t (c ++ putL w c (t.drop w.length)))
    (h2 : ∀ a r, (a :: r).take w.length ≠ w → P r (putL w c r) → P (a :: r) (a :: putL w c r)) : ∀ t, P t (putL w c t) := by
  have key : ∀ n (t : List Nat), t.length ≤ n → P t (putL w c t) := by
    intro n
    induction n with
    | zero => intro t ht; have : t = [] := List.eq_nil_of_length_eq_zero (by omega); subst this; rw [putL_nil]; exact h0
    | succ n ih =>
      intro t ht
      cases t with
      | nil => rw [putL_nil]; exact h0
      | cons a r =>
        have hwp := List.length_pos_iff.mpr hw
        by_cases h : (a :: r).take w.length = w
        · rw [putL_hit hw (by simp) h]
          exact h1 _ (by simp) h (ih _ (by rw [List.length_drop]; omega))
        · rw [putL_miss hw h]
          exact h2 a r h (ih r (by simp at ht; omega))
  exact fun t => key t.length t (Nat.le_refl _)
theorem putL_mem {w c : List Nat} (hw : w ≠ []) {x : Nat} : ∀ t, x ∈ putL w c t → x ∈ c ∨ x ∈ t := by
  refine put_ind hw (fun t y => x ∈ y → x ∈ c ∨ x ∈ t) (fun h => .inr h) ?_ ?_
  · intro t _ _ ih h
    rcases List.mem_append.mp h with h | h
    · exact .inl h
    · exact (ih h).imp _root_.id List.mem_of_mem_drop
  · intro a r _ ih h
    rcases List.mem_cons.mp h with h | h
    · exact .inr (h ▸ .head _)
    · exact (ih h).imp _root_.id (.tail _)
theorem putL_ne {w c t : List Nat} (hw : w ≠ []) (hc : c ≠ []) (ht : t ≠ []) : putL w c t ≠ [] := by
  revert ht
  refine put_ind hw (fun t y => t ≠ [] → y ≠ []) (fun h => h) ?_ ?_ t
  · intro t _ _ _ _ e; exact hc (List.append_eq_nil_iff.mp e).1
  · intro a r _ _ _ e; cases e
/-- one sign sought: sign by sign -/
theorem putL_one (c : Nat) (w : List Nat) : ∀ t, putL [c] w t = t.flatMap fun a => if a = c then w else [a]
  | [] => by rw [putL_nil]; rfl
  | a :: r => by
    by_cases h : a = c
    · subst h
      rw [putL_hit (by simp) (by simp) (by simp), List.flatMap_cons, if_pos rfl]
      simp only [List.length_singleton, List.drop_succ_cons, List.drop_zero]
      rw [putL_one a w r]
    · rw [putL_miss (by simp) (by simp [h]), List.flatMap_cons, if_neg h, putL_one c w r]; rfl
theorem putL_one_app (c : Nat) (w s t : List Nat) (h : c ∉ s) : putL [c] w (t ++ s) = putL [c] w t ++ s := by
  rw [putL_one, putL_one, List.flatMap_append]
  congr 1
  induction s with
  | nil => rfl
  | cons a r ih =>
    rw [List.flatMap_cons, if_neg (fun (e : a = c) => h (e ▸ .head _)), ih (fun q => h (.tail _ q))]; rfl
/-- there and back -/
theorem back_one {c : Nat} {w : List Nat} (hw : w ≠ []) : ∀ t, c ∉ t → putL [c] w (putL w [c] t) = t := by
  refine put_ind hw (fun t y => c ∉ t → putL [c] w y = t) (fun _ => putL_nil ..) ?_ ?_
  · intro t ht h ih hc
    have e : putL [c] w ([c] ++ putL w [c] (t.drop w.length)) = w ++ putL [c] w (putL w [c] (t.drop w.length)) := by
      rw [putL_one, putL_one, List.flatMap_append]; simp
    rw [e, ih (fun q => hc (List.mem_of_mem_drop q))]
    conv => lhs; lhs; rw [← h]
    exact List.take_append_drop _ _
  · intro a r h ih hc
    have : a ≠ c := fun e => hc (e ▸ .head _)
    rw [putL_miss (by simp) (by simp [this]), ih (fun q => hc (.tail _ q))]
theorem back_dots (s : List Nat) (hs : 46 ∉ s) : ∀ t, putL [46, 46] [46] (putL [46] [46, 46] t ++ s) = t ++ s
  | [] => by
    rw [putL_nil, List.nil_append]
    induction s with
    | nil => exact putL_nil ..
    | cons a r ih =>
      have : a ≠ 46 := fun e => hs (e ▸ .head _)
      rw [putL_miss (by simp) (by simp [this]), ih (fun q => hs (.tail _ q))]
  | a :: r => by
    have ih := back_dots s hs r
    rw [putL_one] at ih ⊢
    rw [List.flatMap_cons]
    by_cases h : a = 46
    · subst h
      rw [if_pos rfl]
      simp only [List.cons_append, List.nil_append]
      rw [putL_hit (by simp) (by simp) (by simp)]
      simp only [List.length_cons, List.length_nil, List.drop_succ_cons, List.drop_zero]
      rw [ih]; rfl
    · rw [if_neg h]
      simp only [List.cons_append, List.nil_append]
      rw [putL_miss (by simp) (by simp [h]), ih]
theorem put_head {w r : List Nat} {c b : Nat} {q : List Nat} (hw : w ≠ []) (hb : b ≠ c) (e : putL w [c] r = b :: q) : ∃ r', r = b :: r' := by
  cases r with
  | nil => rw [putL_nil] at e; cases e
  | cons a r =>
    by_cases h : (a :: r).take w.length = w
    · rw [putL_hit hw (by simp) h] at e
      simp only [List.cons_append, List.nil_append] at e
      injection e with e1 _
      exact absurd e1.symm hb
    · rw [putL_miss hw h] at e
      injection e with e1 _
      exact ⟨r, by rw [e1]⟩
/-- what is put away is gone -/
theorem put_gone {a b c : Nat} (ha : c ≠ a) (hb : c ≠ b) : ∀ t, ¬ Occ a b (putL [a, b] [c] t) := by
  refine put_ind (by simp) (fun t y => ¬ Occ a b y) Occ.nil ?_ ?_
  · intro t _ _ ih h
    rcases Occ.inv (show Occ a b (c :: _) from h) with h | h
    · exact ha h.1
    · exact ih h
  · intro x r h ih ho
    rcases Occ.inv ho with ⟨e, q, e2⟩ | ho
    · obtain ⟨r', e3⟩ := put_head (by simp) (Ne.symm hb) e2
      subst e e3
      exact h (by simp)
    · exact ih ho
/-- nothing new but by the new sign -/
theorem put_no_new {a b c : Nat} {w : List Nat} (hw : w ≠ []) (ha : c ≠ a) (hb : c ≠ b) : ∀ t, Occ a b (putL w [c] t) → Occ a b t := by
  refine put_ind hw (fun t y => Occ a b y → Occ a b t) _root_.id ?_ ?_
  · intro t _ h ih ho
    rcases Occ.inv (show Occ a b (c :: _) from ho) with h | h
    · exact absurd h.1 ha
    · have := (ih h).app (s := t.take w.length)
      rwa [List.take_append_drop] at this
  · intro x r h ih ho
    rcases Occ.inv ho with ⟨e, q, e2⟩ | ho
    · obtain ⟨r', e3⟩ := put_head hw (Ne.symm hb) e2
      subst e e3
      exact ⟨[], r', rfl⟩
    · exact (ih ho).cons
theorem pick_two {t : List Nat} {x : Int} (h : 1 < t.length) : ∃ a b, pickW t x = [a, b] ∧ Occ a b t := by
  have hl := pickW_len (t := t) (x := x) h
  unfold pickW at hl ⊢
  generalize (x % ((t.length : Int) - 1)).toNat = n at *
  have e := List.take_append_drop n t
  cases hd : t.drop n with
  | nil => rw [hd] at hl; simp at hl
  | cons a r =>
    cases r with
    | nil => rw [hd] at hl; simp at hl
    | cons b q => exact ⟨a, b, by simp, t.take n, q, by rw [← hd, e]⟩
theorem Occ.mem {a b : Nat} {t : List Nat} (h : Occ a b t) : a ∈ t ∧ b ∈ t := by
  obtain ⟨p, q, rfl⟩ := h; simp
/-- the signs that may stand in a text once n codes are handed out -/
def Sg (codes : List Nat) (n : Nat) (c : Nat) : Prop := c ∈ baseS ∨ c ∈ codes.take n
theorem Sg.mono {codes : List Nat} {n m c : Nat} (h : Sg codes n c) (l : n ≤ m) : Sg codes m c :=
  h.imp _root_.id fun q => by
    have : codes.take n = (codes.take m).take n := by rw [List.take_take, Nat.min_eq_left l]
    rw [this] at q; exact List.mem_of_mem_take q
/-- what the codes are -/
structure CodesOk (codes : List Nat) : Prop where
  once : codes.Nodup
  new : ∀ c ∈ codes, c ∉ baseS ∧ c ≠ 32
  len : codes.length = 26
structure Inv (codes : List Nat) (st : PS) : Prop where
  first : st.1[0]? = some ([46], [46, 46])
  texts : st.2.length = st.1.length + 2
  ne : ∀ t ∈ st.2, t ≠ []
  sg : ∀ t ∈ st.2, ∀ c ∈ t, Sg codes (st.1.length - 1) c
  code : ∀ j r, 1 ≤ j → st.1[j]? = some r → ∃ c, codes[j - 1]? = some c ∧ r.2 = [c]
  key : ∀ j r, 1 ≤ j → st.1[j]? = some r → ∃ a b, r.1 = [a, b] ∧ ¬ Occ a b (lastT st.2) ∧ Sg codes (st.1.length - 1) a ∧ Sg codes (st.1.length - 1) b
  once : (st.1.map (·.1)).Nodup
  deed : ∀ k r, (st.1.take 1 ++ st.1)[k]? = some r → ∃ a b, st.2[k]? = some a ∧ st.2[k + 1]? = some b ∧ b = putL r.1 r.2 a ∧ putL r.2 r.1 (b ++ [32]) = a ++ [32]
end Mine
end

noncomputable section
namespace Mine
theorem CodesOk.get {codes : List Nat} (C : CodesOk codes) {i : Nat} (h : i < 26) : codes[i]? = some (codes.getD i 0) := by
  have : i < codes.length := by rw [C.len]; exact h
  simp [List.getD, this]
theorem CodesOk.fresh {codes : List Nat} (C : CodesOk codes) {i : Nat} (h : i < 26) : ¬ Sg codes i (codes.getD i 0) := by
  have hm : codes.getD i 0 ∈ codes := List.mem_of_getElem? (C.get h)
  rintro (q | q)
  · exact (C.new _ hm).1 q
  · obtain ⟨j, hj, e⟩ := List.mem_iff_getElem.mp q
    have hj' : j < i := by rw [List.length_take] at hj; omega
    have hl : i < codes.length := by rw [C.len]; exact h
    rw [List.getElem_take] at e
    have := List.pairwise_iff_getElem.mp C.once j i (by omega) hl hj'
    rw [e] at this
    exact this (by simp [List.getD, hl])
theorem inv_start {codes whole : List Nat} (h0 : whole ≠ []) (hs : ∀ c ∈ whole, c ∈ baseS) : Inv codes (startP whole) := by
  have m1 : ∀ t : List Nat, (∀ c ∈ t, c ∈ baseS) → ∀ c ∈ putL [46] [46, 46] t, c ∈ baseS := fun t ht c hc => by
    rcases putL_mem (by simp) t hc with h | h
    · simp only [List.mem_cons, List.not_mem_nil, or_false, or_self] at h; subst h; decide
    · exact ht c h
  have n1 : ∀ t : List Nat, t ≠ [] → putL [46] [46, 46] t ≠ [] := fun t ht => putL_ne (by simp) (by simp) ht
  refine ⟨rfl, rfl, ?_, ?_, ?_, ?_, by simp [startP], ?_⟩
  · intro t ht
    simp only [startP, List.mem_cons, List.not_mem_nil, or_false] at ht
    rcases ht with rfl | rfl | rfl
    · exact h0
    · exact n1 _ h0
    · exact n1 _ (n1 _ h0)
  · intro t ht c hc
    simp only [startP, List.mem_cons, List.not_mem_nil, or_false] at ht
    rcases ht with rfl | rfl | rfl
    · exact .inl (hs c hc)
    · exact .inl (m1 _ hs c hc)
    · exact .inl (m1 _ (m1 _ hs) c hc)
  · intro j r hj e
    simp only [startP] at e
    rw [List.getElem?_eq_none (by simp; omega)] at e; cases e
  · intro j r hj e
    simp only [startP] at e
    rw [List.getElem?_eq_none (by simp; omega)] at e; cases e
  · intro k r e
    have back : ∀ t, putL [46, 46] [46] (putL [46] [46, 46] t ++ [32]) = t ++ [32] := back_dots [32] (by decide)
    match k, e with
    | 0, e => simp [startP] at e; subst e; exact ⟨_, _, rfl, rfl, rfl, back _⟩
    | 1, e => simp [startP] at e; subst e; exact ⟨_, _, rfl, rfl, rfl, back _⟩
    | k + 2, e => simp [startP] at e
theorem Inv.ne0 {codes : List Nat} {st : PS} (I : Inv codes st) : 1 ≤ st.1.length := (List.getElem?_eq_some_iff.mp I.first).1
theorem Inv.tne {codes : List Nat} {st : PS} (I : Inv codes st) : st.2 ≠ [] := fun e => by have := I.texts; rw [e] at this; simp at this
theorem Inv.step {codes : List Nat} {st : PS} (C : CodesOk codes) (x : Int) (I : Inv codes st) (hn : st.1.length ≤ 26) : Inv codes (stepP codes st x) := by
  unfold stepP
  split
  · rename_i h
    obtain ⟨a, b, hp, ho⟩ := pick_two (x := x) h
    rw [hp]
    have hi : st.1.length - 1 < 26 := by have := I.ne0; omega
    have hc := C.get hi
    have hf := C.fresh hi
    generalize codes.getD (st.1.length - 1) 0 = c at *
    have hT := lastT_mem I.tne
    have sgT := I.sg _ hT
    generalize hTT : lastT st.2 = T at *
    have sa := sgT a ho.mem.1
    have sb := sgT b ho.mem.2
    have ca : c ≠ a := fun e => hf (e ▸ sa)
    have cb : c ≠ b := fun e => hf (e ▸ sb)
    have cT : c ∉ T := fun q => hf (sgT c q)
    have c32 : c ≠ 32 := (C.new c (List.mem_of_getElem? hc)).2
    have hlen := I.ne0
    have up : st.1.length - 1 ≤ st.1.length := by omega
    have sc : Sg codes st.1.length c := .inr (by
      have : codes.take st.1.length = codes.take (st.1.length - 1 + 1) := by congr 1; omega
      rw [this, List.take_add_one, hc]; simp)
    obtain ⟨ts, hts⟩ : ∃ ts, st.2 = ts ++ [T] := by
      refine ⟨st.2.dropLast, ?_⟩
      rw [← hTT]
      unfold lastT
      rw [List.getLast?_eq_some_getLast I.tne]
      exact (List.dropLast_concat_getLast I.tne).symm
    refine ⟨?_, ?_, ?_, ?_, ?_, ?_, ?_, ?_⟩
    · dsimp only; rw [List.getElem?_append_left (by omega)]; exact I.first
    · have := I.texts; simp; omega
    · intro t ht
      rcases List.mem_append.mp ht with ht | ht
      · exact I.ne t ht
      · rw [List.mem_singleton.mp ht]
        exact putL_ne (by simp) (by simp) (I.ne _ hT)
    · intro t ht d hd
      simp only [List.length_append, List.length_singleton, Nat.add_sub_cancel]
      rcases List.mem_append.mp ht with ht | ht
      · exact (I.sg t ht d hd).mono up
      · rw [List.mem_singleton.mp ht] at hd
        rcases putL_mem (by simp) _ hd with h | h
        · rw [List.mem_singleton.mp h]; exact sc
        · exact (sgT d h).mono up
    · intro j r hj e
      by_cases hjl : j < st.1.length
      · rw [List.getElem?_append_left hjl] at e; exact I.code j r hj e
      · have : j = st.1.length := by
          have := (List.getElem?_eq_some_iff.mp e).1; simp at this; omega
        subst this
        simp at e
        subst e
        exact ⟨c, hc, rfl⟩
    · intro j r hj e
      simp only [List.length_append, List.length_singleton, Nat.add_sub_cancel, lastT_snoc]
      by_cases hjl : j < st.1.length
      · rw [List.getElem?_append_left hjl] at e
        obtain ⟨a', b', e1, e2, e3, e4⟩ := I.key j r hj e
        rw [hTT] at e2
        exact ⟨a', b', e1, fun q => e2 (put_no_new (by simp) (fun (z : c = a') => hf (z ▸ e3)) (fun (z : c = b') => hf (z ▸ e4)) _ q), e3.mono up, e4.mono up⟩
      · have : j = st.1.length := by
          have := (List.getElem?_eq_some_iff.mp e).1; simp at this; omega
        subst this
        simp at e
        subst e
        exact ⟨a, b, rfl, put_gone ca cb _, sa.mono up, sb.mono up⟩
    · rw [List.map_append, List.nodup_append]
      refine ⟨I.once, by simp, ?_⟩
      intro k hk k' hk'
      simp only [List.map_cons, List.map_nil, List.mem_singleton] at hk'
      subst hk'
      obtain ⟨r, hr, rfl⟩ := List.mem_map.mp hk
      obtain ⟨j, hj⟩ := List.mem_iff_getElem?.mp hr
      intro e
      cases j with
      | zero => rw [I.first] at hj; cases hj; simp at e
      | succ j =>
        obtain ⟨a', b', e1, e2, _, _⟩ := I.key (j + 1) r (by omega) hj
        rw [e] at e1
        injection e1 with z1 z2
        injection z2 with z2 _
        subst z1 z2
        rw [hTT] at e2
        exact e2 ho
    · intro k r e
      have hl1 : (st.1.take 1 ++ st.1).length = st.1.length + 1 := by simp; omega
      have e0 : ((st.1 ++ [([a, b], [c])]).take 1 ++ (st.1 ++ [([a, b], [c])])) = (st.1.take 1 ++ st.1) ++ [([a, b], [c])] := by
        rw [List.take_append_of_le_length hlen, List.append_assoc]
      have e' : ((st.1.take 1 ++ st.1) ++ [([a, b], [c])])[k]? = some r := by rw [← e0]; exact e
      by_cases hk : k < st.1.length + 1
      · rw [List.getElem?_append_left (by omega)] at e'
        obtain ⟨u, v, h1, h2, h3, h4⟩ := I.deed k r e'
        have l1 := (List.getElem?_eq_some_iff.mp h1).1
        have l2 := (List.getElem?_eq_some_iff.mp h2).1
        exact ⟨u, v, by dsimp only; rw [List.getElem?_append_left l1]; exact h1, by dsimp only; rw [List.getElem?_append_left l2]; exact h2, h3, h4⟩
      · have : k = st.1.length + 1 := by
          have := (List.getElem?_eq_some_iff.mp e').1; rw [List.length_append, hl1, List.length_singleton] at this; omega
        subst this
        rw [← hl1] at e'
        simp only [List.getElem?_concat_length, Option.some.injEq] at e'
        subst e'
        have ht := I.texts
        refine ⟨T, _, ?_, ?_, rfl, ?_⟩
        · dsimp only
          rw [List.getElem?_append_left (by omega), hts]
          have : ts.length = st.1.length + 1 := by rw [hts] at ht; simp at ht; omega
          rw [← this]; simp
        · dsimp only
          have : st.1.length + 1 + 1 = st.2.length := by omega
          rw [this]; simp
        · dsimp only
          rw [putL_one_app c [a, b] [32] _ (by simpa using c32), back_one (by simp) T cT]
  · exact I
theorem inv_foldl {codes : List Nat} (C : CodesOk codes) : ∀ (ns : List Int) {n : Nat} {st : PS}, Stage n st → n + ns.length ≤ 25 → Inv codes st → Inv codes (ns.foldl (stepP codes) st)
  | [], _, _, _, _, I => I
  | x :: r, n, st, S, hn, I => by
    rw [List.length_cons] at hn
    exact inv_foldl C r (S.step codes x) (by omega) (I.step C x (by have := S.rowsU; omega))
theorem planP_inv {codes whole : List Nat} (C : CodesOk codes) (h : whole.length ≤ 15) (h0 : whole ≠ []) (hs : ∀ c ∈ whole, c ∈ baseS) (ns : List Int) (hn : ns.length ≤ 9) : Inv codes (planP codes whole ns) :=
  inv_foldl C ns (stage_start h) (by omega) (inv_start h0 hs)
end Mine
end

noncomputable section
open PySem PySem.W PyProof.Rows PySem.Spec
namespace Mine
def Tx (l : List Nat) : Str := ⟨l.toArray⟩
theorem Tx_length (l : List Nat) : (Tx l).length = l.length := by simp [Tx, Str.length]
theorem Tx_append (a b : List Nat) : Tx a ++ Tx b = Tx (a ++ b) := by show (⟨a.toArray ++ b.toArray⟩ : Str) = _; simp [Tx]
theorem Tx_inj {a b : List Nat} (h : Tx a = Tx b) : a = b := by have := congrArg (fun x : Str => x.cps.toList) h; simpa [Tx] using this
theorem Tx_beq (a b : List Nat) : (Tx a == Tx b) = decide (a = b) := by
  by_cases h : a = b
  · subst h; simp
  · rw [decide_eq_false h, beq_eq_false_iff_ne]; exact fun e => h (Tx_inj e)
theorem Tx_of (x : Str) : Tx x.cps.toList = x := by simp [Tx]
abbrev Kp (h h' : Heap) : Prop := ∀ b o, h.get? b = some o → h'.get? b = some o

theorem lookup_kstB : ∀ (l : List (Str × Value)), (fun y => l.lookup y) = kstB (fun _ => none) l
  | [] => rfl
  | (a, v) :: r => by
    have ih := lookup_kstB r
    funext y
    show List.lookup y ((a, v) :: r) = if y = a then some v else kstB (fun _ => none) r y
    rw [List.lookup_cons, ← ih]
    by_cases h : y = a
    · subst h; simp
    · have : (y == a) = false := by simpa using h
      rw [this, if_neg h]

theorem lookup_none_of {y : Str} : ∀ {l : List (Str × Value)}, y ∉ l.map (·.1) → l.lookup y = none
  | [], _ => rfl
  | (a, v) :: r, h => by
    rw [List.lookup_cons]
    have h1 : (y == a) = false := by
      rw [beq_eq_false_iff_ne]; intro e; apply h; rw [e]; exact .head _
    rw [h1]
    exact lookup_none_of fun q => h (.tail _ q)
theorem lookup_mem {y : Str} {v : Value} : ∀ {l : List (Str × Value)}, (l.map (·.1)).Nodup → (y, v) ∈ l → l.lookup y = some v
  | (a, w) :: r, hn, hm => by
    rw [List.lookup_cons]
    rcases List.mem_cons.mp hm with e | hm
    · cases e; simp
    · have : a ≠ y := by
        intro e; subst e
        exact (List.nodup_cons.mp hn).1 (List.mem_map.mpr ⟨_, hm, rfl⟩)
      have h1 : (y == a) = false := by rw [beq_eq_false_iff_ne]; exact Ne.symm this
      rw [h1]
      exact lookup_mem (List.nodup_cons.mp hn).2 hm
theorem mem_of_lookup {y : Str} {v : Value} : ∀ {l : List (Str × Value)}, l.lookup y = some v → (y, v) ∈ l
  | (a, w) :: r, h => by
    rw [List.lookup_cons] at h
    split at h
    · rename_i e; rw [eq_of_beq e]; cases h; exact .head _
    · exact .tail _ (mem_of_lookup h)
theorem lookup_rev {l : List (Str × Value)} (hn : (l.map (·.1)).Nodup) : (fun y => l.reverse.lookup y) = fun y => l.lookup y := by
  funext y
  cases h : l.lookup y with
  | none =>
    apply lookup_none_of
    intro hm
    rw [List.map_reverse, List.mem_reverse] at hm
    obtain ⟨⟨a, v⟩, hp, e⟩ := List.mem_map.mp hm
    have e' : a = y := e
    subst e'
    rw [lookup_mem hn hp] at h; cases h
  | some v =>
    refine lookup_mem ?_ (List.mem_reverse.mpr (mem_of_lookup h))
    rw [List.map_reverse]; exact List.pairwise_reverse.mpr (hn.imp fun h e => h e.symm)

/-- into a plain def: no exception, its locals written out -/
theorem enter_fn {prog : Program} {w : World} {A : Around} {R : Result → Shared → Prop} {s : Shared} {name : Str} {params : Arguments} {body : List Stmt} {scope : Scope}
    {pm cd doc : Value} {a : Addr} {o : Obj} {args : List Value} {binds : List (Str × Value)}
    (hroom : A.depth < recursionLimit) (ho : s.heap.get? a = some o) (hdata : o.data = .func (Calls.docDef name params body scope pm cd doc)) (hlim : s.heap.NoLimit) (hcd : s.heap.CodeRec cd name)
    (hbind : bindArgs (Calls.docDef name params body scope pm cd doc) ⟨args, []⟩ = pure binds)
    (hloc : (binds.all fun x => decide (scope.names.lookup x.1 = some .local)) = true) (hnd : (binds.map (·.1)).Nodup)
    (h : ∀ h₁ tk, Fr s.heap s.heap.objs.size h₁ (kstB (fun _ => none) binds) → News s.heap s.heap.objs.size h₁ [] →
      wpAny (model prog w) (A.deeper (envOf name scope s.heap.objs.size a cd)) (execs body (envOf name scope s.heap.objs.size a cd))
        (fun f s' => R (.ok (.ret (match f with | .ret v => v | _ => .none))) s') (fun _ _ => False)
        { s with heap := h₁, toks := tk })
    (hco : scope.isCoroutine = false := by rfl) (hgen : scope.isGenerator = false := by rfl) (hk : scope.kind = .function := by rfl)
    (hcell : ∀ x ∈ scope.names, x.2 ≠ .cell := by decide) :
    codeAny (model prog w) A (.call (.ref a) ⟨args, []⟩) R s := by
  refine call_plain_ret hroom ho hdata hlim hcd hbind (locs hloc) (fun h₁ F => ?_) hco hgen hk hcell
  rw [lookup_rev hnd, lookup_kstB] at F
  exact h h₁ _ F News.nil
end Mine
end

noncomputable section
open PySem PySem.W PyProof.Rows PySem.Spec PySem.Builtin PySem.Builtin.Str
namespace Mine
theorem idx_range (a b : Nat) : sliceRange (a : Int) (b : Int) 1 = (List.range (b - a)).map (a + ·) := by
  unfold sliceRange
  simp only [show (1 : Int) > 0 by decide, if_true]
  by_cases h : a < b
  · have h' : (a : Int) < b := by omega
    rw [if_pos h']
    have : (((b : Int) - a + 1 - 1) / 1).toNat = b - a := by first | omega | (simp; done) | (simp; omega)
    rw [this]
    apply List.map_congr_left
    intro k _
    omega
  · have h' : ¬ (a : Int) < b := by omega
    rw [if_neg h']
    have : b - a = 0 := by omega
    rw [this]; rfl
theorem idx_take (l : List Nat) (a n : Nat) (h : a + n ≤ l.length) : ((List.range n).map (a + ·)).filterMap (l.toArray[·]?) = (l.drop a).take n := by
  induction n generalizing a with
  | zero => simp
  | succ n ih =>
    rw [List.range_succ_eq_map, List.map_cons, List.map_map]
    have e : ((fun x => a + x) ∘ Nat.succ) = fun x => (a + 1) + x := by funext x; simp; omega
    rw [e, List.filterMap_cons]
    have ha : a < l.length := by omega
    have g : l.toArray[a + 0]? = some l[a] := by simp [ha]
    rw [g]
    show l[a] :: List.filterMap _ _ = _
    rw [ih (a + 1) (by omega), List.drop_eq_getElem_cons ha, List.take_succ_cons]
/-- a slice of a text, as a cut of its signs -/
theorem slice_gen (l : List Nat) (lo hi : Option Int) (a b : Nat) (e : strSliceIndices lo hi 1 l.length = sliceRange (a : Int) (b : Int) 1) (hb : b ≤ l.length) : Txt.slice (Tx l) lo hi = Tx ((l.drop a).take (b - a)) := by
  have hl := Tx_length l
  unfold Txt.slice
  rw [hl, e, idx_range]
  split
  · rename_i h
    simp only [beq_self_eq_true, Bool.true_and, List.length_map, List.length_range, beq_iff_eq] at h
    have : a = 0 ∨ l = [] := by
      rcases Nat.eq_zero_or_pos a with q | q
      · exact .inl q
      · right; apply List.eq_nil_of_length_eq_zero; omega
    rcases this with q | q
    · subst q
      have : b = l.length := by omega
      subst this; simp
    · subst q; simp
  · by_cases hab : a ≤ b
    · rw [show (Tx l).cps = l.toArray from rfl, idx_take l a (b - a) (by omega)]; rfl
    · have : b - a = 0 := by omega
      rw [this]; rfl
theorem slice_to (l : List Nat) (k : Nat) : Txt.slice (Tx l) none (some (k : Int)) = Tx (l.take k) := by
  rw [slice_gen l none (some (k : Int)) 0 (min k l.length) ?_ (by omega)]
  · rw [List.drop_zero, Nat.sub_zero]
    congr 1
    rw [← List.take_take, List.take_length]
    
  · unfold strSliceIndices
    simp only [show (1 : Int) > 0 by decide, if_true]
    congr 1
    rw [if_neg (by omega)]; omega
theorem slice_from (l : List Nat) (k : Nat) : Txt.slice (Tx l) (some (k : Int)) none = Tx (l.drop k) := by
  rw [slice_gen l (some (k : Int)) none (min k l.length) l.length ?_ (by omega)]
  · congr 1
    rw [List.take_of_length_le (by rw [List.length_drop]; omega)]
    by_cases h : k ≤ l.length
    · rw [Nat.min_eq_left h]
    · rw [Nat.min_eq_right (by omega), List.drop_length, List.drop_of_length_le (by omega)]
  · unfold strSliceIndices
    simp only [show (1 : Int) > 0 by decide, if_true]
    congr 1
    rw [if_neg (by omega)]; omega
theorem slice_two (l : List Nat) (a b : Nat) (hb : b ≤ l.length) : Txt.slice (Tx l) (some (a : Int)) (some (b : Int)) = Tx ((l.drop a).take (b - a)) := by
  by_cases h : a ≤ l.length
  · refine slice_gen l _ _ a b ?_ hb
    unfold strSliceIndices
    simp only [show (1 : Int) > 0 by decide, if_true]
    rw [if_neg (by omega), if_neg (by omega)]
    congr 1 <;> omega
  · rw [slice_gen l _ _ (min a l.length) b ?_ hb]
    · congr 1
      have e : b - a = 0 := by omega
      have e2 : b - min a l.length = 0 := by omega
      rw [e, e2]; simp
    · unfold strSliceIndices
      simp only [show (1 : Int) > 0 by decide, if_true]
      rw [if_neg (by omega), if_neg (by omega)]
      congr 1 <;> omega

section
variable {prog : Program} {w : World} {A : Around} {E : Value → Shared → Prop} {hp : Heap} {gn : Array GenState} {dr : Drawn} {tk : Nat} {os : OsState} {h₀ : Heap} {L : Addr} {m : Str → Option Value} {news : List (Addr × Obj)} {Q : Value → Shared → Prop} {t u : Tok} {l r : List Nat} {value slice : Expr}
theorem len_T (hl : l.length ≤ 1000000) (h : ∀ t k, Q (.int (l.length : Int) t) ⟨hp, gn, dr, k, os⟩) : wpAny (model prog w) A (call (.builtin "len") [.str (Tx l) t]) Q E ⟨hp, gn, dr, tk, os⟩ := by
  refine len_str (s := ⟨hp, gn, dr, tk, os⟩) ?_ ?_
  · rw [Tx_length]; omega
  · rw [Tx_length]; exact h _ _
theorem add_T (hl : l.length + r.length ≤ 1000000) (h : ∀ t k, Q (.str (Tx (l ++ r)) t) ⟨hp, gn, dr, k, os⟩) : wpAny (model prog w) A (binaryOp .Add (.str (Tx l) t) (.str (Tx r) u)) Q E ⟨hp, gn, dr, tk, os⟩ := by
  refine SB.add (s := ⟨hp, gn, dr, tk, os⟩) (fun t k => ?_) ?_
  · rw [Tx_append]; exact h t k
  · rw [Tx_length, Tx_length, sizeLine_eq]; omega
theorem eq_T (h : Q (.bool (decide (l = r))) ⟨hp, gn, dr, tk, os⟩) : wpAny (model prog w) A (compareOp .Eq (.str (Tx l) t) (.str (Tx r) u)) Q E ⟨hp, gn, dr, tk, os⟩ := by
  refine PyProof.Rows.eq_str (s := ⟨hp, gn, dr, tk, os⟩) ?_
  rw [Tx_beq]; exact h
theorem ne_T (h : Q (.bool (!decide (l = r))) ⟨hp, gn, dr, tk, os⟩) : wpAny (model prog w) A (compareOp .NotEq (.str (Tx l) t) (.str (Tx r) u)) Q E ⟨hp, gn, dr, tk, os⟩ := by
  refine PyProof.Rows.ne_str (s := ⟨hp, gn, dr, tk, os⟩) ?_
  rw [bne, Tx_beq]; exact h
theorem to_T {k : Nat} {uk : Tok} (hF : Fr h₀ L hp m) (hN : News h₀ L hp news) (hl : l.length ≤ 1000000) (h : ∀ h' t' k', Fr h₀ L h' m → News h₀ L h' news → Q (.str (Tx (l.take k)) t') ⟨h', gn, dr, k', os⟩)
    (hs : subscripted slice false (.str (Tx l) t) (.ref hp.objs.size) = operate [.ref hp.objs.size, .str (Tx l) t] (getItem (.str (Tx l) t) (.ref hp.objs.size)) := by with_unfolding_all rfl)
    (ht : ∀ r, letTemporaryGo value (.str (Tx l) t) r = pure () := by intro _; with_unfolding_all rfl) :
    wpAny (model prog w) A (subscriptTail value slice (.str (Tx l) t) (.ref hp.objs.size)) Q E ⟨hp.push { cls := .type "slice", data := .fields #[.none, .int (k : Int) uk, .none] }, gn, dr, tk, os⟩ := by
  refine slice_strN_ns (s := ⟨hp, gn, dr, tk, os⟩) hF hN (fun h' t' k' F' N' => ?_) hs ht (by rw [Tx_length, sizeLine_eq]; omega)
  rw [slice_to]; exact h h' t' k' F' N'
theorem from_T {k : Nat} {uk : Tok} (hF : Fr h₀ L hp m) (hN : News h₀ L hp news) (hl : l.length ≤ 1000000) (h : ∀ h' t' k', Fr h₀ L h' m → News h₀ L h' news → Q (.str (Tx (l.drop k)) t') ⟨h', gn, dr, k', os⟩)
    (hs : subscripted slice false (.str (Tx l) t) (.ref hp.objs.size) = operate [.ref hp.objs.size, .str (Tx l) t] (getItem (.str (Tx l) t) (.ref hp.objs.size)) := by with_unfolding_all rfl)
    (ht : ∀ r, letTemporaryGo value (.str (Tx l) t) r = pure () := by intro _; with_unfolding_all rfl) :
    wpAny (model prog w) A (subscriptTail value slice (.str (Tx l) t) (.ref hp.objs.size)) Q E ⟨hp.push { cls := .type "slice", data := .fields #[.int (k : Int) uk, .none, .none] }, gn, dr, tk, os⟩ := by
  refine slice_strN_sn (s := ⟨hp, gn, dr, tk, os⟩) hF hN (fun h' t' k' F' N' => ?_) hs ht (by rw [Tx_length, sizeLine_eq]; omega)
  rw [slice_from]; exact h h' t' k' F' N'
theorem two_T {a b : Nat} {ua ub : Tok} (hF : Fr h₀ L hp m) (hN : News h₀ L hp news) (hl : l.length ≤ 1000000) (hb : b ≤ l.length) (h : ∀ h' t' k', Fr h₀ L h' m → News h₀ L h' news → Q (.str (Tx ((l.drop a).take (b - a))) t') ⟨h', gn, dr, k', os⟩)
    (hs : subscripted slice false (.str (Tx l) t) (.ref hp.objs.size) = operate [.ref hp.objs.size, .str (Tx l) t] (getItem (.str (Tx l) t) (.ref hp.objs.size)) := by with_unfolding_all rfl)
    (ht : ∀ r, letTemporaryGo value (.str (Tx l) t) r = pure () := by intro _; with_unfolding_all rfl) :
    wpAny (model prog w) A (subscriptTail value slice (.str (Tx l) t) (.ref hp.objs.size)) Q E ⟨hp.push { cls := .type "slice", data := .fields #[.int (a : Int) ua, .int (b : Int) ub, .none] }, gn, dr, tk, os⟩ := by
  refine slice_strN_ss (s := ⟨hp, gn, dr, tk, os⟩) hF hN (fun h' t' k' F' N' => ?_) hs ht (by rw [Tx_length, sizeLine_eq]; omega)
  rw [slice_two l a b hb]; exact h h' t' k' F' N'
end
end Mine
end

noncomputable section
open PySem PySem.W PyProof.Rows PySem.Spec
namespace Mine
inductive All2 {α β : Type} (R : α → β → Prop) : List α → List β → Prop
  | nil : All2 R [] []
  | cons {a b l r} : R a b → All2 R l r → All2 R (a :: l) (b :: r)
namespace All2
variable {α β : Type} {R S : α → β → Prop}
theorem mono (h : ∀ a b, R a b → S a b) : ∀ {l r}, All2 R l r → All2 S l r
  | _, _, .nil => .nil
  | _, _, .cons p q => .cons (h _ _ p) (mono h q)
theorem append : ∀ {l r l' r'}, All2 R l r → All2 R l' r' → All2 R (l ++ l') (r ++ r')
  | _, _, _, _, .nil, k => k
  | _, _, _, _, .cons p q, k => .cons p (append q k)
theorem snoc {l r a b} (h : All2 R l r) (k : R a b) : All2 R (l ++ [a]) (r ++ [b]) := h.append (.cons k .nil)
theorem length : ∀ {l r}, All2 R l r → l.length = r.length
  | _, _, .nil => rfl
  | _, _, .cons _ q => by rw [List.length_cons, List.length_cons, length q]
theorem get : ∀ {l r}, All2 R l r → ∀ {i : Nat} {b : β}, r[i]? = some b → ∃ a, l[i]? = some a ∧ R a b
  | _, _, .nil, i, b, h => by simp at h
  | _, _, .cons p q, 0, b, h => by simp at h; subst h; exact ⟨_, rfl, p⟩
  | _, _, .cons p q, i + 1, b, h => by simpa using get q (by simpa using h)
theorem get' : ∀ {l r}, All2 R l r → ∀ {i : Nat} {a : α}, l[i]? = some a → ∃ b, r[i]? = some b ∧ R a b
  | _, _, .nil, i, b, h => by simp at h
  | _, _, .cons p q, 0, b, h => by simp at h; subst h; exact ⟨_, rfl, p⟩
  | _, _, .cons p q, i + 1, b, h => by simpa using get' q (by simpa using h)
theorem take : ∀ {l r}, All2 R l r → ∀ n, All2 R (l.take n) (r.take n)
  | _, _, .nil, n => by simp; exact .nil
  | _, _, .cons p q, 0 => by simp; exact .nil
  | _, _, .cons p q, n + 1 => by simpa using .cons p (take q n)
theorem drop : ∀ {l r}, All2 R l r → ∀ n, All2 R (l.drop n) (r.drop n)
  | _, _, .nil, n => by simp; exact .nil
  | _, _, .cons p q, 0 => by simpa using .cons p q
  | _, _, .cons p q, n + 1 => by simpa using drop q n
theorem reverse : ∀ {l r}, All2 R l r → All2 R l.reverse r.reverse
  | _, _, .nil => .nil
  | _, _, .cons p q => by rw [List.reverse_cons, List.reverse_cons]; exact (reverse q).snoc p
/-- the last of a list that is not empty -/
theorem last : ∀ {l r}, All2 R l r → r ≠ [] → ∃ l' a r' b, l = l' ++ [a] ∧ r = r' ++ [b] ∧ R a b
  | _, _, .nil, h => absurd rfl h
  | _, _, .cons (a := a) (b := b) p .nil, _ => ⟨[], a, [], b, rfl, rfl, p⟩
  | _, _, .cons (a := a) (b := b) p (.cons p' q'), _ => by
    obtain ⟨l', x, r', y, e1, e2, hr⟩ := last (.cons p' q') (by simp)
    exact ⟨a :: l', x, b :: r', y, by rw [e1]; rfl, by rw [e2]; rfl, hr⟩
end All2

/-- a value that is a text -/
def IsT (v : Value) (x : List Nat) : Prop := ∃ t, v = .str (Tx x) t
/-- texts, one for one -/
abbrev TxsAre (vs : List Value) (xs : List (List Nat)) : Prop := All2 IsT vs xs
/-- a row of two texts, by what is known of objects -/
def RowAt (K : Addr → Obj → Prop) (v : Value) (r : List Nat × List Nat) : Prop := ∃ a n t u, v = .ref a ∧ K a (listOf #[.str (Tx r.1) t, .str (Tx r.2) u] n)
abbrev RowsAre (K : Addr → Obj → Prop) (vs : List Value) (rs : List (List Nat × List Nat)) : Prop := All2 (RowAt K) vs rs
abbrev HK (h : Heap) : Addr → Obj → Prop := fun a o => h.get? a = some o
abbrev LK (l : List (Addr × Obj)) : Addr → Obj → Prop := fun a o => (a, o) ∈ l
theorem RowAt.mono {K K' : Addr → Obj → Prop} (h : ∀ a o, K a o → K' a o) {v r} : RowAt K v r → RowAt K' v r
  | ⟨a, n, t, u, e, k⟩ => ⟨a, n, t, u, e, h _ _ k⟩
theorem RowsAre.mono {K K' : Addr → Obj → Prop} (h : ∀ a o, K a o → K' a o) {vs rs} (x : RowsAre K vs rs) : RowsAre K' vs rs := All2.mono (fun _ _ => RowAt.mono h) x
/-- a list object -/
def LstAt (h : Heap) (a : Addr) (vs : List Value) : Prop := ∃ n, h.get? a = some (listOf vs.toArray n)
theorem LstAt.is {h : Heap} {a : Addr} {vs : List Value} (x : LstAt h a vs) : h.IsList a vs.toArray := by
  obtain ⟨n, e⟩ := x; exact ⟨_, e, rfl, n, rfl⟩
theorem LstAt.keeps {h h' : Heap} {a : Addr} {vs : List Value} (x : LstAt h a vs) (k : Kp h h') : LstAt h' a vs := by
  obtain ⟨n, e⟩ := x; exact ⟨n, k _ _ e⟩
/-- what _law_plan hands back -/
def PlanAt (h : Heap) (v : Value) (st : PS) : Prop :=
  ∃ P R T rvs tvs, v = .ref P ∧ LstAt h P [.ref R, .ref T] ∧ LstAt h R rvs ∧ LstAt h T tvs ∧ RowsAre (HK h) rvs st.1 ∧ TxsAre tvs st.2

section
variable {prog : Program} {w : World} {A : Around} {E : Value → Shared → Prop} {hp : Heap} {gn : Array GenState} {dr : Drawn} {tk : Nat} {os : OsState} {h₀ : Heap} {L : Addr} {m : Str → Option Value} {news : List (Addr × Obj)} {Q : Value → Shared → Prop} {t u : Tok} {l r : List Nat} {value slice : Expr}
/-- the last item of a list at hand -/
theorem lastItem_T {a : Addr} {vs : List Value} {v : Value} {n : Nat} {u : Tok} (N : News h₀ L hp news) (hm : (a, listOf (vs ++ [v]).toArray n) ∈ news) (h : Q v ⟨hp, gn, dr, tk, os⟩)
    (hs : subscripted slice false (.ref a) (.int (-1) u) = operate [.ref a, .int (-1) u] (getItem (.ref a) (.int (-1) u)) := by with_unfolding_all rfl) :
    wpAny (model prog w) A (subscriptTail value slice (.ref a) (.int (-1) u)) Q E ⟨hp, gn, dr, tk, os⟩ := by
  have hl : hp.IsList a (vs ++ [v]).toArray := ⟨_, (N _ hm).1, rfl, n, rfl⟩
  refine tail_any (s := ⟨hp, gn, dr, tk, os⟩) hl.typeIs slot_list_getitem.lookup (wpAny_getItem_list_neg hl (by decide) ?_ (by decide) ?_ h) hs
  · simp; omega
  · have : ((-1 : Int) + ((vs ++ [v]).toArray.size : Nat)).toNat = vs.length := by simp; omega
    rw [this]; simp
/-- a written item of a list at hand -/
theorem item_T {a : Addr} {vs : List Value} {v : Value} {n : Nat} {k : Int} {u : Tok} (N : News h₀ L hp news) (hm : (a, listOf vs.toArray n) ∈ news) (h0 : 0 ≤ k) (hk : k < 2 ^ 63) (hv : vs[k.toNat]? = some v) (h : Q v ⟨hp, gn, dr, tk, os⟩)
    (hs : subscripted slice false (.ref a) (.int k u) = operate [.ref a, .int k u] (getItem (.ref a) (.int k u)) := by with_unfolding_all rfl) :
    wpAny (model prog w) A (subscriptTail value slice (.ref a) (.int k u)) Q E ⟨hp, gn, dr, tk, os⟩ := by
  have hl : hp.IsList a vs.toArray := ⟨_, (N _ hm).1, rfl, n, rfl⟩
  exact tail_any (s := ⟨hp, gn, dr, tk, os⟩) hl.typeIs slot_list_getitem.lookup (wpAny_getItem_list hl h0 hk (by simpa using hv) h) hs
theorem lenList_T {a : Addr} {vs : List Value} {n : Nat} (N : News h₀ L hp news) (hm : (a, listOf vs.toArray n) ∈ news) (hv : vs.length ≤ 1000000) (h : ∀ t k, Q (.int (vs.length : Int) t) ⟨hp, gn, dr, k, os⟩) : wpAny (model prog w) A (call (.builtin "len") [.ref a]) Q E ⟨hp, gn, dr, tk, os⟩ := by
  have hl : hp.IsList a vs.toArray := ⟨_, (N _ hm).1, rfl, n, rfl⟩
  refine Calls.call_len_list (s := ⟨hp, gn, dr, tk, os⟩) hl (by simp; omega) ?_
  simpa using h _ _
/-- a sign of a text -/
theorem sign_T {k : Int} {u : Tok} (h0 : 0 ≤ k) (hk : k.toNat < l.length) (hl : l.length ≤ 1000000) (h : ∀ t k', Q (.str (Tx [l.getD k.toNat 0]) t) ⟨hp, gn, dr, k', os⟩)
    (hs : subscripted slice false (.str (Tx l) t) (.int k u) = operate [.str (Tx l) t, .int k u] (getItem (.str (Tx l) t) (.int k u)) := by with_unfolding_all rfl)
    (ht : ∀ r, letTemporaryGo value (.str (Tx l) t) r = pure () := by intro _; with_unfolding_all rfl) :
    wpAny (model prog w) A (subscriptTail value slice (.str (Tx l) t) (.int k u)) Q E ⟨hp, gn, dr, tk, os⟩ := by
  have hq : seqIndex? k l.length = some k.toNat := by
    unfold seqIndex?
    have : (decide (0 ≤ k) && decide (k < (l.length : Int))) = true := by simp; omega
    simp only [if_neg (show ¬ k < 0 by omega), this, if_true]
  have hc : Txt.charAt (Tx l) k = some (l.getD k.toNat 0) := by
    unfold Txt.charAt
    rw [Tx_length, hq]
    show (Tx l).cps[k.toNat]? = _
    simp [Tx, List.getD, hk]
  have hi : Txt.item (Tx l) k = Tx [l.getD k.toNat 0] := by
    unfold Txt.item; rw [hc]; rfl
  refine tail_of_ItemOn (s := ⟨hp, gn, dr, tk, os⟩) ⟨"str", _, F.slot_str_getitem.lookup, typeIs_str _ _ _, SB.getItem ?_ (by rw [hc]; rfl) (by rw [hi]; exact h _ _)⟩ hs ht
  unfold fitsSsize
  have h1 : decide (k < -(2 ^ 63 : Int)) = false := by rw [decide_eq_false_iff_not]; omega
  have h2 : decide (k ≥ (2 ^ 63 : Int)) = false := by rw [decide_eq_false_iff_not]; omega
  rw [h1, h2]; rfl
end
end Mine
namespace Mine
section
variable {prog : Program} {w : World} {A : Around} {E : Value → Shared → Prop} {hp : Heap} {gn : Array GenState} {dr : Drawn} {tk : Nat} {os : OsState} {h₀ : Heap} {L : Addr} {m : Str → Option Value} {news news' : List (Addr × Obj)} {Q : Value → Shared → Prop} {t u : Tok} {l r : List Nat} {value slice : Expr}
theorem append_T {D : Addr} {vs : List Value} {n : Nat} {x : Value} (F : Fr h₀ L hp m) (N : News h₀ L hp news) (U : Upd D (listOf vs.toArray n) (listOf (vs ++ [x]).toArray (n + 1)) news news') (hsz : vs.length ≤ 1000000)
    (h : ∀ h', Fr h₀ L h' m → News h₀ L h' news' → Q .none ⟨h', gn, dr, tk, os⟩) : wpAny (model prog w) A (call (.builtin "list.append") [.ref D, x]) Q E ⟨hp, gn, dr, tk, os⟩ := by
  have e : (vs ++ [x]).toArray = vs.toArray.push x := by simp
  rw [e] at U
  exact append_K (s := ⟨hp, gn, dr, tk, os⟩) F N U h (by rw [List.size_toArray, sizeLine_eq]; omega)
theorem two_T' {a b : Int} {ua ub : Tok} (hF : Fr h₀ L hp m) (hN : News h₀ L hp news) (ha : 0 ≤ a) (hab : b = a + 2) (hb : b ≤ l.length) (hl : l.length ≤ 1000000) (h : ∀ h' t' k', Fr h₀ L h' m → News h₀ L h' news → Q (.str (Tx ((l.drop a.toNat).take 2)) t') ⟨h', gn, dr, k', os⟩)
    (hs : subscripted slice false (.str (Tx l) t) (.ref hp.objs.size) = operate [.ref hp.objs.size, .str (Tx l) t] (getItem (.str (Tx l) t) (.ref hp.objs.size)) := by with_unfolding_all rfl)
    (ht : ∀ r, letTemporaryGo value (.str (Tx l) t) r = pure () := by intro _; with_unfolding_all rfl) :
    wpAny (model prog w) A (subscriptTail value slice (.str (Tx l) t) (.ref hp.objs.size)) Q E ⟨hp.push { cls := .type "slice", data := .fields #[.int a ua, .int b ub, .none] }, gn, dr, tk, os⟩ := by
  obtain ⟨k, rfl⟩ := Int.eq_ofNat_of_zero_le ha
  subst hab
  refine slice_strN_ss (s := ⟨hp, gn, dr, tk, os⟩) hF hN (fun h' t' k' F' N' => ?_) hs ht (by rw [Tx_length, sizeLine_eq]; omega)
  have := h h' t' k' F' N'
  rw [show ((k : Int) + 2) = ((k + 2 : Nat) : Int) by omega, slice_two l k (k + 2) (by omega), show k + 2 - k = 2 by omega]
  exact this
end
section
variable {M : Model} {A : Around} {E : Value → Shared → Prop} {hp : Heap} {gn : Array GenState} {dr : Drawn} {tk : Nat} {os : OsState} {Q : Value → Shared → Prop}
theorem const_T {x : Str} {n : Nat} {pos : Pos} {env : Env} (h : ∀ t k, Q (.str (Tx x.cps.toList) t) ⟨hp, gn, dr, k, os⟩) : wpAny M A (eval (.Constant (.str x) n pos) env) Q E ⟨hp, gn, dr, tk, os⟩ := by
  show wpAny M A (mkText x) Q E ⟨hp, gn, dr, tk, os⟩
  refine wpAny_mkText (s := ⟨hp, gn, dr, tk, os⟩) ?_
  have := h tk (tk + 1)
  rw [Tx_of] at this
  exact this
end
theorem lit_e : (Str.ofString "").cps.toList = [] := rfl
theorem lit_dot : (Str.ofString ".").cps.toList = [46] := rfl
theorem lit_dots : (Str.ofString "..").cps.toList = [46, 46] := rfl
theorem lit_menu : (Str.ofString "a.=\\").cps.toList = [97, 46, 61, 92] := rfl
theorem lit_tail : (Str.ofString "a=aa=").cps.toList = [97, 61, 97, 97, 61] := rfl
theorem lit_q : (Str.ofString "?").cps.toList = [63] := rfl
theorem lit_sp : (Str.ofString " ").cps.toList = [32] := rfl
theorem lit_eq : (Str.ofString "=").cps.toList = [61] := rfl
theorem lit_tab : (Str.ofString "\t").cps.toList = [9] := rfl
theorem lit_nl : (Str.ofString "\n").cps.toList = [10] := rfl
theorem lit_nlsp : (Str.ofString "\n ").cps.toList = [10, 32] := rfl
theorem lit_mid : (Str.ofString " \n \t\n").cps.toList = [32, 10, 32, 9, 10] := rfl
theorem lit_spnl : (Str.ofString " \n").cps.toList = [32, 10] := rfl
def caps : List Nat := (List.range 26).map (65 + ·)
theorem lit_caps : (Str.ofString "ABCDEFGHIJKLMNOPQRSTUVWXYZ").cps.toList = caps := by decide +kernel
theorem allLt_all {d : Addr} {l : List (Addr × Obj)} (h : AllLt d l) : ∀ p ∈ l, p.1 < d := by
  induction l with
  | nil => intro p hp; cases hp
  | cons q r ih =>
    intro p hp
    rcases List.mem_cons.mp hp with e | hp
    · rw [e]; exact h.1
    · exact ih h.2 p hp
theorem kstB_self {m : Str → Option Value} {ps : List (Str × Value)} (h : ∀ p ∈ ps, m p.1 = some p.2) : m = kstB m ps := by
  funext z
  exact (kstB_eq h fun _ => rfl).symm
end Mine
end

noncomputable section
open PySem PySem.W PyProof.Rows PySem.Spec PySem.Builtin PySem.Builtin.Str
namespace Mine
open StrLaws
theorem at_iff (x y : List Nat) (i : Nat) : At (Tx x) (Tx y) (Tx x).length i ↔ i + y.length ≤ x.length ∧ (x.drop i).take y.length = y := by
  unfold At
  rw [subAt_eq, Tx_length, Tx_length]
  show _ ∧ (((x.drop i).take y.length) == y) = true ↔ _
  rw [beq_iff_eq]
theorem sub_T (x : List Nat) (a b : Nat) : strSub (Tx x) a b = Tx ((x.drop a).take (b - a)) := by
  have : (strSub (Tx x) a b).cps.toList = (x.drop a).take (b - a) := strSub_toList ..
  rw [← this, Tx_of]
/-- no occurrence before c -/
theorem putL_skip {x y z : List Nat} (hy : y ≠ []) : ∀ (n a : Nat), a + n ≤ x.length → (∀ k, a ≤ k → k < a + n → ¬ At (Tx x) (Tx y) (Tx x).length k) → putL y z (x.drop a) = (x.drop a).take n ++ putL y z (x.drop (a + n))
  | 0, a, _, _ => by simp
  | n + 1, a, h, hn => by
    have ha : a < x.length := by omega
    have hm : ¬ (x.drop a).take y.length = y := by
      intro e
      refine hn a (Nat.le_refl _) (by omega) ((at_iff ..).mpr ⟨?_, e⟩)
      have := congrArg List.length e
      rw [List.length_take, List.length_drop] at this
      omega
    have ih := putL_skip (x := x) (y := y) (z := z) hy n (a + 1) (by omega) (fun k h1 h2 => hn k (by omega) (by omega))
    rw [List.drop_eq_getElem_cons ha] at hm ⊢
    rw [putL_miss hy hm, List.take_succ_cons, ih, List.cons_append, show a + 1 + n = a + (n + 1) by omega]
theorem putL_none {x y z : List Nat} (hy : y ≠ []) (a : Nat) (ha : a ≤ x.length) (hn : ∀ k, a ≤ k → ¬ At (Tx x) (Tx y) (Tx x).length k) : putL y z (x.drop a) = x.drop a := by
  rw [putL_skip hy (x.length - a) a (by omega) (fun k h1 _ => hn k h1), show a + (x.length - a) = x.length by omega, List.drop_length, putL_nil, List.append_nil, List.take_of_length_le (by simp)]
theorem join_cons2 (z : Str) (p : Str) (l : List Str) (h : l ≠ []) : Str.join z (p :: l) = p ++ z ++ Str.join z l := by
  cases l with
  | nil => exact absurd rfl h
  | cons a r => rfl
theorem put_parts {x y z : List Nat} (hy : y ≠ []) : ∀ (cuts : List Nat) (a f : Nat), a ≤ x.length → ChainG (Tx x) (Tx y) (Tx x).length a cuts f → (∀ k, f ≤ k → ¬ At (Tx x) (Tx y) (Tx x).length k) →
    Str.join (Tx z) (partsFrom (Tx x) (Tx y).length a cuts) = Tx (putL y z (x.drop a))
  | [], a, f, ha, h, hn => by
    have e : f = a := h
    subst e
    show strSub (Tx x) f (Tx x).length = _
    rw [sub_T, putL_none hy f ha hn, Tx_length, List.take_of_length_le (by simp)]
  | c :: r, a, f, ha, h, hn => by
    obtain ⟨hac, hAt, hfree, hr⟩ := h
    have hc := (at_iff ..).mp hAt
    have hylen : (Tx y).length = y.length := Tx_length y
    have ih := put_parts (z := z) hy r (c + (Tx y).length) f (by rw [Tx_length]; exact hc.1) hr hn
    obtain ⟨p, q, e⟩ := partsFrom_ne (Tx x) (Tx y).length (c + (Tx y).length) r
    show Str.join (Tx z) (strSub (Tx x) a c :: partsFrom (Tx x) (Tx y).length (c + (Tx y).length) r) = _
    rw [join_cons2 _ _ _ (by rw [e]; simp), ih, sub_T, Tx_append, Tx_append]
    congr 1
    rw [putL_skip (x := x) (y := y) (z := z) hy (c - a) a (by omega) (fun k h1 h2 => hfree k h1 (by omega)), show a + (c - a) = c by omega, List.append_assoc]
    congr 1
    have hne : x.drop c ≠ [] := by
      intro e0
      have h2 := hc.2
      rw [e0] at h2
      simp at h2
      exact hy h2
    rw [putL_hit hy hne hc.2, List.drop_drop, hylen]
theorem kind_occ {x y : List Nat} {i : Nat} (h : (x.drop i).take y.length = y) : Builtin.Str.strKind (Tx y) ≤ Builtin.Str.strKind (Tx x) := by
  have hm : ∀ c ∈ y, c ∈ x := fun c hc => by rw [← h] at hc; exact List.mem_of_mem_drop (List.mem_of_mem_take hc)
  have hall : ∀ B : Nat, (Tx x).cps.all (· < B) = true → (Tx y).cps.all (· < B) = true := fun B hB => by
    simp only [Tx, List.all_toArray, List.all_eq_true, decide_eq_true_eq] at hB ⊢
    exact fun c hc => hB c (hm c hc)
  unfold Builtin.Str.strKind
  by_cases a1 : (Tx x).cps.all (· < 256) = true
  · rw [if_pos a1, if_pos (hall _ a1)]; exact Nat.le_refl _
  · rw [if_neg a1]
    by_cases a2 : (Tx x).cps.all (· < 65536) = true
    · rw [if_pos a2, if_pos (hall _ a2)]; split <;> omega
    · rw [if_neg a2]; split
      · omega
      · split <;> omega
/-- split and join put one text in the other's place, from the left -/
theorem join_split_put {x y : List Nat} (z : List Nat) (hy : y ≠ []) : Txt.join (Tx z) (Txt.split (Tx x) (Tx y)) = Tx (putL y z x) := by
  show glued (Tx z) _ = _
  rw [glued_eq_join]
  have hyl : 1 ≤ (Tx y).length := by rw [Tx_length]; exact List.length_pos_iff.mpr hy
  obtain ⟨f, hf, hn⟩ := occ_tight (Tx x) (Tx y) hyl
  have whole : (∀ i, ¬ At (Tx x) (Tx y) (Tx x).length i) → Tx x = Tx (putL y z x) := fun h => by
    have := putL_none (x := x) (y := y) (z := z) hy 0 (Nat.zero_le _) (fun k _ => h k)
    rw [List.drop_zero] at this
    rw [this]
  unfold Txt.split
  split
  · rename_i h
    refine whole fun i hi => ?_
    have := (at_iff ..).mp hi
    rw [Bool.or_eq_true, decide_eq_true_eq, decide_eq_true_eq, Tx_length, Tx_length] at h
    rcases h with h | h
    · omega
    · have := kind_occ this.2; omega
  · split
    · rename_i h
      refine whole fun i hi => ?_
      rw [List.isEmpty_iff.mp h] at hf
      have e : f = 0 := hf
      exact hn i (by omega) hi
    · rw [partsBetween_eq]
      have := put_parts (z := z) hy _ 0 f (Nat.zero_le _) hf hn
      rw [List.drop_zero] at this
      exact this
theorem split_fits {x y z : List Nat} (hx : x.length ≤ 1000) (hz : z.length ≤ 1000) : JoinOk (Tx z) (Txt.split (Tx x) (Tx y)) = true := by
  unfold JoinOk
  rw [Bool.not_eq_true']
  have hl := split_le (Tx x) (Tx y)
  rw [Tx_length] at hl
  refine joinFits (B := 1000) ?_ ?_
  · intro p hp
    have : p.length ≤ (Tx x).length := by
      unfold Txt.split at hp
      split at hp
      · rw [List.mem_singleton.mp hp]; exact Nat.le_refl _
      · split at hp
        · rw [List.mem_singleton.mp hp]; exact Nat.le_refl _
        · rw [partsBetween_eq] at hp
          exact partsFrom_short _ _ _ _ p hp
    rw [Tx_length] at this; omega
  · rw [Tx_length]
    have : (Txt.split (Tx x) (Tx y)).length ≤ 1002 := by omega
    have h2 : (Txt.split (Tx x) (Tx y)).length * z.length ≤ 1002 * 1000 := Nat.mul_le_mul this hz
    omega
end Mine
end

noncomputable section
open PySem PySem.W PyProof.Rows PySem.Spec PySem.Builtin.Str
set_option maxRecDepth 100000
set_option maxHeartbeats 4000000
namespace Mine
abbrev tupO (vs : List Value) : Obj := { cls := .type "tuple", data := .seq vs.toArray }
theorem enter_rest {prog : Program} {w : World} {A : Around} {R : Result → Shared → Prop} {s : Shared} {name : Str} {params : Arguments} {body : List Stmt} {scope : Scope}
    {pm cd doc : Value} {a : Addr} {o : Obj} {args vs : List Value} {n1 n2 : Str} {v1 : Value}
    (hroom : A.depth < recursionLimit) (ho : s.heap.get? a = some o) (hdata : o.data = .func (Calls.docDef name params body scope pm cd doc)) (hlim : s.heap.NoLimit) (hcd : s.heap.CodeRec cd name)
    (hbind : bindArgs (Calls.docDef name params body scope pm cd doc) ⟨args, []⟩ = (newTuple vs >>= fun t => pure [(n1, v1), (n2, t)]))
    (hz : vs.length ≤ 1000000)
    (hloc : ∀ v, (([(n1, v1), (n2, v)] : List (Str × Value)).all fun x => decide (scope.names.lookup x.1 = some .local)) = true) (hnd : [n1, n2].Nodup)
    (h : ∀ D L h₁ tk, Fr s.heap L h₁ (kstB (fun _ => none) [(n1, v1), (n2, .ref D)]) → News s.heap L h₁ [(D, tupO vs)] →
      wpAny (model prog w) (A.deeper (envOf name scope L a cd)) (execs body (envOf name scope L a cd))
        (fun f s' => R (.ok (.ret (match f with | .ret v => v | _ => .none))) s') (fun _ _ => False)
        { s with heap := h₁, toks := tk })
    (hco : scope.isCoroutine = false := by rfl) (hgen : scope.isGenerator = false := by rfl) (hk : scope.kind = .function := by rfl)
    (hcell : ∀ x ∈ scope.names, x.2 ≠ .cell := by decide) :
    codeAny (model prog w) A (.call (.ref a) ⟨args, []⟩) R s := by
  refine codeAny_call_function hroom ho hdata hco hgen rfl hcd ?_
  rw [hbind]
  refine wpAny_bind (wpAny_newObj_type ?_ (by show vs.toArray.size ≤ sizeLine; rw [List.size_toArray, sizeLine_eq]; omega))
  refine wpAny_pure (wpAny_newFunctionEnv hcell (locs (hloc _)) (fun h₁ hns hsb => ⟨(hlim.keeps fun b o e => Heap.get?_push_of_some _ e).fresh _ hsb, ?_⟩) hk)
  have hk₁ : ∀ b o, (s.heap.push (tupO vs)).get? b = some o → h₁.get? b = some o := fun b o e => hsb.extBut b o (Nat.ne_of_lt (Heap.lt_size e)) (Heap.get?_push_of_some _ e)
  refine codeAny_func (wpAny_mono (h s.heap.objs.size (s.heap.push (tupO vs)).objs.size h₁ _ ⟨?_, fun b o e => hk₁ b o (Heap.get?_push_of_some _ e), ?_⟩ ?_) (fun _ _ x => x) (fun _ _ x => x.elim))
  · have e := lookup_rev (l := [(n1, v1), (n2, Value.ref s.heap.objs.size)]) (by simpa using hnd)
    rw [e, lookup_kstB] at hns
    exact hns
  · rw [Heap.size_push]; omega
  · intro p hp
    rw [List.mem_singleton.mp hp]
    refine ⟨hk₁ _ _ (Heap.get?_push_size _ rfl), ?_, ?_⟩
    · show s.heap.objs.size ≠ (s.heap.push (tupO vs)).objs.size
      rw [Heap.size_push]; omega
    · show s.heap.get? s.heap.objs.size = none
      cases e : s.heap.get? s.heap.objs.size with
      | none => rfl
      | some o => exact absurd (Heap.lt_size e) (Nat.lt_irrefl _)

/-- replacements, one after the other -/
def repL (rs : List (List Nat × List Nat)) (x : List Nat) : List Nat := rs.foldl (fun t r => putL r.1 r.2 t) x
def flatL (rs : List (List Nat × List Nat)) : List (List Nat) := rs.flatMap fun r => [r.1, r.2]
theorem flatL_cons (r : List Nat × List Nat) (rs) : flatL (r :: rs) = r.1 :: r.2 :: flatL rs := rfl
theorem flatL_len : ∀ rs, (flatL rs).length = 2 * rs.length
  | [] => rfl
  | r :: q => by rw [flatL_cons, List.length_cons, List.length_cons, flatL_len q, List.length_cons]; omega
theorem repL_snoc (rs) (r : List Nat × List Nat) (x) : repL (rs ++ [r]) x = putL r.1 r.2 (repL rs x) := by simp [repL]

theorem All2.uncons {α β : Type} {R : α → β → Prop} {l : List α} {b : β} {r : List β} (h : All2 R l (b :: r)) : ∃ a l', l = a :: l' ∧ R a b ∧ All2 R l' r := by
  cases h with
  | cons p q => exact ⟨_, _, rfl, p, q⟩
theorem bind_rest {fd : FuncData} {n1 n2 : Str} {v1 : Value} {vs : List Value} (h1 : fd.params.posonlyargs = []) (h2 : fd.params.args.map (·.arg) = [n1]) (h3 : fd.params.vararg.map (·.arg) = some n2) (h4 : fd.params.kwonlyargs = []) (h5 : fd.params.kwarg = none) (h6 : fd.defaults = .none) (h7 : fd.kwdefaults = .none) :
    bindArgs fd ⟨v1 :: vs, []⟩ = (newTuple vs >>= fun t => pure [(n1, v1), (n2, t)]) := by
  obtain ⟨a2, h3', rfl⟩ := Option.map_eq_some_iff.mp h3
  clear h3
  have e : seqItems? Value.none = pure none := rfl
  unfold bindArgs
  simp only [h1, h2, h3', h4, h5, h6, h7, e]
  simp
theorem flat_uncons {vs : List Value} {r} {rs : List (List Nat × List Nat)} (h : TxsAre vs (flatL (r :: rs))) : ∃ u1 u2 ws, vs = .str (Tx r.1) u1 :: .str (Tx r.2) u2 :: ws ∧ TxsAre ws (flatL rs) := by
  rw [flatL_cons] at h
  obtain ⟨v1, l1, e1, ⟨u1, e2⟩, h⟩ := h.uncons
  obtain ⟨v2, l2, e3, ⟨u2, e4⟩, h⟩ := h.uncons
  exact ⟨u1, u2, l2, by rw [e1, e2, e3, e4], h⟩
section
variable {prog : Program} {w : World} {A : Around} {E : Value → Shared → Prop} {hp : Heap} {gn : Array GenState} {dr : Drawn} {tk : Nat} {os : OsState} {h₀ : Heap} {L : Addr} {m : Str → Option Value} {news news' : List (Addr × Obj)} {Q : Value → Shared → Prop} {t u : Tok} {l r : List Nat} {value slice : Expr}
theorem News.tup {D : Addr} {vs : List Value} (N : News h₀ L hp news) (hm : (D, tupO vs) ∈ news) : IsTup hp D vs.toArray := ⟨_, (N _ hm).1, rfl, _, rfl⟩
/-- a written item of a tuple at hand -/
theorem itemTup_T {a : Addr} {vs : List Value} {v : Value} {k : Int} {u : Tok} (N : News h₀ L hp news) (hm : (a, tupO vs) ∈ news) (h0 : 0 ≤ k) (hk : k < 2 ^ 63) (hv : vs[k.toNat]? = some v) (h : Q v ⟨hp, gn, dr, tk, os⟩)
    (hs : subscripted slice false (.ref a) (.int k u) = operate [.ref a, .int k u] (getItem (.ref a) (.int k u)) := by with_unfolding_all rfl) :
    wpAny (model prog w) A (subscriptTail value slice (.ref a) (.int k u)) Q E ⟨hp, gn, dr, tk, os⟩ := by
  have hlt : k.toNat < vs.length := (List.getElem?_eq_some_iff.mp hv).1
  refine item_tupleT (s := ⟨hp, gn, dr, tk, os⟩) (News.tup N hm) (by omega) hk (j := k.toNat) ?_ hv h hs
  unfold seqIndex?
  have : (decide (0 ≤ k) && decide (k < (vs.length : Int))) = true := by simp; omega
  simp only [if_neg (show ¬ k < 0 by omega), this, if_true]
theorem fromTup_T {a : Addr} {vs : List Value} {k : Nat} {u : Tok} (F : Fr h₀ L hp m) (N : News h₀ L hp news) (hm : (a, tupO vs) ∈ news) (h1 : 1 ≤ k) (hk : k ≤ vs.length) (hz : vs.length ≤ 1000000)
    (h : ∀ D h', Fr h₀ L h' m → News h₀ L h' ((D, tupO (vs.drop k)) :: news) → Q (.ref D) ⟨h', gn, dr, tk, os⟩)
    (hs : subscripted slice false (.ref a) (.ref hp.objs.size) = operate [.ref hp.objs.size, .ref a] (getItem (.ref a) (.ref hp.objs.size)) := by with_unfolding_all rfl)
    (hg : ∀ r, letTemporaryGo value (.ref a) r = pure () := by intro _; with_unfolding_all rfl) :
    wpAny (model prog w) A (subscriptTail value slice (.ref a) (.ref hp.objs.size)) Q E ⟨hp.push { cls := .type "slice", data := .fields #[.int (k : Int) u, .none, .none] }, gn, dr, tk, os⟩ := by
  refine slice_tuple_from (s := ⟨hp, gn, dr, tk, os⟩) F N (News.tup N hm) h1 (by simpa using hk) (fun h' F' N' => ?_) hs hg (by rw [List.size_toArray, sizeLine_eq]; omega)
  have := h (hp.objs.size + 1) h' F' (by simpa using N')
  exact this
theorem truthTup_T {a : Addr} {vs : List Value} {Q : Bool → Shared → Prop} (N : News h₀ L hp news) (hm : (a, tupO vs) ∈ news) (hz : vs.length ≤ 1000000) (h : ∀ tk, Q (!vs.isEmpty) ⟨hp, gn, dr, tk, os⟩) :
    wpAny (model prog w) A (truthy (.ref a)) Q E ⟨hp, gn, dr, tk, os⟩ := by
  refine truthy_tuple (s := ⟨hp, gn, dr, tk, os⟩) (News.tup N hm) (by rw [List.size_toArray]; omega) ?_
  rw [List.isEmpty_toArray]; exact h _
theorem split_T {x y : List Nat} {t u : Tok} (F : Fr h₀ L hp m) (N : News h₀ L hp news) (hy : y ≠ []) (hx : x.length ≤ 1000000)
    (h : ∀ D h' tk' l, l.map (·.1) = Txt.split (Tx x) (Tx y) → Fr h₀ L h' m → News h₀ L h' ((D, listOf (strValues l).toArray 0) :: news) → Q (.ref D) ⟨h', gn, dr, tk', os⟩) :
    wpAny (model prog w) A (call (.builtin "str.split") [.str (Tx x) t, .str (Tx y) u]) Q E ⟨hp, gn, dr, tk, os⟩ := by
  refine splitN1 (s := ⟨hp, gn, dr, tk, os⟩) F N ?_ (fun l h' k e F' N' => h _ h' k l e F' N') (by rw [Tx_length, sizeLine_eq]; omega)
  rw [Tx_length, beq_eq_false_iff_ne]
  exact fun e => hy (List.eq_nil_of_length_eq_zero e)
theorem join_T {x y z : List Nat} {D : Addr} {l : List (Str × Tok)} {t : Tok} {n : Nat} (N : News h₀ L hp news) (hm : (D, listOf (strValues l).toArray n) ∈ news) (e : l.map (·.1) = Txt.split (Tx x) (Tx y)) (hy : y ≠ []) (hx : x.length ≤ 1000) (hz : z.length ≤ 1000)
    (h : ∀ t k, Q (.str (Tx (putL y z x)) t) ⟨hp, gn, dr, k, os⟩) : wpAny (model prog w) A (call (.builtin "str.join") [.str (Tx z) t, .ref D]) Q E ⟨hp, gn, dr, tk, os⟩ := by
  refine SC.join (s := ⟨hp, gn, dr, tk, os⟩) ⟨_, (N _ hm).1, rfl, n, rfl⟩ e (split_fits hx hz) (fun t' k => ?_)
  rw [join_split_put z hy]
  exact h t' k
end

theorem c_rep : ∀ {w : World} {p : Program} {loose : List Str} {mean : ExcName → Option Value} {mg mb : Str → Option Value} {A : Around} {s : Shared} {Q E : Value → Shared → Prop}
   (X : (hd.heap_39 w.params).In s.heap) (T : Top p loose mean mg mb s.heap) (hdp : A.depth < recursionLimit)
   {x : List Nat} {t1 : Tok} {rs : List (List Nat × List Nat)} {vs : List Value} (hv : TxsAre vs (flatL rs)) (hrl : rs.length ≤ 400)
   (hr : ∀ r ∈ rs, r.1 ≠ [] ∧ r.2.length ≤ 1000) (hb : ∀ k, (repL (rs.take k) x).length ≤ 1000)
   (hret : ∀ t h' tk', Kp s.heap h' → Q (.str (Tx (repL rs x)) t) {s with heap := h', toks := tk'}),
   wpAny (model PySem.Challenge.rw_il0159_01.prog w) A (call (.ref 53) (.str (Tx x) t1 :: vs)) Q E s := by
  k_with_none
  k_with "call builtin:str.split" => (k_here; (with_reducible rename Fr _ _ _ _ => F'); (with_reducible rename News _ _ _ _ => N'); refine split_T F' N' (by assumption) (by omega) ?_; intro _ _ _ _ _ _ _; clear F' N')
  k_with "call builtin:str.join" => (k_here; (with_reducible rename News _ _ _ _ => N'); refine join_T N' (by k_mem) (by assumption) (by assumption) (by omega) (by omega) ?_; intro _ _)
  k_with "truthy ref" => (k_here; (with_reducible rename News _ _ _ _ => N'); refine truthTup_T N' (by k_mem) (by omega) ?_; intro _)
  k_with "subscriptTail Name Constant ref int" => (k_here; (with_reducible rename News _ _ _ _ => N'); refine itemTup_T N' (by k_mem) (by decide) (by decide) rfl ?_)
  k_with "subscriptTail Name Slice ref ref" => (k_here; (with_reducible rename Fr _ _ _ _ => F'); (with_reducible rename News _ _ _ _ => N'); refine fromTup_T F' N' (by k_mem) (by decide) (by simp) (by omega) ?_; intro _ _ _ _; clear F' N')
  k_fill
  intro w p loose mean mg mb A s Q E X T hdp x t1 rs vs hv hrl hr hb hret
  have hvl : vs.length = 2 * rs.length := by rw [hv.length, flatL_len]
  refine wpAny_call (enter_rest (vs := vs) (n1 := "text") (n2 := "pairs") (v1 := .str (Tx x) t1) hdp (X 53 _ (by k_is)) rfl T.nolimit (codeRec_of X (by k_is)) ?_ (by omega) (fun _ => rfl) (by with_unfolding_all exact (by decide : List.Nodup [("text" : Str), "pairs"])) (fun D L h₁ tk F N => ?_))
  · refine bind_rest ?_ ?_ ?_ ?_ ?_ ?_ ?_ <;> rfl
  iterate 4 walk1
  rename Fr _ _ _ _ => F2
  rename News _ _ _ _ => N2
  refine ksw_while (σ := ((List (List Nat × List Nat) × List (List Nat × List Nat)) × List Value) × (Tok × Addr)) (fun c => [(c.2.2, tupO c.1.2)]) (fun c => [(Str.ofString "text", .str (Tx (repL c.1.1.1 x)) c.2.1), (Str.ofString "pairs", .ref c.2.2)]) (fun _ => True) [] (fun c => c.1.1.1 ++ c.1.1.2 = rs ∧ TxsAre c.1.2 (flatL c.1.1.2)) (fun c => c.1.1.2.length) ((([], rs), vs), (t1, D)) F2 (by exact N2) trivial ?_ ⟨rfl, hv⟩ ?_ PassesOwn.never
  · kst_all
  · clear F2 N2
    rintro ⟨⟨⟨done, todo⟩, ws⟩, a, D2⟩ u h tk _ hP F N
    obtain ⟨hP, hl⟩ := hP
    dsimp only at F hl hP N ⊢
    have hxl : (repL done x).length ≤ 1000 := by
      have := hb done.length
      rwa [← hP, List.take_left'] at this
      rfl
    cases todo with
    | nil =>
      have : ws = [] := by cases hl; rfl
      subst this
      have hvl2 : ([] : List Value).length = 0 := rfl
      k_steps
      rw [List.append_nil] at hP
      subst hP
      exact hret _ _ _ F.keep
    | cons r todo =>
      obtain ⟨u1, u2, ws', rfl, hl'⟩ := flat_uncons hl
      have hr1 := hr r (by rw [← hP]; simp)
      obtain ⟨hr1, hr2⟩ := hr1
      have hwl : (Value.str (Tx r.1) u1 :: Value.str (Tx r.2) u2 :: ws').length ≤ 1000 := by
        have e1 := hl.length
        have : (flatL (r :: todo)).length = 2 * (r :: todo).length := flatL_len _
        have e3 : (done ++ r :: todo).length = rs.length := by rw [hP]
        rw [List.length_append] at e3
        omega
      k_steps
      · exfalso; rename_i h0; exact absurd h0 (by simp)
      · rename Fr _ _ _ _ => F3
        rename News _ _ _ _ => N3
        rename_i t' _ _ D' _ _
        refine ksw_end (((done ++ [r], todo), ws'), (t', D')) F3 N3 (fun p hp => ?_) trivial ?_ (by intro q h2 _; simp only [List.forall_mem_cons, List.not_mem_nil, false_implies, implies_true, and_true, ne_eq] at h2; simp [kstB, h2.1, h2.2]) ⟨?_, hl'⟩ ?_
        · rw [List.mem_singleton.mp hp]; exact .head _
        · dsimp only
          rw [repL_snoc]
          kst_all
        · rw [← hP]; simp
        · simp
theorem rep_T {w : World} {p : Program} {loose : List Str} {mean : ExcName → Option Value} {mg mb : Str → Option Value} {A : Around} {hp : Heap} {gn : Array GenState} {dr : Drawn} {tk : Nat} {os : OsState} {Q E : Value → Shared → Prop}
   (X : (hd.heap_39 w.params).In hp) (T : Top p loose mean mg mb hp) (hdp : A.depth < recursionLimit)
   {x : List Nat} {t1 : Tok} {rs : List (List Nat × List Nat)} {vs : List Value} (hv : TxsAre vs (flatL rs)) (hrl : rs.length ≤ 400)
   (hr : ∀ r ∈ rs, r.1 ≠ [] ∧ r.2.length ≤ 1000) (hb : ∀ k, (repL (rs.take k) x).length ≤ 1000)
   (hret : ∀ t h' tk', Kp hp h' → Q (.str (Tx (repL rs x)) t) ⟨h', gn, dr, tk', os⟩) :
   wpAny (model PySem.Challenge.rw_il0159_01.prog w) A (call (.ref 53) (.str (Tx x) t1 :: vs)) Q E ⟨hp, gn, dr, tk, os⟩ :=
  c_rep (s := ⟨hp, gn, dr, tk, os⟩) X T hdp hv hrl hr hb hret
end Mine
end

noncomputable section
open PySem PySem.W PyProof.Rows PySem.Spec PySem.Builtin PySem.Builtin.Str
namespace Mine
open StrLaws
/-- texts with a sign between them -/
noncomputable def joinL (c : Nat) : List (List Nat) → List Nat
  | [] => []
  | [p] => p
  | p :: q :: r => p ++ c :: joinL c (q :: r)
theorem joinL_cons2 (c : Nat) (p : List Nat) {r : List (List Nat)} (h : r ≠ []) : joinL c (p :: r) = p ++ c :: joinL c r := by
  cases r with
  | nil => exact absurd rfl h
  | cons q r => rfl
theorem join_T' (c : Nat) : ∀ ps : List (List Nat), Str.join (Tx [c]) (ps.map Tx) = Tx (joinL c ps)
  | [] => rfl
  | [p] => rfl
  | p :: q :: r => by
    rw [List.map_cons, join_cons2 _ _ _ (by simp), join_T' c (q :: r), Tx_append, Tx_append, joinL_cons2 c p (by simp), List.append_assoc]; rfl
theorem cut_eq {c : Nat} : ∀ {a b x y : List Nat}, c ∉ a → c ∉ b → a ++ c :: x = b ++ c :: y → a = b ∧ x = y
  | [], [], x, y, _, _, h => by simpa using h
  | [], d :: b, x, y, _, hb, h => by
    rw [List.nil_append, List.cons_append] at h
    injection h with h1 _
    exact absurd (by rw [h1]; exact .head _) hb
  | d :: a, [], x, y, ha, _, h => by
    rw [List.nil_append, List.cons_append] at h
    injection h with h1 _
    exact absurd (by rw [← h1]; exact .head _) ha
  | d :: a, e :: b, x, y, ha, hb, h => by
    rw [List.cons_append, List.cons_append] at h
    injection h with h1 h2
    obtain ⟨e1, e2⟩ := cut_eq (fun q => ha (.tail _ q)) (fun q => hb (.tail _ q)) h2
    exact ⟨by rw [h1, e1], e2⟩
theorem joinL_inj {c : Nat} : ∀ {p q : List (List Nat)}, p ≠ [] → q ≠ [] → (∀ a ∈ p, c ∉ a) → (∀ a ∈ q, c ∉ a) → joinL c p = joinL c q → p = q
  | [], _, h, _, _, _, _ => absurd rfl h
  | _, [], _, h, _, _, _ => absurd rfl h
  | [a], [b], _, _, _, _, h => by rw [show a = b from h]
  | [a], b :: q :: r, _, _, hp, _, h => by
    have : c ∈ a := by rw [show a = _ from h]; simp [joinL]
    exact absurd this (hp a (.head _))
  | a :: q :: r, [b], _, _, _, hq, h => by
    have : c ∈ b := by rw [show b = _ from h.symm]; simp [joinL]
    exact absurd this (hq b (.head _))
  | a :: p :: r, b :: q :: t, _, _, hp, hq, h => by
    rw [joinL_cons2 c a (by simp), joinL_cons2 c b (by simp)] at h
    obtain ⟨e1, e2⟩ := cut_eq (hp a (.head _)) (hq b (.head _)) h
    have := joinL_inj (p := p :: r) (q := q :: t) (by simp) (by simp) (fun x hx => hp x (.tail _ hx)) (fun x hx => hq x (.tail _ hx)) e2
    rw [e1, this]
theorem split_ne (x y : Str) : Txt.split x y ≠ [] := by
  intro e; have := split_pos x y; rw [e] at this; simp at this
/-- a text cut at a sign that its parts do not have -/
theorem split_parts {c : Nat} {ps : List (List Nat)} (h : ps ≠ []) (hc : ∀ p ∈ ps, c ∉ p) : Txt.split (Tx (joinL c ps)) (Tx [c]) = ps.map Tx := by
  have hf := split_free (Tx (joinL c ps)) c
  have hj := join_split (Tx (joinL c ps)) (Tx [c])
  have hne := split_ne (Tx (joinL c ps)) (Tx [c])
  have hf' : ∀ p ∈ Txt.split (Tx (joinL c ps)) (Tx [c]), c ∉ p.cps.toList := hf
  generalize Txt.split (Tx (joinL c ps)) (Tx [c]) = R at hf' hj hne
  have eR : R = (R.map fun q => q.cps.toList).map Tx := by
    rw [List.map_map]
    have : (Tx ∘ fun q : Str => q.cps.toList) = _root_.id := by funext q; exact Tx_of q
    rw [this, List.map_id]
  rw [eR, join_T'] at hj
  rw [eR]
  congr 1
  refine joinL_inj (c := c) (by simpa using hne) h (fun a ha => ?_) hc (Tx_inj hj)
  obtain ⟨q, hq, rfl⟩ := List.mem_map.mp ha
  exact hf' q hq
theorem takeWhile_stop {f : Nat → Bool} : ∀ {a r : List Nat}, (∀ c ∈ a, f c = true) → (∀ c, r.head? = some c → f c = false) → (a ++ r).takeWhile f = a
  | [], r, _, h => by
    cases r with
    | nil => rfl
    | cons c r => rw [List.nil_append, List.takeWhile_cons, h c rfl]; rfl
  | d :: a, r, ha, h => by
    rw [List.cons_append, List.takeWhile_cons, ha d (.head _), if_pos rfl, takeWhile_stop (fun c hc => ha c (.tail _ hc)) h]
/-- blanks about a text -/
theorem strip_mid {a m b : List Nat} (ha : ∀ c ∈ a, Unicode.isSpace c = true) (hb : ∀ c ∈ b, Unicode.isSpace c = true) (hm : m ≠ []) (h1 : ∀ c, m.head? = some c → Unicode.isSpace c = false) (h2 : ∀ c, m.getLast? = some c → Unicode.isSpace c = false) :
    Txt.strip (Tx (a ++ (m ++ b))) = Tx m := by
  unfold Txt.strip
  rw [PyProof.Rows.stripBy_eq, sub_T]
  have hlo : stripLo Unicode.isSpace true (Tx (a ++ (m ++ b))) = a.length := by
    show ((a ++ (m ++ b)).takeWhile _).length = _
    rw [takeWhile_stop ha]
    intro c hc
    refine h1 c ?_
    cases m with
    | nil => exact absurd rfl hm
    | cons d r => simpa using hc
  rw [hlo]
  have hhi : stripHi Unicode.isSpace true (Tx (a ++ (m ++ b))) a.length = a.length + m.length := by
    show (Tx (a ++ (m ++ b))).length - (((a ++ (m ++ b)).drop a.length).reverse.takeWhile _).length = _
    rw [List.drop_left', List.reverse_append, takeWhile_stop (by simpa using hb)]
    · rw [Tx_length]; simp only [List.length_append, List.length_reverse]; omega
    · intro c hc; rw [List.head?_reverse] at hc; exact h2 c hc
    · rfl
  rw [hhi]
  congr 1
  rw [List.drop_left' rfl, show a.length + m.length - a.length = m.length by omega, List.take_left' rfl]
theorem rstrip_all {b : List Nat} (hb : ∀ c ∈ b, Unicode.isSpace c = true) : Txt.rstrip (Tx b) = Tx [] := by
  unfold Txt.rstrip
  rw [PyProof.Rows.stripBy_eq, sub_T]
  have hlo : stripLo Unicode.isSpace false (Tx b) = 0 := rfl
  rw [hlo]
  have hhi : stripHi Unicode.isSpace true (Tx b) 0 = 0 := by
    show (Tx b).length - ((b.drop 0).reverse.takeWhile _).length = _
    have : b.reverse.takeWhile Unicode.isSpace = b.reverse := by
      have := takeWhile_stop (f := Unicode.isSpace) (a := b.reverse) (r := []) (by simpa using hb) (fun c h => nomatch h)
      simpa using this
    rw [List.drop_zero, this, Tx_length, List.length_reverse]; omega
  rw [hhi]; rfl
theorem sp32 : Unicode.isSpace 32 = true := by decide +kernel
theorem sp9 : Unicode.isSpace 9 = true := by decide +kernel
theorem sp10 : Unicode.isSpace 10 = true := by decide +kernel
/-- no blank: the signs of this law's texts -/
def ink (c : Nat) : Prop := Unicode.isSpace c = false
theorem ink_ne10 {c : Nat} (h : ink c) : c ≠ 10 := by rintro rfl; rw [ink, sp10] at h; cases h
theorem ink_ne32 {c : Nat} (h : ink c) : c ≠ 32 := by rintro rfl; rw [ink, sp32] at h; cases h
theorem ink_small : ∀ c ∈ [46, 61, 92, 97] ++ caps, ink c := by
  have : ([46, 61, 92, 97] ++ caps).all (fun c => !Unicode.isSpace c) = true := by decide +kernel
  intro c hc
  have := List.all_eq_true.mp this c hc
  simpa [ink] using this
end Mine
end

noncomputable section
open PySem PySem.W PyProof.Rows PySem.Spec PySem.Builtin.Str
set_option maxRecDepth 100000
set_option maxHeartbeats 4000000
namespace Mine
theorem txs_strs : ∀ {l : List (Str × Tok)} {ps : List (List Nat)}, l.map (·.1) = ps.map Tx → TxsAre (strValues l) ps
  | [], [], _ => .nil
  | (a, t) :: l, p :: ps, h => by
    rw [List.map_cons, List.map_cons] at h
    injection h with h1 h2
    exact .cons ⟨t, by rw [← h1]⟩ (txs_strs h2)
theorem two_uncons {vs : List Value} {a b} {rs : List (List Nat)} (h : TxsAre vs (a :: b :: rs)) : ∃ u1 u2 ws, vs = .str (Tx a) u1 :: .str (Tx b) u2 :: ws ∧ TxsAre ws rs := by
  obtain ⟨v1, l1, e1, ⟨u1, e2⟩, h⟩ := h.uncons
  obtain ⟨v2, l2, e3, ⟨u2, e4⟩, h⟩ := h.uncons
  exact ⟨u1, u2, l2, by rw [e1, e2, e3, e4], h⟩
theorem strs_txs : ∀ {vs : List Value} {ps : List (List Nat)}, TxsAre vs ps → ∃ l, vs = strValues l ∧ l.map (·.1) = ps.map Tx
  | _, _, .nil => ⟨[], rfl, rfl⟩
  | _, _, .cons (b := b) ⟨t, e⟩ q => by
    obtain ⟨l, e2, e3⟩ := strs_txs q
    refine ⟨(Tx b, t) :: l, ?_, ?_⟩
    · rw [e, e2]; rfl
    · rw [List.map_cons, List.map_cons, e3]
theorem jw_len (z : List Nat) (B : Nat) : ∀ ps : List (List Nat), (∀ p ∈ ps, p.length ≤ B) → JoinOk (Tx z) (ps.map Tx) = true ∨ ¬ ps.length * (B + z.length) ≤ 16777216 := by
  intro ps h
  by_cases hh : ps.length * (B + z.length) ≤ 16777216
  · left
    unfold JoinOk
    rw [Bool.not_eq_true']
    refine StrLaws.joinFits (B := B) ?_ ?_
    · intro y hy
      obtain ⟨p, hp, rfl⟩ := List.mem_map.mp hy
      rw [Tx_length]; exact h p hp
    · rw [List.length_map, Tx_length, ← Nat.mul_add]; exact hh
  · exact .inr hh
section
variable {prog : Program} {w : World} {A : Around} {E : Value → Shared → Prop} {hp : Heap} {gn : Array GenState} {dr : Drawn} {tk : Nat} {os : OsState} {h₀ : Heap} {L : Addr} {m : Str → Option Value} {news news' : List (Addr × Obj)} {Q : Value → Shared → Prop} {t u : Tok} {l r : List Nat} {value slice : Expr}
theorem splitC_T {c : Nat} {ps : List (List Nat)} {x : List Nat} {t u : Tok} (F : Fr h₀ L hp m) (N : News h₀ L hp news) (e : x = joinL c ps) (hne : ps ≠ []) (hc : ∀ p ∈ ps, c ∉ p) (hx : x.length ≤ 1000000)
    (h : ∀ D h' tk' vs, TxsAre vs ps → Fr h₀ L h' m → News h₀ L h' ((D, listOf vs.toArray 0) :: news) → (∀ p ∈ news, p.1 < D) → Q (.ref D) ⟨h', gn, dr, tk', os⟩) :
    wpAny (model prog w) A (call (.builtin "str.split") [.str (Tx x) t, .str (Tx [c]) u]) Q E ⟨hp, gn, dr, tk, os⟩ := by
  subst e
  refine splitN1 (s := ⟨hp, gn, dr, tk, os⟩) F N rfl (fun l h' k e F' N' => h _ h' k (strValues l) ?_ F' N' fun p hp => Heap.lt_size (N p hp).1) (by rw [Tx_length, sizeLine_eq]; omega)
  exact txs_strs (e.trans (split_parts hne hc))
theorem joinC_T {c : Nat} {ps : List (List Nat)} {vs : List Value} {D : Addr} {n : Nat} {t : Tok} (N : News h₀ L hp news) (hm : (D, listOf vs.toArray n) ∈ news) (e : TxsAre vs ps) (B : Nat) (hB : ∀ p ∈ ps, p.length ≤ B) (hz : ps.length * (B + 1) ≤ 16777216)
    (h : ∀ t k, Q (.str (Tx (joinL c ps)) t) ⟨hp, gn, dr, k, os⟩) : wpAny (model prog w) A (call (.builtin "str.join") [.str (Tx [c]) t, .ref D]) Q E ⟨hp, gn, dr, tk, os⟩ := by
  obtain ⟨l, rfl, e2⟩ := strs_txs e
  refine SC.join (s := ⟨hp, gn, dr, tk, os⟩) ⟨_, (N _ hm).1, rfl, n, rfl⟩ e2 ((jw_len [c] B ps hB).resolve_right (fun q => q hz)) (fun t' k => ?_)
  show Q (.str (glued (Tx [c]) _) _) _
  rw [StrLaws.glued_eq_join, join_T']
  exact h t' k
theorem stripC_T {x y : List Nat} {t : Tok} (e : Txt.strip (Tx x) = Tx y) (hx : x.length ≤ 1000000) (h : ∀ t k, Q (.str (Tx y) t) ⟨hp, gn, dr, k, os⟩) : wpAny (model prog w) A (call (.builtin "str.strip") [.str (Tx x) t]) Q E ⟨hp, gn, dr, tk, os⟩ := by
  refine SC.strip (s := ⟨hp, gn, dr, tk, os⟩) (fun t' k => ?_) (by rw [Tx_length, sizeLine_eq]; omega)
  rw [e]; exact h _ _
theorem rstripC_T {x y : List Nat} {t : Tok} (e : Txt.rstrip (Tx x) = Tx y) (hx : x.length ≤ 1000000) (h : ∀ t k, Q (.str (Tx y) t) ⟨hp, gn, dr, k, os⟩) : wpAny (model prog w) A (call (.builtin "str.rstrip") [.str (Tx x) t]) Q E ⟨hp, gn, dr, tk, os⟩ := by
  refine SC.rstrip (s := ⟨hp, gn, dr, tk, os⟩) (fun t' k => ?_) (by rw [Tx_length, sizeLine_eq]; omega)
  rw [e]; exact h _ _
theorem fromList_T {a : Addr} {vs : List Value} {n k : Nat} {u : Tok} (F : Fr h₀ L hp m) (N : News h₀ L hp news) (hm : (a, listOf vs.toArray n) ∈ news) (hk : k ≤ vs.length) (hz : vs.length ≤ 1000000)
    (h : ∀ D h', Fr h₀ L h' m → News h₀ L h' ((D, listOf (vs.drop k).toArray 0) :: news) → (∀ p ∈ news, p.1 < D) → Q (.ref D) ⟨h', gn, dr, tk, os⟩)
    (hs : subscripted slice false (.ref a) (.ref hp.objs.size) = operate [.ref hp.objs.size, .ref a] (getItem (.ref a) (.ref hp.objs.size)) := by with_unfolding_all rfl)
    (hg : ∀ r, letTemporaryGo value (.ref a) r = pure () := by intro _; with_unfolding_all rfl) :
    wpAny (model prog w) A (subscriptTail value slice (.ref a) (.ref hp.objs.size)) Q E ⟨hp.push { cls := .type "slice", data := .fields #[.int (k : Int) u, .none, .none] }, gn, dr, tk, os⟩ := by
  have hl : hp.IsList a vs.toArray := ⟨_, (N _ hm).1, rfl, n, rfl⟩
  refine kms_slice_lit (s := ⟨hp, gn, dr, tk, os⟩) (lo := some (k : Int)) (hi := none) F N hl ?_ ?_ ?_ (fun D h' F' N' l => h D h' F' N' l) hs hg (by rw [List.size_toArray, sizeLine_eq]; omega)
  · exact IsPart.int _ _
  · exact IsPart.none
  · unfold kms_pick kms_lo kms_hi
    simp only
    rw [if_neg (by omega)]
    simp
    rw [Nat.min_eq_left hk, List.take_of_length_le (by simp)]
end

theorem c_doc : ∀ {w : World} {p : Program} {loose : List Str} {mean : ExcName → Option Value} {mg mb : Str → Option Value} {A : Around} {s : Shared} {Q E : Value → Shared → Prop}
   (X : (hd.heap_39 w.params).In s.heap) (T : Top p loose mean mg mb s.heap) (hdp : A.depth < recursionLimit)
   {x first : List Nat} {lines : List (List Nat)} {t1 : Tok}
   (hstrip : Txt.strip (Tx x) = Tx (joinL 10 (first :: [32, 9] :: lines))) (hx : x.length ≤ 1000000) (hll : lines.length ≤ 1000) (hne : lines ≠ []) (hfree : ∀ p ∈ first :: [32, 9] :: lines, 10 ∉ p)
   (hb : ∀ p ∈ lines, p.length ≤ 1000) (hjl : (joinL 10 (first :: [32, 9] :: lines)).length ≤ 1000000)
   (hret : ∀ D t u h' tk', Kp s.heap h' → h'.get? D = some (tupO [.str (Tx first) t, .str (Tx (joinL 10 lines)) u]) → s.heap.get? D = none → Q (.ref D) {s with heap := h', toks := tk'}),
   wpAny (model PySem.Challenge.rw_il0159_01.prog w) A (call (.ref 46) [.str (Tx x) t1]) Q E s := by
  k_with_none
  k_with "eval Constant str" => (k_here; refine const_T ?_; (simp only [lit_e, lit_dot, lit_dots, lit_menu, lit_tail, lit_q, lit_sp, lit_eq, lit_tab, lit_nl, lit_nlsp, lit_mid, lit_spnl, lit_caps]); intro _ _)
  k_with "call builtin:str.strip" => (k_here; refine stripC_T (by assumption) (by assumption) ?_; intro _ _)
  k_with "call builtin:str.rstrip" => (k_here; refine rstripC_T (by assumption) (by decide) ?_; intro _ _)
  k_with "call builtin:str.split" => (k_here; (with_reducible rename Fr _ _ _ _ => F'); (with_reducible rename News _ _ _ _ => N'); refine splitC_T F' N' rfl (by assumption) (by assumption) (by assumption) ?_; intro _ _ _ _ _ _ _ _; clear F' N')
  k_with "call builtin:len" => (k_here; (with_reducible show wpAny _ _ (call (Value.builtin "len") [Value.ref _]) _ _ _); (with_reducible rename News _ _ _ _ => N'); refine lenList_T N' (by k_mem) (by omega) ?_; intro _ _)
  k_with "subscriptTail Name Constant ref int" => (k_here; (with_reducible rename News _ _ _ _ => N'); refine item_T N' (by k_mem) (by decide) (by decide) rfl ?_)
  k_with "subscriptTail Name Slice ref ref" => (k_here; (with_reducible rename Fr _ _ _ _ => F'); (with_reducible rename News _ _ _ _ => N'); refine fromList_T F' N' (by k_mem) (by simp) (by omega) ?_; intro _ _ _ _ _; clear F' N')
  k_with "call builtin:str.join" => (k_here; (with_reducible rename News _ _ _ _ => N'); refine joinC_T N' (by k_mem) (by assumption) 1000 (by assumption) (by omega) ?_; intro _ _)
  k_fill
  intro w p loose mean mg mb A s Q E X T hdp x first lines t1 hstrip hx hll hne hfree hb hjl hret
  have hrs : Txt.rstrip (Tx [32, 9]) = Tx [] := rstrip_all (by simp [sp32, sp9])
  have hne' : first :: [32, 9] :: lines ≠ [] := by simp
  have hll2 : (first :: [32, 9] :: lines).length ≤ 1002 := by simp; omega
  refine wpAny_call (enter_fn (binds := [("doc", .str (Tx x) t1)]) hdp (X 46 _ (by k_is)) rfl T.nolimit (codeRec_of X (by k_is)) rfl rfl (by with_unfolding_all exact (by decide : List.Nodup [("doc" : Str)])) (fun h₁ tk F N => ?_))
  iterate 17 walk1
  rename All2 IsT _ _ => hvs
  obtain ⟨u1, u2, l2, rfl, hvs2⟩ := two_uncons hvs
  clear hvs
  have hlen := hvs2.length
  have hl0 : lines.length ≠ 0 := fun e => hne (List.eq_nil_of_length_eq_zero e)
  have hlen2 : ((Value.str (Tx first) u1) :: (Value.str (Tx [32, 9]) u2) :: l2).length = lines.length + 2 := by simp [hlen]
  k_steps
  · exfalso
    rename _ = (1 : Int) => h1
    omega
  · rename Fr _ _ _ _ => F3
    rename News _ _ _ _ => N3
    exact hret _ _ _ _ _ F3.keep (N3 _ (.head _)).1 (N3 _ (.head _)).2.2
theorem doc_T {w : World} {p : Program} {loose : List Str} {mean : ExcName → Option Value} {mg mb : Str → Option Value} {A : Around} {hp : Heap} {gn : Array GenState} {dr : Drawn} {tk : Nat} {os : OsState} {Q E : Value → Shared → Prop}
   (X : (hd.heap_39 w.params).In hp) (T : Top p loose mean mg mb hp) (hdp : A.depth < recursionLimit)
   {x first : List Nat} {lines : List (List Nat)} {t1 : Tok}
   (hstrip : Txt.strip (Tx x) = Tx (joinL 10 (first :: [32, 9] :: lines))) (hx : x.length ≤ 1000000) (hll : lines.length ≤ 1000) (hne : lines ≠ []) (hfree : ∀ p ∈ first :: [32, 9] :: lines, 10 ∉ p)
   (hb : ∀ p ∈ lines, p.length ≤ 1000) (hjl : (joinL 10 (first :: [32, 9] :: lines)).length ≤ 1000000)
   (hret : ∀ D t u h' tk', Kp hp h' → h'.get? D = some (tupO [.str (Tx first) t, .str (Tx (joinL 10 lines)) u]) → hp.get? D = none → Q (.ref D) ⟨h', gn, dr, tk', os⟩) :
   wpAny (model PySem.Challenge.rw_il0159_01.prog w) A (call (.ref 46) [.str (Tx x) t1]) Q E ⟨hp, gn, dr, tk, os⟩ :=
  c_doc (s := ⟨hp, gn, dr, tk, os⟩) X T hdp hstrip hx hll hne hfree hb hjl hret
end Mine
end

noncomputable section
open PySem PySem.W PyProof.Rows PySem.Spec
set_option maxRecDepth 100000
set_option maxHeartbeats 4000000
namespace Mine

theorem ne_T' {prog : Program} {w : World} {A : Around} {E : Value → Shared → Prop} {hp : Heap} {gn : Array GenState} {dr : Drawn} {tk : Nat} {os : OsState} {Q : Value → Shared → Prop} {t u : Tok} {l r : List Nat} {v : Str} (e : v = Tx r) (h : Q (.bool (!decide (l = r))) ⟨hp, gn, dr, tk, os⟩) : wpAny (model prog w) A (compareOp .NotEq (.str (Tx l) t) (.str v u)) Q E ⟨hp, gn, dr, tk, os⟩ := by
  subst e; exact ne_T h
theorem c_put : ∀ {w : World} {p : Program} {loose : List Str} {mean : ExcName → Option Value} {mg mb : Str → Option Value} {A : Around} {s : Shared} {Q E : Value → Shared → Prop}
   (X : (hd.heap_39 w.params).In s.heap) (T : Top p loose mean mg mb s.heap) (hdp : A.depth < recursionLimit)
   {x y z : List Nat} {t1 t2 t3 : Tok} (hy : y ≠ []) (hb : (putL y z x).length ≤ 1000) (hx : x.length ≤ 1000) (hyl : y.length ≤ 1000) (hzl : z.length ≤ 1000)
   (hret : ∀ t h' tk', Kp s.heap h' → Q (.str (Tx (putL y z x)) t) {s with heap := h', toks := tk'}),
   wpAny (model PySem.Challenge.rw_il0159_01.prog w) A (call (.ref 227) [.str (Tx x) t1, .str (Tx y) t2, .str (Tx z) t3]) Q E s := by
  k_with_none
  k_with "call builtin:len" => (k_here; (with_reducible show wpAny _ _ (call (Value.builtin "len") [Value.str (Tx _) _]) _ _ _); refine len_T (by omega) ?_; intro _ _)
  k_with "binaryOp Add str str" => (k_here; (with_reducible show wpAny _ _ (binaryOp _ (Value.str (Tx _) _) (Value.str (Tx _) _)) _ _ _); refine add_T (by first | omega | (simp only [List.length_append, List.length_take, List.length_drop]; omega)) ?_; intro _ _)
  k_with "subscriptTail Name Slice str ref" => (k_here; (with_reducible show wpAny _ _ (subscriptTail _ (Expr.Slice none (some _) none _) (Value.str (Tx _) _) _) _ _ _); (with_reducible rename Fr _ _ _ _ => F'); (with_reducible rename News _ _ _ _ => N'); refine to_T F' N' (by omega) ?_; intro _ _ _ _ _)
  k_with "subscriptTail Name Slice str ref" => (k_here; (with_reducible show wpAny _ _ (subscriptTail _ (Expr.Slice (some _) none none _) (Value.str (Tx _) _) _) _ _ _); (with_reducible rename Fr _ _ _ _ => F'); (with_reducible rename News _ _ _ _ => N'); refine from_T F' N' (by omega) ?_; intro _ _ _ _ _)
  k_with "compareOp Eq str str" => (k_here; (with_reducible show wpAny _ _ (compareOp _ (Value.str (Tx _) _) (Value.str (Tx _) _)) _ _ _); refine eq_T ?_)
  k_fill
  intro w p loose mean mg mb A s Q E X T hdp x y z t1 t2 t3 hy hb hx hyl hzl hret
  refine wpAny_call (enter_fn (binds := [("text", .str (Tx x) t1), ("word", .str (Tx y) t2), ("code", .str (Tx z) t3)]) hdp (X 227 _ (by k_is)) rfl T.nolimit (codeRec_of X (by k_is)) rfl rfl (by with_unfolding_all exact (by decide : List.Nodup [("text" : Str), "word", "code"])) (fun h₁ tk F N => ?_))
  iterate 5 walk1
  rename Fr _ _ _ _ => F2
  rename News _ _ _ _ => N2
  refine ksw_while (σ := (List Nat × List Nat) × (Tok × Tok)) (fun _ => []) (fun c => [(Str.ofString "text", .str (Tx c.1.1) c.2.1), (Str.ofString "out", .str (Tx c.1.2) c.2.2)]) (fun _ => True) [] (fun c => c.1.2 ++ putL y z c.1.1 = putL y z x ∧ c.1.1.length ≤ 1000) (fun c => c.1.1.length) ((x, []), (t1, tk)) F2 N2 trivial ?_ ⟨rfl, hx⟩ ?_ PassesOwn.never
  · kst_all
  · clear F2 N2
    rintro ⟨⟨txt, out⟩, a, b⟩ u h tk _ hP F N
    obtain ⟨hP, hl⟩ := hP
    have hol : out.length ≤ 1000 := by rw [← hP] at hb; simp at hb; omega
    dsimp only at F hl hP ⊢
    k_steps
    · rename (Tx txt != _) = true => hne
      rename List.take y.length txt = y => hit
      rename Fr _ _ _ _ => F3
      rename News _ _ _ _ => N3
      have hnt : txt ≠ [] := by rintro rfl; revert hne; decide
      refine ksw_end ((_, _), (_, _)) F3 N3 (fun _ h => nomatch h) trivial (by kst_all) (by intro q h2 _; simp only [List.forall_mem_cons, List.not_mem_nil, false_implies, implies_true, and_true, ne_eq] at h2; simp [kstB, h2.1, h2.2]) ⟨?_, ?_⟩ ?_
      · rw [← hP, putL_hit hy hnt hit, List.append_assoc]
      · simp only [List.length_drop]; omega
      · have := List.length_pos_iff.mpr hy
        have := List.length_pos_iff.mpr hnt
        simp only [List.length_drop]; omega
    · rename (Tx txt != _) = true => hne
      rename ¬ List.take y.length txt = y => hit
      rename Fr _ _ _ _ => F3
      rename News _ _ _ _ => N3
      have hnt : txt ≠ [] := by rintro rfl; revert hne; decide
      refine ksw_end ((_, _), (_, _)) F3 N3 (fun _ h => nomatch h) trivial (by kst_all) (by intro q h2 _; simp only [List.forall_mem_cons, List.not_mem_nil, false_implies, implies_true, and_true, ne_eq] at h2; simp [kstB, h2.1, h2.2]) ⟨?_, ?_⟩ ?_
      · rw [← hP, putL_miss' hy hnt hit, List.append_assoc]
      · simp only [List.length_drop]; omega
      · have := List.length_pos_iff.mpr hnt
        simp only [List.length_drop]; omega
    · rename (Tx txt != _) = false => hne
      have hnt : txt = [] := by
        cases txt with
        | nil => rfl
        | cons c r =>
          exfalso
          have : Tx (c :: r) ≠ Tx [] := fun e => by have := Tx_inj e; cases this
          exact this (by rw [bne_eq_false_iff_eq] at hne; exact hne)
      subst hnt
      rw [putL_nil, List.append_nil] at hP
      subst hP
      exact hret _ _ _ F.keep
theorem put_T {w : World} {p : Program} {loose : List Str} {mean : ExcName → Option Value} {mg mb : Str → Option Value} {A : Around} {hp : Heap} {gn : Array GenState} {dr : Drawn} {tk : Nat} {os : OsState} {Q E : Value → Shared → Prop}
   (X : (hd.heap_39 w.params).In hp) (T : Top p loose mean mg mb hp) (hdp : A.depth < recursionLimit)
   {x y z : List Nat} {t1 t2 t3 : Tok} (hy : y ≠ []) (hb : (putL y z x).length ≤ 1000) (hx : x.length ≤ 1000) (hyl : y.length ≤ 1000) (hzl : z.length ≤ 1000)
   (hret : ∀ t h' tk', Kp hp h' → Q (.str (Tx (putL y z x)) t) ⟨h', gn, dr, tk', os⟩) :
   wpAny (model PySem.Challenge.rw_il0159_01.prog w) A (call (.ref 227) [.str (Tx x) t1, .str (Tx y) t2, .str (Tx z) t3]) Q E ⟨hp, gn, dr, tk, os⟩ :=
  c_put (s := ⟨hp, gn, dr, tk, os⟩) X T hdp hy hb hx hyl hzl hret
end Mine
end

noncomputable section
open PySem PySem.W PyProof.Rows PySem.Spec
set_option maxRecDepth 100000
set_option maxHeartbeats 4000000
namespace Mine

local macro_rules | `(tactic| k_all) => `(tactic| assumption)


theorem c_plan : ∀ {w : World} {p : Program} {loose : List Str} {mean : ExcName → Option Value} {mg mb : Str → Option Value} {A : Around} {s : Shared} {Q E : Value → Shared → Prop}
   (X : (hd.heap_39 w.params).In s.heap) (T : Top p loose mean mg mb s.heap) (hdp : A.depth + 1 < recursionLimit) (hh : A.handled = none)
   {whole codes : List Nat} {ns : List Int} {P : Addr} {vs : List Value} {t1 t2 : Tok} (hP : s.heap.IsList P vs.toArray) (hi : IntsAre vs ns) (hn : ns.length ≤ 9) (hw : whole.length ≤ 15) (hc : codes.length = 26)
   (hret : ∀ P R T rvs tvs nP nR nT tl h' tk', Kp s.heap h' → (∀ p ∈ (P, listOf #[.ref R, .ref T] nP) :: (R, listOf rvs.toArray nR) :: (T, listOf tvs.toArray nT) :: tl, h'.get? p.1 = some p.2 ∧ s.heap.get? p.1 = none) → RowsAre (LK tl) rvs (planP codes whole ns).1 → TxsAre tvs (planP codes whole ns).2 → Q (.ref P) {s with heap := h', toks := tk'}),
   wpAny (model PySem.Challenge.rw_il0159_01.prog w) A (call (.ref 234) [.str (Tx whole) t1, .ref P, .str (Tx codes) t2]) Q E s := by
  k_with_none
  k_with "eval Constant str" => (k_here; refine const_T ?_; (simp only [lit_e, lit_dot, lit_dots, lit_menu, lit_tail, lit_q, lit_sp, lit_eq, lit_tab, lit_nl, lit_nlsp, lit_mid, lit_spnl, lit_caps]); intro _ _)
  k_with "call builtin:len" => (k_here; (with_reducible show wpAny _ _ (call (Value.builtin "len") [Value.str (Tx _) _]) _ _ _); refine len_T (by omega) ?_; intro _ _)
  k_with "binaryOp Add str str" => (k_here; (with_reducible show wpAny _ _ (binaryOp _ (Value.str (Tx _) _) (Value.str (Tx _) _)) _ _ _); refine add_T (by first | omega | (simp only [List.length_append, List.length_take, List.length_drop]; omega)) ?_; intro _ _)
  k_with "call ref" => (k_here; (with_reducible show wpAny _ _ (call (Value.ref 227) _) _ _ _); (with_reducible rename Fr _ _ _ _ => F'); (with_reducible rename News _ _ _ _ => N'); (with_reducible rename Frag.In _ _ => X'); (rename Top _ _ _ _ _ _ => T'); refine put_T (X'.keeps F'.keep) (T'.keeps F'.keep) ?hd ?hy ?hb ?hx ?hyl ?hzl ?_; (case hd => (simp only [depth_deeper]; omega)); (case hy => first | (exact List.cons_ne_nil _ _) | assumption | (refine List.length_pos_iff.mp ?_; (simp only [List.length_take, List.length_drop]); omega)); (case hb => first | assumption | exact Nat.le_trans (putL_len (by (simp only [List.length_take, List.length_drop, List.length_singleton]); omega)) (by omega)); (case hx => first | assumption | omega); (case hyl => first | assumption | (simp; done) | ((simp only [List.length_take, List.length_drop]); omega)); (case hzl => first | assumption | (simp; done) | omega); intro t' h' k' kp'; have F'' := F'.keeps kp'; have N'' := N'.grown kp'; clear F' N')
  k_with "subscriptTail Name UnaryOp ref int" => (k_here; (with_reducible rename News _ _ _ _ => N'); refine lastItem_T N' (by k_mem) ?_)
  k_with "subscriptTail Subscript Constant ref int" => (k_here; (with_reducible rename News _ _ _ _ => N'); refine item_T N' (by k_mem) (by decide) (by decide) rfl ?_)
  k_with "subscriptTail Name BinOp str int" => (k_here; (with_reducible show wpAny _ _ (subscriptTail _ _ (Value.str (Tx _) _) _) _ _ _); refine sign_T (by omega) (by omega) (by omega) ?_; intro _ _)
  k_with "call builtin:len" => (k_here; (with_reducible show wpAny _ _ (call (Value.builtin "len") [Value.ref _]) _ _ _); (with_reducible rename News _ _ _ _ => N'); refine lenList_T N' (by k_mem) (by omega) ?_; intro _ _)
  k_with "subscriptTail Name Slice str ref" => (k_here; (with_reducible show wpAny _ _ (subscriptTail _ (Expr.Slice (some _) (some _) none _) (Value.str (Tx _) _) _) _ _ _); (with_reducible rename Fr _ _ _ _ => F'); (with_reducible rename News _ _ _ _ => N'); refine two_T' F' N' (by omega) rfl (by omega) (by omega) ?_; intro _ _ _ _ _)
  k_with "call builtin:list.append" => (k_here; (with_reducible rename Fr _ _ _ _ => F'); (with_reducible rename News _ _ _ _ => N'); refine append_T F' N' (by k_upd) (by omega) ?_; intro h' F'' N''; clear F' N')
  k_with "subscriptTail" => (k_here; (with_reducible show wpAny _ _ (subscriptTail (Expr.Subscript _ _ _) (Expr.Constant _ _ _) (Value.ref _) (Value.int _ _)) _ _ _); (with_reducible rename News _ _ _ _ => N'); refine item_T N' (by k_mem) (by decide) (by decide) rfl ?_)
  k_fill
  intro w p loose mean mg mb A s Q E X T hdp hh whole codes ns P vs t1 t2 hP hi hn hw hc hret
  refine wpAny_call (enter_fn (binds := [("whole", .str (Tx whole) t1), ("picks", .ref P), ("codes", .str (Tx codes) t2)]) (by omega) (X 234 _ (by k_is)) rfl T.nolimit (codeRec_of X (by k_is)) rfl rfl (by with_unfolding_all exact (by decide : List.Nodup [("whole" : Str), "picks", "codes"])) (fun h₁ tk F N => ?_))
  have hb1 : (putL [46] [46, 46] whole).length ≤ 1000 := by have := putL_len2 (w := [46]) (c := [46, 46]) (t := whole) (by simp); omega
  have hb2 : (putL [46] [46, 46] (putL [46] [46, 46] whole)).length ≤ 1000 := by
    have := putL_len2 (w := [46]) (c := [46, 46]) (t := whole) (by simp)
    have := putL_len2 (w := [46]) (c := [46, 46]) (t := putL [46] [46, 46] whole) (by simp); omega
  have hw' : whole.length ≤ 1000 := by omega
  repeat ((fail_if_success (with_reducible show wpAny _ _ (pyIter _) _ _ _)); walk1)
  rename_i r0 _ _ R _ lr0 _ _ _ _ _ _ t1' _ _ _ _ _ _ _ _ _ T1 _ lt _ F3 N3
  rename IntsAre _ _ => hi
  rename Heap.IsList _ _ _ => hP
  have hlen : vs.length = ns.length := hi.length
  refine iter_invG (fun i m nx => ∃ rvs tvs nr nt tl u, m = kstB u [("rows", .ref R), ("texts", .ref T1), ("codes", .str (Tx codes) t2)] ∧ nx = (T1, listOf tvs.toArray nt) :: (R, listOf rvs.toArray nr) :: tl ∧
      RowsAre (LK tl) rvs ((ns.take i).foldl (stepP codes) (startP whole)).1 ∧ TxsAre tvs ((ns.take i).foldl (stepP codes) (startP whole)).2 ∧ ∀ p ∈ tl, p.1 ≠ R ∧ p.1 ≠ T1) (by exact hh) hP hi F3 N3 ?_ ?_ ?_
  · refine ⟨[.ref r0], [.str (Tx whole) t1, .str (Tx (putL [46] [46, 46] whole)) t1', .str (Tx (putL [46] [46, 46] (putL [46] [46, 46] whole))) t'], 0, 0, _, _, kstB_self (ps := [("rows", .ref R), ("texts", .ref T1), ("codes", .str (Tx codes) t2)]) (by kst_all), rfl, ?_, ?_, ?_⟩
    · exact .cons ⟨r0, 0, _, _, rfl, .head _⟩ .nil
    · exact .cons ⟨_, rfl⟩ (.cons ⟨_, rfl⟩ (.cons ⟨_, rfl⟩ .nil))
    · intro p hp
      rw [List.mem_singleton.mp hp]
      exact ⟨Nat.ne_of_lt lr0, Nat.ne_of_lt lt.2⟩
  · intro i n t m₁ nx h tk own hn' _ hoff hJ F N
    obtain ⟨rvs, tvs, nr, nt, tl, u, rfl, rfl, hr, ht, hne⟩ := hJ
    have hi' : i < ns.length := (List.getElem?_eq_some_iff.mp hn').1
    have S : Stage i ((ns.take i).foldl (stepP codes) (startP whole)) := by
      have := stage_foldl codes (ns.take i) (stage_start hw)
      rwa [Nat.zero_add, List.length_take, Nat.min_eq_left (by omega)] at this
    have hst : (ns.take (i + 1)).foldl (stepP codes) (startP whole) = stepP codes ((ns.take i).foldl (stepP codes) (startP whole)) n := by
      rw [List.take_add_one, hn', List.foldl_append]; rfl
    rw [hst]
    generalize (ns.take i).foldl (stepP codes) (startP whole) = st at *
    obtain ⟨rs, ts⟩ := st
    dsimp only at *
    obtain ⟨tv', tv, ts', tx, rfl, rfl, t0, rfl⟩ := ht.last S.ne
    have hlt : tx.length ≤ 60 := by have := S.last; rwa [lastT_snoc] at this
    have hrl : rvs.length = rs.length := hr.length
    have hrl1 := S.rows
    have hrl2 := S.rowsU
    have htl := S.texts
    dsimp only at hrl1 hrl2 htl
    have htv : tv'.length = ts'.length := by have := ht.length; simp at this; omega
    simp only [List.length_append, List.length_singleton] at htl
    simp only [List.cons_append] at N
    have hR : ∀ p ∈ tl ++ own, p.1 ≠ R := fun p hp => (List.mem_append.mp hp).elim (fun h => (hne p h).1) fun h => hoff p h R (by simp)
    have hT : ∀ p ∈ tl ++ own, p.1 ≠ T1 := fun p hp => (List.mem_append.mp hp).elim (fun h => (hne p h).2) fun h => hoff p h T1 (by simp)
    have hf0 : 1 < tx.length → 0 ≤ Int.fmod n ((tx.length : Int) - 1) := fun q => by rw [Int.fmod_eq_emod_of_nonneg _ (by omega)]; exact Int.emod_nonneg _ (by omega)
    have hf1 : 1 < tx.length → Int.fmod n ((tx.length : Int) - 1) < (tx.length : Int) - 1 := fun q => by rw [Int.fmod_eq_emod_of_nonneg _ (by omega)]; exact Int.emod_lt_of_pos _ (by omega)
    clear F3 N3
    k_steps
    · rename_i l' _ ll _ _ F4 N4
      have hlg : 1 < tx.length := by omega
      have hl5 := allLt_all ll.2.2
      have hmod : Int.fmod n ((tx.length : Int) - 1) = n % ((tx.length : Int) - 1) := Int.fmod_eq_emod_of_nonneg _ (by omega)
      have hcode : codes.getD ((rvs.length : Int) - 1).toNat 0 = codes.getD (rs.length - 1) 0 := by congr 1; omega
      have hstep : stepP codes (rs, ts' ++ [tx]) n = (rs ++ [(List.take 2 (List.drop (Int.fmod n ((tx.length : Int) - 1)).toNat tx), [codes.getD ((rvs.length : Int) - 1).toNat 0])], ts' ++ [tx] ++ [putL (List.take 2 (List.drop (Int.fmod n ((tx.length : Int) - 1)).toNat tx)) [codes.getD ((rvs.length : Int) - 1).toNat 0] tx]) := by
        unfold stepP; simp only [lastT_snoc]; rw [if_pos hlg, hmod, hcode]; rfl
      simp only [List.push_toArray] at N4
      refine InvEndG.intro (nx := (T1, _) :: (R, _) :: (l', _) :: tl) F4 N4 ⟨_, _, _, _, _, _, kstB_self (ps := [("rows", .ref R), ("texts", .ref T1), ("codes", .str (Tx codes) t2)]) (by kst_all), rfl, ?_, ?_, ?_⟩ ?_ (List.forall_mem_cons.mpr ⟨.tail _ (.head _), List.forall_mem_cons.mpr ⟨.tail _ (.tail _ (.head _)), List.forall_mem_cons.mpr ⟨.head _, fun p hp => .tail _ (.tail _ (.tail _ (List.mem_append.mpr (.inl hp))))⟩⟩⟩) ?_
      · rw [hstep]
        refine All2.snoc (RowsAre.mono (fun a o h => .tail _ h) hr) ⟨l', _, _, _, rfl, .head _⟩
      · rw [hstep]
        exact ht.snoc ⟨_, rfl⟩
      · intro p hp
        rcases List.mem_cons.mp hp with rfl | hp
        · exact ⟨Nat.ne_of_gt ll.2.1, Nat.ne_of_gt ll.1⟩
        · exact hne p hp
      · intro p hp b hb e
        simp only [List.map_cons, List.mem_cons] at hb
        rcases hb with hb | hb | hb | hb
        · exact hT p (List.mem_append.mpr (.inr hp)) (e.trans hb)
        · exact hR p (List.mem_append.mpr (.inr hp)) (e.trans hb)
        · exact Nat.ne_of_lt (hl5 p (List.mem_append.mpr (.inr hp))) (e.trans hb)
        · exact hoff p hp b (by simp only [List.map_cons, List.mem_cons]; exact .inr (.inr hb)) e
      · intro p hp
        simp only [List.mem_cons, List.mem_append]
        simp [hp]
    · rename Fr _ _ _ _ => F4
      rename News _ _ _ _ => N4
      have hlg : ¬ 1 < tx.length := by omega
      have hstep : stepP codes (rs, ts' ++ [tx]) n = (rs, ts' ++ [tx]) := by
        unfold stepP; simp only [lastT_snoc]; rw [if_neg hlg]
      rw [hstep]
      exact InvEndG.intro (nx := (T1, _) :: (R, _) :: tl) F4 N4 ⟨_, _, _, _, _, _, kstB_self (ps := [("rows", .ref R), ("texts", .ref T1), ("codes", .str (Tx codes) t2)]) (by kst_all), rfl, hr, ht, hne⟩ hoff (fun p hp => by
        simp only [List.mem_cons, List.mem_append] at hp ⊢
        rcases hp with h | h | h <;> simp [h]) (fun p hp => by
        simp only [List.mem_cons, List.mem_append]
        simp [hp])
  · intro m₁ nx h tk hJ F N
    obtain ⟨rvs, tvs, nr, nt, tl, u, rfl, rfl, hr, ht, hne⟩ := hJ
    rw [List.take_length] at hr ht
    clear F3 N3
    k_steps
    rename_i P' h' F4 N4 lp
    refine hret P' R T1 rvs tvs 0 nr nt tl _ _ F4.keep (fun p hp => ?_) hr ht
    have hp' : p ∈ (P', listOf #[.ref R, .ref T1] 0) :: (T1, listOf tvs.toArray nt) :: (R, listOf rvs.toArray nr) :: tl := by
      rcases List.mem_cons.mp hp with rfl | hp
      · exact .head _
      rcases List.mem_cons.mp hp with rfl | hp
      · exact .tail _ (.tail _ (.head _))
      rcases List.mem_cons.mp hp with rfl | hp
      · exact .tail _ (.head _)
      · exact .tail _ (.tail _ (.tail _ hp))
    exact ⟨(N4 p hp').1, (N4 p hp').2.2⟩
theorem plan_T {w : World} {p : Program} {loose : List Str} {mean : ExcName → Option Value} {mg mb : Str → Option Value} {A : Around} {hp : Heap} {gn : Array GenState} {dr : Drawn} {tk : Nat} {os : OsState} {Q E : Value → Shared → Prop}
   (X : (hd.heap_39 w.params).In hp) (T : Top p loose mean mg mb hp) (hdp : A.depth + 1 < recursionLimit) (hh : A.handled = none)
   {whole codes : List Nat} {ns : List Int} {P : Addr} {vs : List Value} {t1 t2 : Tok} (hP : hp.IsList P vs.toArray) (hi : IntsAre vs ns) (hn : ns.length ≤ 9) (hw : whole.length ≤ 15) (hc : codes.length = 26)
   (hret : ∀ P R T rvs tvs nP nR nT tl h' tk', Kp hp h' → (∀ p ∈ (P, listOf #[.ref R, .ref T] nP) :: (R, listOf rvs.toArray nR) :: (T, listOf tvs.toArray nT) :: tl, h'.get? p.1 = some p.2 ∧ hp.get? p.1 = none) → RowsAre (LK tl) rvs (planP codes whole ns).1 → TxsAre tvs (planP codes whole ns).2 → Q (.ref P) ⟨h', gn, dr, tk', os⟩) :
   wpAny (model PySem.Challenge.rw_il0159_01.prog w) A (call (.ref 234) [.str (Tx whole) t1, .ref P, .str (Tx codes) t2]) Q E ⟨hp, gn, dr, tk, os⟩ :=
  c_plan (s := ⟨hp, gn, dr, tk, os⟩) X T hdp hh hP hi hn hw hc hret
end Mine
end

noncomputable section
open PySem PySem.W PyProof.Rows PySem.Spec
set_option maxRecDepth 100000
namespace Mine
noncomputable def lawDef (P : Params) : Option FuncData := match (hd.heap_39 P).lookup 251 with
  | some ⟨_, _, .func fd, _⟩ => some fd
  | _ => none
def stmtsOf (fd : FuncData) : List Stmt := match fd.body with
  | .stmts b => b
  | _ => []
abbrev lawEnv (fd : FuncData) (L fa : Addr) (cd : Value) : Env := envOfC "law" fd.scope L fa cd
theorem some_lit {α : Type} {x : Option α} {a b : α} (h1 : x = some a) (h2 : x = some b) : a = b := Option.some.inj (h1.symm.trans h2)
end Mine
end

noncomputable section
open PySem PySem.W PyProof.Rows PySem.Spec
set_option maxRecDepth 100000
set_option maxHeartbeats 4000000
namespace Mine
abbrev popBody (p1 p2 p3 p4 : Pos) (n : Nat) : Expr := .Call (.Attribute (.Name "left" p1) "pop" p2) [.Constant (.int 0) n p3] [] p4
abbrev popScope : Scope := { kind := .function, names := [("left", .free)], isGenerator := false, isCoroutine := false }
/-- the lambda that hands out -/
structure LamAt (h : Heap) (lam cc LL : Addr) : Prop where
  fn : ∃ o nm ql pm c' ctv p1 p2 p3 p4 n, (p2.endLine == p4.line) = true ∧ h.get? lam = some o ∧ o.cls = .type "function" ∧ o.data = .func (kla_fn nm ql { posonlyargs := [], args := [], vararg := none, kwonlyargs := [], kw_defaults := [], kwarg := none, defaults := [] } (popBody p1 p2 p3 p4 n) popScope [("left", cc)] pm (.ref c') ctv) ∧ h.CodeRec (.ref c') ql
  cell : ∃ o, h.get? cc = some o ∧ o.data = .cell (some (.ref LL))
theorem get_ne_data {h : Heap} {a b : Addr} {o o' : Obj} (e : h.get? a = some o) (e' : h.get? b = some o') (ne : o.data ≠ o'.data) : a ≠ b := by
  rintro rfl; rw [e] at e'; cases e'; exact ne rfl
theorem methodCall_eq {o : Expr} {name : Str} {apos pos : Pos} {env : Env} {ov : Value} {n : Nat} {args : List (Bool × Sem Value)} (hp : (apos.endLine == pos.line) = true) (hf : methodCallForm n args [] = true) :
    methodCall o name apos pos env ov n args [] = (do
      let (f, first) ← holding [ov] (getMethod ov name (do return (← importBound o env).getD true))
      callWith pos f first args []) := by
  unfold methodCall methodCallPos calleeOf
  simp only [hf, hp, Bool.not_true, Bool.false_or, if_true]
  rfl
theorem MethodCall_at {M : Model} {A : Around} {E : Value → Shared → Prop} {s : Shared} {env : Env} {o : Expr} {name : Str} {apos pos : Pos} {args : List Expr} {Q : Value → Shared → Prop} (hp : (apos.endLine == pos.line) = true)
    (h : wpAny M A (eval o env) (fun ov s₁ => wpAny M A (getMethod ov name (do return (← importBound o env).getD true)) (fun fx s₂ => wpAny M A (callWith pos fx.1 fx.2 (backTo pos (starEach args env)) []) Q E s₂) E s₁) E s)
    (hf : methodCallForm args.length (backTo pos (starEach args env)) [] = true := by rfl)
    (he : eval (.Call (.Attribute o name apos) args [] pos) env = (do
      let ov ← eval o env
      standAt apos.atName
      methodCall o name apos pos env ov args.length (backTo pos (starEach args env)) []) := by rfl) :
    wpAny M A (eval (.Call (.Attribute o name apos) args [] pos) env) Q E s := by
  rw [he]
  refine wpAny_bind (wpAny_mono h (fun ov s₁ h₁ => wpAny_bind (wpAny_standAt ?_)) fun _ _ x => x)
  rw [methodCall_eq hp hf]
  refine wpAny_bind (wpAny_holding (wpAny_mono h₁ (fun fx s₂ h₂ => ?_) fun _ _ x => x))
  exact h₂
theorem nameX_FH {M : Model} {A : Around} {E : Value → Shared → Prop} {s : Shared} {L a : Addr} {cn : Str} {cs : Scope} {ccd : Value} {cl : List (Str × Addr)} {x : Str} {pos : Pos} {v : Value} {Q : Value → Shared → Prop} {c : Addr} {o : Obj} (ho : s.heap.get? c = some o) (hd : o.data = .cell (some v)) (hc : cl.lookup x = some c) 
    (hk : cs.kind = .function) (hx : (envX cn cs L a ccd cl).kindOf x = some .free) (h : Q v s) (hb : (x == ("__debug__" : Str)) = false := by decide) (hn : (x == ("__classdict__" : Str)) = false := by decide) :
    wpAny M A (eval (.Name x pos) (envX cn cs L a ccd cl)) Q E s := wpAny_Name (wpAny_loadName_free hk hx hc ⟨o, ho, hd⟩ h hn) hb
theorem spliced_one {M : Model} {A : Around} {E : Value → Shared → Prop} {s : Shared} {pos : Pos} {e : Expr} {env : Env} {Q : List Value → Shared → Prop} (h : wpAny M A (eval e env) (fun v s₁ => Q [v] s₁) E s) (he : starEach [e] env = [(false, eval e env)] := by rfl) :
    wpAny M A (spliced (backTo pos (starEach [e] env))) Q E s := by
  rw [he]
  show wpAny M A (spliced [(false, eval e env)]) Q E s
  unfold spliced
  refine wpAny_bind (wpAny_mono h (fun v s₁ h₁ => ?_) fun _ _ x => x)
  simp only [Bool.false_eq_true, if_false]
  refine wpAny_bind (wpAny_pure ?_)
  refine wpAny_bind (wpAny_holding (wpAny_pure (wpAny_pure ?_)))
  exact h₁
theorem c_popC {prog : Program} {w : World} {A : Around} {h : Heap} {gn : Array GenState} {dr : Drawn} {tk : Nat} {os : OsState} {R : Result → Shared → Prop}
   (hdp : A.depth < recursionLimit) (hlim : h.NoLimit) {lam cc LL : Addr} {v0 : Value} {rest : List Value} {n : Nat} (H : LamAt h lam cc LL) (hL : h.get? LL = some (listOf (v0 :: rest).toArray n)) (hz : rest.length ≤ 1000)
   (hret : ∀ h' tk', (∀ b o, b ≠ LL → h.get? b = some o → h'.get? b = some o) → h'.get? LL = some (listOf rest.toArray (n + 1)) → R (.ok (.ret v0)) ⟨h', gn, dr, tk', os⟩) :
   codeAny (model prog w) A (.call (.ref lam) ⟨[], []⟩) R ⟨h, gn, dr, tk, os⟩ := by
  obtain ⟨⟨o, nm, ql, pm, c', ctv, p1, p2, p3, p4, k, hpos, ho, hcls, hdata, hcode⟩, oc, hoc, hcell⟩ := H
  have n1 : cc ≠ LL := get_ne_data hoc hL (by rw [hcell]; exact fun e => nomatch e)
  refine (kla_callFunE (s := ⟨h, gn, dr, tk, os⟩) hdp ho hdata rfl rfl rfl hcode ?_)
  refine wpAny_pure (wpAny_newFunctionEnv (by intro x hx; rcases List.mem_singleton.mp hx with rfl; exact fun e => nomatch e) (by intro x hx; exact nomatch hx) (fun h₁ hns hsb => ⟨hlim.fresh _ hsb, kla_codeExpr ?_⟩) rfl)
  have hk₁ : ∀ b o, h.get? b = some o → h₁.get? b = some o := fun b o e => hsb.extBut b o (Nat.ne_of_lt (Heap.lt_size e)) (Heap.get?_push_of_some _ e)
  have F : Fr (hideAll h [LL]) h.objs.size h₁ (fun x => ([] : List (Str × Value)).reverse.lookup x) := ⟨hns, fun b o e => hk₁ b o (of_hideAll _ e), Nat.le_of_eq (hideAll_size _ _)⟩
  have N : News (hideAll h [LL]) h.objs.size h₁ [(LL, listOf (v0 :: rest).toArray n)] := fun p hp => by
    rw [List.mem_singleton.mp hp]
    exact ⟨hk₁ _ _ hL, Nat.ne_of_lt (Heap.lt_size hL), hideAll_none _ (.head _)⟩
  have hoc' : (hideAll h [LL]).get? cc = some oc := hideAll_get _ hoc (by simpa using n1)
  show wpAny (model prog w) (A.deeper (envX ql popScope h.objs.size lam (.ref c') [("left", cc)])) (eval (popBody p1 p2 p3 p4 k) (envX ql popScope h.objs.size lam (.ref c') [("left", cc)])) _ _ ⟨h₁, gn, dr, _, os⟩
  refine MethodCall_at hpos ?_
  refine nameX_FH (F.keep _ _ hoc') hcell rfl rfl rfl ?_
  refine kl_method N (.head _) PySem.F.slot_list_pop PySem.F.type_list_pop ?_
  refine callWith_method1 ?_
  refine spliced_one ?_
  refine wpAny_Constant_int ?_
  refine kl_popAt (s := ⟨h₁, gn, dr, _, os⟩) (k := 0) (p := []) (q := rest) (y := v0) F N rfl ?_ rfl (.head (by intro p hp; exact nomatch hp)) ?_ fun h' F' N' => ?_
  · rw [List.size_toArray, List.length_cons]
    unfold seqIndex?
    have : (decide ((0 : Int) ≤ 0) && decide ((0 : Int) < ((rest.length + 1 : Nat) : Int))) = true := by simp
    simp only [if_neg (show ¬ (0 : Int) < 0 by omega), this, if_true]; rfl
  · simp [sizeLine_eq]; omega
  · refine hret h' _ (fun b o hb e => ?_) (N' _ (.head _)).1
    exact F'.keep b o (hideAll_get _ e (by simpa using hb))
theorem c_pop {prog : Program} {w : World} {A : Around} {h : Heap} {gn : Array GenState} {dr : Drawn} {tk : Nat} {os : OsState} {Q E : Value → Shared → Prop}
   (hdp : A.depth < recursionLimit) (hlim : h.NoLimit) {lam cc LL : Addr} {v0 : Value} {rest : List Value} {n : Nat} (H : LamAt h lam cc LL) (hL : h.get? LL = some (listOf (v0 :: rest).toArray n)) (hz : rest.length ≤ 1000)
   (hret : ∀ h' tk', (∀ b o, b ≠ LL → h.get? b = some o → h'.get? b = some o) → h'.get? LL = some (listOf rest.toArray (n + 1)) → Q v0 ⟨h', gn, dr, tk', os⟩) :
   wpAny (model prog w) A (call (.ref lam) []) Q E ⟨h, gn, dr, tk, os⟩ := wpAny_call (c_popC hdp hlim H hL hz hret)
end Mine
end

noncomputable section
open PySem PySem.W PyProof.Rows PySem.Spec
set_option maxRecDepth 100000
set_option maxHeartbeats 4000000
namespace Mine
abbrev KS (prog : Program) (w : World) := PySem.strKind prog w
abbrev bookO (ID lam : Addr) (es : Array DictEntry) (ep : Nat) : Obj := ⟨.ref 122, some ID, .dict es ep, #[some (.ref lam)]⟩
/-- the entries of the book -/
structure Ents (prog : Program) (w : World) (es : Array DictEntry) (kvs : List (Str × Value)) : Prop where
  keys : KeysOf (KS prog w) es
  pairs : Pairs (KS prog w) es.toList kvs
  once : (kvs.map (·.1)).Nodup
section
variable {prog : Program} {w : World} {A : Around} {E : Value → Shared → Prop} {h : Heap} {gn : Array GenState} {dr : Drawn} {tk : Nat} {os : OsState} {D ID lam : Addr} {es : Array DictEntry} {ep : Nat} {kvs : List (Str × Value)}
theorem Ents.find {k : Str} (H : Ents prog w es kvs) : findBy (KS prog w).is es k = valueAt kvs k := by
  rw [← H.pairs.find k]
  obtain ⟨l⟩ := es
  simp [findBy]
theorem dictGet_B {x : Str} {t : Tok} {Q : Option Value → Shared → Prop} (hD : h.get? D = some (bookO ID lam es ep)) (H : Ents prog w es kvs) (q : Q (valueAt kvs x) ⟨h, gn, dr, tk + 1, os⟩) :
    wpAny (model prog w) A (dictGet D (.str x t)) Q E ⟨h, gn, dr, tk, os⟩ := by
  have hkey := PySem.strKind_is prog w x t
  unfold dictGet
  try with_reducible refine wpAny_holding ?_
  refine wpAny_bind ((KS prog w).pyHash (s := ⟨h, gn, dr, tk, os⟩) hkey (wpAny_bind (wpAny_dictFind_of (s := ⟨h, gn, dr, tk + 1, os⟩) hkey hD rfl H.keys ?_)))
  rw [← H.find, findBy_of_findIdx?] at q
  cases hi : es.findIdx? fun e => (KS prog w).is x e.key with
  | none => rw [hi] at q; exact wpAny_pure q
  | some i => rw [hi] at q; exact wpAny_bind (wpAny_dictEntries (s := ⟨h, gn, dr, tk + 1, os⟩) hD rfl (wpAny_pure q))
theorem setDefault_B {x : Str} {t : Tok} {v : Value} {Q : Value → Shared → Prop} (hD : h.get? D = some (bookO ID lam es ep)) (H : Ents prog w es kvs) (hn : valueAt kvs x = none) (hz : kvs.length ≤ 1000)
    (q : ∀ h' es' ep' tk', h'.get? D = some (bookO ID lam es' ep') → Ents prog w es' (kvs ++ [(x, v)]) → (∀ b o, b ≠ D → h.get? b = some o → h'.get? b = some o) → Q v ⟨h', gn, dr, tk', os⟩) :
    wpAny (model prog w) A (dictSetDefault D (.str x t) v) Q E ⟨h, gn, dr, tk, os⟩ := by
  have hkey := PySem.strKind_is prog w x t
  have hes : es.size ≤ sizeLine := by
    have e1 := H.pairs.length
    have e2 : es.toList.length = es.size := by simp
    rw [sizeLine_eq]; omega
  unfold dictSetDefault
  try with_reducible refine wpAny_holding ?_
  refine wpAny_bind ((KS prog w).pyHash (s := ⟨h, gn, dr, tk, os⟩) hkey ?_)
  refine wpAny_bind (wpAny_dictFind_of (s := ⟨h, gn, dr, tk + 1, os⟩) hkey hD rfl H.keys ?_)
  rw [← H.find, findBy_of_findIdx?] at hn
  cases hi : es.findIdx? fun e => (KS prog w).is x e.key with
  | some i =>
    exfalso
    rw [hi] at hn
    have hlt := (Array.findIdx?_eq_some_iff_findIdx_eq.mp hi).1
    simp [Array.getElem?_eq_getElem hlt] at hn
  | none =>
    refine wpAny_bind (wpAny_rule (wpAny_bind (wpAny_updateDictKeys (hz := hes) (s := ⟨h, gn, dr, tk + 1, os⟩) hD rfl (wpAny_pure ?_))))
    have hnot : x ∉ kvs.map (·.1) := by
      have hidx := H.pairs.findIdx x
      refine not_mem_of_findIdx_none (hidx ▸ ?_)
      obtain ⟨l⟩ := es
      simpa using hi
    refine q _ (es.push ⟨(KS prog w).hash x, .str x t, v⟩) (ep + 1) _ ?_ ⟨H.keys.push hkey v, ?_, ?_⟩ (fun b o hb e => ?_)
    · exact Heap.get?_update_self _ hD rfl
    · have := H.pairs.append hkey ((KS prog w).hash x) v
      obtain ⟨l⟩ := es
      simpa using this
    · rw [List.map_append, List.nodup_append]
      refine ⟨H.once, by simp, ?_⟩
      intro a ha b hb
      simp only [List.map_cons, List.map_nil, List.mem_singleton] at hb
      subst hb
      exact fun e => hnot (e ▸ ha)
    · exact (Heap.SameBut.update ..).extBut b o hb e
end
end Mine
end

noncomputable section
open PySem PySem.W PyProof.Rows PySem.Spec
set_option maxRecDepth 100000
set_option maxHeartbeats 4000000
namespace Mine
theorem bookInst {h : Heap} {D ID lam : Addr} {es : Array DictEntry} {ep : Nat} {oI : Obj} (hD : h.get? D = some (bookO ID lam es ep)) (hI : h.get? ID = some oI) : InstAt h D (bookO ID lam es ep) 122 (some oI) := ⟨hD, rfl, rfl, hI⟩
theorem check_m {M : Model} {A : Around} {E : Value → Shared → Prop} {s : Shared} {i owner n : String} {self : Value} {rest : List Value} {kw : List (Str × Value)} {Q : Unit → Shared → Prop}
    (hk : builtinKind i = some .method) (hs : splitId i = some (owner, n)) (hi : Looks M s.heap (isInstance self (.type owner)) true) (ha : argsOk i ⟨self :: rest, kw⟩) (q : Q () s) :
    wpAny M A (checkBuiltinCall i ⟨self :: rest, kw⟩) Q E s := by
  simp only [checkBuiltinCall, hk, hs]
  refine wpAny_bind (hi.here ?_)
  simp only [Bool.not_true, Bool.false_eq_true, if_false]
  cases hsig : Manifest.signature? i with
  | none => exact wpAny_pure q
  | some sig =>
    simp only [argsOk, hsig] at ha
    have h2 : Bind.checkArgs i sig ⟨self :: rest, kw⟩ = pure () := ha
    show wpAny M A (Bind.checkArgs i sig ⟨self :: rest, kw⟩) Q E s
    rw [h2]; exact wpAny_pure q
theorem getItem_B : ∀ {w : World} {A : Around} {h : Heap} {gn : Array GenState} {dr : Drawn} {tk : Nat} {os : OsState} {Q E : Value → Shared → Prop} {D ID lam : Addr} {es : Array DictEntry} {ep : Nat} {kvs : List (Str × Value)} {oI : Obj} {x : Str} {t : Tok}
   (X : (hd.heap_39 w.params).In h) (hD : h.get? D = some (bookO ID lam es ep)) (hI : h.get? ID = some oI) (hsys : (D == sysModules) = false) (H : Ents PySem.Challenge.rw_il0159_01.prog w es kvs)
   (hit : ∀ v tk', valueAt kvs x = some v → Q v ⟨h, gn, dr, tk', os⟩)
   (miss : ∀ tk', valueAt kvs x = none → wpAny (model PySem.Challenge.rw_il0159_01.prog w) A.in1 (call (.ref 112) [.ref D, .str x t]) Q E ⟨h, gn, dr, tk', os⟩),
   wpAny (model PySem.Challenge.rw_il0159_01.prog w) A (getItem (.ref D) (.str x t)) Q E ⟨h, gn, dr, tk, os⟩ := by
  k_fill
  intro w A h gn dr tk os Q E D ID lam es ep kvs oI x t X hD hI hsys H hit miss
  have I := bookInst hD hI
  unfold getItem
  refine wpAny_holding ?_
  refine wpAny_bind (m := sequenceKey (.ref D) (.str x t) "__getitem__") ?_
  · unfold sequenceKey
    refine wpAny_bind (I.type.here ?_)
    refine Looks.here (s := ⟨h, gn, dr, tk, os⟩) (r := Value.str x t) (Looks.of_peek X ?_) ?_
    · kernel_rfl
    · refine wpAny_bind (kfo_special (s := ⟨h, gn, dr, tk, os⟩) X I (id := "dict.__getitem__") (by k_is) PySem.F.slot_dict_getitem.bind ?_)
      refine wpAny_call (codeAny_call_builtin PySem.F.slot_dict_getitem.plain PySem.F.entry_dict_getitem (check_m (i := "dict.__getitem__") (owner := "dict") (n := "__getitem__") (by decide +kernel) (by decide +kernel) (I.type.andThen (looks_mroIn X (by k_is))) (PySem.F.args_dict_getitem_2 _ _) ?_))
      show wpAny _ _ (dictGet D (.str x t) >>= _) _ _ _
      refine wpAny_bind (dictGet_B hD H ?_)
      cases hv : valueAt kvs x with
      | some v => exact wpAny_pure (wpAny_pure (hit v _ hv))
      | none =>
        show wpAny _ _ (Builtin.Dict.missed D (.str x t) >>= _) _ _ _
        refine wpAny_bind (wpAny_missed_other hsys ?_)
        refine wpAny_bind (I.type.here (s := ⟨h, gn, dr, tk + 1, os⟩) ?_)
        show wpAny _ _ (if (Value.ref 122 != Value.type "dict") = true then _ else _) _ _ _
        rw [if_pos (by decide)]
        refine wpAny_bind (special_fn (s := ⟨h, gn, dr, tk + 1, os⟩) X I (f := 112) (by k_is) (by k_is) ?_)
        refine wpAny_mono (miss _ hv) (fun v s' hq => ?_) fun e s' hq => ?_
        · exact wpAny_bind (wpAny_rule (wpAny_pure (wpAny_pure hq)))
        · exact hq
end Mine
end

noncomputable section
open PySem PySem.W PyProof.Rows PySem.Spec
set_option maxRecDepth 100000
set_option maxHeartbeats 4000000
namespace Mine
/-- what a run by the semantics' own steps leaves -/
def XRet (h : Heap) (gn : Array GenState) (dr : Drawn) (os : OsState) (Q : Value → Shared → Prop) (C : Value → Heap → Prop) : Prop := ∀ v h' tk', Kp h h' → C v h' → Q v ⟨h', gn, dr, tk', os⟩
theorem XMem.kp {h h' : Heap} {news} (D : PySem.W.X.Mem h h' [] news) : Kp h h' := fun b o e => D.keep b o e (by simp [PySem.W.X.away])
abbrev boundO (id : String) (D : Addr) : Obj := ⟨.type "builtin_function_or_method", none, .fields #[.builtin id, .ref D], #[]⟩
theorem L_get : ∀ {w : World} {env env2 : Env} {h : Heap} {D ID lam : Addr} {gn : Array GenState} {dr : Drawn} {tk : Nat} {os : OsState} {Q : Value → Shared → Prop} {E : Value → Shared → Prop} {es : Array DictEntry} {ep : Nat}
   (X : (hd.heap_39 w.params).In h) 
   (hD : h.get? D = some ⟨.ref 122, some ID, .dict es ep, #[some (.ref lam)]⟩) (hret : XRet h gn dr os Q fun v h' => ∃ bm, v = .ref bm ∧ h'.get? bm = some (boundO "collections.defaultdict.__missing__" D)),
   wpAny (model PySem.Challenge.rw_il0159_01.prog w) ((callerA.deeper env).in1.deeper env2).in1 (call (.builtin "method_descriptor.__get__") [.builtin "collections.defaultdict.__missing__", .ref D, .ref 122]) Q E ⟨h, gn, dr, tk, os⟩ := by
  k_with_none
  k_with "x_close" => (rename XRet _ _ _ _ _ _ => hret'; rename PySem.W.X.Mem _ _ _ _ => D'; refine hret' _ _ _ (XMem.kp D') ?_; first | trivial | exact ⟨_, rfl, PySem.W.X.Mem.at D' 0 _ _ rfl⟩ | rfl)
  k_fill
  intro w env env2 h D ID lam gn dr tk os Q E es ep X hD hret
  x_run
end Mine
end

noncomputable section
open PySem PySem.W PyProof.Rows PySem.Spec
set_option maxRecDepth 100000
set_option maxHeartbeats 4000000
namespace Mine
theorem type_mget : typeOf (.builtin "collections.defaultdict.__missing__") = pure (.type "method_descriptor") := by show builtinType _ = _; rw [builtinType_eq_fast]; kernel_rfl
theorem look_mget : typeLookup (.type "method_descriptor") "__get__" = pure (some (.builtin "method_descriptor.__get__")) := by rw [typeLookup_type, builtinLookup_eq_fast]; kernel_rfl
theorem supga : ∀ {w : World} {A : Around} {h : Heap} {D so : Addr} {gn : Array GenState} {dr : Drawn} {tk : Nat} {os : OsState} {Q : Fin → Shared → Prop} {E : Value → Shared → Prop} {t : Tok}
   (X : (hd.heap_39 w.params).In h) (hne : D ≠ 122)
   (hso : h.get? so = some (ks_superObj 122 D 122))
   (hget : wpAny (model PySem.Challenge.rw_il0159_01.prog w) A (call (.builtin "method_descriptor.__get__") [.builtin "collections.defaultdict.__missing__", .ref D, .ref 122]) (fun v => Q (.done (.ret v))) E ⟨h, gn, dr, tk, os⟩),
   wpAny (model PySem.Challenge.rw_il0159_01.prog w) A (Builtin.«super.__getattribute__» ⟨[.ref so, .str "__missing__" t], []⟩) Q E ⟨h, gn, dr, tk, os⟩ := by
  k_fill
  intro w A h D so gn dr tk os Q E t X hne hso hget
  have f0 : (#[.ref 122, .ref D, .ref 122] : Array Value)[0]? = some (.ref 122) := rfl
  have f1 : (#[.ref 122, .ref D, .ref 122] : Array Value)[1]? = some (.ref D) := rfl
  have f2 : (#[.ref 122, .ref D, .ref 122] : Array Value)[2]? = some (.ref 122) := rfl
  have hC : Looks (model PySem.Challenge.rw_il0159_01.row.prog w) h (mroOf (.ref 122)) [.ref 122, .type "collections.defaultdict", .type "dict", .type "object"] := (looks_clsIn X (by k_is)).andThen .now
  unfold Builtin.«super.__getattribute__»
  refine wpAny_bind (wpAny_pure ?_)
  refine wpAny_bind (m := asStr? _) (wpAny_pure ?_)
  refine wpAny_bind (wpAny_field hso rfl f0 ?_)
  refine wpAny_bind (wpAny_field hso rfl f1 ?_)
  refine wpAny_bind (wpAny_field hso rfl f2 ?_)
  show wpAny _ _ (if ((Value.ref 122 == Value.none || (Str.ofString "__missing__" == Str.ofString "__class__")) = true) then _ else _) _ _ _
  rw [if_neg (by decide)]
  refine wpAny_bind (ks_wpAny_notOpaque (looks_opaque X (by k_is)) ?_)
  show wpAny _ _ (if (Value.ref 122 == Value.type "module") = true then _ else _) _ _ _
  rw [if_neg (by decide)]
  refine wpAny_bind (Looks.at hC ?_)
  have hd1 : ([Value.ref 122, .type "collections.defaultdict", .type "dict", .type "object"].dropWhile (· != Value.ref 122)).drop 1 = [Value.type "collections.defaultdict", .type "dict", .type "object"] := by decide
  rw [hd1]
  refine wpAny_bind ?_
  refine ks_forIn_along X (v := .builtin "collections.defaultdict.__missing__") (name := "__missing__") (fun _ _ => rfl) rfl ?_ (by kernel_rfl)
  refine wpAny_bind (wpAny_of_eq type_mget ?_)
  refine wpAny_bind (wpAny_of_eq look_mget ?_)
  have hb : (Value.ref D == Value.ref 122) = false := by simp [hne]
  simp only [hb, Bool.false_eq_true, if_false]
  refine wpAny_bind (wpAny_holding (wpAny_mono hget (fun v s' hq => ?_) fun _ _ x => x))
  exact wpAny_bind (wpAny_pure (wpAny_pure (wpAny_pure hq)))
theorem supattr : ∀ {w : World} {A : Around} {h : Heap} {D so : Addr} {gn : Array GenState} {dr : Drawn} {tk : Nat} {os : OsState} {Q : Value → Shared → Prop} {E : Value → Shared → Prop}
   (X : (hd.heap_39 w.params).In h) (hne : D ≠ 122)
   (hso : h.get? so = some (ks_superObj 122 D 122))
   (hget : ∀ tk Q E, (∀ v s', (∃ bm h' tk', v = .ref bm ∧ s' = ⟨h', gn, dr, tk', os⟩ ∧ Kp h h' ∧ h'.get? bm = some (boundO "collections.defaultdict.__missing__" D)) → Q v s') → wpAny (model PySem.Challenge.rw_il0159_01.prog w) A.in1 (call (.builtin "method_descriptor.__get__") [.builtin "collections.defaultdict.__missing__", .ref D, .ref 122]) Q E ⟨h, gn, dr, tk, os⟩)
   (q : ∀ bm h' tk', Kp h h' → h'.get? bm = some (boundO "collections.defaultdict.__missing__" D) → Q (.ref bm) ⟨h', gn, dr, tk', os⟩),
   wpAny (model PySem.Challenge.rw_il0159_01.prog w) A (getAttr (.ref so) "__missing__" true) Q E ⟨h, gn, dr, tk, os⟩ := by
  k_fill
  intro w A h D so gn dr tk os Q E X hne hso hget q
  have hlk := F.ks_slot_super_ga.lookup
  have hT : ∀ t', (⟨h, gn, dr, t', os⟩ : Shared).TypeIs (.ref so) "super" := fun _ => ⟨_, hso, rfl⟩
  unfold getAttr getAttrBy
  refine wpAny_bind (wpAny_mkText (wpAny_holding (wpAny_bind (wpAny_typeOf (hT _) (wpAny_bind (wpAny_of_eq hlk ?_))))))
  show wpAny _ _ (getAttrByItsOwn (.ref so) (.str "__missing__" tk) (.type "super") (.builtin "super.__getattribute__") true true) _ _ _
  unfold getAttrByItsOwn hookBefore callGetattribute boundAndCalled
  refine wpAny_bind (wpAny_of_eq (show (if onTheHeap (.type "super") then typeLookup (.type "super") "__getattr__" else pure none) = pure none from rfl) ?_)
  refine wpAny_bind (wpAny_attempt (wpAny_holding ?_))
  show wpAny _ _ (bindSpecial (.builtin "super.__getattribute__") (.ref so) >>= _) _ _ _
  refine wpAny_bind (wpAny_of_eq (F.ks_slot_super_ga.bind _) ?_)
  refine wpAny_call_entry F.ks_slot_super_ga (hT _) F.ks_entry_super_ga (supga X hne hso (hget _ _ _ fun v s' hv => ⟨_, rfl, ?_⟩)) (F.ks_gaArgs_super _ _)
  obtain ⟨bm, h', tk', rfl, rfl, k, hb⟩ := hv
  exact wpAny_pure (q bm h' tk' k hb)
end Mine
end

noncomputable section
open PySem PySem.W PyProof.Rows PySem.Spec
set_option maxRecDepth 100000
set_option maxHeartbeats 4000000
namespace Mine
theorem entry_ddm : entryFor table "collections.defaultdict.__missing__" = some Builtin.«collections.defaultdict.__missing__» := entryFor_of_tree (by kernel_rfl)
theorem plain_ddm : plainId "collections.defaultdict.__missing__" = true := by decide +kernel
theorem plain_dsd : plainId "dict.setdefault" = true := by decide +kernel
theorem sig_ddm : Manifest.signature? "collections.defaultdict.__missing__" = some ⟨.oneArg, "defaultdict.__missing__", "__missing__", .self, [⟨"object", .posOnly, true⟩]⟩ := by kernel_rfl
theorem kind_ddm : builtinKind "collections.defaultdict.__missing__" = some .method := by decide +kernel
theorem checkB : ∀ {w : World} {A : Around} {h : Heap} {D ID lam : Addr} {gn : Array GenState} {dr : Drawn} {tk : Nat} {os : OsState} {Q : Unit → Shared → Prop} {E : Value → Shared → Prop} {es : Array DictEntry} {ep : Nat} {oI : Obj} {x : Str} {t : Tok}
   (X : (hd.heap_39 w.params).In h) (hD : h.get? D = some (bookO ID lam es ep)) (hI : h.get? ID = some oI) (q : Q () ⟨h, gn, dr, tk, os⟩),
   wpAny (model PySem.Challenge.rw_il0159_01.prog w) A (checkBoundCall "collections.defaultdict.__missing__" ⟨[.ref D, .str x t], []⟩) Q E ⟨h, gn, dr, tk, os⟩ := by
  k_fill
  intro w A h D ID lam gn dr tk os Q E es ep oI x t X hD hI q
  have I := bookInst hD hI
  unfold checkBoundCall
  simp only [sig_ddm, kind_ddm]
  rw [if_neg (by decide)]
  refine wpAny_bind (Looks.at (I.type.andThen (looks_mroIn X (base := .type "module") (r := false) (by k_is))) ?_)
  rw [if_neg (by decide +kernel)]
  refine wpAny_bind (ks_wpAny_isType_inst hD (fun _ e => nomatch e) ?_)
  simp only [Bool.false_eq_true, if_false]
  refine wpAny_bind (Looks.at I.type ?_)
  dsimp only
  refine wpAny_bind (Looks.at (looks_clsIn X (by k_is)) ?_)
  refine wpAny_bind (Looks.at (looks_typeIn X (t := .type "type") (by k_is)) ?_)
  rw [if_pos (by decide)]
  exact wpAny_of_eq (a := ()) (by with_unfolding_all rfl) q
theorem notOrd : ∀ {w : World} {A : Around} {s : Shared} {D ID lam : Addr} {Q : Unit → Shared → Prop} {E : Value → Shared → Prop} {es : Array DictEntry} {ep : Nat} {oI : Obj} {rest : List Value} {kw : List (Str × Value)} {name : String}
   (X : (hd.heap_39 w.params).In s.heap) (hD : s.heap.get? D = some (bookO ID lam es ep)) (hI : s.heap.get? ID = some oI) (q : Q () s),
   wpAny (model PySem.Challenge.rw_il0159_01.prog w) A (Builtin.Dict.notOrdered name ⟨.ref D :: rest, kw⟩) Q E s := by
  k_fill
  intro w A s D ID lam Q E es ep oI rest kw name X hD hI q
  have I := bookInst hD hI
  unfold Builtin.Dict.notOrdered
  split
  · refine wpAny_bind (I.type.here ?_)
    show wpAny _ _ (if (Value.ref 122 != Value.type "dict") = true then _ else _) _ _ _
    rw [if_pos (by decide)]
    refine wpAny_bind ((I.type.andThen (looks_mroIn X (base := .type "collections.OrderedDict") (r := false) (by k_is))).here ?_)
    simp only [Bool.false_eq_true, if_false]
    exact wpAny_pure q
  · exact wpAny_pure q
theorem call_bound : ∀ {w : World} {A : Around} {h : Heap} {bm D ID lam : Addr} {gn : Array GenState} {dr : Drawn} {tk : Nat} {os : OsState} {Q E : Value → Shared → Prop} {es : Array DictEntry} {ep : Nat} {oI : Obj} {x : Str} {t : Tok}
   (X : (hd.heap_39 w.params).In h) (hD : h.get? D = some (bookO ID lam es ep)) (hI : h.get? ID = some oI) (hb : h.get? bm = some (boundO "collections.defaultdict.__missing__" D))
   (hsys : (D == sysModules) = false) (hlam : ∃ o fd, h.get? lam = some o ∧ o.data = .func fd)
   (hnext : codeAny (model PySem.Challenge.rw_il0159_01.prog w) A.in1 (.call (.ref lam) ⟨[], []⟩) (fun r s' => match r with | .ok (.ret v) => ((hd.heap_39 w.params).In s'.heap ∧ s'.heap.get? D = some (bookO ID lam es ep) ∧ s'.heap.get? ID = some oI) ∧ wpAny (model PySem.Challenge.rw_il0159_01.prog w) A.in1 (dictSetDefault D (.str x t) v) Q E s' | _ => False) ⟨h, gn, dr, tk, os⟩),
   wpAny (model PySem.Challenge.rw_il0159_01.prog w) A (call (.ref bm) [.str x t]) Q E ⟨h, gn, dr, tk, os⟩ := by
  k_fill
  intro w A h bm D ID lam gn dr tk os Q E es ep oI x t X hD hI hb hsys hlam hnext
  have I := bookInst hD hI
  refine wpAny_call (codeAny_of_tree ?_)
  show wpAny _ A.in1 (callAny (.ref bm) ⟨[.str x t], []⟩) _ _ _
  simp only [callAny]
  refine wpAny_bind (wpAny_load hb ?_)
  show wpAny _ _ (checkBoundCall "collections.defaultdict.__missing__" ⟨[.ref D, .str x t], []⟩ >>= fun _ => again (Code.builtin "collections.defaultdict.__missing__" ⟨[.ref D, .str x t], []⟩)) _ _ _
  refine wpAny_bind (checkB X hD hI (wpAny_pure (And.intro (plainId_quiet plain_ddm _) (codeAny_builtin entry_ddm ?_))))
  rw [Around.under_plainId plain_ddm]
  unfold Builtin.«collections.defaultdict.__missing__»
  refine wpAny_bind (m := selfAndOne _ _) (wpAny_pure ?_)
  unfold Builtin.Collections_defaultdict.factory? slotAt
  refine wpAny_bind (wpAny_bind (wpAny_bind (wpAny_loadPart hD (wpAny_pure (wpAny_pure ?_)))))
  obtain ⟨o, fd, ho, hfd⟩ := hlam
  show wpAny _ _ (callOutOfASlot (.ref lam) >>= fun value => again (Code.builtin "dict.setdefault" ⟨[.ref D, .str x t, value], []⟩)) _ _ _
  unfold callOutOfASlot borrowsExactly
  refine wpAny_bind (wpAny_bind (wpAny_bind (wpAny_load ho ?_)))
  rw [hfd]
  refine wpAny_pure ?_
  simp only [if_true]
  refine PySem.W.X.y_start _ _ _ _ _ _ _ _ _ _ _ _ (fun e => nomatch e) ?_
  refine codeAny_mono (show codeAny _ (A.in1.mark none) _ _ _ from hnext) fun r s' hr => ?_
  cases r with
  | error e => exact hr.elim
  | ok f =>
    cases f with
    | ret v =>
      show wpAny _ A.in1 (pure v) _ _ s'
      refine wpAny_pure (wpAny_pure (And.intro (plainId_quiet plain_dsd _) (codeAny_builtin PySem.F.entry_dict_setdefault ?_)))
      rw [Around.under_plainId plain_dsd]
      obtain ⟨⟨X', hD', hI'⟩, hr⟩ := hr
      unfold Builtin.«dict.setdefault»
      refine wpAny_bind ?_
      unfold Builtin.Dict.keyAndDefault
      refine wpAny_bind (notOrd X' hD' hI' ?_)
      show wpAny _ _ (pure (D, Value.str x t, some v)) _ _ s'
      refine wpAny_pure ?_
      show wpAny _ _ (if (D == sysModules) = true then _ else _) _ _ s'
      rw [hsys, if_neg Bool.false_ne_true]
      refine wpAny_bind (wpAny_mono hr (fun v s'' hq => ?_) fun e s'' hq => hq)
      exact wpAny_pure hq
    | _ => exact hr.elim
end Mine
end

noncomputable section
open PySem PySem.W PyProof.Rows PySem.Spec
set_option maxRecDepth 100000
set_option maxHeartbeats 4000000
namespace Mine
abbrev wpAtX := @_root_.PySem.wpAt
section
variable {M : Model} {A : Around} {c : Code} {E : Value → Shared → Prop} {s : Shared} {env : Env}
open PySem (wpAt wpAt_bind wpAt_of_wpAny)
theorem at_spliced_nil {Q : List Value → Shared → Prop} (h : Q [] s) : _root_.PySem.wpAt M A c (spliced []) Q E s := _root_.PySem.wpAt_of_wpAny (Calls.spliced_nil h)
theorem at_spliced {x : Sem Value} {rest : List (Bool × Sem Value)} {Q : List Value → Shared → Prop} (h : _root_.PySem.wpAt M A c x (fun v s₁ => _root_.PySem.wpAt M A c (spliced rest) (fun vs s₂ => Q (v :: vs) s₂) E s₁) E s) :
    _root_.PySem.wpAt M A c (spliced ((false, x) :: rest)) Q E s := by
  unfold spliced
  refine _root_.PySem.wpAt_bind (_root_.PySem.wpAt_mono h (fun v s₁ h₁ => ?_) fun _ _ x => x)
  simp only [Bool.false_eq_true, if_false]
  refine _root_.PySem.wpAt_bind (_root_.PySem.wpAt_of_wpAny (wpAny_pure ?_))
  refine _root_.PySem.wpAt_bind (ks_wpAt_holding (_root_.PySem.wpAt_mono h₁ (fun vs s₂ h₂ => ?_) fun _ _ x => x))
  exact _root_.PySem.wpAt_of_wpAny (wpAny_pure h₂)
theorem at_callWith {pos : Pos} {id : String} {x : Sem Value} {rest : List (Bool × Sem Value)} {Q : Value → Shared → Prop} (hplain : rest.any (·.1) = false)
    (h : _root_.PySem.wpAt M A c (spliced ((false, x) :: rest)) (fun vs s₁ => wpAny M A (call (.builtin id) vs) Q E s₁) E s) : _root_.PySem.wpAt M A c (callWith pos (.builtin id) [] ((false, x) :: rest) []) Q E s := by
  unfold callWith
  refine _root_.PySem.wpAt_bind (ks_wpAt_holding ?_)
  unfold evalArgs
  show _root_.PySem.wpAt M A c (spliced ((false, x) :: rest) >>= _) _ E s
  refine _root_.PySem.wpAt_bind (_root_.PySem.wpAt_mono h (fun vs s' h' => ?_) fun _ _ x => x)
  refine ks_wpAt_holding ?_
  refine _root_.PySem.wpAt_of_wpAny (wpAny_bind (wpAny_pure (wpAny_bind (wpAny_pure (wpAny_pure ?_)))))
  refine _root_.PySem.wpAt_of_wpAny (wpAny_bind (wpAny_standAt ?_))
  simp only [List.any_cons, hplain, List.any_nil, Bool.or_false]
  refine wpAny_bind (wpAny_pure ?_)
  exact wpAny_bind (wpAny_mono h' (fun r s₂ hr => wpAny_bind (wpAny_holding (wpAny_point (wpAny_pure hr)))) fun _ _ x => x)
theorem at_Call {func : Expr} {args : List Expr} {pos : Pos} {Q : Value → Shared → Prop} (h : _root_.PySem.wpAt M A c (eval func env) (fun f s₁ => _root_.PySem.wpAt M A c (callWith pos f [] (backTo pos (starEach args env)) []) Q E s₁) E s)
    (he : eval (.Call func args [] pos) env = (do callWith pos (← eval func env) [] (backTo pos (starEach args env)) []) := by rfl) : _root_.PySem.wpAt M A c (eval (.Call func args [] pos) env) Q E s := by
  rw [he]; exact _root_.PySem.wpAt_bind h
theorem at_Attr {o : Expr} {attr : Str} {pos : Pos} {Q : Value → Shared → Prop} (h : _root_.PySem.wpAt M A c (attributeBase o attr env (eval o env)) (fun ov s₁ => wpAny M A (getAttr ov attr true) (fun r s₂ => wpAny M A (letTemporaryGo o ov r) (fun _ s₃ => Q r s₃) E s₂) E s₁) E s)
    (he : eval (.Attribute o attr pos) env = (do
      let ov ← attributeBase o attr env (eval o env)
      standAt pos.atName
      let r ← holding [ov] (getAttr ov attr true)
      letTemporaryGo o ov r
      pure r) := by rfl) : _root_.PySem.wpAt M A c (eval (.Attribute o attr pos) env) Q E s := by
  rw [he]
  refine _root_.PySem.wpAt_bind (_root_.PySem.wpAt_mono h (fun ov s₁ h₁ => ?_) fun _ _ x => x)
  refine _root_.PySem.wpAt_of_wpAny (wpAny_bind (wpAny_standAt (wpAny_bind (wpAny_holding (wpAny_mono h₁ (fun r s₂ h₂ => ?_) fun _ _ x => x)))))
  exact wpAny_bind (wpAny_mono h₂ (fun _ s₃ h₃ => wpAny_pure h₃) fun _ _ x => x)
end
theorem splicedC {M : Model} {A : Around} {E : Value → Shared → Prop} {s : Shared} {x : Sem Value} {rest : List (Bool × Sem Value)} {Q : List Value → Shared → Prop} (h : wpAny M A x (fun v s₁ => wpAny M A (spliced rest) (fun vs s₂ => Q (v :: vs) s₂) E s₁) E s) :
    wpAny M A (spliced ((false, x) :: rest)) Q E s := by
  unfold spliced
  refine wpAny_bind (wpAny_mono h (fun v s₁ h₁ => ?_) fun _ _ x => x)
  simp only [Bool.false_eq_true, if_false]
  refine wpAny_bind (wpAny_pure ?_)
  refine wpAny_bind (wpAny_holding (wpAny_mono h₁ (fun vs s₂ h₂ => ?_) fun _ _ x => x))
  exact wpAny_pure h₂
theorem c_missing : ∀ {w : World} {env : Env} {h : Heap} {gn : Array GenState} {dr : Drawn} {tk : Nat} {os : OsState} {Q E : Value → Shared → Prop} {D ID lam : Addr} {es : Array DictEntry} {ep : Nat} {oI : Obj} {x : Str} {t : Tok} {p : Program} {loose : List Str} {mean : ExcName → Option Value} {mg mb : Str → Option Value}
   (X : (hd.heap_39 w.params).In h) (T : Top p loose mean mg mb h) (hD : h.get? D = some (bookO ID lam es ep)) (hI : h.get? ID = some oI) {C : Addr → Addr → Heap → Prop}
   (hga : ∀ (bm : Addr) (h₃ : Heap) (tk : Nat) (t : Tok) (env2 : Env) (Q' E' : Value → Shared → Prop), Kp h h₃ → h₃.get? bm = some (boundO "collections.defaultdict.__missing__" D) → (∀ f h₄ tk₄, Kp h₃ h₄ → C bm f h₄ → Q' (.ref f) ⟨h₄, gn, dr, tk₄, os⟩) →
     wpAny (model PySem.Challenge.rw_il0159_01.prog w) ((callerA.deeper env).in1.deeper env2) (call (.builtin "getattr") [.ref D, .str "_frozen" t, .ref bm]) Q' E' ⟨h₃, gn, dr, tk, os⟩)
   (hkeep : ∀ bm f h₄, C bm f h₄ → ∃ k, (k = Keeper.frame ∨ k = Keeper.machine ∨ k = Keeper.boundFrame) ∧ Looks (model PySem.Challenge.rw_il0159_01.prog w) h₄ (keeperOf (.ref f)) k)
   (hcall : ∀ (bm f : Addr) (h₄ : Heap) (tk : Nat) (env2 : Env) (E' : Value → Shared → Prop), Kp h h₄ → C bm f h₄ → wpAny (model PySem.Challenge.rw_il0159_01.prog w) ((callerA.deeper env).in1.deeper env2) (call (.ref f) [.str x t]) Q E' ⟨h₄, gn, dr, tk, os⟩),
   wpAny (model PySem.Challenge.rw_il0159_01.prog w) (callerA.deeper env).in1 (call (.ref 112) [.ref D, .str x t]) Q E ⟨h, gn, dr, tk, os⟩ := by
  k_fill
  intro w env h gn dr tk os Q E D ID lam es ep oI x t p loose mean mg mb X T hD hI C hga hkeep hcall
  refine wpAny_call (ks_codeAny_call_defAt (s := ⟨h, gn, dr, tk, os⟩) (Nat.le_of_ble_eq_true rfl) (X 112 _ (by k_is)) rfl T.nolimit (codeRec_of X (by k_is)) rfl (BindsTo.of_eq rfl) (by decide) (locs rfl) (fun h₁ hns hk => ?_))
  have F : Fr h h.objs.size h₁ _ := ⟨hns, hk, Nat.le_refl _⟩
  refine ks_wpAt_execs_cons (ks_wpAt_Return_some ?_)
  refine at_Call (at_Call ?_)
  refine _root_.PySem.wpAt_of_wpAny (nameX_B F X (topRead_of T) (by k_is) (by boot_by_name) (by decide) ?_)
  refine at_callWith rfl ?_
  refine at_spliced (_root_.PySem.wpAt_of_wpAny (nameX_L F rfl ?_))
  refine at_spliced (_root_.PySem.wpAt_of_wpAny (wpAny_mkText ?_))
  refine at_spliced (at_Attr ?_)
  have X1 : (hd.heap_39 w.params).In h₁ := fun b o e => hk b o (X b o e)
  have hD1 := hk _ _ hD
  have hI1 := hk _ _ hI
  refine ks_wpAt_super_base (s := ⟨h₁, gn, dr, _, os⟩) (by rfl) (by rfl) (by decide) rfl (X1 112 _ (by k_is)) rfl rfl rfl (X1 111 _ (by k_is)) rfl rfl (by first | rfl | decide +kernel) (by decide +kernel) ?_
  refine ks_loadName_global rfl rfl (Calls.loadGlobal_builtin (env := callEnv _ _ _) (T.g.keeps F.keep) (mg_none_of X T.g (by k_is)) (T.b.keeps F.keep) ((T.builtins _ (by decide +kernel)).trans (by first | boot_by_name | rfl | kernel_rfl)) ⟨rfl, ?_⟩)
  refine wpAny_loadName_free rfl rfl rfl ⟨_, X1 100 _ (by k_is), rfl⟩ ?_
  refine wpAny_loadName_local rfl rfl F.ns rfl ?_
  refine ks_wpAny_isType_cls (X1 122 _ (by k_is)) rfl ⟨rfl, ?_⟩
  refine ks_wpAny_call_super (X1 122 _ (by k_is)) rfl hD1 rfl (fun _ e => nomatch e) (looks_mroIn X1 (by k_is)) (fun h₂ e2 k2 => ?_)
  have X2 : (hd.heap_39 w.params).In h₂ := fun b o e => k2 b o (X1 b o e)
  have hne : D ≠ 122 := ks_ne X (bookInst hD hI) (by k_is)
  refine supattr (so := h₁.objs.size) X2 hne e2 (fun tk Q E hq => L_get X2 (k2 _ _ hD1) fun v h' tk' k hc => ?_) (fun bm h₃ tk₃ k3 hbm => ?_)
  · obtain ⟨bm, rfl, hb⟩ := hc
    exact hq _ _ ⟨bm, h', tk', rfl, rfl, k, hb⟩
  refine wpAny_letTemporaryGo ?_
  refine at_spliced_nil ?_
  refine hga bm h₃ _ _ _ _ _ (fun b o e => k3 b o (k2 b o (hk b o e))) hbm (fun f h₄ tk₄ k4 hC => ?_)
  have F4 : Fr h h.objs.size h₄ _ := F.keeps fun b o e => k4 b o (k3 b o (k2 b o e))
  refine _root_.PySem.wpAt_of_wpAny ?_
  refine callWith_of (P := fun h' => h' = h₄) rfl (fun h' e => e ▸ hkeep bm f h₄ hC) (Calls.evalArgs_plain ?_)
  refine splicedC (nameX_L F4 rfl (Calls.spliced_nil ⟨rfl, ?_⟩))
  refine wpAny_mono (hcall bm f h₄ _ _ _ (fun b o e => k4 b o (k3 b o (k2 b o (hk b o e)))) hC) (fun v s' hq => ?_) fun _ _ y => y
  exact hq
end Mine
end

noncomputable section
open PySem PySem.W PyProof.Rows PySem.Spec
set_option maxRecDepth 100000
set_option maxHeartbeats 4000000
namespace Mine
theorem ga_U : ∀ {w : World} {env env2 : Env} {h : Heap} {D ID lam bm : Addr} {gn : Array GenState} {dr : Drawn} {tk : Nat} {os : OsState} {Q : Value → Shared → Prop} {E : Value → Shared → Prop} {t : Tok} {es : Array DictEntry} {ep : Nat}
   (X : (hd.heap_39 w.params).In h)
   (hD : h.get? D = some ⟨.ref 122, some ID, .dict es ep, #[some (.ref lam)]⟩) (hI : h.get? ID = some ⟨.type "dict", none, .dict #[] 0, #[]⟩) (hret : XRet h gn dr os Q fun v h' => v = .ref bm),
   wpAny (model PySem.Challenge.rw_il0159_01.prog w) ((callerA.deeper env).in1.deeper env2) (call (.builtin "getattr") [.ref D, .str "_frozen" t, .ref bm]) Q E ⟨h, gn, dr, tk, os⟩ := by
  k_with_none
  k_with "x_close" => ((rename XRet _ _ _ _ _ _ => hret'); first | (rename PySem.W.X.Mem _ _ _ _ => D'; refine hret' _ _ _ (XMem.kp D') ?_; exact rfl) | (refine hret' _ _ _ (fun _ _ e => e) ?_; exact rfl))
  k_fill
  intro w env env2 h D ID lam bm gn dr tk os Q E t es ep X hD hI hret
  x_run
theorem ga_F : ∀ {w : World} {env env2 : Env} {h : Heap} {D ID lam bm FL : Addr} {gn : Array GenState} {dr : Drawn} {tk : Nat} {os : OsState} {Q : Value → Shared → Prop} {E : Value → Shared → Prop} {t u : Tok} {es : Array DictEntry} {ep : Nat} {hs : Int}
   (X : (hd.heap_39 w.params).In h)
   (hD : h.get? D = some ⟨.ref 122, some ID, .dict es ep, #[some (.ref lam)]⟩) (hI : h.get? ID = some ⟨.type "dict", none, .dict #[⟨hs, .str "_frozen" u, .ref FL⟩] 1, #[]⟩) (hret : XRet h gn dr os Q fun v h' => v = .ref FL),
   wpAny (model PySem.Challenge.rw_il0159_01.prog w) ((callerA.deeper env).in1.deeper env2) (call (.builtin "getattr") [.ref D, .str "_frozen" t, .ref bm]) Q E ⟨h, gn, dr, tk, os⟩ := by
  k_with_none
  k_with "x_close" => ((rename XRet _ _ _ _ _ _ => hret'); first | (rename PySem.W.X.Mem _ _ _ _ => D'; refine hret' _ _ _ (XMem.kp D') ?_; exact rfl) | (refine hret' _ _ _ (fun _ _ e => e) ?_; exact rfl))
  k_fill
  intro w env env2 h D ID lam bm FL gn dr tk os Q E t u es ep hs X hD hI hret
  x_run
theorem keep_bound {M : Model} {h : Heap} {bm D : Addr} {id : String} (e : h.get? bm = some (boundO id D)) : ∃ k, (k = Keeper.frame ∨ k = Keeper.machine ∨ k = Keeper.boundFrame) ∧ Looks M h (keeperOf (.ref bm)) k :=
  ⟨.machine, .inr (.inl rfl), (Looks.ld (part := none) e).andThen .now⟩
theorem CodeRec.kp {h h' : Heap} {c : Value} {q : Str} (x : h.CodeRec c q) (k : Kp h h') : h'.CodeRec c q := by
  obtain ⟨a, o, vs, tq, e, ho, r⟩ := x
  exact ⟨a, o, vs, tq, e, k _ _ ho, r⟩
theorem LamAt.kp {h h' : Heap} {lam cc LL : Addr} (H : LamAt h lam cc LL) (k : Kp h h') : LamAt h' lam cc LL := by
  obtain ⟨⟨o, nm, ql, pm, c', ctv, p1, p2, p3, p4, n, hp, ho, r1, r2, r3⟩, oc, hc, r4⟩ := H
  exact ⟨⟨o, nm, ql, pm, c', ctv, p1, p2, p3, p4, n, hp, k _ _ ho, r1, r2, CodeRec.kp r3 k⟩, oc, k _ _ hc, r4⟩
/-- all but two objects -/
abbrev Kp2 (a b : Addr) (h h' : Heap) : Prop := ∀ c o, c ≠ a → c ≠ b → h.get? c = some o → h'.get? c = some o
theorem miss_U : ∀ {w : World} {env : Env} {h bs : Heap} {gn : Array GenState} {dr : Drawn} {tk : Nat} {os : OsState} {Q E : Value → Shared → Prop} {D ID lam cc LL : Addr} {es : Array DictEntry} {ep : Nat} {kvs : List (Str × Value)} {x : Str} {t : Tok} {v0 : Value} {rest : List Value} {n : Nat}
   {p : Program} {loose : List Str} {mean : ExcName → Option Value} {mg mb : Str → Option Value}
   (X : (hd.heap_39 w.params).In bs) (T : Top p loose mean mg mb bs) (kb : Kp bs h) (nD : bs.get? D = none) (nL : bs.get? LL = none) (hsys : (D == sysModules) = false)
   (hD : h.get? D = some (bookO ID lam es ep)) (hI : h.get? ID = some ⟨.type "dict", none, .dict #[] 0, #[]⟩) (H : Ents PySem.Challenge.rw_il0159_01.prog w es kvs) (hlam : LamAt h lam cc LL) (hL : h.get? LL = some (listOf (v0 :: rest).toArray n))
   (hz : rest.length ≤ 1000) (hkz : kvs.length ≤ 1000) (hx : valueAt kvs x = none)
   (q : ∀ h' es' ep' tk', h'.get? D = some (bookO ID lam es' ep') → Ents PySem.Challenge.rw_il0159_01.prog w es' (kvs ++ [(x, v0)]) → h'.get? LL = some (listOf rest.toArray (n + 1)) → Kp2 D LL h h' → Q v0 ⟨h', gn, dr, tk', os⟩),
   wpAny (model PySem.Challenge.rw_il0159_01.prog w) (callerA.deeper env) (getItem (.ref D) (.str x t)) Q E ⟨h, gn, dr, tk, os⟩ := by
  intro w env h bs gn dr tk os Q E D ID lam cc LL es ep kvs x t v0 rest n p loose mean mg mb X T kb nD nL hsys hD hI H hlam hL hz hkz hx q
  have Xh : (hd.heap_39 w.params).In h := fun b o e => kb b o (X b o e)
  refine getItem_B Xh hD hI hsys H (fun v tk' hv => by rw [hx] at hv; cases hv) (fun tk' _ => ?_)
  refine c_missing (C := fun bm f h₄ => f = bm ∧ h₄.get? bm = some (boundO "collections.defaultdict.__missing__" D)) Xh (T.keeps kb) hD hI ?_ ?_ ?_
  · intro bm h₃ tk t env2 Q' E' k3 hb hq
    refine ga_U (fun b o e => k3 b o (Xh b o e)) (k3 _ _ hD) (k3 _ _ hI) ?_
    rintro v h' tk' k rfl
    exact hq _ _ _ k ⟨rfl, k _ _ hb⟩
  · rintro bm f h₄ ⟨rfl, e⟩
    exact keep_bound e
  · rintro bm f h₄ tk env2 E' k4 ⟨rfl, hb⟩
    have X4 : (hd.heap_39 w.params).In h₄ := fun b o e => k4 b o (Xh b o e)
    obtain ⟨⟨of, nm, ql, pm, c', ctv, p1, p2, p3, p4, nn, hp, ho, r1, r2, r3⟩, _⟩ := id hlam
    refine call_bound X4 (k4 _ _ hD) (k4 _ _ hI) hb hsys ⟨_, _, k4 _ _ ho, r2⟩ ?_
    refine c_popC (Nat.le_of_ble_eq_true rfl) ((T.keeps kb).nolimit.keeps k4) (LamAt.kp hlam k4) (k4 _ _ hL) hz (fun h' tk' k' hL' => ?_)
    have neD : D ≠ LL := get_ne_data hD hL (fun e => nomatch e)
    have neI : ID ≠ LL := get_ne_data hI hL (fun e => nomatch e)
    refine ⟨⟨fun b o e => k' b o (fun z => ?_) (X4 b o e), k' _ _ neD (k4 _ _ hD), k' _ _ neI (k4 _ _ hI)⟩, ?_⟩
    · subst z; have := X _ _ e; rw [nL] at this; cases this
    · refine setDefault_B (k' _ _ neD (k4 _ _ hD)) H hx hkz (fun h'' es' ep' tk'' hD' H' k'' => ?_)
      refine q h'' es' ep' tk'' hD' H' (k'' _ _ (Ne.symm neD) hL') (fun c o hc1 hc2 e => k'' c o hc1 (k' c o hc2 (k4 c o e)))
end Mine
end

noncomputable section
open PySem PySem.W PyProof.Rows PySem.Spec
set_option maxRecDepth 100000
set_option maxHeartbeats 4000000
namespace Mine
theorem hk_df : ∀ {w : World} {env env2 env3 : Env} {h : Heap} {D ID lam : Addr} {gn : Array GenState} {dr : Drawn} {tk : Nat} {os : OsState} {Q : Value → Shared → Prop} {E : Value → Shared → Prop} {t : Tok} {es : Array DictEntry} {ep : Nat}
   (X : (hd.heap_39 w.params).In h)
   (hD : h.get? D = some ⟨.ref 122, some ID, .dict es ep, #[some (.ref lam)]⟩)  (hret : XRet h gn dr os Q fun v h' => v = .ref lam),
   wpAny (model PySem.Challenge.rw_il0159_01.prog w) (((callerA.deeper env).in1.deeper env2).deeper env3) (call (.builtin "collections.defaultdict.__getattribute__") [.ref D, .str "default_factory" t]) Q E ⟨h, gn, dr, tk, os⟩ := by
  k_with_none
  k_with "x_close" => ((rename XRet _ _ _ _ _ _ => hret'); first | (rename PySem.W.X.Mem _ _ _ _ => D'; refine hret' _ _ _ (XMem.kp D') ?_; exact rfl) | (refine hret' _ _ _ (fun _ _ e => e) ?_; exact rfl))
  k_fill
  intro w env env2 env3 h D ID lam gn dr tk os Q E t es ep X hD hret
  x_run
theorem type_df : typeOf (.builtin "collections.defaultdict.default_factory") = pure (.type "member_descriptor") := by show builtinType _ = _; rw [builtinType_eq_fast]; kernel_rfl
theorem type_dga : typeOf (.builtin "collections.defaultdict.__getattribute__") = pure (.type "wrapper_descriptor") := by show builtinType _ = _; rw [builtinType_eq_fast]; kernel_rfl
theorem bind_dga (self : Value) : bindSpecial (.builtin "collections.defaultdict.__getattribute__") self = pure (.builtin "collections.defaultdict.__getattribute__", [self]) := by
  unfold bindSpecial
  rw [type_dga]
  rfl
theorem getM_df : ∀ {w : World} {A : Around} {h : Heap} {D ID lam : Addr} {gn : Array GenState} {dr : Drawn} {tk : Nat} {os : OsState} {Q : Value × List Value → Shared → Prop} {E : Value → Shared → Prop} {es : Array DictEntry} {ep : Nat} {oI : Obj} {pl : Sem Bool}
   (X : (hd.heap_39 w.params).In h) (hD : h.get? D = some (bookO ID lam es ep)) (hI : h.get? ID = some oI)
   (hget : ∀ tk Q E, (∀ h' tk', Kp h h' → Q (.ref lam) ⟨h', gn, dr, tk', os⟩) → wpAny (model PySem.Challenge.rw_il0159_01.prog w) A (call (.builtin "collections.defaultdict.__getattribute__") [.ref D, .str "default_factory" tk]) Q E ⟨h, gn, dr, tk + 1, os⟩)
   (q : ∀ h' tk', Kp h h' → Q (.ref lam, []) ⟨h', gn, dr, tk', os⟩),
   wpAny (model PySem.Challenge.rw_il0159_01.prog w) A (getMethod (.ref D) "default_factory" pl) Q E ⟨h, gn, dr, tk, os⟩ := by
  k_fill
  intro w A h D ID lam gn dr tk os Q E es ep oI pl X hD hI hget q
  have I := bookInst hD hI
  unfold getMethod
  refine wpAny_bind (Looks.at (I.type.andThen (looks_findIn X (by k_is))) ?_)
  dsimp only
  rw [if_neg (by decide +kernel)]
  refine wpAny_bind (Looks.at (I.type.andThen (looks_findIn X (r := none) (by k_is))) ?_)
  simp only [Option.isSome_none, Bool.false_eq_true, if_false]
  refine wpAny_bind (Looks.at (I.type.andThen (looks_findIn X (r := some (.builtin "collections.defaultdict.default_factory")) (by k_is))) ?_)
  dsimp only
  refine wpAny_bind (wpAny_of_eq type_df ?_)
  rw [if_pos (by decide)]
  refine wpAny_bind ?_
  unfold getAttr getAttrBy
  refine wpAny_bind (wpAny_mkText (wpAny_holding (wpAny_bind (Looks.here (s := ⟨h, gn, dr, tk + 1, os⟩) I.type (wpAny_bind (Looks.here (s := ⟨h, gn, dr, tk + 1, os⟩) (looks_findIn X (by k_is)) ?_))))))
  show wpAny _ _ (getAttrByItsOwn (.ref D) (.str "default_factory" tk) (.ref 122) (.builtin "collections.defaultdict.__getattribute__") true false) _ _ _
  unfold getAttrByItsOwn
  refine wpAny_bind (Looks.here (s := ⟨h, gn, dr, tk + 1, os⟩) (show Looks _ h (hookBefore (.ref 122)) none from looks_findIn X (t := .ref 122) (name := "__getattr__") (r := none) (by k_is)) ?_)
  refine wpAny_bind (wpAny_attempt (wpAny_holding ?_))
  show wpAny _ _ (boundAndCalled (.builtin "collections.defaultdict.__getattribute__") (.ref D) (.str "default_factory" tk)) _ _ _
  unfold boundAndCalled
  refine wpAny_bind (wpAny_of_eq (bind_dga _) ?_)
  exact hget tk _ _ (fun h' tk' k => wpAny_pure (wpAny_pure (q h' tk' k)))
end Mine
end

noncomputable section
open PySem PySem.W PyProof.Rows PySem.Spec
set_option maxRecDepth 100000
set_option maxHeartbeats 4000000
namespace Mine
abbrev thawBody (p1 p2 p4 : Pos) : Expr := .Call (.Attribute (.Name "self" p1) "default_factory" p2) [] [] p4
abbrev thawScope : Scope := { kind := .function, names := [("key", .local), ("self", .free)], isGenerator := false, isCoroutine := false }
structure FrzAt (h : Heap) (FL sc D : Addr) : Prop where
  fn : ∃ od osl nm ql pm c' ctv p0 p1 p2 p4, (p2.endLine == p4.line) = true ∧ h.get? FL = some ⟨.type "function", od, .func (kla_fn nm ql { posonlyargs := [], args := [{ arg := "key", annotation := none, pos := p0 }], vararg := none, kwonlyargs := [], kw_defaults := [], kwarg := none, defaults := [] } (thawBody p1 p2 p4) thawScope [("self", sc)] pm (.ref c') ctv), osl⟩ ∧ h.CodeRec (.ref c') ql
  cell : ∃ o, h.get? sc = some o ∧ o.data = .cell (some (.ref D))
theorem FrzAt.kp {h h' : Heap} {FL sc D : Addr} (H : FrzAt h FL sc D) (k : Kp h h') : FrzAt h' FL sc D := by
  obtain ⟨⟨od, osl, nm, ql, pm, c', ctv, p0, p1, p2, p4, hp, ho, r3⟩, oc, hc, r4⟩ := H
  exact ⟨⟨od, osl, nm, ql, pm, c', ctv, p0, p1, p2, p4, hp, k _ _ ho, CodeRec.kp r3 k⟩, oc, k _ _ hc, r4⟩
theorem miss_F : ∀ {w : World} {env : Env} {h bs : Heap} {gn : Array GenState} {dr : Drawn} {tk : Nat} {os : OsState} {Q E : Value → Shared → Prop} {D ID lam cc LL FL sc : Addr} {es : Array DictEntry} {ep : Nat} {kvs : List (Str × Value)} {x : Str} {t u : Tok} {hs : Int} {v0 : Value} {rest : List Value} {n : Nat}
   {p : Program} {loose : List Str} {mean : ExcName → Option Value} {mg mb : Str → Option Value}
   (X : (hd.heap_39 w.params).In bs) (T : Top p loose mean mg mb bs) (kb : Kp bs h) (nL : bs.get? LL = none) (hsys : (D == sysModules) = false)
   (hD : h.get? D = some (bookO ID lam es ep)) (hI : h.get? ID = some ⟨.type "dict", none, .dict #[⟨hs, .str "_frozen" u, .ref FL⟩] 1, #[]⟩) (H : Ents PySem.Challenge.rw_il0159_01.prog w es kvs) (hlam : LamAt h lam cc LL) (hfl : FrzAt h FL sc D) (hL : h.get? LL = some (listOf (v0 :: rest).toArray n))
   (hz : rest.length ≤ 1000) (hx : valueAt kvs x = none)
   (q : ∀ h' tk', h'.get? LL = some (listOf rest.toArray (n + 1)) → (∀ c o, c ≠ LL → h.get? c = some o → h'.get? c = some o) → Q v0 ⟨h', gn, dr, tk', os⟩),
   wpAny (model PySem.Challenge.rw_il0159_01.prog w) (callerA.deeper env) (getItem (.ref D) (.str x t)) Q E ⟨h, gn, dr, tk, os⟩ := by
  intro w env h bs gn dr tk os Q E D ID lam cc LL FL sc es ep kvs x t u hs v0 rest n p loose mean mg mb X T kb nL hsys hD hI H hlam hfl hL hz hx q
  have Xh : (hd.heap_39 w.params).In h := fun b o e => kb b o (X b o e)
  refine getItem_B Xh hD hI hsys H (fun v tk' hv => by rw [hx] at hv; cases hv) (fun tk' _ => ?_)
  refine c_missing (C := fun bm f h₄ => f = FL ∧ FrzAt h₄ FL sc D) Xh (T.keeps kb) hD hI ?_ ?_ ?_
  · intro bm h₃ tk t env2 Q' E' k3 hb hq
    refine ga_F (fun b o e => k3 b o (Xh b o e)) (k3 _ _ hD) (k3 _ _ hI) ?_
    rintro v h' tk' k rfl
    exact hq _ _ _ k ⟨rfl, FrzAt.kp (FrzAt.kp hfl k3) k⟩
  · rintro bm f h₄ ⟨rfl, ⟨od, osl, nm, ql, pm, c', ctv, p0, p1, p2, p4, hpos, ho, r3⟩, _⟩
    exact ⟨.frame, .inl rfl, (Looks.ld (part := none) ho).andThen .now⟩
  · rintro bm f h₄ tk env2 E' k4 ⟨rfl, hfl4⟩
    have X4 : (hd.heap_39 w.params).In h₄ := fun b o e => k4 b o (Xh b o e)
    obtain ⟨⟨od, osl, nm, ql, pm, c', ctv, p0, p1, p2, p4, hpos, ho, r3⟩, oc, hoc, hcell⟩ := hfl4
    refine wpAny_call (kla_callFunE (s := ⟨h₄, gn, dr, tk, os⟩) (Nat.le_of_ble_eq_true rfl) ho rfl rfl rfl rfl r3 ?_)
    refine wpAny_pure (wpAny_newFunctionEnv (by intro x hx; rcases List.mem_cons.mp hx with rfl | hx; exact fun e => nomatch e; rcases List.mem_singleton.mp hx with rfl; exact fun e => nomatch e) (by intro x hx; rcases List.mem_singleton.mp hx with rfl; rfl) (fun h₁ hns hsb => ⟨((T.keeps kb).nolimit.keeps k4).fresh _ hsb, kla_codeExpr ?_⟩) rfl)
    have hk₁ : Kp h₄ h₁ := fun b o e => hsb.extBut b o (Nat.ne_of_lt (Heap.lt_size e)) (Heap.get?_push_of_some _ e)
    refine MethodCall_at (env := envX ql thawScope h₄.objs.size f (.ref c') [("self", sc)]) hpos ?_
    refine nameX_FH (hk₁ _ _ hoc) hcell rfl rfl rfl ?_
    refine getM_df (fun b o e => hk₁ b o (X4 b o e)) (hk₁ _ _ (k4 _ _ hD)) (hk₁ _ _ (k4 _ _ hI)) (fun tk Q E hq => ?_) (fun h₅ tk₅ k5 => ?_)
    · refine hk_df (fun b o e => hk₁ b o (X4 b o e)) (hk₁ _ _ (k4 _ _ hD)) ?_
      rintro v h' tk' k rfl
      exact hq _ _ k
    · obtain ⟨⟨of, nm', ql', pm', c'', ctv', q1, q2, q3, q4, nn, hp', ho', r1', r2', r3'⟩, _⟩ := id hlam
      have k45 : Kp h h₅ := fun b o e => k5 b o (hk₁ b o (k4 b o e))
      refine callWith_of (P := fun h' => h' = h₅) rfl (fun h' e => ⟨.frame, .inl rfl, ?_⟩) (PyProof.Rows.evalArgs_none ⟨rfl, ?_⟩)
      · subst e
        refine (Looks.ld (part := none) (k45 _ _ ho')).andThen ?_
        rw [r2']; exact .now
      · refine c_pop (Nat.le_of_ble_eq_true rfl) ((T.keeps kb).nolimit.keeps k45) (LamAt.kp hlam k45) (k45 _ _ hL) hz (fun h' tk' k' hL' => ?_)
        exact q h' tk' hL' (fun c o hc e => k' c o hc (k45 c o e))
end Mine
end

noncomputable section
open PySem PySem.W PyProof.Rows PySem.Spec
set_option maxRecDepth 100000
set_option maxHeartbeats 4000000
namespace Mine
theorem enter_cells {prog : Program} {w : World} {A : Around} {R : Result → Shared → Prop} {s : Shared} {name qual : Str} {params : Arguments} {body : List Stmt} {scope : Scope} {dV kV doc pm cdv ct : Value} {an : Option Addr} {f : Addr} {fo : Obj} {args : List Value} {binds : List (Str × Value)} {led : List (Addr × Obj)}
    (hled : ∀ p ∈ led, s.heap.get? p.1 = some p.2) (hlim : s.heap.NoLimit)
    (ho : s.heap.get? f = some fo) (hd : fo.data = .func (fnX name qual params body scope [] dV kV doc pm an cdv ct)) (hcd : s.heap.CodeRec cdv qual) (hroom : A.depth < recursionLimit)
    (hbind : bindArgs (fnX name qual params body scope [] dV kV doc pm an cdv ct) ⟨args, []⟩ = pure binds)
    (hkind : ∀ n, ∀ x ∈ binds, scope.names.lookup x.1 = some .local ∨ (scope.names.lookup x.1 = some .cell ∧ ((cellsFrom n scope.names []).lookup x.1).isSome = true))
    (hnd : ((cellsFrom 0 scope.names []).map (·.1)).Nodup)
    (h : ∀ L h₁ tk cells, Fr (hideAll s.heap (led.map (·.1))) L h₁ (bindL (envOfC qual scope L f cdv).kindOf binds fun _ => none) → News (hideAll s.heap (led.map (·.1))) L h₁ (cells ++ led) →
      CellsAre (bindC (envOfC qual scope L f cdv).kindOf binds fun _ => none) (cellsFrom (L + 1) scope.names []) cells → (∀ p ∈ led, p.1 < L) → L = s.heap.objs.size →
      wpAny (model prog w) (A.deeper (envOfC qual scope L f cdv)) (execs body (envOfC qual scope L f cdv))
        (fun fl s' => R (.ok (.ret (match fl with | .ret v => v | _ => .none))) s') (fun _ _ => False) { s with heap := h₁, toks := tk })
    (hco : scope.isCoroutine = false := by rfl) (hgen : scope.isGenerator = false := by rfl) (hk : scope.kind = .function := by rfl) : codeAny (model prog w) A (.call (.ref f) ⟨args, []⟩) R s := by
  refine codeAny_call_function hroom ho hd hco hgen rfl hcd ?_
  rw [hbind]
  refine wpAny_pure (wpAny_newFunctionEnv_cells hk (hkind _) fun env' he s' x => ?_)
  subst he
  refine ⟨hlim.keeps x.toInCall.keep, codeAny_func ?_⟩
  obtain ⟨h₁, tk, rfl, _⟩ := x.done
  have hk₁ := x.toInCall.keep
  obtain ⟨cells, NC, Y⟩ := Cl.news (h₀ := s.heap) (Nat.le_refl _) fun n c hm => ⟨x.cell n c (lookup_of_mem_nodup (cellsFrom_names scope.names 0 (s.heap.objs.size + 1) [] [] rfl ▸ hnd) hm), x.above n c hm⟩
  refine wpAny_mono (h s.heap.objs.size h₁ tk cells ⟨x.toInCall.ns, fun b o e => hk₁ b o (of_hideAll _ e), Nat.le_of_eq (hideAll_size _ _)⟩ (fun p hp => ?_) Y (fun p hp => Heap.lt_size (hled p hp)) rfl) (fun fl s' hl => hl) fun _ _ y => y.elim
  rcases List.mem_append.mp hp with hp | hp
  · refine ⟨(NC p hp).1, (NC p hp).2.1, ?_⟩
    cases q : (hideAll s.heap (led.map (·.1))).get? p.1 with
    | none => rfl
    | some o => have := of_hideAll _ q; rw [(NC p hp).2.2] at this; cases this
  · exact ⟨hk₁ _ _ (hled p hp), Nat.ne_of_lt (Heap.lt_size (hled p hp)), hideAll_none _ (List.mem_map_of_mem hp)⟩
end Mine
end

noncomputable section
open PySem PySem.W PyProof.Rows PySem.Spec
set_option maxRecDepth 100000
set_option maxHeartbeats 4000000
namespace Mine
abbrev emptyO : Obj := ⟨.type "dict", none, .dict #[] 0, #[]⟩
theorem mk_book : ∀ {w : World} {env env2 : Env} {h : Heap} {lam : Addr} {gn : Array GenState} {dr : Drawn} {tk : Nat} {os : OsState} {Q : Value → Shared → Prop} {E : Value → Shared → Prop} {od : Option Addr} {fd : FuncData} {osl : Array (Option Value)}
   (X : (hd.heap_39 w.params).In h)
   (hl : h.get? lam = some ⟨.type "function", od, .func fd, osl⟩)  (hret : XRet h gn dr os Q fun v h' => ∃ D ID, v = .ref D ∧ h'.get? D = some (bookO ID lam #[] 0) ∧ h'.get? ID = some emptyO ∧ h.get? D = none ∧ h.get? ID = none ∧ ID < D),
   wpAny (model PySem.Challenge.rw_il0159_01.prog w) ((callerA.deeper env).deeper env2) (call (.ref 122) [.ref lam]) Q E ⟨h, gn, dr, tk, os⟩ := by
  k_with_none
  k_with "x_close" => ((rename XRet _ _ _ _ _ _ => hret'); first | (rename PySem.W.X.Mem _ _ _ _ => D'; refine hret' _ _ _ (XMem.kp D') ⟨_, _, rfl, PySem.W.X.Mem.at D' 0 _ _ rfl, PySem.W.X.Mem.at D' 1 _ _ rfl, (PySem.W.X.Mem.nw D' _ (.head _)).2, (PySem.W.X.Mem.nw D' _ (.tail _ (.head _))).2, (List.pairwise_cons.mp (PySem.W.X.Mem.ord D')).1 _ (.head _)⟩))
  k_fill
  intro w env env2 h lam gn dr tk os Q E od fd osl X hl hret
  x_run
end Mine
end

noncomputable section
open PySem PySem.W PyProof.Rows PySem.Spec
set_option maxRecDepth 100000
set_option maxHeartbeats 4000000
namespace Mine
theorem news_add {h₀ h h' : Heap} {L D : Addr} {m : Str → Option Value} {o : Obj} {news : List (Addr × Obj)} (F : Fr h₀ L h m) (N : News h₀ L h news) (k : Kp h h') (e : h'.get? D = some o) (n : h.get? D = none) : News h₀ L h' ((D, o) :: news) := by
  intro p hp
  rcases List.mem_cons.mp hp with rfl | hp
  · refine ⟨e, ?_, ?_⟩
    · rintro rfl
      obtain ⟨oL, es, ep, hL, r⟩ := F.ns
      rw [n] at hL; cases hL
    · cases q : h₀.get? D with
      | none => rfl
      | some o => have := F.keep _ _ q; rw [n] at this; cases this
  · exact ⟨k _ _ (N p hp).1, (N p hp).2⟩
theorem fr_upd {h₀ h h' : Heap} {L D : Addr} {m : Str → Option Value} (F : Fr h₀ L h m) (k : ∀ b o, b ≠ D → h.get? b = some o → h'.get? b = some o) (hL : D ≠ L) (h0 : h₀.get? D = none) : Fr h₀ L h' m :=
  ⟨F.ns.at' fun o e => k L o (Ne.symm hL) e, fun b o e => k b o (by rintro rfl; rw [h0] at e; cases e) (F.keep b o e), F.above⟩
theorem news_upd1 {h₀ h h' : Heap} {L D : Addr} {o o' : Obj} {news : List (Addr × Obj)} (N : News h₀ L h ((D, o) :: news)) (k : ∀ b o, b ≠ D → h.get? b = some o → h'.get? b = some o) (off : ∀ p ∈ news, p.1 ≠ D) (e : h'.get? D = some o') : News h₀ L h' ((D, o') :: news) := by
  intro p hp
  rcases List.mem_cons.mp hp with rfl | hp
  · exact ⟨e, (N _ (.head _)).2⟩
  · exact ⟨k _ _ (off p hp) (N p (.tail _ hp)).1, (N p (.tail _ hp)).2⟩
section
variable {prog : Program} {w : World} {A : Around} {E : Value → Shared → Prop} {h : Heap} {gn : Array GenState} {dr : Drawn} {tk : Nat} {os : OsState} {D ID lam : Addr} {es : Array DictEntry} {ep : Nat} {kvs : List (Str × Value)}
theorem dictSet_B {x : Str} {t : Tok} {v : Value} {Q : Unit → Shared → Prop} (hD : h.get? D = some (bookO ID lam es ep)) (H : Ents prog w es kvs) (hn : valueAt kvs x = none) (hz : kvs.length ≤ 1000)
    (q : ∀ h' es' ep' tk', h'.get? D = some (bookO ID lam es' ep') → Ents prog w es' (kvs ++ [(x, v)]) → (∀ b o, b ≠ D → h.get? b = some o → h'.get? b = some o) → Q () ⟨h', gn, dr, tk', os⟩) :
    wpAny (model prog w) A (dictSet D (.str x t) v) Q E ⟨h, gn, dr, tk, os⟩ := by
  have hkey := PySem.strKind_is prog w x t
  have hes : es.size ≤ sizeLine := by
    have e1 := H.pairs.length
    have e2 : es.toList.length = es.size := by simp
    rw [sizeLine_eq]; omega
  unfold dictSet
  try with_reducible refine wpAny_holding ?_
  refine wpAny_bind ((KS prog w).pyHash (s := ⟨h, gn, dr, tk, os⟩) hkey ?_)
  unfold dictSetHashed
  try with_reducible refine wpAny_holding ?_
  refine wpAny_bind (wpAny_dictFind_of (s := ⟨h, gn, dr, tk + 1, os⟩) hkey hD rfl H.keys ?_)
  rw [← H.find, findBy_of_findIdx?] at hn
  cases hi : es.findIdx? fun e => (KS prog w).is x e.key with
  | some i =>
    exfalso
    rw [hi] at hn
    have hlt := (Array.findIdx?_eq_some_iff_findIdx_eq.mp hi).1
    simp [Array.getElem?_eq_getElem hlt] at hn
  | none =>
    refine wpAny_bind (wpAny_rule (wpAny_updateDictKeys (hz := hes) (s := ⟨h, gn, dr, tk + 1, os⟩) hD rfl ?_))
    have hnot : x ∉ kvs.map (·.1) := by
      have hidx := H.pairs.findIdx x
      refine not_mem_of_findIdx_none (hidx ▸ ?_)
      obtain ⟨l⟩ := es
      simpa using hi
    refine q _ (es.push ⟨(KS prog w).hash x, .str x t, v⟩) (ep + 1) _ ?_ ⟨H.keys.push hkey v, ?_, ?_⟩ (fun b o hb e => ?_)
    · exact Heap.get?_update_self _ hD rfl
    · have := H.pairs.append hkey ((KS prog w).hash x) v
      obtain ⟨l⟩ := es
      simpa using this
    · rw [List.map_append, List.nodup_append]
      refine ⟨H.once, by simp, ?_⟩
      intro a ha b hb
      simp only [List.map_cons, List.map_nil, List.mem_singleton] at hb
      subst hb
      exact fun e => hnot (e ▸ ha)
    · exact (Heap.SameBut.update ..).extBut b o hb e
end
theorem setItem_B : ∀ {w : World} {A : Around} {h : Heap} {gn : Array GenState} {dr : Drawn} {tk : Nat} {os : OsState} {Q : Unit → Shared → Prop} {E : Value → Shared → Prop} {D ID lam : Addr} {es : Array DictEntry} {ep : Nat} {kvs : List (Str × Value)} {oI : Obj} {x : Str} {t : Tok} {v : Value}
   (X : (hd.heap_39 w.params).In h) (hD : h.get? D = some (bookO ID lam es ep)) (hI : h.get? ID = some oI) (H : Ents PySem.Challenge.rw_il0159_01.prog w es kvs) (hn : valueAt kvs x = none) (hz : kvs.length ≤ 1000)
   (q : ∀ h' es' ep' tk', h'.get? D = some (bookO ID lam es' ep') → Ents PySem.Challenge.rw_il0159_01.prog w es' (kvs ++ [(x, v)]) → (∀ b o, b ≠ D → h.get? b = some o → h'.get? b = some o) → Q () ⟨h', gn, dr, tk', os⟩),
   wpAny (model PySem.Challenge.rw_il0159_01.prog w) A (setItem (.ref D) (.str x t) v) Q E ⟨h, gn, dr, tk, os⟩ := by
  k_fill
  intro w A h gn dr tk os Q E D ID lam es ep kvs oI x t v X hD hI H hn hz q
  have I := bookInst hD hI
  unfold setItem
  refine wpAny_holding ?_
  refine wpAny_bind (m := sequenceKey (.ref D) (.str x t) "__setitem__") ?_
  unfold sequenceKey
  refine wpAny_bind (I.type.here ?_)
  refine Looks.here (s := ⟨h, gn, dr, tk, os⟩) (r := Value.str x t) (Looks.of_peek X (by kernel_rfl)) ?_
  refine wpAny_bind (kfo_special (s := ⟨h, gn, dr, tk, os⟩) X I (id := "dict.__setitem__") (by k_is) PySem.F.slot_dict_setitem.bind ?_)
  refine wpAny_call (codeAny_call_builtin PySem.F.slot_dict_setitem.plain PySem.F.entry_dict_setitem (check_slot (i := "dict.__setitem__") (owner := "dict") (n := "__setitem__") (by decide +kernel) (by decide +kernel) (I.type.andThen (looks_mroIn X (by k_is))) (PySem.F.args_dict_setitem_3 _ _ _) ?_))
  unfold Builtin.«dict.__setitem__»
  refine wpAny_bind ?_
  unfold Builtin.Dict.notOrdered
  rw [if_pos (by decide +kernel)]
  refine wpAny_bind (I.type.here (s := ⟨h, gn, dr, tk, os⟩) ?_)
  show wpAny _ _ (if (Value.ref 122 != Value.type "dict") = true then _ else _) _ _ _
  rw [if_pos (by decide)]
  refine wpAny_bind ((I.type.andThen (looks_mroIn X (base := .type "collections.OrderedDict") (r := false) (by k_is))).here (s := ⟨h, gn, dr, tk, os⟩) ?_)
  simp only [Bool.false_eq_true, if_false]
  refine wpAny_pure ?_
  show wpAny _ _ (dictSet D (.str x t) v >>= _) _ _ _
  refine wpAny_bind (dictSet_B hD H hn hz fun h' es' ep' tk' a b c => ?_)
  exact wpAny_pure (wpAny_pure (q h' es' ep' tk' a b c))
end Mine
end

noncomputable section
open PySem PySem.W PyProof.Rows PySem.Spec
set_option maxRecDepth 100000
set_option maxHeartbeats 4000000
namespace Mine
/-- what a book, its dict and its list are not -/
def Odd (o : Obj) : Bool := match o.data with
  | .func _ => true
  | .fields _ => true
  | .cell _ => true
  | _ => false
theorem odd_ne {h : Heap} {a b : Addr} {o o' : Obj} (e : h.get? a = some o) (e' : h.get? b = some o') (x : Odd o = true) (y : Odd o' = false) : a ≠ b := by
  rintro rfl; rw [e] at e'; cases e'; rw [x] at y; cases y
/-- the lambda that hands out, by what is known of objects -/
structure LamK (K : Addr → Obj → Prop) (lam cc LL : Addr) : Prop where
  fn : ∃ od osl nm ql pm c' ctv p1 p2 p3 p4 n oc vs tq, (p2.endLine == p4.line) = true ∧ K lam ⟨.type "function", od, .func (kla_fn nm ql { posonlyargs := [], args := [], vararg := none, kwonlyargs := [], kw_defaults := [], kwarg := none, defaults := [] } (popBody p1 p2 p3 p4 n) popScope [("left", cc)] pm (.ref c') ctv), osl⟩ ∧ K c' oc ∧ oc.data = .fields vs ∧ vs[1]? = some (.str ql tq)
  cell : ∃ o, K cc o ∧ o.data = .cell (some (.ref LL))
theorem LamK.mono {K K' : Addr → Obj → Prop} {lam cc LL : Addr} (H : LamK K lam cc LL) (k : ∀ a o, K a o → K' a o) : LamK K' lam cc LL := by
  obtain ⟨⟨od, osl, nm, ql, pm, c', ctv, p1, p2, p3, p4, n, oc, vs, tq, hp, ho, hc, r1, r2⟩, o, hcc, r4⟩ := H
  exact ⟨⟨od, osl, nm, ql, pm, c', ctv, p1, p2, p3, p4, n, oc, vs, tq, hp, k _ _ ho, k _ _ hc, r1, r2⟩, o, k _ _ hcc, r4⟩
theorem LamK.list {K : Addr → Obj → Prop} {lam cc LL : Addr} (H : LamK K lam cc LL) : ∃ tl : List (Addr × Obj), LamK (LK tl) lam cc LL ∧ ∀ p ∈ tl, K p.1 p.2 ∧ Odd p.2 = true := by
  obtain ⟨⟨od, osl, nm, ql, pm, c', ctv, p1, p2, p3, p4, n, oc, vs, tq, hp, ho, hc, r1, r2⟩, o, hcc, r4⟩ := H
  refine ⟨[(lam, _), (c', oc), (cc, o)], ⟨⟨od, osl, nm, ql, pm, c', ctv, p1, p2, p3, p4, n, oc, vs, tq, hp, .head _, .tail _ (.head _), r1, r2⟩, o, .tail _ (.tail _ (.head _)), r4⟩, fun p hp => ?_⟩
  rcases List.mem_cons.mp hp with rfl | hp
  · exact ⟨ho, rfl⟩
  rcases List.mem_cons.mp hp with rfl | hp
  · exact ⟨hc, by unfold Odd; rw [r1]⟩
  rw [List.mem_singleton.mp hp]; exact ⟨hcc, by unfold Odd; rw [r4]⟩
theorem two_lt {a b : Nat} (h1 : a ≠ 0) (h2 : a < b) : b ≠ 1 := by omega
theorem lamK_of {h₀ h : Heap} {L lam cc LL c' : Addr} {news : List (Addr × Obj)} {nm ql : Str} {pm ctv : Value} {p1 p2 p3 p4 : Pos} {n : Nat} {oc o : Obj} {vs : Array Value} {tq : Tok} {no : Addr} (_N : News h₀ L h news)
    (hf : (lam, kla_obj nm ql { posonlyargs := [], args := [], vararg := none, kwonlyargs := [], kw_defaults := [], kwarg := none, defaults := [] } (popBody p1 p2 p3 p4 n) popScope [("left", cc)] pm c' ctv) ∈ news) (hp : (p2.endLine == p4.line) = true) (hc : (c', oc) ∈ news) (hd : oc.data = .fields vs) (hv : vs[1]? = some (.str ql tq)) (hcc : (cc, o) ∈ news) (ho : o.data = .cell (some (.ref LL)))
    (n1 : lam ≠ no) (n2 : c' ≠ no) (n3 : cc ≠ no) : LamK (fun a o => (a, o) ∈ news ∧ a ≠ no) lam cc LL :=
  ⟨⟨_, _, nm, ql, pm, c', ctv, p1, p2, p3, p4, n, oc, vs, tq, hp, ⟨hf, n1⟩, ⟨hc, n2⟩, hd, hv⟩, o, ⟨hcc, n3⟩, ho⟩
theorem LamK.at {h : Heap} {lam cc LL : Addr} (H : LamK (HK h) lam cc LL) : LamAt h lam cc LL := by
  obtain ⟨⟨od, osl, nm, ql, pm, c', ctv, p1, p2, p3, p4, n, oc, vs, tq, hp, ho, hc, r1, r2⟩, o, hcc, r4⟩ := H
  exact ⟨⟨_, nm, ql, pm, c', ctv, p1, p2, p3, p4, n, hp, ho, rfl, rfl, ⟨c', oc, vs, tq, rfl, hc, r1, r2⟩⟩, o, hcc, r4⟩
theorem txs_signs {x : List Nat} : ∀ {acc : Array Value}, (∀ j v, acc[j]? = some v → PySem.SignAt (Tx x) j v) → acc.size = x.length → TxsAre acc.toList (x.map fun c => [c]) := by
  intro acc h hs
  have key : ∀ (l : List Value) (y : List Nat), l.length = y.length → (∀ (j : Nat) (v : Value), l[j]? = some v → ∃ c u, y[j]? = some c ∧ v = Value.str (Tx [c]) u) → TxsAre l (y.map fun c => [c]) := by
    intro l
    induction l with
    | nil => intro y hl _; cases y with | nil => exact .nil | cons _ _ => simp at hl
    | cons v l ih =>
      intro y hl hh
      cases y with
      | nil => simp at hl
      | cons c y =>
        obtain ⟨c', u, e1, e2⟩ := hh 0 v rfl
        simp at e1; subst e1
        exact .cons ⟨u, e2⟩ (ih y (by simpa using hl) fun j v hj => by simpa using hh (j + 1) v (by simpa using hj))
  refine key _ _ (by simpa using hs) fun j v hj => ?_
  obtain ⟨c, u, e1, e2⟩ := h j v (by simpa using hj)
  exact ⟨c, u, by simpa [Tx] using e1, e2⟩
section
variable {prog : Program} {w : World} {A : Around} {E : Value → Shared → Prop} {hp : Heap} {gn : Array GenState} {dr : Drawn} {tk : Nat} {os : OsState} {h₀ : Heap} {L : Addr} {m : Str → Option Value} {news news' : List (Addr × Obj)} {Q : Value → Shared → Prop} {t u : Tok} {l r : List Nat} {value slice : Expr}
theorem listStr_T {x : List Nat} {t : Tok} (hh : A.handled = none) (F : Fr h₀ L hp m) (N : News h₀ L hp news) (hx : x.length ≤ 1000)
    (h : ∀ D vs n h' tk', TxsAre vs (x.map fun c => [c]) → Fr h₀ L h' m → News h₀ L h' ((D, listOf vs.toArray n) :: news) → (∀ p ∈ news, p.1 < D) → Q (.ref D) ⟨h', gn, dr, tk', os⟩) :
    wpAny (model prog w) A (call (.type "list") [.str (Tx x) t]) Q E ⟨hp, gn, dr, tk, os⟩ := by
  refine PySem.call_list_str (s := ⟨hp, gn, dr, tk, os⟩) hh (Tx x) t (fun h' tk' acc c k e I => ?_) (by show x.toArray.size ≤ sizeLine; rw [List.size_toArray, sizeLine_eq]; omega)
  have ht : TxsAre acc.toList (x.map fun c => [c]) := txs_signs I.2 (by rw [I.1]; simp [Tx])
  obtain ⟨F', N', l'⟩ := ks_newsPush (s := ⟨hp, gn, dr, tk, os⟩) F N rfl e k
  exact h _ acc.toList c h' tk' ht F' (by simpa using N') l'
end
theorem c_book : ∀ {w : World} {env : Env} {h bs : Heap} {gn : Array GenState} {dr : Drawn} {tk : Nat} {os : OsState} {Q E : Value → Shared → Prop} {codes : List Nat} {t : Tok}
   {p : Program} {loose : List Str} {mean : ExcName → Option Value} {mg mb : Str → Option Value}
   (X : (hd.heap_39 w.params).In bs) (T : Top p loose mean mg mb bs) (kb : Kp bs h) (hT : h.get? 236 = some (tabObj #[])) (nT : bs.get? 236 = none) (C : CodeHd bs 240 236) (hc : codes.length ≤ 1000)
   (q : ∀ D ID lam cc LL vs n es ep tl h' tk' u, (∀ b o, b ≠ 236 → h.get? b = some o → h'.get? b = some o) → (∀ p ∈ (D, bookO ID lam es ep) :: (ID, emptyO) :: (LL, listOf vs.toArray n) :: tl, h'.get? p.1 = some p.2 ∧ h.get? p.1 = none) →
     Ents PySem.Challenge.rw_il0159_01.prog w es [(Str.ofString ".", .str (Tx [46, 46]) u)] → LamK (LK tl) lam cc LL → TxsAre vs (codes.map fun c => [c]) → (D == sysModules) = false → (∃ ps, h'.get? 236 = some (tabObj ps)) → (∀ p ∈ tl, Odd p.2 = true) → Q (.ref D) ⟨h', gn, dr, tk', os⟩),
   wpAny (model PySem.Challenge.rw_il0159_01.prog w) (callerA.deeper env) (call (.ref 241) [.str (Tx codes) t]) Q E ⟨h, gn, dr, tk, os⟩ := by
  k_with_none
  k_with "call type:list" => (k_here; (with_reducible show wpAny _ _ (call (Value.type "list") [Value.str (Tx _) _]) _ _ _); (with_reducible rename Fr _ _ _ _ => F'); (with_reducible rename News _ _ _ _ => N'); refine listStr_T (by rfl) F' N' (by assumption) ?_; intro _ _ _ _ _ _ _ _ _; clear F' N')
  k_with "eval Constant str" => (k_here; refine const_T ?_; (simp only [lit_e, lit_dot, lit_dots, lit_menu, lit_tail, lit_q, lit_sp, lit_eq, lit_tab, lit_nl, lit_nlsp, lit_mid, lit_spnl, lit_caps]); intro _ _)
  k_fill
  intro w env h bs gn dr tk os Q E codes t p loose mean mg mb X T kb hT nT C hc q
  have kb' : Kp bs (hideAll h [236]) := fun b o e => hideAll_get _ (kb b o e) (by simp; rintro rfl; rw [nT] at e; cases e)
  refine wpAny_call (enter_cells (s := ⟨h, gn, dr, tk, os⟩) (led := [(236, tabObj #[])]) (binds := [("codes", .str (Tx codes) t)]) (fun p hp => by rw [List.mem_singleton.mp hp]; exact hT) (T.keeps kb).nolimit (kb _ _ (X 241 _ (by k_is))) rfl (codeRec_of (fun b o e => kb b o (X b o e)) (by k_is)) (Nat.le_of_ble_eq_true rfl) rfl (fun n x hx => by rw [List.mem_singleton.mp hx]; exact .inl rfl) (by decide) (fun L h₁ tk cells F N Y lt eL => ?_))
  obtain ⟨oc, rfl, hoc⟩ := CellsAre.one (show CellsAre _ [(Str.ofString "left", L + 1)] cells from Y)
  have X1 : (hd.heap_39 w.params).In (hideAll h [236]) := fun b o e => kb' b o (X b o e)
  have T1 := T.keeps kb'
  have C1 := C.keeps kb'
  have lt236 : (236 : Nat) < L := lt _ (.head _)
  have ne236 : (236 : Nat) ≠ L + 1 := by omega
  clear Y
  replace F : Fr (hideAll h [236]) L h₁ (kstB (fun _ => none) [("codes", .str (Tx codes) t)]) := by
    have e : ∀ m, Fr (hideAll h [236]) L h₁ m → m = kstB (fun _ => none) [("codes", .str (Tx codes) t)] → Fr (hideAll h [236]) L h₁ (kstB (fun _ => none) [("codes", .str (Tx codes) t)]) := fun m F e => e ▸ F
    exact e _ F (by funext y; rfl)
  replace N : News (hideAll h [236]) L h₁ [(L + 1, oc), (236, tabObj #[])] := N
  clear X T C kb' hT nT
  iterate 11 walk1
  rename All2 IsT _ _ => hvs
  rename_i DL vs n _ _ _ _ ltD _ oc' F2 N2 hoc'
  simp only [List.cons_append, List.nil_append] at N2
  iterate 6 walk1
  have lD1 : L + 1 < DL := ltD _ (.head _)
  have lD2 : (236 : Nat) < DL := ltD _ (.tail _ (.head _))
  refine kla_eval rfl ?_
  refine kla_nest (cl := [(Str.ofString "left", L + 1)]) F2 N2 T1 C1 rfl (.tail (Nat.ne_of_gt lD2) (.tail (Nat.ne_of_gt (show (236 : Nat) < L + 1 by omega)) (.head (fun p hp => nomatch hp)))) True.intro rfl rfl (fun f c' oc2 vs2 t2 ctv h3 tk3 F3 N3 hdat hv l1 l2 => ?_)
  refine Calls.spliced_nil ⟨fun b o e => F3.keep b o (X1 b o e), ?_⟩
  refine mk_book (fun b o e => F3.keep b o (X1 b o e)) (N3 _ (.head _)).1 ?_
  rintro v h4 tk4 k4 ⟨D, ID, rfl, hD, hI, nD, nI, hlt⟩
  have hsys : (D == sysModules) = false := by
    obtain ⟨ob, _, _, eb, _⟩ := T1.b
    have h0 : ID ≠ builtinsNs := fun e => by
      have := F3.keep _ _ eb
      rw [e] at nI
      rw [nI] at this; cases this
    rw [beq_eq_false_iff_ne]
    intro e
    exact two_lt h0 hlt e
  have F4 := F3.keeps k4
  have N4 : News (hideAll h [236]) L h4 ((D, bookO ID f #[] 0) :: (ID, emptyO) :: _) := fun p hp => by
    rcases List.mem_cons.mp hp with rfl | hp
    · exact news_add F3 N3 k4 hD nD _ (.head _)
    · exact news_add F3 N3 k4 hI nI p hp
  have M3 := fun p hp => (N3 p hp).1
  iterate 6 walk1
  rename Fr _ _ _ _ => F5
  rename News _ _ _ _ => N5
  have X5 : (hd.heap_39 w.params).In _ := fun b o e => F5.keep b o (X1 b o e)
  have hbs : ∀ a o, h3.get? a = some o → a ≠ D := fun a o e z => by rw [z, nD] at e; cases e
  have hIs : ∀ a o, h3.get? a = some o → a ≠ ID := fun a o e z => by rw [z, nI] at e; cases e
  have hDI : ID ≠ D := by rintro rfl; rw [hD] at hI; cases hI
  refine setItem_B X5 (N5 _ (.head _)).1 (N5 _ (.tail _ (.head _))).1 (kvs := []) ⟨fun e he => by simp at he, .nil, List.nodup_nil⟩ rfl (by simp) (fun h6 es' ep' tk6 hD6 H6 k6 => ?_)
  have zD := (N5 _ (.head _)).2
  have F6 := fr_upd F5 k6 zD.1 zD.2
  have N6 := news_upd1 N5 k6 (fun p hp => by
    rcases List.mem_cons.mp hp with rfl | hp
    · exact hDI
    · exact hbs _ _ (M3 p hp)) hD6
  clear F5 N5
  iterate 3 walk1
  have hb : ∀ p : Addr × Obj, p.1 ≠ 236 → (hideAll h [236]).get? p.1 = none → h.get? p.1 = none := fun p n e => by
    cases z : h.get? p.1 with
    | none => rfl
    | some o => rw [hideAll_get [236] z (by simpa using n)] at e; cases e
  have h236 := M3 _ (.tail _ (.tail _ (.tail _ (.tail _ (.head _)))))
  have q1 : (236 : Nat) < c' := l1 _ (.tail _ (.tail _ (.head _)))
  have HL := lamK_of (no := 236) (n := 0) N6 (.tail _ (.tail _ (.head _))) (by decide) (.tail _ (.tail _ (.tail _ (.head _)))) hdat hv (.tail _ (.tail _ (.tail _ (.tail _ (.tail _ (.head _)))))) hoc' (Nat.ne_of_gt (Nat.lt_trans q1 l2)) (Nat.ne_of_gt q1) (Nat.ne_of_gt (show (236 : Nat) < L + 1 by omega))
  obtain ⟨tl, HL, htl⟩ := HL.list
  refine q D ID f (L + 1) DL vs n es' ep' tl h6 _ _ (fun b o hb e => F6.keep b o (hideAll_get _ e (by simpa using hb))) (fun p hp => ?_) H6 HL hvs hsys ⟨_, (N6 _ (.tail _ (.tail _ (.tail _ (.tail _ (.tail _ (.tail _ (.head _)))))))).1⟩ (fun p hp => (htl p hp).2)
  have key : ∀ {a : Addr} {o : Obj}, a ≠ 236 → h6.get? a = some o ∧ a ≠ L ∧ (hideAll h [236]).get? a = none → h6.get? a = some o ∧ h.get? a = none := fun n z => ⟨z.1, hb (_, default) n z.2.2⟩
  rcases List.mem_cons.mp hp with rfl | hp
  · exact key (Ne.symm (hbs _ _ h236)) (N6 _ (.head _))
  rcases List.mem_cons.mp hp with rfl | hp
  · exact key (Ne.symm (hIs _ _ h236)) (N6 _ (.tail _ (.head _)))
  rcases List.mem_cons.mp hp with rfl | hp
  · exact key (Nat.ne_of_gt lD2) (N6 _ (.tail _ (.tail _ (.tail _ (.tail _ (.head _))))))
  · have := (htl p hp).1
    exact key this.2 (N6 _ this.1)
end Mine
end

noncomputable section
open PySem PySem.W PyProof.Rows PySem.Spec
set_option maxRecDepth 100000
set_option maxHeartbeats 4000000
namespace Mine
theorem refuse_dd (self : Value) : PySem.refuseLoop self "__setattr__" [.ref 122, .type "collections.defaultdict", .type "dict", .type "object"] = pure () := by
  rw [PySem.refuseLoop_ref]
  kernel_rfl
abbrev frzO (hs : Int) (u : Tok) (FL : Addr) : Obj := ⟨.type "dict", none, .dict #[⟨hs, .str "_frozen" u, .ref FL⟩] 1, #[]⟩
theorem setAttr_F : ∀ {w : World} {A : Around} {h : Heap} {gn : Array GenState} {dr : Drawn} {tk : Nat} {os : OsState} {Q : Unit → Shared → Prop} {E : Value → Shared → Prop} {D ID lam FL : Addr} {es : Array DictEntry} {ep : Nat}
   (X : (hd.heap_39 w.params).In h) (hD : h.get? D = some (bookO ID lam es ep)) (hI : h.get? ID = some emptyO)
   (q : ∀ h' tk' hs u, h'.get? ID = some (frzO hs u FL) → (∀ b o, b ≠ ID → h.get? b = some o → h'.get? b = some o) → Q () ⟨h', gn, dr, tk', os⟩),
   wpAny (model PySem.Challenge.rw_il0159_01.prog w) A (setAttr (.ref D) "_frozen" (.ref FL)) Q E ⟨h, gn, dr, tk, os⟩ := by
  k_fill
  intro w A h gn dr tk os Q E D ID lam FL es ep X hD hI q
  have I := bookInst hD hI
  have SF := PySem.F.store_object
  unfold setAttr
  refine wpAny_bind (wpAny_mkText (wpAny_bind (kfo_special (s := ⟨h, gn, dr, tk + 1, os⟩) X I (id := "object.__setattr__") (by k_is) SF.slot.bind ?_)))
  refine wpAny_call (codeAny_call_builtin SF.slot.plain SF.entry (check_slot (s := ⟨h, gn, dr, tk + 1, os⟩) (i := "object.__setattr__") (owner := "object") (n := "__setattr__") (by decide +kernel) (by decide +kernel) (I.type.andThen (looks_mroIn X (by k_is))) (SF.args _ _ _) ?_))
  have hC : Looks (model PySem.Challenge.rw_il0159_01.row.prog w) h (mroOf (.ref 122)) [.ref 122, .type "collections.defaultdict", .type "dict", .type "object"] := (looks_clsIn X (by k_is)).andThen .now
  show wpAny _ _ (Builtin.«object.__setattr__» ⟨[.ref D, .str "_frozen" tk, .ref FL], []⟩) _ _ _
  rw [osa_eq, PySem.refuse_eq]
  refine wpAny_bind (wpAny_bind (I.type.here (s := ⟨h, gn, dr, tk + 1, os⟩) (wpAny_bind (hC.here (s := ⟨h, gn, dr, tk + 1, os⟩) ?_))))
  rw [refuse_dd]
  refine wpAny_pure (wpAny_bind (I.type.here (s := ⟨h, gn, dr, tk + 1, os⟩) (wpAny_bind ((looks_findIn X (t := .ref 122) (r := none) (by k_is)).here (s := ⟨h, gn, dr, tk + 1, os⟩) (wpAny_bind (wpAny_pure ?_))))))
  show wpAny _ _ (Builtin.ObjectAttr.storeInOwnDict (.ref D) (.ref 122) (.str "_frozen" tk) "_frozen" (.ref FL) false) _ _ _
  unfold Builtin.ObjectAttr.storeInOwnDict
  refine wpAny_bind (m := ownStreamTells _ _) (wpAny_pure ?_)
  show wpAny _ _ (if (Value.ref 122 == Value.type "module") = true then _ else _) _ _ _
  rw [if_neg (by decide)]
  refine wpAny_bind (m := instanceDict D true) ?_
  unfold instanceDict
  refine wpAny_bind (wpAny_loadPart (s := ⟨h, gn, dr, tk + 1, os⟩) hD ?_)
  show wpAny _ _ (classData 122 >>= _) _ _ _
  refine wpAny_bind ((looks_clsIn X (C := 122) (by k_is)).here (s := ⟨h, gn, dr, tk + 1, os⟩) ?_)
  simp only [Bool.not_true, Bool.false_eq_true, if_false]
  refine wpAny_pure ?_
  show wpAny _ _ (Builtin.ObjectAttr.storeInDict ID (.str "_frozen" tk) "_frozen" (.ref FL)) _ _ _
  unfold Builtin.ObjectAttr.storeInDict Builtin.ObjectAttr.newKeyGuard
  refine wpAny_bind (wpAny_pure (wpAny_bind ?_))
  unfold nsSet
  refine wpAny_bind (wpAny_bind (wpAny_askSetting (wpAny_pure (wpAny_bind (wpAny_mkText (wpAny_bind (wpAny_loadPart (s := ⟨h, gn, dr, tk + 1 + 1, os⟩) hI ?_)))))))
  dsimp only
  rw [if_neg (by decide)]
  refine wpAny_updatePart (s := ⟨h, gn, dr, tk + 1 + 1, os⟩) hI ?_
  have e1 := Heap.get?_update_self (Obj.putName (Str.ofString "_frozen") (if (Str.ofString "_frozen").cps.isEmpty = true then 0 else reduceHash (w.params.strHash (Str.ofString "_frozen").cps)) (Value.str (Str.ofString "_frozen") (tk + 1)) (Value.ref FL)) hI rfl
  refine wpAny_bind (wpAny_lookBehind (s := ⟨h.update ID _, gn, dr, tk + 1 + 1, os⟩) e1 (pastItsLine_dict (Nat.le_of_ble_eq_true rfl)) ?_)
  refine wpAny_pure (wpAny_pure (q _ _ _ (tk + 1) e1 fun b o hb e => ?_))
  exact (Heap.SameBut.update ..).extBut b o hb e
/-- the frozen book's lambda, by what is known of objects -/
structure FrzK (K : Addr → Obj → Prop) (FL sc D : Addr) : Prop where
  fn : ∃ od osl nm ql pm c' ctv p0 p1 p2 p4 oc vs tq, (p2.endLine == p4.line) = true ∧ K FL ⟨.type "function", od, .func (kla_fn nm ql { posonlyargs := [], args := [{ arg := "key", annotation := none, pos := p0 }], vararg := none, kwonlyargs := [], kw_defaults := [], kwarg := none, defaults := [] } (thawBody p1 p2 p4) thawScope [("self", sc)] pm (.ref c') ctv), osl⟩ ∧ K c' oc ∧ oc.data = .fields vs ∧ vs[1]? = some (.str ql tq)
  cell : ∃ o, K sc o ∧ o.data = .cell (some (.ref D))
theorem FrzK.mono {K K' : Addr → Obj → Prop} {FL sc D : Addr} (H : FrzK K FL sc D) (k : ∀ a o, K a o → K' a o) : FrzK K' FL sc D := by
  obtain ⟨⟨od, osl, nm, ql, pm, c', ctv, p0, p1, p2, p4, oc, vs, tq, hp, ho, hc, r1, r2⟩, o, hcc, r4⟩ := H
  exact ⟨⟨od, osl, nm, ql, pm, c', ctv, p0, p1, p2, p4, oc, vs, tq, hp, k _ _ ho, k _ _ hc, r1, r2⟩, o, k _ _ hcc, r4⟩
theorem FrzK.list {K : Addr → Obj → Prop} {FL sc D : Addr} (H : FrzK K FL sc D) : ∃ tl : List (Addr × Obj), FrzK (LK tl) FL sc D ∧ ∀ p ∈ tl, K p.1 p.2 := by
  obtain ⟨⟨od, osl, nm, ql, pm, c', ctv, p0, p1, p2, p4, oc, vs, tq, hp, ho, hc, r1, r2⟩, o, hcc, r4⟩ := H
  refine ⟨[(FL, _), (c', oc), (sc, o)], ⟨⟨od, osl, nm, ql, pm, c', ctv, p0, p1, p2, p4, oc, vs, tq, hp, .head _, .tail _ (.head _), r1, r2⟩, o, .tail _ (.tail _ (.head _)), r4⟩, fun p hp => ?_⟩
  rcases List.mem_cons.mp hp with rfl | hp
  · exact ho
  rcases List.mem_cons.mp hp with rfl | hp
  · exact hc
  rw [List.mem_singleton.mp hp]; exact hcc
theorem frzK_of {h₀ h : Heap} {L FL sc D c' : Addr} {news : List (Addr × Obj)} {nm ql : Str} {pm ctv : Value} {p0 p1 p2 p4 : Pos} {oc o : Obj} {vs : Array Value} {tq : Tok} {P : Addr → Prop} (_N : News h₀ L h news)
    (hf : (FL, kla_obj nm ql { posonlyargs := [], args := [{ arg := "key", annotation := none, pos := p0 }], vararg := none, kwonlyargs := [], kw_defaults := [], kwarg := none, defaults := [] } (thawBody p1 p2 p4) thawScope [("self", sc)] pm c' ctv) ∈ news) (hp : (p2.endLine == p4.line) = true) (hc : (c', oc) ∈ news) (hd : oc.data = .fields vs) (hv : vs[1]? = some (.str ql tq)) (hcc : (sc, o) ∈ news) (ho : o.data = .cell (some (.ref D)))
    (n1 : P FL) (n2 : P c') (n3 : P sc) : FrzK (fun a o => (a, o) ∈ news ∧ P a) FL sc D :=
  ⟨⟨_, _, nm, ql, pm, c', ctv, p0, p1, p2, p4, oc, vs, tq, hp, ⟨hf, n1⟩, ⟨hc, n2⟩, hd, hv⟩, o, ⟨hcc, n3⟩, ho⟩
theorem FrzK.at {h : Heap} {FL sc D : Addr} (H : FrzK (HK h) FL sc D) : FrzAt h FL sc D := by
  obtain ⟨⟨od, osl, nm, ql, pm, c', ctv, p0, p1, p2, p4, oc, vs, tq, hp, ho, hc, r1, r2⟩, o, hcc, r4⟩ := H
  exact ⟨⟨od, osl, nm, ql, pm, c', ctv, p0, p1, p2, p4, hp, ho, ⟨c', oc, vs, tq, rfl, hc, r1, r2⟩⟩, o, hcc, r4⟩
theorem c_freeze : ∀ {w : World} {A : Around} {h bs : Heap} {gn : Array GenState} {dr : Drawn} {tk : Nat} {os : OsState} {Q E : Value → Shared → Prop} {D ID lam : Addr} {es : Array DictEntry} {ep : Nat}
   {p : Program} {loose : List Str} {mean : ExcName → Option Value} {mg mb : Str → Option Value}
   (X : (hd.heap_39 w.params).In bs) (T : Top p loose mean mg mb bs) (kb : Kp bs h) (hdp : A.depth < recursionLimit) (hT : h.get? 114 = some (tabObj #[])) (nT : bs.get? 114 = none) (C : CodeHd bs 118 114)
   (hD : h.get? D = some (bookO ID lam es ep)) (hI : h.get? ID = some emptyO) (nI : bs.get? ID = none)
   (q : ∀ FL sc tl h' tk' hs u, (∀ b o, b ≠ 114 → b ≠ ID → h.get? b = some o → h'.get? b = some o) → h'.get? ID = some (frzO hs u FL) → (∀ p ∈ tl, h'.get? p.1 = some p.2 ∧ h.get? p.1 = none) →
     FrzK (LK tl) FL sc D → (∃ ps, h'.get? 114 = some (tabObj ps)) → Q .none ⟨h', gn, dr, tk', os⟩),
   wpAny (model PySem.Challenge.rw_il0159_01.prog w) A (call (.ref 119) [.ref D]) Q E ⟨h, gn, dr, tk, os⟩ := by
  k_with_none
  k_fill
  intro w A h bs gn dr tk os Q E D ID lam es ep p loose mean mg mb X T kb hdp hT nT C hD hI nI q
  have kb' : Kp bs (hideAll h [114, ID]) := fun b o e => hideAll_get _ (kb b o e) (fun hm => by
    rcases List.mem_cons.mp hm with rfl | hm
    · rw [nT] at e; cases e
    · rw [List.mem_singleton.mp hm, nI] at e; cases e)
  refine wpAny_call (enter_cells (s := ⟨h, gn, dr, tk, os⟩) (led := [(114, tabObj #[]), (ID, emptyO)]) (binds := [("self", .ref D)]) (fun p hp => by
    rcases List.mem_cons.mp hp with rfl | hp
    · exact hT
    · rw [List.mem_singleton.mp hp]; exact hI) (T.keeps kb).nolimit (kb _ _ (X 119 _ (by k_is))) rfl (codeRec_of (fun b o e => kb b o (X b o e)) (by k_is)) hdp rfl (fun n x hx => by rw [List.mem_singleton.mp hx]; exact .inr ⟨rfl, rfl⟩) (by decide) (fun L h₁ tk cells F N Y lt eL => ?_))
  obtain ⟨oc, rfl, hoc⟩ := CellsAre.one (show CellsAre _ [(Str.ofString "self", L + 1)] cells from Y)
  have X1 : (hd.heap_39 w.params).In (hideAll h [114, ID]) := fun b o e => kb' b o (X b o e)
  have T1 := T.keeps kb'
  have C1 := C.keeps kb'
  have lt114 : (114 : Nat) < L := lt _ (.head _)
  have ltI : ID < L := lt _ (.tail _ (.head _))
  clear Y
  replace N : News (hideAll h [114, ID]) L h₁ [(L + 1, oc), (114, tabObj #[]), (ID, emptyO)] := N
  replace hoc : oc.data = .cell (some (.ref D)) := hoc
  iterate 2 walk1
  refine kla_eval rfl ?_
  have n114 : (114 : Nat) < L + 1 := by omega
  have nI114 : ID ≠ 114 := by rintro rfl; rw [hT] at hI; cases hI
  refine kla_nest (cl := [(Str.ofString "self", L + 1)]) F N T1 C1 rfl (.tail (Nat.ne_of_gt n114) (.head (fun p hp => by rw [List.mem_singleton.mp hp]; exact nI114))) True.intro rfl rfl (fun f c' oc2 vs2 t2 ctv h3 tk3 F3 N3 hdat hv l1 l2 => ?_)
  iterate 1 walk1
  have hDh : (hideAll h [114, ID]).get? D = some (bookO ID lam es ep) := hideAll_get _ hD (fun hm => by
    rcases List.mem_cons.mp hm with rfl | hm
    · rw [hT] at hD; cases hD
    · rw [List.mem_singleton.mp hm] at hD; rw [hI] at hD; cases hD)
  have M3 := fun p hp => (N3 p hp).1
  have m3 := fun p hp => (N3 p hp).2.2
  have q1 : (114 : Nat) < c' := l1 _ (.tail _ (.head _))
  have qI : ID < c' := l1 _ (.tail _ (.tail _ (.head _)))
  have HL := frzK_of (P := fun a => a ≠ 114 ∧ a ≠ ID) N3 (.head _) (by decide) (.tail _ (.head _)) hdat hv (.tail _ (.tail _ (.head _))) hoc ⟨Nat.ne_of_gt (Nat.lt_trans q1 l2), Nat.ne_of_gt (Nat.lt_trans qI l2)⟩ ⟨Nat.ne_of_gt q1, Nat.ne_of_gt qI⟩ ⟨Nat.ne_of_gt n114, Nat.ne_of_gt (Nat.lt_succ_of_lt ltI)⟩
  refine setAttr_F (fun b o e => F3.keep b o (X1 b o e)) (F3.keep _ _ hDh) (M3 _ (.tail _ (.tail _ (.tail _ (.tail _ (.head _)))))) (fun h4 tk4 hs u hI4 k4 => ?_)
  obtain ⟨tl, HL, htl⟩ := HL.list
  iterate 1 walk1
  have hb : ∀ a : Addr, a ≠ 114 → a ≠ ID → (hideAll h [114, ID]).get? a = none → h.get? a = none := fun a n1 n2 e => by
    cases z : h.get? a with
    | none => rfl
    | some o => rw [hideAll_get [114, ID] z (by simp [n1, n2])] at e; cases e
  refine q f (L + 1) tl h4 _ hs u (fun b o n1 n2 e => k4 b o n2 (F3.keep b o (hideAll_get _ e (by simp [n1, n2])))) hI4 (fun p hp => ?_) HL ⟨_, k4 _ _ (Ne.symm nI114) (M3 _ (.tail _ (.tail _ (.tail _ (.head _)))))⟩
  have z := htl p hp
  exact ⟨k4 _ _ z.2.2 (M3 _ z.1), hb _ z.2.1 z.2.2 (m3 _ z.1)⟩
end Mine
end

noncomputable section
open PySem PySem.W PyProof.Rows PySem.Spec
set_option maxRecDepth 100000
set_option maxHeartbeats 4000000
namespace Mine
theorem nsGet_L {M : Model} {A : Around} {E : Value → Shared → Prop} {s : Shared} {a : Addr} {o : Obj} {name : Str} {r : Option Value} {Q : Option Value → Shared → Prop} (ho : s.heap.get? a = some o) (e : lookIn name o = some r) (q : Q r s) : wpAny M A (nsGet a name) Q E s := by
  show wpAny M A (loadPart a (some (.str name 0)) >>= fun o => nsLook name o) Q E s
  refine wpAny_bind (wpAny_loadPart ho ?_)
  rw [nsLook_of e]
  exact wpAny_pure q
theorem getM_fr : ∀ {w : World} {A : Around} {h : Heap} {D ID lam : Addr} {gn : Array GenState} {dr : Drawn} {tk : Nat} {os : OsState} {Q : Value × List Value → Shared → Prop} {E : Value → Shared → Prop} {es : Array DictEntry} {ep : Nat} {pl : Sem Bool}
   (X : (hd.heap_39 w.params).In h) (hD : h.get? D = some (bookO ID lam es ep)) (hI : h.get? ID = some emptyO)
   (q : Q (.ref 119, [.ref D]) ⟨h, gn, dr, tk, os⟩),
   wpAny (model PySem.Challenge.rw_il0159_01.prog w) A (getMethod (.ref D) "freeze" pl) Q E ⟨h, gn, dr, tk, os⟩ := by
  k_fill
  intro w A h D ID lam gn dr tk os Q E es ep pl X hD hI q
  have I := bookInst hD hI
  unfold getMethod
  refine wpAny_bind (Looks.at (I.type.andThen (looks_findIn X (by k_is))) ?_)
  dsimp only
  rw [if_neg (by decide +kernel)]
  refine wpAny_bind (Looks.at (I.type.andThen (looks_findIn X (r := none) (by k_is))) ?_)
  simp only [Option.isSome_none, Bool.false_eq_true, if_false]
  refine wpAny_bind (Looks.at (I.type.andThen (looks_findIn X (r := some (.ref 119)) (by k_is))) ?_)
  dsimp only
  refine wpAny_bind (Looks.at (looks_typeIn X (t := .type "function") (by k_is)) ?_)
  rw [if_neg (by decide)]
  refine wpAny_bind (wpAny_loadPart (s := ⟨h, gn, dr, tk, os⟩) hD ?_)
  dsimp only
  refine wpAny_bind (nsGet_L (s := ⟨h, gn, dr, tk, os⟩) hI (r := none) rfl ?_)
  simp only [Option.isSome_none, Bool.false_eq_true, if_false]
  exact wpAny_bind (wpAny_rule (wpAny_pure q))
theorem getM_it : ∀ {w : World} {A : Around} {h : Heap} {D ID lam FL : Addr} {hs : Int} {u : Tok} {gn : Array GenState} {dr : Drawn} {tk : Nat} {os : OsState} {Q : Value × List Value → Shared → Prop} {E : Value → Shared → Prop} {es : Array DictEntry} {ep : Nat} {pl : Sem Bool}
   (X : (hd.heap_39 w.params).In h) (hD : h.get? D = some (bookO ID lam es ep)) (hI : h.get? ID = some (frzO hs u FL))
   (q : Q (.builtin "dict.items", [.ref D]) ⟨h, gn, dr, tk, os⟩),
   wpAny (model PySem.Challenge.rw_il0159_01.prog w) A (getMethod (.ref D) "items" pl) Q E ⟨h, gn, dr, tk, os⟩ := by
  k_fill
  intro w A h D ID lam FL hs u gn dr tk os Q E es ep pl X hD hI q
  have I := bookInst hD hI
  unfold getMethod
  refine wpAny_bind (Looks.at (I.type.andThen (looks_findIn X (by k_is))) ?_)
  dsimp only
  rw [if_neg (by decide +kernel)]
  refine wpAny_bind (Looks.at (I.type.andThen (looks_findIn X (r := none) (by k_is))) ?_)
  simp only [Option.isSome_none, Bool.false_eq_true, if_false]
  refine wpAny_bind (Looks.at (I.type.andThen (looks_findIn X (r := some (.builtin "dict.items")) (by k_is))) ?_)
  dsimp only
  refine wpAny_bind (wpAny_of_eq (show typeOf (.builtin "dict.items") = pure (.type "method_descriptor") by show builtinType _ = _; rw [builtinType_eq_fast]; kernel_rfl) ?_)
  rw [if_neg (by decide)]
  refine wpAny_bind (wpAny_loadPart (s := ⟨h, gn, dr, tk, os⟩) hD ?_)
  dsimp only
  refine wpAny_bind (nsGet_L (s := ⟨h, gn, dr, tk, os⟩) hI (r := none) (by kernel_rfl) ?_)
  simp only [Option.isSome_none, Bool.false_eq_true, if_false]
  exact wpAny_bind (wpAny_rule (wpAny_pure q))
end Mine
end

noncomputable section
open PySem PySem.W PyProof.Rows PySem.Spec
set_option maxRecDepth 100000
set_option maxHeartbeats 4000000
namespace Mine
section
variable {prog : Program} {w : World} {A : Around} {E : Value → Shared → Prop} {h : Heap} {gn : Array GenState} {dr : Drawn} {tk : Nat} {os : OsState} {it D ID lam : Addr} {es : Array DictEntry} {ep i : Nat} {ok ov : Value} {e : DictEntry}
/-- the pair that the iterator over the book hands out -/
theorem pair_B {Q : Value → Shared → Prop} {n : Nat} (hit : IsItemIter h it D i n ep ok ov)
    (hQ : ∀ T h', IsItemIterOut h' it D i n ep e.key e.val T → h'.get? T = some (tupO [e.key, e.val]) → h.get? T = none → (∀ b o, b ≠ it → h.get? b = some o → h'.get? b = some o) → Q (.ref T) ⟨h', gn, dr, tk, os⟩) :
    wpAny (model prog w) A (Builtin.Dict_items.pairFromOwner (.ref it) 6 e.key e.val) Q E ⟨h, gn, dr, tk, os⟩ := by
  have hlt : it < h.objs.size := Heap.lt_size hit
  have hne : h.objs.size ≠ it := Nat.ne_of_gt hlt
  unfold Builtin.Dict_items.pairFromOwner
  refine wpAny_bind (wpAny_newTuple ?_)
  have h1 : IsItemIter (h.push (tupO [e.key, e.val])) it D i n ep ok ov := Heap.get?_push_of_some _ hit
  refine wpAny_bind ?_
  unfold Builtin.Dict_items.ownedTupleIsFree
  refine wpAny_bind (wpAny_field h1 rfl (x := .none) rfl (wpAny_pure ?_))
  simp only [if_true]
  refine wpAny_bind (wpAny_field h1 rfl (x := ok) rfl (wpAny_bind (wpAny_field h1 rfl (x := ov) rfl ?_)))
  refine wpAny_bind (wpAny_setField_rec h1 (by simp) fun g2 e2 s2 => ?_)
  refine wpAny_bind (wpAny_setField_rec e2 (by simp) fun g3 e3 s3 => ?_)
  refine wpAny_bind (wpAny_setField_rec e3 (by simp) fun g4 e4 s4 => ?_)
  refine wpAny_bind (wpAny_setField_rec e4 (by simp) fun g5 e5 s5 => ?_)
  have k : ∀ b o, b ≠ it → (h.push (tupO [e.key, e.val])).get? b = some o → g5.get? b = some o := fun b o n q => s5.extBut b o n (s4.extBut b o n (s3.extBut b o n (s2.extBut b o n q)))
  refine wpAny_bind (wpAny_letGo (wpAny_pure (hQ h.objs.size g5 e5 (k _ _ hne (Heap.get?_push_size _ rfl)) ?_ fun b o n q => k b o n (Heap.get?_push_of_some _ q))))
  cases z : h.get? h.objs.size with
  | none => rfl
  | some o => exact absurd (Heap.lt_size z) (Nat.lt_irrefl _)
theorem next_B {Q : Option Value → Shared → Prop}
    (hD : h.get? D = some (bookO ID lam es ep)) (hit : IsItemIter h it D i es.size ep ok ov) (he : es[i]? = some e)
    (hQ : ∀ T h', IsItemIterOut h' it D (i + 1) es.size ep e.key e.val T → h'.get? T = some (tupO [e.key, e.val]) → h.get? T = none → (∀ b o, b ≠ it → h.get? b = some o → h'.get? b = some o) → Q (some (.ref T)) ⟨h', gn, dr, tk, os⟩) :
    wpAny (model prog w) A (pyNext (.ref it)) Q E ⟨h, gn, dr, tk, os⟩ := by
  have hT : Shared.TypeIs ⟨h, gn, dr, tk, os⟩ (.ref it) "dict_itemiterator" := ⟨_, hit, rfl⟩
  unfold pyNext
  refine wpAny_bind (wpAny_attempt (wpAny_callSpecial?_slot (name := Str.ofString "__next__") hT PySem.F.slot_dict_itemiterator_next
    (wpAny_call_entry PySem.F.slot_dict_itemiterator_next hT PySem.F.entry_dict_itemiterator_next ?_ (PySem.F.args_dict_itemiterator_next_1 _))))
  refine wpAny_bind (wpAny_pure ?_)
  wp_walk
  simp only [show ¬ ((i : Int) < 0) from by omega, if_false, Int.toNat_natCast, he]
  refine wpAny_bind ?_
  refine wpAny_bind (wpAny_typeNameOfWhole_itemiter hT (wpAny_pure ?_))
  refine wpAny_bind (wpAny_isOneOf_itemiter hT ?_)
  refine wpAny_bind (m := setField (.ref it) 3 (rawInt ((i : Int) + 1))) (wpAny_setField_rec hit (by simp) fun g1 e1 s1 => ?_)
  have e1' : IsItemIter g1 it D (i + 1) es.size ep ok ov := by
    have q : ((i + 1 : Nat) : Int) = (i : Int) + 1 := by omega
    unfold IsItemIter; rw [q]; simpa [rawInt] using e1
  have hT1 : Shared.TypeIs ⟨g1, gn, dr, tk, os⟩ (.ref it) "dict_itemiterator" := ⟨_, e1', rfl⟩
  refine wpAny_bind (wpAny_holding ?_)
  refine wpAny_bind (wpAny_isOneOf_itemiter hT1 (wpAny_bind (wpAny_isOneOf_itemiter hT1 ?_)))
  refine pair_B e1' (fun T h' a b c k => ?_)
  refine wpAny_pure ⟨_, rfl, wpAny_pure (hQ T h' a b ?_ fun b o n q => k b o n (s1.extBut b o n q))⟩
  cases z : h.get? T with
  | none => rfl
  | some o =>
    exfalso
    by_cases q : T = it
    · rw [q] at c; rw [e1'] at c; cases c
    · rw [s1.extBut _ _ q z] at c; cases c
end
end Mine
end

noncomputable section
open PySem PySem.W PyProof.Rows PySem.Spec
set_option maxRecDepth 100000
set_option maxHeartbeats 4000000
namespace Mine
abbrev viewO (D : Addr) : Obj := { cls := .type "dict_items", data := .fields #[.ref D] }
abbrev itO (D : Addr) (n ep : Nat) : Obj := { cls := .type "dict_itemiterator", data := .fields #[.none, .bool false, .ref D, .int 0 0, .int n 0, .int ep 0, .none, .none] }
theorem items_B : ∀ {w : World} {A : Around} {h : Heap} {D ID lam : Addr} {gn : Array GenState} {dr : Drawn} {tk : Nat} {os : OsState} {Q E : Value → Shared → Prop} {es : Array DictEntry} {ep : Nat} {oI : Obj}
   (X : (hd.heap_39 w.params).In h) (hD : h.get? D = some (bookO ID lam es ep)) (hI : h.get? ID = some oI) (hsys : (D == sysModules) = false)
   (q : Q (.ref h.objs.size) ⟨h.push (viewO D), gn, dr, tk, os⟩),
   wpAny (model PySem.Challenge.rw_il0159_01.prog w) A (call (.builtin "dict.items") [.ref D]) Q E ⟨h, gn, dr, tk, os⟩ := by
  k_fill
  intro w A h D ID lam gn dr tk os Q E es ep oI X hD hI hsys q
  have I := bookInst hD hI
  refine wpAny_call (codeAny_call_builtin PySem.F.slot_dict_items.plain PySem.F.entry_dict_items (check_m (i := "dict.items") (owner := "dict") (n := "items") (by decide +kernel) (by decide +kernel) (I.type.andThen (looks_mroIn X (by k_is))) (PySem.F.args_dict_items_1 _) ?_))
  unfold Builtin.«dict.items»
  refine wpAny_bind ?_
  unfold Builtin.Dict.noArgs
  refine wpAny_bind (notOrd (s := ⟨h, gn, dr, tk, os⟩) X hD hI ?_)
  refine wpAny_pure ?_
  show wpAny _ _ (Builtin.Dict.showsAll D >>= _) _ _ _
  unfold Builtin.Dict.showsAll
  rw [if_neg (by rw [hsys]; exact Bool.false_ne_true)]
  refine wpAny_bind (wpAny_pure ?_)
  exact wpAny_bind (wpAny_newObj_type (wpAny_pure q))
section
variable {prog : Program} {w : World} {A : Around} {E : Value → Shared → Prop} {h : Heap} {gn : Array GenState} {dr : Drawn} {tk : Nat} {os : OsState} {it vw D ID lam : Addr} {es : Array DictEntry} {ep i : Nat} {ok ov : Value}
theorem iter_B {Q : Value → Shared → Prop} (hv : h.get? vw = some (viewO D)) (hD : h.get? D = some (bookO ID lam es ep))
    (hQ : Q (.ref h.objs.size) ⟨h.push (itO D es.size ep), gn, dr, tk, os⟩) :
    wpAny (model prog w) A (pyIter (.ref vw)) Q E ⟨h, gn, dr, tk, os⟩ := by
  have hT : Shared.TypeIs ⟨h, gn, dr, tk, os⟩ (.ref vw) "dict_items" := ⟨_, hv, rfl⟩
  refine wpAny_pyIter_slot hT F.slot_dict_items_iter (wpAny_call_entry F.slot_dict_items_iter hT F.entry_dict_items_iter ?_ (F.args_dict_items_iter_1 _))
  unfold Builtin.«dict_items.__iter__»
  refine wpAny_bind (wpAny_pure ?_)
  refine wpAny_bind ?_
  unfold Builtin.Dict_items.dictOf
  refine wpAny_bind (wpAny_field hv rfl (x := .ref D) rfl (wpAny_pure ?_))
  refine wpAny_bind ?_
  unfold Builtin.Dict_items.newIterator
  refine wpAny_bind (wpAny_dictEntries hD rfl ?_)
  refine wpAny_bind (wpAny_dictEpoch hD rfl ?_)
  have hown : Builtin.Dict_items.ownsTuple "dict_itemiterator" = true := by decide
  simp only [hown, if_true]
  refine wpAny_newObj_type (wpAny_pure ⟨_, rfl, "dict_itemiterator", _, ⟨_, Heap.get?_push_size _ rfl, rfl⟩, F.slot_dict_itemiterator_next.lookup, ?_⟩)
    (by simp only [sizeOk, Builtin.Dict_items.ownedTupleFields, List.size_toArray, List.length_append, List.length_cons, List.length_nil, sizeLine_eq]; omega)
  simpa [rawInt, Builtin.Dict_items.ownedTupleFields] using hQ
theorem end_B {Q : Option Value → Shared → Prop} (hh : A.handled = none)
    (hD : h.get? D = some (bookO ID lam es ep)) (hit : IsItemIter h it D i es.size ep ok ov) (he : es[i]? = none)
    (hQ : ∀ h', (∀ b o, b ≠ it → h.get? b = some o → h'.get? b = some o) → Q none ⟨h', gn, dr, tk, os⟩) :
    wpAny (model prog w) A (pyNext (.ref it)) Q E ⟨h, gn, dr, tk, os⟩ := by
  have hT : Shared.TypeIs ⟨h, gn, dr, tk, os⟩ (.ref it) "dict_itemiterator" := ⟨_, hit, rfl⟩
  unfold pyNext
  refine wpAny_bind (wpAny_attempt (wpAny_callSpecial?_slot (name := Str.ofString "__next__") hT PySem.F.slot_dict_itemiterator_next
    (wpAny_call_entry PySem.F.slot_dict_itemiterator_next hT PySem.F.entry_dict_itemiterator_next ?_ (PySem.F.args_dict_itemiterator_next_1 _))))
  refine wpAny_bind (wpAny_pure ?_)
  wp_walk
  simp only [show ¬ ((i : Int) < 0) from by omega, if_false, Int.toNat_natCast, he]
  refine wpAny_bind ?_
  refine wpAny_bind (wpAny_typeNameOfWhole_itemiter hT (wpAny_pure ?_))
  show wpAny _ _ (setField (.ref it) 2 .none >>= _) _ _ _
  refine wpAny_bind (wpAny_setField hit rfl (by simp) ?_)
  show wpAny _ _ (newExc (.type "StopIteration") [] >>= _) _ _ _
  refine wpAny_bind ?_
  simp only [newExc, newTuple]
  refine wpAny_bind (wpAny_newObj_type ?_ (by size_fits))
  refine wpAny_bind (m := firstArgMember _ _) (wpAny_of_eq (a := Value.none) (by first | rfl | (simp only [firstArgMember]; rfl)) ?_)
  refine wpAny_newObj_type ?_ (by size_fits)
  simp only [raiseNew]
  refine wpAny_bind (wpAny_handled ?_)
  rw [show A.in1.handled = none from hh]
  refine wpAny_bind (wpAny_pure (wpAny_throw ?_))
  refine wpAny_bind (wpAny_isInstance (T := "StopIteration") (b := true) ⟨_, Heap.get?_push_size _ rfl, rfl⟩ isSubtype_stop ?_)
  exact wpAny_pure (hQ _ (((Heap.SameBut.update ..).extBut.push _).push _))
end
end Mine
end

noncomputable section
open PySem PySem.W PyProof.Rows PySem.Spec PyProof.Rows.LCg
set_option maxRecDepth 100000
set_option maxHeartbeats 4000000
namespace Mine
section
variable {prog : Program} {w : World} {A : Around} {E : Value → Shared → Prop} {h₀ : Heap} {L : Addr} {m : Str → Option Value} {env : Env} {D ID lam : Addr} {es : Array DictEntry} {ep : Nat}
/-- one turn of a block over the entries of the book -/
def BookTurn (prog : Program) (w : World) (A : Around) (h₀ : Heap) (L : Addr) (m : Str → Option Value) (env : Env) (elt : PySem.Expr) (a b : Str) (scope : Scope) (cl : List (Str × Addr)) (s : Shared) (es : Array DictEntry) (J : Nat → List Value → List (Addr × Obj) → Prop) : Prop :=
  ∀ i e ys news, es[i]? = some e → J i ys news → ∀ I oI C oC D' m₂ h tk (E' : Value → Shared → Prop), NsObj oC m₂ → m₂ a = some e.key → m₂ b = some e.val → Fr h₀ L h m → News h₀ L h ((I, oI) :: (C, oC) :: (D', lst ys) :: news) → Off3 I C D' news → ((@Ne Nat I C) ∧ (@Ne Nat I D') ∧ (@Ne Nat C D')) →
    wpAny (model prog w) A (eval elt (compEnvC scope cl C env)) (CompEnd h₀ L m { s with heap := h, toks := tk } I oI C oC D' (lst ys) (fun _ => True) (fun y news' => J (i + 1) (ys ++ [y]) news')) E' { s with heap := h, toks := tk }
theorem book_block {elt iter : PySem.Expr} {a b : Str} {pa pb tp : Pos} {kk : Nat} {scope : Scope} {cl : List (Str × Addr)} {pos : Pos} {s₂ : Shared} {I : Addr} {ok ov : Value} {news : List (Addr × Obj)}
    {J : Nat → List Value → List (Addr × Obj) → Prop} {RR : Value → Addr → Result → Shared → Prop}
    (hh : A.handled = none) (hsz : es.size ≤ sizeLine)
    (hit : IsItemIter s₂.heap I D 0 es.size ep ok ov) (hJ : ∀ i ys news, J i ys news → (D, bookO ID lam es ep) ∈ news)
    (hcell : ∀ y ∈ scope.names, y.2 ≠ .cell) (hkind : scope.kind = .function) (hxa : scope.names.lookup a = some .local) (hxb : scope.names.lookup b = some .local) (hab : ¬ a = b)
    (F : Fr h₀ L s₂.heap m) (N : News h₀ L s₂.heap news) (hIL : L ≠ I) (hI₀ : h₀.get? I = none) (off : ∀ p ∈ news, p.1 ≠ I)
    (T : BookTurn prog w A h₀ L m env elt a b scope cl s₂ es J) (R : J 0 [] news)
    (hRR : ∀ D C h tk m' ys news', Fr h₀ L h m → News h₀ L h ((D, lst ys) :: news') → Off1 D news' → h.Ns C m' → h₀.get? C = none → h₀.get? D = none → C ≠ L → D ≠ L → C ≠ D → (∀ p ∈ news', p.1 ≠ C) → ys.length = es.size → J es.size ys news' → RR (.ref D) C (.ok .next) { s₂ with heap := h, toks := tk }) :
    wpAny (model prog w) A (newList []) (fun acc s₃ => wpAny (model prog w) A (newFunctionEnv scope env.globals cl [] env.qual none .none (some env)) (fun cenv s₄ =>
      codeAny (model prog w) A (.compStart (.ListComp elt [⟨.Tuple [.Name a pa, .Name b pb] kk tp, iter, [], 0⟩] scope pos) 0 (.ref I) acc { cenv with scope := relabel scope env }) (RR acc cenv.locals) s₄) E s₃) E s₂ := by
  refine wpAny_newObj_type (wpAny_newFunctionEnv hcell (by intro y hy; simp at hy) (fun h₁ hns₁ hsb₁ => ?_) hkind)
  dsimp only at hns₁ hsb₁ ⊢
  generalize hH2 : s₂.heap.push { cls := .type "list", dict := none, data := .seq ([] : List Value).toArray } = H2 at hns₁ hsb₁ ⊢
  have hC : H2.objs.size = s₂.heap.objs.size + 1 := by rw [← hH2, Heap.size_push]
  have hDC : s₂.heap.objs.size ≠ H2.objs.size := by rw [hC]; exact Nat.ne_of_lt (Nat.lt_succ_self _)
  have below : ∀ b, b < s₂.heap.objs.size → b ≠ H2.objs.size ∧ b ≠ s₂.heap.objs.size := fun b hb => ⟨by rw [hC]; exact Nat.ne_of_lt (Nat.lt_succ_of_lt hb), Nat.ne_of_lt hb⟩
  have hIlt : I < s₂.heap.objs.size := Heap.lt_size hit
  have old : ∀ b o, s₂.heap.get? b = some o → h₁.get? b = some o := fun b o e => hsb₁.extBut b o (below b (Heap.lt_size e)).1 (Heap.get?_push_of_some _ (hH2 ▸ Heap.get?_push_of_some _ e))
  have hacc : h₁.get? s₂.heap.objs.size = some (lst []) := hsb₁.extBut _ _ hDC (Heap.get?_push_of_some _ (hH2 ▸ Heap.get?_push_size _ rfl))
  have hit₁ : IsItemIter h₁ I D 0 es.size ep ok ov := old _ _ hit
  have fresh : ∀ a, s₂.heap.objs.size ≤ a → s₂.heap.get? a = none := fun a ha => by
    cases e : s₂.heap.get? a with
    | none => rfl
    | some o' => exact absurd (Heap.lt_size e) (Nat.not_lt.mpr ha)
  have fresh₀ : ∀ a, s₂.heap.objs.size ≤ a → h₀.get? a = none := fun a ha => by
    cases e : h₀.get? a with
    | none => rfl
    | some o' => have := F.keep a o' e; rw [fresh a ha] at this; cases this
  have hD₀ : h₀.get? s₂.heap.objs.size = none := fresh₀ _ (Nat.le_refl _)
  have hC₀ : h₀.get? H2.objs.size = none := fresh₀ _ (by rw [hC]; exact Nat.le_succ _)
  have hLlt : L < s₂.heap.objs.size := F.ns.lt
  have hDL : s₂.heap.objs.size ≠ L := Ne.symm (below L hLlt).2
  have hCL : H2.objs.size ≠ L := Ne.symm (below L hLlt).1
  have hCI : I ≠ H2.objs.size := (below I hIlt).1
  have hDI : I ≠ s₂.heap.objs.size := (below I hIlt).2
  have off₀ : Off3 I H2.objs.size s₂.heap.objs.size news := Off3.of fun p hp => ⟨off p hp, (below _ (Heap.lt_size (N p hp).1)).1, (below _ (Heap.lt_size (N p hp).1)).2⟩
  have loop : ∀ s₃ : Shared, s₃ = { s₂ with heap := h₁, toks := s₂.toks + ([] : List (Str × Value)).length } →
      codeAny (model prog w) A (.compLoop (.ListComp elt [⟨.Tuple [.Name a pa, .Name b pb] kk tp, iter, [], 0⟩] scope pos) 0 (.ref I) (.ref s₂.heap.objs.size) (compEnvC scope cl H2.objs.size env))
        (RR (.ref s₂.heap.objs.size) H2.objs.size) s₃ := by
    rintro s₃ rfl
    refine kcp_loop
      (fun k s' => ∃ h' tk i ys m' news', s' = { s₂ with heap := h', toks := tk } ∧ i ≤ es.size ∧ k = es.size + 1 - i ∧ ys.length = i ∧ (∃ ok ov, IsItemIter h' I D i es.size ep ok ov) ∧ Fr h₀ L h' m ∧ h'.Ns H2.objs.size m' ∧
        News h₀ L h' ((s₂.heap.objs.size, lst ys) :: news') ∧ Off3 I H2.objs.size s₂.heap.objs.size news' ∧ J i ys news') ?_ (es.size + 1)
      ⟨h₁, _, 0, [], _, news, rfl, Nat.zero_le _, rfl, rfl, ⟨_, _, hit₁⟩, F.keeps old, hns₁, fun p hp => ?_, off₀, R⟩
    · rintro k s' ⟨h', tk, i, ys, m', news', rfl, hi, rfl, hyl, ⟨ok', ov', hit'⟩, F', hn', N', off', R'⟩
      have off3 := off'.mem
      have hD' : h'.get? D = some (bookO ID lam es ep) := (N' _ (List.mem_cons_of_mem _ (hJ _ _ _ R'))).1
      by_cases hlt : i < es.size
      · obtain ⟨e, he⟩ : ∃ e, es[i]? = some e := ⟨es[i], Array.getElem?_eq_getElem hlt⟩
        refine next_B hD' hit' he fun TT h₂ hio hTT hTn hk₂ => ?_
        refine wpAny_letOwnedTupleGo_items hio fun h₃ hI₃ hs₃ => ?_
        have hTI : TT ≠ I := fun z => by rw [z] at hTn; rw [hit'] at hTn; cases hTn
        have up₃ : ∀ c o, c ≠ I → h'.get? c = some o → h₃.get? c = some o := fun c o hc e => hs₃.extBut c o hc (hk₂ c o hc e)
        refine kcp_assign (env := compEnvC scope cl H2.objs.size env) (T := TT) hh ⟨_, hs₃.extBut _ _ hTI hTT, rfl, 0, rfl⟩ (lookup_relabel_local hxa) (lookup_relabel_local hxb) (by simp [compEnvC, relabel, hkind]) (hn'.at' fun o e => up₃ _ o (Ne.symm hCI) e) fun h₄ tk₄ hn₄ hs₄ => ?_
        have up : ∀ c o, c ≠ I → c ≠ H2.objs.size → h'.get? c = some o → h₄.get? c = some o := fun c o h1 h2 e => hs₄ c o h2 (up₃ c o h1 e)
        have hI₄ : IsItemIter h₄ I D (i + 1) es.size ep e.key e.val := hs₄ I _ hCI hI₃
        obtain ⟨oI, heI, hoI⟩ : ∃ oI : Obj, h₄.get? I = some oI ∧ ∀ h : Heap, h.get? I = some oI → ∃ ok ov, IsItemIter h I D (i + 1) es.size ep ok ov := ⟨_, hI₄, fun _ e => ⟨_, _, e⟩⟩
        obtain ⟨oC, heC, hoC⟩ := ns_obj hn₄
        have F₄ : Fr h₀ L h₄ m := ⟨F'.ns.at' fun o e => up _ o hIL (Ne.symm hCL) e, fun c o e => up c o (fun q => by rw [q, hI₀] at e; cases e) (fun q => by rw [q, hC₀] at e; cases e) (F'.keep c o e), F'.above⟩
        have N₄ : News h₀ L h₄ ((I, oI) :: (H2.objs.size, oC) :: (s₂.heap.objs.size, lst ys) :: news') := fun q hq => by
          rcases List.mem_cons.mp hq with rfl | hq
          · exact ⟨heI, Ne.symm hIL, hI₀⟩
          · rcases List.mem_cons.mp hq with rfl | hq
            · exact ⟨heC, hCL, hC₀⟩
            · have z := N' q hq
              refine ⟨up _ _ ?_ ?_ z.1, z.2⟩
              · rcases List.mem_cons.mp hq with rfl | hq
                · exact Ne.symm hDI
                · exact (off3 q hq).1
              · rcases List.mem_cons.mp hq with rfl | hq
                · exact hDC
                · exact (off3 q hq).2.1
        refine wpAny_mono (T i e ys news' he R' I oI H2.objs.size oC s₂.heap.objs.size _ h₄ _ _ hoC (by simp [hab]) (by simp) F₄ N₄ off' ⟨hCI, hDI, Ne.symm hDC⟩) (fun y s₅ h₅ => ?_) fun _ _ e => e
        obtain ⟨h₅, tk₅, news₅, rfl, F₅, N₅, off₅, _, R₅⟩ := h₅
        have zI := (N₅ (I, oI) List.mem_cons_self).1
        have zC := (N₅ (H2.objs.size, oC) (List.mem_cons_of_mem _ List.mem_cons_self)).1
        have zD := (N₅ (s₂.heap.objs.size, lst ys) (List.mem_cons_of_mem _ (List.mem_cons_of_mem _ List.mem_cons_self))).1
        have N₅' : News h₀ L h₅ news₅ := fun q hq => N₅ q (List.mem_cons_of_mem _ (List.mem_cons_of_mem _ (List.mem_cons_of_mem _ hq)))
        refine append_at (hsz := by show ys.toArray.size ≤ sizeLine; rw [List.size_toArray, hyl]; exact Nat.le_trans hi hsz) zD fun h₆ hs₆ hD₆ => ?_
        have off5 := off₅.mem
        refine ⟨es.size + 1 - (i + 1), by omega, h₆, tk₅, i + 1, ys ++ [y], _, news₅, rfl, hlt, rfl, by rw [List.length_append, List.length_singleton, hyl], hoI h₆ (hs₆.extBut I oI hDI zI), F₅.change hs₆ hDL hD₀,
          (hoC.ns zC).sameBut hs₆ (Ne.symm hDC), fun q hq => ?_, off₅, R₅⟩
        rcases List.mem_cons.mp hq with rfl | hq
        · exact ⟨hD₆.trans (congrArg some (lst_snoc ys y)), hDL, hD₀⟩
        · exact ⟨hs₆.extBut _ _ (off5 q hq).2.2 (N₅' q hq).1, (N₅' q hq).2⟩
      · have hin : i = es.size := Nat.le_antisymm hi (Nat.not_lt.mp hlt)
        subst hin
        refine end_B hh hD' hit' (by simp) fun h₂ hk₂ => ?_
        exact hRR _ _ h₂ tk _ ys news' (fr_but F' (fun b o hb e => hk₂ b o (by simpa using hb) e) hIL hI₀) (news_but N' (fun b o hb e => hk₂ b o (by simpa using hb) e) fun p hp => by
          rcases List.mem_cons.mp hp with rfl | hp
          · exact Ne.symm hDI
          · exact (off3 p hp).1) off'.one (hn'.at' fun o e => hk₂ _ o (by simpa using Ne.symm hCI) e) hC₀ hD₀ hCL hDL (Ne.symm hDC) (fun p hp => (off3 p hp).2.1) hyl R'
    · rcases List.mem_cons.mp hp with rfl | hp
      · exact ⟨hacc, hDL, hD₀⟩
      · exact ⟨old _ _ (N p hp).1, (N p hp).2⟩
  exact codeAny_compStart_list (loop _ rfl) (kcp_self hit₁ (loop _ rfl))
end
end Mine
end

noncomputable section
open PySem PySem.W PyProof.Rows PySem.Spec PyProof.Rows.LCg
set_option maxRecDepth 100000
set_option maxHeartbeats 4000000
namespace Mine
section
variable {prog : Program} {w : World} {A : Around} {E : Value → Shared → Prop} {s : Shared} {h₀ : Heap} {L : Addr} {m : Str → Option Value} {env : Env} {D ID lam : Addr} {es : Array DictEntry} {ep : Nat}
def BookSrc (prog : Program) (w : World) (A : Around) (h₀ : Heap) (L : Addr) (m : Str → Option Value) (env : Env) (elt : PySem.Expr) (a b : Str) (scope : Scope) (cl : List (Str × Addr)) (D ID lam : Addr) (es : Array DictEntry) (ep : Nat) (Fin : Shared → List Value → List (Addr × Obj) → Prop) (xv : Value) (s₁ : Shared) : Prop :=
  ∃ (vw : Addr) (news : List (Addr × Obj)) (J : Nat → List Value → List (Addr × Obj) → Prop), xv = .ref vw ∧ A.handled = none ∧ Fr h₀ L s₁.heap m ∧ News h₀ L s₁.heap news ∧ s₁.heap.get? vw = some (viewO D) ∧ es.size ≤ sizeLine ∧ (∀ i ys news, J i ys news → (D, bookO ID lam es ep) ∈ news) ∧ J 0 [] news ∧
    ∀ g : Heap, BookTurn prog w A h₀ L m env elt a b scope cl { s₁ with heap := g } es J ∧ ∀ ys news', ys.length = es.size → J es.size ys news' → Fin { s₁ with heap := g } ys news'
theorem book_ListComp {elt iter : PySem.Expr} {a b : Str} {pa pb tp : Pos} {kk : Nat} {scope : Scope} {cl : List (Str × Addr)} {pos : Pos} {Q : Value → Shared → Prop} (DD ID lam : Addr) (es : Array DictEntry) (ep : Nat) (_F₀ : Fr h₀ L s.heap m)
    (hclos : closureFor scope env = pure cl) (hcell : ∀ y ∈ scope.names, y.2 ≠ .cell) (hkind : scope.kind = .function)
    (hnames : ∀ y ∈ scope.names, y.2 = .local → scope.names.lookup y.1 = some .local) (hxa : scope.names.lookup a = some .local) (hxb : scope.names.lookup b = some .local) (hab : ¬ a = b)
    (h : wpAny (model prog w) A (eval iter env) (BookSrc prog w A h₀ L m env elt a b scope cl DD ID lam es ep (fun s₂ => FinE h₀ L m s₂ Q)) E s)
    (hs : ∀ x, foldedSetIterable iter env x = pure x := by intro _; rfl) :
    wpAny (model prog w) A (eval (.ListComp elt [⟨.Tuple [.Name a pa, .Name b pb] kk tp, iter, [], 0⟩] scope pos) env) Q E s := by
  rw [eval_ListComp]
  refine wpAny_comprehension_free (use := none) rfl hs hclos hkind hnames (wpAny_mono h (fun xv s₁ h₁ => ?_) fun _ _ e => e)
  obtain ⟨h1, gn, dr, tk1, os⟩ := s₁
  obtain ⟨vw, news, J, rfl, hh, F, N, hv, hsz, hJ, R, X⟩ := h₁
  refine iter_B hv (N _ (hJ _ _ _ R)).1 ?_
  refine book_block hh hsz (Heap.get?_push_size _ rfl) hJ hcell hkind hxa hxb hab (F.push _)
    (fun p hp => ⟨Heap.get?_push_of_some _ (N p hp).1, (N p hp).2⟩) (Nat.ne_of_lt F.ns.lt) (next_is_new F) (fun p hp => Nat.ne_of_lt (Heap.lt_size (N p hp).1)) (X _).1 R ?_
  intro D C h tk m' ys news' F' N' o1 hn hC₀ hD₀ hCL hDL hCD offC hyl fin
  refine ⟨m', hn, fun h'' hs'' => (X (h1.push (itO DD es.size ep))).2 ys news' hyl fin D h'' tk (F'.change hs'' hCL hC₀) (fun p hp => ?_) o1⟩
  refine ⟨hs''.extBut _ _ ?_ (N' p hp).1, (N' p hp).2⟩
  rcases List.mem_cons.mp hp with rfl | hp
  · exact Ne.symm hCD
  · exact offC p hp
end
end Mine
end

noncomputable section
open PySem PySem.W PyProof.Rows PySem.Spec PyProof.Rows.LCg
set_option maxRecDepth 100000
set_option maxHeartbeats 4000000
namespace Mine
section
variable {prog : Program} {w : World} {A : Around} {h₀ : Heap} {L : Addr} {m : Str → Option Value} {env : Env}
/-- the turns of a block, by an invariant of the turn's number, the list so far and the ledger -/
theorem comp_inv {elt : Expr} {x : Str} {scope : Scope} {cl : List (Str × Addr)} {s : Shared} {S : List (Addr × Obj) → Prop} {P : Nat → Value → Prop} {Fin : List Value → List (Addr × Obj) → Prop} (n : Nat) (J : Nat → List Value → List (Addr × Obj) → Prop)
    (turn : ∀ i ys news v, i < n → J i ys news → P i v → ∀ I oI C oC D m₂ h tk (E' : Value → Shared → Prop), NsObj oC m₂ → m₂ x = some v → Fr h₀ L h m → News h₀ L h ((I, oI) :: (C, oC) :: (D, lst ys) :: news) → Off3 I C D news → ((@Ne Nat I C) ∧ (@Ne Nat I D) ∧ (@Ne Nat C D)) →
      wpAny (model prog w) A (eval elt (compEnvC scope cl C env)) (CompEnd h₀ L m { s with heap := h, toks := tk } I oI C oC D (lst ys) S (fun y news' => J (i + 1) (ys ++ [y]) news')) E' { s with heap := h, toks := tk })
    (fin : ∀ ys news, J n ys news → Fin ys news) : ∀ k i ys news, i + k = n → J i ys news → CompRest prog w A h₀ L m env elt x scope cl s S P Fin k i ys news
  | 0, i, ys, news, e, j => .zero (fin ys news (by rw [← e]; exact j))
  | k + 1, i, ys, news, e, j => .succ (fun v I oI C oC D m₂ h tk E' hP hC hx F N off ne => wpAny_mono (turn i ys news v (by omega) j hP I oI C oC D m₂ h tk E' hC hx F N off ne) (fun y s' ⟨h', tk', news', e', F', N', off', hS, r⟩ => ⟨h', tk', news', e', F', N', off', hS, comp_inv n J turn fin k (i + 1) _ _ (by omega) r⟩) fun _ _ e => e)
end
/-- what stands about law's frame -/
structure LC (w : World) (bs : Heap) (fd : FuncData)   : Prop where
  hfd : lawDef w.params = some fd
  K : Below callerA bs [] bs
  C1 : CodeHd bs 118 114
  C2 : CodeHd bs 240 236
def stmtAt (fd : FuncData) (k : Nat) : Stmt := ((stmtsOf fd).drop k).headD (.Pass ⟨0, 0, 0, 0⟩)
abbrev cellsL (L : Addr) (o1 o2 o3 o4 o5 o6 o7 : Obj) : List (Addr × Obj) := [(L + 1, o1), (L + 2, o2), (L + 3, o3), (L + 4, o4), (L + 5, o5), (L + 6, o6), (L + 7, o7)]
abbrev tabsL : List (Addr × Obj) := [(114, tabObj #[]), (236, tabObj #[])]
end Mine
end

noncomputable section
open PySem PySem.W PyProof.Rows PySem.Spec PyProof.Rows.LCg Builtin.Str
set_option maxRecDepth 100000
set_option maxHeartbeats 4000000
namespace Mine
theorem intsAll {vs : List Value} {zs : List Int} (h : IntsAre vs zs) : All2 (fun v z => ∃ t, v = .int z t) vs zs := by
  induction zs generalizing vs with
  | nil => rw [h.nil_inv]; exact .nil
  | cons z zs ih => obtain ⟨t, vs', rfl, h'⟩ := h.cons_inv; exact .cons ⟨_, rfl⟩ (ih h')
theorem joinE : ∀ ps : List (List Nat), Str.join (Tx []) (ps.map Tx) = Tx ps.flatten
  | [] => rfl
  | [p] => by simp [Str.join]
  | p :: q :: r => by
    rw [List.map_cons, join_cons2 _ _ _ (by simp), joinE (q :: r), Tx_append, Tx_append]; simp
section
variable {prog : Program} {w : World} {A : Around} {E : Value → Shared → Prop} {hp : Heap} {gn : Array GenState} {dr : Drawn} {tk : Nat} {os : OsState} {h₀ : Heap} {L : Addr} {m : Str → Option Value} {news news' : List (Addr × Obj)} {Q : Value → Shared → Prop} {t u : Tok} {l r : List Nat} {value slice : Expr}
theorem joinE_T {ps : List (List Nat)} {vs : List Value} {D : Addr} {n : Nat} {t : Tok} (N : News h₀ L hp news) (hm : (D, listOf vs.toArray n) ∈ news) (e : TxsAre vs ps) (B : Nat) (hB : ∀ p ∈ ps, p.length ≤ B) (hz : ps.length * B ≤ 16777216)
    (h : ∀ t k, Q (.str (Tx ps.flatten) t) ⟨hp, gn, dr, k, os⟩) : wpAny (model prog w) A (call (.builtin "str.join") [.str (Tx []) t, .ref D]) Q E ⟨hp, gn, dr, tk, os⟩ := by
  obtain ⟨l, rfl, e2⟩ := strs_txs e
  refine SC.join (s := ⟨hp, gn, dr, tk, os⟩) ⟨_, (N _ hm).1, rfl, n, rfl⟩ e2 ((jw_len [] B ps hB).resolve_right (fun q => q (by simpa using hz))) (fun t' k => ?_)
  show Q (.str (Builtin.Str.glued (Tx []) _) _) _
  rw [StrLaws.glued_eq_join, joinE]
  exact h t' k
end
def sgn (z : Int) : Nat := [97, 46, 61, 92].getD (z % 4).toNat 0
def givenL (zs : List Int) : List Nat := (zs.take 8).map sgn ++ [97, 61, 97, 97, 61]
end Mine
end

noncomputable section
open PySem PySem.W PyProof.Rows PySem.Spec PyProof.Rows.LCg
set_option maxRecDepth 100000
set_option maxHeartbeats 4000000
namespace Mine
/-- a ledger's part that lies off the frame's cells and the two tables -/
def Far (L : Addr) (tl : List (Addr × Obj)) : Prop := ∀ p ∈ tl, p.1 ≠ 114 ∧ p.1 ≠ L + 1 ∧ p.1 ≠ L + 2 ∧ p.1 ≠ L + 3 ∧ p.1 ≠ L + 4 ∧ p.1 ≠ L + 5 ∧ p.1 ≠ L + 6 ∧ p.1 ≠ L + 7
theorem Far.nil {L : Addr} : Far L [] := fun _ h => nomatch h
theorem Far.cons {L a : Addr} {o : Obj} {tl : List (Addr × Obj)} (h : a ≠ 114 ∧ a ≠ L + 1 ∧ a ≠ L + 2 ∧ a ≠ L + 3 ∧ a ≠ L + 4 ∧ a ≠ L + 5 ∧ a ≠ L + 6 ∧ a ≠ L + 7) (Y : Far L tl) : Far L ((a, o) :: tl) := fun p hp => by
  rcases List.mem_cons.mp hp with rfl | hp
  · exact h
  · exact Y p hp
theorem Far.append {L : Addr} {a b : List (Addr × Obj)} (x : Far L a) (y : Far L b) : Far L (a ++ b) := fun p hp => (List.mem_append.mp hp).elim (x p) (y p)
abbrev ledT (L : Addr) (ts tl : List (Addr × Obj)) (o1 o2 o3 o4 o5 o6 o7 : Obj) : List (Addr × Obj) := cellsL L o1 o2 o3 o4 o5 o6 o7 ++ (ts ++ tl)
abbrev led (L : Addr) (tl : List (Addr × Obj)) (o1 o2 o3 o4 o5 o6 o7 : Obj) : List (Addr × Obj) := ledT L tabsL tl o1 o2 o3 o4 o5 o6 o7
theorem tabs_lt {L : Addr} (lt : (236 : Nat) < L) : ∀ p ∈ tabsL, p.1 < L := fun p hp => by
  simp only [tabsL, List.mem_cons, List.not_mem_nil, or_false] at hp
  rcases hp with rfl | rfl
  · exact Nat.lt_trans (by decide : (114 : Nat) < 236) lt
  · exact lt
theorem News.perm {h₀ h : Heap} {L : Addr} {a b : List (Addr × Obj)} (N : News h₀ L h a) (e : ∀ p ∈ b, p ∈ a) : News h₀ L h b := fun p hp => N p (e p hp)
theorem led_in {h₀ h : Heap} {L : Addr} {ts t0 tl : List (Addr × Obj)} {o1 o2 o3 o4 o5 o6 o7 : Obj} (N : News h₀ L h (t0 ++ ledT L ts tl o1 o2 o3 o4 o5 o6 o7)) : News h₀ L h (ledT L ts (t0 ++ tl) o1 o2 o3 o4 o5 o6 o7) := N.perm fun p hp => by
  simp only [List.mem_append] at hp ⊢
  rcases hp with hp | hp | hp | hp
  · exact .inr (.inl hp)
  · exact .inr (.inr (.inl hp))
  · exact .inl hp
  · exact .inr (.inr (.inr hp))
theorem led_mem {L : Addr} {ts tl : List (Addr × Obj)} {o1 o2 o3 o4 o5 o6 o7 : Obj} {p : Addr × Obj} (h : p ∈ tl) : p ∈ ledT L ts tl o1 o2 o3 o4 o5 o6 o7 := List.mem_append_right _ (List.mem_append_right _ h)
theorem fr_self {b h : Heap} {L : Addr} {m : Str → Option Value} {ps : List (Str × Value)} (F : Fr b L h m) (hp : ∀ p ∈ ps, m p.1 = some p.2) : Fr b L h (kstB m ps) := kstB_self hp ▸ F
abbrev planL (P R T : Addr) (rvs tvs : List Value) (a b c : Nat) (tl : List (Addr × Obj)) : List (Addr × Obj) := (P, listOf #[.ref R, .ref T] a) :: (R, listOf rvs.toArray b) :: (T, listOf tvs.toArray c) :: tl
theorem far_fresh {bs h : Heap} {L : Addr} {tl t0 : List (Addr × Obj)} {o1 o2 o3 o4 o5 o6 o7 : Obj} (N : News bs L h (led L t0 o1 o2 o3 o4 o5 o6 o7)) (H : ∀ p ∈ tl, h.get? p.1 = none) : Far L tl := fun p hp => by
  have key : ∀ q ∈ cellsL L o1 o2 o3 o4 o5 o6 o7 ++ tabsL, p.1 ≠ q.1 := fun q hq e => by
    have := (N q (by simp only [List.mem_append] at hq ⊢; rcases hq with h | h; exact .inl h; exact .inr (.inl h))).1
    rw [← e, H p hp] at this; cases this
  refine ⟨key (114, tabObj #[]) (by simp [tabsL]), key (L + 1, o1) (by simp), key (L + 2, o2) (by simp), key (L + 3, o3) (by simp), key (L + 4, o4) (by simp), key (L + 5, o5) (by simp), key (L + 6, o6) (by simp), key (L + 7, o7) (by simp)⟩
theorem far_236 {bs h : Heap} {L : Addr} {tl t0 : List (Addr × Obj)} {o1 o2 o3 o4 o5 o6 o7 : Obj} (N : News bs L h (led L t0 o1 o2 o3 o4 o5 o6 o7)) (H : ∀ p ∈ tl, h.get? p.1 = none) : ∀ p ∈ tl, p.1 ≠ 236 := fun p hp e => by
  have := (N (236, tabObj #[]) (by simp [tabsL])).1
  have q := H p hp
  rw [e] at q
  rw [q] at this; cases this
/-- fresh objects join the ledger -/
theorem news_fresh {bs h h' : Heap} {L : Addr} {m : Str → Option Value} {tl news : List (Addr × Obj)} (F : Fr bs L h m) (N : News bs L h news) (k : Kp h h') (H : ∀ p ∈ tl, h'.get? p.1 = some p.2 ∧ h.get? p.1 = none) : News bs L h' (tl ++ news) := fun p hp => by
  rcases List.mem_append.mp hp with hp | hp
  · have z := H p hp
    refine ⟨z.1, fun e => ?_, ?_⟩
    · obtain ⟨o, q, _⟩ := ns_obj F.ns
      rw [e, q] at z; exact nomatch z.2
    · cases q : bs.get? p.1 with
      | none => rfl
      | some o => have := F.keep _ _ q; rw [z.2] at this; cases this
  · exact ⟨k _ _ (N p hp).1, (N p hp).2⟩
theorem lm2 {L : Addr} {tl : List (Addr × Obj)} {o1 o2 o3 o4 o5 o6 o7 : Obj} {p : Addr × Obj} (h : p ∈ tl) : p ∈ (L + 1, o1) :: (L + 2, o2) :: (L + 3, o3) :: (L + 4, o4) :: (L + 5, o5) :: (L + 6, o6) :: (L + 7, o7) :: (114, tabObj #[]) :: (236, tabObj #[]) :: tl := led_mem (ts := tabsL) h
theorem lm1 {L : Addr} {tl : List (Addr × Obj)} {o1 o2 o3 o4 o5 o6 o7 : Obj} {p : Addr × Obj} (h : p ∈ tl) : p ∈ (L + 1, o1) :: (L + 2, o2) :: (L + 3, o3) :: (L + 4, o4) :: (L + 5, o5) :: (L + 6, o6) :: (L + 7, o7) :: (114, tabObj #[]) :: tl := led_mem (ts := [(114, tabObj #[])]) h
theorem lm0 {L : Addr} {tl : List (Addr × Obj)} {o1 o2 o3 o4 o5 o6 o7 : Obj} {p : Addr × Obj} (h : p ∈ tl) : p ∈ (L + 1, o1) :: (L + 2, o2) :: (L + 3, o3) :: (L + 4, o4) :: (L + 5, o5) :: (L + 6, o6) :: (L + 7, o7) :: tl := led_mem (ts := []) h
section
variable {M : Model} {A : Around} {E : Value → Shared → Prop} {s : Shared} {name : Str} {scope : Scope} {L a : Addr} {cd : Value} {h₀ : Heap} {m : Str → Option Value} {ts tl : List (Addr × Obj)} {o1 o2 o3 o4 o5 o6 o7 : Obj} {x : Str} {v₀ : Option Value} {v : Value} {Q : Unit → Shared → Prop}
theorem st1 (F : Fr h₀ L s.heap m) (N : News h₀ L s.heap (ledT L ts tl o1 o2 o3 o4 o5 o6 o7)) (Y : Far L tl) (lt : ∀ p ∈ ts, p.1 < L) (hd : o1.data = .cell v₀) (hc : (cellsFrom (L + 1) scope.names []).lookup x = some (L + 1))
    (h : ∀ h' o', Fr h₀ L h' m → News h₀ L h' (ledT L ts tl o' o2 o3 o4 o5 o6 o7) → o'.data = .cell (some v) → Q () { s with heap := h' })
    (hk : scope.kind = .function := by rfl) (hl : (envOfC name scope L a cd).kindOf x = some .cell := by rfl) : wpAny M A (storeName (envOfC name scope L a cd) x v) Q E s := by
  refine stCN (own := []) (rest := [(L + 2, o2), (L + 3, o3), (L + 4, o4), (L + 5, o5), (L + 6, o6), (L + 7, o7)] ++ (ts ++ tl)) F (by simpa only [ledT, cellsL, List.append_assoc, List.cons_append, List.nil_append, List.append_nil] using N) hc hd (fun p hp => ?_) (fun p hp => ?_) (fun h' o' F' N' hd' => h h' o' F' (by simpa only [ledT, cellsL, List.append_assoc, List.cons_append, List.nil_append, List.append_nil] using N') hd') hk hl
  · exact nomatch hp
  · simp only [List.cons_append, List.nil_append, List.mem_cons, List.mem_append] at hp
    rcases hp with rfl | rfl | rfl | rfl | rfl | rfl | hp | hp
    all_goals first | (intro (e : @Eq Nat _ _); dsimp only at e; omega) | (have := Y p hp; intro (e : @Eq Nat _ _); simp only [e] at this; revert this; simp; done) | (have q := lt p hp; intro (e : @Eq Nat _ _); rw [e] at q; exact absurd q (Nat.not_lt.mpr (Nat.le_add_right _ _)))
theorem st2 (F : Fr h₀ L s.heap m) (N : News h₀ L s.heap (ledT L ts tl o1 o2 o3 o4 o5 o6 o7)) (Y : Far L tl) (lt : ∀ p ∈ ts, p.1 < L) (hd : o2.data = .cell v₀) (hc : (cellsFrom (L + 1) scope.names []).lookup x = some (L + 2))
    (h : ∀ h' o', Fr h₀ L h' m → News h₀ L h' (ledT L ts tl o1 o' o3 o4 o5 o6 o7) → o'.data = .cell (some v) → Q () { s with heap := h' })
    (hk : scope.kind = .function := by rfl) (hl : (envOfC name scope L a cd).kindOf x = some .cell := by rfl) : wpAny M A (storeName (envOfC name scope L a cd) x v) Q E s := by
  refine stCN (own := [(L + 1, o1)]) (rest := [(L + 3, o3), (L + 4, o4), (L + 5, o5), (L + 6, o6), (L + 7, o7)] ++ (ts ++ tl)) F (by simpa only [ledT, cellsL, List.append_assoc, List.cons_append, List.nil_append, List.append_nil] using N) hc hd (fun p hp => ?_) (fun p hp => ?_) (fun h' o' F' N' hd' => h h' o' F' (by simpa only [ledT, cellsL, List.append_assoc, List.cons_append, List.nil_append, List.append_nil] using N') hd') hk hl
  · simp only [List.mem_cons, List.not_mem_nil, or_false] at hp
    rcases hp with rfl <;> (intro (e : @Eq Nat _ _); dsimp only at e; omega)
  · simp only [List.cons_append, List.nil_append, List.mem_cons, List.mem_append] at hp
    rcases hp with rfl | rfl | rfl | rfl | rfl | hp | hp
    all_goals first | (intro (e : @Eq Nat _ _); dsimp only at e; omega) | (have := Y p hp; intro (e : @Eq Nat _ _); simp only [e] at this; revert this; simp; done) | (have q := lt p hp; intro (e : @Eq Nat _ _); rw [e] at q; exact absurd q (Nat.not_lt.mpr (Nat.le_add_right _ _)))
theorem st3 (F : Fr h₀ L s.heap m) (N : News h₀ L s.heap (ledT L ts tl o1 o2 o3 o4 o5 o6 o7)) (Y : Far L tl) (lt : ∀ p ∈ ts, p.1 < L) (hd : o3.data = .cell v₀) (hc : (cellsFrom (L + 1) scope.names []).lookup x = some (L + 3))
    (h : ∀ h' o', Fr h₀ L h' m → News h₀ L h' (ledT L ts tl o1 o2 o' o4 o5 o6 o7) → o'.data = .cell (some v) → Q () { s with heap := h' })
    (hk : scope.kind = .function := by rfl) (hl : (envOfC name scope L a cd).kindOf x = some .cell := by rfl) : wpAny M A (storeName (envOfC name scope L a cd) x v) Q E s := by
  refine stCN (own := [(L + 1, o1), (L + 2, o2)]) (rest := [(L + 4, o4), (L + 5, o5), (L + 6, o6), (L + 7, o7)] ++ (ts ++ tl)) F (by simpa only [ledT, cellsL, List.append_assoc, List.cons_append, List.nil_append, List.append_nil] using N) hc hd (fun p hp => ?_) (fun p hp => ?_) (fun h' o' F' N' hd' => h h' o' F' (by simpa only [ledT, cellsL, List.append_assoc, List.cons_append, List.nil_append, List.append_nil] using N') hd') hk hl
  · simp only [List.mem_cons, List.not_mem_nil, or_false] at hp
    rcases hp with rfl | rfl <;> (intro (e : @Eq Nat _ _); dsimp only at e; omega)
  · simp only [List.cons_append, List.nil_append, List.mem_cons, List.mem_append] at hp
    rcases hp with rfl | rfl | rfl | rfl | hp | hp
    all_goals first | (intro (e : @Eq Nat _ _); dsimp only at e; omega) | (have := Y p hp; intro (e : @Eq Nat _ _); simp only [e] at this; revert this; simp; done) | (have q := lt p hp; intro (e : @Eq Nat _ _); rw [e] at q; exact absurd q (Nat.not_lt.mpr (Nat.le_add_right _ _)))
theorem st4 (F : Fr h₀ L s.heap m) (N : News h₀ L s.heap (ledT L ts tl o1 o2 o3 o4 o5 o6 o7)) (Y : Far L tl) (lt : ∀ p ∈ ts, p.1 < L) (hd : o4.data = .cell v₀) (hc : (cellsFrom (L + 1) scope.names []).lookup x = some (L + 4))
    (h : ∀ h' o', Fr h₀ L h' m → News h₀ L h' (ledT L ts tl o1 o2 o3 o' o5 o6 o7) → o'.data = .cell (some v) → Q () { s with heap := h' })
    (hk : scope.kind = .function := by rfl) (hl : (envOfC name scope L a cd).kindOf x = some .cell := by rfl) : wpAny M A (storeName (envOfC name scope L a cd) x v) Q E s := by
  refine stCN (own := [(L + 1, o1), (L + 2, o2), (L + 3, o3)]) (rest := [(L + 5, o5), (L + 6, o6), (L + 7, o7)] ++ (ts ++ tl)) F (by simpa only [ledT, cellsL, List.append_assoc, List.cons_append, List.nil_append, List.append_nil] using N) hc hd (fun p hp => ?_) (fun p hp => ?_) (fun h' o' F' N' hd' => h h' o' F' (by simpa only [ledT, cellsL, List.append_assoc, List.cons_append, List.nil_append, List.append_nil] using N') hd') hk hl
  · simp only [List.mem_cons, List.not_mem_nil, or_false] at hp
    rcases hp with rfl | rfl | rfl <;> (intro (e : @Eq Nat _ _); dsimp only at e; omega)
  · simp only [List.cons_append, List.nil_append, List.mem_cons, List.mem_append] at hp
    rcases hp with rfl | rfl | rfl | hp | hp
    all_goals first | (intro (e : @Eq Nat _ _); dsimp only at e; omega) | (have := Y p hp; intro (e : @Eq Nat _ _); simp only [e] at this; revert this; simp; done) | (have q := lt p hp; intro (e : @Eq Nat _ _); rw [e] at q; exact absurd q (Nat.not_lt.mpr (Nat.le_add_right _ _)))
theorem st5 (F : Fr h₀ L s.heap m) (N : News h₀ L s.heap (ledT L ts tl o1 o2 o3 o4 o5 o6 o7)) (Y : Far L tl) (lt : ∀ p ∈ ts, p.1 < L) (hd : o5.data = .cell v₀) (hc : (cellsFrom (L + 1) scope.names []).lookup x = some (L + 5))
    (h : ∀ h' o', Fr h₀ L h' m → News h₀ L h' (ledT L ts tl o1 o2 o3 o4 o' o6 o7) → o'.data = .cell (some v) → Q () { s with heap := h' })
    (hk : scope.kind = .function := by rfl) (hl : (envOfC name scope L a cd).kindOf x = some .cell := by rfl) : wpAny M A (storeName (envOfC name scope L a cd) x v) Q E s := by
  refine stCN (own := [(L + 1, o1), (L + 2, o2), (L + 3, o3), (L + 4, o4)]) (rest := [(L + 6, o6), (L + 7, o7)] ++ (ts ++ tl)) F (by simpa only [ledT, cellsL, List.append_assoc, List.cons_append, List.nil_append, List.append_nil] using N) hc hd (fun p hp => ?_) (fun p hp => ?_) (fun h' o' F' N' hd' => h h' o' F' (by simpa only [ledT, cellsL, List.append_assoc, List.cons_append, List.nil_append, List.append_nil] using N') hd') hk hl
  · simp only [List.mem_cons, List.not_mem_nil, or_false] at hp
    rcases hp with rfl | rfl | rfl | rfl <;> (intro (e : @Eq Nat _ _); dsimp only at e; omega)
  · simp only [List.cons_append, List.nil_append, List.mem_cons, List.mem_append] at hp
    rcases hp with rfl | rfl | hp | hp
    all_goals first | (intro (e : @Eq Nat _ _); dsimp only at e; omega) | (have := Y p hp; intro (e : @Eq Nat _ _); simp only [e] at this; revert this; simp; done) | (have q := lt p hp; intro (e : @Eq Nat _ _); rw [e] at q; exact absurd q (Nat.not_lt.mpr (Nat.le_add_right _ _)))
theorem st6 (F : Fr h₀ L s.heap m) (N : News h₀ L s.heap (ledT L ts tl o1 o2 o3 o4 o5 o6 o7)) (Y : Far L tl) (lt : ∀ p ∈ ts, p.1 < L) (hd : o6.data = .cell v₀) (hc : (cellsFrom (L + 1) scope.names []).lookup x = some (L + 6))
    (h : ∀ h' o', Fr h₀ L h' m → News h₀ L h' (ledT L ts tl o1 o2 o3 o4 o5 o' o7) → o'.data = .cell (some v) → Q () { s with heap := h' })
    (hk : scope.kind = .function := by rfl) (hl : (envOfC name scope L a cd).kindOf x = some .cell := by rfl) : wpAny M A (storeName (envOfC name scope L a cd) x v) Q E s := by
  refine stCN (own := [(L + 1, o1), (L + 2, o2), (L + 3, o3), (L + 4, o4), (L + 5, o5)]) (rest := [(L + 7, o7)] ++ (ts ++ tl)) F (by simpa only [ledT, cellsL, List.append_assoc, List.cons_append, List.nil_append, List.append_nil] using N) hc hd (fun p hp => ?_) (fun p hp => ?_) (fun h' o' F' N' hd' => h h' o' F' (by simpa only [ledT, cellsL, List.append_assoc, List.cons_append, List.nil_append, List.append_nil] using N') hd') hk hl
  · simp only [List.mem_cons, List.not_mem_nil, or_false] at hp
    rcases hp with rfl | rfl | rfl | rfl | rfl <;> (intro (e : @Eq Nat _ _); dsimp only at e; omega)
  · simp only [List.cons_append, List.nil_append, List.mem_cons, List.mem_append] at hp
    rcases hp with rfl | hp | hp
    all_goals first | (intro (e : @Eq Nat _ _); dsimp only at e; omega) | (have := Y p hp; intro (e : @Eq Nat _ _); simp only [e] at this; revert this; simp; done) | (have q := lt p hp; intro (e : @Eq Nat _ _); rw [e] at q; exact absurd q (Nat.not_lt.mpr (Nat.le_add_right _ _)))
theorem st7 (F : Fr h₀ L s.heap m) (N : News h₀ L s.heap (ledT L ts tl o1 o2 o3 o4 o5 o6 o7)) (Y : Far L tl) (lt : ∀ p ∈ ts, p.1 < L) (hd : o7.data = .cell v₀) (hc : (cellsFrom (L + 1) scope.names []).lookup x = some (L + 7))
    (h : ∀ h' o', Fr h₀ L h' m → News h₀ L h' (ledT L ts tl o1 o2 o3 o4 o5 o6 o') → o'.data = .cell (some v) → Q () { s with heap := h' })
    (hk : scope.kind = .function := by rfl) (hl : (envOfC name scope L a cd).kindOf x = some .cell := by rfl) : wpAny M A (storeName (envOfC name scope L a cd) x v) Q E s := by
  refine stCN (own := [(L + 1, o1), (L + 2, o2), (L + 3, o3), (L + 4, o4), (L + 5, o5), (L + 6, o6)]) (rest := [] ++ (ts ++ tl)) F (by simpa only [ledT, cellsL, List.append_assoc, List.cons_append, List.nil_append, List.append_nil] using N) hc hd (fun p hp => ?_) (fun p hp => ?_) (fun h' o' F' N' hd' => h h' o' F' (by simpa only [ledT, cellsL, List.append_assoc, List.cons_append, List.nil_append, List.append_nil] using N') hd') hk hl
  · simp only [List.mem_cons, List.not_mem_nil, or_false] at hp
    rcases hp with rfl | rfl | rfl | rfl | rfl | rfl <;> (intro (e : @Eq Nat _ _); dsimp only at e; omega)
  · simp only [List.cons_append, List.nil_append, List.mem_cons, List.mem_append] at hp
    rcases hp with hp | hp
    all_goals first | (intro (e : @Eq Nat _ _); dsimp only at e; omega) | (have := Y p hp; intro (e : @Eq Nat _ _); simp only [e] at this; revert this; simp; done) | (have q := lt p hp; intro (e : @Eq Nat _ _); rw [e] at q; exact absurd q (Nat.not_lt.mpr (Nat.le_add_right _ _)))
end
end Mine
end

noncomputable section
open PySem PySem.W PyProof.Rows PySem.Spec
set_option maxRecDepth 100000
set_option maxHeartbeats 4000000
namespace Mine
theorem sub_B : ∀ {w : World} {A : Around} {h : Heap} {gn : Array GenState} {dr : Drawn} {tk : Nat} {os : OsState} {Q E : Value → Shared → Prop} {D ID lam : Addr} {es : Array DictEntry} {ep : Nat} {oI : Obj} {x : Str} {t : Tok} {value slice : Expr}
   (X : (hd.heap_39 w.params).In h) (hD : h.get? D = some (bookO ID lam es ep)) (hI : h.get? ID = some oI)
   (q : wpAny (model PySem.Challenge.rw_il0159_01.prog w) A (getItem (.ref D) (.str x t)) Q E ⟨h, gn, dr, tk, os⟩)
   (hs : subscripted slice false (.ref D) (.str x t) = operate [.ref D, .str x t] (getItem (.ref D) (.str x t)))
   (ht : ∀ r, letTemporaryGo value (.ref D) r = pure ()),
   wpAny (model PySem.Challenge.rw_il0159_01.prog w) A (subscriptTail value slice (.ref D) (.str x t)) Q E ⟨h, gn, dr, tk, os⟩ := by
  k_fill
  intro w A h gn dr tk os Q E D ID lam es ep oI x t value slice X hD hI q hs ht
  have I := bookInst hD hI
  unfold subscriptTail
  have S : Looks (model PySem.Challenge.rw_il0159_01.row.prog w) h (specialOf (.ref D) "__getitem__") (some (.builtin "dict.__getitem__")) := I.type.andThen (looks_findIn X (by k_is))
  refine wpAny_bind ?_
  unfold getitemInPython
  refine wpAny_bind (S.here ?_)
  refine wpAny_pure ?_
  have fin : wpAny (model PySem.Challenge.rw_il0159_01.row.prog w) A (subscripted slice false (.ref D) (.str x t)) (fun r s₃ => wpAny (model PySem.Challenge.rw_il0159_01.row.prog w) A (letTemporaryGo value (.ref D) r >>= fun _ => pure r) Q E s₃) E ⟨h, gn, dr, tk, os⟩ := by
    rw [hs]
    exact wpAny_operating (wpAny_mono q (fun r s₃ h₃ => wpAny_bind (wpAny_of_eq (ht r) (wpAny_pure h₃))) fun _ _ x => x)
  first
    | exact wpAny_pure (wpAny_bind fin)
    | exact wpAny_bind (wpAny_pure (wpAny_bind fin))
    | exact wpAny_bind fin
end Mine
end

noncomputable section
open PySem PySem.W PyProof.Rows PySem.Spec
set_option maxRecDepth 100000
set_option maxHeartbeats 4000000
namespace Mine
/-- what the rows of a plan are like -/
structure PlanOk (codes : List Nat) (rs : List (List Nat × List Nat)) : Prop where
  first : rs[0]? = some ([46], [46, 46])
  code : ∀ j r, 1 ≤ j → rs[j]? = some r → ∃ c, codes[j - 1]? = some c ∧ r.2 = [c]
  once : (rs.map (·.1)).Nodup
  small : rs.length ≤ 10
  codes_len : codes.length = 26
abbrev KvAre (kvs : List (Str × Value)) (rs : List (List Nat × List Nat)) : Prop := All2 (fun kv r => kv.1 = Tx r.1 ∧ IsT kv.2 r.2) kvs rs
structure BSt (prog : Program) (w : World) (codes : List Nat) (rs : List (List Nat × List Nat)) (i : Nat) (es : Array DictEntry) (vs : List Value) : Prop where
  kvs : ∃ kvs, Ents prog w es kvs ∧ KvAre kvs (rs.take (max i 1))
  left : TxsAre vs ((codes.drop (i - 1)).map fun c => [c])
theorem KvAre.keys : ∀ {kvs : List (Str × Value)} {rs : List (List Nat × List Nat)}, KvAre kvs rs → kvs.map (·.1) = rs.map (fun r => Tx r.1)
  | [], [], .nil => rfl
  | kv :: kvs, r :: rs, .cons h t => by rw [List.map_cons, List.map_cons, h.1, KvAre.keys t]
theorem book_get : ∀ {w : World} {env : Env} {h bs : Heap} {gn : Array GenState} {dr : Drawn} {tk : Nat} {os : OsState} {Q E : Value → Shared → Prop} {D ID lam cc LL : Addr} {es : Array DictEntry} {ep i : Nat} {vs : List Value} {t : Tok} {n : Nat} {codes : List Nat} {rs : List (List Nat × List Nat)} {r : List Nat × List Nat}
   {p : Program} {loose : List Str} {mean : ExcName → Option Value} {mg mb : Str → Option Value}
   (X : (hd.heap_39 w.params).In bs) (T : Top p loose mean mg mb bs) (kb : Kp bs h) (nD : bs.get? D = none) (nL : bs.get? LL = none) (hsys : (D == sysModules) = false)
   (hD : h.get? D = some (bookO ID lam es ep)) (hI : h.get? ID = some emptyO) (hlam : LamAt h lam cc LL) (hL : h.get? LL = some (listOf vs.toArray n))
   (O : PlanOk codes rs) (B : BSt PySem.Challenge.rw_il0159_01.prog w codes rs i es vs) (hi : rs[i]? = some r)
   (q : ∀ h' es' ep' vs' n' tk' v, h'.get? D = some (bookO ID lam es' ep') → h'.get? LL = some (listOf vs'.toArray n') → BSt PySem.Challenge.rw_il0159_01.prog w codes rs (i + 1) es' vs' → IsT v r.2 → Kp2 D LL h h' → Q v ⟨h', gn, dr, tk', os⟩),
   wpAny (model PySem.Challenge.rw_il0159_01.prog w) (callerA.deeper env) (getItem (.ref D) (.str (Tx r.1) t)) Q E ⟨h, gn, dr, tk, os⟩ := by
  intro w env h bs gn dr tk os Q E D ID lam cc LL es ep i vs t n codes rs r p loose mean mg mb X T kb nD nL hsys hD hI hlam hL O B hi q
  obtain ⟨⟨kvs, H, hk⟩, hl⟩ := B
  have hlen : i < rs.length := (List.getElem?_eq_some_iff.mp hi).1
  have hsm := O.small
  have hkl : kvs.length ≤ 10 := by have := hk.length; simp at this; omega
  cases i with
  | zero =>
    have hr : r = ([46], [46, 46]) := by rw [O.first] at hi; exact (Option.some.inj hi).symm
    have e1 : rs.take (max 0 1) = [([46], [46, 46])] := by
      cases rs with
      | nil => simp at hlen
      | cons a rs => have := O.first; simp at this; simp [this]
    rw [e1] at hk
    obtain ⟨kv, kvs', rfl, ⟨h1, h2⟩, h3⟩ := hk.uncons
    cases h3
    subst hr
    refine getItem_B (fun b o e => kb b o (X b o e)) hD hI hsys H (fun v tk' hv => ?_) (fun tk' hv => ?_)
    · have ev : valueAt [kv] (Tx [46]) = some kv.2 := by
        obtain ⟨a, b⟩ := kv; dsimp only at h1; subst h1; simp [valueAt]
      rw [ev] at hv; cases hv
      exact q h es ep vs n tk' _ hD hL ⟨⟨_, H, by
        have e2 : rs.take (max (0 + 1) 1) = [([46], [46, 46])] := e1
        rw [e2]; exact .cons ⟨h1, h2⟩ .nil⟩, by simpa using hl⟩ h2 (fun c o _ _ e => e)
    · have ev : valueAt [kv] (Tx [46]) = some kv.2 := by
        obtain ⟨a, b⟩ := kv; dsimp only at h1; subst h1; simp [valueAt]
      rw [ev] at hv; cases hv
  | succ j =>
    obtain ⟨c, hc, h2⟩ := O.code (j + 1) r (by omega) hi
    have hm : max (j + 1) 1 = j + 1 := by omega
    rw [hm] at hk
    rw [Nat.add_sub_cancel] at hl hc
    have hdr : codes.drop j = c :: codes.drop (j + 1) := by
      have hj : j < codes.length := (List.getElem?_eq_some_iff.mp hc).1
      rw [List.drop_eq_getElem_cons hj]; congr 1
      exact (List.getElem?_eq_some_iff.mp hc).2
    rw [hdr, List.map_cons] at hl
    obtain ⟨v0, rest, rfl, hv0, hrest⟩ := hl.uncons
    have hx : valueAt kvs (Tx r.1) = none := by
      refine valueAt_none_of_not_mem (fun hm => ?_)
      rw [KvAre.keys hk] at hm
      obtain ⟨r', hr', e⟩ := List.mem_map.mp hm
      have e' : r'.1 = r.1 := Tx_inj e
      obtain ⟨k, hk1, hk2⟩ := List.mem_iff_getElem?.mp hr' |>.imp fun k z => (⟨z, trivial⟩ : _ ∧ True)
      have hkj : k < j + 1 := by
        have := (List.getElem?_eq_some_iff.mp hk1).1; simp at this; omega
      have hk3 : rs[k]? = some r' := by rw [List.getElem?_take_of_lt hkj] at hk1; exact hk1
      have nd := O.once
      have a1 : (rs.map (·.1))[k]? = some r.1 := by rw [List.getElem?_map, hk3, ← e']; rfl
      have a2 : (rs.map (·.1))[j + 1]? = some r.1 := by rw [List.getElem?_map, hi]; rfl
      have hk4 : k < (rs.map (·.1)).length := by simp; omega
      have b1 := (List.getElem?_eq_some_iff.mp a1)
      have b2 := (List.getElem?_eq_some_iff.mp a2)
      obtain ⟨c1, d1⟩ := b1
      obtain ⟨c2, d2⟩ := b2
      have := (List.pairwise_iff_getElem.mp nd) k (j + 1) c1 c2 hkj
      exact this (d1.trans d2.symm)
    have hrl : rest.length ≤ 1000 := by have := hrest.length; simp at this; have := O.codes_len; omega
    refine miss_U X T kb nD nL hsys hD hI H hlam hL hrl (by omega) hx (fun h' es' ep' tk' hD' H' hL' k' => ?_)
    refine q h' es' ep' rest _ tk' v0 hD' hL' ⟨⟨_, H', ?_⟩, ?_⟩ (by rw [h2]; exact hv0) k'
    · have hm : max (j + 1 + 1) 1 = j + 1 + 1 := by omega
      rw [hm, List.take_add_one, hi]
      exact hk.snoc ⟨rfl, by rw [h2]; exact hv0⟩
    · rw [Nat.add_sub_cancel]; exact hrest
end Mine
end

noncomputable section
open PySem PySem.W PyProof.Rows PySem.Spec PyProof.Rows.LCg
set_option maxRecDepth 100000
set_option maxHeartbeats 4000000
namespace Mine
abbrev bookL (D ID LL lam : Addr) (oI : Obj) (es : Array DictEntry) (ep : Nat) (vs : List Value) (n : Nat) (tr : List (Addr × Obj)) : List (Addr × Obj) := (D, bookO ID lam es ep) :: (ID, oI) :: (LL, listOf vs.toArray n) :: tr
/-- fresh tail entries lie off the book's three objects -/
def Off (D ID LL : Addr) (tr : List (Addr × Obj)) : Prop := ∀ p ∈ tr, p.1 ≠ D ∧ p.1 ≠ ID ∧ p.1 ≠ LL
theorem Off.append {D ID LL : Addr} {a b : List (Addr × Obj)} (x : Off D ID LL a) (y : Off D ID LL b) : Off D ID LL (a ++ b) := fun p hp => (List.mem_append.mp hp).elim (x p) (y p)
abbrev led1 (L : Addr) (o1 o2 o3 o4 o5 o6 o7 : Obj) (tl : List (Addr × Obj)) : List (Addr × Obj) := (L + 1, o1) :: (L + 2, o2) :: (L + 3, o3) :: (L + 4, o4) :: (L + 5, o5) :: (L + 6, o6) :: (L + 7, o7) :: (114, tabObj #[]) :: tl
abbrev led0 (L : Addr) (o1 o2 o3 o4 o5 o6 o7 : Obj) (tl : List (Addr × Obj)) : List (Addr × Obj) := (L + 1, o1) :: (L + 2, o2) :: (L + 3, o3) :: (L + 4, o4) :: (L + 5, o5) :: (L + 6, o6) :: (L + 7, o7) :: tl
theorem get_ne_cls {h : Heap} {a b : Addr} {o o' : Obj} (e : h.get? a = some o) (e' : h.get? b = some o') (ne : o.cls ≠ o'.cls) : a ≠ b := by
  rintro rfl; rw [e] at e'; exact ne (congrArg Obj.cls (Option.some.inj e'))
section
variable {bs h h' : Heap} {L D ID LL lam : Addr} {o1 o2 o3 o4 o5 o6 o7 oI : Obj} {es es2 : Array DictEntry} {ep ep2 n n2 : Nat} {vs vs2 : List Value} {tr pre : List (Addr × Obj)} {m : Str → Option Value}
theorem fr_kp2 (F : Fr bs L h m) (k : Kp2 D LL h h') (h1 : D ≠ L ∧ bs.get? D = none) (h2 : LL ≠ L ∧ bs.get? LL = none) : Fr bs L h' m :=
  ⟨F.ns.at' fun o e => k L o (Ne.symm h1.1) (Ne.symm h2.1) e, fun c o e => k c o (fun z => by rw [z, h1.2] at e; cases e) (fun z => by rw [z, h2.2] at e; cases e) (F.keep c o e), F.above⟩
theorem cells_off {D : Addr} (Y : D ≠ 114 ∧ D ≠ L + 1 ∧ D ≠ L + 2 ∧ D ≠ L + 3 ∧ D ≠ L + 4 ∧ D ≠ L + 5 ∧ D ≠ L + 6 ∧ D ≠ L + 7) : ∀ p ∈ led1 L o1 o2 o3 o4 o5 o6 o7 [], p.1 ≠ D := fun p hp => by
  simp only [led1, List.mem_cons, List.not_mem_nil, or_false] at hp
  obtain ⟨a, c1, c2, c3, c4, c5, c6, c7⟩ := Y
  rcases hp with rfl | rfl | rfl | rfl | rfl | rfl | rfl | rfl
  · exact Ne.symm c1
  · exact Ne.symm c2
  · exact Ne.symm c3
  · exact Ne.symm c4
  · exact Ne.symm c5
  · exact Ne.symm c6
  · exact Ne.symm c7
  · exact Ne.symm a
theorem led1_split {tl : List (Addr × Obj)} {p : Addr × Obj} (h : p ∈ led1 L o1 o2 o3 o4 o5 o6 o7 tl) : p ∈ led1 L o1 o2 o3 o4 o5 o6 o7 [] ∨ p ∈ tl := by
  have : p ∈ led1 L o1 o2 o3 o4 o5 o6 o7 [] ++ tl := h
  exact List.mem_append.mp this
theorem led1_l {tl : List (Addr × Obj)} {p : Addr × Obj} (h : p ∈ led1 L o1 o2 o3 o4 o5 o6 o7 []) : p ∈ led1 L o1 o2 o3 o4 o5 o6 o7 tl := by
  have : p ∈ led1 L o1 o2 o3 o4 o5 o6 o7 [] ++ tl := List.mem_append_left _ h
  exact this
theorem news_book (N : News bs L h (pre ++ led1 L o1 o2 o3 o4 o5 o6 o7 (bookL D ID LL lam oI es ep vs n tr))) (k : Kp2 D LL h h') (hD : h'.get? D = some (bookO ID lam es2 ep2)) (hL : h'.get? LL = some (listOf vs2.toArray n2))
    (hpre : ∀ p ∈ pre, p.1 ≠ D ∧ p.1 ≠ LL) (Y : Far L (bookL D ID LL lam oI es ep vs n tr)) (Z : Off D ID LL tr) (nDI : D ≠ ID) (nIL : ID ≠ LL) :
    News bs L h' (pre ++ led1 L o1 o2 o3 o4 o5 o6 o7 (bookL D ID LL lam oI es2 ep2 vs2 n2 tr)) := fun p hp => by
  have YD := Y _ (.head _)
  have YL := Y _ (.tail _ (.tail _ (.head _)))
  have keep : p ∈ pre ++ led1 L o1 o2 o3 o4 o5 o6 o7 (bookL D ID LL lam oI es ep vs n tr) → p.1 ≠ D → p.1 ≠ LL → h'.get? p.1 = some p.2 ∧ p.1 ≠ L ∧ bs.get? p.1 = none := fun hm n1 n2 => ⟨k _ _ n1 n2 (N p hm).1, (N p hm).2⟩
  have zD := N _ (List.mem_append_right _ (lm1 (.head _)))
  have zL := N _ (List.mem_append_right _ (lm1 (.tail _ (.tail _ (.head _)))))
  rcases List.mem_append.mp hp with hp | hp
  · exact keep (List.mem_append_left _ hp) (hpre p hp).1 (hpre p hp).2
  rcases led1_split hp with hp | hp
  · exact keep (List.mem_append_right _ (led1_l hp)) (cells_off YD p hp) (cells_off YL p hp)
  rcases List.mem_cons.mp hp with rfl | hp
  · exact ⟨hD, zD.2⟩
  rcases List.mem_cons.mp hp with rfl | hp
  · exact keep (List.mem_append_right _ (lm1 (.tail _ (.head _)))) (Ne.symm nDI) nIL
  rcases List.mem_cons.mp hp with rfl | hp
  · exact ⟨hL, zL.2⟩
  · exact keep (List.mem_append_right _ (lm1 (.tail _ (.tail _ (.tail _ hp))))) (Z p hp).1 (Z p hp).2.2
end
end Mine
end

noncomputable section
open PySem PySem.W PyProof.Rows PySem.Spec PyProof.Rows.LCg
set_option maxRecDepth 100000
set_option maxHeartbeats 4000000
namespace Mine
section
variable {L D ID LL lam I C D' l' : Addr} {o o1 o2 o3 o4 o5 o6 o7 oI oI2 : Obj} {es es2 : Array DictEntry} {ep ep2 n n2 : Nat} {vs vs2 : List Value} {tr own tl : List (Addr × Obj)}
theorem far_book (Y : Far L (bookL D ID LL lam oI es ep vs n tr)) (Yo : Far L own) : Far L (bookL D ID LL lam oI2 es2 ep2 vs2 n2 (own ++ tr)) := fun p hp => by
  rcases List.mem_cons.mp hp with rfl | hp
  · exact Y (D, bookO ID lam es ep) (.head _)
  rcases List.mem_cons.mp hp with rfl | hp
  · exact Y (ID, oI) (.tail _ (.head _))
  rcases List.mem_cons.mp hp with rfl | hp
  · exact Y (LL, listOf vs.toArray n) (.tail _ (.tail _ (.head _)))
  rcases List.mem_append.mp hp with hp | hp
  · exact Yo p hp
  · exact Y p (.tail _ (.tail _ (.tail _ hp)))
theorem off3_add (off : Off3 I C D' (led1 L o1 o2 o3 o4 o5 o6 o7 (bookL D ID LL lam oI es ep vs n tl))) (h : (@Ne Nat l' I) ∧ (@Ne Nat l' C) ∧ (@Ne Nat l' D')) : Off3 I C D' (led1 L o1 o2 o3 o4 o5 o6 o7 (bookL D ID LL lam oI2 es2 ep2 vs2 n2 ((l', o) :: tl))) := by
  obtain ⟨a1, a2, a3, a4, a5, a6, a7, a8, a9, a10, a11, a12⟩ := off
  exact ⟨a1, a2, a3, a4, a5, a6, a7, a8, a9, a10, a11, h, a12⟩
theorem ne3 {a b c d : Nat} (h1 : a < d) (h2 : b < d) (h3 : c < d) : d ≠ a ∧ d ≠ b ∧ d ≠ c := ⟨Nat.ne_of_gt h1, Nat.ne_of_gt h2, Nat.ne_of_gt h3⟩
theorem far_gt {a : Addr} (lt : (236 : Nat) < L) (h1 : L + 7 < a) : Far L [(a, o)] := Far.cons (by
  have z : (236 : Nat) < a := Nat.lt_trans (Nat.lt_of_lt_of_le lt (Nat.le_add_right L 7)) h1
  have q : ∀ k : Nat, k ≤ 7 → a ≠ L + k := fun k hk => Nat.ne_of_gt (Nat.lt_of_le_of_lt (Nat.add_le_add_left hk L) h1)
  exact ⟨Nat.ne_of_gt (Nat.lt_trans (by decide) z), q 1 (by decide), q 2 (by decide), q 3 (by decide), q 4 (by decide), q 5 (by decide), q 6 (by decide), q 7 (by decide)⟩) Far.nil
/-- an address off the ledger is far -/
theorem far_off1 {a : Addr} (F : Off1 a (led1 L o1 o2 o3 o4 o5 o6 o7 tl)) : Far L [(a, o)] := by
  obtain ⟨a1, a2, a3, a4, a5, a6, a7, a8, _⟩ := F
  exact Far.cons ⟨Ne.symm a8, Ne.symm a1, Ne.symm a2, Ne.symm a3, Ne.symm a4, Ne.symm a5, Ne.symm a6, Ne.symm a7⟩ Far.nil
theorem off_off1 {a : Addr} (F : Off1 a (led1 L o1 o2 o3 o4 o5 o6 o7 (bookL D ID LL lam oI es ep vs n tl))) : Off D ID LL [(a, o)] := by
  obtain ⟨a1, a2, a3, a4, a5, a6, a7, a8, a9, a10, a11, _⟩ := F
  intro p hp
  rw [List.mem_singleton.mp hp]
  exact ⟨Ne.symm a9, Ne.symm a10, Ne.symm a11⟩
theorem led_add {pre : List (Addr × Obj)} {x p : Addr × Obj} (h : p ∈ pre ++ led1 L o1 o2 o3 o4 o5 o6 o7 (bookL D ID LL lam oI es ep vs n (x :: tl))) : p ∈ x :: (pre ++ led1 L o1 o2 o3 o4 o5 o6 o7 (bookL D ID LL lam oI es ep vs n tl)) := by
  rcases List.mem_append.mp h with h | h
  · exact .tail _ (List.mem_append_left _ h)
  have e : led1 L o1 o2 o3 o4 o5 o6 o7 (bookL D ID LL lam oI es ep vs n (x :: tl)) = led1 L o1 o2 o3 o4 o5 o6 o7 (bookL D ID LL lam oI es ep vs n []) ++ x :: tl := rfl
  have e2 : led1 L o1 o2 o3 o4 o5 o6 o7 (bookL D ID LL lam oI es ep vs n tl) = led1 L o1 o2 o3 o4 o5 o6 o7 (bookL D ID LL lam oI es ep vs n []) ++ tl := rfl
  rw [e] at h
  rw [e2]
  rcases List.mem_append.mp h with h | h
  · exact .tail _ (List.mem_append_right _ (List.mem_append_left _ h))
  rcases List.mem_cons.mp h with h | h
  · rw [h]; exact .head _
  · exact .tail _ (List.mem_append_right _ (List.mem_append_right _ h))
end
end Mine
end

noncomputable section
open PySem PySem.W PyProof.Rows PySem.Spec PyProof.Rows.LCg
set_option maxRecDepth 100000
set_option maxHeartbeats 4000000
namespace Mine
theorem pairs_at {prog : Program} {w : World} : ∀ {es : List DictEntry} {kvs : List (Str × Value)} {rs : List (List Nat × List Nat)}, Pairs (KS prog w) es kvs → KvAre kvs rs → ∀ {i : Nat} {e : DictEntry}, es[i]? = some e → ∃ r t, rs[i]? = some r ∧ e.key = .str (Tx r.1) t ∧ IsT e.val r.2
  | _, _, _, .nil, .nil, i, e, h => by simp at h
  | _, _, _, .cons (kv := kv) h1 h2 h3, .cons (b := r) k1 k2, 0, e, h => by
    simp at h; subst h
    obtain ⟨t, ht⟩ := Value.isStrOf_shape h1
    exact ⟨r, t, rfl, by rw [ht, k1.1], by rw [h2]; exact k1.2⟩
  | _, _, _, .cons h1 h2 h3, .cons k1 k2, i + 1, e, h => by simpa using pairs_at h3 k2 (by simpa using h)
theorem ents_at {prog : Program} {w : World} {es : Array DictEntry} {kvs : List (Str × Value)} {rs : List (List Nat × List Nat)} (H : Ents prog w es kvs) (K : KvAre kvs rs) {i : Nat} {e : DictEntry} (h : es[i]? = some e) : ∃ r t, rs[i]? = some r ∧ e.key = .str (Tx r.1) t ∧ IsT e.val r.2 :=
  pairs_at H.pairs K (by obtain ⟨l⟩ := es; simpa using h)
theorem ents_size {prog : Program} {w : World} {es : Array DictEntry} {kvs : List (Str × Value)} {rs : List (List Nat × List Nat)} (H : Ents prog w es kvs) (K : KvAre kvs rs) : es.size = rs.length := by
  have := H.pairs.length
  rw [K.length] at this
  obtain ⟨l⟩ := es
  simpa using this
theorem miss_at {kvs : List (Str × Value)} {rs : List (List Nat × List Nat)} (K : KvAre kvs rs) {x : List Nat} (h : ∀ r ∈ rs, r.1 ≠ x) : valueAt kvs (Tx x) = none := by
  refine valueAt_none_of_not_mem (fun hm => ?_)
  rw [KvAre.keys K] at hm
  obtain ⟨r, hr, e⟩ := List.mem_map.mp hm
  exact h r hr (Tx_inj e)
theorem fr_but1' {bs h h' : Heap} {L c : Addr} {m : Str → Option Value} (F : Fr bs L h m) (k : ∀ x o, x ≠ c → h.get? x = some o → h'.get? x = some o) (h1 : L ≠ c) (h2 : bs.get? c = none) : Fr bs L h' m :=
  fr_but F (fun b o hb e => k b o (by simpa using hb) e) h1 h2
theorem off1_mem {D : Addr} : ∀ {l : List (Addr × Obj)}, Off1 D l → ∀ p ∈ l, (@Ne Nat p.1 D)
  | [], _, p, hp => nomatch hp
  | _ :: _, x, p, hp => by
    rcases List.mem_cons.mp hp with rfl | hp
    · exact x.1
    · exact off1_mem x.2 p hp
theorem news_upd {bs h h' : Heap} {L c : Addr} {a b : List (Addr × Obj)} {o o' : Obj} (N : News bs L h (a ++ (c, o) :: b)) (k : ∀ x o, x ≠ c → h.get? x = some o → h'.get? x = some o) (off : ∀ p ∈ a ++ b, p.1 ≠ c) (e : h'.get? c = some o') : News bs L h' (a ++ (c, o') :: b) := fun p hp => by
  have zc := N (c, o) (List.mem_append_right _ (.head _))
  rcases List.mem_append.mp hp with hp | hp
  · have z := N p (List.mem_append_left _ hp)
    exact ⟨k _ _ (off p (List.mem_append_left _ hp)) z.1, z.2⟩
  rcases List.mem_cons.mp hp with rfl | hp
  · exact ⟨e, zc.2⟩
  · have z := N p (List.mem_append_right _ (.tail _ hp))
    exact ⟨k _ _ (off p (List.mem_append_right _ hp)) z.1, z.2⟩
section
variable {L D ID LL lam I C D' l' : Addr} {o o1 o2 o3 o4 o5 o6 o7 oI oI2 : Obj} {es es2 : Array DictEntry} {ep ep2 n n2 : Nat} {vs vs2 : List Value} {tr own tl : List (Addr × Obj)}
/-- all but the list of what is left -/
abbrev headL (L D ID lam : Addr) (o1 o2 o3 o4 o5 o6 o7 oI : Obj) (es : Array DictEntry) (ep : Nat) : List (Addr × Obj) := cellsL L o1 o2 o3 o4 o5 o6 o7 ++ [(D, bookO ID lam es ep), (ID, oI)]
theorem off_LL (YL : LL ≠ 114 ∧ LL ≠ L + 1 ∧ LL ≠ L + 2 ∧ LL ≠ L + 3 ∧ LL ≠ L + 4 ∧ LL ≠ L + 5 ∧ LL ≠ L + 6 ∧ LL ≠ L + 7) (Z : Off D ID LL tr) (nDL : D ≠ LL) (nIL : ID ≠ LL) : ∀ p ∈ headL L D ID lam o1 o2 o3 o4 o5 o6 o7 oI es ep ++ tr, p.1 ≠ LL := fun p hp => by
  rcases List.mem_append.mp hp with hp | hp
  · rcases List.mem_append.mp hp with hp | hp
    · exact cells_off YL p (by
        have : p ∈ cellsL L o1 o2 o3 o4 o5 o6 o7 ++ [(114, tabObj #[])] := List.mem_append_left _ hp
        exact this)
    · simp only [List.mem_cons, List.not_mem_nil, or_false] at hp
      rcases hp with rfl | rfl
      · exact nDL
      · exact nIL
  · exact (Z p hp).2.2
theorem led0_far {tl : List (Addr × Obj)} {a : Addr} (F : Off1 a (led0 L o1 o2 o3 o4 o5 o6 o7 tl)) (h : a ≠ 114) : Far L [(a, o)] := by
  obtain ⟨a1, a2, a3, a4, a5, a6, a7, _⟩ := F
  exact Far.cons ⟨h, Ne.symm a1, Ne.symm a2, Ne.symm a3, Ne.symm a4, Ne.symm a5, Ne.symm a6, Ne.symm a7⟩ Far.nil
end
end Mine
end

noncomputable section
open PySem PySem.W PyProof.Rows PySem.Spec PyProof.Rows.LCg
set_option maxRecDepth 100000
set_option maxHeartbeats 4000000
namespace Mine
/-- one more object amid a ledger -/
theorem mid_add {a b c : List (Addr × Obj)} {x p : Addr × Obj} (h : p ∈ a ++ (b ++ x :: c)) : p ∈ x :: (a ++ (b ++ c)) := by
  simp only [List.mem_append, List.mem_cons] at h ⊢
  rcases h with h | h | h | h
  · exact .inr (.inl h)
  · exact .inr (.inr (.inl h))
  · exact .inl h
  · exact .inr (.inr (.inr h))
theorem off3_mid {I C D l : Addr} {o : Obj} {b c : List (Addr × Obj)} (off : Off3 I C D (b ++ c)) (h : (@Ne Nat l I) ∧ (@Ne Nat l C) ∧ (@Ne Nat l D)) : Off3 I C D (b ++ (l, o) :: c) := Off3.of fun p hp => by
  have m := off.mem
  rcases List.mem_append.mp hp with hp | hp
  · exact m p (List.mem_append_left _ hp)
  rcases List.mem_cons.mp hp with rfl | hp
  · exact h
  · exact m p (List.mem_append_right _ hp)
/-- an address off the cells, above the two tables -/
theorem far_cells {L : Addr} {o1 o2 o3 o4 o5 o6 o7 o : Obj} {a : Addr} {tl : List (Addr × Obj)} (F : Off1 a (led0 L o1 o2 o3 o4 o5 o6 o7 tl)) : a ≠ L + 1 ∧ a ≠ L + 2 ∧ a ≠ L + 3 ∧ a ≠ L + 4 ∧ a ≠ L + 5 ∧ a ≠ L + 6 ∧ a ≠ L + 7 := by
  obtain ⟨a1, a2, a3, a4, a5, a6, a7, _⟩ := F
  exact ⟨Ne.symm a1, Ne.symm a2, Ne.symm a3, Ne.symm a4, Ne.symm a5, Ne.symm a6, Ne.symm a7⟩
/-- off the frame's cells -/
def FarC (L : Addr) (tl : List (Addr × Obj)) : Prop := ∀ p ∈ tl, p.1 ≠ L + 1 ∧ p.1 ≠ L + 2 ∧ p.1 ≠ L + 3 ∧ p.1 ≠ L + 4 ∧ p.1 ≠ L + 5 ∧ p.1 ≠ L + 6 ∧ p.1 ≠ L + 7
theorem FarC.cons {L a : Addr} {o : Obj} {tl : List (Addr × Obj)} (h : a ≠ L + 1 ∧ a ≠ L + 2 ∧ a ≠ L + 3 ∧ a ≠ L + 4 ∧ a ≠ L + 5 ∧ a ≠ L + 6 ∧ a ≠ L + 7) (Y : FarC L tl) : FarC L ((a, o) :: tl) := fun p hp => by
  rcases List.mem_cons.mp hp with rfl | hp
  · exact h
  · exact Y p hp
theorem FarC.append {L : Addr} {a b : List (Addr × Obj)} (x : FarC L a) (y : FarC L b) : FarC L (a ++ b) := fun p hp => (List.mem_append.mp hp).elim (x p) (y p)
theorem FarC.sub {L : Addr} {a b : List (Addr × Obj)} (y : FarC L b) (s : ∀ p ∈ a, p ∈ b) : FarC L a := fun p hp => y p (s p hp)
theorem Far.c {L : Addr} {tl : List (Addr × Obj)} (Y : Far L tl) : FarC L tl := fun p hp => (Y p hp).2
theorem farC_gt {L a : Addr} (h1 : L + 7 < a) : a ≠ L + 1 ∧ a ≠ L + 2 ∧ a ≠ L + 3 ∧ a ≠ L + 4 ∧ a ≠ L + 5 ∧ a ≠ L + 6 ∧ a ≠ L + 7 := by
  have q : ∀ k : Nat, k ≤ 7 → a ≠ L + k := fun k hk => Nat.ne_of_gt (Nat.lt_of_le_of_lt (Nat.add_le_add_left hk L) h1)
  exact ⟨q 1 (by decide), q 2 (by decide), q 3 (by decide), q 4 (by decide), q 5 (by decide), q 6 (by decide), q 7 (by decide)⟩
section
variable {M : Model} {A : Around} {E : Value → Shared → Prop} {s : Shared} {name : Str} {scope : Scope} {L a : Addr} {cd : Value} {h₀ : Heap} {m : Str → Option Value} {tl : List (Addr × Obj)} {o1 o2 o3 o4 o5 o6 o7 : Obj} {x : Str} {v₀ : Option Value} {v : Value} {Q : Unit → Shared → Prop}
theorem ne_cell {j k : Nat} (h : j ≠ k) : L + j ≠ L + k := fun e => h (Nat.add_left_cancel e)
theorem cs4 (F : Fr h₀ L s.heap m) (N : News h₀ L s.heap (led0 L o1 o2 o3 o4 o5 o6 o7 tl)) (Y : FarC L tl) (hd : o4.data = .cell v₀) (hc : (cellsFrom (L + 1) scope.names []).lookup x = some (L + 4))
    (h : ∀ h' o', Fr h₀ L h' m → News h₀ L h' (led0 L o1 o2 o3 o' o5 o6 o7 tl) → o'.data = .cell (some v) → Q () { s with heap := h' })
    (hk : scope.kind = .function := by rfl) (hl : (envOfC name scope L a cd).kindOf x = some .cell := by rfl) : wpAny M A (storeName (envOfC name scope L a cd) x v) Q E s := by
  refine stCN (own := [(L + 1, o1), (L + 2, o2), (L + 3, o3)]) (rest := [(L + 5, o5), (L + 6, o6), (L + 7, o7)] ++ tl) F N hc hd (fun p hp => ?_) (fun p hp => ?_) (fun h' o' F' N' hd' => h h' o' F' N' hd') hk hl
  · simp only [List.mem_cons, List.not_mem_nil, or_false] at hp
    rcases hp with rfl | rfl | rfl <;> exact ne_cell (by decide)
  · simp only [List.cons_append, List.nil_append, List.mem_cons] at hp
    rcases hp with rfl | rfl | rfl | hp
    · exact ne_cell (by decide)
    · exact ne_cell (by decide)
    · exact ne_cell (by decide)
    · exact (Y p hp).2.2.2.1
theorem cs5 (F : Fr h₀ L s.heap m) (N : News h₀ L s.heap (led0 L o1 o2 o3 o4 o5 o6 o7 tl)) (Y : FarC L tl) (hd : o5.data = .cell v₀) (hc : (cellsFrom (L + 1) scope.names []).lookup x = some (L + 5))
    (h : ∀ h' o', Fr h₀ L h' m → News h₀ L h' (led0 L o1 o2 o3 o4 o' o6 o7 tl) → o'.data = .cell (some v) → Q () { s with heap := h' })
    (hk : scope.kind = .function := by rfl) (hl : (envOfC name scope L a cd).kindOf x = some .cell := by rfl) : wpAny M A (storeName (envOfC name scope L a cd) x v) Q E s := by
  refine stCN (own := [(L + 1, o1), (L + 2, o2), (L + 3, o3), (L + 4, o4)]) (rest := [(L + 6, o6), (L + 7, o7)] ++ tl) F N hc hd (fun p hp => ?_) (fun p hp => ?_) (fun h' o' F' N' hd' => h h' o' F' N' hd') hk hl
  · simp only [List.mem_cons, List.not_mem_nil, or_false] at hp
    rcases hp with rfl | rfl | rfl | rfl <;> exact ne_cell (by decide)
  · simp only [List.cons_append, List.nil_append, List.mem_cons] at hp
    rcases hp with rfl | rfl | hp
    · exact ne_cell (by decide)
    · exact ne_cell (by decide)
    · exact (Y p hp).2.2.2.2.1
theorem cs6 (F : Fr h₀ L s.heap m) (N : News h₀ L s.heap (led0 L o1 o2 o3 o4 o5 o6 o7 tl)) (Y : FarC L tl) (hd : o6.data = .cell v₀) (hc : (cellsFrom (L + 1) scope.names []).lookup x = some (L + 6))
    (h : ∀ h' o', Fr h₀ L h' m → News h₀ L h' (led0 L o1 o2 o3 o4 o5 o' o7 tl) → o'.data = .cell (some v) → Q () { s with heap := h' })
    (hk : scope.kind = .function := by rfl) (hl : (envOfC name scope L a cd).kindOf x = some .cell := by rfl) : wpAny M A (storeName (envOfC name scope L a cd) x v) Q E s := by
  refine stCN (own := [(L + 1, o1), (L + 2, o2), (L + 3, o3), (L + 4, o4), (L + 5, o5)]) (rest := [(L + 7, o7)] ++ tl) F N hc hd (fun p hp => ?_) (fun p hp => ?_) (fun h' o' F' N' hd' => h h' o' F' N' hd') hk hl
  · simp only [List.mem_cons, List.not_mem_nil, or_false] at hp
    rcases hp with rfl | rfl | rfl | rfl | rfl <;> exact ne_cell (by decide)
  · simp only [List.cons_append, List.nil_append, List.mem_cons] at hp
    rcases hp with rfl | hp
    · exact ne_cell (by decide)
    · exact (Y p hp).2.2.2.2.2.1
theorem cs7 (F : Fr h₀ L s.heap m) (N : News h₀ L s.heap (led0 L o1 o2 o3 o4 o5 o6 o7 tl)) (Y : FarC L tl) (hd : o7.data = .cell v₀) (hc : (cellsFrom (L + 1) scope.names []).lookup x = some (L + 7))
    (h : ∀ h' o', Fr h₀ L h' m → News h₀ L h' (led0 L o1 o2 o3 o4 o5 o6 o' tl) → o'.data = .cell (some v) → Q () { s with heap := h' })
    (hk : scope.kind = .function := by rfl) (hl : (envOfC name scope L a cd).kindOf x = some .cell := by rfl) : wpAny M A (storeName (envOfC name scope L a cd) x v) Q E s := by
  refine stCN (own := [(L + 1, o1), (L + 2, o2), (L + 3, o3), (L + 4, o4), (L + 5, o5), (L + 6, o6)]) (rest := tl) F N hc hd (fun p hp => ?_) (fun p hp => ?_) (fun h' o' F' N' hd' => h h' o' F' N' hd') hk hl
  · simp only [List.mem_cons, List.not_mem_nil, or_false] at hp
    rcases hp with rfl | rfl | rfl | rfl | rfl | rfl <;> exact ne_cell (by decide)
  · exact (Y p hp).2.2.2.2.2.2
end
end Mine
end

noncomputable section
open PySem PySem.W PyProof.Rows PySem.Spec
set_option maxRecDepth 100000
set_option maxHeartbeats 4000000
namespace Mine
structure DOk (k : Nat) (d : PyData) : Prop where
  lay : d.canLay0 = true
  dep : d.depth ≤ k
  same : PyData.eqv d d = true
theorem DOk.up {k j : Nat} {d : PyData} (h : DOk k d) (l : k ≤ j) : DOk j d := ⟨h.lay, Nat.le_trans h.dep l, h.same⟩
theorem DOk.str {x : List Nat} (h : ∀ c ∈ x, c < 1114112) : DOk 0 (.str (Tx x)) := by
  refine ⟨?_, by simp [PyData.depth], by simp [PyData.eqv]⟩
  simp only [PyData.canLay0, PyData.strOk, Tx, List.all_toArray, List.all_eq_true, decide_eq_true_eq]
  exact h
theorem dok_all {k : Nat} : ∀ {ds : List PyData}, (∀ d ∈ ds, DOk k d) → PyData.canLayAll0 ds = true ∧ PyData.depthAll ds ≤ k ∧ PyData.eqvAll ds ds = true
  | [], _ => by simp [PyData.canLayAll0, PyData.depthAll, PyData.eqvAll]
  | d :: ds, h => by
    have a := h d (.head _)
    obtain ⟨b1, b2, b3⟩ := dok_all fun e he => h e (.tail _ he)
    simp only [PyData.canLayAll0, PyData.depthAll, PyData.eqvAll, a.lay, b1, a.same, b3, Bool.and_self, true_and]
    exact ⟨Nat.max_le.mpr ⟨a.dep, b2⟩, trivial⟩
theorem DOk.list {k : Nat} {ds : List PyData} (h : ∀ d ∈ ds, DOk k d) : DOk (k + 1) (.list ds) := by
  obtain ⟨a, b, c⟩ := dok_all h
  exact ⟨by simpa [PyData.canLay0] using a, by simp [PyData.depth]; exact b, by simpa [PyData.eqv] using c⟩
theorem DOk.tuple {k : Nat} {ds : List PyData} (h : ∀ d ∈ ds, DOk k d) : DOk (k + 1) (.tuple ds) := by
  obtain ⟨a, b, c⟩ := dok_all h
  exact ⟨by simpa [PyData.canLay0] using a, by simp [PyData.depth]; exact b, by simpa [PyData.eqv] using c⟩
abbrev dT (x : List Nat) : PyData := .str (Tx x)
abbrev dR (r : List Nat × List Nat) : PyData := .list [dT r.1, dT r.2]
abbrev dTs (xs : List (List Nat)) : PyData := .list (xs.map dT)
abbrev dRs (rs : List (List Nat × List Nat)) : PyData := .list (rs.map dR)
abbrev Sm (x : List Nat) : Prop := ∀ c ∈ x, c < 1114112
theorem dok_Ts {xs : List (List Nat)} (h : ∀ x ∈ xs, Sm x) : DOk 1 (dTs xs) := DOk.list fun d hd => by
  obtain ⟨x, hx, rfl⟩ := List.mem_map.mp hd
  exact DOk.str (h x hx)
theorem dok_R {r : List Nat × List Nat} (h : Sm r.1 ∧ Sm r.2) : DOk 1 (dR r) := DOk.list fun d hd => by
  simp only [List.mem_cons, List.not_mem_nil, or_false] at hd
  rcases hd with rfl | rfl
  · exact DOk.str h.1
  · exact DOk.str h.2
theorem dok_Rs {rs : List (List Nat × List Nat)} (h : ∀ r ∈ rs, Sm r.1 ∧ Sm r.2) : DOk 2 (dRs rs) := DOk.list fun d hd => by
  obtain ⟨r, hr, rfl⟩ := List.mem_map.mp hd
  exact dok_R (h r hr)
abbrev Rd (h : Heap) (v : Value) (d : PyData) : Prop := ∃ as, Reads h v d as
abbrev RdAll (h : Heap) (vs : List Value) (ds : List PyData) : Prop := ∃ as, ReadsAll h vs ds as
theorem rd_cons {h : Heap} {v : Value} {d : PyData} {vs : List Value} {ds : List PyData} : Rd h v d → RdAll h vs ds → RdAll h (v :: vs) (d :: ds)
  | ⟨_, a⟩, ⟨_, b⟩ => ⟨_, ReadsAll.cons a b⟩
theorem rd_nil {h : Heap} : RdAll h [] [] := ⟨_, ReadsAll.nil⟩
theorem rd_T {h : Heap} {v : Value} {x : List Nat} : IsT v x → Rd h v (dT x)
  | ⟨t, e⟩ => ⟨_, e ▸ Reads.str _ t⟩
theorem rd_list {h : Heap} {a : Addr} {vs : List Value} {n : Nat} {ds : List PyData} (e : h.get? a = some (listOf vs.toArray n)) : RdAll h vs ds → Rd h (.ref a) (.list ds)
  | ⟨_, r⟩ => ⟨_, reads_list_at e rfl rfl (by simpa using r)⟩
theorem rd_tuple {h : Heap} {a : Addr} {vs : List Value} {ds : List PyData} (e : h.get? a = some (tupO vs)) : RdAll h vs ds → Rd h (.ref a) (.tuple ds)
  | ⟨_, r⟩ => ⟨_, reads_tuple_at e rfl rfl (by simpa using r)⟩
theorem rd_Ts {h : Heap} : ∀ {vs : List Value} {xs : List (List Nat)}, TxsAre vs xs → RdAll h vs (xs.map dT)
  | _, _, .nil => rd_nil
  | _, _, .cons p q => rd_cons (rd_T p) (rd_Ts q)
theorem rd_Rs {h : Heap} : ∀ {vs : List Value} {rs : List (List Nat × List Nat)}, RowsAre (HK h) vs rs → RdAll h vs (rs.map dR)
  | _, _, .nil => rd_nil
  | _, _, .cons ⟨a, n, t, u, e, k⟩ q => rd_cons (e ▸ rd_list (vs := [_, _]) k (rd_cons (rd_T ⟨t, rfl⟩) (rd_cons (rd_T ⟨u, rfl⟩) rd_nil))) (rd_Rs q)
theorem rows_hk {h₀ h : Heap} {L : Addr} {news tl : List (Addr × Obj)} {vs rs} (N : News h₀ L h news) (H : RowsAre (LK tl) vs rs) (s : ∀ p ∈ tl, p ∈ news) : RowsAre (HK h) vs rs := RowsAre.mono (fun a o hm => (N (a, o) (s _ hm)).1) H
section
variable {prog : Program} {w : World} {A : Around} {E : Value → Shared → Prop} {s : Shared} {a b : Value} {d : PyData} {Q : Value → Shared → Prop}
theorem ne_same (ra : Rd s.heap a d) (rb : Rd s.heap b d) (o : DOk 9 d) (hu : A.units + 64 < cLine) (h : Q (.bool false) s) : wpAny (model prog w) A (compareOp .NotEq a b) Q E s := by
  obtain ⟨_, ra⟩ := ra
  obtain ⟨_, rb⟩ := rb
  have hs : SeqAt.shaped d = true := by
    unfold SeqAt.shaped; rw [o.lay, Bool.true_and]; exact decide_eq_true (Nat.le_trans o.dep (by decide))
  refine ne_dataH ra rb hs hs hu ?_
  rw [o.same]; exact h
theorem eq_same (ra : Rd s.heap a d) (rb : Rd s.heap b d) (o : DOk 9 d) (hu : A.units + 64 < cLine) (h : Q (.bool true) s) : wpAny (model prog w) A (compareOp .Eq a b) Q E s := by
  obtain ⟨_, ra⟩ := ra
  obtain ⟨_, rb⟩ := rb
  have hs : SeqAt.shaped d = true := by
    unfold SeqAt.shaped; rw [o.lay, Bool.true_and]; exact decide_eq_true (Nat.le_trans o.dep (by decide))
  refine eq_dataH ra rb hs hs hu ?_
  rw [o.same]; exact h
end
end Mine
end

noncomputable section
open PySem PySem.W PyProof.Rows PySem.Spec PyProof.Rows.LCg
set_option maxRecDepth 100000
set_option maxHeartbeats 4000000
namespace Mine
/-- what iterates like a row of two texts -/
def RowIt (prog : Program) (w : World) (h : Heap) (v : Value) (r : List Nat × List Nat) : Prop :=
  ∃ ax o, h.get? ax = some o ∧ ∀ (h' : Heap) (gn : Array GenState) (dr : Drawn) (tk : Nat) (os : OsState) (A : Around) (Q : Value → Shared → Prop) (E : Value → Shared → Prop), A.handled = none → Kp h h' →
    (∀ it h'' tk', Kp h' h'' → h'.get? it = none → (∃ St : Nat → Heap → Prop, St 0 h'' ∧ (∀ i h, St i h → ∃ o, h.get? it = some o) ∧ ∀ A' : Around, A'.handled = none → Walks prog w A' it [it, ax] [it] 2 (fun i v => IsT v (if i = 0 then r.1 else r.2)) St) → Q (.ref it) ⟨h'', gn, dr, tk', os⟩) →
    wpAny (model prog w) A (pyIter v) Q E ⟨h', gn, dr, tk, os⟩
theorem RowIt.kp {prog : Program} {w : World} {h h' : Heap} {v : Value} {r} (H : RowIt prog w h v r) (k : Kp h h') : RowIt prog w h' v r := by
  obtain ⟨ax, o, e, f⟩ := H
  exact ⟨ax, o, k _ _ e, fun h'' gn dr tk os A Q E hh k2 q => f h'' gn dr tk os A Q E hh (fun b o e => k2 b o (k b o e)) q⟩
theorem two_at {a b v : Value} {i : Nat} (h : (#[a, b] : Array Value)[i]? = some v) : (i = 0 ∧ v = a) ∨ (i ≠ 0 ∧ v = b) := by
  rcases i with _ | _ | i
  · simp at h; exact .inl ⟨rfl, h.symm⟩
  · simp at h; exact .inr ⟨by omega, h.symm⟩
  · simp at h
theorem walks_mono {prog : Program} {w : World} {A : Around} {I : Addr} {fp wr : List Addr} {n : Nat} {P P' : Nat → Value → Prop} {St : Nat → Heap → Prop} (W : Walks prog w A I fp wr n P St) (k : ∀ i v, P i v → P' i v) : Walks prog w A I fp wr n P' St where
  sub := W.sub
  frame := W.frame
  done := W.done
  self := W.self
  item := fun i s Q E hi st hQ => W.item i s Q E hi st fun v h' tk hP => hQ v h' tk (k _ _ hP)
theorem two_is {x y : List Nat} {t u : Tok} (i : Nat) (v : Value) (h : (#[.str (Tx x) t, .str (Tx y) u] : Array Value)[i]? = some v) : IsT v (if i = 0 then x else y) := by
  rcases two_at h with ⟨a, b⟩ | ⟨a, b⟩
  · rw [if_pos a]; exact ⟨t, b⟩
  · rw [if_neg a]; exact ⟨u, b⟩
theorem none_size {h : Heap} : h.get? h.objs.size = none := by
  cases z : h.get? h.objs.size with
  | none => rfl
  | some o => exact absurd (Heap.lt_size z) (Nat.lt_irrefl _)
theorem rowIt_list {prog : Program} {w : World} {h : Heap} {v : Value} {r} (H : RowAt (HK h) v r) : RowIt prog w h v r := by
  obtain ⟨a, n, t, u, rfl, e⟩ := H
  refine ⟨a, _, e, fun h' gn dr tk os A Q E hh k q => ?_⟩
  have e' := k _ _ e
  have hl : h'.IsList a #[.str (Tx r.1) t, .str (Tx r.2) u] := ⟨_, e', rfl, n, rfl⟩
  refine wpAny_pyIter_list (s := ⟨h', gn, dr, tk, os⟩) hl ?_
  have hlt : a < h'.objs.size := Heap.lt_size e'
  refine q h'.objs.size _ _ (fun b o e => Heap.get?_push_of_some _ e) none_size ?_
  refine ⟨fun i h => h.IsListIter h'.objs.size a i ∧ h.IsList a #[.str (Tx r.1) t, .str (Tx r.2) u], ?_, ?_, ?_⟩
  · exact ⟨⟨_, Heap.get?_push_size _ rfl, rfl, rfl⟩, hl.push _⟩
  · intro i h st
    obtain ⟨o, e, _⟩ := st.1
    exact ⟨o, e⟩
  · intro A' hA
    exact walks_mono (Walks.list (prog := prog) (w := w) (A := A') hA h'.objs.size a (Nat.ne_of_lt hlt) #[.str (Tx r.1) t, .str (Tx r.2) u]) (fun i v => two_is i v)
section
variable {prog : Program} {w : World} {A : Around} {R : Result → Shared → Prop} {s : Shared} {env : Env} {x0 x1 : Str} {p0 p1 pe pi0 pi1 : Pos} {i0 : PySem.Expr} {scope : Scope} {pos : Pos} {D : Addr}
abbrev flatE (x0 x1 : Str) (p0 p1 pe pi1 : Pos) (i0 : PySem.Expr) (scope : Scope) (pos : Pos) : PySem.Expr := .ListComp (.Name x1 pe) [⟨.Name x0 p0, i0, [], 0⟩, ⟨.Name x1 p1, .Name x0 pi1, [], 0⟩] scope pos
theorem turn1_eq (it acc : Value) : compTurn (flatE x0 x1 p0 p1 pe pi1 i0 scope pos) 1 it acc env = (standAt pi1 >>= fun _ => pyNext it >>= fun r => match r with
      | none => pure (.done .next)
      | some v => letOwnedTupleGo (.Name x1 p1) it v >>= fun _ => assign (.Name x1 p1) env v >>= fun _ =>
        (eval (.Name x1 pe) env >>= fun x => call (.builtin "list.append") [acc, x] >>= fun _ => pure ()) >>= fun _ =>
          again (.compLoop (flatE x0 x1 p0 p1 pe pi1 i0 scope pos) 1 it acc env)) := by rfl
theorem turn0_eq (it acc : Value) : compTurn (flatE x0 x1 p0 p1 pe pi1 i0 scope pos) 0 it acc env = (standAt i0.pos >>= fun _ => pyNext it >>= fun r => match r with
      | none => pure (.done .next)
      | some v => letOwnedTupleGo (.Name x0 p0) it v >>= fun _ => assign (.Name x0 p0) env v >>= fun _ =>
        (eval (.Name x0 pi1) env >>= fun x => standAt pi1 >>= fun _ => foldedSetIterable (.Name x0 pi1) env x >>= fun x => holding [x] (pyIter x) >>= fun it1 => runOwn (.compStart (flatE x0 x1 p0 p1 pe pi1 i0 scope pos) 1 it1 acc env) env >>= fun _ =>
          again (.compLoop (flatE x0 x1 p0 p1 pe pi1 i0 scope pos) 0 it acc env))) := by rfl
end
end Mine
end

noncomputable section
open PySem PySem.W PyProof.Rows PySem.Spec PyProof.Rows.LCg
set_option maxRecDepth 100000
set_option maxHeartbeats 4000000
namespace Mine
section
variable {prog : Program} {w : World} {A : Around} {R : Result → Shared → Prop} {env : Env} {x0 x1 : Str} {p0 p1 pe pi0 pi1 : Pos} {i0 : PySem.Expr} {scope : Scope} {pos : Pos} {D : Addr}
theorem flat_start1 {s : Shared} {it acc : Value}
    (h0 : codeAny (model prog w) A (.compLoop (flatE x0 x1 p0 p1 pe pi1 i0 scope pos) 1 it acc env) R s)
    (h : wpAny (model prog w) A (pyIter it) (fun it' s' => codeAny (model prog w) A (.compLoop (flatE x0 x1 p0 p1 pe pi1 i0 scope pos) 1 it' acc env) R s')
      (notedBy (model prog w) A env fun x s' => R (.error x) s') s) :
    codeAny (model prog w) A (.compStart (flatE x0 x1 p0 p1 pe pi1 i0 scope pos) 1 it acc env) R s := by
  refine codeAny_of_tree ?_
  show wpAny _ _ ((compStart (flatE x0 x1 p0 p1 pe pi1 i0 scope pos) 1 it acc env).onRaise (fun x => do noteFrame x env; standAt theWindowsPlace)) _ _ s
  refine wpAny_notedAt ?_
  unfold compStart
  show wpAny _ _ (ask >>= _) _ _ s
  refine wpAny_bind (wpAny_askSetting (wpAny_ite ?_))
  split
  · first
      | exact wpAny_bind (wpAny_pure (wpAny_pure (And.intro rfl h0)))
      | exact wpAny_pure (And.intro rfl h0)
  · first
      | exact wpAny_bind (wpAny_rule (wpAny_bind (wpAny_standAt (wpAny_bind (wpAny_mono h (fun it' s' h' => wpAny_pure (And.intro rfl h')) fun _ _ x => x)))))
      | (refine wpAny_bind (wpAny_rule ?_); show wpAny _ _ (standAt pi1 >>= _) _ _ s; exact wpAny_bind (wpAny_standAt (wpAny_bind (wpAny_mono h (fun it' s' h' => wpAny_pure (And.intro rfl h')) fun _ _ x => x))))
      | (refine wpAny_bind (wpAny_rule ?_); show wpAny _ _ (standAt _ >>= _) _ _ s; exact wpAny_bind (wpAny_standAt (wpAny_bind (wpAny_mono h (fun it' s' h' => wpAny_pure (And.intro rfl h')) fun _ _ x => x))))
theorem flat_inner {gn : Array GenState} {dr : Drawn} {tk : Nat} {os : OsState} {h : Heap} {it ax : Addr} {x y : List Nat} {St : Nat → Heap → Prop} {ys : List Value} {m : Str → Option Value}
    (W : Walks prog w A it [it, ax] [it] 2 (fun i v => IsT v (if i = 0 then x else y)) St)
    (hk : env.kindOf x1 = some .local) (hkind : env.scope.kind = .function) (hdb : (x1 == ("__debug__" : Str)) = false) (hp : (env.scope.kind == .class || (env.scope.kind == .module && env.locals != env.globals)) = false)
    (st : St 0 h) (hD : h.get? D = some (lst ys)) (hC : h.Ns env.locals m) (n1 : it ≠ D) (n2 : it ≠ env.locals) (n3 : D ≠ env.locals) (n4 : ax ≠ D) (n5 : ax ≠ env.locals) (hz : ys.length ≤ 1000)
    (q : ∀ h' tk' v1 v2 m', IsT v1 x → IsT v2 y → h'.get? D = some (lst (ys ++ [v1, v2])) → h'.Ns env.locals m' → (∀ b o, b ≠ it → b ≠ D → b ≠ env.locals → h.get? b = some o → h'.get? b = some o) → R (.ok .next) ⟨h', gn, dr, tk', os⟩) :
    codeAny (model prog w) A (.compLoop (flatE x0 x1 p0 p1 pe pi1 i0 scope pos) 1 (.ref it) (.ref D) env) R ⟨h, gn, dr, tk, os⟩ := by
  refine codeAny_loop rfl (fun k s' => ∃ h' tk' i vs m', s' = ⟨h', gn, dr, tk', os⟩ ∧ i ≤ 2 ∧ k = 3 - i ∧ St i h' ∧ TxsAre vs ([x, y].take i) ∧ h'.get? D = some (lst (ys ++ vs)) ∧ h'.Ns env.locals m' ∧ (∀ b o, b ≠ it → b ≠ D → b ≠ env.locals → h.get? b = some o → h'.get? b = some o)) (fun k s' hI => ?_) 3 ⟨h, tk, 0, [], m, rfl, by omega, rfl, st, .nil, by simpa using hD, hC, fun _ _ _ _ _ e => e⟩
  obtain ⟨h', tk', i, vs, m', rfl, hi, rfl, st', hv, hD', hC', kp⟩ := hI
  show wpAny _ _ ((compTurn (flatE x0 x1 p0 p1 pe pi1 i0 scope pos) 1 (.ref it) (.ref D) env).onRaise (fun x => do noteFrame x env; theTreesLotGoes x)) _ _ _
  refine wpAny_noted ?_
  rw [turn1_eq]
  refine wpAny_bind (wpAny_standAt (wpAny_bind ?_))
  by_cases hlt : i < 2
  · refine W.item i _ _ _ hlt st' (fun v h2 tk2 hP st2 k2 => ?_)
    have hD2 : h2.get? D = some (lst (ys ++ vs)) := k2 _ _ (by simpa using Ne.symm n1) hD'
    have hC2 : h2.Ns env.locals m' := hC'.at' fun o e => k2 _ _ (by simpa using Ne.symm n2) e
    refine wpAny_bind (wpAny_of_eq (show letOwnedTupleGo (.Name x1 p1) (.ref it) v = pure () from rfl) (wpAny_bind (wpAny_assign_Name (wpAny_storeName_local hk hC2 (fun h3 hn3 hs3 => ?_) hp))))
    refine wpAny_bind (wpAny_bind (wpAny_Name (wpAny_loadName_local hkind hk hn3 (if_pos rfl) ?_) hdb))
    have hD3 : h3.get? D = some (lst (ys ++ vs)) := hs3.extBut _ _ n3 hD2
    have hvl : vs.length = i := by have := hv.length; simp at this; omega
    refine wpAny_bind (append_at (hsz := by show (ys ++ vs).toArray.size ≤ sizeLine; rw [List.size_toArray, List.length_append, sizeLine_eq]; omega) hD3 (fun h4 hs4 hD4 => ?_))
    refine wpAny_pure (wpAny_pure ⟨rfl, 3 - (i + 1), by omega, h4, _, i + 1, vs ++ [v], _, rfl, by omega, rfl, ?_, ?_, ?_, hn3.sameBut hs4 (Ne.symm n3), ?_⟩)
    · refine W.frame _ _ _ st2 (fun b hb o e => ?_)
      simp only [List.mem_cons, List.not_mem_nil, or_false] at hb
      rcases hb with rfl | rfl
      · exact hs4.extBut _ _ n1 (hs3.extBut _ _ n2 e)
      · exact hs4.extBut _ _ n4 (hs3.extBut _ _ n5 e)
    · match i, hlt with
      | 0, _ =>
        cases hv
        exact .cons hP .nil
      | 1, _ => exact hv.snoc hP
    · rw [hD4, ← List.append_assoc]
      exact congrArg some (lst_snoc (ys ++ vs) v)
    · exact fun b o h1 h2' h3' e => hs4.extBut _ _ h2' (hs3.extBut _ _ h3' (k2 _ _ (by simpa using h1) (kp b o h1 h2' h3' e)))
  · have h2 : i = 2 := by omega
    subst h2
    refine W.done _ _ _ st' (fun h2 tk2 k2 => ?_)
    obtain ⟨v1, l1, rfl, e1, hv⟩ := hv.uncons
    obtain ⟨v2, l2, rfl, e2, hv⟩ := hv.uncons
    cases hv
    refine wpAny_pure ?_
    exact q h2 _ v1 v2 m' e1 e2 (k2 _ _ (by simpa using Ne.symm n1) hD') (hC'.at' fun o e => k2 _ _ (by simpa using Ne.symm n2) e) (fun b o h1 h2' h3' e => k2 _ _ (by simpa using h1) (kp b o h1 h2' h3' e))
theorem flat_outer {gn : Array GenState} {dr : Drawn} {tk : Nat} {os : OsState} {h hb : Heap} {I0 Ra : Addr} {vs : List Value} {rs : List (List Nat × List Nat)} {m : Str → Option Value}
    (hh : A.handled = none) (hk0 : env.kindOf x0 = some .local) (hk : env.kindOf x1 = some .local) (hkind : env.scope.kind = .function) (hdb0 : (x0 == ("__debug__" : Str)) = false) (hdb : (x1 == ("__debug__" : Str)) = false) (hp : (env.scope.kind == .class || (env.scope.kind == .module && env.locals != env.globals)) = false)
    (kb : Kp hb h) (hR : hb.IsList Ra vs.toArray) (hrows : All2 (RowIt prog w hb) vs rs) (hit : h.IsListIter I0 Ra 0) (hD : h.get? D = some (lst [])) (hC : h.Ns env.locals m) (z1 : hb.get? I0 = none) (z2 : hb.get? D = none) (z3 : hb.get? env.locals = none)
    (n1 : I0 ≠ D) (n2 : I0 ≠ env.locals) (n3 : D ≠ env.locals) (hz : rs.length ≤ 400)
    (q : ∀ h' tk' ws m', TxsAre ws (flatL rs) → h'.get? D = some (lst ws) → h'.Ns env.locals m' → Kp hb h' → R (.ok .next) ⟨h', gn, dr, tk', os⟩) :
    codeAny (model prog w) A (.compLoop (flatE x0 x1 p0 p1 pe pi1 i0 scope pos) 0 (.ref I0) (.ref D) env) R ⟨h, gn, dr, tk, os⟩ := by
  have hne : Ra ≠ I0 := fun e => by obtain ⟨o, e1, _⟩ := hR; rw [e, z1] at e1; cases e1
  have W := Walks.list (prog := prog) (w := w) (A := A) hh I0 Ra hne vs.toArray
  have hvl : vs.length = rs.length := hrows.length
  refine codeAny_loop rfl (fun k s' => ∃ h' tk' i ws m', s' = ⟨h', gn, dr, tk', os⟩ ∧ i ≤ vs.length ∧ k = vs.length + 1 - i ∧ h'.IsListIter I0 Ra i ∧ TxsAre ws (flatL (rs.take i)) ∧ h'.get? D = some (lst ws) ∧ h'.Ns env.locals m' ∧ Kp hb h') (fun k s' hI => ?_) (vs.length + 1) ⟨h, tk, 0, [], m, rfl, by omega, rfl, hit, .nil, hD, hC, kb⟩
  obtain ⟨h', tk', i, ws, m', rfl, hi, rfl, hit', hws, hD', hC', kp⟩ := hI
  show wpAny _ _ ((compTurn (flatE x0 x1 p0 p1 pe pi1 i0 scope pos) 0 (.ref I0) (.ref D) env).onRaise (fun x => do noteFrame x env; theTreesLotGoes x)) _ _ _
  refine wpAny_noted ?_
  rw [turn0_eq]
  have hR' : h'.IsList Ra vs.toArray := by obtain ⟨o, e, r⟩ := hR; exact ⟨o, kp _ _ e, r⟩
  refine wpAny_bind (wpAny_standAt (wpAny_bind ?_))
  by_cases hlt : i < vs.length
  · refine W.item i _ _ _ (by simpa using hlt) ⟨hit', hR'⟩ (fun v h2 tk2 hP st2 k2 => ?_)
    have hD2 : h2.get? D = some (lst ws) := k2 _ _ (by simpa using Ne.symm n1) hD'
    have hC2 : h2.Ns env.locals m' := hC'.at' fun o e => k2 _ _ (by simpa using Ne.symm n2) e
    have kp2 : Kp hb h2 := fun b o e => k2 b o (by simp; rintro rfl; rw [z1] at e; cases e) (kp b o e)
    refine wpAny_bind (wpAny_of_eq (show letOwnedTupleGo (.Name x0 p0) (.ref I0) v = pure () from rfl) (wpAny_bind (wpAny_assign_Name (wpAny_storeName_local hk0 hC2 (fun h3 hn3 hs3 => ?_) hp))))
    have hD3 : h3.get? D = some (lst ws) := hs3.extBut _ _ n3 hD2
    have kp3 : Kp hb h3 := fun b o e => hs3.extBut b o (by rintro rfl; rw [z3] at e; cases e) (kp2 b o e)
    have hit3 : h3.IsListIter I0 Ra (i + 1) := st2.1.at fun o e => hs3.extBut _ _ n2 e
    refine wpAny_bind (wpAny_Name (wpAny_loadName_local hkind hk0 hn3 (if_pos rfl) ?_) hdb0)
    refine wpAny_bind (wpAny_standAt (wpAny_bind (wpAny_of_eq (show foldedSetIterable (.Name x0 pi1) env v = pure v from rfl) (wpAny_bind (wpAny_holding ?_)))))
    obtain ⟨r, hr, ax, ao, hax, hiter⟩ := hrows.get' (show vs[i]? = some v by simpa using hP)
    refine hiter h3 gn dr _ os A _ _ hh kp3 (fun it h4 tk4 k4 nit hSt => ?_)
    obtain ⟨St, st0, hStI, hW⟩ := hSt
    have nit1 : it ≠ D := fun e => by rw [e, hD3] at nit; cases nit
    have nit2 : it ≠ env.locals := fun e => by obtain ⟨o, q, _⟩ := ns_obj hn3; rw [e, q] at nit; cases nit
    have nit0 : it ≠ I0 := fun e => by obtain ⟨o, q, _⟩ := hit3; rw [e, q] at nit; cases nit
    have nax1 : ax ≠ D := fun e => by rw [e, z2] at hax; cases hax
    have nax2 : ax ≠ env.locals := fun e => by rw [e, z3] at hax; cases hax
    have kp4 : Kp hb h4 := fun b o e => k4 b o (kp3 b o e)
    have hwl : ws.length ≤ 1000 := by have := hws.length; rw [flatL_len, List.length_take] at this; omega
    have inner : codeAny (model prog w) (A.mark none) (.compLoop (flatE x0 x1 p0 p1 pe pi1 i0 scope pos) 1 (.ref it) (.ref D) env) (fun r s' => match r with
        | .ok f => wpAny (model prog w) A (again (.compLoop (flatE x0 x1 p0 p1 pe pi1 i0 scope pos) 0 (.ref I0) (.ref D) env)) (fun fin s' => match fin with | .done f => R (.ok f) s' | .again c' => c' = .compLoop (flatE x0 x1 p0 p1 pe pi1 i0 scope pos) 0 (.ref I0) (.ref D) env ∧ ∃ k, k < vs.length + 1 - i ∧ ∃ h' tk' i ws m', s' = ⟨h', gn, dr, tk', os⟩ ∧ i ≤ vs.length ∧ k = vs.length + 1 - i ∧ h'.IsListIter I0 Ra i ∧ TxsAre ws (flatL (rs.take i)) ∧ h'.get? D = some (lst ws) ∧ h'.Ns env.locals m' ∧ Kp hb h') (notedBy (model prog w) A env fun e s' => R (.error e) s') s'
        | .error e => cameBackBy (model prog w) A env (notedBy (model prog w) A env fun e s' => R (.error e) s') e s') ⟨h4, gn, dr, tk4, os⟩ := by
      refine flat_inner (hW (A.mark none) hh) hk hkind hdb hp st0 (k4 _ _ hD3) (hn3.at' fun o e => k4 _ _ e) nit1 nit2 n3 nax1 nax2 hwl (fun h5 tk5 v1 v2 m5 e1 e2 hD5 hC5 k5 => ?_)
      refine wpAny_pure ⟨rfl, vs.length + 1 - (i + 1), by omega, h5, tk5, i + 1, ws ++ [v1, v2], m5, rfl, by omega, rfl, ?_, ?_, hD5, hC5, ?_⟩
      · exact hit3.at fun o e => k5 _ _ (Ne.symm nit0) n1 n2 (k4 _ _ e)
      · rw [List.take_add_one, hr]
        have : flatL (rs.take i ++ [r]) = flatL (rs.take i) ++ [r.1, r.2] := by simp [flatL]
        rw [show (some r).toList = [r] from rfl, this]
        exact hws.append (.cons e1 (.cons e2 .nil))
      · exact fun b o e => k5 b o (fun z => by have := kp3 b o e; rw [z, nit] at this; cases this) (fun z => by rw [z, z2] at e; cases e) (fun z => by rw [z, z3] at e; cases e) (kp4 b o e)
    refine wpAny_bind (wpAny_runOwn (flat_start1 inner ((hW (A.mark none) hh).self 0 _ _ _ st0 inner)))
  · have h2 : i = vs.length := by omega
    subst h2
    refine W.done _ _ _ ⟨by simpa using hit', hR'⟩ (fun h2 tk2 k2 => ?_)
    rw [List.take_of_length_le (by omega)] at hws
    refine wpAny_pure ?_
    exact q h2 _ ws m' hws (k2 _ _ (by simpa using Ne.symm n1) hD') (hC'.at' fun o e => k2 _ _ (by simpa using Ne.symm n2) e) (fun b o e => k2 b o (by simp; rintro rfl; rw [z1] at e; cases e) (kp b o e))
end
end Mine
end

noncomputable section
open PySem PySem.W PyProof.Rows PySem.Spec PyProof.Rows.LCg
set_option maxRecDepth 100000
set_option maxHeartbeats 4000000
namespace Mine
theorem flat_comp {prog : Program} {w : World} {A : Around} {E : Value → Shared → Prop} {env : Env} {x0 x1 : Str} {p0 p1 pe pi1 : Pos} {i0 : PySem.Expr} {scope : Scope} {pos : Pos} {gn : Array GenState} {dr : Drawn} {tk : Nat} {os : OsState} {h hb : Heap} {Ra : Addr} {vs : List Value} {rs : List (List Nat × List Nat)} {Q : Value → Shared → Prop}
    (hh : A.handled = none) (hclos : closureFor scope env = pure []) (hcell : ∀ y ∈ scope.names, y.2 ≠ .cell) (hkind : scope.kind = .function) (hnames : ∀ y ∈ scope.names, y.2 = .local → scope.names.lookup y.1 = some .local)
    (hx0 : scope.names.lookup x0 = some .local) (hx1 : scope.names.lookup x1 = some .local) (hdb0 : (x0 == ("__debug__" : Str)) = false) (hdb : (x1 == ("__debug__" : Str)) = false) (hs : ∀ x, foldedSetIterable i0 env x = pure x)
    (hi : wpAny (model prog w) A (eval i0 env) (fun v s₁ => v = .ref Ra ∧ ∃ tk', s₁ = ⟨h, gn, dr, tk', os⟩) E ⟨h, gn, dr, tk, os⟩)
    (kb : Kp hb h) (hR : hb.IsList Ra vs.toArray) (hrows : All2 (RowIt prog w hb) vs rs) (hz : rs.length ≤ 400)
    (q : ∀ D h' tk' ws, TxsAre ws (flatL rs) → h'.get? D = some (lst ws) → hb.get? D = none → Kp hb h' → Q (.ref D) ⟨h', gn, dr, tk', os⟩) :
    wpAny (model prog w) A (eval (flatE x0 x1 p0 p1 pe pi1 i0 scope pos) env) Q E ⟨h, gn, dr, tk, os⟩ := by
  show wpAny (model prog w) A (eval (.ListComp _ _ scope pos) env) Q E ⟨h, gn, dr, tk, os⟩
  rw [eval_ListComp]
  refine wpAny_comprehension_free (use := none) rfl hs hclos hkind hnames (wpAny_mono hi (fun xv s₁ h₁ => ?_) fun _ _ e => e)
  obtain ⟨rfl, tk1, rfl⟩ := h₁
  have hR' : h.IsList Ra vs.toArray := by obtain ⟨o, e, r⟩ := hR; exact ⟨o, kb _ _ e, r⟩
  refine wpAny_pyIter_list (s := ⟨h, gn, dr, tk1, os⟩) hR' ?_
  refine wpAny_newObj_type (wpAny_newFunctionEnv hcell (by intro y hy; simp at hy) (fun h₁ hns₁ hsb₁ => ?_) hkind)
  dsimp only at hns₁ hsb₁ ⊢
  generalize hH1 : h.push { cls := .type "list_iterator", data := .fields #[.ref Ra, .int 0 0] } = H1 at hns₁ hsb₁ ⊢
  generalize hH2 : H1.push { cls := .type "list", dict := none, data := .seq ([] : List Value).toArray } = H2 at hns₁ hsb₁ ⊢
  have s1 : H1.objs.size = h.objs.size + 1 := by rw [← hH1, Heap.size_push]
  have s2 : H2.objs.size = h.objs.size + 2 := by rw [← hH2, Heap.size_push, s1]
  have up1 : Kp h H1 := fun b o e => hH1 ▸ Heap.get?_push_of_some _ e
  have up2 : Kp H1 H2 := fun b o e => hH2 ▸ Heap.get?_push_of_some _ e
  have up3 : Kp H2 h₁ := fun b o e => hsb₁.extBut b o (Nat.ne_of_lt (Heap.lt_size e)) (Heap.get?_push_of_some _ e)
  have gI : h₁.get? h.objs.size = some { cls := .type "list_iterator", data := .fields #[.ref Ra, .int 0 0] } := up3 _ _ (up2 _ _ (hH1 ▸ Heap.get?_push_size _ rfl))
  have gD : h₁.get? H1.objs.size = some (lst []) := up3 _ _ (hH2 ▸ Heap.get?_push_size _ rfl)
  have nb : ∀ a, h.objs.size ≤ a → hb.get? a = none := fun a ha => by
    cases z : hb.get? a with
    | none => rfl
    | some o => exact absurd (Heap.lt_size (kb _ _ z)) (Nat.not_lt.mpr ha)
  have l1 : h.objs.size ≤ H1.objs.size := by rw [s1]; exact Nat.le_succ _
  have l2 : h.objs.size ≤ H2.objs.size := by rw [s2]; exact Nat.le_add_right _ _
  have d1 : h.objs.size ≠ H1.objs.size := by rw [s1]; exact Nat.ne_of_lt (Nat.lt_succ_self _)
  have d2 : h.objs.size ≠ H2.objs.size := by rw [s2]; exact Nat.ne_of_lt (Nat.lt_add_of_pos_right (by decide))
  have d3 : H1.objs.size ≠ H2.objs.size := by rw [s1, s2]; exact Nat.ne_of_lt (Nat.lt_succ_self _)
  have hit : h₁.IsListIter h.objs.size Ra 0 := ⟨_, gI, rfl, rfl⟩
  have loop := flat_outer (prog := prog) (w := w) (A := A) (env := compEnvC scope [] H2.objs.size env) (x0 := x0) (x1 := x1) (p0 := p0) (p1 := p1) (pe := pe) (pi1 := pi1) (i0 := i0) (scope := scope) (pos := pos) (D := H1.objs.size) (gn := gn) (dr := dr) (tk := tk1 + ([] : List (Str × Value)).length) (os := os) (R := compPost (model prog w) A E none Q (.ref H1.objs.size) H2.objs.size) hh (lookup_relabel_local hx0) (lookup_relabel_local hx1) (by simp [compEnvC, relabel, hkind]) hdb0 hdb (by simp [compEnvC, relabel, hkind]) (fun b o e => up3 _ _ (up2 _ _ (up1 _ _ (kb b o e)))) hR hrows hit gD hns₁ (nb _ (Nat.le_refl _)) (nb _ l1) (nb _ l2) d1 d2 d3 hz
    (fun h' tk' ws m' hws hD' hC' kp => ⟨m', hC', fun h'' hs'' => q _ h'' _ ws hws (hs''.extBut _ _ d3 hD') (nb _ l1) (fun b o e => hs''.extBut b o (fun z => by rw [z, nb _ l2] at e; cases e) (kp b o e))⟩)
  exact codeAny_compStart_list loop (wpAny_pyIter_listiter hit loop)
theorem c_flat : ∀ {w : World} {A : Around} {h bs : Heap} {gn : Array GenState} {dr : Drawn} {tk : Nat} {os : OsState} {Q E : Value → Shared → Prop} {p : Program} {loose : List Str} {mean : ExcName → Option Value} {mg mb : Str → Option Value} {Ra : Addr} {vs : List Value} {rs : List (List Nat × List Nat)}
   (X : (hd.heap_39 w.params).In h) (T : Top p loose mean mg mb h) (hdp : A.depth < recursionLimit) (hh : A.handled = none) 
   (hR : h.IsList Ra vs.toArray) (hrows : All2 (RowIt PySem.Challenge.rw_il0159_01.prog w h) vs rs) (hz : rs.length ≤ 400)
   (q : ∀ D h' tk' ws, TxsAre ws (flatL rs) → h'.get? D = some (lst ws) → h.get? D = none → Kp h h' → Q (.ref D) ⟨h', gn, dr, tk', os⟩),
   wpAny (model PySem.Challenge.rw_il0159_01.prog w) A (call (.ref 246) [.ref Ra]) Q E ⟨h, gn, dr, tk, os⟩ := by
  k_with_none
  k_fill
  intro w A h bs gn dr tk os Q E p loose mean mg mb Ra vs rs X T hdp hh hR hrows hz q
  refine wpAny_call (enter_fn (s := ⟨h, gn, dr, tk, os⟩) (binds := [("rows", .ref Ra)]) hdp (X 246 _ (by k_is)) rfl T.nolimit (codeRec_of X (by k_is)) rfl rfl (by with_unfolding_all exact (by decide : List.Nodup [("rows" : Str)])) (fun h₁ tk F N => ?_))
  iterate 2 walk1
  refine flat_comp (hb := h) (x0 := "row") (x1 := "side") hh (by rfl) (by decide) (by rfl) (by decide) (by rfl) (by rfl) (by decide) (by decide) (by intro _; rfl) ?_ F.keep hR hrows hz (fun D h' tk' ws hws hD hn kp => q D h' tk' ws hws hD hn kp)
  walk1
  exact ⟨rfl, _, rfl⟩
end Mine
end

noncomputable section
open PySem PySem.W PyProof.Rows PySem.Spec PyProof.Rows.LCg
set_option maxRecDepth 100000
set_option maxHeartbeats 4000000
namespace Mine
section
variable {prog : Program} {w : World} {A : Around} {E : Value → Shared → Prop} {hp : Heap} {gn : Array GenState} {dr : Drawn} {tk : Nat} {os : OsState} {h₀ : Heap} {L : Addr} {m : Str → Option Value} {news news' : List (Addr × Obj)} {Q : Value → Shared → Prop} {t u : Tok} {l r : List Nat} {value slice : Expr}
theorem toList_T {a : Addr} {vs : List Value} {n k : Nat} {u : Tok} (F : Fr h₀ L hp m) (N : News h₀ L hp news) (hm : (a, listOf vs.toArray n) ∈ news) (hz : vs.length ≤ 1000000)
    (h : ∀ D h', Fr h₀ L h' m → News h₀ L h' ((D, listOf (vs.take k).toArray 0) :: news) → (∀ p ∈ news, p.1 < D) → Q (.ref D) ⟨h', gn, dr, tk, os⟩)
    (hs : subscripted slice false (.ref a) (.ref hp.objs.size) = operate [.ref hp.objs.size, .ref a] (getItem (.ref a) (.ref hp.objs.size)) := by with_unfolding_all rfl)
    (hg : ∀ r, letTemporaryGo value (.ref a) r = pure () := by intro _; with_unfolding_all rfl) :
    wpAny (model prog w) A (subscriptTail value slice (.ref a) (.ref hp.objs.size)) Q E ⟨hp.push { cls := .type "slice", data := .fields #[.none, .int (k : Int) u, .none] }, gn, dr, tk, os⟩ := by
  have hl : hp.IsList a vs.toArray := ⟨_, (N _ hm).1, rfl, n, rfl⟩
  refine kms_slice_lit (s := ⟨hp, gn, dr, tk, os⟩) (lo := none) (hi := some (k : Int)) F N hl ?_ ?_ ?_ (fun D h' F' N' l => h D h' F' N' l) hs hg (by rw [List.size_toArray, sizeLine_eq]; omega)
  · exact IsPart.none
  · exact IsPart.int _ _
  · unfold kms_pick kms_lo kms_hi
    simp only
    rw [if_neg (by omega)]
    simp
end
theorem law11 : ∀ {w : World} {p : Program} {loose : List Str} {mean : ExcName → Option Value} {mg mb : Str → Option Value} {bs h : Heap} {L fa : Addr} {cd : Value} {fd : FuncData} {gn : Array GenState} {dr : Drawn} {tk : Nat} {os : OsState} {Q : Flow → Shared → Prop} {E : Value → Shared → Prop}
   (C : LC w bs fd) (X : (hd.heap_39 w.params).In bs) (T : Top p loose mean mg mb bs)
   {m : Str → Option Value} {o1 o2 o3 o4 o5 o6 o7 : Obj} {K : Addr} {kvs : List Value} {tl : List (Addr × Obj)}
   (F : Fr bs L h m) (N : News bs L h (led0 L o1 o2 o3 o4 o5 o6 o7 tl)) (Y : FarC L tl) (h4 : o4.data = .cell (some (.ref K))) (h5 : o5.data = .cell none)
   (mK : (K, lst kvs) ∈ tl) (hk : kvs.length ≤ 100)
   (next : ∀ DD o5' h' tk', Fr bs L h' m → News bs L h' (led0 L o1 o2 o3 o4 o5' o6 o7 ((DD, listOf (kvs.take 1 ++ kvs).toArray 0) :: tl)) → o5'.data = .cell (some (.ref DD)) → FarC L ((DD, listOf (kvs.take 1 ++ kvs).toArray 0) :: tl) → Q .next ⟨h', gn, dr, tk', os⟩),
   wpAny (model PySem.Challenge.rw_il0159_01.prog w) (callerA.deeper (lawEnv fd L fa cd)) (exec (stmtAt fd 10) (lawEnv fd L fa cd)) Q E ⟨h, gn, dr, tk, os⟩ := by
  k_with_none
  k_with "subscriptTail Name Slice ref ref" => (k_here; (with_reducible rename Fr _ _ _ _ => F'); (with_reducible rename News _ _ _ _ => N'); refine toList_T (k := 1) F' N' (lm0 (by assumption)) (by omega) ?_; intro _ _ _ _ _; clear F' N')
  k_fill
  intro w p loose mean mg mb bs h L fa cd fd gn dr tk os Q E C X T m o1 o2 o3 o4 o5 o6 o7 K kvs tl F N Y h4 h5 mK hk next
  obtain ⟨hfd, K0, C1, C2⟩ := C
  cases some_lit hfd (rfl : lawDef w.params = some ⟨_, _, _, _, _, _, _, _, _, _, _, _, _, _, _⟩)
  clear hfd
  dsimp only [stmtAt, stmtsOf, List.drop, List.headD, lawEnv]
  repeat ((fail_if_success (with_reducible show wpAny _ _ (binaryOp _ _ _) _ _ _)); walk1)
  rename Fr _ _ _ _ => F2
  rename News _ _ _ _ => N2
  refine kmk_add_lit (zs := kvs.take 1 ++ kvs) F2 N2 ⟨_, (N2 _ (.head _)).1, rfl, _, rfl⟩ ⟨_, (N2 _ (.tail _ (lm0 mK))).1, rfl, _, rfl⟩ (by simp) (fun S h9 F9 N9 lt9 => ?_) (by simp; rw [sizeLine_eq]; omega)
  clear F2 N2
  have lS : L + 7 < S := lt9 (L + 7, o7) (.tail _ (.tail _ (.tail _ (.tail _ (.tail _ (.tail _ (.tail _ (.head _))))))))
  have Y2 : FarC L ((S, listOf (kvs.take 1 ++ kvs).toArray 0) :: tl) := FarC.cons (farC_gt lS) Y
  refine cs5 (tl := (S, listOf (kvs.take 1 ++ kvs).toArray 0) :: tl) F9 (fun p hp => ?_) Y2 h5 rfl (fun h' o' F4 N4 hd4 => next S o' h' _ F4 N4 hd4 Y2)
  have hp' := mid_add (a := []) (b := cellsL L o1 o2 o3 o4 o5 o6 o7) hp
  rcases List.mem_cons.mp hp' with rfl | hp'
  · exact N9 _ (.head _)
  · exact N9 p (.tail _ (.tail _ hp'))
end Mine
end

noncomputable section
open PySem PySem.W PyProof.Rows PySem.Spec PyProof.Rows.LCg
set_option maxRecDepth 100000
set_option maxHeartbeats 4000000
namespace Mine
theorem small_all : (List.range 21).all (fun n => Builtin.Range.small 0 ((n : Int) + 2) 1) = true := by decide +kernel
theorem small_rg {n : Nat} (h : n ≤ 20) : Builtin.Range.small 0 ((n : Int) + 2) 1 = true := List.all_eq_true.mp small_all n (List.mem_range.mpr (by omega))
theorem law12 : ∀ {w : World} {p : Program} {loose : List Str} {mean : ExcName → Option Value} {mg mb : Str → Option Value} {bs h : Heap} {L fa : Addr} {cd : Value} {fd : FuncData} {gn : Array GenState} {dr : Drawn} {tk : Nat} {os : OsState} {Q : Flow → Shared → Prop} {E : Value → Shared → Prop}
   (C : LC w bs fd) (X : (hd.heap_39 w.params).In bs) (T : Top p loose mean mg mb bs)
   {m : Str → Option Value} {o1 o2 o3 o4 o5 o6 o7 : Obj} {DD : Addr} {kvs : List Value} {tl : List (Addr × Obj)} {rs : List (List Nat × List Nat)} {gv : List Nat} {tg ts : Tok}
   (F : Fr bs L h m) (N : News bs L h (led0 L o1 o2 o3 o4 o5 o6 o7 tl)) (Y : FarC L tl) (h1 : o1.data = .cell (some (.str (Tx gv) tg))) (h2 : o2.data = .cell (some (.int (rs.length : Int) ts))) (h5 : o5.data = .cell (some (.ref DD)))
   (mD : (DD, listOf (kvs.take 1 ++ kvs).toArray 0) ∈ tl) (hK : RowsAre (LK tl) kvs rs) (hsm : rs.length ≤ 10) (hb : ∀ k, (repL ((rs.take 1 ++ rs).take k) gv).length ≤ 1000) (hr : ∀ r ∈ rs, r.1 ≠ [] ∧ r.2.length ≤ 1000)
   (next : ∀ PK ys h' tk', Fr bs L h' (fun z => if z = "packed" then some (.ref PK) else m z) → News bs L h' (led0 L o1 o2 o3 o4 o5 o6 o7 ((PK, lst ys) :: tl)) → FarC L ((PK, lst ys) :: tl) → TxsAre ys ((List.range (rs.length + 2)).map fun k => repL ((rs.take 1 ++ rs).take k) gv) → Q .next ⟨h', gn, dr, tk', os⟩),
   wpAny (model PySem.Challenge.rw_il0159_01.prog w) (callerA.deeper (lawEnv fd L fa cd)) (exec (stmtAt fd 11) (lawEnv fd L fa cd)) Q E ⟨h, gn, dr, tk, os⟩ := by
  k_with_none
  k_fill
  intro w p loose mean mg mb bs h L fa cd fd gn dr tk os Q E C X T m o1 o2 o3 o4 o5 o6 o7 DD kvs tl rs gv tg ts F N Y h1 h2 h5 mD hK hsm hb hr next
  obtain ⟨hfd, K0, C1, C2⟩ := C
  cases some_lit hfd (rfl : lawDef w.params = some ⟨_, _, _, _, _, _, _, _, _, _, _, _, _, _, _⟩)
  clear hfd
  dsimp only [stmtAt, stmtsOf, List.drop, List.headD, lawEnv]
  k_dflt (refine LCg.Assign_ListComp_U (F₀ := by k_asm) (by rfl) (by with_unfolding_all rfl) (by with_unfolding_all rfl) (by decide) (by rfl) (by decide) (by rfl) (by rfl) (by rfl) ?_)
  repeat ((fail_if_success (with_reducible show LCg.CompSrc _ _ _ _ _ _ _ _ _ _ _ _ _ _)); walk1)
  rename IsRange _ _ _ _ _ _ _ _ => hrg
  rename Fr _ _ _ _ => F2
  rename News _ _ _ _ => N2
  have hn : Builtin.Range.rangeSize 0 ((rs.length : Int) + 2) 1 = ((rs.length + 2 : Nat) : Int) := by
    unfold Builtin.Range.rangeSize
    split <;> omega
  refine CompSrc.range rfl F2 N2 hrg (small_rg (by omega)) hn (by rw [sizeLine_eq]; omega) fun g => ?_
  refine comp_inv (rs.length + 2) (fun i ys news => news = led0 L o1 o2 o3 o4 o5 o6 o7 tl ∧ TxsAre ys ((List.range i).map fun k => repL ((rs.take 1 ++ rs).take k) gv)) ?_ ?_ (rs.length + 2) 0 [] _ (by omega) ⟨rfl, .nil⟩
  · rintro i ys news v hi ⟨rfl, hys⟩ hv I oI C oC D' m₂ h3 tk3 E' hC3 hx F3 N3 off ne
    obtain ⟨t3, rfl⟩ := hv
    clear F2 N2 hrg
    repeat ((fail_if_success (with_reducible show wpAny _ _ (subscriptTail _ _ _ _) _ _ _)); walk1)
    rename Fr _ _ _ _ => F4
    rename News _ _ _ _ => N4
    rw [Int.zero_add]
    refine toList_T (k := i) (n := 0) F4 N4 (.tail _ (.tail _ (.tail _ (lm0 mD)))) ?_ ?_
    · have := hK.length
      simp; omega
    intro SL h5 F5 N5 lt5
    clear F4 N4
    repeat ((fail_if_success (with_reducible show wpAny _ _ (call _ _) _ _ _)); walk1)
    have hdl : ((rs.take 1 ++ rs).take i).length ≤ 11 := by simp; omega
    have hrows : All2 (RowIt PySem.Challenge.rw_il0159_01.row.prog w h5) (List.take i (kvs.take 1 ++ kvs)) ((rs.take 1 ++ rs).take i) := All2.mono (fun a b z => rowIt_list (RowAt.mono (fun x o hx => (N5 (x, o) (.tail _ (.tail _ (.tail _ (.tail _ (lm0 hx)))))).1) z)) (((hK.take 1).append hK).take i)
    refine c_flat (bs := bs) (X.keeps F5.keep) (T.keeps F5.keep) (Nat.le_of_ble_eq_true rfl) rfl ⟨_, (N5 _ (.head _)).1, rfl, _, rfl⟩ hrows (by omega) (fun FD h6 tk6 ws hws hFD nFD k6 => ?_)
    have F6 := F5.keeps k6
    have N6 := news_add F5 N5 k6 hFD nFD
    clear F5 N5
    have hwl := hws.length
    rw [flatL_len] at hwl
    refine star_seq (T := "list") F6 N6 (.head _) rfl rfl (.inl rfl) (ws := ws) (by simp) (by rw [List.size_toArray, sizeLine_eq]; omega) (fun h7 F7 N7 => ?_)
    clear F6 N6
    repeat ((fail_if_success (with_reducible show wpAny _ _ (call _ _) _ _ _)); walk1)
    rw [List.append_nil]
    refine rep_T (X.keeps F7.keep) (T.keeps F7.keep) (Nat.le_of_ble_eq_true rfl) hws (by omega) (fun r hr' => ?_) (fun k => ?_) (fun t8 h8 tk8 k8 => ?_)
    · have := List.mem_of_mem_take hr'
      rcases List.mem_append.mp this with q | q
      · exact hr r (List.mem_of_mem_take q)
      · exact hr r q
    · rw [List.take_take]; exact hb _
    · refine CompEnd.intro (F7.keeps k8) (N7.grown k8) (led0 L o1 o2 o3 o4 o5 o6 o7 tl) (fun p hp => .tail _ (.tail _ hp)) off trivial ⟨rfl, ?_⟩
      rw [List.range_succ, List.map_append]
      exact hys.snoc ⟨t8, rfl⟩
  · rintro ys news ⟨rfl, hys⟩
    intro D3 h3 tk3 F3 N3 off3
    have Y2 : FarC L ((D3, lst ys) :: tl) := FarC.cons (far_cells (o := o1) off3) Y
    exact next D3 ys h3 tk3 F3 (fun p hp => N3 p (mid_add (a := []) (b := cellsL L o1 o2 o3 o4 o5 o6 o7) hp)) Y2 hys
end Mine
end

noncomputable section
open PySem PySem.W PyProof.Rows PySem.Spec PyProof.Rows.LCg
set_option maxRecDepth 100000
set_option maxHeartbeats 4000000
namespace Mine
def lineL (n k : Nat) (r : List Nat × List Nat) : List Nat := List.replicate ((k + 1) % 2) 32 ++ r.2 ++ List.replicate (k % 3) 32 ++ [61] ++ List.replicate (k % 2) 9 ++ r.1 ++ List.replicate (n - 1 - k) 32
theorem mulT (c : Nat) : ∀ n : Nat, (List.replicate n (#[c] : Array Nat)).foldl (· ++ ·) #[] = (List.replicate n c).toArray := by
  have key : ∀ (n : Nat) (acc : List Nat), (List.replicate n (#[c] : Array Nat)).foldl (· ++ ·) acc.toArray = (acc ++ List.replicate n c).toArray := by
    intro n
    induction n with
    | zero => intro acc; simp
    | succ n ih =>
      intro acc
      rw [List.replicate_succ, List.foldl_cons]
      have : acc.toArray ++ #[c] = (acc ++ [c]).toArray := by simp
      rw [this, ih, List.replicate_succ]; simp
  intro n
  have := key n []
  simpa using this
theorem mul_Tx (c : Nat) (n : Int) : Txt.mul (Tx [c]) n = Tx (List.replicate n.toNat c) := by
  unfold Txt.mul
  split
  · have : n.toNat = 0 := by omega
    rw [this]; rfl
  · split
    · rename_i h1 h2
      have : n = 1 := by simpa [Tx_length] using h2
      subst this; rfl
    · show (⟨(List.replicate n.toNat (#[c] : Array Nat)).foldl (· ++ ·) #[]⟩ : Str) = _
      rw [mulT]; rfl
theorem mul_T {prog : Program} {w : World} {A : Around} {E : Value → Shared → Prop} {hp : Heap} {gn : Array GenState} {dr : Drawn} {tk : Nat} {os : OsState} {Q : Value → Shared → Prop} {c : Nat} {n : Int} {t u : Tok} (h0 : 0 ≤ n) (hn : n ≤ 100) (h : ∀ t' k, Q (.str (Tx (List.replicate n.toNat c)) t') ⟨hp, gn, dr, k, os⟩) : wpAny (model prog w) A (binaryOp .Mult (.str (Tx [c]) t) (.int n u)) Q E ⟨hp, gn, dr, tk, os⟩ := by
  refine SB.mul (s := ⟨hp, gn, dr, tk, os⟩) ⟨?_, fun h1 _ => ?_, fun h1 _ => ?_⟩ (fun t' k => by rw [mul_Tx]; exact h t' k)
  · rw [Bool.or_eq_false_iff, decide_eq_false_iff_not, decide_eq_false_iff_not]; omega
  · rw [Tx_length]
    have : (1 : Int) ≤ (2 ^ 63 - 1) / n := Int.le_ediv_of_mul_le (by omega) (by omega)
    show ¬ ((1 : Int) > (2 ^ 63 - 1) / n)
    omega
  · rw [Tx_length]
    unfold Builtin.Str.tooLong
    simp only [decide_eq_false_iff_not, sizeLine_eq]
    show ¬ 1 * n.toNat > _
    omega
theorem itemI_T {prog : Program} {w : World} {A : Around} {E : Value → Shared → Prop} {hp : Heap} {gn : Array GenState} {dr : Drawn} {tk : Nat} {os : OsState} {h₀ : Heap} {L : Addr} {news : List (Addr × Obj)} {Q : Value → Shared → Prop} {value slice : PySem.Expr} {a : Addr} {vs : List Value} {v : Value} {n i : Nat} {u : Tok} (N : News h₀ L hp news) (hm : (a, listOf vs.toArray n) ∈ news) (hk : i ≤ 1000) (hv : vs[i]? = some v) (h : Q v ⟨hp, gn, dr, tk, os⟩)
    (hs : subscripted slice false (.ref a) (.int (0 + (i : Int)) u) = operate [.ref a, .int (0 + (i : Int)) u] (getItem (.ref a) (.int (0 + (i : Int)) u)) := by with_unfolding_all rfl) :
    wpAny (model prog w) A (subscriptTail value slice (.ref a) (.int (0 + (i : Int)) u)) Q E ⟨hp, gn, dr, tk, os⟩ :=
  item_T N hm (by omega) (by omega) (by rw [show (0 + (i : Int)).toNat = i by omega]; exact hv) h hs
theorem small_all0 : (List.range 21).all (fun n => Builtin.Range.small 0 (n : Int) 1) = true := by decide +kernel
theorem small_rg0 {n : Nat} (h : n ≤ 20) : Builtin.Range.small 0 (n : Int) 1 = true := List.all_eq_true.mp small_all0 n (List.mem_range.mpr (by omega))
theorem mul_L {prog : Program} {w : World} {A : Around} {E : Value → Shared → Prop} {hp : Heap} {gn : Array GenState} {dr : Drawn} {tk : Nat} {os : OsState} {Q : Value → Shared → Prop} {c : Nat} {n : Int} {m : Nat} {t u : Tok} (h0 : 0 ≤ n) (hn : n ≤ (m : Int)) (hm : m ≤ 100) (h : ∀ t' k, (List.replicate n.toNat c).length ≤ m → Q (.str (Tx (List.replicate n.toNat c)) t') ⟨hp, gn, dr, k, os⟩) : wpAny (model prog w) A (binaryOp .Mult (.str (Tx [c]) t) (.int n u)) Q E ⟨hp, gn, dr, tk, os⟩ :=
  mul_T h0 (by omega) fun t' k => h t' k (by rw [List.length_replicate]; omega)
theorem add_L {prog : Program} {w : World} {A : Around} {E : Value → Shared → Prop} {hp : Heap} {gn : Array GenState} {dr : Drawn} {tk : Nat} {os : OsState} {Q : Value → Shared → Prop} {l r : List Nat} {m n : Nat} {t u : Tok} (h1 : l.length ≤ m) (h2 : r.length ≤ n) (hmn : m + n ≤ 1000000) (h : ∀ t' k, (l ++ r).length ≤ m + n → Q (.str (Tx (l ++ r)) t') ⟨hp, gn, dr, k, os⟩) : wpAny (model prog w) A (binaryOp .Add (.str (Tx l) t) (.str (Tx r) u)) Q E ⟨hp, gn, dr, tk, os⟩ :=
  add_T (Nat.le_trans (Nat.add_le_add h1 h2) hmn) fun t' k => h t' k (by rw [List.length_append]; exact Nat.add_le_add h1 h2)
theorem fm_cast (a m : Nat) : Int.fmod (a : Int) (m : Int) = ((a % m : Nat) : Int) := by rw [Int.fmod_eq_emod_of_nonneg _ (Int.natCast_nonneg m)]; rfl
theorem fm_ten {a m : Nat} (h : 0 < m) (hm : m ≤ 10) : 0 ≤ ((a % m : Nat) : Int) ∧ ((a % m : Nat) : Int) ≤ ((10 : Nat) : Int) := ⟨Int.natCast_nonneg _, Int.ofNat_le.mpr (Nat.le_trans (Nat.le_of_lt (Nat.mod_lt _ h)) hm)⟩
theorem law14 : ∀ {w : World} {p : Program} {loose : List Str} {mean : ExcName → Option Value} {mg mb : Str → Option Value} {bs h : Heap} {L fa : Addr} {cd : Value} {fd : FuncData} {gn : Array GenState} {dr : Drawn} {tk : Nat} {os : OsState} {Q : Flow → Shared → Prop} {E : Value → Shared → Prop}
   (C : LC w bs fd) (X : (hd.heap_39 w.params).In bs) (T : Top p loose mean mg mb bs)
   {m : Str → Option Value} {o1 o2 o3 o4 o5 o6 o7 : Obj} {K : Addr} {kvs : List Value} {tl : List (Addr × Obj)} {rs : List (List Nat × List Nat)} {ts : Tok}
   (F : Fr bs L h m) (N : News bs L h (led0 L o1 o2 o3 o4 o5 o6 o7 tl)) (Y : FarC L tl) (h2 : o2.data = .cell (some (.int (rs.length : Int) ts))) (h4 : o4.data = .cell (some (.ref K)))
   (mK : (K, lst kvs) ∈ tl) (hK : RowsAre (LK tl) kvs rs) (hsm : rs.length ≤ 10) (hr : ∀ r ∈ rs, r.1.length ≤ 2 ∧ r.2.length ≤ 2)
   (next : ∀ LN ys h' tk', Fr bs L h' (fun z => if z = "lines" then some (.ref LN) else m z) → News bs L h' (led0 L o1 o2 o3 o4 o5 o6 o7 ((LN, lst ys) :: tl)) → FarC L ((LN, lst ys) :: tl) → TxsAre ys (rs.zipIdx.map fun p => lineL rs.length p.2 p.1) → Q .next ⟨h', gn, dr, tk', os⟩),
   wpAny (model PySem.Challenge.rw_il0159_01.prog w) (callerA.deeper (lawEnv fd L fa cd)) (exec (stmtAt fd 13) (lawEnv fd L fa cd)) Q E ⟨h, gn, dr, tk, os⟩ := by
  k_with_none
  k_with "eval Constant str" => (k_here; refine const_T ?_; (simp only [lit_e, lit_dot, lit_dots, lit_menu, lit_tail, lit_q, lit_sp, lit_eq, lit_tab, lit_nl, lit_nlsp, lit_mid, lit_spnl, lit_caps]); intro _ _)
  k_with "binaryOp Mult str int" => (k_here; (with_reducible show wpAny _ _ (binaryOp _ (Value.str (Tx [_]) _) (Value.int _ _)) _ _ _); refine mul_L (m := 10) (by assumption) (by assumption) (by decide) ?_; intro _ _ _)
  k_with "binaryOp Add str str" => (k_here; (with_reducible show wpAny _ _ (binaryOp _ (Value.str (Tx _) _) (Value.str (Tx _) _)) _ _ _); refine add_L (by assumption) (by assumption) (by decide) ?_; intro _ _ _)
  k_with "subscriptTail Name Name ref int" => (k_here; (with_reducible rename News _ _ _ _ => N'); refine itemI_T N' (.tail _ (.tail _ (.tail _ (lm0 (by assumption))))) (by omega) (by assumption) ?_)
  k_with "subscriptTail Name Constant ref int" => (k_here; (with_reducible rename News _ _ _ _ => N'); refine item_T N' (.tail _ (.tail _ (.tail _ (lm0 (by assumption))))) (by decide) (by decide) rfl ?_)
  k_fill
  intro w p loose mean mg mb bs h L fa cd fd gn dr tk os Q E C X T m o1 o2 o3 o4 o5 o6 o7 K kvs tl rs ts F N Y h2 h4 mK hK hsm hr next
  obtain ⟨hfd, K0, C1, C2⟩ := C
  cases some_lit hfd (rfl : lawDef w.params = some ⟨_, _, _, _, _, _, _, _, _, _, _, _, _, _, _⟩)
  clear hfd
  dsimp only [stmtAt, stmtsOf, List.drop, List.headD, lawEnv]
  k_dflt (refine LCg.Assign_ListComp_U (F₀ := by k_asm) (by rfl) (by with_unfolding_all rfl) (by with_unfolding_all rfl) (by decide) (by rfl) (by decide) (by rfl) (by rfl) (by rfl) ?_)
  repeat ((fail_if_success (with_reducible show LCg.CompSrc _ _ _ _ _ _ _ _ _ _ _ _ _ _)); walk1)
  rename IsRange _ _ _ _ _ _ _ _ => hrg
  rename Fr _ _ _ _ => F2
  rename News _ _ _ _ => N2
  have hn : Builtin.Range.rangeSize 0 (rs.length : Int) 1 = ((rs.length : Nat) : Int) := by
    unfold Builtin.Range.rangeSize
    split <;> omega
  have hkl : kvs.length = rs.length := hK.length
  refine CompSrc.range rfl F2 N2 hrg (small_rg0 (by omega)) hn (by rw [sizeLine_eq]; omega) fun g => ?_
  refine comp_inv rs.length (fun i ys news => news = led0 L o1 o2 o3 o4 o5 o6 o7 tl ∧ TxsAre ys ((rs.take i).zipIdx.map fun p => lineL rs.length p.2 p.1)) ?_ ?_ rs.length 0 [] _ (by omega) ⟨rfl, .nil⟩
  · rintro i ys news v hi ⟨rfl, hys⟩ hv I oI C oC D' m₂ h3 tk3 E' hC3 hx F3 N3 off ne
    obtain ⟨t3, rfl⟩ := hv
    clear F2 N2 hrg
    have m1 : Int.fmod (0 + (i : Int) + 1) 2 = (((i + 1) % 2 : Nat) : Int) := by rw [Int.zero_add]; exact fm_cast (i + 1) 2
    have m2 : Int.fmod (0 + (i : Int)) 3 = ((i % 3 : Nat) : Int) := by rw [Int.zero_add]; exact fm_cast i 3
    have m3 : Int.fmod (0 + (i : Int)) 2 = ((i % 2 : Nat) : Int) := by rw [Int.zero_add]; exact fm_cast i 2
    obtain ⟨z1, y1⟩ : 0 ≤ Int.fmod (0 + (i : Int) + 1) 2 ∧ Int.fmod (0 + (i : Int) + 1) 2 ≤ ((10 : Nat) : Int) := by rw [m1]; exact fm_ten (by decide) (by decide)
    obtain ⟨z2, y2⟩ : 0 ≤ Int.fmod (0 + (i : Int)) 3 ∧ Int.fmod (0 + (i : Int)) 3 ≤ ((10 : Nat) : Int) := by rw [m2]; exact fm_ten (by decide) (by decide)
    obtain ⟨z3, y3⟩ : 0 ≤ Int.fmod (0 + (i : Int)) 2 ∧ Int.fmod (0 + (i : Int)) 2 ≤ ((10 : Nat) : Int) := by rw [m3]; exact fm_ten (by decide) (by decide)
    obtain ⟨z4, y4⟩ : 0 ≤ (rs.length : Int) - 1 - (0 + (i : Int)) ∧ (rs.length : Int) - 1 - (0 + (i : Int)) ≤ ((10 : Nat) : Int) := by omega
    have hE : ([61] : List Nat).length ≤ 1 := Nat.le_refl _
    obtain ⟨r, hri⟩ : ∃ r, rs[i]? = some r := ⟨_, List.getElem?_eq_getElem hi⟩
    obtain ⟨kv, hkv, ra, rn, t4, t5, rfl, mrow⟩ := hK.get hri
    obtain ⟨hr1, hr2⟩ := hr r (List.mem_of_getElem? hri)
    repeat walk1
    rename News _ _ _ _ => N4
    have ez : (rs.take (i + 1)).zipIdx = (rs.take i).zipIdx ++ [(r, i)] := by
      rw [List.take_add_one, hri, show (some r).toList = [r] from rfl, List.zipIdx_append]
      simp; omega
    refine CompEnd.intro F3 N4 (led0 L o1 o2 o3 o4 o5 o6 o7 tl) (fun p hp => hp) off trivial ⟨rfl, ?_⟩
    rw [ez, List.map_append]
    refine hys.snoc ⟨_, congrArg (fun z => Value.str (Tx z) _) ?_⟩
    rw [m1, m2, m3, Int.toNat_natCast, Int.toNat_natCast, Int.toNat_natCast, show ((rs.length : Int) - 1 - (0 + (i : Int))).toNat = rs.length - 1 - i by omega]
    rfl
  · rintro ys news ⟨rfl, hys⟩
    intro D3 h3 tk3 F3 N3 off3
    rw [List.take_length] at hys
    have Y2 : FarC L ((D3, lst ys) :: tl) := FarC.cons (far_cells (o := o1) off3) Y
    exact next D3 ys h3 tk3 F3 (fun p hp => N3 p (mid_add (a := []) (b := cellsL L o1 o2 o3 o4 o5 o6 o7) hp)) Y2 hys
end Mine
end

noncomputable section
open PySem PySem.W PyProof.Rows PySem.Spec PyProof.Rows.LCg
set_option maxRecDepth 100000
set_option maxHeartbeats 4000000
namespace Mine
abbrev rawL (p j : List Nat) : List Nat := ((([10, 32] ++ p) ++ [32, 10, 32, 9, 10]) ++ j) ++ [32, 10]
section
theorem law15 : ∀ {w : World} {p : Program} {loose : List Str} {mean : ExcName → Option Value} {mg mb : Str → Option Value} {bs h : Heap} {L fa : Addr} {cd : Value} {fd : FuncData} {gn : Array GenState} {dr : Drawn} {tk : Nat} {os : OsState} {Q : Flow → Shared → Prop} {E : Value → Shared → Prop}
   (C : LC w bs fd) (X : (hd.heap_39 w.params).In bs) (T : Top p loose mean mg mb bs)
   {m : Str → Option Value} {o1 o2 o3 o4 o5 o6 o7 : Obj} {PK LN : Addr} {pvs ys : List Value} {v : Value} {tl : List (Addr × Obj)} {q : List Nat} {ls : List (List Nat)}
   (F : Fr bs L h (kstB m [("packed", .ref PK), ("lines", .ref LN)])) (N : News bs L h (led0 L o1 o2 o3 o4 o5 o6 o7 tl)) (Y : FarC L tl) (h6 : o6.data = .cell none)
   (mK : (PK, lst (pvs ++ [v])) ∈ tl) (mL : (LN, lst ys) ∈ tl) (hv : IsT v q) (hy : TxsAre ys ls) (hq : q.length ≤ 1000) (hll : ls.length ≤ 20) (hne : ls ≠ []) (hb : ∀ p ∈ ls, p.length ≤ 1000)
   (hjl : (joinL 10 ls).length ≤ 100000) (hfree : ∀ p ∈ (q ++ [32]) :: [32, 9] :: ls, 10 ∉ p) (hst : Txt.strip (Tx (rawL q (joinL 10 ls))) = Tx (joinL 10 ((q ++ [32]) :: [32, 9] :: ls))) (hj2 : (joinL 10 ((q ++ [32]) :: [32, 9] :: ls)).length ≤ 1000000)
   (next : ∀ D t u o6' h' tk', Fr bs L h' (kstB m [("packed", .ref PK), ("lines", .ref LN)]) → News bs L h' (led0 L o1 o2 o3 o4 o5 o6' o7 ((D, tupO [.str (Tx (q ++ [32])) t, .str (Tx (joinL 10 ls)) u]) :: tl)) → o6'.data = .cell (some (.ref D)) → FarC L ((D, tupO [.str (Tx (q ++ [32])) t, .str (Tx (joinL 10 ls)) u]) :: tl) → Q .next ⟨h', gn, dr, tk', os⟩),
   wpAny (model PySem.Challenge.rw_il0159_01.prog w) (callerA.deeper (lawEnv fd L fa cd)) (exec (stmtAt fd 14) (lawEnv fd L fa cd)) Q E ⟨h, gn, dr, tk, os⟩ := by
  k_with_none
  k_with "eval Constant str" => (k_here; refine const_T ?_; (simp only [lit_nl, lit_nlsp, lit_mid, lit_spnl]); intro _ _)
  k_with "binaryOp Add str str" => (k_here; (with_reducible show wpAny _ _ (binaryOp _ (Value.str (Tx _) _) (Value.str (Tx _) _)) _ _ _); refine add_T (by (simp only [List.length_append, List.length_cons, List.length_nil]; omega)) ?_; intro _ _)
  k_with "subscriptTail Name UnaryOp ref int" => (k_here; (with_reducible rename News _ _ _ _ => N'); refine lastItem_T N' (lm0 (by assumption)) ?_)
  k_with "call builtin:str.join" => (k_here; (with_reducible rename News _ _ _ _ => N'); refine joinC_T N' (lm0 (by assumption)) (by assumption) 1000 (by assumption) (by omega) ?_; intro _ _)
  k_fill
  intro w p loose mean mg mb bs h L fa cd fd gn dr tk os Q E C X T m o1 o2 o3 o4 o5 o6 o7 PK LN pvs ys v tl q ls F N Y h6 mK mL hv hy hq hll hne hb hjl hfree hst hj2 next
  obtain ⟨hfd, K0, C1, C2⟩ := C
  cases some_lit hfd (rfl : lawDef w.params = some ⟨_, _, _, _, _, _, _, _, _, _, _, _, _, _, _⟩)
  clear hfd
  obtain ⟨tv, rfl⟩ := hv
  dsimp only [stmtAt, stmtsOf, List.drop, List.headD, lawEnv]
  repeat ((fail_if_success (with_reducible show wpAny _ _ (call (Value.ref _) _) _ _ _)); walk1)
  rename Fr _ _ _ _ => F2
  rename News _ _ _ _ => N2
  refine doc_T (X.keeps F2.keep) (T.keeps F2.keep) (Nat.le_of_ble_eq_true rfl) hst (by simp only [List.length_append, List.length_cons, List.length_nil]; omega) (by omega) hne hfree hb hj2 (fun D t u h' tk' k hD hn => ?_)
  have F3 := F2.keeps k
  have N3 := news_fresh (tl := [(D, tupO [.str (Tx (q ++ [32])) t, .str (Tx (joinL 10 ls)) u])]) F2 N2 k (fun p hp => by
    rw [List.mem_singleton] at hp
    subst hp
    exact ⟨hD, hn⟩)
  have nD : ∀ p ∈ led0 L o1 o2 o3 o4 o5 o6 o7 tl, D ≠ p.1 := fun p hp e => by
    have := (N2 p hp).1
    rw [← e, hn] at this
    cases this
  have Y2 : FarC L ((D, tupO [.str (Tx (q ++ [32])) t, .str (Tx (joinL 10 ls)) u]) :: tl) := FarC.cons ⟨nD (_, o1) (by simp), nD (_, o2) (by simp), nD (_, o3) (by simp), nD (_, o4) (by simp), nD (_, o5) (by simp), nD (_, o6) (by simp), nD (_, o7) (by simp)⟩ Y
  clear F2 N2
  refine cs6 (tl := (D, tupO [.str (Tx (q ++ [32])) t, .str (Tx (joinL 10 ls)) u]) :: tl) F3 (fun p hp => N3 p (mid_add (a := []) (b := cellsL L o1 o2 o3 o4 o5 o6 o7) hp)) Y2 h6 rfl (fun h' o' F4 N4 hd4 => next D t u o' h' _ F4 N4 hd4 Y2)
end
end Mine
end

noncomputable section
open PySem PySem.W PyProof.Rows PySem.Spec
set_option maxRecDepth 100000
set_option maxHeartbeats 4000000
namespace Mine
abbrev uA (env env2 : Env) (va vb : Value) : Around := ((callerA.deeper env).deeper env2).under (.builtin "type.__call__" ⟨[.ref 217, va, vb], []⟩)
abbrev pairO (I : Addr) (a b : Value) : Obj := ⟨.ref 217, some I, .seq #[a, b] 0, #[]⟩
section
theorem pn1 : ∀ {w : World} {va vb : Value} {env env2 : Env} {h : Heap} {gn : Array GenState} {dr : Drawn} {tk : Nat} {os : OsState} {Q : Value → Shared → Prop} {E : Value → Shared → Prop} {t : Tok}
   (X : (hd.heap_39 w.params).In h)
   (hret : XRet h gn dr os Q fun v h' => v = .ref 144),
   wpAny (model PySem.Challenge.rw_il0159_01.prog w) (uA env env2 va vb) (call (.builtin "type.__getattribute__") [.ref 217, .str "__new__" t]) Q E ⟨h, gn, dr, tk, os⟩ := by
  k_with_none
  k_with "x_close" => ((rename XRet _ _ _ _ _ _ => hret'); refine hret' _ _ _ (fun _ _ e => e) rfl)
  k_fill
  intro w va vb env env2 h gn dr tk os Q E t X hret
  x_run
theorem pn3 : ∀ {w : World} {va vb : Value} {env env2 : Env} {h : Heap} {P I : Addr} {gn : Array GenState} {dr : Drawn} {tk : Nat} {os : OsState} {Q : Value → Shared → Prop} {E : Value → Shared → Prop} {a b : Str} {t u : Tok}
   (X : (hd.heap_39 w.params).In h) (hT : h.get? P = some ⟨.ref 217, some I, .seq #[.str a t, .str b u] 0, #[]⟩)
   (hret : XRet h gn dr os Q fun v h' => v = .none),
   wpAny (model PySem.Challenge.rw_il0159_01.prog w) (uA env env2 va vb) (call (.builtin "object.__init__") [.ref P, .str a t, .str b u]) Q E ⟨h, gn, dr, tk, os⟩ := by
  k_with_none
  k_with "x_close" => ((rename XRet _ _ _ _ _ _ => hret'); refine hret' _ _ _ (fun _ _ e => e) rfl)
  k_fill
  intro w va vb env env2 h P I gn dr tk os Q E a b t u X hT hret
  x_run
end
section
theorem pn2 : ∀ {w : World} {va vb : Value} {env env2 env3 : Env} {h : Heap} {T : Addr} {gn : Array GenState} {dr : Drawn} {tk : Nat} {os : OsState} {Q : Value → Shared → Prop} {E : Value → Shared → Prop} {a b : Value}
   (X : (hd.heap_39 w.params).In h) (hT : h.get? T = some ⟨.type "tuple", none, .seq #[a, b] 0, #[]⟩)
   (hret : XRet h gn dr os Q fun v h' => ∃ P I oI, v = .ref P ∧ h'.get? P = some (pairO I a b) ∧ h.get? P = none ∧ h'.get? I = some oI ∧ h.get? I = none),
   wpAny (model PySem.Challenge.rw_il0159_01.prog w) ((uA env env2 va vb).deeper env3) (call (.builtin "tuple.__new__") [.ref 217, .ref T]) Q E ⟨h, gn, dr, tk, os⟩ := by
  k_with_none
  k_with "x_close" => (rename XRet _ _ _ _ _ _ => hret'; rename PySem.W.X.Mem _ _ _ _ => D'; exact hret' _ _ _ (XMem.kp D') ⟨_, _, _, rfl, PySem.W.X.Mem.at D' 0 _ _ rfl, (PySem.W.X.Mem.nw D' _ (.head _)).2, PySem.W.X.Mem.at D' 1 _ _ rfl, (PySem.W.X.Mem.nw D' _ (.tail _ (.head _))).2⟩)
  k_fill
  intro w va vb env env2 env3 h T gn dr tk os Q E a b X hT hret
  x_run
end
section
theorem pn4 : ∀ {w : World} {env env2 : Env} {h : Heap} {LS : Addr} {gn : Array GenState} {dr : Drawn} {tk : Nat} {os : OsState} {Q : Value → Shared → Prop} {E : Value → Shared → Prop} {a b : Str} {t u : Tok}
   (X : (hd.heap_39 w.params).In h) (hT : h.get? LS = some ⟨.type "list", none, .seq #[.str a t, .str b u] 0, #[]⟩)
   (hret : XRet h gn dr os Q fun v h' => ∃ M TU IT, v = .ref M ∧ h'.get? M = some ⟨.type "map", none, .fields #[.ref TU, .builtin "str.strip"], #[]⟩ ∧ h'.get? TU = some ⟨.type "tuple", none, .seq #[.ref IT] 0, #[]⟩ ∧ h'.get? IT = some ⟨.type "list_iterator", none, .fields #[.ref LS, .int 0 0], #[]⟩ ∧ h.get? IT = none),
   wpAny (model PySem.Challenge.rw_il0159_01.prog w) ((callerA.deeper env).deeper env2) (call (.type "map") [.builtin "str.strip", .ref LS]) Q E ⟨h, gn, dr, tk, os⟩ := by
  k_with_none
  k_with "x_close" => (rename XRet _ _ _ _ _ _ => hret'; rename PySem.W.X.Mem _ _ _ _ => D'; exact hret' _ _ _ (XMem.kp D') ⟨_, _, _, rfl, PySem.W.X.Mem.at D' 0 _ _ rfl, PySem.W.X.Mem.at D' 1 _ _ rfl, PySem.W.X.Mem.at D' 2 _ _ rfl, (PySem.W.X.Mem.nw D' _ (.tail _ (.tail _ (.head _)))).2⟩)
  k_fill
  intro w env env2 h LS gn dr tk os Q E a b t u X hT hret
  x_run
end
theorem type_tga : typeOf (.builtin "type.__getattribute__") = pure (.type "wrapper_descriptor") := by show builtinType _ = _; rw [builtinType_eq_fast]; kernel_rfl
theorem bind_tga (self : Value) : bindSpecial (.builtin "type.__getattribute__") self = pure (.builtin "type.__getattribute__", [self]) := by
  unfold bindSpecial
  rw [type_tga]
  rfl
theorem look_tga : typeLookup (.type "type") "__getattribute__" = pure (some (.builtin "type.__getattribute__")) := by rw [typeLookup_type, builtinLookup_eq_fast]; kernel_rfl
theorem new_getAttr : ∀ {w : World} {A : Around} {h : Heap} {gn : Array GenState} {dr : Drawn} {tk : Nat} {os : OsState} {Q : Value → Shared → Prop} {E : Value → Shared → Prop}
   (X : (hd.heap_39 w.params).In h)
   (hget : ∀ tk tk' Q E, (∀ h' tk', Kp h h' → Q (.ref 144) ⟨h', gn, dr, tk', os⟩) → wpAny (model PySem.Challenge.rw_il0159_01.prog w) A (call (.builtin "type.__getattribute__") [.ref 217, .str "__new__" tk]) Q E ⟨h, gn, dr, tk', os⟩)
   (q : ∀ h' tk', Kp h h' → Q (.ref 144) ⟨h', gn, dr, tk', os⟩),
   wpAny (model PySem.Challenge.rw_il0159_01.prog w) A (getAttr (.ref 217) "__new__") Q E ⟨h, gn, dr, tk, os⟩ := by
  k_fill
  intro w A h gn dr tk os Q E X hget q
  unfold getAttr getAttrBy
  refine wpAny_bind (wpAny_mkText (wpAny_holding (wpAny_bind (Looks.here (s := ⟨h, gn, dr, tk + 1, os⟩) (looks_typeIn X (t := .type "type") (by k_is)) (wpAny_bind (wpAny_of_eq look_tga ?_))))))
  show wpAny _ _ (getAttrByItsOwn (.ref 217) (.str "__new__" tk) (.type "type") (.builtin "type.__getattribute__") true _) _ _ _
  unfold getAttrByItsOwn
  refine wpAny_bind (wpAny_of_eq (show hookBefore (.type "type") = pure none from rfl) ?_)
  refine wpAny_bind (wpAny_attempt (wpAny_holding ?_))
  show wpAny _ _ (boundAndCalled (.builtin "type.__getattribute__") (.ref 217) (.str "__new__" tk)) _ _ _
  unfold boundAndCalled
  refine wpAny_bind (wpAny_of_eq (bind_tga _) ?_)
  exact hget tk _ _ _ (fun h' tk' k => wpAny_pure (q h' tk' k))
section
theorem pn5 : ∀ {w : World} {va vb : Value} {env env2 env3 : Env} {h : Heap} {gn : Array GenState} {dr : Drawn} {tk : Nat} {os : OsState} {Q : Value → Shared → Prop} {E : Value → Shared → Prop} {t : Tok}
   (X : (hd.heap_39 w.params).In h)
   (hret : XRet h gn dr os Q fun v h' => v = .builtin "tuple.__new__"),
   wpAny (model PySem.Challenge.rw_il0159_01.prog w) ((uA env env2 va vb).deeper env3) (call (.builtin "type.__getattribute__") [.type "tuple", .str "__new__" t]) Q E ⟨h, gn, dr, tk, os⟩ := by
  k_with_none
  k_with "x_close" => ((rename XRet _ _ _ _ _ _ => hret'); refine hret' _ _ _ (fun _ _ e => e) rfl)
  k_fill
  intro w va vb env env2 env3 h gn dr tk os Q E t X hret
  x_run
theorem pn6 : ∀ {w : World} {env env2 : Env} {h : Heap} {gn : Array GenState} {dr : Drawn} {tk : Nat} {os : OsState} {Q : Value → Shared → Prop} {E : Value → Shared → Prop} {t : Tok}
   (X : (hd.heap_39 w.params).In h)
   (hret : XRet h gn dr os Q fun v h' => v = .builtin "str.strip"),
   wpAny (model PySem.Challenge.rw_il0159_01.prog w) ((callerA.deeper env).deeper env2) (call (.builtin "type.__getattribute__") [.type "str", .str "strip" t]) Q E ⟨h, gn, dr, tk, os⟩ := by
  k_with_none
  k_with "x_close" => ((rename XRet _ _ _ _ _ _ => hret'); refine hret' _ _ _ (fun _ _ e => e) rfl)
  k_fill
  intro w env env2 h gn dr tk os Q E t X hret
  x_run
theorem pn7 : ∀ {w : World} {env env2 : Env} {h : Heap} {gn : Array GenState} {dr : Drawn} {tk : Nat} {os : OsState} {Q : Value → Shared → Prop} {E : Value → Shared → Prop} {t : Tok}
   (X : (hd.heap_39 w.params).In h)
   (hret : XRet h gn dr os Q fun v h' => v = .builtin "tuple.__getitem__"),
   wpAny (model PySem.Challenge.rw_il0159_01.prog w) ((callerA.deeper env).deeper env2) (call (.builtin "type.__getattribute__") [.type "tuple", .str "__getitem__" t]) Q E ⟨h, gn, dr, tk, os⟩ := by
  k_with_none
  k_with "x_close" => ((rename XRet _ _ _ _ _ _ => hret'); refine hret' _ _ _ (fun _ _ e => e) rfl)
  k_fill
  intro w env env2 h gn dr tk os Q E t X hret
  x_run
end
theorem metaTuple : typeOf (.type "tuple") = pure (.type "type") := PySem.TypeEq.meta_tuple {}
theorem metaStr : typeOf (.type "str") = pure (.type "type") := PySem.TypeEq.meta_str {}
section
variable {prog : Program} {w : World} {A : Around} {h : Heap} {gn : Array GenState} {dr : Drawn} {tk : Nat} {os : OsState} {E : Value → Shared → Prop} {T : String} {name : Str} {v : Value} {b : Bool}
/-- an attribute of a built-in type -/
theorem type_getAttr {Q : Value → Shared → Prop} (ht : typeOf (.type T) = pure (.type "type")) (hh : handedOut v = pure v)
   (hget : ∀ tk tk' Q E, (∀ h' tk', Kp h h' → Q v ⟨h', gn, dr, tk', os⟩) → wpAny (model prog w) A (call (.builtin "type.__getattribute__") [.type T, .str name tk]) Q E ⟨h, gn, dr, tk', os⟩)
   (q : ∀ h' tk', Kp h h' → Q v ⟨h', gn, dr, tk', os⟩) :
   wpAny (model prog w) A (getAttr (.type T) name b) Q E ⟨h, gn, dr, tk, os⟩ := by
  unfold getAttr getAttrBy
  refine wpAny_bind (wpAny_mkText (wpAny_holding (wpAny_bind (wpAny_of_eq ht (wpAny_bind (wpAny_of_eq look_tga ?_))))))
  show wpAny _ _ (getAttrByItsOwn (.type T) (.str name tk) (.type "type") (.builtin "type.__getattribute__") true _) _ _ _
  unfold getAttrByItsOwn
  refine wpAny_bind (wpAny_of_eq (show hookBefore (.type "type") = pure none from rfl) ?_)
  refine wpAny_bind (wpAny_attempt (wpAny_holding ?_))
  have e : callGetattribute (.type T) (.str name tk) (.builtin "type.__getattribute__") b = boundAndCalled (.builtin "type.__getattribute__") (.type T) (.str name tk) := by
    cases b <;> rfl
  rw [e]
  unfold boundAndCalled
  refine wpAny_bind (wpAny_of_eq (bind_tga _) ?_)
  exact hget tk _ _ _ (fun h' tk' k => wpAny_of_eq hh (q h' tk' k))
theorem type_getMethod {Q : Value × List Value → Shared → Prop} {pl : Sem Bool} (ht : typeOf (.type T) = pure (.type "type")) (hh : handedOut v = pure v)
   (hget : ∀ tk tk' Q E, (∀ h' tk', Kp h h' → Q v ⟨h', gn, dr, tk', os⟩) → wpAny (model prog w) A (call (.builtin "type.__getattribute__") [.type T, .str name tk]) Q E ⟨h, gn, dr, tk', os⟩)
   (q : ∀ h' tk', Kp h h' → Q (v, []) ⟨h', gn, dr, tk', os⟩) :
   wpAny (model prog w) A (getMethod (.type T) name pl) Q E ⟨h, gn, dr, tk, os⟩ := by
  unfold getMethod specialOf
  refine wpAny_bind (wpAny_bind (wpAny_of_eq ht (wpAny_of_eq look_tga ?_)))
  dsimp only
  rw [if_pos canon_tga]
  exact wpAny_bind (type_getAttr ht hh hget fun h' tk' k => wpAny_pure (q h' tk' k))
end
end Mine
end

noncomputable section
open PySem PySem.W PyProof.Rows PySem.Spec
set_option maxRecDepth 100000
set_option maxHeartbeats 4000000
namespace Mine
theorem Top.kp' {p : Program} {loose : List Str} {mean : ExcName → Option Value} {mg mb : Str → Option Value} {h h' : Heap} (T : Top p loose mean mg mb h) (k : Kp h h') : Top p loose mean mg mb h' := T.keeps k
theorem fr_selfX {b h : Heap} {L : Addr} {m : Str → Option Value} {ps : List (Str × Value)} (F : Fr b L h m) (hp : ∀ p ∈ ps, m p.1 = some p.2) : Fr b L h (kstB m ps) := kstB_self hp ▸ F
theorem get_back {h h' : Heap} {a : Addr} (k : Kp h h') (e : h'.get? a = none) : h.get? a = none := by
  cases z : h.get? a with
  | none => rfl
  | some o => have := k _ _ z; rw [e] at this; cases this
theorem c_new : ∀ {w : World} {env env2 : Env} {h : Heap} {gn : Array GenState} {dr : Drawn} {tk : Nat} {os : OsState} {Q E : Value → Shared → Prop} {p : Program} {loose : List Str} {mean : ExcName → Option Value} {mg mb : Str → Option Value} {a b : Value}
   (X : (hd.heap_39 w.params).In h) (T : Top p loose mean mg mb h)
   (q : ∀ P I oI h' tk', Kp h h' → h'.get? P = some (pairO I a b) → h.get? P = none → h'.get? I = some oI → h.get? I = none → Q (.ref P) ⟨h', gn, dr, tk', os⟩),
   wpAny (model PySem.Challenge.rw_il0159_01.prog w) (uA env env2 a b) (call (.ref 144) [.ref 217, a, b]) Q E ⟨h, gn, dr, tk, os⟩ := by
  k_with_none
  k_fill
  intro w env env2 h gn dr tk os Q E p loose mean mg mb a b X T q
  refine wpAny_call (enter_cells (s := ⟨h, gn, dr, tk, os⟩) (led := []) (binds := [("_cls", .ref 217), ("name", a), ("value", b)]) (fun p hp => nomatch hp) T.nolimit (X 144 _ (by k_is)) rfl (codeRec_of X (by k_is)) (Nat.le_of_ble_eq_true rfl) rfl (fun n x hx => by
    simp only [List.mem_cons, List.not_mem_nil, or_false] at hx
    rcases hx with rfl | rfl | rfl <;> exact .inl rfl) (by decide) (fun L h₁ tk cells F N Y lt eL => ?_))
  cases Y
  have hide : hideAll h (([] : List (Addr × Obj)).map (·.1)) = h := by first | rfl | simp [hideAll]
  rw [hide] at F N
  replace F := fr_selfX (ps := [("_cls", .ref 217), ("name", a), ("value", b)]) F (List.forall_mem_cons.mpr ⟨rfl, List.forall_mem_cons.mpr ⟨rfl, List.forall_mem_cons.mpr ⟨rfl, fun _ h => nomatch h⟩⟩⟩)
  iterate 7 walk1
  have X1 : (hd.heap_39 w.params).In h₁ := fun x o e => F.keep x o (X x o e)
  refine type_getMethod (T := "tuple") (name := Str.ofString "__new__") (v := .builtin "tuple.__new__") ?a ?b ?c ?_
  case a => exact metaTuple
  case b => rfl
  case c =>
    intro tk tk' Q E hq
    refine pn5 X1 ?_
    rintro v h' tk'' k rfl
    exact hq h' tk'' k
  intro h2 tk2 k2
  replace F := F.keeps k2
  replace N : News h L h2 [] := fun p hp => nomatch hp
  repeat ((fail_if_success (with_reducible show wpAny _ _ (call _ _) _ _ _)); walk1)
  rename Fr _ _ _ _ => F3
  rename News _ _ _ _ => N3
  refine pn2 (fun x o e => F3.keep x o (X x o e)) (N3 _ (.head _)).1 ?_
  rintro v h' tk' k ⟨P, I, oI, rfl, hP, hn, hI, hnI⟩
  refine q P I oI h' tk' (fun x o e => k x o (F3.keep x o e)) hP (get_back F3.keep hn) hI (get_back F3.keep hnI)
theorem make_pair : ∀ {w : World} {env env2 : Env} {h : Heap} {gn : Array GenState} {dr : Drawn} {tk : Nat} {os : OsState} {Q E : Value → Shared → Prop} {p : Program} {loose : List Str} {mean : ExcName → Option Value} {mg mb : Str → Option Value} {a b : Str} {t u : Tok}
   (X : (hd.heap_39 w.params).In h) (T : Top p loose mean mg mb h)
   (q : ∀ P I oI h' tk', Kp h h' → h'.get? P = some (pairO I (.str a t) (.str b u)) → h.get? P = none → h'.get? I = some oI → h.get? I = none → Q (.ref P) ⟨h', gn, dr, tk', os⟩),
   wpAny (model PySem.Challenge.rw_il0159_01.prog w) ((callerA.deeper env).deeper env2) (call (.ref 217) [.str a t, .str b u]) Q E ⟨h, gn, dr, tk, os⟩ := by
  k_fill
  intro w env env2 h gn dr tk os Q E p loose mean mg mb a b t u X T q
  have call := looks_specialIn (M := model PySem.Challenge.rw_il0159_01.row.prog w) X (v := .ref 217) (name := "__call__") (r := some (.builtin "type.__call__")) (by k_is)
  have typ := looks_instIn (M := model PySem.Challenge.rw_il0159_01.row.prog w) X (v := .ref 217) (base := .type "type") (r := true) (by k_is)
  have hm : Looks (model PySem.Challenge.rw_il0159_01.row.prog w) h (mroOf (.ref 217)) [.ref 217, .ref 194, .type "tuple", .type "object"] := (looks_clsIn X (by k_is)).andThen .now
  have made : Looks (model PySem.Challenge.rw_il0159_01.row.prog w) h (Bind.madeBy (.ref 217)) none := Looks.of_peek X (by kernel_rfl)
  refine wpAny_call (codeAny_of_tree ?_)
  show wpAny _ _ (callAny (.ref 217) _) _ _ _
  refine nd_load (X 217 _ (by k_is)) ?_
  show wpAny _ _ (callAny.viaDunder (.ref 217) _) _ _ _
  unfold callAny.viaDunder
  refine wpAny_bind (call.at ?_)
  dsimp only
  rw [tc_bind]
  refine wpAny_bind (wpAny_pure (wpAny_bind (wpAny_pure ?_)))
  refine wpAny_pure (a := Fin.again (.call (.builtin "type.__call__") ⟨[.ref 217, .str a t, .str b u], []⟩)) (And.intro rfl ?_)
  refine codeAny_call_builtin_at (Code.quiet_builtin _ (by decide +kernel)) entry_typeCall (check_slot tc_kind tc_split typ (tc_args _ _ _) ?_)
  unfold Builtin.«type.__call__»
  show wpAny _ _ (mroOf (.ref 217) >>= _) _ _ _
  refine wpAny_bind (Looks.at hm ?_)
  show wpAny _ _ (Bind.madeBy (.ref 217) >>= _) _ _ _
  refine wpAny_bind (Looks.at made ?_)
  refine wpAny_bind (new_getAttr X ?_ ?_)
  · intro tk tk' Q E hq
    refine pn1 X ?_
    rintro v h' tk'' k rfl
    exact hq h' tk'' k
  intro h1 tk1 k1
  have X1 : (hd.heap_39 w.params).In h1 := fun x o e => k1 x o (X x o e)
  refine wpAny_bind (wpAny_holding (c_new X1 (T.keeps k1) (fun P I oI h2 tk2 k2 hP hn hI hnI => ?_)))
  have X2 : (hd.heap_39 w.params).In h2 := fun x o e => k2 x o (X1 x o e)
  have k12 : Kp h h2 := fun x o e => k2 x o (k1 x o e)
  have t1 : Looks (model PySem.Challenge.rw_il0159_01.row.prog w) h2 (typeOf (.ref P)) (.ref 217) := (Looks.ld hP).andThen .now
  have s1 : Looks (model PySem.Challenge.rw_il0159_01.row.prog w) h2 (isSubtype (.ref 217) (.ref 217)) true := looks_mroIn X2 (by k_is)
  have i1 : Looks (model PySem.Challenge.rw_il0159_01.row.prog w) h2 (typeLookup (.ref 217) "__init__") (some (.builtin "object.__init__")) := looks_findIn X2 (by k_is)
  have b1 : Looks (model PySem.Challenge.rw_il0159_01.row.prog w) h2 (bindSpecial (.builtin "object.__init__") (.ref P)) (.builtin "object.__init__", [.ref P]) := Looks.of_pure (oi_bind _)
  refine wpAny_bind ?_
  unfold isInstance
  refine wpAny_bind (Looks.at t1 (Looks.at s1 ?_))
  simp only [Bool.not_true, Bool.false_eq_true, if_false]
  refine wpAny_bind (wpAny_holding ?_)
  unfold callSpecial? specialOf
  refine wpAny_bind (wpAny_bind (Looks.at t1 (Looks.at i1 ?_)))
  dsimp only
  refine wpAny_holding (wpAny_bind (Looks.at b1 (wpAny_bind ?_)))
  refine pn3 X2 hP ?_
  rintro v h3 tk3 k3 rfl
  refine wpAny_pure ?_
  have hP3 := k3 _ _ hP
  show wpAny _ _ (pure (Fin.done (.ret (.ref P)))) _ _ _
  exact wpAny_pure (q P I oI h3 tk3 (fun x o e => k3 x o (k12 x o e)) hP3 (get_back k1 hn) (k3 _ _ hI) (get_back k1 hnI))
end Mine
end

noncomputable section
open PySem PySem.W PyProof.Rows PySem.Spec
set_option maxRecDepth 100000
set_option maxHeartbeats 4000000
namespace Mine
theorem slot_mapN : Slot "map" "__next__" "map.__next__" := .of (owner := "map") (n := "__next__") (by rw [typeLookup_type, builtinLookup_eq_fast]; kernel_rfl) (by decide +kernel) (by decide +kernel) (by decide +kernel) (by first | exact .inl (by decide +kernel) | exact .inr (by decide +kernel)) (by rw [isSubtype_type]; kernel_rfl)
theorem slot_mapI : Slot "map" "__iter__" "map.__iter__" := .of (owner := "map") (n := "__iter__") (by rw [typeLookup_type, builtinLookup_eq_fast]; kernel_rfl) (by decide +kernel) (by decide +kernel) (by decide +kernel) (by first | exact .inl (by decide +kernel) | exact .inr (by decide +kernel)) (by rw [isSubtype_type]; kernel_rfl)
theorem entry_mapN : entryFor table "map.__next__" = some Builtin.«map.__next__» := entryFor_of_tree (by kernel_rfl)
theorem entry_mapI : entryFor table "map.__iter__" = some Builtin.«dict_keyiterator.__iter__» := entryFor_alias (id' := "dict_keyiterator.__iter__") (by kernel_rfl) rfl (by decide +kernel) (by kernel_rfl)
theorem args_mapN (a : Value) : argsOk "map.__next__" ⟨[a], []⟩ := by unfold argsOk; kernel_rfl
theorem args_mapI (a : Value) : argsOk "map.__iter__" ⟨[a], []⟩ := by unfold argsOk; kernel_rfl
theorem nolen_map : typeLookup (.type "map") "__len__" = pure none := by rw [typeLookup_type, builtinLookup_eq_fast]; kernel_rfl
theorem nohint_map : typeLookup (.type "map") "__length_hint__" = pure none := by rw [typeLookup_type, builtinLookup_eq_fast]; kernel_rfl
abbrev mapO (TU : Addr) : Obj := ⟨.type "map", none, .fields #[.ref TU, .builtin "str.strip"], #[]⟩
structure MapSt (M TU IT LS : Addr) (x1 x2 : List Nat) (t1 t2 : Tok) (i : Nat) (h : Heap) : Prop where
  m : h.get? M = some (mapO TU)
  tu : h.get? TU = some (tupO [.ref IT])
  it : h.IsListIter IT LS i
  ls : h.IsList LS #[.str (Tx x1) t1, .str (Tx x2) t2]
section
variable {prog : Program} {w : World} {A : Around} {M TU IT LS : Addr} {x1 x2 y1 y2 : List Nat} {t1 t2 : Tok}
theorem MapSt.ne {i : Nat} {h : Heap} (H : MapSt M TU IT LS x1 x2 t1 t2 i h) : IT ≠ M ∧ IT ≠ TU ∧ IT ≠ LS := by
  obtain ⟨o, e, hc, _⟩ := H.it
  obtain ⟨o2, e2, hc2, _⟩ := H.ls
  refine ⟨fun z => ?_, fun z => ?_, fun z => ?_⟩
  · rw [z, H.m] at e
    have e' := Option.some.inj e
    rw [← e'] at hc
    exact absurd (Value.type.inj hc) (by decide)
  · rw [z, H.tu] at e
    have e' := Option.some.inj e
    rw [← e'] at hc
    exact absurd (Value.type.inj hc) (by decide)
  · rw [z, e2] at e
    have := congrArg Obj.cls (Option.some.inj e)
    rw [hc, hc2] at this
    exact absurd this (by decide)
theorem two_pick {x1 x2 y1 y2 : List Nat} {t1 t2 : Tok} (e1 : Txt.strip (Tx x1) = Tx y1) (e2 : Txt.strip (Tx x2) = Tx y2) (z1 : x1.length ≤ 1000) (z2 : x2.length ≤ 1000) (i : Nat) (hi : i < 2) :
   ∃ x y t, (#[.str (Tx x1) t1, .str (Tx x2) t2] : Array Value)[i]? = some (.str (Tx x) t) ∧ Txt.strip (Tx x) = Tx y ∧ x.length ≤ 1000 ∧ y = (if i = 0 then y1 else y2) := by
  match i, hi with
  | 0, _ => exact ⟨x1, y1, t1, rfl, e1, z1, rfl⟩
  | 1, _ => exact ⟨x2, y2, t2, rfl, e2, z2, rfl⟩
theorem map_item (e1 : Txt.strip (Tx x1) = Tx y1) (e2 : Txt.strip (Tx x2) = Tx y2) (z1 : x1.length ≤ 1000) (z2 : x2.length ≤ 1000) (i : Nat) (s : Shared) (Q : Option Value → Shared → Prop) (E : Value → Shared → Prop) (hi : i < 2) (st : MapSt M TU IT LS x1 x2 t1 t2 i s.heap)
   (hQ : ∀ v h' tk, IsT v (if i = 0 then y1 else y2) → MapSt M TU IT LS x1 x2 t1 t2 (i + 1) h' → (∀ b o, b ∉ [IT] → s.heap.get? b = some o → h'.get? b = some o) → Q (some v) { s with heap := h', toks := tk }) :
   wpAny (model prog w) A (pyNext (.ref M)) Q E s := by
  have hT : s.TypeIs (.ref M) "map" := ⟨_, st.m, rfl⟩
  obtain ⟨n1, n2, n3⟩ := st.ne
  have hit := st.it
  obtain ⟨oi, hoi, hci, hdi⟩ := id hit
  obtain ⟨ol, hol, hcl, nl, hdl⟩ := id st.ls
  unfold pyNext
  refine wpAny_bind (wpAny_attempt (wpAny_callSpecial?_slot (name := Str.ofString "__next__") hT slot_mapN (wpAny_call_entry slot_mapN hT entry_mapN ?_ (args_mapN _))))
  unfold Builtin.«map.__next__»
  refine wpAny_bind (wpAny_pure ?_)
  refine wpAny_bind (wpAny_field st.m rfl (x := .ref TU) rfl ?_)
  refine wpAny_bind (wpAny_seqItems st.tu rfl ?_)
  dsimp only
  rw [← Array.forIn_toList]
  simp only [List.forIn_cons, List.forIn_nil]
  refine wpAny_bind (wpAny_bind (wpAny_bind (wpAny_holding ?_)))
  obtain ⟨x, y, t, hv, ey, zx, hy⟩ := two_pick (t1 := t1) (t2 := t2) e1 e2 z1 z2 i hi
  obtain ⟨hp, gn, dr, tk, os⟩ := s
  refine wpAny_nextOf_list_item hit st.ls hv (fun h1 hit1 hs1 => ?_)
  refine wpAny_pure ?_
  refine wpAny_pure ?_
  have hM1 : h1.get? M = some (mapO TU) := hs1.extBut _ _ (Ne.symm n1) st.m
  show wpAny _ _ (field (.ref M) 1 >>= _) _ _ _
  refine wpAny_bind (wpAny_field hM1 rfl (x := .builtin "str.strip") rfl ?_)
  refine wpAny_bind (wpAny_holding ?_)
  show wpAny _ _ (call (.builtin "str.strip") [.str (Tx x) t]) _ _ _
  refine stripC_T ey (by omega) fun t' k => ?_
  refine wpAny_bind (wpAny_letGo ?_)
  refine wpAny_pure ⟨_, rfl, wpAny_pure ?_⟩
  refine hQ _ h1 k ⟨t', congrArg (fun z => Value.str (Tx z) t') hy⟩ ⟨hM1, hs1.extBut _ _ (Ne.symm n2) st.tu, hit1, ?_⟩ (fun b o hb e => hs1.extBut _ _ (by simpa using hb) e)
  exact st.ls.at fun o e => hs1.extBut _ _ (Ne.symm n3) e
theorem map_done (hh : A.handled = none) (s : Shared) (Q : Option Value → Shared → Prop) (E : Value → Shared → Prop) (st : MapSt M TU IT LS x1 x2 t1 t2 2 s.heap)
   (hQ : ∀ h' tk, (∀ b o, b ∉ [IT] → s.heap.get? b = some o → h'.get? b = some o) → Q none { s with heap := h', toks := tk }) :
   wpAny (model prog w) A (pyNext (.ref M)) Q E s := by
  have hT : s.TypeIs (.ref M) "map" := ⟨_, st.m, rfl⟩
  unfold pyNext
  refine wpAny_bind (wpAny_attempt (wpAny_callSpecial?_slot (name := Str.ofString "__next__") hT slot_mapN (wpAny_call_entry slot_mapN hT entry_mapN ?_ (args_mapN _))))
  unfold Builtin.«map.__next__»
  refine wpAny_bind (wpAny_pure ?_)
  refine wpAny_bind (wpAny_field st.m rfl (x := .ref TU) rfl ?_)
  refine wpAny_bind (wpAny_seqItems st.tu rfl ?_)
  dsimp only
  rw [← Array.forIn_toList]
  simp only [List.forIn_cons, List.forIn_nil]
  refine wpAny_bind (wpAny_bind (wpAny_bind (wpAny_holding ?_)))
  obtain ⟨hp, gn, dr, tk, os⟩ := s
  refine wpAny_nextOf_list_end (A := A.in1) hh st.it st.ls rfl (fun h1 e k1 he => ?_)
  refine wpAny_bind (wpAny_isInstance (T := "StopIteration") (b := true) he isSubtype_stop ?_)
  exact wpAny_pure (hQ h1 _ fun b o hb e => k1 b o (by simpa using hb) e)
theorem map_self (s : Shared) (Q : Value → Shared → Prop) (E : Value → Shared → Prop) (hm : s.heap.get? M = some (mapO TU)) (hQ : Q (.ref M) s) : wpAny (model prog w) A (pyIter (.ref M)) Q E s := by
  have hT : s.TypeIs (.ref M) "map" := ⟨_, hm, rfl⟩
  refine wpAny_pyIter_slot hT slot_mapI (wpAny_call_entry slot_mapI hT entry_mapI ?_ (args_mapI _))
  show wpAny _ _ (ret (.ref M)) _ _ s
  exact wpAny_pure ⟨_, rfl, "map", _, hT, slot_mapN.lookup, hQ⟩
theorem map_walks (hh : A.handled = none) (e1 : Txt.strip (Tx x1) = Tx y1) (e2 : Txt.strip (Tx x2) = Tx y2) (z1 : x1.length ≤ 1000) (z2 : x2.length ≤ 1000) :
   Walks prog w A M [M, TU, IT, LS] [IT] 2 (fun i v => IsT v (if i = 0 then y1 else y2)) (MapSt M TU IT LS x1 x2 t1 t2) where
  sub := by simp
  frame := fun i h h' st k => ⟨k M (by simp) _ st.m, k TU (by simp) _ st.tu, st.it.at fun o e => k IT (by simp) o e, st.ls.at fun o e => k LS (by simp) o e⟩
  item := fun i s Q E hi st hQ => map_item e1 e2 z1 z2 i s Q E hi st hQ
  done := fun s Q E st hQ => map_done hh s Q E st hQ
  self := fun i s Q E st hQ => map_self s Q E st.m hQ
theorem mapSt_type {i : Nat} {s : Shared} (st : MapSt M TU IT LS x1 x2 t1 t2 i s.heap) : s.TypeIs (.ref M) "map" := ⟨_, st.m, rfl⟩
theorem collect_map {E : Value → Shared → Prop} {s : Shared} {Q : List Value → Shared → Prop} (hh : A.handled = none) (e1 : Txt.strip (Tx x1) = Tx y1) (e2 : Txt.strip (Tx x2) = Tx y2) (z1 : x1.length ≤ 1000) (z2 : x2.length ≤ 1000) (hst : MapSt M TU IT LS x1 x2 t1 t2 0 s.heap)
   (hQ : ∀ v1 v2 h' tk, IsT v1 y1 → IsT v2 y2 → (∀ b o, b ≠ IT → s.heap.get? b = some o → h'.get? b = some o) → Q [v1, v2] { s with heap := h', toks := tk }) :
   wpAny (model prog w) A (collect (.ref M)) Q E s := by
  have W := (map_walks (prog := prog) (w := w) (A := A.in1) (M := M) (TU := TU) (IT := IT) (LS := LS) (t1 := t1) (t2 := t2) hh e1 e2 z1 z2).toS
  have hlt : ∀ b ∈ [M, TU, IT, LS], b < s.heap.objs.size := fun b hb => by
    simp only [List.mem_cons, List.not_mem_nil, or_false] at hb
    obtain ⟨o1, f1, _⟩ := hst.it
    obtain ⟨o2, f2, _⟩ := hst.ls
    rcases hb with rfl | rfl | rfl | rfl
    · exact Heap.lt_size hst.m
    · exact Heap.lt_size hst.tu
    · exact Heap.lt_size f1
    · exact Heap.lt_size f2
  have hSf : s.heap.objs.size ∉ [M, TU, IT, LS] := fun hm => Nat.lt_irrefl _ (hlt _ hm)
  have hSI : s.heap.objs.size ≠ M := fun e => hSf (e ▸ List.mem_cons_self)
  unfold collect
  refine wpAny_bind (wpAny_runValue (codeAny_builtin PySem.F.entry_proto_collect ?_))
  rw [Around.under_plainId PySem.F.plain_proto_collect _]
  show wpAny _ A.in1 (newList [] >>= fun l => again (.builtin "list.__iadd__" ⟨[l, .ref M], []⟩)) _ _ s
  refine wpAny_bind (wpAny_newObj_type ?_)
  refine wpAny_pure ⟨plainId_quiet PySem.F.plain_list_iadd _, codeAny_builtin PySem.F.entry_list_iadd ?_⟩
  rw [Around.under_plainId PySem.F.plain_list_iadd _]
  have hst₁ := W.frame 0 s (s.heap.push { cls := .type "list", data := .seq ([] : List Value).toArray }) s.toks hst (Nat.le_refl _) fun b _ o e => Heap.get?_push_of_some _ e
  show wpAny _ A.in1 (Builtin.List.listExtendWith (.ref s.heap.objs.size) (.ref M) (.ref s.heap.objs.size)) _ _ _
  unfold Builtin.List.listExtendWith
  refine wpAny_bind (wpAny_typeOf (mapSt_type hst₁) ?_)
  have h1 : Builtin.List.listSameRef (.ref s.heap.objs.size) (.ref M) = false := by simp [Builtin.List.listSameRef, hSI]
  have h2 : (Value.type "map" == Value.type "list") = false := by decide
  have h3 : (Value.type "map" == Value.type "tuple") = false := by decide
  simp only [h1, h2, h3, Bool.or_false, Bool.false_eq_true, if_false]
  refine wpAny_bind (W.self 0 _ _ _ hst₁ ?_)
  refine wpAny_bind (wpAny_holding ?_)
  unfold Builtin.List.listLengthHint
  refine wpAny_bind (wpAny_specialOf (mapSt_type hst₁) nolen_map ?_)
  show wpAny _ A.in1 (specialOf (Value.ref M) (Str.ofString "__length_hint__") >>= _) _ _ _
  refine wpAny_bind (wpAny_specialOf (mapSt_type hst₁) nohint_map ?_)
  refine wpAny_pure ?_
  show wpAny _ A.in1 (rule "list.extend.makes-room" >>= fun _ => Builtin.List.listTouch (.ref s.heap.objs.size) >>= fun _ =>
    again (.builtin "list.extend.loop" ⟨[.ref s.heap.objs.size, .ref M, .ref s.heap.objs.size], []⟩)) _ _ _
  refine wpAny_bind (wpAny_rule ?_)
  have hS₁ : (s.heap.push { cls := .type "list", data := .seq ([] : List Value).toArray }).get? s.heap.objs.size = some { cls := .type "list", data := .seq ([] : List Value).toArray } := Heap.get?_push_size _ rfl
  refine wpAny_bind ?_
  show wpAny _ A.in1 (updateSeq s.heap.objs.size (·.push .none) >>= fun _ => updateSeq s.heap.objs.size (·.pop)) _ _ _
  refine wpAny_bind (wpAny_updateSeq hS₁ rfl ?_)
  have hS₂ := Heap.get?_update_self (Obj.mapSeq (·.push Value.none)) hS₁ rfl
  refine wpAny_updateSeq hS₂ rfl ?_
  have hS₃ := Heap.get?_update_self (Obj.mapSeq (·.pop)) hS₂ rfl
  have oth : ∀ b o, b ≠ s.heap.objs.size → (s.heap.push { cls := .type "list", data := .seq ([] : List Value).toArray }).get? b = some o →
      (((s.heap.push { cls := .type "list", data := .seq ([] : List Value).toArray }).update s.heap.objs.size (Obj.mapSeq (·.push Value.none))).update s.heap.objs.size (Obj.mapSeq (·.pop))).get? b = some o :=
    fun b o hb e => (Heap.get?_update_other _ _ (Ne.symm hb)).trans ((Heap.get?_update_other _ _ (Ne.symm hb)).trans e)
  refine wpAny_pure ⟨plainId_quiet PySem.F.plain_extend_loop _, codeAny_extend_loopS W (by rw [sizeLine_eq]; omega) _ hSf _ 2 0 _ _ _ rfl (Nat.zero_le _)
    (W.frame 0 ({ s with heap := s.heap.push { cls := .type "list", data := .seq ([] : List Value).toArray } } : Shared) _ s.toks hst₁ (Nat.le_refl _) fun b hb o e => oth b o (fun h => hSf (h ▸ hb)) e) hS₃ (ItemsOf.nil _) fun s' acc' c' hm hS' hacc => ?_⟩
  show wpAny _ A (load s.heap.objs.size >>= _) _ _ s'
  refine wpAny_bind (wpAny_load hS' ?_)
  refine wpAny_pure ?_
  obtain ⟨h', g', d', k', o'⟩ := s'
  have g2 : g' = s.gens := hm.gens
  have g3 : d' = s.drawn := hm.drawn
  have g4 : o' = s.os := hm.os
  subst g2 g3 g4
  obtain ⟨l⟩ := acc'
  obtain ⟨a1, a2⟩ := hacc
  match l, a1 with
  | [v1, v2], _ =>
    refine hQ v1 v2 h' k' (a2 0 v1 rfl) (a2 1 v2 rfl) (fun b o hb e => ?_)
    have hne : b ≠ s.heap.objs.size := Nat.ne_of_lt (Heap.lt_size e)
    exact hm.heap b o (by simp [hne, hb]) (oth b o hne (Heap.get?_push_of_some _ e))
theorem star_map {E : Value → Shared → Prop} {s : Shared} {Q : List Value → Shared → Prop} (hh : A.handled = none) (e1 : Txt.strip (Tx x1) = Tx y1) (e2 : Txt.strip (Tx x2) = Tx y2) (z1 : x1.length ≤ 1000) (z2 : x2.length ≤ 1000) (hst : MapSt M TU IT LS x1 x2 t1 t2 0 s.heap)
   (hQ : ∀ v1 v2 h' tk, IsT v1 y1 → IsT v2 y2 → (∀ b o, b ≠ IT → s.heap.get? b = some o → h'.get? b = some o) → Q [v1, v2] { s with heap := h', toks := tk }) :
   StarOf (model prog w) A E (.ref M) Q s := by
  unfold StarOf notIterableAtAll
  exact wpAny_bind (wpAny_specialOf (mapSt_type hst) slot_mapI.lookup (wpAny_pure ⟨rfl, collect_map hh e1 e2 z1 z2 hst hQ⟩))
end
end Mine
end

noncomputable section
open PySem PySem.W PyProof.Rows PySem.Spec PySem.Builtin PySem.Builtin.Str
namespace Mine
open StrLaws
/-- a text cut once, at the first such sign -/
theorem splitMax_one {c : Nat} {p q : List Nat} (h : c ∉ p) : Txt.splitMax (Tx (p ++ c :: q)) (Tx [c]) 1 = [Tx p, Tx q] := by
  have hat : At (Tx (p ++ c :: q)) (Tx [c]) (Tx (p ++ c :: q)).length p.length := (at_iff ..).mpr ⟨by simp, by simp⟩
  have hno : ∀ k, k < p.length → ¬ At (Tx (p ++ c :: q)) (Tx [c]) (Tx (p ++ c :: q)).length k := fun k hk ha => by
    have h2 := ((at_iff ..).mp ha).2
    have hk' : k < (p ++ c :: q).length := by simp; omega
    rw [List.drop_eq_getElem_cons hk', List.getElem_append_left hk] at h2
    simp at h2
    exact h (h2 ▸ List.getElem_mem hk)
  have hocc : occurrences (Tx (p ++ c :: q)) (Tx [c]) 0 (Tx (p ++ c :: q)).length (limitOf (Tx (p ++ c :: q)) 1) = [p.length] := by
    have hl := occ_length_le (Tx (p ++ c :: q)) (Tx [c]) 0 (Tx (p ++ c :: q)).length (limitOf (Tx (p ++ c :: q)) 1)
    have e1 : limitOf (Tx (p ++ c :: q)) 1 = 1 := rfl
    rw [e1] at hl ⊢
    rcases occ_head (Tx (p ++ c :: q)) (Tx [c]) 1 (by decide) with ⟨_, hn⟩ | ⟨i, r, e, ha, hn⟩
    · exact absurd hat (hn _)
    · rw [e] at hl ⊢
      have : r = [] := by cases r with
        | nil => rfl
        | cons _ _ => simp at hl
      subst this
      rcases Nat.lt_trichotomy i p.length with hlt | rfl | hlt
      · exact absurd ha (hno i hlt)
      · rfl
      · exact absurd hat (hn _ hlt)
  unfold Txt.splitMax
  split
  · rename_i h1
    exfalso
    rw [Bool.or_eq_true, decide_eq_true_eq, decide_eq_true_eq, Tx_length, Tx_length] at h1
    rcases h1 with h1 | h1
    · simp at h1
    · have := kind_occ (x := p ++ c :: q) (y := [c]) (i := p.length) (by simp); omega
  · rw [hocc]
    split
    · rename_i h2; cases h2
    · rw [partsBetween_eq]
      show [strSub _ _ _, strSub _ _ _] = _
      rw [sub_T, sub_T, Tx_length, Tx_length]
      simp
      rw [List.take_of_length_le (by omega)]
end Mine
end

noncomputable section
open PySem PySem.W PyProof.Rows PySem.Spec
set_option maxRecDepth 100000
set_option maxHeartbeats 4000000
namespace Mine
theorem c_parse : ∀ {w : World} {env : Env} {h : Heap} {gn : Array GenState} {dr : Drawn} {tk : Nat} {os : OsState} {Q E : Value → Shared → Prop} {p : Program} {loose : List Str} {mean : ExcName → Option Value} {mg mb : Str → Option Value} {x x1 x2 y1 y2 : List Nat} {t : Tok}
   (X : (hd.heap_39 w.params).In h) (T : Top p loose mean mg mb h)
   (hs : Txt.splitMax (Tx x) (Tx [61]) 1 = [Tx x1, Tx x2]) (e1 : Txt.strip (Tx x1) = Tx y1) (e2 : Txt.strip (Tx x2) = Tx y2) (z : x.length ≤ 1000) (z1 : x1.length ≤ 1000) (z2 : x2.length ≤ 1000)
   (q : ∀ P I oI h' tk' v1 v2, Kp h h' → IsT v1 y1 → IsT v2 y2 → h'.get? P = some (pairO I v1 v2) → h.get? P = none → h'.get? I = some oI → h.get? I = none → Q (.ref P) ⟨h', gn, dr, tk', os⟩),
   codeAny (model PySem.Challenge.rw_il0159_01.prog w) (callerA.deeper env) (.call (.ref 211) ⟨[.ref 217, .str (Tx x) t], []⟩) (fun r s' => match r with | .ok (.ret v) => Q v s' | .ok _ => False | .error e => E e s') ⟨h, gn, dr, tk, os⟩ := by
  k_with_none
  k_fill
  intro w env h gn dr tk os Q E p loose mean mg mb x x1 x2 y1 y2 t X T hs e1 e2 z z1 z2 q
  refine (enter_cells (s := ⟨h, gn, dr, tk, os⟩) (led := []) (binds := [("cls", .ref 217), ("text", .str (Tx x) t)]) (fun p hp => nomatch hp) T.nolimit (X 211 _ (by k_is)) rfl (codeRec_of X (by k_is)) (Nat.le_of_ble_eq_true rfl) rfl (fun n x hx => by
    simp only [List.mem_cons, List.not_mem_nil, or_false] at hx
    rcases hx with rfl | rfl <;> exact .inl rfl) (by decide) (fun L h₁ tk cells F N Y lt eL => ?_))
  cases Y
  have hide : hideAll h (([] : List (Addr × Obj)).map (·.1)) = h := by first | rfl | simp [hideAll]
  rw [hide] at F N
  replace F := fr_selfX (ps := [("cls", .ref 217), ("text", .str (Tx x) t)]) F (List.forall_mem_cons.mpr ⟨rfl, List.forall_mem_cons.mpr ⟨rfl, fun _ h => nomatch h⟩⟩)
  iterate 4 walk1
  refine callWith_S X (by k_is) ?_
  walk1
  repeat ((fail_if_success (with_reducible show wpAny _ _ (getAttr _ _ _) _ _ _)); walk1)
  have X1 : (hd.heap_39 w.params).In h₁ := fun x o e => F.keep x o (X x o e)
  refine type_getAttr (T := "str") (name := Str.ofString "strip") (v := .builtin "str.strip") ?a ?b ?c ?_
  case a => exact metaStr
  case b => rfl
  case c =>
    intro tk tk' Q E hq
    refine pn6 X1 ?_
    rintro v h' tk'' k rfl
    exact hq h' tk'' k
  intro h2 tk2 k2
  replace F := F.keeps k2
  replace N : News h L h2 [] := fun p hp => nomatch hp
  repeat ((fail_if_success (with_reducible show wpAny _ _ (call _ _) _ _ _)); walk1)
  have e61 : Str.ofString "=" = Tx [61] := by decide
  rename Fr _ _ _ _ => F3
  rename News _ _ _ _ => N3
  refine splitN2A (hsz := ?hsz) F3 N3 rfl (by decide) ?_
  case hsz => rw [Tx_length, sizeLine_eq]; omega
  intro l h3 tk3 hl _ _ _ F4 N4
  rw [e61, hs] at hl
  match l, hl with
  | [(_, t1), (_, t2)], hl =>
  cases hl
  repeat ((fail_if_success (with_reducible show wpAny _ _ (call _ _) _ _ _)); walk1)
  rename Fr _ _ _ _ => F5
  rename News _ _ _ _ => N5
  refine pn4 (fun x o e => F5.keep x o (X x o e)) (N5 _ (.head _)).1 ?_
  rintro v h4 tk4 k4 ⟨M, TU, IT, rfl, hM, hTU, hIT, hn⟩
  have k05 : Kp h h3 := fun x o e => F5.keep x o e
  have z5 : h.get? IT = none := get_back k05 hn
  refine star_map (LS := h2.objs.size) (t1 := t1) (t2 := t2) rfl e1 e2 z1 z2 ⟨hM, hTU, ⟨_, hIT, rfl, rfl⟩, ⟨_, k4 _ _ (N5 _ (.head _)).1, rfl, 0, rfl⟩⟩ ?_
  rintro v1 v2 h5 tk5 ⟨u1, rfl⟩ ⟨u2, rfl⟩ k5
  have k15 : Kp h h5 := fun x o e => k5 x o (fun z => by rw [z, z5] at e; cases e) (k4 _ _ (k05 _ _ e))
  have X5 : (hd.heap_39 w.params).In h5 := fun x o e => k15 x o (X x o e)
  exact ⟨X5, make_pair X5 (T.keeps k15) fun P I oI h6 tk6 k6 hP hn6 hI hnI => q P I oI h6 tk6 _ _ (fun x o e => k6 x o (k15 x o e)) ⟨u1, rfl⟩ ⟨u2, rfl⟩ hP (get_back k15 hn6) hI (get_back k15 hnI)⟩
end Mine
end

noncomputable section
open PySem PySem.W PyProof.Rows PySem.Spec PyProof.Rows.LCg
set_option maxRecDepth 100000
set_option maxHeartbeats 4000000
namespace Mine
theorem tupItem_T {prog : Program} {w : World} {A : Around} {E : Value → Shared → Prop} {hp : Heap} {gn : Array GenState} {dr : Drawn} {tk : Nat} {os : OsState} {h₀ : Heap} {L : Addr} {news : List (Addr × Obj)} {Q : Value → Shared → Prop} {value slice : PySem.Expr} {a : Addr} {vs : List Value} {v : Value} {k : Int} {u : Tok} (N : News h₀ L hp news) (hm : (a, tupO vs) ∈ news) (h0 : 0 ≤ k) (h1 : k < 100) (hv : vs[k.toNat]? = some v) (h : Q v ⟨hp, gn, dr, tk, os⟩)
    (hs : subscripted slice false (.ref a) (.int k u) = operate [.ref a, .int k u] (getItem (.ref a) (.int k u)) := by with_unfolding_all rfl) :
    wpAny (model prog w) A (subscriptTail value slice (.ref a) (.int k u)) Q E ⟨hp, gn, dr, tk, os⟩ := by
  have ht : IsTup hp a vs.toArray := ⟨_, (N _ hm).1, rfl, 0, rfl⟩
  have hlt : k.toNat < vs.length := (List.getElem?_eq_some_iff.mp hv).1
  have hj : seqIndex? k vs.toArray.size = some k.toNat := by
    unfold seqIndex?
    simp only [List.size_toArray, if_neg (show ¬ k < 0 by omega)]
    exact if_pos (by rw [Bool.and_eq_true, decide_eq_true_eq, decide_eq_true_eq]; omega)
  refine tail_any (s := ⟨hp, gn, dr, tk, os⟩) (T := "tuple") ⟨_, (N _ hm).1, rfl⟩ PyProof.Rows.slot_tuple_getitem.lookup (getItem_tuple (s := ⟨hp, gn, dr, tk, os⟩) ht (by omega) (by omega) hj (by simpa using hv) h) hs
/-- an object of Pair, by what is known of objects -/
def PairAt (K : Addr → Obj → Prop) (v : Value) (r : List Nat × List Nat) : Prop := ∃ P I oI t u, v = .ref P ∧ K P (pairO I (.str (Tx r.1) t) (.str (Tx r.2) u)) ∧ K I oI
theorem PairAt.mono {K K' : Addr → Obj → Prop} (h : ∀ a o, K a o → K' a o) {v r} : PairAt K v r → PairAt K' v r
  | ⟨a, n, o, t, u, e, k, k2⟩ => ⟨a, n, o, t, u, e, h _ _ k, h _ _ k2⟩
abbrev PairsAre (K : Addr → Obj → Prop) (vs : List Value) (rs : List (List Nat × List Nat)) : Prop := All2 (PairAt K) vs rs
theorem PairsAre.mono {K K' : Addr → Obj → Prop} (h : ∀ a o, K a o → K' a o) {vs rs} (x : PairsAre K vs rs) : PairsAre K' vs rs := All2.mono (fun _ _ => PairAt.mono h) x
theorem fresh_ne {bs h : Heap} {L a : Addr} {news : List (Addr × Obj)} (N : News bs L h news) (n : h.get? a = none) : ∀ p ∈ news, a ≠ p.1 := fun p hp e => by
  have := (N p hp).1
  rw [← e, n] at this
  cases this
theorem cells_ne {L a : Addr} {o1 o2 o3 o4 o5 o6 o7 : Obj} {tl : List (Addr × Obj)} (n : ∀ p ∈ led0 L o1 o2 o3 o4 o5 o6 o7 tl, a ≠ p.1) : a ≠ L + 1 ∧ a ≠ L + 2 ∧ a ≠ L + 3 ∧ a ≠ L + 4 ∧ a ≠ L + 5 ∧ a ≠ L + 6 ∧ a ≠ L + 7 :=
  ⟨n (_, o1) (by simp), n (_, o2) (by simp), n (_, o3) (by simp), n (_, o4) (by simp), n (_, o5) (by simp), n (_, o6) (by simp), n (_, o7) (by simp)⟩
/-- what a line says -/
def Says (x : List Nat) (r : List Nat × List Nat) : Prop := ∃ x1 x2, Txt.splitMax (Tx x) (Tx [61]) 1 = [Tx x1, Tx x2] ∧ Txt.strip (Tx x1) = Tx r.1 ∧ Txt.strip (Tx x2) = Tx r.2 ∧ x.length ≤ 1000 ∧ x1.length ≤ 1000 ∧ x2.length ≤ 1000
section
theorem law17 : ∀ {w : World} {p : Program} {loose : List Str} {mean : ExcName → Option Value} {mg mb : Str → Option Value} {bs h : Heap} {L fa : Addr} {cd : Value} {fd : FuncData} {gn : Array GenState} {dr : Drawn} {tk : Nat} {os : OsState} {Q : Flow → Shared → Prop} {E : Value → Shared → Prop}
   (C : LC w bs fd) (X : (hd.heap_39 w.params).In bs) (T : Top p loose mean mg mb bs)
   {m : Str → Option Value} {o1 o2 o3 o4 o5 o6 o7 : Obj} {D : Addr} {tl : List (Addr × Obj)} {q : List Nat} {ls : List (List Nat)} {t u : Tok}
   (F : Fr bs L h m) (N : News bs L h (led0 L o1 o2 o3 o4 o5 o6 o7 tl)) (h6 : o6.data = .cell (some (.ref D)))
   (mD : (D, tupO [.str (Tx (q ++ [32])) t, .str (Tx (joinL 10 ls)) u]) ∈ tl) (hne : ls ≠ []) (hfree : ∀ p ∈ ls, 10 ∉ p) (hjl : (joinL 10 ls).length ≤ 100000) {ps : List (List Nat × List Nat)} (hps : All2 Says ls ps) (hll : ls.length ≤ 20) (Y : FarC L tl)
   (next : ∀ PR ys own h' tk', Fr bs L h' (fun z => if z = "pairs" then some (.ref PR) else m z) → News bs L h' (led0 L o1 o2 o3 o4 o5 o6 o7 ((PR, lst ys) :: (own ++ tl))) → FarC L ((PR, lst ys) :: (own ++ tl)) → PairsAre (LK own) ys ps → Q .next ⟨h', gn, dr, tk', os⟩),
   wpAny (model PySem.Challenge.rw_il0159_01.prog w) (callerA.deeper (lawEnv fd L fa cd)) (exec (stmtAt fd 16) (lawEnv fd L fa cd)) Q E ⟨h, gn, dr, tk, os⟩ := by
  k_with_none
  k_with "eval Constant str" => (k_here; refine const_T ?_; (simp only [lit_nl]); intro _ _)
  k_with "subscriptTail Name Constant ref int" => (k_here; (with_reducible rename News _ _ _ _ => N'); refine tupItem_T N' (lm0 (by assumption)) (by decide) (by decide) rfl ?_)
  k_with "call builtin:str.split" => fail "stop"
  k_fill
  intro w p loose mean mg mb bs h L fa cd fd gn dr tk os Q E C X T m o1 o2 o3 o4 o5 o6 o7 D tl q ls t u F N h6 mD hne hfree hjl ps hps hll Y next
  obtain ⟨hfd, K0, C1, C2⟩ := C
  cases some_lit hfd (rfl : lawDef w.params = some ⟨_, _, _, _, _, _, _, _, _, _, _, _, _, _, _⟩)
  clear hfd
  dsimp only [stmtAt, stmtsOf, List.drop, List.headD, lawEnv]
  k_dflt (refine LCg.Assign_ListComp_U (F₀ := by k_asm) (by rfl) (by with_unfolding_all rfl) (by with_unfolding_all rfl) (by decide) (by rfl) (by decide) (by rfl) (by rfl) (by rfl) ?_)
  repeat ((fail_if_success (with_reducible show wpAny _ _ (call _ _) _ _ _)); walk1)
  rename Fr _ _ _ _ => F2
  rename News _ _ _ _ => N2
  refine splitC_T F2 N2 rfl hne hfree (by omega) fun DS h3 tk3 vs hvs F3 N3 lt3 => ?_
  clear F2 N2
  repeat ((fail_if_success (with_reducible show LCg.CompSrc _ _ _ _ _ _ _ _ _ _ _ _ _ _)); walk1)
  rename Fr _ _ _ _ => F4
  rename News _ _ _ _ => N4
  have hvl := hvs.length
  refine CompSrc.ledger rfl F4 N4 (.head _) (by rw [List.size_toArray, sizeLine_eq]; omega) fun g => ?_
  refine comp_inv vs.length (fun i ys news => ∃ own, news = own ++ ((DS, listOf vs.toArray 0) :: led0 L o1 o2 o3 o4 o5 o6 o7 tl) ∧ FarC L own ∧ PairsAre (LK own) ys (ps.take i)) ?_ ?_ vs.length 0 [] _ (by omega) ⟨[], rfl, (fun _ h => nomatch h), .nil⟩
  · rintro i ys news v hi ⟨own, rfl, Yo, hys⟩ hv I oI C oC D' m₂ h3 tk3 E' hC3 hx F3 N3 off ne
    clear F4 N4
    obtain ⟨x, hx2, t3, rfl⟩ := hvs.get' (by simpa using hv)
    obtain ⟨r, hr2, x1, x2, hsp, hs1, hs2, hz, hz1, hz2⟩ := hps.get' hx2
    repeat ((fail_if_success (with_reducible show wpAny _ _ (call _ _) _ _ _)); walk1)
    · rename News _ _ _ _ => N5
      rename Fr _ _ _ _ => F5
      exact methP N5 (.head _) (X.keeps F5.keep)
    rename News _ _ _ _ => N5
    rename Fr _ _ _ _ => F5
    refine call_meth N5 (.head _) (c_parse (X.keeps F5.keep) (T.keeps F5.keep) hsp hs1 hs2 hz hz1 hz2 fun P I2 oI2 h6 tk6 v1 v2 k6 hv1 hv2 hP hn hI2 hnI => ?_)
    obtain ⟨t4, rfl⟩ := hv1
    obtain ⟨t5, rfl⟩ := hv2
    have F6 := F5.keeps k6
    have N6 := news_fresh (tl := [(P, pairO I2 (.str (Tx r.1) t4) (.str (Tx r.2) t5)), (I2, oI2)]) F5 N5 k6 (fun p hp => by
      simp only [List.mem_cons, List.not_mem_nil, or_false] at hp
      rcases hp with rfl | rfl
      · exact ⟨hP, hn⟩
      · exact ⟨hI2, hnI⟩)
    have nP := fun p (hp : p ∈ (I, oI) :: (C, oC) :: (D', lst ys) :: (own ++ ((DS, listOf vs.toArray 0) :: led0 L o1 o2 o3 o4 o5 o6 o7 tl))) => fresh_ne N5 hn p (.tail _ hp)
    have nI := fun p (hp : p ∈ (I, oI) :: (C, oC) :: (D', lst ys) :: (own ++ ((DS, listOf vs.toArray 0) :: led0 L o1 o2 o3 o4 o5 o6 o7 tl))) => fresh_ne N5 hnI p (.tail _ hp)
    clear F3 N3 F5 N5
    refine CompEnd.intro F6 N6 ((P, pairO I2 (.str (Tx r.1) t4) (.str (Tx r.2) t5)) :: (I2, oI2) :: (own ++ ((DS, listOf vs.toArray 0) :: led0 L o1 o2 o3 o4 o5 o6 o7 tl))) (fun p hp => ?_)
      (off3_mid (b := []) (off3_mid (b := []) off ⟨nI _ (.head _), nI _ (.tail _ (.head _)), nI _ (.tail _ (.tail _ (.head _)))⟩) ⟨nP _ (.head _), nP _ (.tail _ (.head _)), nP _ (.tail _ (.tail _ (.head _)))⟩)
      (.inr ⟨_, .tail _ (.tail _ (List.mem_append_right _ (.head _))), rfl, _, rfl⟩)
      ⟨(P, pairO I2 (.str (Tx r.1) t4) (.str (Tx r.2) t5)) :: (I2, oI2) :: own, rfl,
        FarC.cons (cells_ne fun p hp => nP p (.tail _ (.tail _ (.tail _ (List.mem_append_right _ (.tail _ hp)))))) (FarC.cons (cells_ne fun p hp => nI p (.tail _ (.tail _ (.tail _ (List.mem_append_right _ (.tail _ hp)))))) Yo), ?_⟩
    · have hp' := mid_add (a := []) (b := [(I, oI), (C, oC), (D', lst ys)]) hp
      rcases List.mem_cons.mp hp' with rfl | hp'
      · exact .head _
      have hp' := mid_add (a := []) (b := [(I, oI), (C, oC), (D', lst ys)]) hp'
      rcases List.mem_cons.mp hp' with rfl | hp'
      · exact .tail _ (.head _)
      · exact .tail _ (.tail _ (.tail _ hp'))
    · rw [List.take_add_one, hr2]
      exact All2.snoc (PairsAre.mono (fun a o h => .tail _ (.tail _ h)) hys) ⟨P, I2, oI2, _, _, rfl, .head _, .tail _ (.head _)⟩
  · rintro ys news ⟨own, rfl, Yo, hys⟩
    intro D3 h3 tk3 F3 N3 off3
    have hlp := hps.length
    rw [hvl, hlp, List.take_length] at hys
    have Y2 : FarC L ((D3, lst ys) :: (own ++ tl)) := FarC.cons (cells_ne (tl := tl) fun p hp => Ne.symm (off1_mem off3 p (List.mem_append_right _ (.tail _ hp)))) (FarC.append Yo Y)
    refine next D3 ys own h3 tk3 F3 (fun p hp => ?_) Y2 hys
    rcases List.mem_append.mp (show p ∈ cellsL L o1 o2 o3 o4 o5 o6 o7 ++ ((D3, lst ys) :: (own ++ tl)) from hp) with hp | hp
    · exact N3 p (.tail _ (List.mem_append_right _ (.tail _ (List.mem_append_left (as := cellsL L o1 o2 o3 o4 o5 o6 o7) tl hp))))
    rcases List.mem_cons.mp hp with rfl | hp
    · exact N3 _ (.head _)
    rcases List.mem_append.mp hp with hp | hp
    · exact N3 p (.tail _ (List.mem_append_left _ hp))
    · exact N3 p (.tail _ (List.mem_append_right _ (.tail _ (lm0 hp))))
end
end Mine
end

noncomputable section
open PySem PySem.W PyProof.Rows PySem.Spec
namespace Mine
theorem caps_ok : CodesOk caps := ⟨by decide, by decide, by decide⟩
theorem plan_head (codes : List Nat) : ∀ (ns : List Int) (st : PS), st.2 ≠ [] → (ns.foldl (stepP codes) st).2[0]? = st.2[0]?
  | [], _, _ => rfl
  | x :: r, st, h => by
    rw [List.foldl_cons]
    have hs : (stepP codes st x).2 ≠ [] ∧ (stepP codes st x).2[0]? = st.2[0]? := by
      unfold stepP
      split
      · refine ⟨by simp, ?_⟩
        dsimp only
        rw [List.getElem?_append_left (List.length_pos_iff.mpr h)]
      · exact ⟨h, rfl⟩
    rw [plan_head codes r _ hs.1, hs.2]
theorem planP_head (codes whole : List Nat) (ns : List Int) : (planP codes whole ns).2[0]? = some whole := by
  unfold planP
  rw [plan_head _ _ _ (by simp [startP])]; rfl
/-- the deeds: the first row once more ahead -/
abbrev deedsL (rs : List (List Nat × List Nat)) : List (List Nat × List Nat) := rs.take 1 ++ rs
abbrev swp (r : List Nat × List Nat) : List Nat × List Nat := (r.2, r.1)
abbrev undoL (rs : List (List Nat × List Nat)) : List (List Nat × List Nat) := (rs.map swp).reverse ++ (rs.map swp).take 1
theorem deeds_len {rs : List (List Nat × List Nat)} (h : 1 ≤ rs.length) : (deedsL rs).length = rs.length + 1 := by simp; omega
theorem text_at {codes : List Nat} {st : PS} {g : List Nat} (I : Inv codes st) (h0 : st.2[0]? = some g) : ∀ k, k ≤ st.1.length + 1 → st.2[k]? = some (repL ((deedsL st.1).take k) g)
  | 0, _ => by rw [h0]; rfl
  | k + 1, hk => by
    have hl := deeds_len I.ne0
    have ih := text_at I h0 k (by omega)
    obtain ⟨r, hr⟩ : ∃ r, (deedsL st.1)[k]? = some r := ⟨_, List.getElem?_eq_getElem (by omega)⟩
    obtain ⟨a, b, h1, h2, h3, _⟩ := I.deed k r hr
    rw [ih] at h1
    cases h1
    rw [h2, h3, List.take_add_one, hr]
    show _ = some (repL (List.take k (deedsL st.1) ++ [r]) g)
    rw [repL_snoc]
theorem texts_eq {codes : List Nat} {st : PS} {g : List Nat} (I : Inv codes st) (h0 : st.2[0]? = some g) : st.2 = (List.range (st.1.length + 2)).map fun k => repL ((deedsL st.1).take k) g := by
  apply List.ext_getElem?
  intro k
  by_cases hk : k ≤ st.1.length + 1
  · rw [text_at I h0 k hk, List.getElem?_map, List.getElem?_range (by omega)]; rfl
  · have := I.texts
    rw [List.getElem?_eq_none (by omega), List.getElem?_eq_none (by simp; omega)]
theorem deeds_b {codes : List Nat} {st : PS} {g : List Nat} (I : Inv codes st) (h0 : st.2[0]? = some g) (hl : ∀ t ∈ st.2, t.length ≤ 60) : ∀ k, (repL ((deedsL st.1).take k) g).length ≤ 60 := by
  intro k
  by_cases hk : k ≤ st.1.length + 1
  · exact hl _ (List.mem_of_getElem? (text_at I h0 k hk))
  · have e : (deedsL st.1).take k = (deedsL st.1).take (st.1.length + 1) := by
      have := deeds_len I.ne0
      rw [List.take_of_length_le (by omega), List.take_of_length_le (by omega)]
    rw [e]
    exact hl _ (List.mem_of_getElem? (text_at I h0 _ (Nat.le_refl _)))
theorem undo_eq (rs : List (List Nat × List Nat)) : undoL rs = ((deedsL rs).reverse).map swp := by
  rw [List.reverse_append, List.map_append, List.map_reverse]
  congr 1
  cases rs with
  | nil => rfl
  | cons a r => rfl
theorem back_at {codes : List Nat} {st : PS} (I : Inv codes st) : ∀ k, k ≤ st.1.length + 1 → ∀ q, st.2[st.1.length + 1]? = some q → ∃ a, st.2[st.1.length + 1 - k]? = some a ∧ repL ((undoL st.1).take k) (q ++ [32]) = a ++ [32]
  | 0, _, q, hq => ⟨q, hq, rfl⟩
  | k + 1, hk, q, hq => by
    obtain ⟨b, hb, hrep⟩ := back_at I k (by omega) q hq
    have hl := deeds_len I.ne0
    obtain ⟨r, hr⟩ : ∃ r, (deedsL st.1)[st.1.length - k]? = some r := ⟨_, List.getElem?_eq_getElem (by omega)⟩
    obtain ⟨a, b', h1, h2, _, h4⟩ := I.deed _ r hr
    have hu : (undoL st.1)[k]? = some (swp r) := by
      rw [undo_eq, List.getElem?_map, List.getElem?_reverse (by omega), hl]
      rw [show st.1.length + 1 - 1 - k = st.1.length - k by omega, hr]; rfl
    rw [show st.1.length - k + 1 = st.1.length + 1 - k by omega, hb] at h2
    cases h2
    refine ⟨a, ?_, ?_⟩
    · rw [← h1]; congr 1; omega
    · rw [List.take_add_one, hu]
      show repL (List.take k (undoL st.1) ++ [swp r]) _ = _
      rw [repL_snoc, hrep]
      exact h4
theorem again_eq {codes : List Nat} {st : PS} (I : Inv codes st) {q : List Nat} (hq : st.2[st.1.length + 1]? = some q) : (List.range (st.1.length + 2)).map (fun k => repL ((undoL st.1).take k) (q ++ [32])) = st.2.reverse.map fun x => x ++ [32] := by
  have ht := I.texts
  apply List.ext_getElem?
  intro k
  by_cases hk : k ≤ st.1.length + 1
  · obtain ⟨a, h1, h2⟩ := back_at I k hk q hq
    rw [List.getElem?_map, List.getElem?_range (by omega), List.getElem?_map, List.getElem?_reverse (by omega), ht, show st.1.length + 2 - 1 - k = st.1.length + 1 - k by omega, h1]
    exact congrArg some h2
  · rw [List.getElem?_eq_none (by simp; omega), List.getElem?_eq_none (by simp; omega)]
theorem undo_b {codes : List Nat} {st : PS} (I : Inv codes st) {q : List Nat} (hq : st.2[st.1.length + 1]? = some q) (hl : ∀ t ∈ st.2, t.length ≤ 60) : ∀ k, (repL ((undoL st.1).take k) (q ++ [32])).length ≤ 1000 := by
  have key : ∀ k, k ≤ st.1.length + 1 → (repL ((undoL st.1).take k) (q ++ [32])).length ≤ 1000 := fun k hk => by
    obtain ⟨a, h1, h2⟩ := back_at I k hk q hq
    have := hl a (List.mem_of_getElem? h1)
    rw [h2]; simp; omega
  intro k
  by_cases hk : k ≤ st.1.length + 1
  · exact key k hk
  · have e : (undoL st.1).take k = (undoL st.1).take (st.1.length + 1) := by
      have := deeds_len I.ne0
      have h2 : (undoL st.1).length = st.1.length + 1 := by rw [undo_eq, List.length_map, List.length_reverse, this]
      rw [List.take_of_length_le (by omega), List.take_of_length_le (by omega)]
    rw [e]; exact key _ (Nat.le_refl _)
theorem sg_good {n c : Nat} (h : Sg caps n c) : c ∈ [46, 61, 92, 97] ++ caps := by
  rcases h with h | h
  · simp only [baseS, List.mem_cons, List.not_mem_nil, or_false] at h
    refine List.mem_append_left _ ?_
    simp only [List.mem_cons, List.not_mem_nil, or_false]
    rcases h with h | h | h | h <;> simp [h]
  · exact List.mem_append_right _ (List.mem_of_mem_take h)
/-- a sign of this law's texts -/
structure Gd (c : Nat) : Prop where
  ink : ink c
  sm : c < 1114112
theorem gd_of {c : Nat} (h : c ∈ [46, 61, 92, 97] ++ caps) : Gd c := by
  refine ⟨ink_small c h, ?_⟩
  have : ([46, 61, 92, 97] ++ caps).all (fun c => decide (c < 1114112)) = true := by decide +kernel
  exact of_decide_eq_true (List.all_eq_true.mp this c h)
structure RowOk (r : List Nat × List Nat) : Prop where
  k : r.1 ≠ []
  v : r.2 ≠ []
  sum : r.1.length + r.2.length = 3
  kg : ∀ c ∈ r.1, Gd c
  vg : ∀ c ∈ r.2, Gd c
  eq : 61 ∉ r.2
  q : r.1 ≠ [63]
theorem gd46 : Gd 46 := gd_of (by decide)
theorem row_ok {st : PS} (I : Inv caps st) : ∀ r ∈ st.1, RowOk r := fun r hr => by
  obtain ⟨j, hj⟩ := List.mem_iff_getElem?.mp hr
  cases j with
  | zero =>
    rw [I.first] at hj; cases hj
    have g : ∀ c ∈ ([46] : List Nat), Gd c := fun c hc => by rw [List.mem_singleton.mp hc]; exact gd46
    exact ⟨by simp, by simp, rfl, g, fun c hc => by
      simp only [List.mem_cons, List.not_mem_nil, or_false, or_self] at hc; rw [hc]; exact gd46, by simp, by simp⟩
  | succ j =>
    obtain ⟨c, hc, e2⟩ := I.code (j + 1) r (by omega) hj
    obtain ⟨a, b, e1, _, sa, sb⟩ := I.key (j + 1) r (by omega) hj
    have hm : c ∈ caps := List.mem_of_getElem? hc
    refine ⟨by simp [e1], by simp [e2], by simp [e1, e2], ?_, ?_, ?_, by simp [e1]⟩
    · intro d hd
      rw [e1] at hd
      simp only [List.mem_cons, List.not_mem_nil, or_false] at hd
      rcases hd with rfl | rfl
      · exact gd_of (sg_good sa)
      · exact gd_of (sg_good sb)
    · intro d hd
      rw [e2] at hd
      rw [List.mem_singleton.mp hd]
      exact gd_of (List.mem_append_right _ hm)
    · rw [e2, List.mem_singleton]
      rintro rfl
      exact absurd hm (by decide)
theorem text_gd {st : PS} (I : Inv caps st) : ∀ t ∈ st.2, ∀ c ∈ t, Gd c := fun t ht c hc => gd_of (sg_good (I.sg t ht c hc))
theorem plan_ok {st : PS} (I : Inv caps st) (h : st.1.length ≤ 10) : PlanOk caps st.1 := ⟨I.first, I.code, I.once, h, caps_ok.len⟩
theorem RowOk.len {r} (R : RowOk r) : r.1.length ≤ 2 ∧ r.2.length ≤ 2 := by
  have a := List.length_pos_iff.mpr R.k
  have b := List.length_pos_iff.mpr R.v
  have := R.sum
  omega
/-- a line's two halves -/
theorem line_says {n k : Nat} {r : List Nat × List Nat} (R : RowOk r) (hn : n ≤ 20) : Says (lineL n k r) (swp r) := by
  have hl := R.len
  have h3 : k % 3 < 3 := Nat.mod_lt _ (by decide)
  have h2 : k % 2 < 2 := Nat.mod_lt _ (by decide)
  have h1 : (k + 1) % 2 < 2 := Nat.mod_lt _ (by decide)
  have sp : ∀ m c, c ∈ List.replicate m 32 → Unicode.isSpace c = true := fun m c hc => by rw [(List.mem_replicate.mp hc).2]; exact sp32
  have tb : ∀ m c, c ∈ List.replicate m 9 → Unicode.isSpace c = true := fun m c hc => by rw [(List.mem_replicate.mp hc).2]; exact sp9
  refine ⟨List.replicate ((k + 1) % 2) 32 ++ (r.2 ++ List.replicate (k % 3) 32), List.replicate (k % 2) 9 ++ (r.1 ++ List.replicate (n - 1 - k) 32), ?_, ?_, ?_, ?_, ?_, ?_⟩
  · have e : lineL n k r = (List.replicate ((k + 1) % 2) 32 ++ (r.2 ++ List.replicate (k % 3) 32)) ++ 61 :: (List.replicate (k % 2) 9 ++ (r.1 ++ List.replicate (n - 1 - k) 32)) := by
      simp [lineL]
    rw [e]
    refine splitMax_one (c := 61) ?_
    intro hm
    rcases List.mem_append.mp hm with hm | hm
    · exact absurd (List.mem_replicate.mp hm).2 (by decide)
    rcases List.mem_append.mp hm with hm | hm
    · exact R.eq hm
    · exact absurd (List.mem_replicate.mp hm).2 (by decide)
  · exact strip_mid (sp _) (sp _) R.v (fun c hc => (R.vg c (List.mem_of_mem_head? hc)).ink) (fun c hc => (R.vg c (List.mem_of_mem_getLast? hc)).ink)
  · exact strip_mid (tb _) (sp _) R.k (fun c hc => (R.kg c (List.mem_of_mem_head? hc)).ink) (fun c hc => (R.kg c (List.mem_of_mem_getLast? hc)).ink)
  · simp only [lineL, List.length_append, List.length_replicate, List.length_cons, List.length_nil]; omega
  · simp only [List.length_append, List.length_replicate]; omega
  · simp only [List.length_append, List.length_replicate]; omega
abbrev linesL (rs : List (List Nat × List Nat)) : List (List Nat) := rs.zipIdx.map fun p => lineL rs.length p.2 p.1
theorem lines_at (rs : List (List Nat × List Nat)) (k : Nat) : (linesL rs)[k]? = rs[k]?.map fun r => lineL rs.length k r := by
  rw [List.getElem?_map, List.getElem?_zipIdx]
  cases rs[k]? with
  | none => rfl
  | some r => simp
theorem all2_of {α β : Type} {R : α → β → Prop} : ∀ {l : List α} {r : List β}, l.length = r.length → (∀ (k : Nat) (a : α) (b : β), l[k]? = some a → r[k]? = some b → R a b) → All2 R l r
  | [], [], _, _ => .nil
  | [], b :: r, h, _ => by simp at h
  | a :: l, [], h, _ => by simp at h
  | a :: l, b :: r, h, f => .cons (f 0 a b rfl rfl) (all2_of (by simpa using h) fun k x y hx hy => f (k + 1) x y (by simpa using hx) (by simpa using hy))
theorem lines_say {rs : List (List Nat × List Nat)} (R : ∀ r ∈ rs, RowOk r) (hn : rs.length ≤ 20) : All2 Says (linesL rs) (rs.map swp) := by
  refine all2_of (by simp) fun k a b ha hb => ?_
  rw [lines_at] at ha
  rw [List.getElem?_map] at hb
  obtain ⟨r, hr, rfl⟩ := Option.map_eq_some_iff.mp ha
  rw [hr] at hb
  cases hb
  exact line_says (R r (List.mem_of_getElem? hr)) hn
theorem line_mem {rs : List (List Nat × List Nat)} {x : List Nat} (h : x ∈ linesL rs) : ∃ k r, rs[k]? = some r ∧ x = lineL rs.length k r := by
  obtain ⟨k, hk⟩ := List.mem_iff_getElem?.mp h
  rw [lines_at] at hk
  obtain ⟨r, hr, rfl⟩ := Option.map_eq_some_iff.mp hk
  exact ⟨k, r, hr, rfl⟩
theorem line_len {rs : List (List Nat × List Nat)} (R : ∀ r ∈ rs, RowOk r) (hn : rs.length ≤ 20) : ∀ x ∈ linesL rs, x.length ≤ 1000 := fun x hx => by
  obtain ⟨k, r, hr, rfl⟩ := line_mem hx
  have hl := (R r (List.mem_of_getElem? hr)).len
  have h3 : k % 3 < 3 := Nat.mod_lt _ (by decide)
  have h2 : k % 2 < 2 := Nat.mod_lt _ (by decide)
  have h1 : (k + 1) % 2 < 2 := Nat.mod_lt _ (by decide)
  simp only [lineL, List.length_append, List.length_replicate, List.length_cons, List.length_nil]; omega
theorem line_sign {n k : Nat} {r : List Nat × List Nat} (R : RowOk r) : ∀ c ∈ lineL n k r, c = 32 ∨ c = 9 ∨ c = 61 ∨ Gd c := fun c hc => by
  simp only [lineL, List.mem_append, List.mem_replicate, List.mem_cons, List.not_mem_nil, or_false] at hc
  rcases hc with (((((hc | hc) | hc) | hc) | hc) | hc) | hc
  · exact .inl hc.2
  · exact .inr (.inr (.inr (R.vg c hc)))
  · exact .inl hc.2
  · exact .inr (.inr (.inl hc))
  · exact .inr (.inl hc.2)
  · exact .inr (.inr (.inr (R.kg c hc)))
  · exact .inl hc.2
theorem line_free {rs : List (List Nat × List Nat)} (R : ∀ r ∈ rs, RowOk r) : ∀ x ∈ linesL rs, 10 ∉ x := fun x hx hc => by
  obtain ⟨k, r, hr, rfl⟩ := line_mem hx
  rcases line_sign (R r (List.mem_of_getElem? hr)) 10 hc with h | h | h | h
  · cases h
  · cases h
  · cases h
  · exact ink_ne10 h.ink rfl
theorem line_sm {rs : List (List Nat × List Nat)} (R : ∀ r ∈ rs, RowOk r) : ∀ x ∈ linesL rs, Sm x := fun x hx c hc => by
  obtain ⟨k, r, hr, rfl⟩ := line_mem hx
  rcases line_sign (R r (List.mem_of_getElem? hr)) c hc with h | h | h | h
  · omega
  · omega
  · omega
  · exact h.sm
theorem joinL_sm {c : Nat} (hc : c < 1114112) : ∀ {ls : List (List Nat)}, (∀ x ∈ ls, Sm x) → Sm (joinL c ls)
  | [], _ => fun d hd => nomatch hd
  | [p], h => h p (.head _)
  | p :: q :: r, h => fun d hd => by
    rw [joinL_cons2 c p (by simp)] at hd
    rcases List.mem_append.mp hd with hd | hd
    · exact h p (.head _) d hd
    rcases List.mem_cons.mp hd with rfl | hd
    · exact hc
    · exact joinL_sm hc (fun x hx => h x (.tail _ hx)) d hd
theorem joinL_len {c B : Nat} : ∀ {ls : List (List Nat)}, (∀ x ∈ ls, x.length ≤ B) → (joinL c ls).length ≤ ls.length * (B + 1)
  | [], _ => by simp [joinL]
  | [p], h => by have := h p (.head _); simp [joinL]; omega
  | p :: q :: r, h => by
    have ih := joinL_len (c := c) (ls := q :: r) fun x hx => h x (.tail _ hx)
    have := h p (.head _)
    rw [joinL_cons2 c p (by simp), List.length_append, List.length_cons, List.length_cons (a := p), Nat.succ_mul]
    omega
theorem joinL_last {c : Nat} {l : List Nat} (hl : l ≠ []) : ∀ ls : List (List Nat), (joinL c (ls ++ [l])).getLast? = l.getLast?
  | [] => rfl
  | p :: ls => by
    have ne : ls ++ [l] ≠ [] := by simp
    rw [List.cons_append, joinL_cons2 c p ne, List.getLast?_append, List.getLast?_cons, joinL_last hl ls]
    rw [List.getLast?_eq_some_getLast hl]; rfl
/-- the page, stripped -/
theorem page_strip {rs : List (List Nat × List Nat)} (R : ∀ r ∈ rs, RowOk r) (hne : 1 ≤ rs.length) {q : List Nat} (hq : q ≠ []) (hg : ∀ c ∈ q, Gd c) :
    Txt.strip (Tx (rawL q (joinL 10 (linesL rs)))) = Tx (joinL 10 ((q ++ [32]) :: [32, 9] :: linesL rs)) := by
  have hl : linesL rs ≠ [] := by rw [← List.length_pos_iff]; simp; omega
  have e2 : joinL 10 ((q ++ [32]) :: [32, 9] :: linesL rs) = q ++ ([32, 10, 32, 9, 10] ++ joinL 10 (linesL rs)) := by
    rw [joinL_cons2 10 _ (by simp), joinL_cons2 10 _ hl]; simp
  have e1 : rawL q (joinL 10 (linesL rs)) = [10, 32] ++ ((q ++ ([32, 10, 32, 9, 10] ++ joinL 10 (linesL rs))) ++ [32, 10]) := by
    simp [rawL]
  rw [e1, e2]
  obtain ⟨r, hr⟩ : ∃ r, rs[rs.length - 1]? = some r := ⟨_, List.getElem?_eq_getElem (by omega)⟩
  have hR := R r (List.mem_of_getElem? hr)
  have hlast : (linesL rs)[rs.length - 1]? = some (lineL rs.length (rs.length - 1) r) := by rw [lines_at, hr]; rfl
  obtain ⟨ini, hini⟩ : ∃ ini, linesL rs = ini ++ [lineL rs.length (rs.length - 1) r] := by
    refine ⟨(linesL rs).dropLast, ?_⟩
    have h2 : (linesL rs).getLast? = some (lineL rs.length (rs.length - 1) r) := by
      rw [List.getLast?_eq_getElem?, ← hlast]; congr 1; simp
    rw [List.getLast?_eq_some_getLast hl] at h2
    rw [← Option.some.inj h2]
    exact (List.dropLast_concat_getLast hl).symm
  have hll : (lineL rs.length (rs.length - 1) r).getLast? = r.1.getLast? := by
    unfold lineL
    rw [show rs.length - 1 - (rs.length - 1) = 0 by omega, List.replicate_zero, List.append_nil, List.getLast?_append, List.getLast?_eq_some_getLast hR.k]; rfl
  have hjl : (joinL 10 (linesL rs)).getLast? = r.1.getLast? := by
    rw [hini, joinL_last (fun e => by rw [e] at hll; rw [List.getLast?_eq_some_getLast hR.k] at hll; cases hll), hll]
  refine strip_mid ?_ ?_ (by simp) ?_ ?_
  · intro c hc
    simp only [List.mem_cons, List.not_mem_nil, or_false] at hc
    rcases hc with rfl | rfl
    · exact sp10
    · exact sp32
  · intro c hc
    simp only [List.mem_cons, List.not_mem_nil, or_false] at hc
    rcases hc with rfl | rfl
    · exact sp32
    · exact sp10
  · intro c hc
    cases q with
    | nil => exact absurd rfl hq
    | cons d q =>
      simp only [List.cons_append, List.head?_cons, Option.some.injEq] at hc
      subst hc
      exact (hg _ (.head _)).ink
  · intro c hc
    rw [List.getLast?_append, List.getLast?_append, hjl, List.getLast?_eq_some_getLast hR.k] at hc
    simp only [Option.some_or, Option.some.injEq] at hc
    rw [← hc]
    exact (hR.kg _ (List.getLast_mem hR.k)).ink
theorem given_len (zs : List Int) : (givenL zs).length ≤ 15 := by unfold givenL; simp; omega
theorem given_ne (zs : List Int) : givenL zs ≠ [] := by unfold givenL; simp
theorem given_base (zs : List Int) : ∀ c ∈ givenL zs, c ∈ baseS := fun c hc => by
  unfold givenL at hc
  rcases List.mem_append.mp hc with hc | hc
  · obtain ⟨z, _, rfl⟩ := List.mem_map.mp hc
    have h1 : 0 ≤ z % 4 := Int.emod_nonneg _ (by decide)
    have h2 : z % 4 < 4 := Int.emod_lt_of_pos _ (by decide)
    have : (z % 4).toNat < 4 := by omega
    unfold sgn
    generalize (z % 4).toNat = k at this
    match k, this with
    | 0, _ => decide
    | 1, _ => decide
    | 2, _ => decide
    | 3, _ => decide
  · exact (by decide : ∀ c ∈ [97, 61, 97, 97, 61], c ∈ baseS) c hc
end Mine
end

noncomputable section
open PySem PySem.W PyProof.Rows PySem.Spec PyProof.Rows.LCg
set_option maxRecDepth 100000
set_option maxHeartbeats 4000000
namespace Mine
theorem law13 : ∀ {w : World} {p : Program} {loose : List Str} {mean : ExcName → Option Value} {mg mb : Str → Option Value} {bs h : Heap} {L fa : Addr} {cd : Value} {fd : FuncData} {gn : Array GenState} {dr : Drawn} {tk : Nat} {os : OsState} {Q : Flow → Shared → Prop} {E : Value → Shared → Prop}
   (C : LC w bs fd) (X : (hd.heap_39 w.params).In bs) (T : Top p loose mean mg mb bs)
   {m : Str → Option Value} {o1 o2 o3 o4 o5 o6 o7 : Obj} {P R TT PK : Addr} {tvs pvs : List Value} {a b : Nat} {tl : List (Addr × Obj)} {xs : List (List Nat)}
   (F : Fr bs L h (kstB m [("plan", .ref P), ("packed", .ref PK)])) (N : News bs L h (led0 L o1 o2 o3 o4 o5 o6 o7 tl))
   (mP : (P, listOf #[.ref R, .ref TT] a) ∈ tl) (mT : (TT, listOf tvs.toArray b) ∈ tl) (mK : (PK, lst pvs) ∈ tl) (hT : TxsAre tvs xs) (hP : TxsAre pvs xs) (hs : ∀ x ∈ xs, Sm x)
   (next : ∀ h' tk', Fr bs L h' (kstB m [("plan", .ref P), ("packed", .ref PK)]) → News bs L h' (led0 L o1 o2 o3 o4 o5 o6 o7 tl) → Q .next ⟨h', gn, dr, tk', os⟩),
   wpAny (model PySem.Challenge.rw_il0159_01.prog w) (callerA.deeper (lawEnv fd L fa cd)) (exec (stmtAt fd 12) (lawEnv fd L fa cd)) Q E ⟨h, gn, dr, tk, os⟩ := by
  k_with_none
  k_with "subscriptTail Name Constant ref int" => (k_here; (with_reducible rename News _ _ _ _ => N'); refine item_T N' (by (repeat (first | (exact lm0 (by assumption)) | (refine List.Mem.tail _ ?_)))) (by decide) (by decide) rfl ?_)
  k_fill
  intro w p loose mean mg mb bs h L fa cd fd gn dr tk os Q E C X T m o1 o2 o3 o4 o5 o6 o7 P R TT PK tvs pvs a b tl xs F N mP mT mK hT hP hs next
  obtain ⟨hfd, K0, C1, C2⟩ := C
  cases some_lit hfd (rfl : lawDef w.params = some ⟨_, _, _, _, _, _, _, _, _, _, _, _, _, _, _⟩)
  clear hfd
  dsimp only [stmtAt, stmtsOf, List.drop, List.headD, lawEnv]
  repeat ((fail_if_success (with_reducible show wpAny _ _ (compareOp _ _ _) _ _ _)); walk1)
  rename Fr _ _ _ _ => F2
  rename News _ _ _ _ => N2
  refine ne_same (s := ⟨_, gn, dr, _, os⟩) (d := dTs xs) ?_ ?_ ((dok_Ts hs).up (by decide)) (by exact Nat.le_of_ble_eq_true rfl) ?_
  · exact rd_list (N2 _ (lm0 mK)).1 (rd_Ts hP)
  · exact rd_list (N2 _ (lm0 mT)).1 (rd_Ts hT)
  iterate 4 walk1
  exact next _ _ F2 N2
end Mine
end

noncomputable section
open PySem PySem.W PyProof.Rows PySem.Spec PyProof.Rows.LCg
set_option maxRecDepth 100000
set_option maxHeartbeats 4000000
namespace Mine
section
theorem law16 : ∀ {w : World} {p : Program} {loose : List Str} {mean : ExcName → Option Value} {mg mb : Str → Option Value} {bs h : Heap} {L fa : Addr} {cd : Value} {fd : FuncData} {gn : Array GenState} {dr : Drawn} {tk : Nat} {os : OsState} {Q : Flow → Shared → Prop} {E : Value → Shared → Prop}
   (C : LC w bs fd) (X : (hd.heap_39 w.params).In bs) (T : Top p loose mean mg mb bs)
   {m : Str → Option Value} {o1 o2 o3 o4 o5 o6 o7 : Obj} {P R TT LN D : Addr} {tvs ys : List Value} {v : Value} {a b : Nat} {tl : List (Addr × Obj)} {q : List Nat} {ls : List (List Nat)} {t u : Tok}
   (F : Fr bs L h (kstB m [("plan", .ref P), ("lines", .ref LN)])) (N : News bs L h (led0 L o1 o2 o3 o4 o5 o6 o7 tl)) (h6 : o6.data = .cell (some (.ref D)))
   (mP : (P, listOf #[.ref R, .ref TT] a) ∈ tl) (mT : (TT, listOf (tvs ++ [v]).toArray b) ∈ tl) (mL : (LN, lst ys) ∈ tl) (mD : (D, tupO [.str (Tx (q ++ [32])) t, .str (Tx (joinL 10 ls)) u]) ∈ tl)
   (hv : IsT v q) (hy : TxsAre ys ls) (hq : q.length ≤ 1000) (hll : ls.length ≤ 20) (hb : ∀ p ∈ ls, p.length ≤ 1000) (s1 : Sm (q ++ [32])) (s2 : Sm (joinL 10 ls))
   (next : ∀ h' tk', Fr bs L h' (kstB m [("plan", .ref P), ("lines", .ref LN)]) → News bs L h' (led0 L o1 o2 o3 o4 o5 o6 o7 tl) → Q .next ⟨h', gn, dr, tk', os⟩),
   wpAny (model PySem.Challenge.rw_il0159_01.prog w) (callerA.deeper (lawEnv fd L fa cd)) (exec (stmtAt fd 15) (lawEnv fd L fa cd)) Q E ⟨h, gn, dr, tk, os⟩ := by
  k_with_none
  k_with "eval Constant str" => (k_here; refine const_T ?_; (simp only [lit_nl, lit_sp]); intro _ _)
  k_with "binaryOp Add str str" => (k_here; (with_reducible show wpAny _ _ (binaryOp _ (Value.str (Tx _) _) (Value.str (Tx _) _)) _ _ _); refine add_T (by (simp only [List.length_append, List.length_cons, List.length_nil]; omega)) ?_; intro _ _)
  k_with "subscriptTail Name Constant ref int" => (k_here; (with_reducible rename News _ _ _ _ => N'); refine item_T N' (lm0 (by assumption)) (by decide) (by decide) rfl ?_)
  k_with "subscriptTail Name UnaryOp ref int" => (k_here; (with_reducible rename News _ _ _ _ => N'); refine lastItem_T N' (lm0 (by assumption)) ?_)
  k_with "call builtin:str.join" => (k_here; (with_reducible rename News _ _ _ _ => N'); refine joinC_T N' (lm0 (by assumption)) (by assumption) 1000 (by assumption) (by omega) ?_; intro _ _)
  k_fill
  intro w p loose mean mg mb bs h L fa cd fd gn dr tk os Q E C X T m o1 o2 o3 o4 o5 o6 o7 P R TT LN D tvs ys v a b tl q ls t u F N h6 mP mT mL mD hv hy hq hll hb s1 s2 next
  obtain ⟨hfd, K0, C1, C2⟩ := C
  cases some_lit hfd (rfl : lawDef w.params = some ⟨_, _, _, _, _, _, _, _, _, _, _, _, _, _, _⟩)
  clear hfd
  obtain ⟨tv, rfl⟩ := hv
  dsimp only [stmtAt, stmtsOf, List.drop, List.headD, lawEnv]
  repeat ((fail_if_success (with_reducible show wpAny _ _ (compareOp _ _ _) _ _ _)); walk1)
  rename Fr _ _ _ _ => F2
  rename News _ _ _ _ => N2
  refine ne_same (s := ⟨_, gn, dr, _, os⟩) (d := .tuple [dT (q ++ [32]), dT (joinL 10 ls)]) ?_ ?_ ((DOk.tuple (k := 0) (fun d hd => ?_)).up (by decide)) (by exact Nat.le_of_ble_eq_true rfl) ?_
  · exact rd_tuple (N2 _ (.tail _ (lm0 mD))).1 (rd_cons (rd_T ⟨_, rfl⟩) (rd_cons (rd_T ⟨_, rfl⟩) rd_nil))
  · exact rd_tuple (N2 _ (.head _)).1 (rd_cons (rd_T ⟨_, rfl⟩) (rd_cons (rd_T ⟨_, rfl⟩) rd_nil))
  · simp only [List.mem_cons, List.not_mem_nil, or_false] at hd
    rcases hd with rfl | rfl
    · exact DOk.str s1
    · exact DOk.str s2
  iterate 4 walk1
  exact next _ _ F2 (fun p hp => N2 p (.tail _ hp))
end
end Mine
end

noncomputable section
open PySem PySem.W PyProof.Rows PySem.Spec
set_option maxRecDepth 100000
set_option maxHeartbeats 4000000
namespace Mine
theorem enter_cellsB {prog : Program} {w : World} {A : Around} {R : Result → Shared → Prop} {s : Shared} {name qual : Str} {params : Arguments} {body : List Stmt} {scope : Scope} {dV kV doc pm cdv ct : Value} {an : Option Addr} {f : Addr} {fo : Obj} {args : List Value} {binds : List (Str × Value)} {led : List (Addr × Obj)}
    (hled : ∀ p ∈ led, s.heap.get? p.1 = some p.2) (hlim : s.heap.NoLimit)
    (ho : s.heap.get? f = some fo) (hd : fo.data = .func (fnX name qual params body scope [] dV kV doc pm an cdv ct)) (hcd : s.heap.CodeRec cdv qual) (hroom : A.depth < recursionLimit)
    (hbind : BindsTo s (fnX name qual params body scope [] dV kV doc pm an cdv ct) ⟨args, []⟩ binds)
    (hkind : ∀ n, ∀ x ∈ binds, scope.names.lookup x.1 = some .local ∨ (scope.names.lookup x.1 = some .cell ∧ ((cellsFrom n scope.names []).lookup x.1).isSome = true))
    (hnd : ((cellsFrom 0 scope.names []).map (·.1)).Nodup)
    (h : ∀ L h₁ tk cells, Fr (hideAll s.heap (led.map (·.1))) L h₁ (bindL (envOfC qual scope L f cdv).kindOf binds fun _ => none) → News (hideAll s.heap (led.map (·.1))) L h₁ (cells ++ led) →
      CellsAre (bindC (envOfC qual scope L f cdv).kindOf binds fun _ => none) (cellsFrom (L + 1) scope.names []) cells → (∀ p ∈ led, p.1 < L) → L = s.heap.objs.size →
      wpAny (model prog w) (A.deeper (envOfC qual scope L f cdv)) (execs body (envOfC qual scope L f cdv))
        (fun fl s' => R (.ok (.ret (match fl with | .ret v => v | _ => .none))) s') (fun _ _ => False) { s with heap := h₁, toks := tk })
    (hco : scope.isCoroutine = false := by rfl) (hgen : scope.isGenerator = false := by rfl) (hk : scope.kind = .function := by rfl) : codeAny (model prog w) A (.call (.ref f) ⟨args, []⟩) R s := by
  refine codeAny_call_function hroom ho hd hco hgen rfl hcd (hbind _ _ _ _ ?_)
  refine wpAny_newFunctionEnv_cells hk (hkind _) fun env' he s' x => ?_
  subst he
  refine ⟨hlim.keeps x.toInCall.keep, codeAny_func ?_⟩
  obtain ⟨h₁, tk, rfl, _⟩ := x.done
  have hk₁ := x.toInCall.keep
  obtain ⟨cells, NC, Y⟩ := Cl.news (h₀ := s.heap) (Nat.le_refl _) fun n c hm => ⟨x.cell n c (lookup_of_mem_nodup (cellsFrom_names scope.names 0 (s.heap.objs.size + 1) [] [] rfl ▸ hnd) hm), x.above n c hm⟩
  refine wpAny_mono (h s.heap.objs.size h₁ tk cells ⟨x.toInCall.ns, fun b o e => hk₁ b o (of_hideAll _ e), Nat.le_of_eq (hideAll_size _ _)⟩ (fun p hp => ?_) Y (fun p hp => Heap.lt_size (hled p hp)) rfl) (fun fl s' hl => hl) fun _ _ y => y.elim
  rcases List.mem_append.mp hp with hp | hp
  · refine ⟨(NC p hp).1, (NC p hp).2.1, ?_⟩
    cases q : (hideAll s.heap (led.map (·.1))).get? p.1 with
    | none => rfl
    | some o => have := of_hideAll _ q; rw [(NC p hp).2.2] at this; cases this
  · exact ⟨hk₁ _ _ (hled p hp), Nat.ne_of_lt (Heap.lt_size (hled p hp)), hideAll_none _ (List.mem_map_of_mem hp)⟩
abbrev gA (env env2 : Env) : Around := (callerA.deeper env).in1.deeper env2
section
theorem pg1 : ∀ {w : World} {env env2 : Env} {h : Heap} {gn : Array GenState} {dr : Drawn} {tk : Nat} {os : OsState} {Q : Value → Shared → Prop} {E : Value → Shared → Prop} {t : Tok}
   (X : (hd.heap_39 w.params).In h)
   (hret : XRet h gn dr os Q fun v h' => v = .builtin "tuple.__getitem__"),
   wpAny (model PySem.Challenge.rw_il0159_01.prog w) (gA env env2) (call (.builtin "type.__getattribute__") [.type "tuple", .str "__getitem__" t]) Q E ⟨h, gn, dr, tk, os⟩ := by
  k_with_none
  k_with "x_close" => ((rename XRet _ _ _ _ _ _ => hret'); refine hret' _ _ _ (fun _ _ e => e) rfl)
  k_fill
  intro w env env2 h gn dr tk os Q E t X hret
  x_run
end
section
theorem pg2 : ∀ {w : World} {env env2 : Env} {h : Heap} {gn : Array GenState} {dr : Drawn} {tk : Nat} {os : OsState} {Q : Value → Shared → Prop} {E : Value → Shared → Prop} {P I : Addr} {a b : Value}
   (X : (hd.heap_39 w.params).In h) (hP : h.get? P = some ⟨.ref 217, some I, .seq #[a, b] 0, #[]⟩)
   (hret : XRet h gn dr os Q fun v h' => v = .ref 217),
   wpAny (model PySem.Challenge.rw_il0159_01.prog w) (gA env env2) (call (.type "type") [.ref P]) Q E ⟨h, gn, dr, tk, os⟩ := by
  k_with_none
  k_with "x_close" => ((rename XRet _ _ _ _ _ _ => hret'); refine hret' _ _ _ (fun _ _ e => e) rfl)
  k_fill
  intro w env env2 h gn dr tk os Q E P I a b X hP hret
  x_run
theorem pg3 : ∀ {w : World} {env env2 : Env} {h : Heap} {gn : Array GenState} {dr : Drawn} {tk : Nat} {os : OsState} {Q : Value → Shared → Prop} {E : Value → Shared → Prop}
   (X : (hd.heap_39 w.params).In h)
   (hret : XRet h gn dr os Q fun v h' => v = .bool true),
   wpAny (model PySem.Challenge.rw_il0159_01.prog w) (gA env env2) (call (.builtin "issubclass") [.ref 217, .type "tuple"]) Q E ⟨h, gn, dr, tk, os⟩ := by
  k_with_none
  k_with "x_close" => ((rename XRet _ _ _ _ _ _ => hret'); refine hret' _ _ _ (fun _ _ e => e) rfl)
  k_fill
  intro w env env2 h gn dr tk os Q E X hret
  x_run
end
theorem kind_tugi : builtinKind "tuple.__getitem__" = some .slot := by decide +kernel
theorem split_tugi : splitId "tuple.__getitem__" = some ("tuple", "__getitem__") := by decide +kernel
theorem tugi_ok {M : Model} {A : Around} {h : Heap} {gn : Array GenState} {dr : Drawn} {tk : Nat} {os : OsState} {P : Addr} {n : Value} (typ : Looks M h (isInstance (.ref P) (.type "tuple")) true) :
   wpAny M A (checkBuiltinCall "tuple.__getitem__" ⟨[.ref P, n], []⟩) (fun _ s => s = ⟨h, gn, dr, tk, os⟩) (fun _ _ => False) ⟨h, gn, dr, tk, os⟩ :=
  @check_slot M A (fun _ _ => False) ⟨h, gn, dr, tk, os⟩ "tuple.__getitem__" "tuple" "__getitem__" (.ref P) [n] [] (fun _ s => s = ⟨h, gn, dr, tk, os⟩) kind_tugi split_tugi typ (PySem.F.args_tuple_getitem_2 (.ref P) n) rfl
theorem pair_item {prog : Program} {w : World} {A : Around} {K : Frag} {h : Heap} {gn : Array GenState} {dr : Drawn} {tk : Nat} {os : OsState} {Q : Value → Shared → Prop} {E : Value → Shared → Prop} {P I : Addr} {a b v : Value} {k : Int} {t : Tok}
   (X : K.In h) (hsub : subIn K (.ref 217) (.type "tuple") = some true) (hP : h.get? P = some (pairO I a b)) (h0 : 0 ≤ k) (h1 : k < 2) (hv : (#[a, b] : Array Value)[k.toNat]? = some v) (q : Q v ⟨h, gn, dr, tk, os⟩) :
   wpAny (model prog w) A (call (.builtin "tuple.__getitem__") [.ref P, .int k t]) Q E ⟨h, gn, dr, tk, os⟩ := by
  have typ : Looks (model prog w) h (isInstance (.ref P) (.type "tuple")) true := ((Looks.ld hP).andThen .now).andThen (looks_subIn X hsub)
  have hj : seqIndex? k (#[a, b] : Array Value).size = some k.toNat := by
    unfold seqIndex?
    simp only [if_neg (show ¬ k < 0 by omega)]
    exact if_pos (by rw [Bool.and_eq_true, decide_eq_true_eq, decide_eq_true_eq]; exact ⟨h0, h1⟩)
  refine wpAny_call (codeAny_call_builtin_at (Code.quiet_builtin _ (by decide +kernel)) PyProof.Rows.entry_tuple_getitem (wpAny_mono (tugi_ok typ) (fun _ s1 hs1 => ?_) (fun _ _ z => z.elim)))
  subst hs1
  show wpAny _ _ (Builtin.Tuple.tupleItemsOf (.ref P) >>= _) _ _ _
  unfold Builtin.Tuple.tupleItemsOf
  refine wpAny_bind (wpAny_bind (wpAny_seqItems hP rfl (wpAny_pure ?_)))
  refine wpAny_bind (wpAny_typeOf (typeIs_int _ k t) ?_)
  rw [if_neg (by decide)]
  refine wpAny_bind (wpAny_specialOf (T := "int") (typeIs_int _ k t) int_index ?_)
  rw [if_neg (by simp)]
  refine wpAny_bind (wpAny_of_eq (a := k) rfl ?_)
  rw [if_neg (by simp only [Bool.or_eq_true, decide_eq_true_eq]; omega)]
  simp only [hj, Option.bind_some, hv]
  exact wpAny_pure q
theorem c_get : ∀ {w : World} {env : Env} {h : Heap} {gn : Array GenState} {dr : Drawn} {tk : Nat} {os : OsState} {Q E : Value → Shared → Prop} {p : Program} {loose : List Str} {mean : ExcName → Option Value} {mg mb : Str → Option Value} {P I d : Addr} {a b : Value}
   (X : (hd.heap_39 w.params).In h) (T : Top p loose mean mg mb h) (hP : h.get? P = some (pairO I a b)) {k : Int} {v : Value} (h0 : 0 ≤ k) (h1 : k < 2) (hv : (#[a, b] : Array Value)[k.toNat]? = some v)
   (hidx : ∀ (A : Around) (h' : Heap) (tk : Nat) (Q E : Value → Shared → Prop), Kp h h' → (∀ t tk', Q (.int k t) ⟨h', gn, dr, tk', os⟩) → wpAny (model PySem.Challenge.rw_il0159_01.prog w) A (getAttr (.ref d) "index" true) Q E ⟨h', gn, dr, tk, os⟩)
   (q : ∀ h' tk', Kp h h' → Q v ⟨h', gn, dr, tk', os⟩),
   wpAny (model PySem.Challenge.rw_il0159_01.prog w) (callerA.deeper env).in1 (call (.ref 75) [.ref d, .ref P, .ref 217]) Q E ⟨h, gn, dr, tk, os⟩ := by
  k_with_none
  k_fill
  intro w env h gn dr tk os Q E p loose mean mg mb P I d a b X T hP k v h0 h1 hv hidx q
  refine wpAny_call (enter_cellsB (s := ⟨h, gn, dr, tk, os⟩) (led := []) (binds := [("self", .ref d), ("obj", .ref P), ("objtype", .ref 217)]) (fun p hp => nomatch hp) T.nolimit (X 75 _ (by k_is)) rfl (codeRec_of X (by k_is)) (Nat.le_of_ble_eq_true rfl) (binds_K X rfl (by k_is) rfl rfl rfl) (fun n x hx => by
    simp only [List.mem_cons, List.not_mem_nil, or_false] at hx
    rcases hx with rfl | rfl | rfl <;> exact .inl rfl) (by decide) (fun L h₁ tk cells F N Y lt eL => ?_))
  cases Y
  have hide : hideAll h (([] : List (Addr × Obj)).map (·.1)) = h := by first | rfl | simp [hideAll]
  rw [hide] at F N
  replace F := fr_selfX (ps := [("self", .ref d), ("obj", .ref P), ("objtype", .ref 217)]) F (List.forall_mem_cons.mpr ⟨rfl, List.forall_mem_cons.mpr ⟨rfl, List.forall_mem_cons.mpr ⟨rfl, fun _ h => nomatch h⟩⟩⟩)
  repeat walk1
  rename Fr _ _ _ _ => F2
  rename News _ _ _ _ => N2
  refine pg2 (fun x o e => F2.keep x o (X x o e)) (F2.keep _ _ hP) ?_
  rintro v h2 tk2 k2 rfl
  have F3 := F2.keeps k2
  have N3 : News h L h2 [] := fun p hp => nomatch hp
  clear F2 N2
  repeat ((fail_if_success (with_reducible show wpAny _ _ (call _ _) _ _ _)); walk1)
  rename Fr _ _ _ _ => F2
  rename News _ _ _ _ => N2
  refine pg3 (fun x o e => F2.keep x o (X x o e)) ?_
  rintro v h4 tk4 k4 rfl
  have F3 := F2.keeps k4
  have N3 : News h L h4 [] := fun p hp => nomatch hp
  clear F2 N2
  repeat ((fail_if_success (with_reducible show wpAny _ _ (getMethod _ _ _) _ _ _)); walk1)
  refine type_getMethod (T := "tuple") (name := Str.ofString "__getitem__") (v := .builtin "tuple.__getitem__") ?a ?b ?c ?_
  case a => exact metaTuple
  case b => rfl
  case c =>
    rename Fr _ _ _ _ => F2
    intro tk tk' Q E hq
    refine pg1 (fun x o e => F2.keep x o (X x o e)) ?_
    rintro v h' tk'' k rfl
    exact hq h' tk'' k
  intro h5 tk5 k5
  rename Fr _ _ _ _ => F2
  have F5 := F2.keeps k5
  have N5 : News h L h5 [] := fun p hp => nomatch hp
  clear F2
  repeat ((fail_if_success (with_reducible show wpAny _ _ (getAttr _ _ _) _ _ _)); walk1)
  rename Fr _ _ _ _ => F2
  refine hidx _ _ _ _ _ F2.keep fun t tk6 => ?_
  repeat ((fail_if_success (with_reducible show wpAny _ _ (call _ _) _ _ _)); walk1)
  exact pair_item (X.keeps F2.keep) (by k_is) (F2.keep _ _ hP) h0 h1 hv (q _ _ F2.keep)
theorem idx0 : ∀ {w : World} {A : Around} {h : Heap} {gn : Array GenState} {dr : Drawn} {tk : Nat} {os : OsState} {Q E : Value → Shared → Prop} (X : (hd.heap_39 w.params).In h)
   (q : ∀ t tk', Q (.int 0 t) ⟨h, gn, dr, tk', os⟩), wpAny (model PySem.Challenge.rw_il0159_01.prog w) A (getAttr (.ref 186) "index" true) Q E ⟨h, gn, dr, tk, os⟩ := by
  k_fill
  intro w A h gn dr tk os Q E X q
  refine' get_value (s := ⟨h, gn, dr, tk, os⟩) X ?k3 ?k4 (findObj_own ?k5 ?k6 ?k7 ?k8) ?k9 ?_
  (case k3 => refine' InstAt.of_K X ?h1 ?h2; (case h1 => k_is); (case h2 => k_is))
  (case k4 => k_is)
  (case k5 => k_is)
  (case k6 => k_is)
  (case k7 => k_is)
  (case k8 => first | exact (lookIn_dict _ _ _).trans (by k_get) | rfl | (with_unfolding_all rfl))
  (case k9 => k_handed)
  exact q _ _
theorem idx1 : ∀ {w : World} {A : Around} {h : Heap} {gn : Array GenState} {dr : Drawn} {tk : Nat} {os : OsState} {Q E : Value → Shared → Prop} (X : (hd.heap_39 w.params).In h)
   (q : ∀ t tk', Q (.int 1 t) ⟨h, gn, dr, tk', os⟩), wpAny (model PySem.Challenge.rw_il0159_01.prog w) A (getAttr (.ref 189) "index" true) Q E ⟨h, gn, dr, tk, os⟩ := by
  k_fill
  intro w A h gn dr tk os Q E X q
  refine' get_value (s := ⟨h, gn, dr, tk, os⟩) X ?k3 ?k4 (findObj_own ?k5 ?k6 ?k7 ?k8) ?k9 ?_
  (case k3 => refine' InstAt.of_K X ?h1 ?h2; (case h1 => k_is); (case h2 => k_is))
  (case k4 => k_is)
  (case k5 => k_is)
  (case k6 => k_is)
  (case k7 => k_is)
  (case k8 => first | exact (lookIn_dict _ _ _).trans (by k_get) | rfl | (with_unfolding_all rfl))
  (case k9 => k_handed)
  exact q _ _
end Mine
end

noncomputable section
open PySem PySem.W PyProof.Rows PySem.Spec
set_option maxRecDepth 100000
set_option maxHeartbeats 4000000
namespace Mine
theorem type_tuga : typeOf (.builtin "tuple.__getattribute__") = pure (.type "wrapper_descriptor") := by show builtinType _ = _; rw [builtinType_eq_fast]; kernel_rfl
theorem bind_tuga (self : Value) : bindSpecial (.builtin "tuple.__getattribute__") self = pure (.builtin "tuple.__getattribute__", [self]) := by
  unfold bindSpecial
  rw [type_tuga]
  rfl
theorem entry_tuga : entryFor table "tuple.__getattribute__" = some Builtin.«object.__getattribute__» := entryFor_alias (id' := "object.__getattribute__") (by kernel_rfl) (by first | rfl | decide +kernel) (by decide +kernel) (by kernel_rfl)
theorem plain_tuga : plainId "tuple.__getattribute__" = true := by decide +kernel
theorem kind_tuga : builtinKind "tuple.__getattribute__" = some .slot := by decide +kernel
theorem split_tuga : splitId "tuple.__getattribute__" = some ("tuple", "__getattribute__") := by decide +kernel
theorem args_tuga (a b : Value) : argsOk "tuple.__getattribute__" ⟨[a, b], []⟩ := by unfold argsOk; kernel_rfl
theorem tuga_ok {M : Model} {A : Around} {h : Heap} {gn : Array GenState} {dr : Drawn} {tk : Nat} {os : OsState} {P : Addr} {n : Value} (typ : Looks M h (isInstance (.ref P) (.type "tuple")) true) :
   wpAny M A (checkBuiltinCall "tuple.__getattribute__" ⟨[.ref P, n], []⟩) (fun _ s => s = ⟨h, gn, dr, tk, os⟩) (fun _ _ => False) ⟨h, gn, dr, tk, os⟩ :=
  @check_slot M A (fun _ _ => False) ⟨h, gn, dr, tk, os⟩ "tuple.__getattribute__" "tuple" "__getattribute__" (.ref P) [n] [] (fun _ s => s = ⟨h, gn, dr, tk, os⟩) kind_tuga split_tuga typ (args_tuga (.ref P) n) rfl
/-- a field of a tuple of an own class that a data descriptor holds -/
theorem pair_bind {prog : Program} {w : World} {A : Around} {K : Frag} {h : Heap} {gn : Array GenState} {dr : Drawn} {tk : Nat} {os : OsState} {Q : Value → Shared → Prop} {E : Value → Shared → Prop} {P I : Addr} {oI : Obj} {a b : Value} {name : Str} {ex : Bool} {d g : Addr}
   (X : K.In h) (hP : h.get? P = some (pairO I a b)) (hI : h.get? I = some oI) (hsub : subIn K (.ref 217) (.type "tuple") = some true)
   (hga : findIn K (.ref 217) "__getattribute__" = some (some (.builtin "tuple.__getattribute__"))) (hno : findIn K (.ref 217) "__getattr__" = some none) (hf : findObj K 217 (some oI) name = some (.bind (.ref g) (.ref d)))
   (q : ∀ t tk', wpAny (model prog w) A.in1 (call (.ref g) [.ref d, .ref P, .ref 217]) (fun v s => wpAny (model prog w) A (handedOut v) Q E s) (fun e s => wpAny (model prog w) A (getattributeRaised (.ref P) (.str name t) (.ref 217) e none true ex) Q E s) ⟨h, gn, dr, tk', os⟩) :
   wpAny (model prog w) A (getAttr (.ref P) name ex) Q E ⟨h, gn, dr, tk, os⟩ := by
  have I0 : InstAt h P (pairO I a b) 217 (some oI) := ⟨hP, rfl, rfl, hI⟩
  have typ : Looks (model prog w) h (isInstance (.ref P) (.type "tuple")) true := ((Looks.ld hP).andThen .now).andThen (looks_subIn X hsub)
  unfold getAttr getAttrBy
  refine wpAny_bind (wpAny_mkText (wpAny_holding (wpAny_bind (Looks.here (s := ⟨h, gn, dr, tk + 1, os⟩) I0.type (wpAny_bind (Looks.here (s := ⟨h, gn, dr, tk + 1, os⟩) (looks_findIn X hga) ?_))))))
  show wpAny _ _ (getAttrByItsOwn (.ref P) (.str name tk) (.ref 217) (.builtin "tuple.__getattribute__") true ex) _ _ _
  unfold getAttrByItsOwn
  refine wpAny_bind (Looks.here (s := ⟨h, gn, dr, tk + 1, os⟩) (show Looks _ h (hookBefore (.ref 217)) none from looks_findIn X hno) ?_)
  refine wpAny_bind (wpAny_attempt (wpAny_holding ?_))
  have e : callGetattribute (.ref P) (.str name tk) (.builtin "tuple.__getattribute__") ex = boundAndCalled (.builtin "tuple.__getattribute__") (.ref P) (.str name tk) := by
    cases ex <;> rfl
  rw [e]
  unfold boundAndCalled
  refine wpAny_bind (wpAny_of_eq (bind_tuga _) ?_)
  show wpAny _ _ (call (.builtin "tuple.__getattribute__") [.ref P, .str name tk]) _ _ _
  refine wpAny_call (codeAny_call_builtin_at (plainId_quiet plain_tuga _) entry_tuga ?_)
  refine wpAny_mono (tuga_ok (tk := tk + 1) typ) (fun _ s1 hs1 => ?_) (fun _ _ z => z.elim)
  subst hs1
  rw [Around.under_plainId plain_tuga]
  show wpAny _ _ (typeOf (.ref P) >>= _) _ _ _
  refine wpAny_bind (Looks.here (s := ⟨h, gn, dr, tk + 1, os⟩) I0.type (wpAny_bind (Looks.here (s := ⟨h, gn, dr, tk + 1, os⟩) (looks_find X I0 hf) ?_)))
  show wpAny _ _ (holding [.ref d] (call (.ref g) [.ref d, .ref P, .ref 217]) >>= ret) _ _ _
  exact wpAny_bind (wpAny_holding (wpAny_mono (q tk (tk + 1)) (fun v s z => wpAny_pure z) (fun _ _ z => z)))
section
variable {w : World} {env : Env} {h : Heap} {gn : Array GenState} {dr : Drawn} {tk : Nat} {os : OsState} {Q E : Value → Shared → Prop}
theorem pair_name : ∀ {w : World} {env : Env} {h : Heap} {gn : Array GenState} {dr : Drawn} {tk : Nat} {os : OsState} {Q E : Value → Shared → Prop} {p : Program} {loose : List Str} {mean : ExcName → Option Value} {mg mb : Str → Option Value} {P I : Addr} {oI : Obj} {a b : Str} {ta tb : Tok} {ex : Bool}
   (X : (hd.heap_39 w.params).In h) (T : Top p loose mean mg mb h) (hP : h.get? P = some (pairO I (.str a ta) (.str b tb))) (hI : h.get? I = some oI)
   (q : ∀ h' tk', Kp h h' → Q (.str a ta) ⟨h', gn, dr, tk', os⟩),
   wpAny (model PySem.Challenge.rw_il0159_01.prog w) (callerA.deeper env) (getAttr (.ref P) "name" ex) Q E ⟨h, gn, dr, tk, os⟩ := by
  k_fill
  intro w env h gn dr tk os Q E p loose mean mg mb P I oI a b ta tb ex X T hP hI q
  refine' pair_bind (d := 186) (g := 75) X hP hI ?g1 ?g2 ?g3 (findObj_data ?g4 ?g5 ?g6 ?g7) (fun t tk1 => ?_)
  (case g1 => k_is)
  (case g2 => k_is)
  (case g3 => k_is)
  (case g4 => kernel_rfl)
  (case g5 => k_is)
  (case g6 => k_is)
  (case g7 => k_is)
  exact c_get X T hP (k := 0) (by decide) (by decide) rfl (fun A h' tk Q E k z => idx0 (X.keeps k) z) (fun h' tk' k => wpAny_pure (q h' tk' k))
theorem pair_value : ∀ {w : World} {env : Env} {h : Heap} {gn : Array GenState} {dr : Drawn} {tk : Nat} {os : OsState} {Q E : Value → Shared → Prop} {p : Program} {loose : List Str} {mean : ExcName → Option Value} {mg mb : Str → Option Value} {P I : Addr} {oI : Obj} {a b : Str} {ta tb : Tok} {ex : Bool}
   (X : (hd.heap_39 w.params).In h) (T : Top p loose mean mg mb h) (hP : h.get? P = some (pairO I (.str a ta) (.str b tb))) (hI : h.get? I = some oI)
   (q : ∀ h' tk', Kp h h' → Q (.str b tb) ⟨h', gn, dr, tk', os⟩),
   wpAny (model PySem.Challenge.rw_il0159_01.prog w) (callerA.deeper env) (getAttr (.ref P) "value" ex) Q E ⟨h, gn, dr, tk, os⟩ := by
  k_fill
  intro w env h gn dr tk os Q E p loose mean mg mb P I oI a b ta tb ex X T hP hI q
  refine' pair_bind (d := 189) (g := 75) X hP hI ?g1 ?g2 ?g3 (findObj_data ?g4 ?g5 ?g6 ?g7) (fun t tk1 => ?_)
  (case g1 => k_is)
  (case g2 => k_is)
  (case g3 => k_is)
  (case g4 => kernel_rfl)
  (case g5 => k_is)
  (case g6 => k_is)
  (case g7 => k_is)
  exact c_get X T hP (k := 1) (by decide) (by decide) rfl (fun A h' tk Q E k z => idx1 (X.keeps k) z) (fun h' tk' k => wpAny_pure (q h' tk' k))
end
end Mine
end

noncomputable section
open PySem PySem.W PyProof.Rows PySem.Spec PyProof.Rows.LCg
set_option maxRecDepth 100000
set_option maxHeartbeats 4000000
namespace Mine
section
theorem law18 : ∀ {w : World} {p : Program} {loose : List Str} {mean : ExcName → Option Value} {mg mb : Str → Option Value} {bs h : Heap} {L fa : Addr} {cd : Value} {fd : FuncData} {gn : Array GenState} {dr : Drawn} {tk : Nat} {os : OsState} {Q : Flow → Shared → Prop} {E : Value → Shared → Prop}
   (C : LC w bs fd) (X : (hd.heap_39 w.params).In bs) (T : Top p loose mean mg mb bs)
   {m : Str → Option Value} {o1 o2 o3 o4 o5 o6 o7 : Obj} {P R TT PR : Addr} {rvs pvs : List Value} {a b : Nat} {tl : List (Addr × Obj)} {rs : List (List Nat × List Nat)}
   (F : Fr bs L h (kstB m [("plan", .ref P), ("pairs", .ref PR)])) (N : News bs L h (led0 L o1 o2 o3 o4 o5 o6 o7 tl))
   (mP : (P, listOf #[.ref R, .ref TT] a) ∈ tl) (mR : (R, listOf rvs.toArray b) ∈ tl) (mK : (PR, lst pvs) ∈ tl) (hR : RowsAre (LK tl) rvs rs) (hP : PairsAre (LK tl) pvs (rs.map fun r => (r.2, r.1))) (hs : ∀ r ∈ rs, Sm r.1 ∧ Sm r.2) (hz : rs.length ≤ 20)
   (next : ∀ h' tk', Fr bs L h' (kstB m [("plan", .ref P), ("pairs", .ref PR)]) → News bs L h' (led0 L o1 o2 o3 o4 o5 o6 o7 tl) → Q .next ⟨h', gn, dr, tk', os⟩),
   wpAny (model PySem.Challenge.rw_il0159_01.prog w) (callerA.deeper (lawEnv fd L fa cd)) (exec (stmtAt fd 17) (lawEnv fd L fa cd)) Q E ⟨h, gn, dr, tk, os⟩ := by
  k_with_none
  k_with "subscriptTail Name Constant ref int" => (k_here; (with_reducible rename News _ _ _ _ => N'); refine item_T N' (.tail _ (List.mem_append_right _ (lm0 (by assumption)))) (by decide) (by decide) rfl ?_)
  k_fill
  intro w p loose mean mg mb bs h L fa cd fd gn dr tk os Q E C X T m o1 o2 o3 o4 o5 o6 o7 P R TT PR rvs pvs a b tl rs F N mP mR mK hR hP hs hz next
  obtain ⟨hfd, K0, C1, C2⟩ := C
  cases some_lit hfd (rfl : lawDef w.params = some ⟨_, _, _, _, _, _, _, _, _, _, _, _, _, _, _⟩)
  clear hfd
  dsimp only [stmtAt, stmtsOf, List.drop, List.headD, lawEnv]
  repeat ((fail_if_success (with_reducible show wpAny _ _ (eval (.ListComp _ _ _ _) _) _ _ _)); walk1)
  k_dflt (refine LCg.ListComp_U (F₀ := by k_asm) (by rfl) (by decide) (by rfl) (by decide) (by rfl) ?_)
  repeat ((fail_if_success (with_reducible show LCg.CompSrc _ _ _ _ _ _ _ _ _ _ _ _ _ _)); walk1)
  rename Fr _ _ _ _ => F4
  rename News _ _ _ _ => N4
  have hpl := hP.length
  rw [List.length_map] at hpl
  refine CompSrc.ledger rfl F4 N4 (lm0 mK) (by rw [List.size_toArray, sizeLine_eq]; omega) fun g => ?_
  refine comp_inv pvs.length (fun i ys news => ∃ own, news = own ++ led0 L o1 o2 o3 o4 o5 o6 o7 tl ∧ RowsAre (LK own) ys (rs.take i)) ?_ ?_ pvs.length 0 [] _ (by omega) ⟨[], rfl, .nil⟩
  · rintro i ys news v hi ⟨own, rfl, hys⟩ hv I oI C oC D' m₂ h3 tk3 E' hC3 hx F3 N3 off ne
    obtain ⟨r', hx2, PP, II, oII, t1, t2, rfl, mp1, mp2⟩ := hP.get' (by simpa using hv)
    clear F4 N4
    repeat ((fail_if_success (with_reducible show wpAny _ _ (getAttr _ _ _) _ _ _)); walk1)
    rename Fr _ _ _ _ => F5
    rename News _ _ _ _ => N5
    have mt : ∀ {p : Addr × Obj}, p ∈ tl → p ∈ (I, oI) :: (C, oC) :: (D', lst ys) :: (own ++ led0 L o1 o2 o3 o4 o5 o6 o7 tl) := fun h => .tail _ (.tail _ (.tail _ (List.mem_append_right _ (lm0 h))))
    refine pair_value (X.keeps F5.keep) (T.keeps F5.keep) (N5 _ (mt mp1)).1 (N5 _ (mt mp2)).1 fun h6 tk6 k6 => ?_
    have F6 := F5.keeps k6
    have N6 := N5.grown k6
    clear F5 N5
    repeat ((fail_if_success (with_reducible show wpAny _ _ (getAttr _ _ _) _ _ _)); walk1)
    rename Fr _ _ _ _ => F5
    rename News _ _ _ _ => N5
    refine pair_name (X.keeps F5.keep) (T.keeps F5.keep) (N5 _ (mt mp1)).1 (N5 _ (mt mp2)).1 fun h7 tk7 k7 => ?_
    have F7 := F5.keeps k7
    have N7 := N5.grown k7
    clear F5 N5
    repeat walk1
    rename_i l' h8 F8 N8 lt8
    rw [List.getElem?_map] at hx2
    obtain ⟨r, hr2, rfl⟩ := Option.map_eq_some_iff.mp hx2
    refine CompEnd.intro F8 N8 ((l', listOf #[.str (Tx r.1) t2, .str (Tx r.2) t1] 0) :: (own ++ led0 L o1 o2 o3 o4 o5 o6 o7 tl)) (fun p hp => mid_add (a := []) (b := [(I, oI), (C, oC), (D', lst ys)]) hp) (off3_mid (b := []) off (ne3 lt8.1 lt8.2.1 lt8.2.2.1)) (.inr ⟨_, .tail _ (List.mem_append_right _ (lm0 mK)), rfl, _, rfl⟩) ⟨(l', listOf #[.str (Tx r.1) t2, .str (Tx r.2) t1] 0) :: own, rfl, ?_⟩
    rw [List.take_add_one, hr2]
    exact All2.snoc (RowsAre.mono (fun a o h => .tail _ h) hys) ⟨l', 0, _, _, rfl, .head _⟩
  · rintro ys news ⟨own, rfl, hys⟩
    intro D3 h3 tk3 F3 N3 off3
    have hpl2 : pvs.length = rs.length := hpl
    rw [hpl2, List.take_length] at hys
    clear F4 N4
    repeat ((fail_if_success (with_reducible show wpAny _ _ (compareOp _ _ _) _ _ _)); walk1)
    rename Fr _ _ _ _ => F5
    rename News _ _ _ _ => N5
    refine ne_same (s := ⟨_, gn, dr, _, os⟩) (d := dRs rs) ?_ ?_ ((dok_Rs hs).up (by decide)) (by exact Nat.le_of_ble_eq_true rfl) ?_
    · exact rd_list (N5 _ (.head _)).1 (rd_Rs (rows_hk N5 hys (fun p hp => .tail _ (List.mem_append_left _ hp))))
    · exact rd_list (N5 _ (.tail _ (List.mem_append_right _ (lm0 mR)))).1 (rd_Rs (rows_hk N5 hR (fun p hp => .tail _ (List.mem_append_right _ (lm0 hp)))))
    iterate 4 walk1
    exact next _ _ F5 (fun p hp => N5 p (.tail _ (List.mem_append_right _ hp)))
end
end Mine
end

noncomputable section
open PySem PySem.W PyProof.Rows PySem.Spec PyProof.Rows.LCg
set_option maxRecDepth 100000
set_option maxHeartbeats 4000000
namespace Mine
/-- an iterator of a tuple of any class -/
structure PSt (it P I : Addr) (a b : Value) (i : Nat) (h : Heap) : Prop where
  it : h.IsTupleIter it P i
  p : h.get? P = some (pairO I a b)
section
variable {prog : Program} {w : World} {A : Around} {E : Value → Shared → Prop} {s : Shared} {it P I : Addr} {a b : Value} {i : Nat}
theorem PSt.apart {h : Heap} (st : PSt it P I a b i h) : P ≠ it := fun e => by
  obtain ⟨o, ho, hc, _⟩ := st.it
  rw [← e, st.p] at ho
  cases ho
  cases hc
theorem pnext {Q : Option Value → Shared → Prop} (hh : A.handled = none) (st : PSt it P I a b i s.heap)
    (h1 : ∀ x h', (#[a, b] : Array Value)[i]? = some x → PSt it P I a b (i + 1) h' → Heap.ExtBut it s.heap h' → Q (some x) { s with heap := h' })
    (h2 : ∀ h', (#[a, b] : Array Value)[i]? = none → Heap.ExtBut it s.heap h' → Q none { s with heap := h' }) : wpAny (model prog w) A (pyNext (.ref it)) Q E s := by
  have hne := st.apart
  have hx0 : (∃ x, (#[a, b] : Array Value)[i]? = some x) ∨ (#[a, b] : Array Value)[i]? = none := by
    generalize (#[a, b] : Array Value)[i]? = z
    cases z with
    | none => exact .inr rfl
    | some x => exact .inl ⟨x, rfl⟩
  obtain ⟨o, ho, hc, hd⟩ := id st.it
  unfold pyNext
  refine wpAny_bind (wpAny_attempt (wpAny_callSpecial?_slot (name := Str.ofString "__next__") st.it.typeIs PySem.F.slot_tuple_iterator_next
    (wpAny_call_entry PySem.F.slot_tuple_iterator_next st.it.typeIs PySem.F.entry_tuple_iterator_next ?_ (PySem.F.args_tuple_iterator_next_1 _))))
  show wpAny _ _ (field (.ref it) 0 >>= _) _ _ s
  refine wpAny_bind (wpAny_field ho hd (x := .ref P) rfl ?_)
  show wpAny _ _ (if (Value.ref P == Value.none) = true then _ else _) _ _ s
  rw [if_neg (show ¬ ((Value.ref P == Value.none) = true) from Bool.false_ne_true)]
  show wpAny _ _ (field (.ref it) 1 >>= _) _ _ s
  refine wpAny_bind (wpAny_field ho hd (x := .int i 0) rfl ?_)
  show wpAny _ _ (seqItems? (.ref P) >>= _) _ _ s
  refine wpAny_bind (wpAny_seqItems st.p rfl ?_)
  rcases hx0 with ⟨x, hx⟩ | hx
  ·
    simp only [Int.toNat_natCast, hx]
    refine wpAny_bind (wpAny_setField ho hd (by simp) (wpAny_pure ⟨x, rfl, wpAny_pure (h1 x _ hx ⟨?_, (Heap.SameBut.update ..).extBut _ _ hne st.p⟩ (Heap.SameBut.update ..).extBut)⟩))
    exact ⟨_, Heap.get?_update_self _ ho (Obj.isFreed_of_fields (Obj.data_mapFields hd _)), (Obj.cls_mapFields ..).trans hc, by
      rw [Obj.data_mapFields hd]; simp [rawInt]⟩
  ·
    simp only [Int.toNat_natCast, hx]
    refine wpAny_bind (wpAny_rule (wpAny_bind (wpAny_setField ho hd (by simp) ?_)))
    show wpAny _ _ (newExc (.type "StopIteration") [] >>= _) _ _ _
    refine wpAny_bind ?_
    simp only [newExc, newTuple]
    refine wpAny_bind (wpAny_newObj_type ?_ (by size_fits))
    refine wpAny_bind (m := firstArgMember _ _) (wpAny_of_eq (a := Value.none) (by first | rfl | (simp only [firstArgMember]; rfl)) ?_)
    refine wpAny_newObj_type ?_ (by size_fits)
    simp only [raiseNew]
    refine wpAny_bind (wpAny_handled ?_)
    first | rw [show A.in1.handled = none from hh] | rw [hh]
    refine wpAny_bind (wpAny_pure (wpAny_throw ?_))
    refine wpAny_bind (wpAny_isInstance (T := "StopIteration") (b := true) ⟨_, Heap.get?_push_size _ rfl, rfl⟩ isSubtype_stop ?_)
    exact wpAny_pure (h2 _ hx (((Heap.SameBut.update ..).extBut.push _).push _))
theorem pair_walks (hh : A.handled = none) : Walks prog w A it [it, P] [it] 2 (fun i v => (#[a, b] : Array Value)[i]? = some v) (PSt it P I a b) where
  sub := by simp
  frame := fun i h h' st k => ⟨st.it.at fun o e => k it (by simp) o e, k P (by simp) _ st.p⟩
  item := fun i s Q E hi st hQ => pnext hh st (fun x h' hx st' k => hQ x h' s.toks hx st' fun b o hb e => k b o (by simpa using hb) e) (fun h' hx _ => absurd (Array.getElem?_eq_none_iff.mp hx) (by show ¬ 2 ≤ i; omega))
  done := fun s Q E st hQ => pnext hh st (fun x h' hx _ _ => absurd hx (by simp)) (fun h' hx k => hQ h' s.toks fun b o hb e => k b o (by simpa using hb) e)
  self := fun i s Q E st hQ => wpAny_pyIter_tupleiter st.it hQ
theorem kind_tui : builtinKind "tuple.__iter__" = some .slot := by decide +kernel
theorem split_tui : splitId "tuple.__iter__" = some ("tuple", "__iter__") := by decide +kernel
theorem tui_ok {M : Model} {A : Around} {h : Heap} {gn : Array GenState} {dr : Drawn} {tk : Nat} {os : OsState} {P : Addr} (typ : Looks M h (isInstance (.ref P) (.type "tuple")) true) :
   wpAny M A (checkBuiltinCall "tuple.__iter__" ⟨[.ref P], []⟩) (fun _ s => s = ⟨h, gn, dr, tk, os⟩) (fun _ _ => False) ⟨h, gn, dr, tk, os⟩ :=
  @check_slot M A (fun _ _ => False) ⟨h, gn, dr, tk, os⟩ "tuple.__iter__" "tuple" "__iter__" (.ref P) [] [] (fun _ s => s = ⟨h, gn, dr, tk, os⟩) kind_tui split_tui typ (PySem.F.args_tuple_iter_1 (.ref P)) rfl
theorem pair_callIter {K : Frag} {h : Heap} {gn : Array GenState} {dr : Drawn} {tk : Nat} {os : OsState} {R : Option Value → Shared → Prop} {refuse : Sem Value} (X : K.In h) (hP : h.get? P = some (pairO I a b)) (hsub : subIn K (.ref 217) (.type "tuple") = some true)
   (hit : findIn K (.ref 217) "__iter__" = some (some (.builtin "tuple.__iter__")))
   (q : R (some (.ref h.objs.size)) ⟨h.push { cls := .type "tuple_iterator", data := .fields #[.ref P, .int 0 0] }, gn, dr, tk, os⟩) : wpAny (model prog w) A (callSpecialIfBoundUnlessNone? (.ref P) "__iter__" refuse) R E ⟨h, gn, dr, tk, os⟩ := by
  have ty : Looks (model prog w) h (typeOf (.ref P)) (.ref 217) := (Looks.ld hP).andThen .now
  have typ : Looks (model prog w) h (isInstance (.ref P) (.type "tuple")) true := ty.andThen (looks_subIn X hsub)
  have sp : Looks (model prog w) h (specialOf (.ref P) "__iter__") (some (.builtin "tuple.__iter__")) := ty.andThen (looks_findIn X hit)
  simp only [callSpecialIfBoundUnlessNone?, bindSpecialIfBound?]
  refine wpAny_holding (wpAny_bind (wpAny_bind (Looks.here (s := ⟨h, gn, dr, tk, os⟩) sp ?_)))
  simp only [PySem.F.slot_tuple_iter.bind]
  refine wpAny_bind (wpAny_askSetting (wpAny_ite ?_))
  have fin : wpAny (model prog w) A (if (Value.builtin "tuple.__iter__" == Value.none) = true then (refuse >>= fun v => pure (some v)) else (call (.builtin "tuple.__iter__") [.ref P] >>= fun v => pure (some v))) R E ⟨h, gn, dr, tk, os⟩ := by
    simp only [builtin_beq_none, Bool.false_eq_true, if_false]
    refine wpAny_bind (wpAny_call (codeAny_call_builtin_at (Code.quiet_builtin _ (by decide +kernel)) PySem.F.entry_tuple_iter (wpAny_mono (tui_ok typ) (fun _ s1 hs1 => ?_) (fun _ _ z => z.elim))))
    subst hs1
    show wpAny _ _ (do ret (← newFields "tuple_iterator" [.ref P, rawInt 0])) _ _ _
    exact wpAny_bind (wpAny_newObj_type (wpAny_pure (wpAny_pure q)))
  split
  · exact wpAny_bind (wpAny_pure (wpAny_pure fin))
  · exact wpAny_tryCatch (wpAny_bind (wpAny_pure (wpAny_pure fin)))
theorem pair_pyIter {K : Frag} {h : Heap} {gn : Array GenState} {dr : Drawn} {tk : Nat} {os : OsState} {Q : Value → Shared → Prop} (X : K.In h) (hP : h.get? P = some (pairO I a b)) (hsub : subIn K (.ref 217) (.type "tuple") = some true)
   (hit : findIn K (.ref 217) "__iter__" = some (some (.builtin "tuple.__iter__")))
   (q : Q (.ref h.objs.size) ⟨h.push { cls := .type "tuple_iterator", data := .fields #[.ref P, .int 0 0] }, gn, dr, tk, os⟩) : wpAny (model prog w) A (pyIter (.ref P)) Q E ⟨h, gn, dr, tk, os⟩ := by
  have ty : Looks (model prog w) h (typeOf (.ref P)) (.ref 217) := (Looks.ld hP).andThen .now
  have sp : Looks (model prog w) h (specialOf (.ref P) "__iter__") (some (.builtin "tuple.__iter__")) := ty.andThen (looks_findIn X hit)
  unfold pyIter
  refine wpAny_bind (Looks.here (s := ⟨h, gn, dr, tk, os⟩) sp ?_)
  show wpAny _ _ (callSpecialIfBoundUnlessNone? (.ref P) "__iter__" _ >>= _) _ _ _
  refine wpAny_bind (pair_callIter X hP hsub hit ?_)
  show wpAny _ _ (specialOf (.ref h.objs.size) "__next__" >>= _) _ _ _
  refine wpAny_bind (wpAny_specialOf (T := "tuple_iterator") ⟨_, Heap.get?_push_size _ rfl, rfl⟩ PySem.F.slot_tuple_iterator_next.lookup ?_)
  exact wpAny_pure q
end
theorem rowIt_pair : ∀ {w : World} {h : Heap} {v : Value} {r : List Nat × List Nat} (X : (hd.heap_39 w.params).In h) (H : PairAt (HK h) v r), RowIt PySem.Challenge.rw_il0159_01.prog w h v r := by
  k_fill
  intro w h v r X H
  obtain ⟨P, I, oI, t, u, rfl, e, eI⟩ := H
  refine ⟨P, _, e, fun h' gn dr tk os A Q E hh k q => ?_⟩
  have e' := k _ _ e
  refine pair_pyIter (X.keeps k) e' (by k_is) (by k_is) ?_
  have hlt : P < h'.objs.size := Heap.lt_size e'
  refine q h'.objs.size _ _ (fun b o e => Heap.get?_push_of_some _ e) none_size ?_
  refine ⟨PSt h'.objs.size P I (.str (Tx r.1) t) (.str (Tx r.2) u), ⟨⟨_, Heap.get?_push_size _ rfl, rfl, rfl⟩, Heap.get?_push_of_some _ e'⟩, fun i h st => ?_, fun A' hA => walks_mono (pair_walks hA) (fun i v => two_is i v)⟩
  obtain ⟨o, e, _⟩ := st.it
  exact ⟨o, e⟩
end Mine
end

noncomputable section
open PySem PySem.W PyProof.Rows PySem.Spec PyProof.Rows.LCg
set_option maxRecDepth 100000
set_option maxHeartbeats 4000000
namespace Mine
theorem law20 : ∀ {w : World} {p : Program} {loose : List Str} {mean : ExcName → Option Value} {mg mb : Str → Option Value} {bs h : Heap} {L fa : Addr} {cd : Value} {fd : FuncData} {gn : Array GenState} {dr : Drawn} {tk : Nat} {os : OsState} {Q : Flow → Shared → Prop} {E : Value → Shared → Prop}
   (C : LC w bs fd) (X : (hd.heap_39 w.params).In bs) (T : Top p loose mean mg mb bs)
   {m : Str → Option Value} {o1 o2 o3 o4 o5 o6 o7 : Obj} {D DD : Addr} {kvs : List Value} {tl : List (Addr × Obj)} {ds : List (List Nat × List Nat)} {g j : List Nat} {n : Nat} {t u ts : Tok}
   (F : Fr bs L h m) (N : News bs L h (led0 L o1 o2 o3 o4 o5 o6 o7 tl)) (Y : FarC L tl) (h2 : o2.data = .cell (some (.int (n : Int) ts))) (h6 : o6.data = .cell (some (.ref D))) (h7 : o7.data = .cell (some (.ref DD)))
   (mT : (D, tupO [.str (Tx g) t, .str (Tx j) u]) ∈ tl) (mD : (DD, listOf kvs.toArray 0) ∈ tl) (hK : PairsAre (LK tl) kvs ds) (hsm : n ≤ 10) (hds : ds.length ≤ 11) (hb : ∀ k, (repL (ds.take k) g).length ≤ 1000) (hr : ∀ r ∈ ds, r.1 ≠ [] ∧ r.2.length ≤ 1000)
   (next : ∀ PK ys h' tk', Fr bs L h' (fun z => if z = "again" then some (.ref PK) else m z) → News bs L h' (led0 L o1 o2 o3 o4 o5 o6 o7 ((PK, lst ys) :: tl)) → TxsAre ys ((List.range (n + 2)).map fun k => repL (ds.take k) g) → Q .next ⟨h', gn, dr, tk', os⟩),
   wpAny (model PySem.Challenge.rw_il0159_01.prog w) (callerA.deeper (lawEnv fd L fa cd)) (exec (stmtAt fd 19) (lawEnv fd L fa cd)) Q E ⟨h, gn, dr, tk, os⟩ := by
  k_with_none
  k_fill
  intro w p loose mean mg mb bs h L fa cd fd gn dr tk os Q E C X T m o1 o2 o3 o4 o5 o6 o7 D DD kvs tl ds g j n t u ts F N Y h2 h6 h7 mT mD hK hsm hds hb hr next
  obtain ⟨hfd, K0, C1, C2⟩ := C
  cases some_lit hfd (rfl : lawDef w.params = some ⟨_, _, _, _, _, _, _, _, _, _, _, _, _, _, _⟩)
  clear hfd
  dsimp only [stmtAt, stmtsOf, List.drop, List.headD, lawEnv]
  k_dflt (refine LCg.Assign_ListComp_U (F₀ := by k_asm) (by rfl) (by with_unfolding_all rfl) (by with_unfolding_all rfl) (by decide) (by rfl) (by decide) (by rfl) (by rfl) (by rfl) ?_)
  repeat ((fail_if_success (with_reducible show LCg.CompSrc _ _ _ _ _ _ _ _ _ _ _ _ _ _)); walk1)
  rename IsRange _ _ _ _ _ _ _ _ => hrg
  rename Fr _ _ _ _ => F2
  rename News _ _ _ _ => N2
  have hn : Builtin.Range.rangeSize 0 ((n : Int) + 2) 1 = ((n + 2 : Nat) : Int) := by
    unfold Builtin.Range.rangeSize
    split <;> omega
  refine CompSrc.range rfl F2 N2 hrg (small_rg (by omega)) hn (by rw [sizeLine_eq]; omega) fun g' => ?_
  refine comp_inv (n + 2) (fun i ys news => news = led0 L o1 o2 o3 o4 o5 o6 o7 tl ∧ TxsAre ys ((List.range i).map fun k => repL (ds.take k) g)) ?_ ?_ (n + 2) 0 [] _ (by omega) ⟨rfl, .nil⟩
  · rintro i ys news v hi ⟨rfl, hys⟩ hv I oI C oC D' m₂ h3 tk3 E' hC3 hx F3 N3 off ne
    obtain ⟨t3, rfl⟩ := hv
    clear F2 N2 hrg
    repeat ((fail_if_success (with_reducible show wpAny _ _ (subscriptTail _ _ _ _) _ _ _)); walk1)
    rename News _ _ _ _ => N4
    refine tupItem_T N4 (.tail _ (.tail _ (.tail _ (lm0 mT)))) (by decide) (by decide) rfl ?_
    repeat ((fail_if_success (with_reducible show wpAny _ _ (subscriptTail _ _ _ _) _ _ _)); walk1)
    rename Fr _ _ _ _ => F4
    rename News _ _ _ _ => N4
    rw [Int.zero_add]
    have hkl := hK.length
    refine toList_T (k := i) (n := 0) F4 N4 (.tail _ (.tail _ (.tail _ (lm0 mD)))) (by omega) ?_
    intro SL h5 F5 N5 lt5
    clear F4 N4
    repeat ((fail_if_success (with_reducible show wpAny _ _ (call _ _) _ _ _)); walk1)
    have hdl : (ds.take i).length ≤ 11 := by simp; omega
    have hrows : All2 (RowIt PySem.Challenge.rw_il0159_01.row.prog w h5) (List.take i kvs) (ds.take i) := All2.mono (fun a b z => rowIt_pair (X.keeps F5.keep) (PairAt.mono (fun x o hx => (N5 (x, o) (.tail _ (.tail _ (.tail _ (.tail _ (lm0 hx)))))).1) z)) (hK.take i)
    refine c_flat (bs := bs) (X.keeps F5.keep) (T.keeps F5.keep) (Nat.le_of_ble_eq_true rfl) rfl ⟨_, (N5 _ (.head _)).1, rfl, _, rfl⟩ hrows (by omega) (fun FD h6 tk6 ws hws hFD nFD k6 => ?_)
    have F6 := F5.keeps k6
    have N6 := news_add F5 N5 k6 hFD nFD
    clear F5 N5
    have hwl := hws.length
    rw [flatL_len] at hwl
    refine star_seq (T := "list") F6 N6 (.head _) rfl rfl (.inl rfl) (ws := ws) (by simp) (by rw [List.size_toArray, sizeLine_eq]; omega) (fun h7 F7 N7 => ?_)
    clear F6 N6
    repeat ((fail_if_success (with_reducible show wpAny _ _ (call _ _) _ _ _)); walk1)
    rw [List.append_nil]
    refine rep_T (X.keeps F7.keep) (T.keeps F7.keep) (Nat.le_of_ble_eq_true rfl) hws (by omega) (fun r hr' => hr r (List.mem_of_mem_take hr')) (fun k => ?_) (fun t8 h8 tk8 k8 => ?_)
    · rw [List.take_take]; exact hb _
    · refine CompEnd.intro (F7.keeps k8) (N7.grown k8) (led0 L o1 o2 o3 o4 o5 o6 o7 tl) (fun p hp => .tail _ (.tail _ hp)) off trivial ⟨rfl, ?_⟩
      rw [List.range_succ, List.map_append]
      exact hys.snoc ⟨t8, rfl⟩
  · rintro ys news ⟨rfl, hys⟩
    intro D3 h3 tk3 F3 N3 off3
    exact next D3 ys h3 tk3 F3 (fun p hp => N3 p (mid_add (a := []) (b := cellsL L o1 o2 o3 o4 o5 o6 o7) hp)) hys
end Mine
end

noncomputable section
open PySem PySem.W PyProof.Rows PySem.Spec PyProof.Rows.LCg
set_option maxRecDepth 100000
set_option maxHeartbeats 4000000
namespace Mine
section
theorem law19 : ∀ {w : World} {p : Program} {loose : List Str} {mean : ExcName → Option Value} {mg mb : Str → Option Value} {bs h : Heap} {L fa : Addr} {cd : Value} {fd : FuncData} {gn : Array GenState} {dr : Drawn} {tk : Nat} {os : OsState} {Q : Flow → Shared → Prop} {E : Value → Shared → Prop}
   (C : LC w bs fd) (X : (hd.heap_39 w.params).In bs) (T : Top p loose mean mg mb bs)
   {m : Str → Option Value} {o1 o2 o3 o4 o5 o6 o7 : Obj} {K : Addr} {kvs : List Value} {tl : List (Addr × Obj)}
   (F : Fr bs L h (kstB m [("pairs", .ref K)])) (N : News bs L h (led0 L o1 o2 o3 o4 o5 o6 o7 tl)) (Y : FarC L tl) (h7 : o7.data = .cell none)
   (mK : (K, lst kvs) ∈ tl) (hk : kvs.length ≤ 100)
   (next : ∀ DD o7' h' tk', Fr bs L h' (kstB m [("pairs", .ref K)]) → News bs L h' (led0 L o1 o2 o3 o4 o5 o6 o7' ((DD, listOf (kvs.reverse ++ kvs.take 1).toArray 0) :: tl)) → o7'.data = .cell (some (.ref DD)) → FarC L ((DD, listOf (kvs.reverse ++ kvs.take 1).toArray 0) :: tl) → Q .next ⟨h', gn, dr, tk', os⟩),
   wpAny (model PySem.Challenge.rw_il0159_01.prog w) (callerA.deeper (lawEnv fd L fa cd)) (exec (stmtAt fd 18) (lawEnv fd L fa cd)) Q E ⟨h, gn, dr, tk, os⟩ := by
  k_with_none
  k_with "subscriptTail Name Slice ref ref" => (k_here; (with_reducible show wpAny _ _ (subscriptTail _ (PySem.Expr.Slice none (some _) none _) (Value.ref _) (Value.ref _)) _ _ _); (with_reducible rename Fr _ _ _ _ => F'); (with_reducible rename News _ _ _ _ => N'); refine toList_T (k := 1) F' N' (.tail _ (lm0 (by assumption))) (by omega) ?_; intro _ _ _ _ _; clear F' N')
  k_fill
  intro w p loose mean mg mb bs h L fa cd fd gn dr tk os Q E C X T m o1 o2 o3 o4 o5 o6 o7 K kvs tl F N Y h7 mK hk next
  obtain ⟨hfd, K0, C1, C2⟩ := C
  cases some_lit hfd (rfl : lawDef w.params = some ⟨_, _, _, _, _, _, _, _, _, _, _, _, _, _, _⟩)
  clear hfd
  dsimp only [stmtAt, stmtsOf, List.drop, List.headD, lawEnv]
  repeat ((fail_if_success (with_reducible show wpAny _ _ (subscriptTail _ _ (.ref _) _) _ _ _)); walk1)
  rename Fr _ _ _ _ => F2
  rename News _ _ _ _ => N2
  refine' krv_lit (zs := kvs.reverse) F2 N2 ⟨_, (N2 _ (lm0 mK)).1, rfl, _, rfl⟩ (IsPart.int _ _) rfl ?_ ?s ?t ?z
  case s => with_unfolding_all rfl
  case t => intro _; with_unfolding_all rfl
  case z => rw [List.size_toArray, sizeLine_eq]; omega
  intro RV h3 F3 N3 lt3
  clear F2 N2
  repeat ((fail_if_success (with_reducible show wpAny _ _ (binaryOp _ _ _) _ _ _)); walk1)
  rename Fr _ _ _ _ => F4
  rename News _ _ _ _ => N4
  refine kmk_add_lit (zs := kvs.reverse ++ kvs.take 1) F4 N4 ⟨_, (N4 _ (.tail _ (.head _))).1, rfl, _, rfl⟩ ⟨_, (N4 _ (.head _)).1, rfl, _, rfl⟩ (by simp) (fun S h9 F9 N9 lt9 => ?_) (by simp; rw [sizeLine_eq]; omega)
  clear F4 N4
  have lS : L + 7 < S := lt9 (L + 7, o7) (.tail _ (.tail _ (.tail _ (.tail _ (.tail _ (.tail _ (.tail _ (.tail _ (.head _)))))))))
  have Y2 : FarC L ((S, listOf (kvs.reverse ++ kvs.take 1).toArray 0) :: tl) := FarC.cons (farC_gt lS) Y
  refine cs7 (tl := (S, listOf (kvs.reverse ++ kvs.take 1).toArray 0) :: tl) F9 (fun p hp => ?_) Y2 h7 rfl (fun h' o' F4 N4 hd4 => next S o' h' _ F4 N4 hd4 Y2)
  have hp' := mid_add (a := []) (b := cellsL L o1 o2 o3 o4 o5 o6 o7) hp
  rcases List.mem_cons.mp hp' with rfl | hp'
  · exact N9 _ (.head _)
  · exact N9 p (.tail _ (.tail _ (.tail _ hp')))
end
end Mine
end

noncomputable section
open PySem PySem.W PyProof.Rows PySem.Spec PyProof.Rows.LCg
set_option maxRecDepth 100000
set_option maxHeartbeats 4000000
namespace Mine
section
theorem law21 : ∀ {w : World} {p : Program} {loose : List Str} {mean : ExcName → Option Value} {mg mb : Str → Option Value} {bs h : Heap} {L fa : Addr} {cd : Value} {fd : FuncData} {gn : Array GenState} {dr : Drawn} {tk : Nat} {os : OsState} {Q : Flow → Shared → Prop} {E : Value → Shared → Prop}
   (C : LC w bs fd) (X : (hd.heap_39 w.params).In bs) (T : Top p loose mean mg mb bs)
   {m : Str → Option Value} {o1 o2 o3 o4 o5 o6 o7 : Obj} {P R TT AG : Addr} {tvs avs : List Value} {a b : Nat} {tl : List (Addr × Obj)} {xs : List (List Nat)}
   (F : Fr bs L h (kstB m [("plan", .ref P), ("again", .ref AG)])) (N : News bs L h (led0 L o1 o2 o3 o4 o5 o6 o7 tl))
   (mP : (P, listOf #[.ref R, .ref TT] a) ∈ tl) (mT : (TT, listOf tvs.toArray b) ∈ tl) (mA : (AG, lst avs) ∈ tl) (hT : TxsAre tvs xs) (hA : TxsAre avs (xs.reverse.map fun x => x ++ [32])) (hb : ∀ x ∈ xs, x.length ≤ 1000) (hz : xs.length ≤ 100) (hs : ∀ x ∈ xs, Sm (x ++ [32]))
   (next : ∀ h' tk', Fr bs L h' (kstB m [("plan", .ref P), ("again", .ref AG)]) → News bs L h' (led0 L o1 o2 o3 o4 o5 o6 o7 tl) → Q (.ret (.bool true)) ⟨h', gn, dr, tk', os⟩),
   wpAny (model PySem.Challenge.rw_il0159_01.prog w) (callerA.deeper (lawEnv fd L fa cd)) (exec (stmtAt fd 20) (lawEnv fd L fa cd)) Q E ⟨h, gn, dr, tk, os⟩ := by
  k_with_none
  k_with "eval Constant str" => (k_here; refine const_T ?_; (simp only [lit_sp]); intro _ _)
  k_with "subscriptTail Name Constant ref int" => (k_here; (with_reducible rename News _ _ _ _ => N'); refine item_T N' (lm0 (by assumption)) (by decide) (by decide) rfl ?_)
  k_fill
  intro w p loose mean mg mb bs h L fa cd fd gn dr tk os Q E C X T m o1 o2 o3 o4 o5 o6 o7 P R TT AG tvs avs a b tl xs F N mP mT mA hT hA hb hz hs next
  obtain ⟨hfd, K0, C1, C2⟩ := C
  cases some_lit hfd (rfl : lawDef w.params = some ⟨_, _, _, _, _, _, _, _, _, _, _, _, _, _, _⟩)
  clear hfd
  dsimp only [stmtAt, stmtsOf, List.drop, List.headD, lawEnv]
  repeat ((fail_if_success (with_reducible show wpAny _ _ (eval (.ListComp _ _ _ _) _) _ _ _)); walk1)
  k_dflt (refine LCg.ListComp_U (F₀ := by k_asm) (by rfl) (by decide) (by rfl) (by decide) (by rfl) ?_)
  repeat ((fail_if_success (with_reducible show wpAny _ _ (subscriptTail _ _ (.ref TT) _) _ _ _)); walk1)
  rename Fr _ _ _ _ => F2
  rename News _ _ _ _ => N2
  have hl := hT.length
  refine kba_turn (value' := PySem.Expr.Name (PySem.Str.ofString "_") ⟨0, 0, 0, 0⟩) (fun _ => rfl) ?_
  refine' krv_lit (zs := tvs.reverse) F2 N2 ⟨_, (N2 _ (lm0 mT)).1, rfl, _, rfl⟩ (IsPart.int _ _) rfl ?_ ?s ?t ?z
  case s => with_unfolding_all rfl
  case t => intro _; with_unfolding_all rfl
  case z => rw [List.size_toArray, sizeLine_eq]; omega
  intro RV h3 F3 N3 lt3
  clear F2 N2
  repeat ((fail_if_success (with_reducible show LCg.CompSrc _ _ _ _ _ _ _ _ _ _ _ _ _ _)); walk1)
  rename Fr _ _ _ _ => F4
  rename News _ _ _ _ => N4
  have hrev := hT.reverse
  refine CompSrc.ledger rfl F4 N4 (.head _) (by simp; rw [sizeLine_eq]; omega) fun g' => ?_
  refine comp_inv tvs.reverse.length (fun i ys news => news = _ ∧ TxsAre ys ((xs.reverse.take i).map fun x => x ++ [32])) ?_ ?_ tvs.reverse.length 0 [] _ (by omega) ⟨rfl, .nil⟩
  · rintro i ys news v hi ⟨rfl, hys⟩ hv I oI oC' oCC D' m₂ h5 tk5 E' hC3 hx F5 N5 off ne
    obtain ⟨x, hx2, t3, rfl⟩ := hrev.get' (by simpa using hv)
    clear F4 N4
    repeat ((fail_if_success (with_reducible show wpAny _ _ (binaryOp _ _ _) _ _ _)); walk1)
    refine add_T ?_ ?_
    · have := hb x (List.mem_reverse.mp (List.mem_of_getElem? hx2))
      simp; omega
    intro t6 k6
    refine CompEnd.intro F5 N5 _ (fun p hp => hp) off (.inr ⟨_, .head _, rfl, _, rfl⟩) ⟨rfl, ?_⟩
    rw [List.take_add_one, hx2, List.map_append]
    exact hys.snoc ⟨_, rfl⟩
  · rintro ys news ⟨rfl, hys⟩
    intro D3 h6 tk6 F6 N6 off3
    clear F4 N4
    have hl2 : tvs.reverse.length = xs.reverse.length := by simp [hl]
    rw [hl2, List.take_length] at hys
    repeat ((fail_if_success (with_reducible show wpAny _ _ (compareOp _ _ _) _ _ _)); walk1)
    rename Fr _ _ _ _ => F7
    rename News _ _ _ _ => N7
    refine eq_same (s := ⟨_, gn, dr, _, os⟩) (d := dTs (xs.reverse.map fun x => x ++ [32])) ?_ ?_ ((dok_Ts fun y hy => ?_).up (by decide)) (by exact Nat.le_of_ble_eq_true rfl) ?_
    · exact rd_list (N7 _ (.tail _ (.tail _ (lm0 mA)))).1 (rd_Ts hA)
    · exact rd_list (N7 _ (.head _)).1 (rd_Ts hys)
    · obtain ⟨x, hx, rfl⟩ := List.mem_map.mp hy
      exact hs x (List.mem_reverse.mp hx)
    repeat walk1
    exact next _ _ F7 (fun p hp => N7 p (.tail _ (.tail _ hp)))
end
end Mine
end

noncomputable section
open PySem PySem.W PyProof.Rows PySem.Spec PyProof.Rows.LCg
set_option maxRecDepth 100000
set_option maxHeartbeats 4000000
namespace Mine
theorem law9 : ∀ {w : World} {p : Program} {loose : List Str} {mean : ExcName → Option Value} {mg mb : Str → Option Value} {bs h : Heap} {L fa : Addr} {cd : Value} {fd : FuncData} {gn : Array GenState} {dr : Drawn} {tk : Nat} {os : OsState} {Q : Flow → Shared → Prop} {E : Value → Shared → Prop}
   (C : LC w bs fd) (X : (hd.heap_39 w.params).In bs) (T : Top p loose mean mg mb bs)
   {m : Str → Option Value} {ut : Tok} {o1 o2 o3 o4 o5 o6 o7 : Obj} {D ID LL lam FL : Addr} {vs vs2 : List Value} {n ep : Nat} {hs : Int} {es : Array DictEntry} {tr : List (Addr × Obj)} {rs : List (List Nat × List Nat)}
   (F : Fr bs L h m) (N : News bs L h (led0 L o1 o2 o3 o4 o5 o6 o7 (bookL D ID LL lam (frzO hs ut FL) es ep vs n tr))) (Y : FarC L tr) (hoc : o3.data = .cell (some (.ref D))) (h4 : o4.data = .cell none) (lt : (236 : Nat) < L)
   (O : PlanOk caps rs) (B : BSt PySem.Challenge.rw_il0159_01.prog w caps rs rs.length es vs2) (hsys : (D == sysModules) = false)
   (next : ∀ S ys own o4' h' tk', Fr bs L h' m → News bs L h' (led0 L o1 o2 o3 o4' o5 o6 o7 ((S, lst ys) :: own ++ tr)) → o4'.data = .cell (some (.ref S)) → FarC L ((S, lst ys) :: own ++ tr) → RowsAre (LK own) ys rs → Q .next ⟨h', gn, dr, tk', os⟩),
   wpAny (model PySem.Challenge.rw_il0159_01.prog w) (callerA.deeper (lawEnv fd L fa cd)) (exec (stmtAt fd 8) (lawEnv fd L fa cd)) Q E ⟨h, gn, dr, tk, os⟩ := by
  k_with_none
  k_fill
  intro w p loose mean mg mb bs h L fa cd fd gn dr tk os Q E C X T m ut o1 o2 o3 o4 o5 o6 o7 D ID LL lam FL vs vs2 n ep hs es tr rs F N Y hoc h4 lt O B hsys next
  obtain ⟨hfd, K, C1, C2⟩ := C
  cases some_lit hfd (rfl : lawDef w.params = some ⟨_, _, _, _, _, _, _, _, _, _, _, _, _, _, _⟩)
  clear hfd
  dsimp only [stmtAt, stmtsOf, List.drop, List.headD, lawEnv]
  obtain ⟨⟨kvs, He, hk⟩, hl⟩ := B
  have hsm := O.small
  have hlen0 : 1 ≤ rs.length := (List.getElem?_eq_some_iff.mp O.first).1
  rw [show max rs.length 1 = rs.length by omega, List.take_length] at hk
  have hes := ents_size He hk
  have zD := N _ (lm0 (.head _))
  have zI := N _ (lm0 (.tail _ (.head _)))
  repeat ((fail_if_success (with_reducible show wpAny _ _ (eval (.ListComp _ _ _ _) _) _ _ _)); walk1)
  refine book_ListComp (a := "key") (b := "held") D ID lam es ep F (by with_unfolding_all rfl) (by decide) (by rfl) (by decide) (by rfl) (by rfl) (by decide) ?_ (by intro _; rfl)
  have Xh : (hd.heap_39 w.params).In h := fun b o e => F.keep b o (X b o e)
  iterate 2 walk1
  refine getM_it Xh zD.1 zI.1 ?_
  repeat ((fail_if_success (with_reducible show wpAny _ _ (call _ _) _ _ _)); walk1)
  refine items_B Xh zD.1 zI.1 hsys ?_
  have F2 := F.push (viewO D)
  have N2 : News bs L (h.push (viewO D)) (led0 L o1 o2 o3 o4 o5 o6 o7 (bookL D ID LL lam (frzO hs ut FL) es ep vs n tr)) := N.grown fun _ _ e => Heap.get?_push_of_some _ e
  refine ⟨h.objs.size, _, fun i ys news => ∃ own, news = led0 L o1 o2 o3 o4 o5 o6 o7 (bookL D ID LL lam (frzO hs ut FL) es ep vs n (own ++ tr)) ∧ FarC L own ∧ RowsAre (LK own) ys (rs.take i), rfl, rfl, F2, N2, Heap.get?_push_size _ rfl, by rw [hes, sizeLine_eq]; omega, ?_, ⟨[], rfl, (fun _ h => nomatch h), .nil⟩, fun g => ⟨?_, ?_⟩⟩
  · rintro i ys news ⟨own, rfl, _⟩
    exact lm0 (.head _)
  · rintro i e ys news he ⟨own, rfl, Yo, hys⟩ I oI C oC D' m₂ h3 tk3 E' hC3 ha hb F3 N3 off ne
    obtain ⟨r, t1, hri, hk1, t2, hv2⟩ := ents_at He hk he
    rw [hk1] at ha
    rw [hv2] at hb
    clear F N F2 N2 Xh
    iterate 7 walk1
    rename_i l' h6 F6 N6 lt6
    obtain ⟨q1, q2, q3, q4, q5, q6, q7, q8, q9, q10, q11, q12, q13, q14⟩ := lt6
    refine CompEnd.intro F6 N6 (led0 L o1 o2 o3 o4 o5 o6 o7 (bookL D ID LL lam (frzO hs ut FL) es ep vs n ((l', listOf #[.str (Tx r.1) t1, .str (Tx r.2) t2] 0) :: (own ++ tr)))) (fun p hp => mid_add (a := [(I, oI), (C, oC), (D', lst ys)]) (b := led0 L o1 o2 o3 o4 o5 o6 o7 (bookL D ID LL lam (frzO hs ut FL) es ep vs n [])) (c := own ++ tr) hp) (off3_mid (b := led0 L o1 o2 o3 o4 o5 o6 o7 (bookL D ID LL lam (frzO hs ut FL) es ep vs n [])) (c := own ++ tr) off (ne3 q1 q2 q3)) trivial ⟨(l', listOf #[.str (Tx r.1) t1, .str (Tx r.2) t2] 0) :: own, rfl, FarC.cons (farC_gt q10) Yo, ?_⟩
    rw [List.take_add_one, hri]
    exact All2.snoc (RowsAre.mono (fun a o h => .tail _ h) hys) ⟨l', 0, _, _, rfl, .head _⟩
  · rintro ys news hyl ⟨own, rfl, Yo, hys⟩
    intro D3 h3 tk3 F3 N3 off3
    clear F N F2 N2 Xh
    rw [hes, List.take_length] at hys
    have Y2 : FarC L ((D3, lst ys) :: own ++ tr) := FarC.cons (far_cells (o := o1) off3) (FarC.append Yo Y)
    refine cs4 (tl := (D3, lst ys) :: own ++ tr) F3 (fun p hp => ?_) Y2 h4 rfl (fun h' o' F4 N4 hd4 => next D3 ys own o' h' _ F4 N4 hd4 Y2 hys)
    have hp' : p ∈ cellsL L o1 o2 o3 o4 o5 o6 o7 ++ ((D3, lst ys) :: (own ++ tr)) := hp
    rcases List.mem_append.mp hp' with hp | hp
    · exact N3 p (.tail _ (List.mem_append_left (as := cellsL L o1 o2 o3 o4 o5 o6 o7) (bookL D ID LL lam (frzO hs ut FL) es ep vs n (own ++ tr)) hp))
    rcases List.mem_cons.mp hp with rfl | hp
    · exact N3 _ (.head _)
    · exact N3 p (.tail _ (lm0 (.tail _ (.tail _ (.tail _ hp)))))
end Mine
end

noncomputable section
open PySem PySem.W PyProof.Rows PySem.Spec PyProof.Rows.LCg
set_option maxRecDepth 100000
set_option maxHeartbeats 4000000
namespace Mine
section
variable {prog : Program} {w : World} {A : Around} {E : Value → Shared → Prop} {hp : Heap} {gn : Array GenState} {dr : Drawn} {tk : Nat} {os : OsState} {h₀ : Heap} {L : Addr} {m : Str → Option Value} {news news' : List (Addr × Obj)} {Q : Value → Shared → Prop} {t u : Tok} {l r : List Nat} {value slice : Expr}
theorem two_TI {a b : Int} {ua ub : Tok} (hF : Fr h₀ L hp m) (hN : News h₀ L hp news) (ha : 0 ≤ a) (hb0 : 0 ≤ b) (hb : b ≤ l.length) (hl : l.length ≤ 1000000) (h : ∀ h' t' k', Fr h₀ L h' m → News h₀ L h' news → Q (.str (Tx ((l.drop a.toNat).take (b.toNat - a.toNat))) t') ⟨h', gn, dr, k', os⟩)
    (hs : subscripted slice false (.str (Tx l) t) (.ref hp.objs.size) = operate [.ref hp.objs.size, .str (Tx l) t] (getItem (.str (Tx l) t) (.ref hp.objs.size)) := by with_unfolding_all rfl)
    (ht : ∀ r, letTemporaryGo value (.str (Tx l) t) r = pure () := by intro _; with_unfolding_all rfl) :
    wpAny (model prog w) A (subscriptTail value slice (.str (Tx l) t) (.ref hp.objs.size)) Q E ⟨hp.push { cls := .type "slice", data := .fields #[.int a ua, .int b ub, .none] }, gn, dr, tk, os⟩ := by
  obtain ⟨k, rfl⟩ := Int.eq_ofNat_of_zero_le ha
  obtain ⟨j, rfl⟩ := Int.eq_ofNat_of_zero_le hb0
  refine slice_strN_ss (s := ⟨hp, gn, dr, tk, os⟩) hF hN (fun h' t' k' F' N' => ?_) hs ht (by rw [Tx_length, sizeLine_eq]; omega)
  rw [slice_two l k j (by omega)]
  exact h h' t' k' F' N'
end
theorem law10 : ∀ {w : World} {p : Program} {loose : List Str} {mean : ExcName → Option Value} {mg mb : Str → Option Value} {bs h : Heap} {L fa : Addr} {cd : Value} {fd : FuncData} {gn : Array GenState} {dr : Drawn} {tk : Nat} {os : OsState} {Q : Flow → Shared → Prop} {E : Value → Shared → Prop}
   (C : LC w bs fd) (X : (hd.heap_39 w.params).In bs) (T : Top p loose mean mg mb bs)
   {u : Str → Option Value} {tc ts : Tok} {o1 o2 o3 o4 o5 o6 o7 : Obj} {P R TT H S K : Addr} {rvs hvs svs kvs : List Value} {a b n : Nat} {tl : List (Addr × Obj)} {rs : List (List Nat × List Nat)}
   (F : Fr bs L h (kstB u [("capitals", .str (Tx caps) tc), ("plan", .ref P), ("handed", .ref H), ("strange", .ref S)])) (N : News bs L h (led0 L o1 o2 o3 o4 o5 o6 o7 tl)) (h2 : o2.data = .cell (some (.int (rs.length : Int) ts))) (h4 : o4.data = .cell (some (.ref K)))
   (mP : (P, listOf #[.ref R, .ref TT] a) ∈ tl) (mR : (R, listOf rvs.toArray b) ∈ tl) (mH : (H, lst hvs) ∈ tl) (mS : (S, listOf svs.toArray n) ∈ tl) (mK : (K, lst kvs) ∈ tl)
   (hR : RowsAre (LK tl) rvs rs) (hH : RowsAre (LK tl) hvs rs) (hK : RowsAre (LK tl) kvs rs) (hS : TxsAre svs (((caps.drop (rs.length - 1)).take (rs.length + 2)).map fun c => [c])) (O : PlanOk caps rs) (hsm : ∀ r ∈ rs, Sm r.1 ∧ Sm r.2)
   (next : ∀ h' tk', Fr bs L h' (kstB u [("capitals", .str (Tx caps) tc), ("plan", .ref P), ("handed", .ref H), ("strange", .ref S)]) → News bs L h' (led0 L o1 o2 o3 o4 o5 o6 o7 tl) → Q .next ⟨h', gn, dr, tk', os⟩),
   wpAny (model PySem.Challenge.rw_il0159_01.prog w) (callerA.deeper (lawEnv fd L fa cd)) (exec (stmtAt fd 9) (lawEnv fd L fa cd)) Q E ⟨h, gn, dr, tk, os⟩ := by
  k_with_none
  k_with "subscriptTail Name Constant ref int" => (k_here; (with_reducible rename News _ _ _ _ => N'); refine item_T N' (by (repeat (first | (exact lm0 (by assumption)) | (refine List.Mem.tail _ ?_)))) (by decide) (by decide) rfl ?_)
  k_with "call type:list" => (k_here; (with_reducible show wpAny _ _ (call (Value.type "list") [Value.str (Tx _) _]) _ _ _); (with_reducible rename Fr _ _ _ _ => F'); (with_reducible rename News _ _ _ _ => N'); refine listStr_T (by rfl) F' N' (by (simp only [List.length_take, List.length_drop]; omega)) ?_; intro _ _ _ _ _ _ _ _ _; clear F' N')
  k_with "subscriptTail Name Slice str ref" => (k_here; (with_reducible show wpAny _ _ (subscriptTail _ (Expr.Slice (some _) (some _) none _) (Value.str (Tx _) _) _) _ _ _); (with_reducible rename Fr _ _ _ _ => F'); (with_reducible rename News _ _ _ _ => N'); refine two_TI F' N' (by omega) (by omega) (by omega) (by omega) ?_; intro _ _ _ _ _)
  k_fill
  intro w p loose mean mg mb bs h L fa cd fd gn dr tk os Q E C X T u tc ts o1 o2 o3 o4 o5 o6 o7 P R TT H S K rvs hvs svs kvs a b n tl rs F N h2 h4 mP mR mH mS mK hR hH hK hS O hsm next
  obtain ⟨hfd, K0, C1, C2⟩ := C
  cases some_lit hfd (rfl : lawDef w.params = some ⟨_, _, _, _, _, _, _, _, _, _, _, _, _, _, _⟩)
  clear hfd
  dsimp only [stmtAt, stmtsOf, List.drop, List.headD, lawEnv]
  have hle := O.small
  have hlen0 : 1 ≤ rs.length := (List.getElem?_eq_some_iff.mp O.first).1
  have hcl : caps.length = 26 := O.codes_len
  repeat ((fail_if_success (with_reducible show wpAny _ _ (compareOp _ _ _) _ _ _)); walk1)
  rename_i l1 _ _ _ _ _ D5 vs5 n5 _ _ hv5 _ l2 h6 F6 N6 _
  have e5 : List.take (((rs.length : Int) + (rs.length : Int) + 1).toNat - ((rs.length : Int) - 1).toNat) (List.drop ((rs.length : Int) - 1).toNat caps) = (caps.drop (rs.length - 1)).take (rs.length + 2) := by
    rw [show ((rs.length : Int) - 1).toNat = rs.length - 1 by omega]
    congr 1
    omega
  rw [e5] at hv5
  have sub : ∀ p ∈ tl, p ∈ (l2, listOf #[.ref R, .ref D5, .ref R] 0) :: (D5, listOf vs5.toArray n5) :: (l1, listOf #[.ref H, .ref S, .ref K] 0) :: led0 L o1 o2 o3 o4 o5 o6 o7 tl := fun p hp => .tail _ (.tail _ (.tail _ (lm0 hp)))
  have dcap : DOk 1 (dTs (((caps.drop (rs.length - 1)).take (rs.length + 2)).map fun c => [c])) := dok_Ts fun x hx => by
    obtain ⟨c, hc, rfl⟩ := List.mem_map.mp hx
    have hc2 := List.mem_of_mem_drop (List.mem_of_mem_take hc)
    intro d hd
    rw [List.mem_singleton.mp hd]
    obtain ⟨k, hk, rfl⟩ := List.mem_map.mp hc2
    have := List.mem_range.mp hk
    omega
  refine ne_same (s := ⟨h6, gn, dr, _, os⟩) (d := .list [dRs rs, dTs (((caps.drop (rs.length - 1)).take (rs.length + 2)).map fun c => [c]), dRs rs]) ?_ ?_ ?_ (by exact Nat.le_of_ble_eq_true rfl) ?_
  · exact rd_list (vs := [.ref H, .ref S, .ref K]) (N6 _ (.tail _ (.tail _ (.head _)))).1 (rd_cons (rd_list (N6 _ (sub _ mH)).1 (rd_Rs (rows_hk N6 hH sub))) (rd_cons (rd_list (N6 _ (sub _ mS)).1 (rd_Ts hS)) (rd_cons (rd_list (N6 _ (sub _ mK)).1 (rd_Rs (rows_hk N6 hK sub))) rd_nil)))
  · exact rd_list (vs := [.ref R, .ref D5, .ref R]) (N6 _ (.head _)).1 (rd_cons (rd_list (N6 _ (sub _ mR)).1 (rd_Rs (rows_hk N6 hR sub))) (rd_cons (rd_list (N6 _ (.tail _ (.head _))).1 (rd_Ts hv5)) (rd_cons (rd_list (N6 _ (sub _ mR)).1 (rd_Rs (rows_hk N6 hR sub))) rd_nil)))
  · refine (DOk.list (k := 2) fun d hd => ?_).up (by decide)
    simp only [List.mem_cons, List.not_mem_nil, or_false] at hd
    rcases hd with rfl | rfl | rfl
    · exact dok_Rs hsm
    · exact dcap.up (by decide)
    · exact dok_Rs hsm
  · iterate 4 walk1
    exact next _ _ F6 (fun p hp => N6 p (.tail _ (.tail _ (.tail _ hp))))
end Mine
end

noncomputable section
open PySem PySem.W PyProof.Rows PySem.Spec PyProof.Rows.LCg
set_option maxRecDepth 100000
set_option maxHeartbeats 4000000
namespace Mine
theorem ex_step {M : Model} {A : Around} {env : Env} {Q : Flow → Shared → Prop} {E : Value → Shared → Prop} {s : Shared} {fd : FuncData} (k : Nat) (hl : (stmtsOf fd).length = 21) (hk : k < 21)
    (h : wpAny M A (exec (stmtAt fd k) env) (fun f s' => match f with | .next => wpAny M A (execs ((stmtsOf fd).drop (k + 1)) env) Q E s' | f => Q f s') E s) : wpAny M A (execs ((stmtsOf fd).drop k) env) Q E s := by
  have e : (stmtsOf fd).drop k = stmtAt fd k :: (stmtsOf fd).drop (k + 1) := by
    have := List.drop_eq_getElem_cons (l := stmtsOf fd) (i := k) (by omega)
    unfold stmtAt
    rw [this]; rfl
  rw [e]
  exact wpAny_execs_cons h
section
variable {w : World} {p : Program} {loose : List Str} {mean : ExcName → Option Value} {mg mb : Str → Option Value} {bs h : Heap} {L fa : Addr} {cd : Value} {fd : FuncData} {gn : Array GenState} {dr : Drawn} {tk : Nat} {os : OsState} {Q : Flow → Shared → Prop} {E : Value → Shared → Prop}
/-- from the page on -/
theorem tail3 (C : LC w bs fd) (X : (hd.heap_39 w.params).In bs) (T : Top p loose mean mg mb bs) (hl : (stmtsOf fd).length = 21)
   {st : PS} {g : List Nat} (I : Inv caps st) (h0 : st.2[0]? = some g) (hrl : st.1.length ≤ 10) (htl : ∀ t ∈ st.2, t.length ≤ 60)
   {u : Str → Option Value} {o1 o2 o3 o4 o5 o6 o7 : Obj} {P R TT PK LN : Addr} {rvs tvs pvs lvs : List Value} {a b c : Nat} {tl : List (Addr × Obj)} {ts : Tok}
   (F : Fr bs L h (kstB u [("plan", .ref P), ("packed", .ref PK), ("lines", .ref LN)])) (N : News bs L h (led0 L o1 o2 o3 o4 o5 o6 o7 tl)) (Y : FarC L tl) (h2 : o2.data = .cell (some (.int (st.1.length : Int) ts))) (h6 : o6.data = .cell none) (h7 : o7.data = .cell none)
   (mP : (P, listOf #[.ref R, .ref TT] a) ∈ tl) (mR : (R, listOf rvs.toArray b) ∈ tl) (mT : (TT, listOf tvs.toArray c) ∈ tl) (mK : (PK, lst pvs) ∈ tl) (mL : (LN, lst lvs) ∈ tl)
   (hR : RowsAre (LK tl) rvs st.1) (hT : TxsAre tvs st.2) (hP : TxsAre pvs st.2) (hLN : TxsAre lvs (linesL st.1))
   {ps1 ps2 : Array Value} (g1 : (114, tabObj ps1) ∈ tl) (g2 : (236, tabObj ps2) ∈ tl)
   (q : ∀ h' tk', Kp bs h' → (∃ ps, h'.get? 114 = some (tabObj ps)) → (∃ ps, h'.get? 236 = some (tabObj ps)) → Q (.ret (.bool true)) ⟨h', gn, dr, tk', os⟩) :
   wpAny (model PySem.Challenge.rw_il0159_01.prog w) (callerA.deeper (lawEnv fd L fa cd)) (execs ((stmtsOf fd).drop 14) (lawEnv fd L fa cd)) Q E ⟨h, gn, dr, tk, os⟩ := by
  have RO := row_ok I
  have hn1 := I.ne0
  have GD := text_gd I
  have hxl := I.texts
  obtain ⟨pvs', v, xs', qq, rfl, exs, hv⟩ := hP.last I.tne
  have hT2 := hT
  rw [exs] at hT2
  obtain ⟨tvs', v2, xs2, q2, rfl, exs2, hv2⟩ := hT2.last (by simp)
  have eq2 : qq = q2 := by
    have := congrArg List.getLast? exs2
    simpa using this
  subst eq2
  have qm : qq ∈ st.2 := by rw [exs]; simp
  have hqq : st.2[st.1.length + 1]? = some qq := by
    have : xs'.length = st.1.length + 1 := by rw [exs] at hxl; simp at hxl; omega
    rw [exs, ← this]; simp
  have ql := htl _ qm
  have qg := GD _ qm
  have qne := I.ne _ qm
  have lne : linesL st.1 ≠ [] := by rw [← List.length_pos_iff]; simp; omega
  have ll : (linesL st.1).length = st.1.length := by simp
  have lb := line_len RO (by omega)
  have lf := line_free RO
  have lj : (joinL 10 (linesL st.1)).length ≤ 20 * 1001 := by
    have := joinL_len (c := 10) lb
    rw [ll] at this
    omega
  have smq : Sm (qq ++ [32]) := fun d hd => by
    rcases List.mem_append.mp hd with hd | hd
    · exact (qg d hd).sm
    · rw [List.mem_singleton.mp hd]; decide
  have smj : Sm (joinL 10 (linesL st.1)) := joinL_sm (by decide) (line_sm RO)
  have strip := page_strip RO hn1 qne qg
  refine ex_step 14 hl (by decide) (law15 C X T (fr_self F (by kst_all)) N Y h6 mK mL hv hLN (by omega) (by omega) lne lb (by omega) (fun x hx => ?_) strip ?_ (fun D t1 t2 o6' h' tk' F N hd6 Y => ?_))
  · rcases List.mem_cons.mp hx with rfl | hx
    · intro hm
      rcases List.mem_append.mp hm with hm | hm
      · exact ink_ne10 (qg _ hm).ink rfl
      · exact absurd (List.mem_singleton.mp hm) (by decide)
    rcases List.mem_cons.mp hx with rfl | hx
    · decide
    · exact lf x hx
  · rw [joinL_cons2 10 _ (by simp), joinL_cons2 10 _ lne]
    simp only [List.length_append, List.length_cons, List.length_nil]; omega
  refine ex_step 15 hl (by decide) (law16 C X T (fr_self F (by kst_all)) N hd6 (.tail _ mP) (.tail _ mT) (.tail _ mL) (.head _) hv2 hLN (by omega) (by omega) lb smq smj (fun h' tk' F N => ?_))
  refine ex_step 16 hl (by decide) (law17 C X T F N hd6 (.head _) lne lf (by omega) (lines_say RO (by omega)) (by omega) Y (fun PR ys own h' tk' F N Y hpairs => ?_))
  have up : ∀ {x : Addr × Obj}, x ∈ tl → x ∈ (PR, lst ys) :: (own ++ ((D, tupO [.str (Tx (qq ++ [32])) t1, .str (Tx (joinL 10 (linesL st.1))) t2]) :: tl)) := fun hx => .tail _ (List.mem_append_right _ (.tail _ hx))
  have hpairs' : PairsAre (LK ((PR, lst ys) :: (own ++ ((D, tupO [.str (Tx (qq ++ [32])) t1, .str (Tx (joinL 10 (linesL st.1))) t2]) :: tl)))) ys (st.1.map swp) := PairsAre.mono (fun x o hx => .tail _ (List.mem_append_left _ hx)) hpairs
  refine ex_step 17 hl (by decide) (law18 C X T (fr_self F (by kst_all)) N (up mP) (up mR) (.head _) (RowsAre.mono (fun x o hx => up hx) hR) hpairs' (fun r hr => ⟨fun d hd => ((RO r hr).kg d hd).sm, fun d hd => ((RO r hr).vg d hd).sm⟩) (by omega) (fun h' tk' F N => ?_))
  have hyl := hpairs.length
  rw [List.length_map] at hyl
  refine ex_step 18 hl (by decide) (law19 C X T (fr_self F (by kst_all)) N Y h7 (.head _) (by omega) (fun DD o7' h' tk' F N hd7 Y => ?_))
  have hun : PairsAre (LK ((DD, listOf (ys.reverse ++ ys.take 1).toArray 0) :: (PR, lst ys) :: (own ++ ((D, tupO [.str (Tx (qq ++ [32])) t1, .str (Tx (joinL 10 (linesL st.1))) t2]) :: tl)))) (ys.reverse ++ ys.take 1) (undoL st.1) :=
    All2.append (PairsAre.mono (fun x o hx => .tail _ hx) hpairs').reverse (All2.take (PairsAre.mono (fun x o hx => .tail _ hx) hpairs') 1)
  have hul : (undoL st.1).length = st.1.length + 1 := by rw [undo_eq, List.length_map, List.length_reverse, deeds_len hn1]
  refine ex_step 19 hl (by decide) (law20 C X T F N Y h2 hd6 hd7 (.tail _ (.tail _ (List.mem_append_right _ (.head _)))) (.head _) hun hrl (by omega) (undo_b I hqq htl) (fun r hr => ?_) (fun AG avs h' tk' F N hys => ?_))
  · rw [undo_eq] at hr
    obtain ⟨r', hr', rfl⟩ := List.mem_map.mp hr
    have hm : r' ∈ st.1 := by
      rcases List.mem_append.mp (List.mem_reverse.mp hr') with z | z
      · exact List.mem_of_mem_take z
      · exact z
    have := (RO r' hm).len
    exact ⟨(RO r' hm).v, by show r'.1.length ≤ 1000; omega⟩
  rw [again_eq I hqq] at hys
  refine ex_step 20 hl (by decide) (law21 C X T (fr_self F (by kst_all)) N (.tail _ (.tail _ (up mP))) (.tail _ (.tail _ (up mT))) (.head _) hT hys (fun x hx => by have := htl x hx; omega) (by omega) (fun x hx d hd => ?_) (fun h' tk' F N => ?_))
  · rcases List.mem_append.mp hd with hd | hd
    · exact (GD x hx d hd).sm
    · rw [List.mem_singleton.mp hd]; decide
  exact q h' tk' F.keep ⟨ps1, (N _ (lm0 (.tail _ (.tail _ (up g1))))).1⟩ ⟨ps2, (N _ (lm0 (.tail _ (.tail _ (up g2))))).1⟩
end
end Mine
end

noncomputable section
open PySem PySem.W PyProof.Rows PySem.Spec PyProof.Rows.LCg
set_option maxRecDepth 100000
set_option maxHeartbeats 4000000
namespace Mine
section
variable {w : World} {p : Program} {loose : List Str} {mean : ExcName → Option Value} {mg mb : Str → Option Value} {bs h : Heap} {L fa : Addr} {cd : Value} {fd : FuncData} {gn : Array GenState} {dr : Drawn} {tk : Nat} {os : OsState} {Q : Flow → Shared → Prop} {E : Value → Shared → Prop}
/-- from the book's frozen rows on -/
theorem tail2 (C : LC w bs fd) (X : (hd.heap_39 w.params).In bs) (T : Top p loose mean mg mb bs) (hl : (stmtsOf fd).length = 21)
   {st : PS} {g : List Nat} (I : Inv caps st) (h0 : st.2[0]? = some g) (hrl : st.1.length ≤ 10) (htl : ∀ t ∈ st.2, t.length ≤ 60)
   {u : Str → Option Value} {o1 o2 o3 o4 o5 o6 o7 : Obj} {P R TT H S K : Addr} {rvs tvs hvs svs kvs : List Value} {a b c n : Nat} {tl : List (Addr × Obj)} {ts tc tg : Tok}
   (F : Fr bs L h (kstB u [("capitals", .str (Tx caps) tc), ("plan", .ref P), ("handed", .ref H), ("strange", .ref S)])) (N : News bs L h (led0 L o1 o2 o3 o4 o5 o6 o7 tl)) (Y : FarC L tl) (h1 : o1.data = .cell (some (.str (Tx g) tg))) (h2 : o2.data = .cell (some (.int (st.1.length : Int) ts))) (h4 : o4.data = .cell (some (.ref K))) (h5 : o5.data = .cell none) (h6 : o6.data = .cell none) (h7 : o7.data = .cell none)
   (mP : (P, listOf #[.ref R, .ref TT] a) ∈ tl) (mR : (R, listOf rvs.toArray b) ∈ tl) (mT : (TT, listOf tvs.toArray c) ∈ tl) (mH : (H, lst hvs) ∈ tl) (mS : (S, listOf svs.toArray n) ∈ tl) (mK : (K, lst kvs) ∈ tl)
   (hR : RowsAre (LK tl) rvs st.1) (hH : RowsAre (LK tl) hvs st.1) (hK : RowsAre (LK tl) kvs st.1) (hS : TxsAre svs (((caps.drop (st.1.length - 1)).take (st.1.length + 2)).map fun c => [c])) (hT : TxsAre tvs st.2)
   {ps1 ps2 : Array Value} (g1 : (114, tabObj ps1) ∈ tl) (g2 : (236, tabObj ps2) ∈ tl)
   (q : ∀ h' tk', Kp bs h' → (∃ ps, h'.get? 114 = some (tabObj ps)) → (∃ ps, h'.get? 236 = some (tabObj ps)) → Q (.ret (.bool true)) ⟨h', gn, dr, tk', os⟩) :
   wpAny (model PySem.Challenge.rw_il0159_01.prog w) (callerA.deeper (lawEnv fd L fa cd)) (execs ((stmtsOf fd).drop 9) (lawEnv fd L fa cd)) Q E ⟨h, gn, dr, tk, os⟩ := by
  have RO := row_ok I
  have GD := text_gd I
  have hkl := hK.length
  refine ex_step 9 hl (by decide) (law10 C X T F N h2 h4 mP mR mH mS mK hR hH hK hS (plan_ok I hrl) (fun r hr => ⟨fun d hd => ((RO r hr).kg d hd).sm, fun d hd => ((RO r hr).vg d hd).sm⟩) (fun h' tk' F N => ?_))
  refine ex_step 10 hl (by decide) (law11 C X T F N Y h4 h5 mK (by omega) (fun DD o5' h' tk' F N hd5 Y => ?_))
  refine ex_step 11 hl (by decide) (law12 C X T F N Y h1 h2 hd5 (.head _) (RowsAre.mono (fun x o hx => .tail _ hx) hK) hrl (fun k => ?_) (fun r hr => ⟨(RO r hr).k, by have := (RO r hr).len; omega⟩) (fun PK pvs h' tk' F N Y hpv => ?_))
  · exact Nat.le_trans (deeds_b I h0 htl k) (by decide)
  rw [← texts_eq I h0] at hpv
  refine ex_step 12 hl (by decide) (law13 C X T (fr_self F (by kst_all)) N (.tail _ (.tail _ mP)) (.tail _ (.tail _ mT)) (.head _) hT hpv (fun x hx d hd => (GD x hx d hd).sm) (fun h' tk' F N => ?_))
  refine ex_step 13 hl (by decide) (law14 C X T F N Y h2 h4 (.tail _ (.tail _ mK)) (RowsAre.mono (fun x o hx => .tail _ (.tail _ hx)) hK) hrl (fun r hr => (RO r hr).len) (fun LN lvs h' tk' F N Y hlv => ?_))
  exact tail3 C X T hl I h0 hrl htl (fr_self F (by kst_all)) N Y h2 h6 h7 (.tail _ (.tail _ (.tail _ mP))) (.tail _ (.tail _ (.tail _ mR))) (.tail _ (.tail _ (.tail _ mT))) (.tail _ (.head _)) (.head _) (RowsAre.mono (fun x o hx => .tail _ (.tail _ (.tail _ hx))) hR) hT hpv hlv (.tail _ (.tail _ (.tail _ g1))) (.tail _ (.tail _ (.tail _ g2))) q
end
end Mine
end

noncomputable section
open PySem PySem.W PyProof.Rows PySem.Spec PyProof.Rows.LCg
set_option maxRecDepth 100000
set_option maxHeartbeats 4000000
namespace Mine
section
theorem law1 : ∀ {w : World} {p : Program} {loose : List Str} {mean : ExcName → Option Value} {mg mb : Str → Option Value} {bs h : Heap} {L fa : Addr} {cd : Value} {fd : FuncData} {gn : Array GenState} {dr : Drawn} {tk : Nat} {os : OsState} {Q : Flow → Shared → Prop} {E : Value → Shared → Prop}
   (C : LC w bs fd) (X : (hd.heap_39 w.params).In bs) (T : Top p loose mean mg mb bs)
   {u : Str → Option Value} {sc : Addr} {news : List (Addr × Obj)}
   (F : Fr bs L h (kstB u [("script", .ref sc)])) (N : News bs L h news)
   (next : ∀ h' tk' u' tc, Fr bs L h' (kstB u' [("script", .ref sc), ("capitals", .str (Tx caps) tc)]) → News bs L h' news → Q .next ⟨h', gn, dr, tk', os⟩),
   wpAny (model PySem.Challenge.rw_il0159_01.prog w) (callerA.deeper (lawEnv fd L fa cd)) (exec (stmtAt fd 0) (lawEnv fd L fa cd)) Q E ⟨h, gn, dr, tk, os⟩ := by
  k_with_none
  k_with "eval Constant str" => (k_here; refine const_T ?_; (simp only [lit_caps]); intro _ _)
  k_fill
  intro w p loose mean mg mb bs h L fa cd fd gn dr tk os Q E C X T u sc news F N next
  obtain ⟨hfd, K, C1, C2⟩ := C
  cases some_lit hfd (rfl : lawDef w.params = some ⟨_, _, _, _, _, _, _, _, _, _, _, _, _, _, _⟩)
  clear hfd
  dsimp only [stmtAt, stmtsOf, List.drop, List.headD, lawEnv]
  repeat walk1
  rename Fr _ _ _ _ => F6
  rename News _ _ _ _ => N6
  exact next _ _ _ _ (fr_self F6 (by kst_all)) N6
end
end Mine
end

noncomputable section
open PySem PySem.W PyProof.Rows PySem.Spec PyProof.Rows.LCg
set_option maxRecDepth 100000
set_option maxHeartbeats 4000000
namespace Mine
theorem law2 : ∀ {w : World} {p : Program} {loose : List Str} {mean : ExcName → Option Value} {mg mb : Str → Option Value} {bs h : Heap} {L fa : Addr} {cd : Value} {fd : FuncData} {gn : Array GenState} {dr : Drawn} {tk : Nat} {os : OsState} {Q : Flow → Shared → Prop} {E : Value → Shared → Prop}
   (C : LC w bs fd) (X : (hd.heap_39 w.params).In bs) (T : Top p loose mean mg mb bs)
   {u : Str → Option Value} {sc : Addr} {vs : List Value} {zs : List Int} {tc : Tok} {o1 o2 o3 o4 o5 o6 o7 : Obj}
   (lifted : bs.IsList sc vs.toArray) (hI : IntsAre vs zs) (hz : zs.length ≤ 63)
   (F : Fr bs L h (kstB u [("script", .ref sc), ("capitals", .str (Tx caps) tc)])) (N : News bs L h (led L [] o1 o2 o3 o4 o5 o6 o7)) (hoc : o1.data = .cell none) (lt : (236 : Nat) < L)
   (next : ∀ h' tk' o1' t, Fr bs L h' (kstB u [("script", .ref sc), ("capitals", .str (Tx caps) tc)]) → News bs L h' (led L [] o1' o2 o3 o4 o5 o6 o7) → o1'.data = .cell (some (.str (Tx (givenL zs)) t)) → Q .next ⟨h', gn, dr, tk', os⟩),
   wpAny (model PySem.Challenge.rw_il0159_01.prog w) (callerA.deeper (lawEnv fd L fa cd)) (exec (stmtAt fd 1) (lawEnv fd L fa cd)) Q E ⟨h, gn, dr, tk, os⟩ := by
  k_with_none
  k_with "eval Constant str" => (k_here; refine const_T ?_; (simp only [lit_e, lit_dot, lit_dots, lit_menu, lit_tail, lit_q, lit_sp, lit_eq, lit_tab, lit_nl, lit_nlsp, lit_mid, lit_spnl, lit_caps]); intro _ _)
  k_with "binaryOp Add str str" => (k_here; (with_reducible show wpAny _ _ (binaryOp _ (Value.str (Tx _) _) (Value.str (Tx _) _)) _ _ _); refine add_T (by first | omega | (simp only [List.length_append, List.length_take, List.length_drop, List.length_map, List.length_cons, List.length_nil]; omega)) ?_; intro _ _)
  k_with "subscriptTail" => (k_here; (with_reducible show wpAny _ _ (subscriptTail _ _ (Value.str (Tx _) _) (Value.int _ _)) _ _ _); refine sign_T (by omega) (by simp; omega) (by simp) ?_; intro _ _)
  k_fill
  intro w p loose mean mg mb bs h L fa cd fd gn dr tk os Q E C X T u sc vs zs tc o1 o2 o3 o4 o5 o6 o7 lifted hI hz F N hoc lt next
  obtain ⟨hfd, K, C1, C2⟩ := C
  cases some_lit hfd (rfl : lawDef w.params = some ⟨_, _, _, _, _, _, _, _, _, _, _, _, _, _, _⟩)
  clear hfd
  dsimp only [stmtAt, stmtsOf, List.drop, List.headD, lawEnv]
  simp only [led, ledT, cellsL, tabsL, List.cons_append, List.nil_append] at N
  iterate 7 walk1
  k_dflt (refine LCg.ListComp_U (F₀ := by k_asm) (by rfl) (by decide) (by rfl) (by decide) (by rfl) ?_)
  iterate 8 walk1
  rename Fr _ _ _ _ => F2
  rename News _ _ _ _ => N2
  rename IntsAre _ (List.take 8 zs) => hI2
  rename List Value => ws
  have A2 := intsAll hI2
  refine CompSrc.ledger rfl F2 N2 (.head _) (by have := A2.length; simp at this ⊢; rw [sizeLine_eq]; omega) fun g => ?_
  refine comp_inv ws.length (fun i ys news => news = _ ∧ TxsAre ys (((zs.take 8).take i).map fun n => [sgn n])) ?_ ?_ ws.length 0 [] _ (by omega) ⟨rfl, .nil⟩
  · rintro i ys news v hi ⟨rfl, hys⟩ hv I oI C oC D' m₂ h3 tk3 E' hC3 hx F3 N3 off ne
    obtain ⟨z, hz2, t3, rfl⟩ := A2.get' (by simpa using hv)
    clear F2
    have hm : Int.fmod z 4 = z % 4 := Int.fmod_eq_emod_of_nonneg _ (by decide)
    iterate 7 walk1
    refine CompEnd.intro F3 N3 _ (fun p hp => hp) off (.inr ⟨_, .head _, rfl, _, rfl⟩) ⟨rfl, ?_⟩
    rw [List.take_add_one, hz2, List.map_append]
    exact hys.snoc ⟨_, by rw [hm]; rfl⟩
  · rintro ys news ⟨rfl, hys⟩
    have hlen : ws.length = (zs.take 8).length := A2.length
    rw [hlen, List.take_length] at hys
    intro D3 h3 tk3 F3 N3 off3
    clear F2 N2
    walk1
    refine joinE_T N3 (.head _) hys 1 (by intro p hp; obtain ⟨n, _, rfl⟩ := List.mem_map.mp hp; exact Nat.le_refl 1) (by simp; omega) fun t4 k4 => ?_
    have hfl : (List.map (fun n => [sgn n]) (List.take 8 zs)).flatten = (zs.take 8).map sgn := by
      generalize List.take 8 zs = l
      induction l with
      | nil => rfl
      | cons a l ih => simp [ih]
    rw [hfl]
    iterate 2 walk1
    refine st1 (tl := []) F3 (fun p hp => N3 p (.tail _ (.tail _ hp))) Far.nil (tabs_lt lt) hoc rfl (fun h' o' F4 N4 hd4 => ?_)
    exact next _ _ _ _ F4 N4 hd4
end Mine
end

noncomputable section
open PySem PySem.W PyProof.Rows PySem.Spec PyProof.Rows.LCg
set_option maxRecDepth 100000
set_option maxHeartbeats 4000000
namespace Mine
theorem law3 : ∀ {w : World} {p : Program} {loose : List Str} {mean : ExcName → Option Value} {mg mb : Str → Option Value} {bs h : Heap} {L fa : Addr} {cd : Value} {fd : FuncData} {gn : Array GenState} {dr : Drawn} {tk : Nat} {os : OsState} {Q : Flow → Shared → Prop} {E : Value → Shared → Prop}
   (C : LC w bs fd) (X : (hd.heap_39 w.params).In bs) (T : Top p loose mean mg mb bs)
   {u : Str → Option Value} {sc : Addr} {vs : List Value} {zs : List Int} {tc tg : Tok} {o1 o2 o3 o4 o5 o6 o7 : Obj} {gv : List Nat}
   (lifted : bs.IsList sc vs.toArray) (hI : IntsAre vs zs) (hz : zs.length ≤ 63) (hg : gv.length ≤ 15)
   (F : Fr bs L h (kstB u [("script", .ref sc), ("capitals", .str (Tx caps) tc)])) (N : News bs L h (led L [] o1 o2 o3 o4 o5 o6 o7)) (hoc : o1.data = .cell (some (.str (Tx gv) tg))) (lt : (236 : Nat) < L)
   (next : ∀ P R T rvs tvs a b c tl h' tk' u', Fr bs L h' (kstB u' [("capitals", .str (Tx caps) tc), ("plan", .ref P)]) → News bs L h' (led L (planL P R T rvs tvs a b c tl) o1 o2 o3 o4 o5 o6 o7) → Far L (planL P R T rvs tvs a b c tl) → (∀ p ∈ planL P R T rvs tvs a b c tl, p.1 ≠ 236) →
     RowsAre (LK tl) rvs (planP caps gv ((zs.take 6).map (fun z => z / 4) ++ [0, 1, 2])).1 → TxsAre tvs (planP caps gv ((zs.take 6).map (fun z => z / 4) ++ [0, 1, 2])).2 → Q .next ⟨h', gn, dr, tk', os⟩),
   wpAny (model PySem.Challenge.rw_il0159_01.prog w) (callerA.deeper (lawEnv fd L fa cd)) (exec (stmtAt fd 2) (lawEnv fd L fa cd)) Q E ⟨h, gn, dr, tk, os⟩ := by
  k_with_none
  k_with "call ref" => fail "stop"
  k_fill
  intro w p loose mean mg mb bs h L fa cd fd gn dr tk os Q E C X T u sc vs zs tc tg o1 o2 o3 o4 o5 o6 o7 gv lifted hI hz hg F N hoc lt next
  obtain ⟨hfd, K, C1, C2⟩ := C
  cases some_lit hfd (rfl : lawDef w.params = some ⟨_, _, _, _, _, _, _, _, _, _, _, _, _, _, _⟩)
  clear hfd
  dsimp only [stmtAt, stmtsOf, List.drop, List.headD, lawEnv]
  simp only [led, ledT, cellsL, tabsL, List.cons_append, List.nil_append] at N
  repeat ((fail_if_success (with_reducible show wpAny _ _ (call _ _) _ _ _)); walk1)
  rename Fr _ _ _ _ => F2
  rename News _ _ _ _ => N2
  rename IntsAre _ (_ ++ [0, 1, 2]) => hI3
  have hfd : List.map (fun k' => Int.fdiv k' 4) (List.take 6 zs) = (zs.take 6).map (fun z => z / 4) := List.map_congr_left fun z _ => Int.fdiv_eq_ediv_of_nonneg _ (by decide)
  rw [hfd] at hI3
  refine plan_T (X.keeps F2.keep) (T.keeps F2.keep) (Nat.le_of_ble_eq_true rfl) rfl ⟨_, (N2 _ (.head _)).1, rfl, _, rfl⟩ hI3 (by rw [List.length_append, List.length_map]; exact Nat.add_le_add_right (List.length_take_le 6 zs) 3) hg (by simp [caps]) (fun P R T rvs tvs a b c tl h' tk' k H hr ht => ?_)
  have F5 := F2.keeps k
  have N2' : News bs L _ (led L [] o1 o2 o3 o4 o5 o6 o7) := fun p hp => N2 p (.tail _ (.tail _ (.tail _ (.tail _ hp))))
  have N5 : News bs L h' (led L (planL P R T rvs tvs a b c tl) o1 o2 o3 o4 o5 o6 o7) := by have := led_in (news_fresh F2 N2' k H); rwa [List.append_nil] at this
  have Y := far_fresh N2' (fun p hp => (H p hp).2)
  have Y2 := far_236 N2' (fun p hp => (H p hp).2)
  clear F2 N2 N2'
  walk1
  rename Fr _ _ _ _ => F6
  rename News _ _ _ _ => N6
  exact next P R T rvs tvs a b c tl _ _ _ (fr_self F6 (by kst_all)) N6 Y Y2 hr ht
end Mine
end

noncomputable section
open PySem PySem.W PyProof.Rows PySem.Spec PyProof.Rows.LCg
set_option maxRecDepth 100000
set_option maxHeartbeats 4000000
namespace Mine
theorem law4 : ∀ {w : World} {p : Program} {loose : List Str} {mean : ExcName → Option Value} {mg mb : Str → Option Value} {bs h : Heap} {L fa : Addr} {cd : Value} {fd : FuncData} {gn : Array GenState} {dr : Drawn} {tk : Nat} {os : OsState} {Q : Flow → Shared → Prop} {E : Value → Shared → Prop}
   (C : LC w bs fd) (X : (hd.heap_39 w.params).In bs) (T : Top p loose mean mg mb bs)
   {u : Str → Option Value} {tc : Tok} {o1 o2 o3 o4 o5 o6 o7 : Obj} {P R TT : Addr} {rvs : List Value} {a b : Nat} {tl : List (Addr × Obj)}
   (F : Fr bs L h (kstB u [("capitals", .str (Tx caps) tc), ("plan", .ref P)])) (N : News bs L h (led L tl o1 o2 o3 o4 o5 o6 o7)) (Y : Far L tl) (hoc : o2.data = .cell none) (lt : (236 : Nat) < L)
   (mP : (P, listOf #[.ref R, .ref TT] a) ∈ tl) (mR : (R, listOf rvs.toArray b) ∈ tl) (hr : rvs.length ≤ 1000)
   (next : ∀ h' tk' o2' t, Fr bs L h' (kstB u [("capitals", .str (Tx caps) tc), ("plan", .ref P)]) → News bs L h' (led L tl o1 o2' o3 o4 o5 o6 o7) → o2'.data = .cell (some (.int (rvs.length : Int) t)) → Q .next ⟨h', gn, dr, tk', os⟩),
   wpAny (model PySem.Challenge.rw_il0159_01.prog w) (callerA.deeper (lawEnv fd L fa cd)) (exec (stmtAt fd 3) (lawEnv fd L fa cd)) Q E ⟨h, gn, dr, tk, os⟩ := by
  k_with_none
  k_with "subscriptTail Name Constant ref int" => (k_here; (with_reducible rename News _ _ _ _ => N'); refine item_T N' (lm2 (by assumption)) (by decide) (by decide) rfl ?_)
  k_with "call builtin:len" => (k_here; (with_reducible show wpAny _ _ (call (Value.builtin "len") [Value.ref _]) _ _ _); (with_reducible rename News _ _ _ _ => N'); refine lenList_T N' (lm2 (by assumption)) (by omega) ?_; intro _ _)
  k_fill
  intro w p loose mean mg mb bs h L fa cd fd gn dr tk os Q E C X T u tc o1 o2 o3 o4 o5 o6 o7 P R TT rvs a b tl F N Y hoc lt mP mR hr next
  obtain ⟨hfd, K, C1, C2⟩ := C
  cases some_lit hfd (rfl : lawDef w.params = some ⟨_, _, _, _, _, _, _, _, _, _, _, _, _, _, _⟩)
  clear hfd
  dsimp only [stmtAt, stmtsOf, List.drop, List.headD, lawEnv]
  simp only [led, ledT, cellsL, tabsL, List.cons_append, List.nil_append] at N
  repeat ((fail_if_success (with_reducible show wpAny _ _ (storeName _ _ _) _ _ _)); walk1)
  rename Fr _ _ _ _ => F3
  rename News _ _ _ _ => N3
  refine st2 (s := ⟨_, gn, dr, _, os⟩) (ts := tabsL) (tl := tl) F3 N3 Y (tabs_lt lt) hoc rfl (fun h' o' F4 N4 hd4 => next _ _ _ _ F4 N4 hd4)
end Mine
end

noncomputable section
open PySem PySem.W PyProof.Rows PySem.Spec PyProof.Rows.LCg
set_option maxRecDepth 100000
set_option maxHeartbeats 4000000
namespace Mine
/-- the ledger once the book's table is let go -/
theorem news_but1 {bs h h' : Heap} {L : Addr} {a b : List (Addr × Obj)} {c : Addr} (N : News bs L h a) (k : ∀ x o, x ≠ c → h.get? x = some o → h'.get? x = some o) (e : ∀ p ∈ b, p ∈ a ∧ p.1 ≠ c) : News bs L h' b := fun p hp =>
  ⟨k _ _ (e p hp).2 (N p (e p hp).1).1, (N p (e p hp).1).2⟩
theorem fr_but1 {bs h h' : Heap} {L c : Addr} {m : Str → Option Value} (F : Fr bs L h m) (k : ∀ x o, x ≠ c → h.get? x = some o → h'.get? x = some o) (h1 : L ≠ c) (h2 : bs.get? c = none) : Fr bs L h' m :=
  fr_but F (fun b o hb e => k b o (by simpa using hb) e) h1 h2
theorem law5 : ∀ {w : World} {p : Program} {loose : List Str} {mean : ExcName → Option Value} {mg mb : Str → Option Value} {bs h : Heap} {L fa : Addr} {cd : Value} {fd : FuncData} {gn : Array GenState} {dr : Drawn} {tk : Nat} {os : OsState} {Q : Flow → Shared → Prop} {E : Value → Shared → Prop}
   (C : LC w bs fd) (X : (hd.heap_39 w.params).In bs) (T : Top p loose mean mg mb bs)
   {u : Str → Option Value} {tc : Tok} {o1 o2 o3 o4 o5 o6 o7 : Obj} {P : Addr} {tl : List (Addr × Obj)}
   (F : Fr bs L h (kstB u [("capitals", .str (Tx caps) tc), ("plan", .ref P)])) (N : News bs L h (led L tl o1 o2 o3 o4 o5 o6 o7)) (Y : Far L tl) (Y2 : ∀ p ∈ tl, p.1 ≠ 236) (hoc : o3.data = .cell none) (lt : (236 : Nat) < L)
   (next : ∀ D ID lam cc LL vs n es ep tb h' tk' o3' t, Fr bs L h' (kstB u [("capitals", .str (Tx caps) tc), ("plan", .ref P)]) → News bs L h' (ledT L [(114, tabObj #[])] ((D, bookO ID lam es ep) :: (ID, emptyO) :: (LL, listOf vs.toArray n) :: tb ++ tl) o1 o2 o3' o4 o5 o6 o7) → o3'.data = .cell (some (.ref D)) →
     Far L ((D, bookO ID lam es ep) :: (ID, emptyO) :: (LL, listOf vs.toArray n) :: tb ++ tl) → Off D ID LL (tb ++ tl) → (∃ ps, (236, tabObj ps) ∈ tb) →
     Ents PySem.Challenge.rw_il0159_01.prog w es [(Str.ofString ".", .str (Tx [46, 46]) t)] → LamK (LK tb) lam cc LL → TxsAre vs (caps.map fun c => [c]) → (D == sysModules) = false → Q .next ⟨h', gn, dr, tk', os⟩),
   wpAny (model PySem.Challenge.rw_il0159_01.prog w) (callerA.deeper (lawEnv fd L fa cd)) (exec (stmtAt fd 4) (lawEnv fd L fa cd)) Q E ⟨h, gn, dr, tk, os⟩ := by
  k_with_none
  k_fill
  intro w p loose mean mg mb bs h L fa cd fd gn dr tk os Q E C X T u tc o1 o2 o3 o4 o5 o6 o7 P tl F N Y Y2 hoc lt next
  obtain ⟨hfd, K, C1, C2⟩ := C
  cases some_lit hfd (rfl : lawDef w.params = some ⟨_, _, _, _, _, _, _, _, _, _, _, _, _, _, _⟩)
  clear hfd
  dsimp only [stmtAt, stmtsOf, List.drop, List.headD, lawEnv]
  simp only [led, ledT, cellsL, tabsL, List.cons_append, List.nil_append] at N
  repeat ((fail_if_success (with_reducible show wpAny _ _ (call _ _) _ _ _)); walk1)
  rename Fr _ _ _ _ => F3
  rename News _ _ _ _ => N3
  have z := N3 (236, tabObj #[]) (by k_mem)
  refine c_book X T F3.keep z.1 z.2.2 C2 (by simp [caps]) (fun D ID lam cc LL vs n es ep tb0 h' tk' t k H He HL hv hsys hps hodd => ?_)
  obtain ⟨ps, hps⟩ := hps
  have F4 := fr_but1 F3 k (Ne.symm z.2.1) z.2.2
  have hne : ∀ p ∈ (D, bookO ID lam es ep) :: (ID, emptyO) :: (LL, listOf vs.toArray n) :: tb0, ∀ q ∈ led L tl o1 o2 o3 o4 o5 o6 o7, p.1 ≠ q.1 := fun p hp q hq e => by
    have := (N3 q hq).1
    rw [← e, (H p hp).2] at this; cases this
  have hn236 : ∀ p ∈ (D, bookO ID lam es ep) :: (ID, emptyO) :: (LL, listOf vs.toArray n) :: tb0, p.1 ≠ 236 := fun p hp e => by
    have := z.1
    rw [← e, (H p hp).2] at this; cases this
  have spl : ∀ {p : Addr × Obj}, p ∈ (D, bookO ID lam es ep) :: (ID, emptyO) :: (LL, listOf vs.toArray n) :: (236, tabObj ps) :: tb0 → p = (236, tabObj ps) ∨ p ∈ (D, bookO ID lam es ep) :: (ID, emptyO) :: (LL, listOf vs.toArray n) :: tb0 := fun hp => by
    simp only [List.mem_cons] at hp ⊢
    rcases hp with h | h | h | h | h
    · exact .inr (.inl h)
    · exact .inr (.inr (.inl h))
    · exact .inr (.inr (.inr (.inl h)))
    · exact .inl h
    · exact .inr (.inr (.inr (.inr h)))
  have N4 : News bs L h' (ledT L [(114, tabObj #[])] tl o1 o2 o3 o4 o5 o6 o7) := news_but1 N3 k fun p hp => by
    simp only [ledT, List.mem_append] at hp
    rcases hp with hp | hp | hp
    · refine ⟨List.mem_append_left _ hp, ?_⟩
      simp only [cellsL, List.mem_cons, List.not_mem_nil, or_false] at hp
      rcases hp with rfl | rfl | rfl | rfl | rfl | rfl | rfl <;> exact Nat.ne_of_gt (Nat.lt_of_lt_of_le lt (Nat.le_add_right _ _))
    · rw [List.mem_singleton.mp hp]
      exact ⟨by k_mem, by decide⟩
    · exact ⟨led_mem (L := L) (ts := tabsL) (tl := tl) (o1 := o1) (o2 := o2) (o3 := o3) (o4 := o4) (o5 := o5) (o6 := o6) (o7 := o7) hp, Y2 p hp⟩
  have N5 : News bs L h' (ledT L [(114, tabObj #[])] ((D, bookO ID lam es ep) :: (ID, emptyO) :: (LL, listOf vs.toArray n) :: ((236, tabObj ps) :: tb0) ++ tl) o1 o2 o3 o4 o5 o6 o7) := led_in (t0 := (D, bookO ID lam es ep) :: (ID, emptyO) :: (LL, listOf vs.toArray n) :: (236, tabObj ps) :: tb0) (fun p hp => by
    rcases List.mem_append.mp hp with hp | hp
    · rcases spl hp with rfl | hp
      · exact ⟨hps, z.2⟩
      have q := H p hp
      refine ⟨q.1, ?_, ?_⟩
      · intro e
        obtain ⟨o, r, _⟩ := ns_obj F3.ns
        rw [e, r] at q; exact nomatch q.2
      · cases r : bs.get? p.1 with
        | none => rfl
        | some o => have := F3.keep _ _ r; rw [q.2] at this; cases this
    · exact N4 p hp)
  have nL : ∀ k : Nat, (236 : Nat) ≠ L + k := fun k => Nat.ne_of_lt (Nat.lt_of_lt_of_le lt (Nat.le_add_right _ _))
  have Y0 := far_fresh N3 (fun p hp => (H p hp).2)
  have Y5 : Far L ((D, bookO ID lam es ep) :: (ID, emptyO) :: (LL, listOf vs.toArray n) :: ((236, tabObj ps) :: tb0) ++ tl) := Far.append (fun p hp => by
    rcases spl hp with rfl | hp
    · exact ⟨(by decide : (236 : Nat) ≠ 114), nL 1, nL 2, nL 3, nL 4, nL 5, nL 6, nL 7⟩
    · exact Y0 p hp) Y
  refine st3 (ts := [(114, tabObj #[])]) F4 N5 Y5 (fun p hp => by rw [List.mem_singleton.mp hp]; exact Nat.lt_trans (by decide : (114 : Nat) < 236) lt) hoc rfl (fun h' o' F6 N6 hd6 => ?_)
  refine next D ID lam cc LL vs n es ep ((236, tabObj ps) :: tb0) _ _ _ t F6 N6 hd6 Y5 (fun p hp => ?_) ⟨ps, .head _⟩ He (LamK.mono HL fun a o h => .tail _ h) hv hsys
  rcases List.mem_append.mp hp with hp | hp
  · rcases List.mem_cons.mp hp with rfl | hp
    · exact ⟨Ne.symm (hn236 _ (.head _)), Ne.symm (hn236 _ (.tail _ (.head _))), Ne.symm (hn236 _ (.tail _ (.tail _ (.head _))))⟩
    · have e := (H p (.tail _ (.tail _ (.tail _ hp)))).1
      have x := hodd p hp
      exact ⟨odd_ne e (H _ (.head _)).1 x rfl, odd_ne e (H _ (.tail _ (.head _))).1 x rfl, odd_ne e (H _ (.tail _ (.tail _ (.head _)))).1 x rfl⟩
  · exact ⟨Ne.symm (hne _ (.head _) p (led_mem hp)), Ne.symm (hne _ (.tail _ (.head _)) p (led_mem hp)), Ne.symm (hne _ (.tail _ (.tail _ (.head _))) p (led_mem hp))⟩
end Mine
end

noncomputable section
open PySem PySem.W PyProof.Rows PySem.Spec PyProof.Rows.LCg
set_option maxRecDepth 100000
set_option maxHeartbeats 4000000
namespace Mine
theorem law6 : ∀ {w : World} {p : Program} {loose : List Str} {mean : ExcName → Option Value} {mg mb : Str → Option Value} {bs h : Heap} {L fa : Addr} {cd : Value} {fd : FuncData} {gn : Array GenState} {dr : Drawn} {tk : Nat} {os : OsState} {Q : Flow → Shared → Prop} {E : Value → Shared → Prop}
   (C : LC w bs fd) (X : (hd.heap_39 w.params).In bs) (T : Top p loose mean mg mb bs)
   {u : Str → Option Value} {tc t1 : Tok} {o1 o2 o3 o4 o5 o6 o7 : Obj} {P R TT D ID LL lam cc : Addr} {rvs vs : List Value} {a b n ep : Nat} {es : Array DictEntry} {tr : List (Addr × Obj)} {rs : List (List Nat × List Nat)}
   (F : Fr bs L h (kstB u [("capitals", .str (Tx caps) tc), ("plan", .ref P)])) (N : News bs L h (led1 L o1 o2 o3 o4 o5 o6 o7 (bookL D ID LL lam emptyO es ep vs n tr))) (Y : Far L (bookL D ID LL lam emptyO es ep vs n tr)) (Z : Off D ID LL tr) (hoc : o3.data = .cell (some (.ref D))) (lt : (236 : Nat) < L)
   (mP : (P, listOf #[.ref R, .ref TT] a) ∈ tr) (mR : (R, listOf rvs.toArray b) ∈ tr) (hr : RowsAre (LK tr) rvs rs) (O : PlanOk caps rs) (B : BSt PySem.Challenge.rw_il0159_01.prog w caps rs 0 es vs) (HL : LamK (LK tr) lam cc LL) (hsys : (D == sysModules) = false)
   (next : ∀ H es' ep' vs' n' ys own h' tk' u', Fr bs L h' (kstB u' [("capitals", .str (Tx caps) tc), ("plan", .ref P), ("handed", .ref H)]) → News bs L h' (led1 L o1 o2 o3 o4 o5 o6 o7 (bookL D ID LL lam emptyO es' ep' vs' n' ((H, lst ys) :: own ++ tr))) → Far L (bookL D ID LL lam emptyO es' ep' vs' n' ((H, lst ys) :: own ++ tr)) → Off D ID LL ((H, lst ys) :: own ++ tr) →
     RowsAre (LK own) ys rs → BSt PySem.Challenge.rw_il0159_01.prog w caps rs rs.length es' vs' → Q .next ⟨h', gn, dr, tk', os⟩),
   wpAny (model PySem.Challenge.rw_il0159_01.prog w) (callerA.deeper (lawEnv fd L fa cd)) (exec (stmtAt fd 5) (lawEnv fd L fa cd)) Q E ⟨h, gn, dr, tk, os⟩ := by
  k_with_none
  k_with "subscriptTail Name Constant ref int" => (k_here; (with_reducible rename News _ _ _ _ => N'); refine item_T N' (lm1 (by assumption)) (by decide) (by decide) rfl ?_)
  k_with "subscriptTail Name Constant ref int" => (k_here; (with_reducible rename News _ _ _ _ => N'); refine item_T N' (by assumption) (by decide) (by decide) rfl ?_)
  k_fill
  intro w p loose mean mg mb bs h L fa cd fd gn dr tk os Q E C X T u tc t1 o1 o2 o3 o4 o5 o6 o7 P R TT D ID LL lam cc rvs vs a b n ep es tr rs F N Y Z hoc lt mP mR hr O B HL hsys next
  obtain ⟨hfd, K, C1, C2⟩ := C
  cases some_lit hfd (rfl : lawDef w.params = some ⟨_, _, _, _, _, _, _, _, _, _, _, _, _, _, _⟩)
  clear hfd
  dsimp only [stmtAt, stmtsOf, List.drop, List.headD, lawEnv]
  have mP' : (P, listOf #[.ref R, .ref TT] a) ∈ bookL D ID LL lam emptyO es ep vs n tr := .tail _ (.tail _ (.tail _ mP))
  k_dflt (refine LCg.Assign_ListComp_U (F₀ := by k_asm) (by rfl) (by with_unfolding_all rfl) (by with_unfolding_all rfl) (by decide) (by rfl) (by decide) (by rfl) (by rfl) (by rfl) ?_)
  iterate 4 walk1
  rename News _ _ _ _ => N2
  have hlen : rvs.length = rs.length := hr.length
  have hsm := O.small
  have nDI : D ≠ ID := get_ne_cls (N2 _ (lm1 (.head _))).1 (N2 _ (lm1 (.tail _ (.head _)))).1 (fun e => nomatch e)
  have nDL : D ≠ LL := get_ne_data (N2 _ (lm1 (.head _))).1 (N2 _ (lm1 (.tail _ (.tail _ (.head _))))).1 (fun e => nomatch e)
  have nIL : ID ≠ LL := get_ne_data (N2 _ (lm1 (.tail _ (.head _)))).1 (N2 _ (lm1 (.tail _ (.tail _ (.head _))))).1 (fun e => nomatch e)
  refine CompSrc.ledger rfl F N2 (lm1 (.tail _ (.tail _ (.tail _ mR)))) (by simp; rw [sizeLine_eq]; omega) fun g => ?_
  refine comp_inv rvs.length (fun i ys news => ∃ es' ep' vs' n' own, news = led1 L o1 o2 o3 o4 o5 o6 o7 (bookL D ID LL lam emptyO es' ep' vs' n' (own ++ tr)) ∧ BSt PySem.Challenge.rw_il0159_01.prog w caps rs i es' vs' ∧ RowsAre (LK own) ys (rs.take i) ∧ Far L own ∧ Off D ID LL own) ?_ ?_ rvs.length 0 [] _ (by omega) ⟨es, ep, vs, n, [], rfl, B, .nil, Far.nil, fun _ h => nomatch h⟩
  · rintro i ys news v hi ⟨es', ep', vs', n', own, rfl, B', hys, Yo, Zo⟩ hv I oI C oC D' m₂ h3 tk3 E' hC3 hx F3 N3 off ne
    obtain ⟨r, hri, ar, nr, tr1, tr2, rfl, mrow⟩ := hr.get' (by simpa using hv)
    have mrow' : (ar, listOf #[.str (Tx r.1) tr1, .str (Tx r.2) tr2] nr) ∈ (I, oI) :: (C, oC) :: (D', lst ys) :: led1 L o1 o2 o3 o4 o5 o6 o7 (bookL D ID LL lam emptyO es' ep' vs' n' (own ++ tr)) := .tail _ (.tail _ (.tail _ (lm1 (.tail _ (.tail _ (.tail _ (List.mem_append_right _ mrow)))))))
    clear F N2
    repeat ((fail_if_success (with_reducible show wpAny _ _ (subscriptTail _ _ (Value.ref D) _) _ _ _)); walk1)
    rename Fr _ _ _ _ => F4
    rename News _ _ _ _ => N4
    have hDa := N4 _ (.tail _ (.tail _ (.tail _ (lm1 (.head _)))))
    have hIa := N4 _ (.tail _ (.tail _ (.tail _ (lm1 (.tail _ (.head _))))))
    have hLa := N4 _ (.tail _ (.tail _ (.tail _ (lm1 (.tail _ (.tail _ (.head _)))))))
    have hlam : LamAt h3 lam cc LL := LamK.at (LamK.mono HL fun x o hx => (N4 _ (.tail _ (.tail _ (.tail _ (lm1 (.tail _ (.tail _ (.tail _ (List.mem_append_right _ hx)))))))) ).1)
    refine sub_B (fun x o e => F4.keep x o (X x o e)) hDa.1 hIa.1 ?_ (by with_unfolding_all rfl) (by intro _; with_unfolding_all rfl)
    refine book_get X T F4.keep hDa.2.2 hLa.2.2 hsys hDa.1 hIa.1 hlam hLa.1 O B' hri (fun h5 es5 ep5 vs5 n5 tk5 v5 hD5 hL5 B5 hv5 k5 => ?_)
    have off3 := off.mem
    have oD := off3 _ (lm1 (.head _))
    have oL := off3 _ (lm1 (.tail _ (.tail _ (.head _))))
    have F5 := fr_kp2 F4 k5 hDa.2 hLa.2
    have N5 := news_book (pre := [(I, oI), (C, oC), (D', lst ys)]) (tr := own ++ tr) N4 k5 hD5 hL5 (fun p hp => by
      simp only [List.mem_cons, List.not_mem_nil, or_false] at hp
      rcases hp with rfl | rfl | rfl
      · exact ⟨Ne.symm oD.1, Ne.symm oL.1⟩
      · exact ⟨Ne.symm oD.2.1, Ne.symm oL.2.1⟩
      · exact ⟨Ne.symm oD.2.2, Ne.symm oL.2.2⟩) (far_book Y Yo) (Off.append Zo Z) nDI nIL
    simp only [List.cons_append, List.nil_append] at N5
    clear F4 N4
    obtain ⟨t5, rfl⟩ := hv5
    iterate 2 walk1
    rename_i l' h6 F6 N6 lt6
    obtain ⟨q1, q2, q3, q4, q5, q6, q7, q8, q9, q10, q11, q12, q13, q14, q15⟩ := lt6
    refine CompEnd.intro F6 N6 (led1 L o1 o2 o3 o4 o5 o6 o7 (bookL D ID LL lam emptyO es5 ep5 vs5 n5 ((l', listOf #[.str (Tx r.1) tr1, .str (Tx r.2) t5] 0) :: (own ++ tr)))) (fun p hp => ?_) (off3_add off (ne3 q1 q2 q3)) (.inr ⟨_, lm1 (.tail _ (.tail _ (.tail _ (.tail _ (List.mem_append_right _ mR))))), rfl, _, rfl⟩) ⟨es5, ep5, vs5, n5, (l', listOf #[.str (Tx r.1) tr1, .str (Tx r.2) t5] 0) :: own, rfl, B5, ?_, Far.append (a := [_]) (far_gt lt q10) Yo, ?_⟩
    · exact led_add (pre := [(I, oI), (C, oC), (D', lst ys)]) hp
    · rw [List.take_add_one, hri]
      exact All2.snoc (RowsAre.mono (fun a o h => .tail _ h) hys) ⟨l', 0, _, _, rfl, .head _⟩
    · exact Off.append (a := [_]) (fun p hp => by rw [List.mem_singleton.mp hp]; exact ne3 q12 q13 q14) Zo
  · rintro ys news ⟨es', ep', vs', n', own, rfl, B', hys, Yo, Zo⟩
    rw [List.take_of_length_le (by omega)] at hys
    rw [hlen] at B'
    intro D3 h3 tk3 F3 N3 off3
    have Y1 := far_off1 (o := lst ys) off3
    have Z1 := off_off1 (o := lst ys) off3
    refine next D3 es' ep' vs' n' ys own _ _ _ (fr_self F3 (by kst_all)) (fun p hp => N3 p (led_add (pre := []) (x := (D3, lst ys)) (tl := own ++ tr) hp)) (far_book (own := (D3, _) :: own) Y (Far.append Y1 Yo)) (Off.append (a := (D3, _) :: own) (Off.append (a := [_]) Z1 Zo) Z) hys B'
end Mine
end

noncomputable section
open PySem PySem.W PyProof.Rows PySem.Spec PyProof.Rows.LCg
set_option maxRecDepth 100000
set_option maxHeartbeats 4000000
namespace Mine
theorem law7 : ∀ {w : World} {p : Program} {loose : List Str} {mean : ExcName → Option Value} {mg mb : Str → Option Value} {bs h : Heap} {L fa : Addr} {cd : Value} {fd : FuncData} {gn : Array GenState} {dr : Drawn} {tk : Nat} {os : OsState} {Q : Flow → Shared → Prop} {E : Value → Shared → Prop}
   (C : LC w bs fd) (X : (hd.heap_39 w.params).In bs) (T : Top p loose mean mg mb bs)
   {u : Str → Option Value} {o1 o2 o3 o4 o5 o6 o7 : Obj} {D ID LL lam : Addr} {vs : List Value} {n ep : Nat} {es : Array DictEntry} {tr : List (Addr × Obj)} {m : Str → Option Value}
   (F : Fr bs L h m) (N : News bs L h (led1 L o1 o2 o3 o4 o5 o6 o7 (bookL D ID LL lam emptyO es ep vs n tr))) (Y : Far L (bookL D ID LL lam emptyO es ep vs n tr)) (Z : Off D ID LL tr) (hoc : o3.data = .cell (some (.ref D))) (lt : (236 : Nat) < L)
   (next : ∀ FL sc hs u own h' tk', Fr bs L h' m → News bs L h' (led0 L o1 o2 o3 o4 o5 o6 o7 (bookL D ID LL lam (frzO hs u FL) es ep vs n (own ++ tr))) → FrzK (LK own) FL sc D → FarC L own → Off D ID LL own → (∃ ps, (114, tabObj ps) ∈ own) → Q .next ⟨h', gn, dr, tk', os⟩),
   wpAny (model PySem.Challenge.rw_il0159_01.prog w) (callerA.deeper (lawEnv fd L fa cd)) (exec (stmtAt fd 6) (lawEnv fd L fa cd)) Q E ⟨h, gn, dr, tk, os⟩ := by
  k_with_none
  k_fill
  intro w p loose mean mg mb bs h L fa cd fd gn dr tk os Q E C X T u o1 o2 o3 o4 o5 o6 o7 D ID LL lam vs n ep es tr m F N Y Z hoc lt next
  obtain ⟨hfd, K, C1, C2⟩ := C
  cases some_lit hfd (rfl : lawDef w.params = some ⟨_, _, _, _, _, _, _, _, _, _, _, _, _, _, _⟩)
  clear hfd
  dsimp only [stmtAt, stmtsOf, List.drop, List.headD, lawEnv]
  iterate 3 walk1
  have Xh : (hd.heap_39 w.params).In h := fun b o e => F.keep b o (X b o e)
  have zD := N _ (lm1 (.head _))
  have zI := N _ (lm1 (.tail _ (.head _)))
  refine getM_fr Xh zD.1 zI.1 ?_
  repeat ((fail_if_success (with_reducible show wpAny _ _ (call _ _) _ _ _)); walk1)
  have z114 := N _ (led1_l (tl := bookL D ID LL lam emptyO es ep vs n tr) (.tail _ (.tail _ (.tail _ (.tail _ (.tail _ (.tail _ (.tail _ (.head _)))))))))
  refine c_freeze X T F.keep (Nat.le_of_ble_eq_true rfl) z114.1 z114.2.2 C1 zD.1 zI.1 zI.2.2 (fun FL sc tl h5 tk5 hs u5 k5 hI5 htl HF hps => ?_)
  obtain ⟨ps, hps⟩ := hps
  have hne : ∀ p ∈ tl, ∀ q ∈ led1 L o1 o2 o3 o4 o5 o6 o7 (bookL D ID LL lam emptyO es ep vs n tr), p.1 ≠ q.1 := fun p hp q hq e => by
    have := (N q hq).1
    rw [← e, (htl p hp).2] at this; cases this
  have zL := N _ (lm1 (.tail _ (.tail _ (.head _))))
  have nDI : D ≠ ID := get_ne_cls zD.1 zI.1 (fun e => nomatch e)
  have nIL : ID ≠ LL := get_ne_data zI.1 zL.1 (fun e => nomatch e)
  have YI := Y _ (.tail _ (.head _))
  have fresh : ∀ p ∈ tl, p.1 ≠ L ∧ bs.get? p.1 = none := fun p hp => by
    refine ⟨fun e => ?_, ?_⟩
    · obtain ⟨o, q, _⟩ := ns_obj F.ns
      have := (htl p hp).2
      rw [e, q] at this; cases this
    · cases q : bs.get? p.1 with
      | none => rfl
      | some o => have := F.keep _ _ q; rw [(htl p hp).2] at this; cases this
  have nL : ∀ k : Nat, L + k ≠ 114 := fun k => Nat.ne_of_gt (Nat.lt_of_lt_of_le (Nat.lt_trans (by decide : (114 : Nat) < 236) lt) (Nat.le_add_right _ _))
  refine next FL sc hs u5 ((114, tabObj ps) :: tl) h5 _ ⟨F.ns.at' fun o e => k5 L o (nL 0) (Ne.symm zI.2.1) e, fun c o e => k5 c o (fun z => by rw [z, z114.2.2] at e; cases e) (fun z => by rw [z, zI.2.2] at e; cases e) (F.keep c o e), F.above⟩ ?_ (FrzK.mono HF fun a o h => .tail _ h) ?_ ?_ ⟨ps, .head _⟩
  · intro p hp
    have keep : p ∈ led1 L o1 o2 o3 o4 o5 o6 o7 (bookL D ID LL lam emptyO es ep vs n tr) → p.1 ≠ 114 → p.1 ≠ ID → h5.get? p.1 = some p.2 ∧ p.1 ≠ L ∧ bs.get? p.1 = none := fun hm n1 n2 => ⟨k5 _ _ n1 n2 (N p hm).1, (N p hm).2⟩
    have cases0 : p ∈ cellsL L o1 o2 o3 o4 o5 o6 o7 ++ (bookL D ID LL lam (frzO hs u5 FL) es ep vs n ((114, tabObj ps) :: tl ++ tr)) := hp
    rcases List.mem_append.mp cases0 with hp | hp
    · have hm : p ∈ led1 L o1 o2 o3 o4 o5 o6 o7 (bookL D ID LL lam emptyO es ep vs n tr) := by
        have : p ∈ cellsL L o1 o2 o3 o4 o5 o6 o7 ++ ((114, tabObj #[]) :: bookL D ID LL lam emptyO es ep vs n tr) := List.mem_append_left _ hp
        exact this
      have hI := cells_off YI p (by
        have : p ∈ cellsL L o1 o2 o3 o4 o5 o6 o7 ++ [(114, tabObj #[])] := List.mem_append_left _ hp
        exact this)
      refine keep hm ?_ hI
      simp only [cellsL, List.mem_cons, List.not_mem_nil, or_false] at hp
      rcases hp with rfl | rfl | rfl | rfl | rfl | rfl | rfl <;> exact nL _
    rcases List.mem_cons.mp hp with rfl | hp
    · exact keep (lm1 (.head _)) (Y _ (.head _)).1 nDI
    rcases List.mem_cons.mp hp with rfl | hp
    · exact ⟨hI5, zI.2⟩
    rcases List.mem_cons.mp hp with rfl | hp
    · exact keep (lm1 (.tail _ (.tail _ (.head _)))) (Y _ (.tail _ (.tail _ (.head _)))).1 (Ne.symm nIL)
    rcases List.mem_cons.mp hp with rfl | hp
    · exact ⟨hps, z114.2⟩
    rcases List.mem_append.mp hp with hp | hp
    · exact ⟨(htl p hp).1, fresh p hp⟩
    · exact keep (lm1 (.tail _ (.tail _ (.tail _ hp)))) (Y _ (.tail _ (.tail _ (.tail _ hp)))).1 (Z p hp).2.1
  · refine FarC.cons ⟨(nL 1).symm, (nL 2).symm, (nL 3).symm, (nL 4).symm, (nL 5).symm, (nL 6).symm, (nL 7).symm⟩ fun p hp => ?_
    have key := hne p hp
    refine ⟨?_, ?_, ?_, ?_, ?_, ?_, ?_⟩
    · exact key (L + 1, o1) (.head _)
    · exact key (L + 2, o2) (.tail _ (.head _))
    · exact key (L + 3, o3) (.tail _ (.tail _ (.head _)))
    · exact key (L + 4, o4) (.tail _ (.tail _ (.tail _ (.head _))))
    · exact key (L + 5, o5) (.tail _ (.tail _ (.tail _ (.tail _ (.head _)))))
    · exact key (L + 6, o6) (.tail _ (.tail _ (.tail _ (.tail _ (.tail _ (.head _))))))
    · exact key (L + 7, o7) (.tail _ (.tail _ (.tail _ (.tail _ (.tail _ (.tail _ (.head _)))))))
  · intro p hp
    rcases List.mem_cons.mp hp with rfl | hp
    · exact ⟨Ne.symm (Y _ (.head _)).1, Ne.symm (Y _ (.tail _ (.head _))).1, Ne.symm (Y _ (.tail _ (.tail _ (.head _)))).1⟩
    have key := hne p hp
    exact ⟨key _ (lm1 (.head _)), key _ (lm1 (.tail _ (.head _))), key _ (lm1 (.tail _ (.tail _ (.head _))))⟩
end Mine
end

noncomputable section
open PySem PySem.W PyProof.Rows PySem.Spec PyProof.Rows.LCg
set_option maxRecDepth 100000
set_option maxHeartbeats 4000000
namespace Mine
theorem law8 : ∀ {w : World} {p : Program} {loose : List Str} {mean : ExcName → Option Value} {mg mb : Str → Option Value} {bs h : Heap} {L fa : Addr} {cd : Value} {fd : FuncData} {gn : Array GenState} {dr : Drawn} {tk : Nat} {os : OsState} {Q : Flow → Shared → Prop} {E : Value → Shared → Prop}
   (C : LC w bs fd) (X : (hd.heap_39 w.params).In bs) (T : Top p loose mean mg mb bs)
   {u : Str → Option Value} {tc ut : Tok} {o1 o2 o3 o4 o5 o6 o7 : Obj} {P H D ID LL lam cc FL sc : Addr} {vs : List Value} {n ep : Nat} {hs : Int} {es : Array DictEntry} {tr : List (Addr × Obj)} {rs : List (List Nat × List Nat)}
   (F : Fr bs L h (kstB u [("capitals", .str (Tx caps) tc), ("plan", .ref P), ("handed", .ref H)])) (N : News bs L h (led0 L o1 o2 o3 o4 o5 o6 o7 (bookL D ID LL lam (frzO hs ut FL) es ep vs n tr))) (YL : LL ≠ 114 ∧ LL ≠ L + 1 ∧ LL ≠ L + 2 ∧ LL ≠ L + 3 ∧ LL ≠ L + 4 ∧ LL ≠ L + 5 ∧ LL ≠ L + 6 ∧ LL ≠ L + 7) (Z : Off D ID LL tr) (hoc : o3.data = .cell (some (.ref D))) (lt : (236 : Nat) < L)
   (O : PlanOk caps rs) (O2 : ∀ r ∈ rs, r.1.length ≤ 2 ∧ r.1.length + r.2.length = 3 ∧ r.1 ≠ [63]) (B : BSt PySem.Challenge.rw_il0159_01.prog w caps rs rs.length es vs) (HL : LamK (LK tr) lam cc LL) (HF : FrzK (LK tr) FL sc D) (hsys : (D == sysModules) = false)
   (next : ∀ S ys vs' n' h' tk' u', Fr bs L h' (kstB u' [("capitals", .str (Tx caps) tc), ("plan", .ref P), ("handed", .ref H), ("strange", .ref S)]) → News bs L h' (led0 L o1 o2 o3 o4 o5 o6 o7 (bookL D ID LL lam (frzO hs ut FL) es ep vs' n' ((S, listOf ys.toArray 0) :: tr))) → Far L [(S, listOf ys.toArray 0)] → Off D ID LL [(S, listOf ys.toArray 0)] →
     TxsAre ys (((caps.drop (rs.length - 1)).take (rs.length + 2)).map fun c => [c]) → Q .next ⟨h', gn, dr, tk', os⟩),
   wpAny (model PySem.Challenge.rw_il0159_01.prog w) (callerA.deeper (lawEnv fd L fa cd)) (exec (stmtAt fd 7) (lawEnv fd L fa cd)) Q E ⟨h, gn, dr, tk, os⟩ := by
  k_with_none
  k_with "eval Constant str" => (k_here; refine const_T ?_; (simp only [lit_e, lit_dot, lit_dots, lit_menu, lit_tail, lit_q, lit_sp, lit_eq, lit_tab, lit_nl, lit_nlsp, lit_mid, lit_spnl, lit_caps]); intro _ _)
  k_with "binaryOp Add str str" => (k_here; (with_reducible show wpAny _ _ (binaryOp _ (Value.str (Tx _) _) (Value.str (Tx _) _)) _ _ _); refine add_T (by first | omega | (simp only [List.length_append, List.length_take, List.length_drop, List.length_map, List.length_cons, List.length_nil]; omega)) ?_; intro _ _)
  k_fill
  intro w p loose mean mg mb bs h L fa cd fd gn dr tk os Q E C X T u tc ut o1 o2 o3 o4 o5 o6 o7 P H D ID LL lam cc FL sc vs n ep hs es tr rs F N YL Z hoc lt O O2 B HL HF hsys next
  obtain ⟨hfd, K, C1, C2⟩ := C
  cases some_lit hfd (rfl : lawDef w.params = some ⟨_, _, _, _, _, _, _, _, _, _, _, _, _, _, _⟩)
  clear hfd
  dsimp only [stmtAt, stmtsOf, List.drop, List.headD, lawEnv]
  obtain ⟨⟨kvs, He, hk⟩, hl⟩ := B
  have hsm := O.small
  have hlen0 : 1 ≤ rs.length := (List.getElem?_eq_some_iff.mp O.first).1
  rw [show max rs.length 1 = rs.length by omega, List.take_length] at hk
  have hes := ents_size He hk
  have zD := N _ (lm0 (.head _))
  have zI := N _ (lm0 (.tail _ (.head _)))
  have zL := N _ (lm0 (.tail _ (.tail _ (.head _))))
  have nDI : D ≠ ID := get_ne_cls zD.1 zI.1 (fun e => nomatch e)
  have nDL : D ≠ LL := get_ne_data zD.1 zL.1 (fun e => nomatch e)
  have nIL : ID ≠ LL := get_ne_data zI.1 zL.1 (fun e => nomatch e)
  iterate 2 walk1
  refine book_ListComp (a := "key") (b := "held") D ID lam es ep F (by with_unfolding_all rfl) (by decide) (by rfl) (by decide) (by rfl) (by rfl) (by decide) ?_ (by intro _; rfl)
  have Xh : (hd.heap_39 w.params).In h := fun b o e => F.keep b o (X b o e)
  iterate 2 walk1
  refine getM_it Xh zD.1 zI.1 ?_
  repeat ((fail_if_success (with_reducible show wpAny _ _ (call _ _) _ _ _)); walk1)
  refine items_B Xh zD.1 zI.1 hsys ?_
  have F2 := F.push (viewO D)
  have N2 : News bs L (h.push (viewO D)) (led0 L o1 o2 o3 o4 o5 o6 o7 (bookL D ID LL lam (frzO hs ut FL) es ep vs n tr)) := N.grown fun _ _ e => Heap.get?_push_of_some _ e
  have offL := off_LL (o1 := o1) (o2 := o2) (o3 := o3) (o4 := o4) (o5 := o5) (o6 := o6) (o7 := o7) (lam := lam) (oI := frzO hs ut FL) (es := es) (ep := ep) YL Z nDL nIL
  have hcl : caps.length = 26 := O.codes_len
  have ask : ∀ {h3 : Heap} {tk3 : Nat} {vs' : List Value} {n' k : Nat} {x : List Nat} {t : Tok} {pre : List (Addr × Obj)} {env : Env} {m : Str → Option Value} {value slice : Expr} {Q' E' : Value → Shared → Prop}
      (F3 : Fr bs L h3 m) (N3 : News bs L h3 (pre ++ headL L D ID lam o1 o2 o3 o4 o5 o6 o7 (frzO hs ut FL) es ep ++ (LL, listOf vs'.toArray n') :: tr)) (hpre : ∀ p ∈ pre, p.1 ≠ LL) (hk3 : k < 12) (hl' : TxsAre vs' ((caps.drop (rs.length - 1 + k)).map fun c => [c])) (hx : ∀ r ∈ rs, r.1 ≠ x)
      (hsu : subscripted slice false (.ref D) (.str (Tx x) t) = operate [.ref D, .str (Tx x) t] (getItem (.ref D) (.str (Tx x) t)))
      (ht : ∀ r, letTemporaryGo value (.ref D) r = pure ())
      (q : ∀ h5 tk5 vs5 n5 t5 c, caps[rs.length - 1 + k]? = some c → Fr bs L h5 m → News bs L h5 (pre ++ headL L D ID lam o1 o2 o3 o4 o5 o6 o7 (frzO hs ut FL) es ep ++ (LL, listOf vs5.toArray n5) :: tr) → TxsAre vs5 ((caps.drop (rs.length - 1 + (k + 1))).map fun c => [c]) → Q' (.str (Tx [c]) t5) ⟨h5, gn, dr, tk5, os⟩),
      wpAny (model PySem.Challenge.rw_il0159_01.prog w) (callerA.deeper env) (subscriptTail value slice (.ref D) (.str (Tx x) t)) Q' E' ⟨h3, gn, dr, tk3, os⟩ := by
    intro h3 tk3 vs' n' k x t pre env m value slice Q' E' F3 N3 hpre hk3 hl' hx hsu ht q
    have zD := N3 (D, bookO ID lam es ep) (List.mem_append_left _ (List.mem_append_right _ (List.mem_append_right _ (.head _))))
    have zI := N3 (ID, frzO hs ut FL) (List.mem_append_left _ (List.mem_append_right _ (List.mem_append_right _ (.tail _ (.head _)))))
    have zL := N3 (LL, listOf vs'.toArray n') (List.mem_append_right _ (.head _))
    have hlam : LamAt h3 lam cc LL := LamK.at (LamK.mono HL fun x o hx => (N3 _ (List.mem_append_right _ (.tail _ hx))).1)
    have hfl : FrzAt h3 FL sc D := FrzK.at (FrzK.mono HF fun x o hx => (N3 _ (List.mem_append_right _ (.tail _ hx))).1)
    obtain ⟨c, hc⟩ : ∃ c, caps[rs.length - 1 + k]? = some c := ⟨_, List.getElem?_eq_getElem (by omega)⟩
    have hdr : caps.drop (rs.length - 1 + k) = c :: caps.drop (rs.length - 1 + (k + 1)) := by
      rw [List.drop_eq_getElem_cons (by omega : rs.length - 1 + k < caps.length)]
      congr 1
      exact (List.getElem?_eq_some_iff.mp hc).2
    rw [hdr, List.map_cons] at hl'
    obtain ⟨v0, rest, rfl, ⟨t5, rfl⟩, hrest⟩ := hl'.uncons
    have hrl : rest.length ≤ 1000 := by have := hrest.length; simp at this; omega
    refine sub_B (fun x o e => F3.keep x o (X x o e)) zD.1 zI.1 ?_ hsu ht
    refine miss_F X T F3.keep zL.2.2 hsys zD.1 zI.1 He hlam hfl zL.1 hrl (miss_at hk hx) (fun h5 tk5 hL5 k5 => ?_)
    refine q h5 tk5 rest (n' + 1) t5 c hc (fr_but1' F3 k5 (Ne.symm zL.2.1) zL.2.2) ?_ hrest
    refine news_upd N3 k5 (fun p hp => ?_) hL5
    rcases List.mem_append.mp hp with hp | hp
    · rcases List.mem_append.mp hp with hp | hp
      · exact hpre p hp
      · exact offL p (List.mem_append_left _ hp)
    · exact offL p (List.mem_append_right _ hp)
  refine ⟨h.objs.size, _, fun i ys news => ∃ vs' n', news = headL L D ID lam o1 o2 o3 o4 o5 o6 o7 (frzO hs ut FL) es ep ++ (LL, listOf vs'.toArray n') :: tr ∧ TxsAre vs' ((caps.drop (rs.length - 1 + i)).map fun c => [c]) ∧ TxsAre ys (((caps.drop (rs.length - 1)).take i).map fun c => [c]), rfl, rfl, F2, N2, Heap.get?_push_size _ rfl, by rw [hes, sizeLine_eq]; omega, ?_, ⟨vs, n, rfl, hl, .nil⟩, fun g => ⟨?_, ?_⟩⟩
  · rintro i ys news ⟨vs', n', rfl, _⟩
    exact List.mem_append_left _ (List.mem_append_right _ (.head _))
  · rintro i e ys news he ⟨vs', n', rfl, hl', hys⟩ I oI C oC D' m₂ h3 tk3 E' hC3 ha hb F3 N3 off ne
    obtain ⟨r, t1, hri, hk1, t2, hv2⟩ := ents_at He hk he
    rw [hk1] at ha
    rw [hv2] at hb
    have hi : i < rs.length := (List.getElem?_eq_some_iff.mp hri).1
    have hr2 := O2 r (List.mem_of_getElem? hri)
    have off3 := off.mem
    have oL := off3 (LL, listOf vs'.toArray n') (List.mem_append_right _ (.head _))
    clear F N F2 N2 Xh
    repeat ((fail_if_success (with_reducible show wpAny _ _ (subscriptTail _ _ _ _) _ _ _)); walk1)
    rename Fr _ _ _ _ => F4
    rename News _ _ _ _ => N4
    refine ask (pre := [(I, oI), (C, oC), (D', lst ys)]) F4 N4 (fun p hp => ?_) (by omega) hl' (fun r' hr' e => ?_) (by with_unfolding_all rfl) (by intro _; with_unfolding_all rfl) (fun h5 tk5 vs5 n5 t5 c hc F5 N5 hl5 => ?_)
    · simp only [List.mem_cons, List.not_mem_nil, or_false] at hp
      rcases hp with rfl | rfl | rfl
      · exact Ne.symm oL.1
      · exact Ne.symm oL.2.1
      · exact Ne.symm oL.2.2
    · have q1 := (O2 r' hr').1
      rw [e, List.length_append] at q1
      omega
    · clear F4 N4
      refine CompEnd.intro F5 N5 _ (fun p hp => hp) (Off3.of fun p hp => ?_) trivial ⟨vs5, n5, rfl, hl5, ?_⟩
      · rcases List.mem_append.mp hp with hp | hp
        · exact off3 p (List.mem_append_left _ hp)
        rcases List.mem_cons.mp hp with rfl | hp
        · exact oL
        · exact off3 p (List.mem_append_right _ (.tail _ hp))
      · rw [List.take_add_one, List.getElem?_drop, hc, List.map_append]
        exact hys.snoc ⟨_, rfl⟩
  · rintro ys news hyl ⟨vs', n', rfl, hl', hys⟩
    intro D3 h3 tk3 F3 N3 off3
    have hD3 : (@Ne Nat D3 LL) := Ne.symm (off1_mem off3 (LL, listOf vs'.toArray n') (List.mem_append_right _ (.head _)))
    clear F N F2 N2 Xh
    rw [hes] at hl' hys
    repeat ((fail_if_success (with_reducible show wpAny _ _ (subscriptTail _ _ _ _) _ _ _)); walk1)
    rename Fr _ _ _ _ => F4
    rename News _ _ _ _ => N4
    refine ask (pre := [(D3, lst ys)]) (k := rs.length) F4 N4 (fun p hp => by rw [List.mem_singleton.mp hp]; exact hD3) (by omega) hl' (fun r' hr' => (O2 r' hr').2.2) (by with_unfolding_all rfl) (by intro _; with_unfolding_all rfl) (fun h5 tk5 vs5 n5 t5 c hc F5 N5 hl5 => ?_)
    clear F4 N4
    repeat ((fail_if_success (with_reducible show wpAny _ _ (subscriptTail _ _ _ _) _ _ _)); walk1)
    rename Fr _ _ _ _ => F6
    rename News _ _ _ _ => N6
    refine ask (pre := [(D3, lst ys)]) (k := rs.length + 1) F6 N6 (fun p hp => by rw [List.mem_singleton.mp hp]; exact hD3) (by omega) hl5 (fun r' hr' => (O2 r' hr').2.2) (by with_unfolding_all rfl) (by intro _; with_unfolding_all rfl) (fun h7 tk7 vs7 n7 t7 c7 hc7 F7 N7 hl7 => ?_)
    clear F6 N6
    repeat ((fail_if_success (with_reducible show wpAny _ _ (binaryOp _ _ _) _ _ _)); walk1)
    rename_i l' h8 F8 N8 lt8

    refine kmk_add_lit (zs := ys ++ [.str (Tx [c]) t5, .str (Tx [c7]) t7]) F8 N8 ⟨_, (N8 (D3, lst ys) (.tail _ (.head _))).1, rfl, _, rfl⟩ ⟨_, (N8 _ (.head _)).1, rfl, _, rfl⟩ (by simp) (fun S h9 F9 N9 lt9 => ?_) (by simp; rw [sizeLine_eq]; omega)
    clear F8 N8
    walk1
    rename Fr _ _ _ _ => F10
    rename News _ _ _ _ => N10
    have lS : ∀ p ∈ headL L D ID lam o1 o2 o3 o4 o5 o6 o7 (frzO hs ut FL) es ep ++ (LL, listOf vs7.toArray n7) :: tr, p.1 < S := fun p hp => lt9 p (.tail _ (.tail _ hp))
    refine next S (ys ++ [Value.str (Tx [c]) t5, Value.str (Tx [c7]) t7]) vs7 n7 _ _ _ (fr_self F10 (by kst_all)) (fun p hp => ?_) (far_gt lt (lS (L + 7, o7) (.tail _ (.tail _ (.tail _ (.tail _ (.tail _ (.tail _ (.head _))))))))) (fun p hp => ?_) ?_
    · have hp' : p ∈ headL L D ID lam o1 o2 o3 o4 o5 o6 o7 (frzO hs ut FL) es ep ++ (LL, listOf vs7.toArray n7) :: (S, listOf (ys ++ [Value.str (Tx [c]) t5, Value.str (Tx [c7]) t7]).toArray 0) :: tr := hp
      rcases List.mem_append.mp hp' with hp | hp
      · exact N10 p (.tail _ (.tail _ (.tail _ (List.mem_append_left _ hp))))
      rcases List.mem_cons.mp hp with rfl | hp
      · exact N10 _ (.tail _ (.tail _ (.tail _ (List.mem_append_right _ (.head _)))))
      rcases List.mem_cons.mp hp with rfl | hp
      · exact N10 _ (.head _)
      · exact N10 p (.tail _ (.tail _ (.tail _ (List.mem_append_right _ (.tail _ hp)))))
    · rw [List.mem_singleton.mp hp]
      have a1 := lS (D, bookO ID lam es ep) (List.mem_append_left _ (List.mem_append_right _ (.head _)))
      have a2 := lS (ID, frzO hs ut FL) (List.mem_append_left _ (List.mem_append_right _ (.tail _ (.head _))))
      have a3 := lS (LL, listOf vs7.toArray n7) (List.mem_append_right _ (.head _))
      exact ⟨Nat.ne_of_gt a1, Nat.ne_of_gt a2, Nat.ne_of_gt a3⟩
    · rw [show rs.length + 2 = rs.length + 1 + 1 by omega, List.take_add_one, List.take_add_one, List.getElem?_drop, List.getElem?_drop, hc, hc7, List.map_append, List.map_append, List.append_assoc]
      exact hys.append (.cons ⟨_, rfl⟩ (.cons ⟨_, rfl⟩ .nil))
end Mine
end

noncomputable section
open PySem PySem.W PyProof.Rows PySem.Spec PyProof.Rows.LCg
set_option maxRecDepth 100000
set_option maxHeartbeats 4000000
namespace Mine
section
variable {w : World} {p : Program} {loose : List Str} {mean : ExcName → Option Value} {mg mb : Str → Option Value} {bs h : Heap} {L fa : Addr} {cd : Value} {fd : FuncData} {gn : Array GenState} {dr : Drawn} {tk : Nat} {os : OsState} {Q : Flow → Shared → Prop} {E : Value → Shared → Prop}
theorem dot_str : (Str.ofString ".") = Tx [46] := by rw [← Tx_of (Str.ofString "."), lit_dot]
/-- from the book on -/
theorem tail1 (C : LC w bs fd) (X : (hd.heap_39 w.params).In bs) (T : Top p loose mean mg mb bs) (hl : (stmtsOf fd).length = 21)
   {st : PS} {g : List Nat} (I : Inv caps st) (h0 : st.2[0]? = some g) (hrl : st.1.length ≤ 10) (htl : ∀ t ∈ st.2, t.length ≤ 60)
   {u : Str → Option Value} {o1 o2 o3 o4 o5 o6 o7 : Obj} {P R TT : Addr} {rvs tvs : List Value} {a b c : Nat} {tl : List (Addr × Obj)} {tc tg : Tok}
   (F : Fr bs L h (kstB u [("capitals", .str (Tx caps) tc), ("plan", .ref P)])) (N : News bs L h (led L tl o1 o2 o3 o4 o5 o6 o7)) (Y : Far L tl) (Y2 : ∀ p ∈ tl, p.1 ≠ 236) (h1 : o1.data = .cell (some (.str (Tx g) tg))) (h2 : o2.data = .cell none) (h3 : o3.data = .cell none) (h4 : o4.data = .cell none) (h5 : o5.data = .cell none) (h6 : o6.data = .cell none) (h7 : o7.data = .cell none) (lt : (236 : Nat) < L)
   (mP : (P, listOf #[.ref R, .ref TT] a) ∈ tl) (mR : (R, listOf rvs.toArray b) ∈ tl) (mT : (TT, listOf tvs.toArray c) ∈ tl)
   (hR : RowsAre (LK tl) rvs st.1) (hT : TxsAre tvs st.2)
   (q : ∀ h' tk', Kp bs h' → (∃ ps, h'.get? 114 = some (tabObj ps)) → (∃ ps, h'.get? 236 = some (tabObj ps)) → Q (.ret (.bool true)) ⟨h', gn, dr, tk', os⟩) :
   wpAny (model PySem.Challenge.rw_il0159_01.prog w) (callerA.deeper (lawEnv fd L fa cd)) (execs ((stmtsOf fd).drop 3) (lawEnv fd L fa cd)) Q E ⟨h, gn, dr, tk, os⟩ := by
  have RO := row_ok I
  have PO := plan_ok I hrl
  have hrlen := hR.length
  refine ex_step 3 hl (by decide) (law4 C X T F N Y h2 lt mP mR (by omega) (fun h' tk' o2' t F N hd2 => ?_))
  rw [hrlen] at hd2
  refine ex_step 4 hl (by decide) (law5 C X T F N Y Y2 h3 lt (fun D ID lam cc LL vs n es ep tb h' tk' o3' t F N hd3 Y Z hps He HL hv hsys => ?_))
  obtain ⟨ps2, g2⟩ := hps
  have N6 : News bs L h' (led1 L o1 o2' o3' o4 o5 o6 o7 (bookL D ID LL lam emptyO es ep vs n (tb ++ tl))) := N
  have Y6 : Far L (bookL D ID LL lam emptyO es ep vs n (tb ++ tl)) := Y
  have ut : ∀ {x : Addr × Obj}, x ∈ tl → x ∈ tb ++ tl := fun hx => List.mem_append_right _ hx
  have hlam : LamK (LK (tb ++ tl)) lam cc LL := LamK.mono HL fun x o hx => List.mem_append_left _ hx
  have B : BSt PySem.Challenge.rw_il0159_01.prog w caps st.1 0 es vs := by
    refine ⟨⟨_, He, ?_⟩, by simpa using hv⟩
    obtain ⟨r0, rest, er⟩ : ∃ r0 rest, st.1 = r0 :: rest := by
      cases hh : st.1 with
      | nil => have := I.ne0; rw [hh] at this; simp at this
      | cons r0 rest => exact ⟨_, _, rfl⟩
    have hf := I.first
    rw [er] at hf ⊢
    simp only [List.getElem?_cons_zero, Option.some.injEq] at hf
    subst hf
    exact .cons ⟨dot_str, _, rfl⟩ .nil
  clear N Y
  refine ex_step 5 hl (by decide) (law6 (t1 := 0) C X T F N6 Y6 Z hd3 lt (ut mP) (ut mR) (RowsAre.mono (fun x o hx => ut hx) hR) PO B hlam hsys (fun H es' ep' vs' n' ys own h' tk' u' F N Y Z hys B => ?_))
  clear N6 Y6
  refine ex_step 6 hl (by decide) (law7 (u := u) C X T F N Y Z hd3 lt (fun FL sc hs ut7 own7 h' tk' F N HF Yc7 Z7 hps => ?_))
  obtain ⟨ps1, g1⟩ := hps
  have up : ∀ {x : Addr × Obj}, x ∈ tb ++ tl → x ∈ own7 ++ ((H, lst ys) :: own ++ (tb ++ tl)) := fun hx => List.mem_append_right _ (List.mem_append_right ((H, lst ys) :: own) hx)
  have YLL := Y _ (.tail _ (.tail _ (.head _)))
  have Yt : FarC L ((H, lst ys) :: own ++ (tb ++ tl)) := (Far.c Y).sub fun p hp => .tail _ (.tail _ (.tail _ hp))
  refine ex_step 7 hl (by decide) (law8 C X T F N YLL (Off.append Z7 Z) hd3 lt PO (fun r hr => ⟨(RO r hr).len.1, (RO r hr).sum, (RO r hr).q⟩) B (LamK.mono hlam fun x o hx => up hx) (FrzK.mono HF fun x o hx => List.mem_append_left _ hx) hsys (fun S ys8 vs8 n8 h' tk' u8 F N YS ZS hys8 => ?_))
  have Y9 : FarC L ((S, listOf ys8.toArray 0) :: (own7 ++ ((H, lst ys) :: own ++ (tb ++ tl)))) := FarC.append (a := [_]) (Far.c YS) (FarC.append Yc7 Yt)
  refine ex_step 8 hl (by decide) (law9 C X T F N Y9 hd3 h4 lt PO B hsys (fun K ys9 own9 o4' h' tk' F N hd4 Y hys9 => ?_))
  have up2 : ∀ {x : Addr × Obj}, x ∈ tb ++ tl → x ∈ (K, lst ys9) :: own9 ++ ((S, listOf ys8.toArray 0) :: (own7 ++ ((H, lst ys) :: own ++ (tb ++ tl)))) := fun hx => List.mem_append_right _ (.tail _ (up hx))
  have up3 : ∀ {x : Addr × Obj}, x ∈ (H, lst ys) :: own → x ∈ (K, lst ys9) :: own9 ++ ((S, listOf ys8.toArray 0) :: (own7 ++ ((H, lst ys) :: own ++ (tb ++ tl)))) := fun hx => List.mem_append_right _ (.tail _ (List.mem_append_right _ (List.mem_append_left _ hx)))
  exact tail2 C X T hl I h0 hrl htl F N Y h1 hd2 hd4 h5 h6 h7 (up2 (ut mP)) (up2 (ut mR)) (up2 (ut mT)) (up3 (.head _)) (List.mem_append_right _ (.head _)) (.head _)
    (RowsAre.mono (fun x o hx => up2 (ut hx)) hR) (RowsAre.mono (fun x o hx => up3 (.tail _ hx)) hys) (RowsAre.mono (fun x o hx => .tail _ (List.mem_append_left _ hx)) hys9) hys8 hT
    (List.mem_append_right _ (.tail _ (List.mem_append_left _ g1))) (up2 (List.mem_append_left _ g2)) q
/-- the whole body -/
theorem law_all (C : LC w bs fd) (X : (hd.heap_39 w.params).In bs) (T : Top p loose mean mg mb bs) (hl : (stmtsOf fd).length = 21)
   {u : Str → Option Value} {sc : Addr} {vs : List Value} {zs : List Int} (lifted : bs.IsList sc vs.toArray) (hI : IntsAre vs zs) (hz : zs.length ≤ 63)
   {o1 o2 o3 o4 o5 o6 o7 : Obj}
   (F : Fr bs L h (kstB u [("script", .ref sc)])) (N : News bs L h (led L [] o1 o2 o3 o4 o5 o6 o7)) (h1 : o1.data = .cell none) (h2 : o2.data = .cell none) (h3 : o3.data = .cell none) (h4 : o4.data = .cell none) (h5 : o5.data = .cell none) (h6 : o6.data = .cell none) (h7 : o7.data = .cell none) (lt : (236 : Nat) < L)
   (q : ∀ h' tk', Kp bs h' → (∃ ps, h'.get? 114 = some (tabObj ps)) → (∃ ps, h'.get? 236 = some (tabObj ps)) → Q (.ret (.bool true)) ⟨h', gn, dr, tk', os⟩) :
   wpAny (model PySem.Challenge.rw_il0159_01.prog w) (callerA.deeper (lawEnv fd L fa cd)) (execs ((stmtsOf fd).drop 0) (lawEnv fd L fa cd)) Q E ⟨h, gn, dr, tk, os⟩ := by
  have hns : ((zs.take 6).map (fun z => z / 4) ++ [0, 1, 2]).length ≤ 9 := by simp; omega
  have S := planP_stage (codes := caps) (given_len zs) ((zs.take 6).map (fun z => z / 4) ++ [0, 1, 2])
  have I := planP_inv caps_ok (given_len zs) (given_ne zs) (given_base zs) ((zs.take 6).map (fun z => z / 4) ++ [0, 1, 2]) hns
  have h0 := planP_head caps (givenL zs) ((zs.take 6).map (fun z => z / 4) ++ [0, 1, 2])
  have gl := given_len zs
  refine ex_step 0 hl (by decide) (law1 C X T F N (fun h' tk' u' tc F N => ?_))
  refine ex_step 1 hl (by decide) (law2 C X T lifted hI hz F N h1 lt (fun h' tk' o1' t F N hd1 => ?_))
  refine ex_step 2 hl (by decide) (law3 C X T lifted hI hz gl F N hd1 lt (fun P R TT rvs tvs a b c tl h' tk' u' F N Y Y2 hr ht => ?_))
  exact tail1 C X T hl I h0 (by have := S.rowsU; omega) S.lens F N Y Y2 hd1 h2 h3 h4 h5 h6 h7 lt (.head _) (.tail _ (.head _)) (.tail _ (.tail _ (.head _))) (RowsAre.mono (fun x o hx => .tail _ (.tail _ (.tail _ hx))) hr) ht q
end
end Mine
end

noncomputable section
open PySem PySem.W PyProof.Rows PySem.Spec PyProof.Rows.LCg
set_option maxRecDepth 100000
set_option maxHeartbeats 8000000
namespace Mine
theorem fr_eq {bs h : Heap} {L : Addr} {m m' : Str → Option Value} (F : Fr bs L h m) (e : m = m') : Fr bs L h m' := e ▸ F
theorem led_of {h₀ h : Heap} {L : Addr} {w0 w1 w2 w3 w4 w5 w6 : Obj} (N : News h₀ L h [(L + 1 + 1 + 1 + 1 + 1 + 1 + 1, w6), (L + 1 + 1 + 1 + 1 + 1 + 1, w5), (L + 1 + 1 + 1 + 1 + 1, w4), (L + 1 + 1 + 1 + 1, w3), (L + 1 + 1 + 1, w2), (L + 1 + 1, w1), (L + 1, w0), (114, tabObj #[]), (236, tabObj #[])]) : News h₀ L h (led L [] w0 w1 w2 w3 w4 w5 w6) := N.perm fun p hp => by
  have hp' : p ∈ [(L + 1, w0), (L + 2, w1), (L + 3, w2), (L + 4, w3), (L + 5, w4), (L + 6, w5), (L + 7, w6), (114, tabObj #[]), (236, tabObj #[])] := hp
  simp only [List.mem_cons, List.not_mem_nil, or_false] at hp' ⊢
  rcases hp' with rfl | rfl | rfl | rfl | rfl | rfl | rfl | rfl | rfl
  · exact .inr (.inr (.inr (.inr (.inr (.inr (.inl rfl))))))
  · exact .inr (.inr (.inr (.inr (.inr (.inl rfl)))))
  · exact .inr (.inr (.inr (.inr (.inl rfl))))
  · exact .inr (.inr (.inr (.inl rfl)))
  · exact .inr (.inr (.inl rfl))
  · exact .inr (.inl rfl)
  · exact .inl rfl
  · exact .inr (.inr (.inr (.inr (.inr (.inr (.inr (.inl rfl)))))))
  · exact .inr (.inr (.inr (.inr (.inr (.inr (.inr (.inr rfl)))))))
end Mine
open Mine
set_option maxRecDepth 100000 in
set_option maxHeartbeats 8000000 in
theorem PySem.Challenge.cw_il0159_01_holds : PySem.Challenge.rw_il0159_01.Holds := by
  k_with_none
  refine hd ?_
  k_go0
  rename World => w
  rename Fr _ _ _ _ => F
  rename News _ _ _ _ => N
  rename Below _ _ _ _ => K
  rename Frag.In _ _ => X
  rename Top topProg _ _ _ _ _ => T
  rename CodeHd _ (118, 114).fst _ => c1
  rename CodeHd _ (240, 236).fst _ => c2
  rename Heap.IsList (ghostOf _ _) _ _ => lst
  rename IntsAre _ _ => hI
  rename _ ∧ _ => l0
  rename Shared.gens _ = #[] => hg
  rename ¬ _ < _ => hz
  have F2 := Mine.fr_eq (m' := kstB (fun _ => none) [("script", .ref _)]) F (by funext y; rfl)
  refine Mine.law_all (fd := (Mine.lawDef w.params).getD default) ⟨by with_unfolding_all rfl, K, c1, c2⟩ X T (by with_unfolding_all rfl) lst hI (by omega) F2 (Mine.led_of N) (by assumption) (by assumption) (by assumption) (by assumption) (by assumption) (by assumption) (by assumption) l0.2 (fun h' tk' kp hg1 hg2 => ?_)
  exact ⟨⟨.inl ⟨.bool true, .bool true, [], rfl, fun _ => rfl, ReadsW.bool .., by with_unfolding_all rfl, fun _ => ⟨List.nodup_nil, fun a h => nomatch h⟩⟩, kp, rfl, hg⟩, hg1, hg2, trivial⟩
end
