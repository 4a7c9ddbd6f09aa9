import PyProof.Rows.All
import Wide.All
import OpenK.AllK
import Wide.FinOn
import KE.KDictList
import Lean
import PySem.Challenge.RW_wa0013_03
set_option Elab.async false
set_option linter.unusedVariables false
set_option linter.unusedSimpArgs false
section
open PySem PySem.W PyProof.Rows
set_option maxRecDepth 100000
set_option maxHeartbeats 8000000
namespace Mine
/-- the top's statements that the head sees -/
noncomputable def vw : Program := PySem.W.view PySem.Challenge.pw_wa0013_03 [0, 2, 3, 4, 5, 7, 8, 10, 11, 12, 13, 14, 15, 16, 17, 18, 19, 20, 21]
/-- the run of a top, its heap as a tree, with the library's fast twins -/
noncomputable def topT (p : Program) (w : World) (n₀ : Nat) (ann : Option Value) (n : Nat) : SharedT → Thread → Option SharedT :=
  Nat.rec (fun _ _ => none) (fun _ ih s t => match through t with
    | true => some s
    | false => match @PySem.W.Fast.tw6613529449190102663 n₀ ann t with
      | false => none
      | true => match @PySem.W.Fast.tw10156331382660048174 (@PySem.W.Fast.tw11892475500146522536 @PySem.W.Fast.tw14364793385576792824) p w s t with
        | some r => ih r.1 r.2
        | none => none) n
theorem topT_of {p : Program} {w : World} {n₀ : Nat} {ann : Option Value} : ∀ {n : Nat} {s s' : SharedT} {t : Thread}, topT p w n₀ ann n s t = some s' → topRun treeTable p w n₀ ann n s.abs t = some s'.abs
  | 0, _, _, _, h => by cases h
  | n + 1, s, s', t, h => by
    replace h : (match through t with
    | true => some s
    | false => match @PySem.W.Fast.tw6613529449190102663 n₀ ann t with
      | false => none
      | true => match @PySem.W.Fast.tw10156331382660048174 (@PySem.W.Fast.tw11892475500146522536 @PySem.W.Fast.tw14364793385576792824) p w s t with
        | some r => topT p w n₀ ann n r.1 r.2
        | none => none) = some s' := h
    rw [← PySem.W.Fast.te6613529449190102663, ← PySem.W.Fast.te10156331382660048174, ← PySem.W.Fast.te11892475500146522536, ← PySem.W.Fast.te14364793385576792824] at h
    unfold topRun
    cases ht : through t with
    | true => rw [ht] at h; cases h; rfl
    | false =>
      rw [ht] at h
      cases hk : stepOk n₀ ann t with
      | false => simp only [hk] at h; cases h
      | true =>
        simp only [hk] at h
        cases hs : stepT (denote treeTable) p w s t with
        | none => rw [hs] at h; cases h
        | some r => obtain ⟨s₂, t₂⟩ := r; rw [hs] at h; rw [stepT_spec hs]; exact topT_of h
/-- a heap's objects as a tree -/
noncomputable def treeOf (l : List Obj) : Option (BT × Nat) :=
  l.foldl (fun r o => match r with
    | some (t, n) => match ((t.ins n o).get n).isSome with
      | true => some (t.ins n o, n + 1)
      | false => none
    | none => none) (some (.nil, 0))
theorem treeOf_from : ∀ (l : List Obj) (t : BT) (n : Nat) (life : Life) (T : BT) (N : Nat), l.foldl (fun r o => match r with
    | some (t, n) => match ((BT.ins t n o).get n).isSome with
      | true => some (BT.ins t n o, n + 1)
      | false => none
    | none => none) (some (t, n)) = some (T, N) → absHeap T N life = ⟨(absHeap t n life).objs ++ l.toArray, life⟩
  | [], t, n, life, T, N, h => by
    simp only [List.foldl_nil, Option.some.injEq, Prod.mk.injEq] at h
    obtain ⟨rfl, rfl⟩ := h
    simp [absHeap]
  | o :: l, t, n, life, T, N, h => by
    simp only [List.foldl_cons] at h
    cases g : ((t.ins n o).get n).isSome with
    | false =>
      simp only [g] at h
      exfalso
      clear g
      induction l with
      | nil => cases h
      | cons a l ih => exact ih h
    | true =>
      simp only [g] at h
      rw [treeOf_from l _ _ life T N h, absHeap_ins g]
      congr 1
      show ((absHeap t n life).objs.push o) ++ l.toArray = _
      simp
theorem treeOf_abs {l : List Obj} {T : BT} {N : Nat} (h : treeOf l = some (T, N)) (life : Life) : absHeap T N life = ⟨l.toArray, life⟩ := by
  rw [treeOf_from l .nil 0 life T N h]
  simp [absHeap, BT.list]
noncomputable def topQ (p : Program) (w : World) (N : Nat) : Shared → Option Shared
  | ⟨⟨⟨l⟩, life⟩, gens, drawn, toks, os⟩ =>
  match (Heap.mk ⟨l⟩ life).isNs mainGlobals && gens.size == 0 with
  | true => match treeOf l with
    | some (T, n) => match (topT p w n ((Heap.mk ⟨l⟩ life).nsMap mainGlobals "__annotations__") N ⟨T, n, life, gens, drawn, toks, os⟩ (topStub p)) with
      | some s₁ => match staticsOk (importedModules p.main.body) ⟨⟨l⟩, life⟩ s₁.abs.heap && namesBound p s₁.abs.heap && gensDone s₁.abs && laidKept ⟨⟨l⟩, life⟩ s₁.abs.heap with
        | true => some s₁.abs
        | false => none
      | none => none
    | none => none
  | false => none
noncomputable def endsQ (p : Program) (w : World) (N : Nat) : Option Shared := ((@PySem.W.Fast.tw10274390034422433532 @PySem.W.Fast.tw14364793385576792824 (opening p) w N (start (opening p)).1 (start (opening p)).2).bind (@PySem.W.Fast.tw14289696077712309145 p)).bind (topQ p w N)
theorem topQ_of {p : Program} {w : World} {N : Nat} {s₀ s : Shared} (h : topQ p w N s₀ = some s) : topFrom treeTable p w N s₀ = some s := by
  obtain ⟨⟨⟨l⟩, life⟩, gens, drawn, toks, os⟩ := s₀
  unfold topQ at h
  unfold topFrom
  dsimp only at h ⊢
  cases hg : ((Heap.mk ⟨l⟩ life).isNs mainGlobals && gens.size == 0) with
  | false => rw [hg] at h; cases h
  | true =>
    rw [hg] at h
    dsimp only at h ⊢
    cases ht : treeOf l with
    | none => rw [ht] at h; cases h
    | some r =>
      obtain ⟨T, n⟩ := r
      rw [ht] at h
      dsimp only at h
      have ha := treeOf_abs ht life
      have hn : n = l.length := by
        have := congrArg (fun h => h.objs.size) ha
        rw [absHeap_size] at this
        exact this
      cases hr : topT p w n ((Heap.mk ⟨l⟩ life).nsMap mainGlobals "__annotations__") N ⟨T, n, life, gens, drawn, toks, os⟩ (topStub p) with
      | none => rw [hr] at h; cases h
      | some s₁ =>
        rw [hr] at h
        have k := topT_of hr
        have e : (SharedT.mk T n life gens drawn toks os).abs = ⟨⟨⟨l⟩, life⟩, gens, drawn, toks, os⟩ := by
          unfold SharedT.abs
          rw [ha]
        rw [e, hn] at k
        dsimp only at h
        show (topRun treeTable p w l.length _ N _ _).bind _ = _
        rw [k]
        exact h
theorem left_quick {p q : Program} {loose : List Str} {Xt : Shared → Bool} {α : Type} {Yf : Shared → α} {Ya : World → α} {N : Nat}
    (h : ∀ w, (endsQ p w N).map (fun s => (@PySem.W.Fast.tw4187177175401517315 q loose (importedModules p.main.body) Xt true s, Yf s)) = some (openGood q loose, Ya w)) : LeftO p q loose Xt Yf Ya N := fun w => by
  obtain ⟨s, hs, e⟩ := Option.map_eq_some_iff.mp (h w)
  unfold endsQ at hs
  rw [← PySem.W.Fast.te14364793385576792824, ← PySem.W.Fast.te10274390034422433532, ← PySem.W.Fast.te14289696077712309145] at hs
  obtain ⟨s₀, h0, h1⟩ := Option.bind_eq_some_iff.mp hs
  unfold openEnds fencedOpening
  rw [h0]
  show (topFrom treeTable p w N s₀).map _ = _
  rw [topQ_of h1, ← PySem.W.Fast.te4187177175401517315] at *
  exact congrArg some e
/-- the law's text is well said: each part in a check of its own -/
theorem law_said : PySem.Challenge.rw_wa0013_03.wellSaid = true := by
  unfold OpenLaw.wellSaid OpenRow.wellSaid OpenRow.partSaid looksOpen
  repeat' with_reducible refine look_both ?_ ?_
  all_goals (
    (try (rw [PySem.W.Fast.te8377067652309620493]))
    (try (rw [PySem.W.Fast.te8326940854005059898]))
    (try (rw [PySem.W.Fast.te17119622794617984870]))
    (try (rw [PySem.W.Fast.te8179353310426384613]))
    (try (rw [PySem.W.Fast.te9558739934217749035]))
    (try (rw [PySem.W.Fast.te16286561074155671207]))
    (try (rw [PySem.W.Fast.te10501279942588096481]))
    (try (rw [PySem.W.Fast.te11788848310118352699]))
    (try (rw [PySem.W.Fast.te12862048085361865435]))
    (try (rw [PySem.W.Fast.te18344453789297297638]))
    (try (rw [PySem.W.Fast.te17868728402115742887]))
    decide +kernel)
theorem ok_said : (chainsOk vw && opensWell PySem.Challenge.rw_wa0013_03.row.prog && (frees PySem.Challenge.rw_wa0013_03.row.toRowW && PySem.Challenge.rw_wa0013_03.row.toRowW.within.isEmpty)) = true := by
  repeat' with_reducible refine look_both ?_ ?_
  all_goals decide +kernel
theorem h_open (H : Hook) (said : PySem.Challenge.rw_wa0013_03.row.wellSaid = true) {d : DefRec} {kwd : List (Str × Expr)} (hdef : defOf vw PySem.Challenge.rw_wa0013_03.row.name = some (d, kwd)) (hp : PySem.Challenge.rw_wa0013_03.row.prog.theDef PySem.Challenge.rw_wa0013_03.row.name = some (d.params, d.body, d.scope)) (hk : kwWritten? d.params.kwonlyargs d.params.kw_defaults = some kwd)
    (hl : LeftO PySem.Challenge.rw_wa0013_03.row.prog vw [Str.ofString "Statistic", Str.ofString "StatisticDiff"] (fun s => xlAt vw [] s && recOk (RowW.records PySem.Challenge.rw_wa0013_03.row.toRowW) s) H.obs H.val 2950)
    (hw : PySem.Challenge.rw_wa0013_03.row.toRowW.promised) (hc : WalkO vw [Str.ofString "Statistic", Str.ofString "StatisticDiff"] (XL vw []) H.says PySem.Challenge.rw_wa0013_03.row.toRowW d kwd fun f vs => PySem.call f vs) : PySem.Challenge.rw_wa0013_03.row.Holds :=
  holds_open hl H.of H.keeps (fun s e => xl_of s (Bool.and_eq_true_iff.mp e).1) XL.keeps hdef hp hk (fun s e => recFacts_of (Bool.and_eq_true_iff.mp e).2) (by rfl) said ok_said ⟨rfl, rfl, rfl, rfl, rfl, by decide +kernel⟩ hw hc
/-- the run of the text's top -/
local macro_rules | `(tactic| o_head $H) => `(tactic| (
  refine h_open $H (by assumption) (by rfl) (by rfl) (by rfl) ?hl ?hw ?hc
  case hl => (refine left_quick ?_; intro w; kernel_rfl)))
local macro_rules | `(tactic| o_law) => `(tactic| refine holds_law (l := PySem.Challenge.rw_wa0013_03) law_said fun said => ?_)
open_top hd for PySem.Challenge.rw_wa0013_03
theorem mul_bd {a b A B : Rat} (h1 : -A ≤ a) (h2 : a ≤ A) (h3 : -B ≤ b) (h4 : b ≤ B) : -(A*B) ≤ a*b ∧ a*b ≤ A*B := by
  have p1 := Rat.mul_nonneg (a := A - a) (b := B + b) (by grind) (by grind)
  have p2 := Rat.mul_nonneg (a := A + a) (b := B - b) (by grind) (by grind)
  have p3 := Rat.mul_nonneg (a := A - a) (b := B - b) (by grind) (by grind)
  have p4 := Rat.mul_nonneg (a := A + a) (b := B + b) (by grind) (by grind)
  grind
/-- a polynomial by its coefficients, the lowest first -/
noncomputable def hp : List Rat → Rat → Rat
  | [], _ => 0
  | a :: l, x => a + x * hp l x
noncomputable def addL : List Rat → List Rat → List Rat
  | [], m => m
  | a :: l, [] => a :: l
  | a :: l, b :: m => (a + b) :: addL l m
theorem hp_add : ∀ (l m : List Rat) (x : Rat), hp (addL l m) x = hp l x + hp m x
  | [], m, x => by simp [addL, hp]; grind
  | a :: l, [], x => by simp [addL, hp]; grind
  | a :: l, b :: m, x => by simp only [addL, hp, hp_add l m x]; grind
noncomputable def smL (c : Rat) : List Rat → List Rat
  | [] => []
  | a :: l => (c * a) :: smL c l
theorem hp_sm (c : Rat) : ∀ (l : List Rat) (x : Rat), hp (smL c l) x = c * hp l x
  | [], x => by simp [smL, hp]
  | a :: l, x => by simp only [smL, hp, hp_sm c l x]; grind
noncomputable def mulL : List Rat → List Rat → List Rat
  | [], _ => []
  | a :: l, m => addL (smL a m) (0 :: mulL l m)
theorem hp_mul : ∀ (l m : List Rat) (x : Rat), hp (mulL l m) x = hp l x * hp m x
  | [], m, x => by simp [mulL, hp]
  | a :: l, m, x => by simp only [mulL, hp_add, hp_sm, hp, hp_mul l m x]; grind
noncomputable def Pol (f : Rat → Rat) : Prop := ∃ l, ∀ x, f x = hp l x
theorem Pol.add {f g : Rat → Rat} (hf : Pol f) (hg : Pol g) : Pol fun x => f x + g x :=
  let ⟨l, h⟩ := hf; let ⟨m, k⟩ := hg; ⟨addL l m, fun x => by rw [hp_add, ← h, ← k]⟩
theorem Pol.mul {f g : Rat → Rat} (hf : Pol f) (hg : Pol g) : Pol fun x => f x * g x :=
  let ⟨l, h⟩ := hf; let ⟨m, k⟩ := hg; ⟨mulL l m, fun x => by rw [hp_mul, ← h, ← k]⟩
theorem Pol.con (c : Rat) : Pol fun _ => c := ⟨[c], fun x => by simp [hp]; grind⟩
theorem Pol.id : Pol fun x => x := ⟨[0, 1], fun x => by simp [hp]; grind⟩
theorem Pol.sub {f g : Rat → Rat} (hf : Pol f) (hg : Pol g) : Pol fun x => f x - g x := by
  obtain ⟨l, h⟩ := hf.add ((Pol.con (-1)).mul hg)
  exact ⟨l, fun x => by rw [← h]; grind⟩
theorem Pol.congr {f g : Rat → Rat} (hf : Pol f) (h : ∀ x, g x = f x) : Pol g := by
  obtain ⟨l, k⟩ := hf; exact ⟨l, fun x => by rw [h, k]⟩
/-- bounded and with bounded growth on [-4, 4] -/
noncomputable def Nice (f : Rat → Rat) : Prop := ∃ L : Rat, 0 ≤ L ∧ (∀ x, -4 ≤ x → x ≤ 4 → -L ≤ f x ∧ f x ≤ L) ∧ ∀ x y, -4 ≤ x → x ≤ y → y ≤ 4 → -(L * (y - x)) ≤ f y - f x ∧ f y - f x ≤ L * (y - x)
theorem hp_nice : ∀ l, Nice (hp l)
  | [] => ⟨0, by grind, fun x _ _ => by simp [hp], fun x y _ _ _ => by simp [hp]; grind⟩
  | a :: l => by
    obtain ⟨L, h0, h1, h2⟩ := hp_nice l
    refine ⟨(if 0 ≤ a then a else -a) + 5 * L, by split <;> grind, fun x hx hy => ?_, fun x y hx hxy hy => ?_⟩
    · have := mul_bd hx hy (h1 x hx hy).1 (h1 x hx hy).2
      simp only [hp]
      split <;> grind
    · simp only [hp]
      have k1 := mul_bd (a := x) (b := hp l y - hp l x) (A := 4) (B := L * (y - x)) (by grind) (by grind) (h2 x y hx hxy hy).1 (h2 x y hx hxy hy).2
      have k2 := mul_bd (a := y - x) (b := hp l y) (A := y - x) (B := L) (by grind) (by grind) (h1 y (by grind) hy).1 (h1 y (by grind) hy).2
      have k3 : 0 ≤ (y - x) * (if 0 ≤ a then a else -a) := Rat.mul_nonneg (by grind) (by split <;> grind)
      grind
theorem Pol.nice {f : Rat → Rat} (h : Pol f) : Nice f := by
  obtain ⟨l, h⟩ := h
  obtain ⟨L, h0, h1, h2⟩ := hp_nice l
  exact ⟨L, h0, fun x a b => by rw [h]; exact h1 x a b, fun x y a b c => by rw [h, h]; exact h2 x y a b c⟩
/-- the factor theorem -/
theorem hp_factor (r : Rat) : ∀ l, ∃ m, ∀ x, hp l x - hp l r = (x - r) * hp m x
  | [] => ⟨[], fun x => by simp [hp]; grind⟩
  | a :: l => by
    obtain ⟨m, h⟩ := hp_factor r l
    refine ⟨addL l (smL r m), fun x => ?_⟩
    have := h x
    rw [hp_add, hp_sm]
    simp only [hp]
    grind
theorem Pol.factor {f : Rat → Rat} (h : Pol f) {r : Rat} (hr : f r = 0) : ∃ g, Pol g ∧ ∀ x, f x = (x - r) * g x := by
  obtain ⟨l, h⟩ := h
  obtain ⟨m, k⟩ := hp_factor r l
  refine ⟨hp m, ⟨m, fun _ => rfl⟩, fun x => ?_⟩
  have := k x
  rw [h, ← this, ← h r, hr]; grind
/-- what is nought but at nought is nought there too -/
theorem hp_zero0 {l : List Rat} (h : ∀ x, x ≠ 0 → hp l x = 0) : hp l 0 = 0 := by
  obtain ⟨L, h0, h1, h2⟩ := hp_nice l
  refine Classical.byContradiction fun hne => ?_
  by_cases hp0 : 0 < hp l 0
  · have z := h2 0 (hp l 0 / (hp l 0 + L + 1)) (by grind) ?_ ?_
    · rw [h (hp l 0 / (hp l 0 + L + 1)) (by grind)] at z
      have e : L * (hp l 0 / (hp l 0 + L + 1) - 0) = hp l 0 - hp l 0 * ((hp l 0 + 1) / (hp l 0 + L + 1)) := by grind
      have : 0 < (hp l 0 + 1) / (hp l 0 + L + 1) := by
        rw [Rat.div_def]; exact Rat.mul_pos (by grind) (Rat.inv_pos.mpr (by grind))
      have := Rat.mul_pos hp0 this
      grind
    · rw [Rat.div_def]; exact Rat.mul_nonneg (by grind) (Rat.le_of_lt (Rat.inv_pos.mpr (by grind)))
    · have : 0 < (hp l 0 + L + 1)⁻¹ := Rat.inv_pos.mpr (by grind)
      have := Rat.mul_nonneg (a := L + 1) (b := (hp l 0 + L + 1)⁻¹) (by grind) (by grind)
      grind
  · have z := h2 0 (-hp l 0 / (-hp l 0 + L + 1)) (by grind) ?_ ?_
    · rw [h (-hp l 0 / (-hp l 0 + L + 1)) (by grind)] at z
      have e : L * (-hp l 0 / (-hp l 0 + L + 1) - 0) = -hp l 0 - -hp l 0 * ((-hp l 0 + 1) / (-hp l 0 + L + 1)) := by grind
      have : 0 < (-hp l 0 + 1) / (-hp l 0 + L + 1) := by
        rw [Rat.div_def]; exact Rat.mul_pos (by grind) (Rat.inv_pos.mpr (by grind))
      have := Rat.mul_pos (a := -hp l 0) (by grind) this
      grind
    · rw [Rat.div_def]; exact Rat.mul_nonneg (by grind) (Rat.le_of_lt (Rat.inv_pos.mpr (by grind)))
    · have : 0 < (-hp l 0 + L + 1)⁻¹ := Rat.inv_pos.mpr (by grind)
      have := Rat.mul_nonneg (a := L + 1) (b := (-hp l 0 + L + 1)⁻¹) (by grind) (by grind)
      grind
noncomputable def co (l : List Rat) (k : Nat) : Rat := l.getD k 0
theorem hp_coZ : ∀ (l : List Rat), (∀ x, x ≠ 0 → hp l x = 0) → ∀ k, co l k = 0
  | [], _, k => by simp [co]
  | a :: l, h, k => by
    have h0 := hp_zero0 h
    have ha : a = 0 := by rw [hp] at h0; grind
    cases k with
    | zero => simpa [co] using ha
    | succ k =>
      have : co (a :: l) (k + 1) = co l k := by simp [co]
      rw [this]
      refine hp_coZ l (fun x hx => ?_) k
      have := h x hx
      simp only [hp] at this
      grind
theorem co_add : ∀ (l m : List Rat) (k : Nat), co (addL l m) k = co l k + co m k
  | [], m, k => by simp [addL, co]; grind
  | a :: l, [], k => by simp [addL, co]; grind
  | a :: l, b :: m, 0 => by simp [addL, co]
  | a :: l, b :: m, k + 1 => by
    have := co_add l m k
    simpa [addL, co] using this
theorem co_sm (c : Rat) : ∀ (l : List Rat) (k : Nat), co (smL c l) k = c * co l k
  | [], k => by simp [smL, co]
  | a :: l, 0 => by simp [smL, co]
  | a :: l, k + 1 => by have := co_sm c l k; simpa [smL, co] using this
/-- equal worths, equal coefficients -/
theorem hp_co {l m : List Rat} (h : ∀ x, x ≠ 0 → hp l x = hp m x) (k : Nat) : co l k = co m k := by
  have := hp_coZ (addL l (smL (-1) m)) (fun x hx => by rw [hp_add, hp_sm, h x hx]; grind) k
  rw [co_add, co_sm] at this
  grind
theorem co_cons0 (a : Rat) (l : List Rat) : co (a :: l) 0 = a := by simp [co]
theorem co_cons (a : Rat) (l : List Rat) (k : Nat) : co (a :: l) (k + 1) = co l k := by simp [co]
theorem co_nil (k : Nat) : co [] k = 0 := by simp [co]
theorem hp_of_co : ∀ (l : List Rat), (∀ k, co l k = 0) → ∀ x, hp l x = 0
  | [], _, x => rfl
  | a :: l, h, x => by
    have h0 := h 0
    rw [co_cons0] at h0
    rw [hp, hp_of_co l (fun k => by rw [← co_cons a]; exact h _) x, h0]; grind
theorem Pol.eq_all {f g : Rat → Rat} (hf : Pol f) (hg : Pol g) (r : Rat) (h : ∀ x, x ≠ r → f x = g x) : ∀ x, f x = g x := by
  -- shift to nought
  have sh : Pol fun x => f (x + r) - g (x + r) := by
    have cmp : ∀ {f : Rat → Rat}, Pol f → Pol fun x => f (x + r) := fun {f} hf => by
      obtain ⟨l, h⟩ := hf
      have : ∀ l, Pol fun x => hp l (x + r) := fun l => by
        induction l with
        | nil => exact ⟨[], fun x => rfl⟩
        | cons a l ih => exact ((Pol.con a).add ((Pol.id.add (Pol.con r)).mul ih)).congr fun x => rfl
      exact (this l).congr fun x => h _
    exact (cmp hf).sub (cmp hg)
  obtain ⟨l, k⟩ := sh
  have z := hp_coZ l fun x hx => by rw [← k]; have := h (x + r) (by grind); show f (x + r) - g (x + r) = 0; rw [this]; grind
  intro x
  have := k (x - r)
  rw [hp_of_co l z] at this
  have this : f (x - r + r) - g (x - r + r) = 0 := this
  rw [show x - r + r = x by grind] at this
  grind
theorem co_mul_top : ∀ (l m : List Rat) (n k : Nat), (∀ i, n < i → co l i = 0) → (∀ i, k < i → co m i = 0) → co (mulL l m) (n + k) = co l n * co m k ∧ ∀ i, n + k < i → co (mulL l m) i = 0
  | [], m, n, k, _, _ => by simp [mulL, co_nil]
  | a :: l, m, 0, k, hl, hm => by
    have hz : ∀ i, co l i = 0 := fun i => by rw [← co_cons a]; exact hl _ (by omega)
    have hz2 : ∀ i, co (mulL l m) i = 0 := fun i => hp_coZ _ (fun x _ => by rw [hp_mul, hp_of_co l hz]; grind) i
    have hz3 : ∀ i, co (0 :: mulL l m) i = 0 := fun i => by cases i with
      | zero => exact co_cons0 _ _
      | succ i => rw [co_cons]; exact hz2 i
    refine ⟨?_, fun i hi => ?_⟩
    · rw [mulL, co_add, co_sm, hz3, co_cons0, Nat.zero_add]; grind
    · rw [mulL, co_add, co_sm, hz3, hm i (by omega)]; grind
  | a :: l, m, n + 1, k, hl, hm => by
    obtain ⟨h1, h2⟩ := co_mul_top l m n k (fun i hi => by rw [← co_cons a]; exact hl _ (by omega)) hm
    refine ⟨?_, fun i hi => ?_⟩
    · rw [mulL, co_add, co_sm, hm _ (by omega), show n + 1 + k = (n + k) + 1 by omega, co_cons, co_cons, h1]; grind
    · obtain ⟨j, rfl⟩ : ∃ j, i = j + 1 := ⟨i - 1, by omega⟩
      rw [mulL, co_add, co_sm, hm _ (by omega), co_cons, h2 _ (by omega)]; grind
/-- the degree and the highest coefficient -/
noncomputable def Dg (f : Rat → Rat) (n : Nat) (a : Rat) : Prop := ∃ l, (∀ x, f x = hp l x) ∧ co l n = a ∧ ∀ i, n < i → co l i = 0
theorem Dg.mul {f g : Rat → Rat} {n k : Nat} {a b : Rat} (hf : Dg f n a) (hg : Dg g k b) : Dg (fun x => f x * g x) (n + k) (a * b) := by
  obtain ⟨l, h1, h2, h3⟩ := hf
  obtain ⟨m, k1, k2, k3⟩ := hg
  obtain ⟨z1, z2⟩ := co_mul_top l m n k h3 k3
  exact ⟨mulL l m, fun x => by rw [hp_mul, ← h1, ← k1], by rw [z1, h2, k2], z2⟩
theorem Dg.uniq {f g : Rat → Rat} {n k : Nat} {a b : Rat} (hf : Dg f n a) (hg : Dg g k b) (h : ∀ x, f x = g x) (ha : a ≠ 0) (hb : b ≠ 0) : n = k ∧ a = b := by
  obtain ⟨l, h1, h2, h3⟩ := hf
  obtain ⟨m, k1, k2, k3⟩ := hg
  have e : ∀ i, co l i = co m i := hp_co fun x _ => by rw [← h1, ← k1, h]
  have : n = k := by
    rcases Nat.lt_trichotomy n k with z | z | z
    · have := h3 k z; rw [e, k2] at this; exact absurd this hb
    · exact z
    · have := k3 n z; rw [← e, h2] at this; exact absurd this ha
  subst this
  exact ⟨rfl, by rw [← h2, ← k2, e]⟩
theorem Pol.dg {f : Rat → Rat} (hf : Pol f) (h : ∃ x, f x ≠ 0) : ∃ n a, a ≠ 0 ∧ Dg f n a := by
  obtain ⟨l, hl⟩ := hf
  have key : ∀ n, (∀ i, n ≤ i → co l i = 0) → ∃ n a, a ≠ 0 ∧ Dg f n a := by
    intro n
    induction n with
    | zero =>
      intro z
      obtain ⟨x, hx⟩ := h
      exact absurd (by rw [hl, hp_of_co l fun k => z k (by omega)]) hx
    | succ n ih =>
      intro z
      by_cases hn : co l n = 0
      · exact ih fun i hi => by
          by_cases e : i = n
          · rw [e]; exact hn
          · exact z i (by omega)
      · exact ⟨n, co l n, hn, l, hl, rfl, fun i hi => z i (by omega)⟩
  exact key l.length fun i hi => by simp [co, List.getD_eq_getElem?_getD, List.getElem?_eq_none hi]
theorem Dg.zero {f : Rat → Rat} {a : Rat} (h : Dg f 0 a) (x : Rat) : f x = a := by
  obtain ⟨l, h1, h2, h3⟩ := h
  rw [h1]
  cases l with
  | nil => rw [← h2]; rfl
  | cons b l =>
    rw [co_cons0] at h2
    rw [hp, hp_of_co l fun k => by rw [← co_cons b]; exact h3 _ (by omega), h2]; grind
theorem Dg.one {f : Rat → Rat} {a : Rat} (h : Dg f 1 a) : ∃ b, ∀ x, f x = a * x + b := by
  obtain ⟨l, h1, h2, h3⟩ := h
  match l with
  | [] => exact ⟨0, fun x => by rw [h1, hp, ← h2, co_nil]; grind⟩
  | b :: l =>
    rw [co_cons] at h2
    have : Dg (hp l) 0 a := ⟨l, fun _ => rfl, h2, fun i hi => by rw [← co_cons b]; exact h3 _ (by omega)⟩
    exact ⟨b, fun x => by rw [h1, hp, this.zero]; grind⟩
/-- changes of sign behind a number that isn't nought, noughts passed over -/
noncomputable def vr : Rat → List Rat → Nat
  | _, [] => 0
  | a, b :: l => if b = 0 then vr a l else (if a * b < 0 then 1 else 0) + vr b l
noncomputable def hdF : List (Rat → Rat) → Rat → Rat
  | [], _ => 0
  | g :: _, x => g x
noncomputable def at_ (l : List (Rat → Rat)) (x : Rat) : List Rat := l.map (· x)
inductive Ch : List (Rat → Rat) → Prop
  | one {g : Rat → Rat} : (∀ x, g x = 1) → Ch [g]
  | step {g g1 q : Rat → Rat} {l : List (Rat → Rat)} {C : Rat} : Ch (g1 :: l) → Pol q → 0 < C → (∀ x, C * g x = q x * g1 x - hdF l x) → Ch (g :: g1 :: l)
theorem hdF_pol {l : List (Rat → Rat)} (h : ∀ g ∈ l, Pol g) : Pol (hdF l) := by
  cases l with
  | nil => exact (Pol.con 0).congr fun x => rfl
  | cons g l => exact (h g List.mem_cons_self).congr fun x => rfl
theorem Ch.pol {l : List (Rat → Rat)} (h : Ch l) : ∀ g ∈ l, Pol g := by
  induction h with
  | one e => intro g hg; obtain rfl := List.mem_singleton.mp hg; exact (Pol.con 1).congr e
  | step h1 hq hC e ih =>
    rename_i g g1 q l C
    intro f hf
    rcases List.mem_cons.mp hf with rfl | hf
    · refine ((Pol.con C⁻¹).mul ((hq.mul (ih g1 List.mem_cons_self)).sub (hdF_pol fun k hk => ih k (List.mem_cons_of_mem _ hk)))).congr fun x => ?_
      have := e x
      grind
    · exact ih f hf
theorem rat_tri (a b : Rat) : a < b ∨ a = b ∨ b < a := by grind
theorem vr_skip {a b c : Rat} (h : a * c < 0) (l : List Rat) : vr a (b :: c :: l) = 1 + vr c l := by
  have hc : c ≠ 0 := fun z => by rw [z] at h; grind
  by_cases hb : b = 0
  · simp only [vr]; rw [if_pos hb, if_neg hc, if_pos h]
  · simp only [vr]
    rw [if_neg hb, if_neg hc, ← Nat.add_assoc]
    congr 1
    have hb2 : 0 < b * b := by
      rcases rat_tri b 0 with z | z | z
      · have := Rat.mul_pos (a := -b) (b := -b) (by grind) (by grind); grind
      · exact absurd z hb
      · exact Rat.mul_pos z z
    have hm : (a * b) * (b * c) < 0 := by
      have := Rat.mul_pos (a := -(a * c)) (b := b * b) (by grind) hb2
      grind
    by_cases h1 : a * b < 0
    · rw [if_pos h1, if_neg]
      intro h2
      have := Rat.mul_pos (a := -(a * b)) (b := -(b * c)) (by grind) (by grind)
      grind
    · rw [if_neg h1, if_pos]
      refine Classical.byContradiction fun h2 => ?_
      have := Rat.mul_nonneg (a := a * b) (b := b * c) (by grind) (by grind)
      grind
theorem div_pos' {a b : Rat} (ha : 0 < a) (hb : 0 < b) : 0 < a / b := by
  rw [Rat.div_def]; exact Rat.mul_pos ha (Rat.inv_pos.mpr hb)
theorem small {d L : Rat} (hd : 0 < d) (hL : 0 ≤ L) : ∃ w : Rat, 0 < w ∧ w * (L + 1) = d := by
  have h1 : (0:Rat) < L + 1 := by grind
  refine ⟨d / (L + 1), div_pos' hd h1, by grind⟩
/-- two neighbours are not both small -/
theorem Ch.nbr {l : List (Rat → Rat)} (h : Ch l) : ∀ g g1 r, l = g :: g1 :: r → ∃ d : Rat, 0 < d ∧ ∀ x, -4 ≤ x → x ≤ 4 → -d ≤ g x → g x ≤ d → -d ≤ g1 x → g1 x ≤ d → False := by
  induction h with
  | one e => intro g g1 r h; cases h
  | step h1 hq hC e ih =>
    rename_i g g1 q l C
    intro g' g1' r hl
    injection hl with e1 hl; injection hl with e2 e3
    subst e1 e2 e3
    cases l with
    | nil =>
      cases h1 with
      | one e1 => exact ⟨1/2, by grind, fun x _ _ _ _ a b => by rw [e1] at b; grind⟩
    | cons g2 l =>
      obtain ⟨d, hd, k⟩ := ih g1 g2 l rfl
      obtain ⟨L, h0, b1, b2⟩ := hq.nice
      obtain ⟨w, hw, hwd⟩ := small (L := L + C) hd (by clear b1 b2 k e ih; grind)
      refine ⟨w, hw, fun x hx hx' a1 a2 a3 a4 => ?_⟩
      have p1 := Rat.mul_nonneg (Rat.le_of_lt hw) h0
      have p2 := Rat.mul_pos hw hC
      have z := mul_bd (b1 x hx hx').1 (b1 x hx hx').2 a3 a4
      have z2 := mul_bd (a := C) (A := C) (by clear k b1 b2 e ih; grind) (Rat.le_refl) a1 a2
      have := e x
      have k := k x hx hx'
      simp only [hdF] at this
      clear b1 b2 e ih
      generalize q x * g1 x = P at *
      generalize C * g x = Q at *
      have hwd : w * L + w * C + w = d := by grind
      rw [show L * w = w * L by grind] at z
      rw [show C * w = w * C by grind] at z2
      generalize w * L = R at *
      generalize w * C = T at *
      exact k (by grind) (by grind) (by grind) (by grind)
theorem opp {C g q g1 g2 d P : Rat} (hC : 0 < C) (e : C * g = q * g1 - g2) (h1 : -P ≤ q * g1) (h2 : q * g1 ≤ P) (h3 : P ≤ d) (h4 : d < g2 ∨ g2 < -d) : g * g2 < 0 := by
  generalize q * g1 = R at *
  rcases h4 with h4 | h4
  · have hg : g < 0 := by
      refine Classical.byContradiction fun z => ?_
      have := Rat.mul_nonneg (Rat.le_of_lt hC) (b := g) (by grind)
      grind
    have := Rat.mul_pos (a := -g) (b := g2) (by grind) (by grind)
    grind
  · have hg : 0 < g := by
      refine Classical.byContradiction fun z => ?_
      have := Rat.mul_nonneg (Rat.le_of_lt hC) (b := -g) (by grind)
      grind
    have := Rat.mul_pos (a := g) (b := -g2) (by grind) (by grind)
    grind
noncomputable def V (l : List (Rat → Rat)) (x : Rat) : Nat := vr (hdF l x) (at_ l.tail x)
noncomputable def Same (l : List (Rat → Rat)) (e : Rat) : Prop := ∀ x y, -4 ≤ x → x ≤ y → y ≤ 4 → y - x ≤ e → 0 < hdF l x * hdF l y → V l x = V l y
theorem pos_sq {a : Rat} (h : a ≠ 0) : 0 < a * a := by
  rcases rat_tri a 0 with z | z | z
  · have := Rat.mul_pos (a := -a) (b := -a) (by grind) (by grind); grind
  · exact absurd z h
  · exact Rat.mul_pos z z
theorem pos_cases {a b : Rat} (h : 0 < a * b) : (0 < a ∧ 0 < b) ∨ (a < 0 ∧ b < 0) := by
  rcases rat_tri a 0 with z | z | z
  · refine .inr ⟨z, ?_⟩
    refine Classical.byContradiction fun h2 => ?_
    have := Rat.mul_nonneg (a := -a) (b := b) (by grind) (by grind); grind
  · subst z; grind
  · refine .inl ⟨z, ?_⟩
    refine Classical.byContradiction fun h2 => ?_
    have := Rat.mul_nonneg (a := a) (b := -b) (by grind) (by grind); grind
theorem neg_cases {a b : Rat} (h : a * b < 0) : (0 < a ∧ b < 0) ∨ (a < 0 ∧ 0 < b) := by
  have := pos_cases (a := a) (b := -b) (by grind)
  grind
theorem le_cases {a b : Rat} (h : ¬ 0 < a * b) : (0 ≤ a ∧ b ≤ 0) ∨ (a ≤ 0 ∧ 0 ≤ b) := by
  rcases rat_tri a 0 with z | z | z
  · refine .inr ⟨by grind, ?_⟩
    refine Classical.byContradiction fun h2 => h ?_
    have := Rat.mul_pos (a := -a) (b := -b) (by grind) (by grind); grind
  · by_cases hb : 0 ≤ b
    · exact .inr ⟨by grind, hb⟩
    · exact .inl ⟨by grind, by grind⟩
  · refine .inl ⟨by grind, ?_⟩
    refine Classical.byContradiction fun h2 => h ?_
    exact Rat.mul_pos z (by grind)
theorem mul_pos_of {a b : Rat} (h : (0 < a ∧ 0 < b) ∨ (a < 0 ∧ b < 0)) : 0 < a * b := by
  rcases h with ⟨h1, h2⟩ | ⟨h1, h2⟩
  · exact Rat.mul_pos h1 h2
  · have := Rat.mul_pos (a := -a) (b := -b) (by grind) (by grind); grind
theorem mul_neg_of {a b : Rat} (h : (0 < a ∧ b < 0) ∨ (a < 0 ∧ 0 < b)) : a * b < 0 := by
  have := mul_pos_of (a := a) (b := -b) (by grind); grind
/-- the pair's change, when the tail's head keeps its sign -/
theorem V_cons (g g1 : Rat → Rat) (l : List (Rat → Rat)) {x : Rat} (h : g1 x ≠ 0) : V (g :: g1 :: l) x = (if g x * g1 x < 0 then 1 else 0) + V (g1 :: l) x := by
  show vr (g x) (g1 x :: at_ l x) = _
  rw [vr, if_neg h]; rfl
theorem Ch.same {l : List (Rat → Rat)} (h : Ch l) : (∃ e, 0 < e ∧ Same l e) ∧ ∃ e, 0 < e ∧ Same l.tail e := by
  induction h with
  | one e =>
    exact ⟨⟨1, by grind, fun x y _ _ _ _ _ => rfl⟩, ⟨1, by grind, fun x y _ _ _ _ _ => rfl⟩⟩
  | step h1 hq hC e ih =>
    rename_i g g1 q l C
    obtain ⟨⟨e1, he1, s1⟩, ⟨e2, he2, s2⟩⟩ := ih
    refine ⟨?_, e1, he1, s1⟩
    have hp1 := h1.pol g1 List.mem_cons_self
    cases l with
    | nil =>
      cases h1 with
      | one k =>
        refine ⟨e1, he1, fun x y a b c d f => ?_⟩
        have k1 : g1 x ≠ 0 := by rw [k]; grind
        have k2 : g1 y ≠ 0 := by rw [k]; grind
        rw [V_cons g g1 [] k1, V_cons g g1 [] k2, k, k, s1 x y a b c d (by simp only [hdF, k]; grind)]
        simp only [hdF] at f
        have := pos_cases f
        congr 1
        by_cases z : g x * 1 < 0
        · rw [if_pos z, if_pos (by grind)]
        · rw [if_neg z, if_neg (by grind)]
    | cons g2 l =>
      have hp2 := h1.pol g2 (by simp)
      obtain ⟨d, hd, k⟩ := h1.nbr g1 g2 l rfl
      obtain ⟨Lq, q0, q1, _⟩ := hq.nice
      obtain ⟨L1, l0, _, l1⟩ := hp1.nice
      obtain ⟨L2, m0, _, m1⟩ := hp2.nice
      -- the width of a step
      obtain ⟨w, w0, w1, w2, wd⟩ : ∃ w : Rat, 0 < w ∧ w ≤ e1 ∧ w ≤ e2 ∧ w * (L1 + L2 + L1 * Lq + 1) ≤ d := by
        have n1 := Rat.mul_nonneg l0 q0
        have z0 := div_pos' hd (b := L1 + L2 + L1 * Lq + 1) (by grind)
        have ze : d / (L1 + L2 + L1 * Lq + 1) * (L1 + L2 + L1 * Lq + 1) = d := by grind
        generalize hM : L1 + L2 + L1 * Lq + 1 = M at *
        generalize d / M = t at *
        have hM0 : 0 ≤ M := by grind
        refine ⟨if e1 ≤ e2 then (if e1 ≤ t then e1 else t) else (if e2 ≤ t then e2 else t), ?_, ?_, ?_, ?_⟩
        · split <;> split <;> assumption
        · split <;> split <;> grind
        · split <;> split <;> grind
        · have : (if e1 ≤ e2 then (if e1 ≤ t then e1 else t) else (if e2 ≤ t then e2 else t)) ≤ t := by split <;> split <;> grind
          generalize (if e1 ≤ e2 then (if e1 ≤ t then e1 else t) else (if e2 ≤ t then e2 else t)) = v at *
          have := Rat.mul_nonneg (a := t - v) (b := M) (by grind) hM0
          grind
      refine ⟨w, w0, fun x y a b c dd f => ?_⟩
      simp only [hdF] at f
      by_cases hg : 0 < g1 x * g1 y
      · have k1 : g1 x ≠ 0 := by intro z; rw [z] at hg; grind
        have k2 : g1 y ≠ 0 := by intro z; rw [z] at hg; grind
        rw [V_cons g g1 _ k1, V_cons g g1 _ k2, s1 x y a b c (by grind) hg]
        congr 1
        have c1 := pos_cases f
        have c2 := pos_cases hg
        by_cases z : g x * g1 x < 0
        · have := neg_cases z
          rw [if_pos z, if_pos (mul_neg_of (by grind))]
        · rw [if_neg z, if_neg]
          intro z2
          have := neg_cases z2
          exact z (mul_neg_of (by grind))
      · have cs := le_cases hg
        have lx := l1 x y a b c
        have ly := m1 x y a b c
        have t1 := Rat.mul_nonneg (a := w - (y - x)) (b := L1) (by grind) l0
        have t2 := Rat.mul_nonneg (a := w - (y - x)) (b := L2) (by grind) m0
        have t3 := Rat.mul_nonneg (a := w - (y - x)) (b := L1 * Lq) (by grind) (Rat.mul_nonneg l0 q0)
        have p1 := Rat.mul_nonneg (Rat.le_of_lt w0) l0
        have p2 := Rat.mul_nonneg (Rat.le_of_lt w0) m0
        have p3 := Rat.mul_nonneg (Rat.le_of_lt w0) (Rat.mul_nonneg l0 q0)
        have sx : -(w * L1) ≤ g1 x ∧ g1 x ≤ w * L1 := by grind
        have sy : -(w * L1) ≤ g1 y ∧ g1 y ≤ w * L1 := by grind
        have bx := fun h1 h2 => k x a (by grind) (by grind) (by grind) h1 h2
        have by' := fun h1 h2 => k y (by grind) c (by grind) (by grind) h1 h2
        have gx : d < g2 x ∨ g2 x < -d := by
          refine Classical.byContradiction fun z => bx (by grind) (by grind)
        have gy : d < g2 y ∨ g2 y < -d := by
          refine Classical.byContradiction fun z => by' (by grind) (by grind)
        have hs : 0 < g2 x * g2 y := mul_pos_of (by grind)
        have ex := e x
        have ey := e y
        simp only [hdF] at ex ey
        have qx := mul_bd (q1 x a (by grind)).1 (q1 x a (by grind)).2 sx.1 sx.2
        have qy := mul_bd (q1 y (by grind) c).1 (q1 y (by grind) c).2 sy.1 sy.2
        have hP : Lq * (w * L1) ≤ d := by clear sx sy bx by' gx gy qx qy ex ey lx ly t1 t2 t3 q1 l1 m1 s1 s2 k e cs; grind
        have nx : g x * g2 x < 0 := opp hC ex qx.1 qx.2 hP gx
        have ny : g y * g2 y < 0 := opp hC ey qy.1 qy.2 hP gy
        show vr (g x) (g1 x :: g2 x :: at_ l x) = vr (g y) (g1 y :: g2 y :: at_ l y)
        rw [vr_skip nx, vr_skip ny]
        have := s2 x y a b c (by grind) hs
        exact congrArg (1 + ·) this
theorem Same.walk {l : List (Rat → Rat)} {e : Rat} (h : Same l e) (he : 0 < e) : ∀ (n : Nat) (a b : Rat), -4 ≤ a → a ≤ b → b ≤ 4 → b - a ≤ n * e → (∀ x y, a ≤ x → x ≤ b → a ≤ y → y ≤ b → 0 < hdF l x * hdF l y) → V l a = V l b
  | 0, a, b, h1, h2, h3, h4, h5 => by
    have : a = b := by
      have e0 : ((0 : Nat) : Rat) * e = 0 := by grind
      rw [e0] at h4; grind
    rw [this]
  | n + 1, a, b, h1, h2, h3, h4, h5 => by
    by_cases hb : b - a ≤ e
    · exact h a b h1 h2 h3 hb (h5 a b (by grind) h2 h2 (by grind))
    · have h6 : (((n + 1 : Nat) : Rat)) * e = n * e + e := by rw [Rat.natCast_add]; grind
      rw [h6] at h4
      have h7 : a + e ≤ b := by grind
      rw [h a (a + e) h1 (by grind) (by grind) (by grind) (h5 a (a + e) (by grind) h2 (by grind) h7)]
      exact Same.walk h he n (a + e) b (by grind) h7 h3 (by grind) fun x y z1 z2 z3 z4 => h5 x y (by grind) z2 (by grind) z4
theorem arch {e : Rat} (he : 0 < e) (d : Rat) : ∃ n : Nat, d ≤ n * e := by
  have h1 := Rat.le_ceil (x := d / e)
  have h2 : ((d / e).ceil : Rat) ≤ ((d / e).ceil.toNat : Rat) := by
    have : (d / e).ceil ≤ (((d / e).ceil.toNat : Nat) : Int) := Int.self_le_toNat _
    exact Rat.intCast_le_intCast.mpr this
  refine ⟨(d / e).ceil.toNat, ?_⟩
  have h3 : d / e ≤ ((d / e).ceil.toNat : Rat) := Rat.le_trans h1 h2
  generalize (((d / e).ceil.toNat : Nat) : Rat) = N at *
  have h4 := Rat.mul_nonneg (a := N - d / e) (b := e) (by grind) (by grind)
  have h5 : d / e * e = d := by grind
  have h6 : (N - d / e) * e = N * e - d / e * e := by grind
  rw [h6, h5] at h4
  grind
theorem Ch.flat {l : List (Rat → Rat)} (h : Ch l) {a b : Rat} (h1 : -4 ≤ a) (h2 : a ≤ b) (h3 : b ≤ 4) (h5 : ∀ x y, a ≤ x → x ≤ b → a ≤ y → y ≤ b → 0 < hdF l x * hdF l y) : V l a = V l b := by
  obtain ⟨⟨e, he, s⟩, _⟩ := h.same
  obtain ⟨n, hn⟩ := arch he (b - a)
  exact s.walk he n a b h1 h2 h3 hn h5
theorem Ch.cross {g g1 : Rat → Rat} {l : List (Rat → Rat)} (h : Ch (g :: g1 :: l)) : ∃ e : Rat, 0 < e ∧ ∀ x y, -4 ≤ x → x ≤ y → y ≤ 4 → y - x ≤ e → g x * g1 x < 0 → 0 < g y * g1 y → g x * g y < 0 → V (g :: g1 :: l) x = V (g :: g1 :: l) y + 1 := by
  obtain ⟨_, e, he, s⟩ := h.same
  obtain ⟨d, hd, k⟩ := h.nbr g g1 l rfl
  obtain ⟨L, l0, _, l1⟩ := (h.pol g (by simp)).nice
  obtain ⟨w, w0, wd⟩ := small hd l0
  refine ⟨if e ≤ w then e else w, by split <;> assumption, fun x y a b c dd n1 n2 n3 => ?_⟩
  have hge : y - x ≤ e := by grind
  have hgw : y - x ≤ w := by grind
  have t1 := Rat.mul_nonneg (a := w - (y - x)) (b := L) (by grind) l0
  have lx := l1 x y a b c
  have cs := neg_cases n3
  have c1 := neg_cases n1
  have c2 := pos_cases n2
  have gx : 0 < g1 x * g1 y := mul_pos_of (by clear lx t1 wd k l1 s; grind)
  have k1 : g1 x ≠ 0 := by intro z; rw [z] at gx; grind
  have k2 : g1 y ≠ 0 := by intro z; rw [z] at gx; grind
  rw [V_cons g g1 l k1, V_cons g g1 l k2, if_pos n1, if_neg (by grind)]
  have := s x y a b c hge gx
  simp only [List.tail_cons] at this
  rw [this]; omega
theorem near {H : Rat → Rat} (h : Pol H) {r : Rat} (h1 : -4 < r) (h2 : r < 4) (hr : 0 < H r) : ∃ w : Rat, 0 < w ∧ -4 ≤ r - w ∧ r + w ≤ 4 ∧ ∀ x, r - w ≤ x → x ≤ r + w → 0 < H x := by
  obtain ⟨L, l0, _, l1⟩ := h.nice
  obtain ⟨w, w0, wd⟩ := small hr l0
  have hv : ∃ v : Rat, 0 < v ∧ v ≤ w ∧ v ≤ r + 4 ∧ v ≤ 4 - r := by
    refine ⟨if w ≤ r + 4 then (if w ≤ 4 - r then w else 4 - r) else (if r + 4 ≤ 4 - r then r + 4 else 4 - r), ?_, ?_, ?_, ?_⟩
    all_goals split <;> split <;> grind
  obtain ⟨v, v0, v1, v2, v3⟩ := hv
  refine ⟨v, v0, by grind, by grind, fun x a b => ?_⟩
  have t1 := Rat.mul_nonneg (a := w - v) (b := L) (by grind) l0
  by_cases hx : x ≤ r
  · have z := l1 x r (by grind) hx (by grind)
    have t2 := Rat.mul_nonneg (a := v - (r - x)) (b := L) (by grind) l0
    grind
  · have z := l1 r x (by grind) (by grind) (by grind)
    have t2 := Rat.mul_nonneg (a := v - (x - r)) (b := L) (by grind) l0
    grind
theorem Ch.jump {g g1 H : Rat → Rat} {l : List (Rat → Rat)} {K : Rat} (h : Ch (g :: g1 :: l)) {a b r : Rat} (h1 : -4 ≤ a) (h2 : a < r) (h3 : r < b) (h4 : b ≤ 4) (hH : Pol H) (hr : 0 < H r) (hK : 0 < K) (e : ∀ x, K * (g x * g1 x) = (x - r) * H x)
    (lo : ∀ x y, a ≤ x → x < r → a ≤ y → y < r → 0 < g x * g y) (hi : ∀ x y, r < x → x ≤ b → r < y → y ≤ b → 0 < g x * g y) (mid : ∀ x y, a ≤ x → x < r → r < y → y ≤ b → g x * g y < 0) : V (g :: g1 :: l) a = V (g :: g1 :: l) b + 1 := by
  obtain ⟨w, w0, _, _, w1⟩ := near hH (r := r) (by grind) (by grind) hr
  obtain ⟨e1, e0, c⟩ := h.cross
  obtain ⟨v, v0, v1, v2, v3, v4⟩ : ∃ v : Rat, 0 < v ∧ v ≤ w ∧ v + v ≤ e1 ∧ v ≤ r - a ∧ v ≤ b - r := by
    have hh : 0 < e1 / 2 := by grind
    have key : ∀ p q : Rat, 0 < p → 0 < q → ∃ v, 0 < v ∧ v ≤ p ∧ v ≤ q := fun p q hp hq => ⟨if p ≤ q then p else q, by split <;> assumption, by split <;> grind, by split <;> grind⟩
    obtain ⟨v1, a1, a2, a3⟩ := key w (e1 / 2) w0 hh
    obtain ⟨v2, b1, b2, b3⟩ := key (r - a) (b - r) (by grind) (by grind)
    obtain ⟨v, c1, c2, c3⟩ := key v1 v2 a1 b1
    exact ⟨v, c1, by grind, by grind, by grind, by grind⟩
  have sg : ∀ z : Rat, (0 < K * z → 0 < z) ∧ (K * z < 0 → z < 0) := fun z => ⟨fun h => by have := pos_cases h; grind, fun h => by have := neg_cases h; grind⟩
  have n1 : g (r - v) * g1 (r - v) < 0 := (sg _).2 (by rw [e]; exact mul_neg_of (.inr ⟨by grind, w1 _ (by grind) (by grind)⟩))
  have n2 : 0 < g (r + v) * g1 (r + v) := (sg _).1 (by rw [e]; exact mul_pos_of (.inl ⟨by grind, w1 _ (by grind) (by grind)⟩))
  have n3 := mid (r - v) (r + v) (by grind) (by grind) (by grind) (by grind)
  rw [h.flat (a := a) (b := r - v) h1 (by grind) (by grind) fun x y z1 z2 z3 z4 => lo x y z1 (by grind) z3 (by grind)]
  rw [← h.flat (a := r + v) (b := b) (by grind) (by grind) h4 fun x y z1 z2 z3 z4 => hi x y (by grind) z2 (by grind) z4]
  exact c _ _ (by grind) (by grind) (by grind) (by grind) n1 n2 n3
noncomputable def lin : List Int → Rat → Rat
  | [], _ => 1
  | r :: l, x => (x - (r : Rat)) * lin l x
theorem lin_pol : ∀ ds, Pol (lin ds)
  | [] => Pol.con 1
  | r :: l => (Pol.id.sub (Pol.con r)).mul (lin_pol l)
theorem lin_root : ∀ {ds : List Int} {r : Int}, r ∈ ds → lin ds r = 0
  | s :: l, r, h => by
    rw [lin]
    rcases List.mem_cons.mp h with rfl | h
    · grind
    · rw [lin_root h]; grind
theorem strip {e : Rat → Rat} (he : Pol e) : ∀ (ds : List Int) (g w : Rat → Rat), Pol g → Pol w → (∀ r ∈ ds, e (r : Int) ≠ 0) → (∀ x, e x * g x = lin ds x * w x) → ∃ g', Pol g' ∧ ∀ x, e x * g' x = w x
  | [], g, w, hg, hw, hr, h => ⟨g, hg, fun x => by rw [h, lin]; grind⟩
  | r :: ds, g, w, hg, hw, hr, h => by
    have h0 := h r
    rw [lin_root List.mem_cons_self] at h0
    have h1 := hr r List.mem_cons_self
    obtain ⟨g1, hg1, k⟩ := hg.factor (r := (r : Rat)) (by grind)
    refine strip he ds g1 w hg1 hw (fun s hs => hr s (List.mem_cons_of_mem _ hs)) ?_
    refine (he.mul hg1).eq_all ((lin_pol ds).mul hw) r fun x hx => ?_
    have h2 := h x
    rw [k, lin] at h2
    have : (x - (r : Rat)) * (e x * g1 x - lin ds x * w x) = 0 := by grind
    have hx : x - (r : Rat) ≠ 0 := by grind
    generalize x - (r : Rat) = u at *
    have : e x * g1 x - lin ds x * w x = 0 := by
      generalize e x * g1 x - lin ds x * w x = v at *
      grind
    grind
theorem quad_pos {h : Rat} (hh : 0 < h) (x m : Rat) : 0 < (x - m) * (x - m) + h := by
  by_cases z : x - m = 0
  · rw [z]; grind
  · have := pos_sq z; grind
theorem quad_dg (m h : Rat) : Dg (fun x => (x - m) * (x - m) + h) 2 1 := by
  refine ⟨[m * m + h, -2 * m, 1], fun x => by simp only [hp]; grind, by simp [co], fun i hi => ?_⟩
  unfold co
  rw [List.getD_eq_getElem?_getD, List.getElem?_eq_none (by simp; omega)]; rfl
theorem con_dg (a : Rat) : Dg (fun _ => a) 0 a := by
  refine ⟨[a], fun x => by simp only [hp]; grind, by simp [co], fun i hi => ?_⟩
  unfold co
  rw [List.getD_eq_getElem?_getD, List.getElem?_eq_none (by simp; omega)]; rfl
theorem gcd_const {e g0 g1 S : Rat → Rat} {ds : List Int} {m : Int} {h : Rat} (hh : 0 < h) (he : Pol e) (hg0 : Pol g0) (hg1 : Pol g1) (hS : Pol S)
    (e0 : ∀ x, e x * g0 x = lin ds x * ((x - m) * (x - m) + h)) (e1 : ∀ x, e x * g1 x = S x * ((x - m) * (x - m) + h) + lin ds x * (2 * (x - m))) (hr : ∀ r ∈ ds, S (r : Int) ≠ 0) : ∃ k, k ≠ 0 ∧ ∀ x, e x = k := by
  have hq : Pol fun x => (x - m) * (x - m) + h := let ⟨l, hl, _⟩ := quad_dg m h; ⟨l, hl⟩
  have her : ∀ r ∈ ds, e (r : Int) ≠ 0 := fun r hr' => by
    have z := e1 r
    rw [lin_root hr'] at z
    have h1 := hr r hr'
    have h2 := quad_pos hh r m
    intro h3
    rw [h3] at z
    have : S (r : Int) * (((r : Rat) - m) * (r - m) + h) = 0 := by grind
    generalize ((r : Rat) - m) * (r - m) + h = q at *
    grind
  obtain ⟨g, hg, k⟩ := strip he ds g0 _ hg0 hq her e0
  have hne : ∀ x, e x ≠ 0 := fun x hx => by
    have z := k x; have := quad_pos hh x m; rw [hx] at z; grind
  obtain ⟨n, a, ha, hd⟩ := he.dg ⟨0, hne 0⟩
  obtain ⟨n', a', ha', hd'⟩ := hg.dg ⟨0, fun hx => by have z := k 0; have := quad_pos hh 0 m; rw [hx] at z; grind⟩
  have hm := hd.mul hd'
  obtain ⟨q1, q2⟩ := hm.uniq (quad_dg m h) k (by grind) (by grind)
  have : n = 0 ∨ n = 1 ∨ n = 2 := by omega
  rcases this with rfl | rfl | rfl
  · exact ⟨a, ha, hd.zero⟩
  · obtain ⟨b, hb⟩ := hd.one
    exact absurd (by rw [hb]; grind) (hne (-b / a))
  · have hn' : n' = 0 := by omega
    subst hn'
    have kg := hd'.zero
    -- the quadratic is a multiple of e
    have k2 : ∀ x, ((x - m) * (x - m) + h) * (g1 x - a' * S x) = lin (m :: ds) x * (2 * a') := fun x => by
      have z1 := e1 x
      have z2 := k x
      rw [kg] at z2
      rw [lin]
      generalize hQ : (x - (m : Rat)) * (x - m) + h = Q at *
      have : Q * g1 x = a' * (e x * g1 x) := by rw [← z2]; grind
      rw [Rat.sub_eq_add_neg, Rat.mul_add, this, z1]; grind
    obtain ⟨w, hw, k3⟩ := strip hq (m :: ds) (fun x => g1 x - a' * S x) (fun _ => 2 * a') (hg1.sub ((Pol.con a').mul hS)) (Pol.con _) (fun r _ => by have := quad_pos hh r m; grind) k2
    obtain ⟨i, b, hb, hdw⟩ := hw.dg ⟨0, fun hx => by have z := k3 0; rw [hx] at z; grind⟩
    obtain ⟨q3, _⟩ := ((quad_dg m h).mul hdw).uniq (con_dg (2 * a')) k3 (by grind) (by grind)
    omega
end Mine
end
section
open PySem PySem.W PyProof.Rows PySem.Calls PySem.Spec
set_option maxRecDepth 100000

namespace Mine

/-! values and objects, as plain data -/
inductive PV where
  | none
  | bool (b : Bool)
  | int (i : Int)
  | str (s : Str)
  | flt (b : UInt64)
  | tuple (vs : List PV)
  | inst (C : Addr) (vs : List PV)
  | rng (a b c : Int)
  | ref (a : Addr)
  | k (v : Value)

inductive PO where
  | idle
  | list (vs : List PV)
  | idict (es : List (Int × PV)) (ep : Nat)
  | sdict (es : List (Str × PV)) (ep : Nat)

abbrev PH := Addr → Option PO
abbrev PL := Str → Option PV

mutual
inductive VR (H : PH) (h : Heap) : Value → PV → Prop
  | none : VR H h .none .none
  | bool (b : Bool) : VR H h (.bool b) (.bool b)
  | int (i : Int) (t : Tok) : VR H h (.int i t) (.int i)
  | str (x : Str) (t : Tok) : VR H h (.str x t) (.str x)
  | flt (b : UInt64) (t : Tok) : VR H h (.float b t) (.flt b)
  | tuple {a : Addr} {vs : List Value} {ds : List PV} : h.IsTuple a vs.toArray → VRs H h vs ds → VR H h (.ref a) (.tuple ds)
  | inst {a C dx : Addr} {vs : List Value} {ds : List PV} : h.get? a = some ⟨.ref C, some dx, .plain, (vs.map some).toArray⟩ → H dx = some .idle → VRs H h vs ds → VR H h (.ref a) (.inst C ds)
  | rng {r : Addr} {a b c : Int} {t u v : Tok} : IsRange h r a b c t u v → VR H h (.ref r) (.rng a b c)
  | ref (a : Addr) : VR H h (.ref a) (.ref a)
  | k (v : Value) : VR H h v (.k v)
inductive VRs (H : PH) (h : Heap) : List Value → List PV → Prop
  | nil : VRs H h [] []
  | cons {v : Value} {d : PV} {vs : List Value} {ds : List PV} : VR H h v d → VRs H h vs ds → VRs H h (v :: vs) (d :: ds)
end

structure Gd where
  prog : Program
  w : World
  K : Frag
  p : Program
  loose : List Str
  mg : Str → Option Value
  mb : Str → Option Value
  G : Heap

structure Gd.Ok (g : Gd) : Prop where
  kin : g.K.In g.G
  top : TopRead g.p g.loose g.mg g.mb g.G

abbrev Gd.m (g : Gd) : Model := model g.prog g.w

noncomputable def KV {K : Type} (H : PH) (h : Heap) : List (K × Value) → List (K × PV) → Prop
  | [], [] => True
  | (a, v) :: r, (b, d) :: q => (a = b ∧ VR H h v d) ∧ KV H h r q
  | _, _ => False

noncomputable def OR (g : Gd) (H : PH) (h : Heap) (a : Addr) : PO → Prop
  | .idle => ∃ o, h.get? a = some o ∧ o.cls = .type "dict" ∧ ∃ es n, o.data = .dict es n
  | .list ds => ∃ vs n, h.get? a = some (listOf vs.toArray n) ∧ VRs H h vs ds
  | .idict es ep => ∃ kvs, h.DictAt (intKind g.prog g.w) a kvs ep ∧ KV H h kvs es
  | .sdict es ep => ∃ kvs, h.DictAt (PySem.strKind g.prog g.w) a kvs ep ∧ KV H h kvs es

structure BR (g : Gd) (H : PH) (h : Heap) : Prop where
  keep : ∀ b o, g.G.get? b = some o → h.get? b = some o
  hr : ∀ a po, H a = some po → OR g H h a po ∧ g.G.get? a = none ∧ 2 < a

structure StpO (own : Addr → Prop) (H : PH) (h : Heap) (H' : PH) (h' : Heap) : Prop where
  keep : ∀ b o, h.get? b = some o → H b = none → ¬ own b → h'.get? b = some o
  dom : ∀ b o, h.get? b = some o → H b = none → H' b = none
  alive : ∀ b o, h.get? b = some o → ∃ o', h'.get? b = some o'
  idle : ∀ b, H b = some .idle → H' b = some .idle
/-- the part of a step that values need -/
structure Kp (own : Addr → Prop) (H : PH) (h : Heap) (H' : PH) (h' : Heap) : Prop where
  keep : ∀ b o, h.get? b = some o → H b = none → ¬ own b → h'.get? b = some o
  idle : ∀ b, H b = some .idle → H' b = some .idle
theorem StpO.kp {own : Addr → Prop} {H H' : PH} {h h' : Heap} (S : StpO own H h H' h') : Kp own H h H' h' := ⟨S.keep, S.idle⟩
abbrev noOwn : Addr → Prop := fun _ => False
abbrev Stp := StpO noOwn

/-- an object that a dict or list of H never is -/
noncomputable def Fixed (o : Obj) : Prop := (o.cls = .type "tuple" ∧ ∃ xs n, o.data = .seq xs n) ∨ (∃ C dx sl, o = ⟨.ref C, some dx, .plain, sl⟩) ∨ (∃ v, o.data = .cell v) ∨ o.cls = .type "range"

theorem BR.fixed {g : Gd} {H : PH} {h : Heap} (B : BR g H h) {a : Addr} {o : Obj} (e : h.get? a = some o) (f : Fixed o) : H a = none := by
  cases q : H a with
  | none => rfl
  | some po =>
    exfalso
    have z := (B.hr a po q).1
    cases po with
    | idle =>
      obtain ⟨o', e', c', es, n, d'⟩ := z
      rw [e] at e'
      obtain rfl := Option.some.inj e'
      rcases f with ⟨c, _⟩ | ⟨C, dx, sl, c⟩ | ⟨v, c⟩ | c
      · rw [c'] at c; exact absurd c (by decide)
      · subst c; cases d'
      · rw [d'] at c; cases c
      · rw [c'] at c; exact absurd c (by decide)
    | list ds =>
      obtain ⟨vs, n, e', _⟩ := z
      rw [e] at e'
      obtain rfl := Option.some.inj e'
      rcases f with ⟨c, _⟩ | ⟨C, dx, sl, c⟩ | ⟨v, c⟩ | c
      · exact absurd (show Value.type "list" = Value.type "tuple" from c) (by decide)
      · cases c
      · cases c
      · exact absurd (show Value.type "list" = Value.type "range" from c) (by decide)
    | idict es ep =>
      obtain ⟨kvs, ⟨o', es', e', hx, hd, _⟩, _⟩ := z
      rw [e] at e'
      obtain rfl := Option.some.inj e'
      rcases f with ⟨c, _⟩ | ⟨C, dx, sl, c⟩ | ⟨v, c⟩ | c
      · rw [hx.1] at c; exact absurd c (by decide)
      · subst c; cases hd
      · rw [hd] at c; cases c
      · rw [hx.1] at c; exact absurd c (by decide)
    | sdict es ep =>
      obtain ⟨kvs, ⟨o', es', e', hx, hd, _⟩, _⟩ := z
      rw [e] at e'
      obtain rfl := Option.some.inj e'
      rcases f with ⟨c, _⟩ | ⟨C, dx, sl, c⟩ | ⟨v, c⟩ | c
      · rw [hx.1] at c; exact absurd c (by decide)
      · subst c; cases hd
      · rw [hd] at c; cases c
      · rw [hx.1] at c; exact absurd c (by decide)

theorem StpO.mono {own own' : Addr → Prop} {H H' : PH} {h h' : Heap} (S : StpO own H h H' h') (k : ∀ b, own b → own' b) : StpO own' H h H' h' :=
  ⟨fun b o e n q => S.keep b o e n fun z => q (k b z), S.dom, S.alive, S.idle⟩
theorem Stp.refl {own : Addr → Prop} (H : PH) (h : Heap) : StpO own H h H h := ⟨fun _ _ e _ _ => e, fun _ _ _ e => e, fun _ o e => ⟨o, e⟩, fun _ e => e⟩
theorem StpO.trans {own : Addr → Prop} {H H' H'' : PH} {h h' h'' : Heap} (S : StpO own H h H' h') (T : StpO own H' h' H'' h'') : StpO own H h H'' h'' where
  keep := fun b o e n q => T.keep b o (S.keep b o e n q) (S.dom b o e n) q
  dom := fun b o e n => let ⟨o', e'⟩ := S.alive b o e; T.dom b o' e' (S.dom b o e n)
  alive := fun b o e => let ⟨o', e'⟩ := S.alive b o e; T.alive b o' e'
  idle := fun b e => T.idle b (S.idle b e)
theorem Stp.to {own : Addr → Prop} {H H' : PH} {h h' : Heap} (S : Stp H h H' h') : StpO own H h H' h' := S.mono fun _ z => z.elim

/-- what a step may change is no tuple and no object with slots -/
noncomputable def OwnOk (own : Addr → Prop) (h : Heap) : Prop := ∀ b o, own b → h.get? b = some o → (∃ es ep, o.data = .dict es ep) ∨ (∃ v, o.data = .cell v) ∨ (∃ vs, o.data = .fields vs ∧ o.cls ≠ .type "range") ∨ ∃ xs n, o.data = .seq xs n ∧ o.cls = .type "list"
theorem OwnOk.seq {own : Addr → Prop} {h : Heap} (W : OwnOk own h) {b : Addr} {o : Obj} {xs n} (e : h.get? b = some o) (c : o.cls = .type "tuple") (d : o.data = .seq xs n) : ¬ own b := fun z => by
  rcases W b o z e with ⟨_, _, q⟩ | ⟨_, q⟩ | ⟨_, q, _⟩ | ⟨_, _, _, q⟩
  · rw [d] at q; cases q
  · rw [d] at q; cases q
  · rw [d] at q; cases q
  · rw [c] at q; exact absurd q (by decide)
theorem OwnOk.range {own : Addr → Prop} {h : Heap} (W : OwnOk own h) {b : Addr} {o : Obj} {vs} (e : h.get? b = some o) (c : o.cls = .type "range") (d : o.data = .fields vs) : ¬ own b := fun z => by
  rcases W b o z e with ⟨_, _, q⟩ | ⟨_, q⟩ | ⟨_, _, q⟩ | ⟨_, _, q, _⟩
  · rw [d] at q; cases q
  · rw [d] at q; cases q
  · exact q c
  · rw [d] at q; cases q
theorem OwnOk.plain {own : Addr → Prop} {h : Heap} (W : OwnOk own h) {b : Addr} {o : Obj} (e : h.get? b = some o) (d : o.data = .plain) : ¬ own b := fun z => by
  rcases W b o z e with ⟨_, _, q⟩ | ⟨_, q⟩ | ⟨_, q, _⟩ | ⟨_, _, q, _⟩ <;> (rw [d] at q; cases q)

mutual
theorem VR.step {g : Gd} {own : Addr → Prop} {H H' : PH} {h h' : Heap} (B : BR g H h) (S : Kp own H h H' h') (W : OwnOk own h) : ∀ {v : Value} {d : PV}, VR H h v d → VR H' h' v d
  | _, _, .none => .none
  | _, _, .bool b => .bool b
  | _, _, .int i t => .int i t
  | _, _, .str x t => .str x t
  | _, _, .flt b t => .flt b t
  | _, _, .tuple ht r => by
    obtain ⟨o, e, c, n, d⟩ := ht
    exact .tuple ⟨o, S.keep _ o e (B.fixed e (.inl ⟨c, _, n, d⟩)) (W.seq e c d), c, n, d⟩ (VRs.step B S W r)
  | _, _, .inst e ed r => .inst (S.keep _ _ e (B.fixed e (.inr (.inl ⟨_, _, _, rfl⟩))) (W.plain e rfl)) (S.idle _ ed) (VRs.step B S W r)
  | _, _, .rng e => .rng (S.keep _ _ e (B.fixed e (.inr (.inr (.inr rfl)))) (W.range e rfl rfl))
  | _, _, .ref a => .ref a
  | _, _, .k v => .k v
theorem VRs.step {g : Gd} {own : Addr → Prop} {H H' : PH} {h h' : Heap} (B : BR g H h) (S : Kp own H h H' h') (W : OwnOk own h) : ∀ {vs : List Value} {ds : List PV}, VRs H h vs ds → VRs H' h' vs ds
  | _, _, .nil => .nil
  | _, _, .cons x r => .cons (VR.step B S W x) (VRs.step B S W r)
end
theorem noOwnOk (h : Heap) : OwnOk noOwn h := fun _ _ z => z.elim
theorem VR.after {g : Gd} {H H' : PH} {h h' : Heap} {v : Value} {d : PV} (V : VR H h v d) (B : BR g H h) (S : Stp H h H' h') : VR H' h' v d := V.step B S.kp (noOwnOk h)
theorem VRs.after {g : Gd} {H H' : PH} {h h' : Heap} {v : List Value} {d : List PV} (V : VRs H h v d) (B : BR g H h) (S : Stp H h H' h') : VRs H' h' v d := V.step B S.kp (noOwnOk h)

/-- relation of an environment's names -/
structure ER (g : Gd) (env : Env) (l : PL) (H : PH) (h : Heap) : Prop where
  br : BR g H h
  ns : ∃ m, h.Ns env.locals m ∧ ∀ x pv, l x = some pv → env.kindOf x = some .local → ∃ v, VR H h v pv ∧ m x = some v
  nc : ∀ x pv, l x = some pv → env.kindOf x ≠ some .local → (env.kindOf x = some .cell ∨ env.kindOf x = some .free ∧ (x == ("__classdict__" : Str)) = false) ∧ ∃ v c, VR H h v pv ∧ env.cells.lookup x = some c ∧ h.IsCell c (some v)
  hl : H env.locals = none
  gl : g.G.get? env.locals = none
  cells : ∀ x c, env.cells.lookup x = some c → g.G.get? c = none ∧ ∃ w, h.IsCell c w
  inj : ∀ x y c, env.cells.lookup x = some c → env.cells.lookup y = some c → x = y
  has : ∀ x, env.kindOf x = some .cell → (env.cells.lookup x).isSome = true

structure EnvOk (env : Env) : Prop where
  kind : env.scope.kind = .function
  globals : env.globals = mainGlobals
  builtins : env.builtins = builtinsNs

theorem Ns.obj {h : Heap} {a : Addr} {m : Str → Option Value} (n : h.Ns a m) : ∃ o, h.get? a = some o := let ⟨o, _, _, e, _⟩ := n; ⟨o, e⟩

theorem ER.after {g : Gd} {env : Env} {l : PL} {H H' : PH} {h h' : Heap} (R : ER g env l H h) (B : BR g H' h') (S : Stp H h H' h') : ER g env l H' h' where
  br := B
  ns := by
    obtain ⟨m, hn, k⟩ := R.ns
    refine ⟨m, hn.at' fun o e => S.keep _ o e R.hl id, fun x pv e kd => ?_⟩
    obtain ⟨v, V, hm⟩ := k x pv e kd
    exact ⟨v, V.after R.br S, hm⟩
  nc := fun x pv e kd => by
    obtain ⟨a, v, c, V, hc, o, ho, hd⟩ := R.nc x pv e kd
    exact ⟨a, v, c, V.after R.br S, hc, o, S.keep _ o ho (R.br.fixed ho (.inr (.inr (.inl ⟨_, hd⟩)))) id, hd⟩
  hl := let ⟨_, hn, _⟩ := R.ns; let ⟨o, e⟩ := Ns.obj hn; S.dom _ o e R.hl
  gl := R.gl
  cells := fun x c e => by
    obtain ⟨a, w, o, ho, hd⟩ := R.cells x c e
    exact ⟨a, w, o, S.keep _ o ho (R.br.fixed ho (.inr (.inr (.inl ⟨_, hd⟩)))) id, hd⟩
  inj := R.inj
  has := R.has


abbrev noE : Value → Shared → Prop := fun _ _ => False

noncomputable def Post (g : Gd) (H : PH) (s : Shared) (Q : PV → PH → Prop) (Q' : Value → Shared → Prop) : Prop :=
  ∀ v pv H' h' tk, BR g H' h' → Stp H s.heap H' h' → VR H' h' v pv → Q pv H' → Q' v { s with heap := h', toks := tk }
noncomputable def PostB (g : Gd) (H : PH) (s : Shared) (Q : Bool → PH → Prop) (Q' : Bool → Shared → Prop) : Prop :=
  ∀ b H' h' tk, BR g H' h' → Stp H s.heap H' h' → Q b H' → Q' b { s with heap := h', toks := tk }
noncomputable def PostL (g : Gd) (H : PH) (s : Shared) (Q : List PV → PH → Prop) (Q' : List Value → Shared → Prop) : Prop :=
  ∀ vs pvs H' h' tk, BR g H' h' → Stp H s.heap H' h' → VRs H' h' vs pvs → Q pvs H' → Q' vs { s with heap := h', toks := tk }

theorem Post.after {g : Gd} {H H₁ : PH} {s : Shared} {h₁ : Heap} {tk₁ : Nat} {Q : PV → PH → Prop} {Q' : Value → Shared → Prop} (P : Post g H s Q Q') (S : Stp H s.heap H₁ h₁) : Post g H₁ { s with heap := h₁, toks := tk₁ } Q Q' :=
  fun v pv H' h' tk B S' V q => P v pv H' h' tk B (S.trans S') V q
theorem PostB.after {g : Gd} {H H₁ : PH} {s : Shared} {h₁ : Heap} {tk₁ : Nat} {Q : Bool → PH → Prop} {Q' : Bool → Shared → Prop} (P : PostB g H s Q Q') (S : Stp H s.heap H₁ h₁) : PostB g H₁ { s with heap := h₁, toks := tk₁ } Q Q' :=
  fun v H' h' tk B S' q => P v H' h' tk B (S.trans S') q
/-- nothing but marks spent -/
theorem Post.here {g : Gd} {H : PH} {s : Shared} {Q : PV → PH → Prop} {Q' : Value → Shared → Prop} (P : Post g H s Q Q') (B : BR g H s.heap) {v : Value} {pv : PV} (V : VR H s.heap v pv) (q : Q pv H) (tk : Nat) : Q' v { s with toks := tk } :=
  P v pv H s.heap tk B (Stp.refl H s.heap) V q
theorem Post.now {g : Gd} {H : PH} {s : Shared} {Q : PV → PH → Prop} {Q' : Value → Shared → Prop} (P : Post g H s Q Q') (B : BR g H s.heap) {v : Value} {pv : PV} (V : VR H s.heap v pv) (q : Q pv H) : Q' v s :=
  P v pv H s.heap s.toks B (Stp.refl H s.heap) V q
theorem PostB.now {g : Gd} {H : PH} {s : Shared} {Q : Bool → PH → Prop} {Q' : Bool → Shared → Prop} (P : PostB g H s Q Q') (B : BR g H s.heap) {b : Bool} (q : Q b H) : Q' b s :=
  P b H s.heap s.toks B (Stp.refl H s.heap) q

/-! the judgements -/
section
variable (g : Gd) (A : Around) (env : Env) (l : PL) (H : PH)
noncomputable def ET (e : Expr) (Q : PV → PH → Prop) : Prop := ∀ s Q', ER g env l H s.heap → Post g H s Q Q' → wpAny g.m A (eval e env) Q' noE s
noncomputable def ETs (es : List Expr) (Q : List PV → PH → Prop) : Prop := ∀ pos s Q', ER g env l H s.heap → PostL g H s Q Q' → wpAny g.m A (spliced (backTo pos (starEach es env))) Q' noE s
noncomputable def BT (e : Expr) (Q : Bool → PH → Prop) : Prop := ∀ s Q', ER g env l H s.heap → PostB g H s Q Q' → wpAny g.m A (isTrue e env (eval e env)) Q' noE s
noncomputable def BinT (op : Operator) (a b : PV) (Q : PV → PH → Prop) : Prop := ∀ v w s Q', VR H s.heap v a → VR H s.heap w b → BR g H s.heap → Post g H s Q Q' → wpAny g.m A (binaryOp op v w) Q' noE s
noncomputable def InpT (op : Operator) (a b : PV) (Q : PV → PH → Prop) : Prop := ∀ v w s Q', VR H s.heap v a → VR H s.heap w b → BR g H s.heap → Post g H s Q Q' → wpAny g.m A (inplaceOp op v w) Q' noE s
noncomputable def CmpT (op : CmpOp) (a b : PV) (Q : PV → PH → Prop) : Prop := ∀ v w s Q', VR H s.heap v a → VR H s.heap w b → BR g H s.heap → Post g H s Q Q' → wpAny g.m A (compareOp op v w) Q' noE s
noncomputable def UnT (op : UnaryOp) (a : PV) (Q : PV → PH → Prop) : Prop := ∀ v s Q', VR H s.heap v a → BR g H s.heap → Post g H s Q Q' → wpAny g.m A (unaryOp op v) Q' noE s
noncomputable def TrT (a : PV) (Q : Bool → PH → Prop) : Prop := ∀ v s Q', VR H s.heap v a → BR g H s.heap → PostB g H s Q Q' → wpAny g.m A (truthy v) Q' noE s
noncomputable def CT (f : Value) (args : List PV) (Q : PV → PH → Prop) : Prop := ∀ vs s Q', VRs H s.heap vs args → BR g H s.heap → Post g H s Q Q' → wpAny g.m A (call f vs) Q' noE s
end

section
variable {g : Gd} {A : Around} {env : Env} {l : PL} {H : PH} {Q : PV → PH → Prop}

theorem ET.mono {e : Expr} {Q₁ : PV → PH → Prop} (h : ET g A env l H e Q₁) (k : ∀ v H', Q₁ v H' → Q v H') : ET g A env l H e Q :=
  fun s Q' R P => h s Q' R fun v pv H' h' tk B S V q => P v pv H' h' tk B S V (k _ _ q)

theorem ET.int {i : Int} {k pos} (h : Q (.int i) H) : ET g A env l H (.Constant (.int i) k pos) Q :=
  fun s _ R P => wpAny_Constant_int (P.here R.br (.int i s.toks) h (s.toks + 1))
theorem ET.bool {b : Bool} {k pos} (h : Q (.bool b) H) : ET g A env l H (.Constant (.bool b) k pos) Q :=
  fun _ _ R P => wpAny_Constant_bool (P.now R.br (.bool b) h)
theorem ET.pnone {k pos} (h : Q .none H) : ET g A env l H (.Constant .none k pos) Q :=
  fun _ _ R P => wpAny_Constant_none (P.now R.br .none h)

/-- a name of the environment -/
theorem ET.var {x : Str} {pos : Pos} {v : PV} (O : EnvOk env) (hv : l x = some v) (hd : (x == ("__debug__" : Str)) = false) (h : Q v H) : ET g A env l H (.Name x pos) Q := by
  intro s Q' R P
  refine wpAny_Name ?_ hd
  by_cases hk : env.kindOf x = some .local
  · obtain ⟨m, hn, q⟩ := R.ns
    obtain ⟨u, V, hm⟩ := q x v hv hk
    exact wpAny_loadName_local O.kind hk hn hm (P.now R.br V h)
  · obtain ⟨a, u, c, V, hc, hcell⟩ := R.nc x v hv hk
    rcases a with a | ⟨a, b⟩
    · exact wpAny_loadName_cell O.kind a hc hcell (P.now R.br V h)
    · exact wpAny_loadName_free O.kind a hc hcell (P.now R.br V h) b
theorem ET.glob {x : Str} {pos : Pos} {v : Value} (O : EnvOk env) (hG : g.Ok) (hx : env.kindOf x = some .globalImplicit) (hd : (x == ("__debug__" : Str)) = false) (e : nsIn g.K mainGlobals x = some (some v)) (h : Q (.k v) H) : ET g A env l H (.Name x pos) Q :=
  fun _ _ R P => Name_function_global O.kind hx (loadGlobal_global (O.globals ▸ hG.top.g.keeps R.br.keep) (mg_of hG.kin hG.top.g e) (P.now R.br (.k v) h)) hd
theorem ET.builtin {x : Str} {pos : Pos} {v : Value} (O : EnvOk env) (hG : g.Ok) (hx : env.kindOf x = some .globalImplicit) (hd : (x == ("__debug__" : Str)) = false) (hn : x ≠ "__name__") (e : nsIn g.K mainGlobals x = some Option.none) (hv : bootBuiltins x = some v) (h : Q (.k v) H) : ET g A env l H (.Name x pos) Q :=
  fun _ _ R P => Name_function_global O.kind hx (loadGlobal_builtin (O.globals ▸ hG.top.g.keeps R.br.keep) (mg_none_of hG.kin hG.top.g e) (O.builtins ▸ hG.top.b.keeps R.br.keep) ((hG.top.builtins x hn).trans hv) (P.now R.br (.k v) h)) hd

theorem ET.binop {a b : Expr} {op : Operator} {pos : Pos} (h : ET g A env l H a fun u H₁ => ET g A env l H₁ b fun v H₂ => BinT g A H₂ op u v Q) : ET g A env l H (.BinOp a op b pos) Q := by
  intro s Q' R P
  refine wpAny_BinOp (h s _ R ?_)
  intro v₁ p₁ H₁ h₁ t₁ B₁ S₁ V₁ q₁
  refine q₁ _ _ (R.after B₁ S₁) ?_
  intro v₂ p₂ H₂ h₂ t₂ B₂ S₂ V₂ q₂
  exact q₂ _ _ _ _ (V₁.after B₁ S₂) V₂ B₂ ((P.after S₁).after S₂)
theorem ET.unop {a : Expr} {op : UnaryOp} {pos : Pos} (h : ET g A env l H a fun u H₁ => UnT g A H₁ op u Q) : ET g A env l H (.UnaryOp op a pos) Q := by
  intro s Q' R P
  refine wpAny_UnaryOp (h s _ R ?_)
  intro v₁ p₁ H₁ h₁ t₁ B₁ S₁ V₁ q₁
  exact q₁ _ _ _ V₁ B₁ (P.after S₁)
theorem ET.cmp {a b : Expr} {op : CmpOp} {pos : Pos} (hm : behindInMarks op b = false) (h : ET g A env l H a fun u H₁ => ET g A env l H₁ b fun v H₂ => CmpT g A H₂ op u v Q) : ET g A env l H (.Compare a [op] [b] pos) Q := by
  intro s Q' R P
  refine wpAny_Compare1 (h s _ R ?_) hm
  intro v₁ p₁ H₁ h₁ t₁ B₁ S₁ V₁ q₁
  refine q₁ _ _ (R.after B₁ S₁) ?_
  intro v₂ p₂ H₂ h₂ t₂ B₂ S₂ V₂ q₂
  exact q₂ _ _ _ _ (V₁.after B₁ S₂) V₂ B₂ ((P.after S₁).after S₂)
theorem BT.cmp {a b : Expr} {op : CmpOp} {pos : Pos} {Q : Bool → PH → Prop} (hm : behindInMarks op b = false) (h : ET g A env l H a fun u H₁ => ET g A env l H₁ b fun v H₂ => CmpT g A H₂ op u v fun c H₃ => TrT g A H₃ c Q) : BT g A env l H (.Compare a [op] [b] pos) Q := by
  intro s Q' R P
  refine wpAny_isTrue_Compare1 (h s _ R ?_) hm
  intro v₁ p₁ H₁ h₁ t₁ B₁ S₁ V₁ q₁
  refine q₁ _ _ (R.after B₁ S₁) ?_
  intro v₂ p₂ H₂ h₂ t₂ B₂ S₂ V₂ q₂
  refine q₂ _ _ _ _ (V₁.after B₁ S₂) V₂ B₂ ?_
  intro v₃ p₃ H₃ h₃ t₃ B₃ S₃ V₃ q₃
  exact q₃ _ _ _ V₃ B₃ (((P.after S₁).after S₂).after S₃)
theorem BT.val {e : Expr} {Q : Bool → PH → Prop} (hp : ∀ env whole, isTrue e env whole = (do let v ← whole; standAt e.pos; holding [v] (truthy v))) (h : ET g A env l H e fun u H₁ => TrT g A H₁ u Q) : BT g A env l H e Q := by
  intro s Q' R P
  refine wpAny_isTrue_value (h s _ R ?_) (hp _ _)
  intro v₁ p₁ H₁ h₁ t₁ B₁ S₁ V₁ q₁
  exact q₁ _ _ _ V₁ B₁ (P.after S₁)
theorem BT.not {x : Expr} {pos : Pos} {Q : Bool → PH → Prop} (h : BT g A env l H x fun b H₁ => Q (!b) H₁) : BT g A env l H (.UnaryOp .Not x pos) Q :=
  fun s _ R P => wpAny_isTrue_Not (h s _ R fun b H' h' tk B S q => P (!b) H' h' tk B S q)
theorem BT.or {x y : Expr} {pos : Pos} {Q : Bool → PH → Prop} (h : BT g A env l H x fun b H₁ => if b = true then Q true H₁ else BT g A env l H₁ y Q) : BT g A env l H (.BoolOp .Or [x, y] pos) Q := by
  intro s Q' R P
  refine wpAny_isTrue_BoolOp (wpAny_allTrue_Or_cons (h s _ R ?_))
  intro b H₁ h₁ t₁ B₁ S₁ q₁
  cases b with
  | true => exact P true H₁ h₁ t₁ B₁ S₁ q₁
  | false =>
    refine wpAny_allTrue_Or_cons (q₁ _ _ (R.after B₁ S₁) ?_)
    intro b H₂ h₂ t₂ B₂ S₂ q₂
    cases b with
    | true => exact P true H₂ h₂ t₂ B₂ (S₁.trans S₂) q₂
    | false => exact wpAny_allTrue_Or_nil (P false H₂ h₂ t₂ B₂ (S₁.trans S₂) q₂)
theorem ET.ite {t a b : Expr} {pos : Pos} (h : BT g A env l H t fun c H₁ => if c = true then ET g A env l H₁ a Q else ET g A env l H₁ b Q) : ET g A env l H (.IfExp t a b pos) Q := by
  intro s Q' R P
  refine wpAny_IfExp (h s _ R ?_)
  intro c H₁ h₁ t₁ B₁ S₁ q₁
  cases c with
  | true => exact q₁ _ _ (R.after B₁ S₁) (P.after S₁)
  | false => exact q₁ _ _ (R.after B₁ S₁) (P.after S₁)

theorem TrT.bool {b : Bool} {Q : Bool → PH → Prop} (h : Q b H) : TrT g A H (.bool b) Q := by
  intro v s Q' V B P; cases V; exact wpAny_truthy_bool (P.now B h)

section
variable {a b : Int}
theorem BinT.add (h : Q (.int (a + b)) H) : BinT g A H .Add (.int a) (.int b) Q := by
  intro v w s Q' V W B P; cases V; cases W; exact add_int (P.here B (.int _ s.toks) h (s.toks + 1))
theorem BinT.sub (h : Q (.int (a - b)) H) : BinT g A H .Sub (.int a) (.int b) Q := by
  intro v w s Q' V W B P; cases V; cases W; exact sub_int (P.here B (.int _ s.toks) h (s.toks + 1))
theorem BinT.mul (hm : IntMulOk a b) (h : Q (.int (a * b)) H) : BinT g A H .Mult (.int a) (.int b) Q := by
  intro v w s Q' V W B P; cases V; cases W; exact mul_int (P.here B (.int _ s.toks) h (s.toks + 1)) hm
theorem BinT.mod (hb : b ≠ 0) (h : Q (.int (a.fmod b)) H) : BinT g A H .Mod (.int a) (.int b) Q := by
  intro v w s Q' V W B P; cases V; cases W; exact mod_int' hb (P.here B (.int _ s.toks) h (s.toks + 1))
theorem BinT.fdiv (hb : b ≠ 0) (hp : Builtin.divisionGoesByPylong a b = false) (h : Q (.int (a.fdiv b)) H) : BinT g A H .FloorDiv (.int a) (.int b) Q := by
  intro v w s Q' V W B P; cases V; cases W; exact floordiv_int hb (P.here B (.int _ s.toks) h (s.toks + 1)) (.inl hp)
theorem CmpT.neI (h : Q (.bool (a != b)) H) : CmpT g A H .NotEq (.int a) (.int b) Q := by
  intro v w s Q' V W B P; cases V; cases W; exact ne_int (P.now B (.bool _) h)
theorem CmpT.gtI (h : Q (.bool (decide (b < a))) H) : CmpT g A H .Gt (.int a) (.int b) Q := by
  intro v w s Q' V W B P; cases V; cases W; exact gt_int (P.now B (.bool _) h)
theorem CmpT.geI (h : Q (.bool (decide (b ≤ a))) H) : CmpT g A H .GtE (.int a) (.int b) Q := by
  intro v w s Q' V W B P; cases V; cases W; exact ge_int (P.now B (.bool _) h)
theorem UnT.neg (h : Q (.int (-a)) H) : UnT g A H .USub (.int a) Q := by
  intro v s Q' V B P; cases V; exact neg_int (P.here B (.int _ s.toks) h (s.toks + 1))
end
theorem CmpT.isNone {a : PV} (ha : a ≠ .none) (hk : ∀ v, a ≠ .k v) (h : Q (.bool true) H) : CmpT g A H .IsNot a .none Q := by
  intro v w s Q' V W B P
  cases W
  refine isNot_none ?_
  have e : (v == Value.none) = false := by cases V <;> first | rfl | exact absurd rfl ha | exact absurd rfl (hk _)
  rw [e]
  exact P.now B (.bool _) h
theorem CmpT.isNone' (h : Q (.bool false) H) : CmpT g A H .IsNot .none .none Q := by
  intro v w s Q' V W B P
  cases W; cases V
  exact isNot_none (P.now B (.bool _) h)

theorem ETs.nil {Q : List PV → PH → Prop} (h : Q [] H) : ETs g A env l H [] Q :=
  fun _ s _ R P => wpAny_items_nil (P [] [] H s.heap s.toks R.br (Stp.refl _ _) .nil h)
theorem ETs.cons {e : Expr} {rest : List Expr} {Q : List PV → PH → Prop} (he : ∀ env, starEach (e :: rest) env = (false, eval e env) :: starEach rest env) (h : ET g A env l H e fun v H₁ => ETs g A env l H₁ rest fun vs H₂ => Q (v :: vs) H₂) : ETs g A env l H (e :: rest) Q := by
  intro pos s Q' R P
  refine wpAny_items_cons (h s _ R ?_) (he _)
  intro v₁ p₁ H₁ h₁ t₁ B₁ S₁ V₁ q₁
  refine q₁ _ _ _ (R.after B₁ S₁) ?_
  intro v₂ p₂ H₂ h₂ t₂ B₂ S₂ V₂ q₂
  exact P _ _ H₂ h₂ t₂ B₂ (S₁.trans S₂) (.cons (V₁.after B₁ S₂) V₂) q₂
end
end Mine
end
section
open PySem PySem.W PyProof.Rows PySem.Calls PySem.Spec
set_option maxRecDepth 100000

namespace Mine

noncomputable def upd (l : PL) (x : Str) (v : PV) : PL := fun y => if y = x then some v else l y
noncomputable def hup (H : PH) (a : Addr) (o : PO) : PH := fun b => if b = a then some o else H b
theorem upd_at (l : PL) (x : Str) (v : PV) : upd l x v x = some v := if_pos rfl
theorem upd_ne {l : PL} {x y : Str} {v : PV} (h : y ≠ x) : upd l x v y = l y := if_neg h
theorem hup_at (H : PH) (a : Addr) (o : PO) : hup H a o a = some o := if_pos rfl
theorem hup_ne {H : PH} {a b : Addr} {o : PO} (h : b ≠ a) : hup H a o b = H b := if_neg h

section heap
variable {g : Gd} {own : Addr → Prop} {H H' : PH} {h h' : Heap}

theorem KV.step {K : Type} (B : BR g H h) (S : Kp own H h H' h') (W : OwnOk own h) : ∀ {l : List (K × Value)} {r : List (K × PV)}, KV H h l r → KV H' h' l r
  | [], [], _ => trivial
  | (_, _) :: _, (_, _) :: _, x => ⟨⟨x.1.1, x.1.2.step B S W⟩, KV.step B S W x.2⟩
  | [], _ :: _, x => x.elim
  | _ :: _, [], x => x.elim
theorem OR.step (B : BR g H h) (S : Kp own H h H' h') (W : OwnOk own h) {a : Addr} (e : ∀ o, h.get? a = some o → h'.get? a = some o) : ∀ {po : PO}, OR g H h a po → OR g H' h' a po
  | .idle, ⟨o, eo, r⟩ => ⟨o, e o eo, r⟩
  | .list _, ⟨vs, n, o, V⟩ => ⟨vs, n, e _ o, V.step B S W⟩
  | .idict _ _, ⟨kvs, D, V⟩ => ⟨kvs, D.at' e, V.step B S W⟩
  | .sdict _ _, ⟨kvs, D, V⟩ => ⟨kvs, D.at' e, V.step B S W⟩
theorem OR.obj {a : Addr} : ∀ {po : PO}, OR g H h a po → ∃ o, h.get? a = some o
  | .idle, ⟨_, e, _⟩ => ⟨_, e⟩
  | .list _, ⟨_, _, o, _⟩ => ⟨_, o⟩
  | .idict _ _, ⟨_, ⟨o, _, e, _⟩, _⟩ => ⟨o, e⟩
  | .sdict _ _, ⟨_, ⟨o, _, e, _⟩, _⟩ => ⟨o, e⟩
theorem BR.obj (B : BR g H h) {a : Addr} {po : PO} (e : H a = some po) : ∃ o, h.get? a = some o := OR.obj (B.hr a po e).1
theorem BR.fresh (B : BR g H h) : H h.objs.size = none := by
  cases q : H h.objs.size with
  | none => rfl
  | some po => obtain ⟨o, e⟩ := B.obj q; exact absurd (Heap.lt_size e) (Nat.lt_irrefl _)
theorem BR.gfresh (B : BR g H h) : g.G.get? h.objs.size = none := by
  cases q : g.G.get? h.objs.size with
  | none => rfl
  | some o => exact absurd (Heap.lt_size (B.keep _ o q)) (Nat.lt_irrefl _)
theorem BR.off (B : BR g H h) {a : Addr} (e : h.get? a = none) : H a = none := by
  cases q : H a with
  | none => rfl
  | some po => obtain ⟨o, e'⟩ := B.obj q; rw [e] at e'; cases e'

/-- one address that H does not know has turned -/
theorem Stp.same {b₀ : Addr} {o₁ : Obj} (hs : Heap.SameBut b₀ h h') (e₁ : h'.get? b₀ = some o₁) (hb : own b₀) : StpO own H h H h' where
  keep := fun b o e _ q => (hs.2 b fun z => q (by rw [show b = b₀ from z]; exact hb)).trans e
  dom := fun _ _ _ e => e
  alive := fun b o e => by
    by_cases z : b = b₀
    · subst z; exact ⟨o₁, e₁⟩
    · exact ⟨o, (hs.2 b z).trans e⟩
  idle := fun _ e => e
theorem Kp.same {b₀ : Addr} (hs : Heap.SameBut b₀ h h') : Kp (fun b => b = b₀) H h H h' := ⟨fun b o e _ q => (hs.2 b q).trans e, fun _ e => e⟩
theorem BR.same {b₀ : Addr} (B : BR g H h) (S : Kp own H h H h') (W : OwnOk own h) (hs : Heap.SameBut b₀ h h') (hb : H b₀ = none) (hg : g.G.get? b₀ = none) : BR g H h' where
  keep := fun b o e => (hs.2 b fun z => by rw [show b = b₀ from z, hg] at e; cases e).trans (B.keep b o e)
  hr := fun a po e => ⟨OR.step B S W (fun o q => (hs.2 a fun z => by rw [show a = b₀ from z, hb] at e; cases e).trans q) (B.hr a po e).1, (B.hr a po e).2⟩

/-- heaps that only grew -/
theorem Stp.grown (k : ∀ b o, h.get? b = some o → h'.get? b = some o) : StpO own H h H h' := ⟨fun b o e _ _ => k b o e, fun _ _ _ e => e, fun b o e => ⟨o, k b o e⟩, fun _ e => e⟩
theorem BR.grown (B : BR g H h) (k : ∀ b o, h.get? b = some o → h'.get? b = some o) : BR g H h' :=
  ⟨fun b o e => k b o (B.keep b o e), fun a po e => ⟨OR.step B (Stp.grown (own := noOwn) k).kp (noOwnOk h) (fun o q => k a o q) (B.hr a po e).1, (B.hr a po e).2⟩⟩
/-- a new object of H's, at a place that was free -/
theorem Stp.born (B : BR g H h) (k : ∀ b o, h.get? b = some o → h'.get? b = some o) {a : Addr} {po : PO} (n : h.get? a = none) : StpO own H h (hup H a po) h' where
  keep := fun b o e _ _ => k b o e
  dom := fun b o e q => by rw [hup_ne (fun z => by rw [show b = a from z, n] at e; cases e)]; exact q
  alive := fun b o e => ⟨o, k b o e⟩
  idle := fun b e => by rw [hup_ne (fun z => by rw [show b = a from z, B.off n] at e; cases e)]; exact e
theorem BR.born (B : BR g H h) (k : ∀ b o, h.get? b = some o → h'.get? b = some o) {a : Addr} {po : PO} (n : h.get? a = none) (hg : g.G.get? a = none ∧ 2 < a) (O : OR g (hup H a po) h' a po) : BR g (hup H a po) h' where
  keep := fun b o e => k b o (B.keep b o e)
  hr := fun b q e => by
    by_cases z : b = a
    · subst z; rw [hup_at] at e; obtain rfl := Option.some.inj e; exact ⟨O, hg⟩
    · rw [hup_ne z] at e
      exact ⟨OR.step B (Stp.born (own := noOwn) (po := po) B k n).kp (noOwnOk h) (fun o q => k b o q) (B.hr b q e).1, (B.hr b q e).2⟩
/-- an object of H's turned -/
theorem Stp.turn {a : Addr} {po po' : PO} {o₁ : Obj} (hs : Heap.SameBut a h h') (e : H a = some po) (e₁ : h'.get? a = some o₁) (n₁ : po ≠ .idle) : StpO own H h (hup H a po') h' where
  keep := fun b o q n _ => (hs.2 b fun z => by rw [show b = a from z, e] at n; cases n).trans q
  dom := fun b o _ n => by rw [hup_ne (fun z => by rw [show b = a from z, e] at n; cases n)]; exact n
  alive := fun b o q => by
    by_cases z : b = a
    · subst z; exact ⟨o₁, e₁⟩
    · exact ⟨o, (hs.2 b z).trans q⟩
  idle := fun b q => by rw [hup_ne (fun z => by rw [show b = a from z, e] at q; exact n₁ (Option.some.inj q))]; exact q
theorem BR.turn (B : BR g H h) {a : Addr} {po po' : PO} {o₁ : Obj} (hs : Heap.SameBut a h h') (e : H a = some po) (e₁ : h'.get? a = some o₁) (n₁ : po ≠ .idle) (O : OR g (hup H a po') h' a po') : BR g (hup H a po') h' where
  keep := fun b o q => (hs.2 b fun z => by
    have := (B.hr a po e).2.1
    rw [← show b = a from z, q] at this; cases this).trans (B.keep b o q)
  hr := fun b q e' => by
    by_cases z : b = a
    · subst z; rw [hup_at] at e'; obtain rfl := Option.some.inj e'; exact ⟨O, (B.hr b po e).2⟩
    · rw [hup_ne z] at e'
      exact ⟨OR.step B (Stp.turn (own := noOwn) (po' := po') hs e e₁ n₁).kp (noOwnOk h) (fun o w => (hs.2 b z).trans w) (B.hr b q e').1, (B.hr b q e').2⟩
end heap

inductive PF where
  | next | brk | cont
  | ret (v : PV)
noncomputable def FR (H : PH) (h : Heap) : Flow → PF → Prop
  | .next, .next => True
  | .brk, .brk => True
  | .cont, .cont => True
  | .ret v, .ret d => VR H h v d
  | _, _ => False

noncomputable def ownOf (env : Env) : Addr → Prop := fun b => b = env.locals ∨ env.func.isSome = true ∧ ∃ x, env.cells.lookup x = some b
theorem ER.ownOk {g : Gd} {env : Env} {l : PL} {H : PH} {h : Heap} (R : ER g env l H h) : OwnOk (ownOf env) h := by
  rintro b o (rfl | ⟨_, x, e⟩) q
  · obtain ⟨m, ⟨o', es, ep, e', d, _⟩, _⟩ := R.ns
    rw [q] at e'; obtain rfl := Option.some.inj e'; exact .inl ⟨es, ep, d⟩
  · obtain ⟨_, w, o', e', d⟩ := R.cells x b e
    rw [q] at e'; obtain rfl := Option.some.inj e'; exact .inr (.inl ⟨w, d⟩)

noncomputable def PostS (g : Gd) (env : Env) (H : PH) (s : Shared) (Q : PF → PL → PH → Prop) (Q' : Flow → Shared → Prop) : Prop :=
  ∀ f pf l' H' h' tk, ER g env l' H' h' → StpO (ownOf env) H s.heap H' h' → FR H' h' f pf → Q pf l' H' → Q' f { s with heap := h', toks := tk }
noncomputable def PostU (g : Gd) (env : Env) (H : PH) (s : Shared) (Q : PL → PH → Prop) (Q' : Unit → Shared → Prop) : Prop :=
  ∀ l' H' h' tk, ER g env l' H' h' → StpO (ownOf env) H s.heap H' h' → Q l' H' → Q' () { s with heap := h', toks := tk }
theorem PostS.after {g : Gd} {env : Env} {H H₁ : PH} {s : Shared} {h₁ : Heap} {tk₁ : Nat} {Q : PF → PL → PH → Prop} {Q' : Flow → Shared → Prop} (P : PostS g env H s Q Q') (S : StpO (ownOf env) H s.heap H₁ h₁) : PostS g env H₁ { s with heap := h₁, toks := tk₁ } Q Q' :=
  fun f pf l' H' h' tk R S' V q => P f pf l' H' h' tk R (S.trans S') V q
theorem PostU.after {g : Gd} {env : Env} {H H₁ : PH} {s : Shared} {h₁ : Heap} {tk₁ : Nat} {Q : PL → PH → Prop} {Q' : Unit → Shared → Prop} (P : PostU g env H s Q Q') (S : StpO (ownOf env) H s.heap H₁ h₁) : PostU g env H₁ { s with heap := h₁, toks := tk₁ } Q Q' :=
  fun l' H' h' tk R S' q => P l' H' h' tk R (S.trans S') q
section
variable (g : Gd) (A : Around) (env : Env) (l : PL) (H : PH)
noncomputable def ST (st : Stmt) (Q : PF → PL → PH → Prop) : Prop := ∀ s Q', ER g env l H s.heap → PostS g env H s Q Q' → wpAny g.m A (exec st env) Q' noE s
noncomputable def SS (sts : List Stmt) (Q : PF → PL → PH → Prop) : Prop := ∀ s Q', ER g env l H s.heap → PostS g env H s Q Q' → wpAny g.m A (execs sts env) Q' noE s
noncomputable def AT (t : Expr) (v : PV) (Q : PL → PH → Prop) : Prop := ∀ u s Q', ER g env l H s.heap → VR H s.heap u v → PostU g env H s Q Q' → wpAny g.m A (assign t env u) Q' noE s
end

section
variable {g : Gd} {A : Around} {env : Env} {l : PL} {H : PH}

theorem ER.swap {h h' : Heap} (R : ER g env l H h) (B : BR g H h') (_S : StpO (ownOf env) H h H h') {m' : Str → Option Value} (hn : h'.Ns env.locals m')
    (hc : ∀ x c, env.cells.lookup x = some c → ∃ w, h'.IsCell c w) {l' : PL}
    (k1 : ∀ x pv, l' x = some pv → env.kindOf x = some .local → ∃ v, VR H h' v pv ∧ m' x = some v)
    (k2 : ∀ x pv, l' x = some pv → env.kindOf x ≠ some .local → (env.kindOf x = some .cell ∨ env.kindOf x = some .free ∧ (x == ("__classdict__" : Str)) = false) ∧ ∃ v c, VR H h' v pv ∧ env.cells.lookup x = some c ∧ h'.IsCell c (some v)) : ER g env l' H h' where
  br := B
  ns := ⟨m', hn, k1⟩
  nc := k2
  hl := R.hl
  gl := R.gl
  cells := fun x c e => ⟨(R.cells x c e).1, hc x c e⟩
  inj := R.inj
  has := R.has

theorem store {x : Str} {v : Value} {pv : PV} {s : Shared} {Q' : Unit → Shared → Prop} (O : EnvOk env) (R : ER g env l H s.heap) (V : VR H s.heap v pv)
    (hk : env.kindOf x = some .local ∨ env.kindOf x = some .cell ∧ env.func.isSome = true)
    (P : PostU g env H s (fun l' H' => l' = upd l x pv ∧ H' = H) Q') : wpAny g.m A (storeName env x v) Q' noE s := by
  have W := R.ownOk
  rcases hk with hk | ⟨hk, hc⟩
  · obtain ⟨m, hn, q⟩ := R.ns
    refine wpAny_storeName_local hk hn (fun h' hn' hs => ?_) (by rw [O.kind]; rfl)
    obtain ⟨o₁, e₁⟩ := Ns.obj hn'
    have S : StpO (ownOf env) H s.heap H h' := Stp.same hs e₁ (.inl rfl)
    have B := R.br.same S.kp W hs R.hl R.gl
    have cne : ∀ y c, env.cells.lookup y = some c → ∀ w, s.heap.IsCell c w → h'.IsCell c w := fun y c e w ⟨oc, eo, hd⟩ => by
      refine ⟨oc, (hs.2 c fun z => ?_).trans eo, hd⟩
      obtain ⟨o', es, ep, e', d', _⟩ := hn
      rw [← show c = env.locals from z, eo] at e'; obtain rfl := Option.some.inj e'; rw [hd] at d'; cases d'
    refine P _ _ h' _ (R.swap B S hn' (fun y c e => ?_) (fun y p e kd => ?_) (fun y p e kd => ?_)) S ⟨rfl, rfl⟩
    · obtain ⟨_, w, hw⟩ := R.cells y c e; exact ⟨w, cne y c e w hw⟩
    · by_cases z : y = x
      · subst z; rw [upd_at] at e; obtain rfl := Option.some.inj e; exact ⟨v, V.step R.br S.kp W, if_pos rfl⟩
      · rw [upd_ne z] at e; obtain ⟨u, U, hu⟩ := q y p e kd; exact ⟨u, U.step R.br S.kp W, (if_neg z).trans hu⟩
    · have z : y ≠ x := fun z => kd (z ▸ hk)
      rw [upd_ne z] at e
      obtain ⟨a, u, c, U, hcl, hcell⟩ := R.nc y p e kd
      exact ⟨a, u, c, U.step R.br S.kp W, hcl, cne y c hcl _ hcell⟩
  · have hf := hc
    obtain ⟨c, hc⟩ := Option.isSome_iff_exists.mp (R.has x hk)
    obtain ⟨hgc, w, hw⟩ := R.cells x c hc
    obtain ⟨oc, eoc, hdc⟩ := id hw
    refine wpAny_storeName_cell O.kind hk hc hw (fun h' hn' hs => ?_)
    obtain ⟨o₁, e₁, hd₁⟩ := id hn'
    have S : StpO (ownOf env) H s.heap H h' := Stp.same hs e₁ (.inr ⟨hf, x, hc⟩)
    have B := R.br.same S.kp W hs (R.br.fixed eoc (.inr (.inr (.inl ⟨_, hdc⟩)))) hgc
    obtain ⟨m, hn, q⟩ := R.ns
    have lne : env.locals ≠ c := fun z => by
      obtain ⟨o', es, ep, e', d', _⟩ := hn
      rw [z, eoc] at e'; obtain rfl := Option.some.inj e'; rw [hdc] at d'; cases d'
    refine P _ _ h' _ (R.swap B S (hn.sameBut hs lne) (fun y d e => ?_) (fun y p e kd => ?_) (fun y p e kd => ?_)) S ⟨rfl, rfl⟩
    · by_cases z : d = c
      · exact ⟨_, z ▸ hn'⟩
      · obtain ⟨_, w, od, eo, hd⟩ := R.cells y d e; exact ⟨w, od, (hs.2 d z).trans eo, hd⟩
    · have z : y ≠ x := fun z => by rw [z, hk] at kd; cases kd
      rw [upd_ne z] at e; obtain ⟨u, U, hu⟩ := q y p e kd; exact ⟨u, U.step R.br S.kp W, hu⟩
    · by_cases z : y = x
      · subst z; rw [upd_at] at e; obtain rfl := Option.some.inj e
        exact ⟨.inl hk, v, c, V.step R.br S.kp W, hc, hn'⟩
      · rw [upd_ne z] at e
        obtain ⟨a, u, d, U, hcl, od, eo, hd⟩ := R.nc y p e kd
        exact ⟨a, u, d, U.step R.br S.kp W, hcl, od, (hs.2 d fun q => z (R.inj y x d hcl (by rw [show d = c from q]; exact hc))).trans eo, hd⟩

noncomputable def StoreK (env : Env) (x : Str) : Prop := env.kindOf x = some .local ∨ env.kindOf x = some .cell ∧ env.func.isSome = true
theorem AT.name {x : Str} {pos : Pos} {v : PV} {Q : PL → PH → Prop} (O : EnvOk env) (hk : StoreK env x) (h : Q (upd l x v) H) : AT g A env l H (.Name x pos) v Q := by
  intro u s Q' R V P
  refine wpAny_assign_Name (store O R V hk fun l' H' h' tk R' S ⟨e1, e2⟩ => ?_)
  subst e1 e2; exact P _ _ h' tk R' S h

theorem SS.nil {Q : PF → PL → PH → Prop} (h : Q .next l H) : SS g A env l H [] Q :=
  fun s _ R P => wpAny_execs_nil (P .next .next l H s.heap s.toks R (Stp.refl _ _) trivial h)
theorem SS.cons {st : Stmt} {rest : List Stmt} {Q : PF → PL → PH → Prop} (h : ST g A env l H st fun f l₁ H₁ => match f with | .next => SS g A env l₁ H₁ rest Q | f => Q f l₁ H₁) : SS g A env l H (st :: rest) Q := by
  intro s Q' R P
  refine wpAny_execs_cons (h s _ R ?_)
  intro f pf l₁ H₁ h₁ t₁ R₁ S₁ V₁ q₁
  cases f <;> cases pf <;> first | exact V₁.elim | exact q₁ _ _ R₁ (P.after S₁) | exact P _ _ l₁ H₁ h₁ t₁ R₁ S₁ V₁ q₁
theorem SS.mono {sts : List Stmt} {Q Q₁ : PF → PL → PH → Prop} (h : SS g A env l H sts Q₁) (k : ∀ f l' H', Q₁ f l' H' → Q f l' H') : SS g A env l H sts Q :=
  fun s Q' R P => h s Q' R fun f pf l' H' h' tk R' S V q => P f pf l' H' h' tk R' S V (k _ _ _ q)

/-- from an expression to a statement -/
theorem Stp.own {H' : PH} {h h' : Heap} (S : Stp H h H' h') : StpO (ownOf env) H h H' h' := S.to

theorem ST.ret {e : Expr} {pos : Pos} {Q : PF → PL → PH → Prop} (h : ET g A env l H e fun v H₁ => Q (.ret v) l H₁) : ST g A env l H (.Return (some e) pos) Q := by
  intro s Q' R P
  refine wpAny_Return_some (h s _ R ?_)
  intro v pv H₁ h₁ t₁ B₁ S₁ V₁ q₁
  exact P (.ret v) (.ret pv) l H₁ h₁ t₁ (R.after B₁ S₁) S₁.own V₁ q₁
theorem ST.expr {e : Expr} {pos : Pos} {Q : PF → PL → PH → Prop} (O : EnvOk env) (hs : ∀ env, swapsWith e Option.none pos.line env = pure false) (h : ET g A env l H e fun v H₁ => v = .none ∧ Q .next l H₁) : ST g A env l H (.Expr e pos) Q := by
  intro s Q' R P
  refine wpAny_Expr (h s _ R ?_) (by simp [interactive, O.kind]) (hs _)
  intro v pv H₁ h₁ t₁ B₁ S₁ V₁ ⟨e₁, q₁⟩
  subst e₁
  cases V₁
  exact P .next .next l H₁ h₁ t₁ (R.after B₁ S₁) S₁.own trivial q₁
theorem ST.ite {t : Expr} {a b : List Stmt} {pos : Pos} {Q : PF → PL → PH → Prop} (h : BT g A env l H t fun c H₁ => if c = true then SS g A env l H₁ a Q else SS g A env l H₁ b Q) : ST g A env l H (.If t a b pos) Q := by
  intro s Q' R P
  refine wpAny_If (h s _ R ?_)
  intro c H₁ h₁ t₁ B₁ S₁ q₁
  cases c with
  | true => exact q₁ _ _ (R.after B₁ S₁) (P.after S₁.own)
  | false => exact q₁ _ _ (R.after B₁ S₁) (P.after S₁.own)
/-- an assignment to a name of what is no comprehension -/
theorem ST.assign {x : Str} {xp pos : Pos} {e : Expr} {Q : PF → PL → PH → Prop} (O : EnvOk env) (hk : StoreK env x)
    (hs : swapsWith e (some (.Name x xp)) pos.line env = pure false) (h : ET g A env l H e fun v H₁ => Q .next (upd l x v) H₁) : ST g A env l H (.Assign [.Name x xp] e pos) Q := by
  intro s Q' R P
  refine wpAny_Assign_Name (h s _ R ?_) hs
  intro v pv H₁ h₁ t₁ B₁ S₁ V₁ q₁
  refine store O (R.after B₁ S₁) V₁ hk fun l' H' h' tk R' S ⟨e1, e2⟩ => ?_
  subst e1 e2
  exact P .next .next _ _ h' tk R' (S₁.own.trans S) trivial q₁
theorem ST.aug {x : Str} {xp pos : Pos} {op : Operator} {e : Expr} {v₀ : PV} {Q : PF → PL → PH → Prop} (O : EnvOk env) (hk : StoreK env x)
    (hv : l x = some v₀) (h : ET g A env l H e fun v H₁ => InpT g A H₁ op v₀ v fun r H₂ => Q .next (upd l x r) H₂) : ST g A env l H (.AugAssign (.Name x xp) op e pos) Q := by
  intro s Q' R P
  refine wpAny_AugAssign_Name ?_
  have go : ∀ u, VR H s.heap u v₀ → wpAny g.m A (eval e env) (fun v s₂ => wpAny g.m A (inplaceOp op u v) (fun r s₃ => wpAny g.m A (storeName env x r) (fun _ => Q' Flow.next) noE s₃) noE s₂) noE s := by
    intro u U
    refine h s _ R ?_
    intro v pv H₁ h₁ t₁ B₁ S₁ V₁ q₁
    refine q₁ u v _ _ (U.after R.br S₁) V₁ B₁ ?_
    intro r pr H₂ h₂ t₂ B₂ S₂ V₂ q₂
    refine store O ((R.after B₁ S₁).after B₂ S₂) V₂ hk fun l' H' h' tk R' S ⟨e1, e2⟩ => ?_
    subst e1 e2
    exact P .next .next _ _ h' tk R' ((Stp.own (S₁.trans S₂)).trans S) trivial q₂
  rcases hk with k | ⟨k, _⟩
  · obtain ⟨m, hn, q⟩ := R.ns
    obtain ⟨u, U, hm⟩ := q x v₀ hv k
    exact wpAny_loadName_local O.kind k hn hm (go u U)
  · obtain ⟨_, u, c, U, hc, hcell⟩ := R.nc x v₀ hv (by rw [k]; decide)
    exact wpAny_loadName_cell O.kind k hc hcell (go u U)

theorem noted_noE {M : Model} {R : Value → Shared → Prop} : ∀ (e : Value) (s : Shared), noE e s → notedBy M A env R e s := fun _ _ z => z.elim

/-- a while, by a word that holds at each test, with a number that falls -/
theorem ST.while {t : Expr} {body orelse : List Stmt} {pos : Pos} {Q : PF → PL → PH → Prop} (I : Nat → PL → PH → Prop)
    (turn : ∀ n l H, I n l H → BT g A env l H t fun c H₁ => if c = true then SS g A env l H₁ body (fun f l₂ H₂ => match f with | .next | .cont => ∃ m, m < n ∧ I m l₂ H₂ | .brk => Q .next l₂ H₂ | .ret v => Q (.ret v) l₂ H₂) else SS g A env l H₁ orelse Q)
    (n : Nat) (h : I n l H) : ST g A env l H (.While t body orelse pos) Q := by
  intro s Q' R P
  refine wpAny_While (codeAny_whileLoop (fun n s' => ∃ l' H' h' tk, s' = { s with heap := h', toks := tk } ∧ ER g env l' H' h' ∧ StpO (ownOf env) H s.heap H' h' ∧ I n l' H') ?_ n ⟨l, H, s.heap, s.toks, rfl, R, Stp.refl _ _, h⟩)
  rintro n s' ⟨l', H', h', tk, rfl, R', S', hI⟩
  refine wpAny_mono (turn n l' H' hI _ _ R' ?_) (fun _ _ x => x) noted_noE
  intro c H₁ h₁ t₁ B₁ S₁ q₁
  have S₂ := S'.trans S₁.own
  cases c with
  | true =>
    simp only [if_true] at q₁ ⊢
    refine wpAny_mono (q₁ _ _ (R'.after B₁ S₁) ?_) (fun _ _ x => x) noted_noE
    intro f pf l₂ H₂ h₂ t₂ R₂ S₃ V₂ q₂
    cases f <;> cases pf <;> first | exact V₂.elim | skip
    · obtain ⟨m, hm, hI⟩ := q₂; exact ⟨m, hm, _, _, h₂, t₂, rfl, R₂, S₂.trans S₃, hI⟩
    · exact P .next .next _ _ h₂ t₂ R₂ (S₂.trans S₃) trivial q₂
    · obtain ⟨m, hm, hI⟩ := q₂; exact ⟨m, hm, _, _, h₂, t₂, rfl, R₂, S₂.trans S₃, hI⟩
    · exact P (.ret _) (.ret _) _ _ h₂ t₂ R₂ (S₂.trans S₃) V₂ q₂
  | false =>
    simp only [Bool.false_eq_true, if_false] at q₁ ⊢
    refine wpAny_mono (q₁ _ _ (R'.after B₁ S₁) ?_) (fun _ _ x => x) noted_noE
    intro f pf l₂ H₂ h₂ t₂ R₂ S₃ V₂ q₂
    exact P f pf _ _ h₂ t₂ R₂ (S₂.trans S₃) V₂ q₂
end
end Mine
end
section
open PySem PySem.W PyProof.Rows PySem.Calls PySem.Spec
namespace Mine
/-- a continuation behind a variable: the terms stay small -/
noncomputable def GK (Q K : PF → PL → PH → Prop) : Prop := ∀ f l H, Q f l H → K f l H
theorem GK.use {Q K : PF → PL → PH → Prop} (h : GK Q K) {f : PF} {l : PL} {H : PH} (q : Q f l H) : K f l H := h _ _ _ q
theorem ST.gen {g : Gd} {A : Around} {env : Env} {l : PL} {H : PH} {st : Stmt} {Q : PF → PL → PH → Prop} (h : ∀ K, GK Q K → ST g A env l H st K) : ST g A env l H st Q := h Q fun _ _ _ q => q
theorem len0 {α : Type} {vs : List α} (h : vs.length = 0) : vs = [] := List.eq_nil_of_length_eq_zero h
theorem len1 {α : Type} {vs : List α} (h : vs.length = 1) : ∃ x0, vs = [x0] := by
  cases vs with
  | nil => cases h
  | cons x r => exact ⟨x, congrArg (x :: ·) (len0 (Nat.succ.inj h))⟩
theorem len2 {α : Type} {vs : List α} (h : vs.length = 2) : ∃ x0 x1, vs = [x0, x1] := by
  cases vs with
  | nil => cases h
  | cons x r => obtain ⟨y0, e⟩ := len1 (Nat.succ.inj h); exact ⟨x, y0, congrArg (x :: ·) e⟩
theorem len3 {α : Type} {vs : List α} (h : vs.length = 3) : ∃ x0 x1 x2, vs = [x0, x1, x2] := by
  cases vs with
  | nil => cases h
  | cons x r => obtain ⟨y0, y1, e⟩ := len2 (Nat.succ.inj h); exact ⟨x, y0, y1, congrArg (x :: ·) e⟩
theorem len4 {α : Type} {vs : List α} (h : vs.length = 4) : ∃ x0 x1 x2 x3, vs = [x0, x1, x2, x3] := by
  cases vs with
  | nil => cases h
  | cons x r => obtain ⟨y0, y1, y2, e⟩ := len3 (Nat.succ.inj h); exact ⟨x, y0, y1, y2, congrArg (x :: ·) e⟩
theorem len5 {α : Type} {vs : List α} (h : vs.length = 5) : ∃ x0 x1 x2 x3 x4, vs = [x0, x1, x2, x3, x4] := by
  cases vs with
  | nil => cases h
  | cons x r => obtain ⟨y0, y1, y2, y3, e⟩ := len4 (Nat.succ.inj h); exact ⟨x, y0, y1, y2, y3, congrArg (x :: ·) e⟩
theorem len6 {α : Type} {vs : List α} (h : vs.length = 6) : ∃ x0 x1 x2 x3 x4 x5, vs = [x0, x1, x2, x3, x4, x5] := by
  cases vs with
  | nil => cases h
  | cons x r => obtain ⟨y0, y1, y2, y3, y4, e⟩ := len5 (Nat.succ.inj h); exact ⟨x, y0, y1, y2, y3, y4, congrArg (x :: ·) e⟩
theorem VRs.inv {H : PH} {h : Heap} {vs : List Value} {d : PV} {ds : List PV} (V : VRs H h vs (d :: ds)) : ∃ v r, vs = v :: r ∧ VR H h v d ∧ VRs H h r ds := by
  cases V with
  | cons a b => exact ⟨_, _, rfl, a, b⟩
end Mine
end
section
open PySem PySem.W PyProof.Rows PySem.Calls PySem.Spec
set_option maxRecDepth 100000

namespace Mine

/-! calls of the text's own defs -/
theorem bindL_not {kindOf : Str → Option NameKind} {x : Str} : ∀ (ns : List Str) (vs : List Value) (m : Str → Option Value), x ∉ ns → bindL kindOf (ns.zip vs) m x = m x
  | [], _, _, _ => by simp [bindL]
  | _ :: _, [], _, _ => by simp [bindL]
  | n :: ns, v :: vs, m, h => by
    rw [List.zip_cons_cons, bindL, bindL_not ns vs _ fun z => h (.tail _ z)]
    split
    · exact if_neg fun (z : x = n) => h (by rw [z]; exact List.mem_cons_self)
    · rfl
theorem bindC_not {kindOf : Str → Option NameKind} {x : Str} : ∀ (ns : List Str) (vs : List Value) (m : Str → Option Value), x ∉ ns → bindC kindOf (ns.zip vs) m x = m x
  | [], _, _, _ => by simp [bindC]
  | _ :: _, [], _, _ => by simp [bindC]
  | n :: ns, v :: vs, m, h => by
    rw [List.zip_cons_cons, bindC, bindC_not ns vs _ fun z => h (.tail _ z)]
    split
    · rfl
    · exact if_neg fun (z : x = n) => h (by rw [z]; exact List.mem_cons_self)
theorem lookup_mem {β : Type} {x : Str} {v : β} : ∀ (l : List (Str × β)), l.lookup x = some v → (x, v) ∈ l
  | [], q => by cases q
  | (a, b) :: r, q => by
    rw [List.lookup_cons] at q
    by_cases z : x = a
    · subst z; rw [show (x == x) = true from beq_iff_eq.mpr rfl] at q; obtain rfl := Option.some.inj q; exact List.mem_cons_self
    · rw [show (x == a) = false from beq_eq_false_iff_ne.mpr z] at q; exact List.mem_cons_of_mem _ (lookup_mem r q)
theorem bindL_get {kindOf : Str → Option NameKind} {x : Str} (hx : kindOf x = some .local) : ∀ (ns : List Str) (vs : List Value) (m : Str → Option Value) (v : Value), ns.Nodup → (ns.zip vs).lookup x = some v → bindL kindOf (ns.zip vs) m x = some v
  | [], _, _, _, _, h => by simp at h
  | _ :: _, [], _, _, _, h => by simp at h
  | n :: ns, u :: vs, m, v, hn, h => by
    rw [List.zip_cons_cons, List.lookup_cons] at h
    rw [List.zip_cons_cons, bindL]
    by_cases z : x = n
    · subst z
      rw [show (x == x) = true from beq_iff_eq.mpr rfl] at h
      obtain rfl := Option.some.inj h
      rw [if_pos hx, bindL_not ns vs _ (List.nodup_cons.mp hn).1]
      exact if_pos rfl
    · rw [show (x == n) = false from beq_eq_false_iff_ne.mpr z] at h
      exact bindL_get hx ns vs _ v (List.nodup_cons.mp hn).2 h
theorem bindC_get {kindOf : Str → Option NameKind} {x : Str} (hx : kindOf x ≠ some .local) : ∀ (ns : List Str) (vs : List Value) (m : Str → Option Value) (v : Value), ns.Nodup → (ns.zip vs).lookup x = some v → bindC kindOf (ns.zip vs) m x = some v
  | [], _, _, _, _, h => by simp at h
  | _ :: _, [], _, _, _, h => by simp at h
  | n :: ns, u :: vs, m, v, hn, h => by
    rw [List.zip_cons_cons, List.lookup_cons] at h
    rw [List.zip_cons_cons, bindC]
    by_cases z : x = n
    · subst z
      rw [show (x == x) = true from beq_iff_eq.mpr rfl] at h
      obtain rfl := Option.some.inj h
      rw [if_neg hx, bindC_not ns vs _ (List.nodup_cons.mp hn).1]
      exact if_pos rfl
    · rw [show (x == n) = false from beq_eq_false_iff_ne.mpr z] at h
      exact bindC_get hx ns vs _ v (List.nodup_cons.mp hn).2 h
theorem VRs.lookup {H : PH} {h : Heap} {x : Str} : ∀ {ns : List Str} {vs : List Value} {ds : List PV} {d : PV}, VRs H h vs ds → (ns.zip ds).lookup x = some d → ∃ v, (ns.zip vs).lookup x = some v ∧ VR H h v d
  | [], _, _, _, _, e => by simp at e
  | _ :: _, _, _, _, .nil, e => by simp at e
  | n :: ns, _, _, d, .cons (v := v) V r, e => by
    rw [List.zip_cons_cons, List.lookup_cons] at e
    rw [List.zip_cons_cons, List.lookup_cons]
    by_cases z : (x == n) = true
    · rw [z] at e ⊢; obtain rfl := Option.some.inj e; exact ⟨v, rfl, V⟩
    · rw [Bool.not_eq_true] at z; rw [z] at e ⊢; exact VRs.lookup r e
theorem VRs.length {H : PH} {h : Heap} : ∀ {vs : List Value} {ds : List PV}, VRs H h vs ds → vs.length = ds.length
  | _, _, .nil => rfl
  | _, _, .cons _ r => congrArg (· + 1) r.length

/-- room on the stacks -/
structure Room (A : Around) (n : Nat) : Prop where
  hh : A.handled = none
  d : A.depth + n ≤ 990
  u : A.units + 4 * n ≤ 9000
theorem Room.le {A : Around} {n k : Nat} (R : Room A n) (h : k ≤ n) : Room A k := ⟨R.hh, by have := R.d; omega, by have := R.u; omega⟩
theorem Room.deeper {A : Around} {n : Nat} {e : Env} (R : Room A (n + 1)) : Room (A.deeper e) n :=
  ⟨R.hh, by have := R.d; show A.depth + 1 + n ≤ 990; omega, by have := R.u; show A.units + 3 + 4 * n ≤ 9000; omega⟩

noncomputable def parms (ns : List Str) (ds : List PV) : PL := fun x => (ns.zip ds).lookup x

section
variable {g : Gd} {A : Around} {env : Env} {l : PL} {H : PH} {Q : PV → PH → Prop}

theorem CT.fn {f : Addr} {fo : Obj} {fd : FuncData} {body : List Stmt} {ns : List Str} {args : List PV} {n : Nat} (hG : g.Ok) (hR : Room A (n + 1))
    (ho : g.K.lookup f = some fo) (hfd : fo.data = .func fd) (hb : fd.body = .stmts body) (hcode : codeIn g.K fd.code fd.qualname = true)
    (hco : fd.scope.isCoroutine = false) (hgen : fd.scope.isGenerator = false) (hk : fd.scope.kind = .function) (hcl : fd.closure = []) (hgl : fd.globals = mainGlobals) (hbi : fd.builtins = builtinsNs)
    (hbind : ∀ s vs, vs.length = ns.length → BindsTo s fd ⟨vs, []⟩ (ns.zip vs)) (hnd : ns.Nodup)
    (hns : (ns.all fun x => fd.scope.names.lookup x == some .local || fd.scope.names.lookup x == some .cell) = true) (hlen : args.length = ns.length)
    (h : ∀ (e : Env) (A' : Around), EnvOk { e with scope := fd.scope } → e.func.isSome = true → Room A' n → SS g A' { e with scope := fd.scope } (parms ns args) H body fun fl _ H' => match fl with | .ret v => Q v H' | .next => Q .none H' | _ => False) : CT g A H (.ref f) args Q := by
  intro vs s Q' V B P
  have X : g.K.In s.heap := hG.kin.keeps B.keep
  have lim : s.heap.NoLimit := hG.top.nolimit.keeps B.keep
  refine wpAny_call (codeAny_call_function (by have := hR.d; show A.depth < 1000; omega) (X _ _ ho) hfd hco hgen hb (codeRec_of X hcode) ?_)
  have hz : vs.length = ns.length := V.length.trans hlen
  refine hbind s vs hz _ _ _ _ ?_
  have hnames : ∀ x ∈ ns.zip vs, fd.scope.names.lookup x.1 = some .local ∨ fd.scope.names.lookup x.1 = some .cell := fun x hx => by
    have z := List.all_eq_true.mp hns x.1 (List.of_mem_zip hx).1
    simpa using z
  rw [hcl]
  refine wpAny_newFunctionEnv_cells hk (fun x hx => (hnames x hx).imp id fun q => ⟨q, cellsFrom_some _ _ _ (.inl q)⟩) fun env he s' I => ?_
  obtain ⟨h₁, tk, rfl, _⟩ := I.done
  have keep := I.toInCall.keep
  refine ⟨lim.keeps keep, codeAny_func ?_⟩
  subst he
  have Lsize : s.heap.objs.size ≤ s.heap.objs.size := Nat.le_refl _
  generalize hE : newEnv fd.scope s.heap.objs.size fd.globals (cellsFrom (s.heap.objs.size + 1) fd.scope.names []) (fd.qualname ++ ".<locals>.") (some f) fd.code none fd.builtins = env at I ⊢
  have eS : env.scope = fd.scope := by rw [← hE]; rfl
  have eL : env.locals = s.heap.objs.size := by rw [← hE]; rfl
  have eC : env.cells = cellsFrom (s.heap.objs.size + 1) fd.scope.names [] := by rw [← hE]; rfl
  have eG : env.globals = mainGlobals := by rw [← hE]; exact hgl
  have eB : env.builtins = builtinsNs := by rw [← hE]; exact hbi
  have eE : ({ env with scope := fd.scope } : Env) = env := by cases env; cases eS; rfl
  have B₁ : BR g H h₁ := B.grown keep
  have S₁ : Stp H s.heap H h₁ := Stp.grown keep
  have gfresh : ∀ c, s.heap.objs.size ≤ c → g.G.get? c = none := fun c hc => by
    cases q : g.G.get? c with
    | none => rfl
    | some o => exact absurd (Heap.lt_size (B.keep _ o q)) (Nat.not_lt.mpr hc)
  have kd : ∀ x, env.kindOf x = fd.scope.names.lookup x := fun x => by unfold Env.kindOf; rw [eS]
  have R : ER g env (parms ns args) H h₁ := by
    refine ⟨B₁, ⟨_, by rw [eL]; exact (eL ▸ I.toInCall.ns), fun x pv e k => ?_⟩, fun x pv e k => ?_, ?_, ?_, fun x c e => ?_, fun x y c e e' => ?_, fun x e => ?_⟩
    · obtain ⟨v, e', V'⟩ := VRs.lookup V e
      exact ⟨v, V'.after B S₁, bindL_get k ns vs _ v hnd e'⟩
    · obtain ⟨v, e', V'⟩ := VRs.lookup V e
      have hm : (x, v) ∈ ns.zip vs := lookup_mem _ e'
      have hcell : env.kindOf x = some .cell := ((hnames _ hm).resolve_left fun q => k ((kd x).trans q) |>.elim).symm ▸ kd x
      have hs := cellsFrom_some (x := x) fd.scope.names (s.heap.objs.size + 1) [] (.inl ((kd x).symm.trans hcell))
      rw [← eC] at hs
      obtain ⟨c, hc⟩ := Option.isSome_iff_exists.mp hs
      have z := I.cell x c hc
      rw [bindC_get k ns vs _ v hnd e'] at z
      exact ⟨.inl hcell, v, c, V'.after B S₁, hc, z⟩
    · rw [eL]; exact B.fresh
    · rw [eL]; exact B.gfresh
    · have hm : (x, c) ∈ env.cells := lookup_mem _ e
      have := I.above x c hm
      rw [eL] at this
      exact ⟨gfresh c (Nat.le_of_lt this), _, I.cell x c e⟩
    · have key : ∀ (l : List (Str × Addr)), l.Pairwise (fun x y => x.2 ≠ y.2) → l.lookup x = some c → l.lookup y = some c → x = y := fun l => by
        have mem : ∀ (l : List (Str × Addr)) (u : Str), l.lookup u = some c → ∃ p ∈ l, p.2 = c := fun l u q => ⟨_, lookup_mem l q, rfl⟩
        induction l with
        | nil => intro _ q; cases q
        | cons p r ih =>
          obtain ⟨a, b⟩ := p
          intro hp q q'
          rw [List.lookup_cons] at q q'
          obtain ⟨h1, h2⟩ := List.pairwise_cons.mp hp
          by_cases z : x = a
          · by_cases z' : y = a
            · rw [z, z']
            · subst z
              rw [show (x == x) = true from beq_iff_eq.mpr rfl] at q
              rw [show (y == x) = false from beq_eq_false_iff_ne.mpr z'] at q'
              obtain ⟨p, hp, e⟩ := mem r y q'
              exact absurd ((Option.some.inj q).trans e.symm) (h1 p hp)
          · rw [show (x == a) = false from beq_eq_false_iff_ne.mpr z] at q
            by_cases z' : y = a
            · subst z'
              rw [show (y == y) = true from beq_iff_eq.mpr rfl] at q'
              obtain ⟨p, hp, e⟩ := mem r x q
              exact absurd ((Option.some.inj q').trans e.symm) (h1 p hp)
            · rw [show (y == a) = false from beq_eq_false_iff_ne.mpr z'] at q'
              exact ih h2 q q'
      exact key _ I.apart e e'
    · rw [eC]; exact cellsFrom_some _ _ _ (.inl ((kd x).symm.trans e))
  have O : EnvOk env := ⟨by rw [eS]; exact hk, eG, eB⟩
  have eF : env.func.isSome = true := by rw [← hE]; rfl
  have z := h env (A.deeper env) (eE ▸ O) eF hR.deeper
  rw [eE] at z
  refine wpAny_mono (z _ (fun f s' => (match (Except.ok (Flow.ret (match f with | .ret v => v | _ => .none)) : Result) with | .ok (.ret v) => Q' v s' | .ok _ => False | .error _ => False)) R ?_) (fun f s' x => x) (fun _ _ x => x.elim)
  intro f pf l' H' h' tk' R' S' V' q
  have S : Stp H s.heap H' h' := by
    refine ⟨fun b o e hn _ => S'.keep b o (keep b o e) hn fun w => ?_, fun b o e hn => S'.dom b o (keep b o e) hn, fun b o e => S'.alive b o (keep b o e), S'.idle⟩
    have hlt := Heap.lt_size e
    rcases w with w | ⟨_, x, w⟩
    · rw [show b = env.locals from w, eL] at hlt; exact Nat.lt_irrefl _ hlt
    · have hm : ∃ y, (y, b) ∈ env.cells := ⟨_, lookup_mem _ w⟩
      obtain ⟨y, hy⟩ := hm
      have := I.above y b hy
      rw [eL] at this
      exact Nat.lt_asymm hlt this
  cases f <;> cases pf <;> first | exact V'.elim | exact q.elim | exact P _ _ H' h' tk' R'.br S .none q | exact P _ _ H' h' tk' R'.br S V' q

/-! calls in general -/
noncomputable def plainArg : Expr → Bool
  | .Starred .. => false
  | _ => true
theorem starEach_cons {e : Expr} {rest : List Expr} (h : plainArg e = true) (env : Env) : starEach (e :: rest) env = (false, eval e env) :: starEach rest env := by
  cases e <;> first | rfl | cases h
theorem starEach_any (pos : Pos) (env : Env) : ∀ {as : List Expr}, as.all plainArg = true → (backTo pos (starEach as env)).any (·.1) = false
  | [], _ => rfl
  | e :: r, h => by
    obtain ⟨h1, h2⟩ := Bool.and_eq_true_iff.mp h
    rw [starEach_cons h1 env]
    show (false || (backTo pos (starEach r env)).any (·.1)) = false
    rw [starEach_any pos env h2]; rfl
noncomputable def CallK (g : Gd) (u : Value) : Prop := (∃ b, u = .builtin b) ∨ (∃ t, u = .type t) ∨ keepIn g.K u = true
theorem CallK.keeps {g : Gd} {u : Value} (C : CallK g u) (M : Model) (h : Heap) (X : g.K.In h) : ∃ k, (k = Keeper.frame ∨ k = Keeper.machine ∨ k = Keeper.boundFrame) ∧ Looks M h (keeperOf u) k := by
  rcases C with ⟨b, rfl⟩ | ⟨t, rfl⟩ | e
  · exact ⟨.machine, .inr (.inl rfl), Looks.of_pure rfl⟩
  · exact ⟨.machine, .inr (.inl rfl), Looks.of_pure rfl⟩
  · exact keeps_K e h X
theorem callWith_any {pos : Pos} {f : Value} {first : List Value} {as : List Expr} {s : Shared} {Q' : Value → Shared → Prop} {fs : List PV} (hG : g.Ok) (C : CallK g f) (hst : as.all plainArg = true) (R : ER g env l H s.heap) (V : VRs H s.heap first fs)
    (h : ETs g A env l H as fun vs H₂ => CT g A H₂ f (fs ++ vs) Q) (P : Post g H s Q Q') : wpAny g.m A (callWith pos f first (backTo pos (starEach as env)) []) Q' noE s := by
  refine callWith_of (P := g.K.In) (by rw [starEach_any pos env hst]; rfl) (fun h X => C.keeps _ h X) ?_
  have app : ∀ {H : PH} {h : Heap} {a : List Value} {da : List PV} {b : List Value} {db : List PV}, VRs H h a da → VRs H h b db → VRs H h (a ++ b) (da ++ db) := by
    intro H h a da b db x y
    induction a generalizing da with
    | nil => cases x; exact y
    | cons v r ih => cases x with | cons V r => exact .cons V (ih r)
  have key : wpAny g.m A (spliced (backTo pos (starEach as env))) (fun vs s₁ => g.K.In s₁.heap ∧ wpAny g.m A (call f (first ++ vs)) Q' noE s₁) noE s := by
    refine h pos s _ R ?_
    intro vs pvs H₁ h₁ t₁ B₁ S₁ V₁ q₁
    exact ⟨hG.kin.keeps B₁.keep, q₁ _ _ _ (app (V.after R.br S₁) V₁) B₁ (P.after S₁)⟩
  cases as with
  | nil =>
    unfold evalArgs
    show wpAny g.m A (spliced [] >>= _) _ _ s
    refine wpAny_bind (wpAny_mono key (fun vs s' h' => ?_) fun _ _ x => x)
    refine wpAny_holding ?_
    exact wpAny_bind (wpAny_pure (wpAny_bind (wpAny_pure (wpAny_pure h'))))
  | cons e r =>
    obtain ⟨h1, h2⟩ := Bool.and_eq_true_iff.mp hst
    rw [starEach_cons h1 env] at key ⊢
    exact evalArgs_plain key

/-- a call of a name -/
theorem ET.call {n : Str} {np pos : Pos} {as : List Expr} (hG : g.Ok) (hst : as.all plainArg = true)
    (h : ET g A env l H (.Name n np) fun v H₁ => ∃ u, v = .k u ∧ CallK g u ∧ ETs g A env l H₁ as fun vs H₂ => CT g A H₂ u vs Q) : ET g A env l H (.Call (.Name n np) as [] pos) Q := by
  intro s Q' R P
  show wpAny g.m A (do callWith pos (← eval (.Name n np) env) [] (backTo pos (starEach as env)) (backToKw pos (keywordEach [] env))) Q' noE s
  refine wpAny_bind (h s _ R ?_)
  rintro v pv H₁ h₁ t₁ B₁ S₁ V₁ ⟨u, rfl, C, q⟩
  cases V₁
  exact callWith_any (fs := []) hG C hst (R.after B₁ S₁) .nil q (P.after S₁)

/-- a call of a method of a built-in type's object -/
theorem ET.meth {T id : String} {o : Expr} {name : Str} {apos pos : Pos} {as : List Expr} (hG : g.Ok) (hb : attributeBase o name env (eval o env) = eval o env) (hst : as.all plainArg = true) (hn : as.length < 30) (hline : (apos.endLine == pos.line) = true)
    (hp : PlainAttrs T) (hs : Slot T name id) (ht : typeOf (Value.builtin id) = pure (Value.type "method_descriptor"))
    (h : ET g A env l H o fun v H₁ => (∃ a po, v = .ref a ∧ H₁ a = some po ∧ po ≠ .idle ∧ (T = match po with | .list _ => "list" | _ => "dict")) ∧ ETs g A env l H₁ as fun vs H₂ => CT g A H₂ (.builtin id) (v :: vs) Q) : ET g A env l H (.Call (.Attribute o name apos) as [] pos) Q := by
  intro s Q' R P
  refine wpAny_Call_method hb ?_ hline hp hs ht (h s _ R ?_)
  · have e1 : ((backTo pos (starEach as env)).all fun x => !x.1) = true := by
      have := starEach_any pos env hst
      rw [List.any_eq_false] at this
      rw [List.all_eq_true]
      intro x hx
      simpa using this x hx
    rw [e1]
    simp only [keywordEach, backToKw, List.map_nil, List.all_nil, List.length_nil, Nat.add_zero, List.isEmpty_nil, if_true, Bool.true_and, decide_eq_true_eq]
    exact hn
  · rintro v pv H₁ h₁ t₁ B₁ S₁ V₁ ⟨⟨a, po, rfl, ha, hni, hT⟩, q⟩
    cases V₁
    have O := (B₁.hr a po ha).1
    refine ⟨?_, ?_, callWith_any (fs := [.ref a]) hG (.inl ⟨id, rfl⟩) hst (R.after B₁ S₁) (.cons (.ref a) .nil) q (P.after S₁)⟩
    · cases po with
      | idle => obtain ⟨o, e, c, _⟩ := O; subst hT; exact ⟨_, e, c⟩
      | list ds => obtain ⟨vs, n, e, _⟩ := O; subst hT; exact ⟨_, e, rfl⟩
      | idict es ep => obtain ⟨kvs, D, _⟩ := O; subst hT; exact D.dictOf.typeIs
      | sdict es ep => obtain ⟨kvs, D, _⟩ := O; subst hT; exact D.dictOf.typeIs
    · intro b e
      injection e with e
      subst e
      cases po with
      | idle => exact absurd rfl hni
      | list ds => obtain ⟨vs, n, e, _⟩ := O; exact ⟨_, e, rfl⟩
      | idict es ep => obtain ⟨kvs, ⟨o, _, e, hx, _⟩, _⟩ := O; exact ⟨o, e, hx.2.1⟩
      | sdict es ep => obtain ⟨kvs, ⟨o, _, e, hx, _⟩, _⟩ := O; exact ⟨o, e, hx.2.1⟩

theorem VRs.append {H : PH} {h : Heap} {a : List Value} {da : List PV} {b : List Value} {db : List PV} (x : VRs H h a da) (y : VRs H h b db) : VRs H h (a ++ b) (da ++ db) := by
  induction a generalizing da with
  | nil => cases x; exact y
  | cons v r ih => cases x with | cons V r => exact .cons V (ih r)

theorem CT.append {a : Addr} {ds : List PV} {d : PV} (e : H a = some (.list ds)) (hsz : ds.length ≤ sizeLine) (h : Q .none (hup H a (.list (ds ++ [d])))) : CT g A H (.builtin "list.append") [.ref a, d] Q := by
  intro vs s Q' V B P
  cases V with
  | cons V1 V2 => cases V1; cases V2 with
    | cons V2 V3 => cases V3; rename_i u
                    obtain ⟨⟨ws, n, o, W⟩, hg, h2⟩ := B.hr a _ e
                    refine append_at o (fun h' hs ho' => ?_) (by rw [List.size_toArray, W.length]; exact hsz)
                    have S : Stp H s.heap (hup H a (.list (ds ++ [d]))) h' := Stp.turn hs e ho' (by intro z; cases z)
                    refine P _ _ _ h' _ (B.turn hs e ho' (by intro z; cases z) (show OR g _ h' a (.list (ds ++ [d])) from ⟨ws ++ [u], n + 1, by rw [ho']; simp [PySem.W.listOf], ?_⟩)) S .none h
                    exact (W.append (.cons V2 .nil)).after B S

/-- a new list -/
theorem low {s : Shared} (hG : g.Ok) (B : BR g H s.heap) : 2 < s.heap.objs.size := by
  obtain ⟨mc, hn, _⟩ := hG.top.nolimit.keeps B.keep
  exact hn.lt
theorem ET.list {es : List Expr} {pos : Pos} (hG : g.Ok)
    (h : ETs g A env l H es fun vs H₁ => vs.length ≤ sizeLine ∧ ∀ a, H₁ a = Option.none → Q (.ref a) (hup H₁ a (.list vs))) : ET g A env l H (.List es pos) Q := by
  intro s Q' R P
  refine List_ (h pos s _ R ?_)
  rintro vs pvs H₁ h₁ t₁ B₁ S₁ V₁ ⟨hsz, q₁⟩
  refine wpAny_newObj_type ?_ (by show vs.toArray.size ≤ sizeLine; rw [List.size_toArray, V₁.length]; exact hsz)
  have k : ∀ b o, h₁.get? b = some o → (h₁.push { cls := .type "list", data := .seq vs.toArray }).get? b = some o := fun b o e => Heap.get?_push_of_some _ e
  have hn : h₁.get? h₁.objs.size = Option.none := by
    cases q : h₁.get? h₁.objs.size with
    | none => rfl
    | some o => exact absurd (Heap.lt_size q) (Nat.lt_irrefl _)
  exact P _ _ _ _ _ (B₁.born k hn ⟨B₁.gfresh, low (s := { s with heap := h₁, toks := t₁ }) hG B₁⟩ (show OR g _ _ h₁.objs.size (.list pvs) from ⟨vs, 0, Heap.get?_push_size _ rfl, V₁.after B₁ (Stp.born B₁ k hn)⟩)) (S₁.trans (Stp.born B₁ k hn)) (.ref _) (q₁ _ B₁.fresh)
theorem ET.tuple {es : List Expr} {k : Nat} {pos : Pos}
    (h : ETs g A env l H es fun vs H₁ => vs.length ≤ sizeLine ∧ Q (.tuple vs) H₁) : ET g A env l H (.Tuple es k pos) Q := by
  intro s Q' R P
  refine Tuple_ (h pos s _ R ?_)
  rintro vs pvs H₁ h₁ t₁ B₁ S₁ V₁ ⟨hsz, q₁⟩
  refine wpAny_newObj_type ?_ (by show vs.toArray.size ≤ sizeLine; rw [List.size_toArray, V₁.length]; exact hsz)
  have k : ∀ b o, h₁.get? b = some o → (h₁.push { cls := .type "tuple", data := .seq vs.toArray }).get? b = some o := fun b o e => Heap.get?_push_of_some _ e
  exact P _ _ H₁ _ _ (B₁.grown k) (S₁.trans (Stp.grown k)) (.tuple ⟨_, Heap.get?_push_size _ rfl, rfl, 0, rfl⟩ (V₁.after B₁ (Stp.grown k))) q₁

/-! attributes of instances with slots -/
structure SlotAt (K : Frag) (C : Addr) (name : Str) (i : Nat) : Prop where
  get : plainGet K C name = true
  cls : isClsIn K C = true
  at_ : ∃ p, findIn K (.ref C) name = some (some (.ref p)) ∧ specialIn K (.ref p) "__get__" = some (some (.builtin "member_descriptor.__get__")) ∧ takesIn K (.ref p) = some true ∧ slotIn K p C = some i
theorem VRs.get {H : PH} {h : Heap} : ∀ {vs : List Value} {ds : List PV} {i : Nat} {d : PV}, VRs H h vs ds → ds[i]? = some d → ∃ v, vs[i]? = some v ∧ VR H h v d
  | _, _, _, _, .nil, e => by simp at e
  | _, _, 0, _, .cons V _, e => by simp at e; subst e; exact ⟨_, rfl, V⟩
  | _, _, i + 1, _, .cons _ r, e => by simp at e; obtain ⟨v, e', V⟩ := VRs.get r e; exact ⟨v, by simpa using e', V⟩
noncomputable def PV.plain : PV → Bool
  | .k _ => false
  | .flt _ => true
  | _ => true
theorem VR.handed {H : PH} {h : Heap} {v : Value} {d : PV} (V : VR H h v d) (hp : d.plain = true) : handedIn v = true := by cases V <;> first | rfl | cases hp
theorem ET.attr {o : Expr} {name : Str} {pos : Pos} (hG : g.Ok) (hs : ∀ env, eval (.Attribute o name pos) env = (do
      let x ← eval o env
      standAt pos.atName
      let r ← holding [x] (getAttr x name true)
      letTemporaryGo o x r
      pure r))
    (h : ET g A env l H o fun v H₁ => ∃ C vs i d, v = .inst C vs ∧ SlotAt g.K C name i ∧ vs[i]? = some d ∧ d.plain = true ∧ Q d H₁) : ET g A env l H (.Attribute o name pos) Q := by
  intro s Q' R P
  refine Attribute_any_ (h s _ R ?_) (hs env)
  rintro v pv H₁ h₁ t₁ B₁ S₁ V₁ ⟨C, vs, i, d, rfl, ⟨a1, a2, p, a3, a4, a5, a6⟩, e, hp, q⟩
  cases V₁ with
  | @inst _ _ dx _ _ ho hdx W =>
    obtain ⟨od, hd⟩ := B₁.obj hdx
    have I := fun s' : Shared => fun (e : s'.heap = h₁) => (show PySem.W.InstAt s'.heap _ _ C (some od) from ⟨by rw [e]; exact ho, rfl, rfl, by dsimp only; rw [e]; exact hd⟩)
    obtain ⟨u, e', U⟩ := W.get e
    have X : g.K.In h₁ := hG.kin.keeps B₁.keep
    refine get_bind (s := { s with heap := h₁, toks := t₁ }) X (I _ rfl) (plainGet_of a1).1 (findObj_data a2 a3 a4 a5) (plainGet_of a1).2
      (wpAny_call (slot_get (s := { s with heap := h₁, toks := t₁ + 1 }) X (I _ rfl) a6 (by simp [e']) (handed_on (U.handed hp) (P _ _ H₁ h₁ _ B₁ S₁ U q))))
end
end Mine
end
section
open PySem PySem.W PyProof.Rows PySem.Calls PySem.Spec
set_option maxRecDepth 100000

namespace Mine

section pure
variable {K α : Type} [DecidableEq K]
noncomputable def dset (es : List (K × α)) (k : K) (v : α) : List (K × α) := if es.any (fun e => e.1 = k) then es.map (fun e => if e.1 = k then (e.1, v) else e) else es ++ [(k, v)]
noncomputable def dget (es : List (K × α)) (k : K) : Option α := (es.find? fun e => e.1 = k).map (·.2)
noncomputable def ddel (es : List (K × α)) (k : K) : List (K × α) := es.filter fun e => decide (e.1 ≠ k)
end pure

section
variable {K : Type} [DecidableEq K] {H : PH} {h : Heap}
omit [DecidableEq K] in
theorem KV.keys : ∀ {l : List (K × Value)} {r : List (K × PV)}, KV H h l r → l.map (·.1) = r.map (·.1)
  | [], [], _ => rfl
  | (_, _) :: _, (_, _) :: _, x => by
    obtain ⟨⟨rfl, _⟩, y⟩ := x
    rw [List.map_cons, List.map_cons, KV.keys y]
  | [], _ :: _, x => x.elim
  | _ :: _, [], x => x.elim
omit [DecidableEq K] in
theorem KV.length {l : List (K × Value)} {r : List (K × PV)} (x : KV H h l r) : l.length = r.length := by
  have := congrArg List.length x.keys; simpa using this
theorem KV.valueAt (k : K) : ∀ {l : List (K × Value)} {r : List (K × PV)}, KV H h l r → (∃ v d, PySem.valueAt l k = some v ∧ dget r k = some d ∧ VR H h v d) ∨ (PySem.valueAt l k = none ∧ dget r k = none)
  | [], [], _ => .inr ⟨rfl, rfl⟩
  | (a, v) :: l, (b, d) :: r, x => by
    obtain ⟨⟨rfl, V⟩, y⟩ := x
    have ih := KV.valueAt k y
    unfold PySem.valueAt dget at ih ⊢
    by_cases z : a = k
    · left; refine ⟨v, d, ?_, ?_, V⟩ <;> simp [z]
    · simp only [List.find?_cons, z, decide_false]; exact ih
  | [], _ :: _, x => x.elim
  | _ :: _, [], x => x.elim
theorem KV.any (k : K) {l : List (K × Value)} {r : List (K × PV)} (x : KV H h l r) : l.any (fun kv => kv.1 = k) = r.any (fun kv => kv.1 = k) := by
  have := congrArg (fun z => z.any fun y => decide (y = k)) x.keys
  simpa [List.any_map, Function.comp_def] using this
theorem KV.store {k : K} {v : Value} {d : PV} (V : VR H h v d) : ∀ {l : List (K × Value)} {r : List (K × PV)}, KV H h l r → KV H h (l.map fun kv => if kv.1 = k then (kv.1, v) else kv) (r.map fun kv => if kv.1 = k then (kv.1, d) else kv)
  | [], [], _ => trivial
  | (a, u) :: l, (b, e) :: r, x => by
    obtain ⟨⟨rfl, U⟩, y⟩ := x
    refine ⟨?_, KV.store V y⟩
    show (if a = k then (a, v) else (a, u)).1 = (if a = k then (a, d) else (a, e)).1 ∧ VR H h (if a = k then (a, v) else (a, u)).2 (if a = k then (a, d) else (a, e)).2
    by_cases z : a = k
    · rw [if_pos z, if_pos z]; exact ⟨rfl, V⟩
    · rw [if_neg z, if_neg z]; exact ⟨rfl, U⟩
  | [], _ :: _, x => x.elim
  | _ :: _, [], x => x.elim
omit [DecidableEq K] in
theorem KV.snoc {k : K} {v : Value} {d : PV} (V : VR H h v d) : ∀ {l : List (K × Value)} {r : List (K × PV)}, KV H h l r → KV H h (l ++ [(k, v)]) (r ++ [(k, d)])
  | [], [], _ => ⟨⟨rfl, V⟩, trivial⟩
  | (_, _) :: _, (_, _) :: _, x => ⟨x.1, KV.snoc V x.2⟩
  | [], _ :: _, x => x.elim
  | _ :: _, [], x => x.elim
theorem KV.stored {k : K} {v : Value} {d : PV} (V : VR H h v d) {l : List (K × Value)} {r : List (K × PV)} (x : KV H h l r) : KV H h (PySem.stored l k v) (dset r k d) := by
  unfold PySem.stored dset
  rw [x.any k]
  split
  · exact x.store V
  · exact x.snoc V
theorem KV.without (k : K) : ∀ {l : List (K × Value)} {r : List (K × PV)}, KV H h l r → KV H h (PySem.without l k) (ddel r k)
  | [], [], _ => trivial
  | (a, v) :: l, (b, d) :: r, x => by
    obtain ⟨⟨rfl, V⟩, y⟩ := x
    have ih := KV.without k y
    unfold PySem.without ddel at ih ⊢
    by_cases z : a = k
    · simp only [List.filter_cons, z, ne_eq, not_true_eq_false, decide_false, Bool.false_eq_true, if_false]; exact ih
    · simp only [List.filter_cons, ne_eq, z, not_false_eq_true, decide_true, if_true]; exact ⟨⟨rfl, V⟩, ih⟩
  | [], _ :: _, x => x.elim
  | _ :: _, [], x => x.elim
end

/-- a kind of dict -/
structure DK (g : Gd) (K : Type) [DecidableEq K] where
  knd : PySem.KeyKind g.prog g.w K
  pack : List (K × PV) → Nat → PO
  val : K → PV
  orr : ∀ H h a es ep, OR g H h a (pack es ep) ↔ ∃ kvs, h.DictAt knd a kvs ep ∧ KV H h kvs es
  is : ∀ H h v k, VR H h v (val k) → knd.is k v = true
  part : ∀ H h v k, VR H h v (val k) → (keyPart v).isSome = true
  back : ∀ k v H h, knd.is k v = true → VR H h v (val k)
  nidle : ∀ es ep, pack es ep ≠ .idle
  ty : ∀ es ep, (match pack es ep with | .list _ => "list" | _ => "dict") = "dict"
noncomputable def ik (g : Gd) : DK g Int where
  knd := intKind g.prog g.w
  pack := .idict
  val := .int
  orr := fun _ _ _ _ _ => Iff.rfl
  is := fun H h v k V => by cases V; show (k == k) = true; simp
  part := fun H h v k V => by cases V; rfl
  back := fun k v H h e => by
    cases v <;> first | cases e | skip
    rename_i i t
    obtain rfl : i = k := by simpa [intKind, Value.isInt] using e
    exact .int i t
  nidle := fun _ _ z => by cases z
  ty := fun _ _ => rfl

theorem low2 {a : Addr} (h : 2 < a) : (a == sysModules) = false := beq_eq_false_iff_ne.mpr fun e => by rw [e] at h; exact absurd h (by decide)
section
variable {g : Gd} {A : Around} {env : Env} {l : PL} {H : PH} {Q : PV → PH → Prop} {K : Type} [DecidableEq K] {a : Addr} {es : List (K × PV)} {ep : Nat} {k : K}

theorem DK.at (D : DK g K) {h : Heap} (B : BR g H h) (e : H a = some (D.pack es ep)) : ∃ kvs, h.DictAt D.knd a kvs ep ∧ KV H h kvs es ∧ (a == sysModules) = false := by
  obtain ⟨O, _, h2⟩ := B.hr a _ e
  obtain ⟨kvs, d, V⟩ := (D.orr _ _ _ _ _).mp O
  exact ⟨kvs, d, V, low2 h2⟩
/-- the dict has turned -/
theorem DK.turn (D : DK g K) {s : Shared} {h' : Heap} (B : BR g H s.heap) (e : H a = some (D.pack es ep)) {kvs' : List (K × Value)} {es' : List (K × PV)} (d : h'.DictOf D.knd a kvs') (hs : Heap.SameBut a s.heap h') (V : KV H s.heap kvs' es') :
    ∃ ep', BR g (hup H a (D.pack es' ep')) h' ∧ Stp H s.heap (hup H a (D.pack es' ep')) h' := by
  obtain ⟨ep', d'⟩ := d.dictAt
  obtain ⟨o, _, ho, _⟩ := id d'
  have S : Stp H s.heap (hup H a (D.pack es' ep')) h' := Stp.turn hs e ho (D.nidle _ _)
  exact ⟨ep', B.turn hs e ho (D.nidle _ _) ((D.orr _ _ _ _ _).mpr ⟨kvs', d', V.step B S.kp (noOwnOk _)⟩), S⟩

theorem CT.dictOf (D : DK g K) (hG : g.Ok) (e : H a = some (D.pack es ep)) (hsz : es.length ≤ sizeLine) (h : ∀ r ep', H r = none → Q (.ref r) (hup H r (D.pack es ep'))) : CT g A H (.type "dict") [.ref a] Q := by
  intro vs s Q' V B P
  cases V with
  | cons V1 V2 =>
    cases V1; cases V2
    obtain ⟨kvs, d, W, lo⟩ := D.at B e
    refine kt_call_dict lo d.dictOf (by rw [W.length]; exact hsz) fun h' d' hs => ?_
    obtain ⟨ep', d''⟩ := d'.dictAt
    have keep : ∀ b o, s.heap.get? b = some o → h'.get? b = some o := fun b o q => (hs.2 b fun z => by rw [show b = s.heap.objs.size from z] at q; exact absurd (Heap.lt_size q) (Nat.lt_irrefl _)).trans (Heap.get?_push_of_some _ q)
    have hn : s.heap.get? s.heap.objs.size = none := by
      cases q : s.heap.get? s.heap.objs.size with
      | none => rfl
      | some o => exact absurd (Heap.lt_size q) (Nat.lt_irrefl _)
    exact P _ _ _ h' s.toks (B.born keep hn ⟨B.gfresh, low hG B⟩ ((D.orr _ _ _ _ _).mpr ⟨kvs, d'', W.step B (Stp.born (own := noOwn) B keep hn).kp (noOwnOk _)⟩)) (Stp.born B keep hn) (.ref _) (h _ ep' B.fresh)
theorem CT.popThere (D : DK g K) {d x : PV} (e : H a = some (D.pack es ep)) (hsz : es.length ≤ sizeLine) (hd : dget es k = some d) (h : ∀ ep', Q d (hup H a (D.pack (ddel es k) ep'))) : CT g A H (.builtin "dict.pop") [.ref a, D.val k, x] Q := by
  intro vs s Q' V B P
  cases V with
  | cons V1 V2 => cases V2 with
    | cons V2 V3 => cases V3 with
      | cons V3 V4 =>
        cases V1; cases V4
        rename_i u w
        obtain ⟨kvs, dd, W, lo⟩ := D.at B e
        rcases W.valueAt k with ⟨v, d', e1, e2, U⟩ | ⟨_, e2⟩
        · rw [hd] at e2; obtain rfl := Option.some.inj e2
          refine call_meetsIn PySem.F.slot_dict_pop dd.dictOf.typeIs PySem.F.entry_dict_pop (PySem.F.args_dict_pop_3 _ _ _) (meets_dict_pop_there D.knd a (D.is _ _ _ _ V2) [w] (.inr ⟨w, rfl⟩) (D.part _ _ _ _ V2)) ⟨kvs, v, dd.dictOf, by rw [W.length]; exact hsz, e1, fun h' dm hs => ?_⟩
          obtain ⟨ep', B', S⟩ := D.turn B e dm hs (W.without k)
          exact P _ _ _ h' _ B' S (U.after B S) (h ep')
        · rw [hd] at e2; cases e2
theorem CT.popMiss (D : DK g K) {x : PV} (e : H a = some (D.pack es ep)) (hd : dget es k = none) (h : Q x H) : CT g A H (.builtin "dict.pop") [.ref a, D.val k, x] Q := by
  intro vs s Q' V B P
  cases V with
  | cons V1 V2 => cases V2 with
    | cons V2 V3 => cases V3 with
      | cons V3 V4 =>
        cases V1; cases V4
        rename_i u w
        obtain ⟨kvs, dd, W, lo⟩ := D.at B e
        rcases W.valueAt k with ⟨v, d', e1, e2, U⟩ | ⟨e1, e2⟩
        · rw [hd] at e2; cases e2
        · exact call_meetsIn PySem.F.slot_dict_pop dd.dictOf.typeIs PySem.F.entry_dict_pop (PySem.F.args_dict_pop_3 _ _ _) (meets_dict_pop_default D.knd a (D.is _ _ _ _ V2) lo (D.part _ _ _ _ V2) w) ⟨kvs, dd.dictOf, e1, P _ _ _ _ _ B (Stp.refl _ _) V3 h⟩
theorem CmpT.inD (D : DK g K) (e : H a = some (D.pack es ep)) (h : Q (.bool (Mine.dget es k).isSome) H) : CmpT g A H .In (D.val k) (.ref a) Q := by
  intro v w s Q' V W B P
  cases W
  obtain ⟨kvs, dd, W, lo⟩ := D.at B e
  refine wpAny_in_of (D.is _ _ _ _ V) lo dd.dictOf.mapOf ?_
  have z : (PySem.valueAt kvs k).isSome = (Mine.dget es k).isSome := by rcases W.valueAt k with ⟨v, d', e1, e2, U⟩ | ⟨e1, e2⟩ <;> rw [e1, e2] <;> rfl
  rw [z]
  exact P.here B (.bool _) h _
theorem CmpT.notInD (D : DK g K) (e : H a = some (D.pack es ep)) (h : Q (.bool (!(Mine.dget es k).isSome)) H) : CmpT g A H .NotIn (D.val k) (.ref a) Q := by
  intro v w s Q' V W B P
  cases W
  obtain ⟨kvs, dd, W, lo⟩ := D.at B e
  refine wpAny_notIn_of (D.is _ _ _ _ V) lo dd.dictOf.mapOf ?_
  have z : (PySem.valueAt kvs k).isSome = (Mine.dget es k).isSome := by rcases W.valueAt k with ⟨v, d', e1, e2, U⟩ | ⟨e1, e2⟩ <;> rw [e1, e2] <;> rfl
  rw [z]
  exact P.here B (.bool _) h _
end

/-! items -/
section
variable {g : Gd} {A : Around} {env : Env} {l : PL} {H : PH} {Q : PV → PH → Prop}
noncomputable def SubT (g : Gd) (A : Around) (H : PH) (o i : PV) (Q : PV → PH → Prop) : Prop := ∀ (value slice : Expr) v w s Q', VR H s.heap v o → VR H s.heap w i → BR g H s.heap → (∀ (lo up : Option Expr) (p : Pos), slice ≠ .Slice lo up none p) → Post g H s Q Q' → wpAny g.m A (subscriptTail value slice v w) Q' noE s
theorem ET.sub {o i : Expr} {pos : Pos} (hi : ∀ (lo up : Option Expr) (p : Pos), i ≠ .Slice lo up Option.none p) (h : ET g A env l H o fun u H₁ => ET g A env l H₁ i fun v H₂ => SubT g A H₂ u v Q) : ET g A env l H (.Subscript o i pos) Q := by
  intro s Q' R P
  refine Subscript_ (h s _ R ?_)
  intro v₁ p₁ H₁ h₁ t₁ B₁ S₁ V₁ q₁
  refine q₁ _ _ (R.after B₁ S₁) ?_
  intro v₂ p₂ H₂ h₂ t₂ B₂ S₂ V₂ q₂
  exact q₂ _ _ _ _ _ _ (V₁.after B₁ S₂) V₂ B₂ hi ((P.after S₁).after S₂)
theorem sub_plain {slice : Expr} (hi : ∀ (lo up : Option Expr) (p : Pos), slice ≠ .Slice lo up none p) (o i : Value) : subscripted slice false o i = operate [o, i] (getItem o i) := by
  unfold subscripted
  split
  · exact absurd rfl (hi _ _ _)
  · contradiction
  · rfl
theorem SubT.dict {K : Type} [DecidableEq K] (D : DK g K) {a : Addr} {es : List (K × PV)} {ep : Nat} {k : K} {d : PV} (e : H a = some (D.pack es ep)) (hd : dget es k = some d) (h : Q d H) : SubT g A H (.ref a) (D.val k) Q := by
  intro value slice v w s Q' V W B hi P
  cases V
  obtain ⟨kvs, dd, U, lo⟩ := D.at B e
  rcases U.valueAt k with ⟨u, d', e1, e2, V⟩ | ⟨_, e2⟩
  · rw [hd] at e2; obtain rfl := Option.some.inj e2
    exact tail_any dd.dictOf.typeIs PySem.F.slot_dict_getitem.lookup (wpAny_getItem_of (D.is _ _ _ _ W) dd.dictOf.mapOf e1 (P.here B V h _)) (sub_plain hi _ _)
  · rw [hd] at e2; cases e2
theorem SubT.list {a : Addr} {ds : List PV} {k : Int} {d : PV} (e : H a = some (.list ds)) (h0 : 0 ≤ k) (h1 : k < 2 ^ 63) (hd : ds[k.toNat]? = some d) (h : Q d H) : SubT g A H (.ref a) (.int k) Q := by
  intro value slice v w s Q' V W B hi P
  cases V; cases W
  obtain ⟨⟨vs, n, o, U⟩, _⟩ := B.hr a _ e
  obtain ⟨u, e', V⟩ := U.get hd
  have hl : s.heap.IsList a vs.toArray := ⟨_, o, rfl, n, rfl⟩
  exact tail_any hl.typeIs slot_list_getitem.lookup (wpAny_getItem_list hl h0 h1 (by simpa using e') (P.now B V h)) (sub_plain hi _ _)

/-- an item is stored -/
noncomputable def SetT (g : Gd) (A : Around) (H : PH) (o i v : PV) (Q : PH → Prop) : Prop := ∀ a b c s (Q' : Unit → Shared → Prop), VR H s.heap a o → VR H s.heap b i → VR H s.heap c v → BR g H s.heap → (∀ H' h' tk, BR g H' h' → Stp H s.heap H' h' → Q H' → Q' () { s with heap := h', toks := tk }) → wpAny g.m A (setItem a b c) Q' noE s
theorem ST.setItem {o i e : Expr} {p pos : Pos} {Q : PF → PL → PH → Prop} (hs : ∀ env, swapsWith e (some (.Subscript o i p)) pos.line env = pure false) (h : ET g A env l H e fun v H₁ => ET g A env l H₁ o fun a H₂ => ET g A env l H₂ i fun b H₃ => SetT g A H₃ a b v fun H₄ => Q .next l H₄) : ST g A env l H (.Assign [.Subscript o i p] e pos) Q := by
  intro s Q' R P
  refine wpAny_Assign_Subscript (h s _ R ?_) (hs _)
  intro v₁ p₁ H₁ h₁ t₁ B₁ S₁ V₁ q₁
  refine q₁ _ _ (R.after B₁ S₁) ?_
  intro v₂ p₂ H₂ h₂ t₂ B₂ S₂ V₂ q₂
  refine q₂ _ _ ((R.after B₁ S₁).after B₂ S₂) ?_
  intro v₃ p₃ H₃ h₃ t₃ B₃ S₃ V₃ q₃
  refine q₃ _ _ _ _ _ (V₂.after B₂ S₃) V₃ ((V₁.after B₁ S₂).after B₂ S₃) B₃ ?_
  intro H₄ h₄ t₄ B₄ S₄ q₄
  exact P .next .next l H₄ h₄ t₄ ((((R.after B₁ S₁).after B₂ S₂).after B₃ S₃).after B₄ S₄) (Stp.own (S₁.trans (S₂.trans (S₃.trans S₄)))) trivial q₄
theorem SetT.dict {K : Type} [DecidableEq K] (D : DK g K) {a : Addr} {es : List (K × PV)} {ep : Nat} {k : K} {d : PV} {Q : PH → Prop} (e : H a = some (D.pack es ep)) (hsz : es.length ≤ sizeLine) (h : ∀ ep', Q (hup H a (D.pack (dset es k d) ep'))) : SetT g A H (.ref a) (D.val k) d Q := by
  intro x y z s Q' V W U B P
  cases V
  obtain ⟨kvs, dd, T, lo⟩ := D.at B e
  refine wpAny_setItem_pairs (D.is _ _ _ _ W) dd.dictOf (fun h' d' hs => ?_) (by rw [T.length]; exact hsz)
  obtain ⟨ep', B', S⟩ := D.turn B e d' hs (T.stored U)
  exact P _ h' _ B' S (h ep')
end
end Mine
end
section
open PySem PySem.W PyProof.Rows PySem.Calls PySem.Spec
set_option maxRecDepth 100000

namespace Mine

/-- a source of turns: St tells what is left -/
structure Src (g : Gd) (A : Around) (tgt : Expr) (I : Addr) (C : PH → Prop) (St : List PV → PH → Heap → Prop) : Prop where
  fld : ∀ r H h, St r H h → ∃ o vs, h.get? I = some o ∧ o.data = .fields vs ∧ o.cls ≠ .type "range"
  frame : ∀ r H h H' h', St r H h → (∀ o, h.get? I = some o → h'.get? I = some o) → (∀ ws ds, VRs H h ws ds → VRs H' h' ws ds) → (∀ b o, h.get? b = some o → o.cls = .type "tuple" → (∃ xs n, o.data = .seq xs n) → h'.get? b = some o) → St r H' h'
  self : ∀ r H (s : Shared) (Q' : Value → Shared → Prop), St r H s.heap → Q' (.ref I) s → wpAny g.m A (pyIter (.ref I)) Q' noE s
  item : ∀ v r H (s : Shared) (Q' : Value → Shared → Prop), St (v :: r) H s.heap → BR g H s.heap → C H → H I = none →
    (∀ u h' tk, (∀ b o, b ≠ I → s.heap.get? b = some o → h'.get? b = some o) → VR H h' u v → St r H h' → Q' u { s with heap := h', toks := tk }) →
    wpAny g.m A (pyNext (.ref I)) (fun x s₁ => match x with | none => False | some u => wpAny g.m A (letOwnedTupleGo tgt (.ref I) u) (fun _ s₂ => Q' u s₂) noE s₁) noE s
  done : ∀ H (s : Shared) (Q' : Shared → Prop), St [] H s.heap → BR g H s.heap → C H →
    (∀ h' tk, (∀ b o, b ≠ I → s.heap.get? b = some o → h'.get? b = some o) → Q' { s with heap := h', toks := tk }) →
    wpAny g.m A (pyNext (.ref I)) (fun x s₁ => match x with | none => Q' s₁ | some _ => False) noE s

theorem BR.touch {g : Gd} {H : PH} {h h' : Heap} {I : Addr} (B : BR g H h) (k : ∀ b o, b ≠ I → h.get? b = some o → h'.get? b = some o) (f : ∃ o vs, h.get? I = some o ∧ o.data = .fields vs ∧ o.cls ≠ .type "range") (hI : H I = none) (gI : g.G.get? I = none) :
    BR g H h' ∧ Kp (fun b => b = I) H h H h' ∧ OwnOk (fun b => b = I) h := by
  have S : Kp (fun b => b = I) H h H h' := ⟨fun b o q _ n => k b o n q, fun _ e => e⟩
  have W : OwnOk (fun b => b = I) h := by
    rintro b o rfl q
    obtain ⟨o', vs, q', d, c⟩ := f
    rw [q] at q'; obtain rfl := Option.some.inj q'
    exact .inr (.inr (.inl ⟨vs, d, c⟩))
  exact ⟨⟨fun b o q => k b o (fun z => by rw [z, gI] at q; cases q) (B.keep b o q), fun a po q => ⟨OR.step B S W (fun o w => k a o (fun z => by rw [z, hI] at q; cases q) w) (B.hr a po q).1, (B.hr a po q).2⟩⟩, S, W⟩

theorem ER.touch {g : Gd} {env : Env} {l : PL} {H : PH} {h h' : Heap} {I : Addr} (R : ER g env l H h) (k : ∀ b o, b ≠ I → h.get? b = some o → h'.get? b = some o) (f : ∃ o vs, h.get? I = some o ∧ o.data = .fields vs ∧ o.cls ≠ .type "range") (hI : H I = none) (gI : g.G.get? I = none) :
    ER g env l H h' := by
  obtain ⟨B, S, W⟩ := R.br.touch k f hI gI
  obtain ⟨oI, vs, eI, dI, _⟩ := f
  have nL : env.locals ≠ I := fun z => by
    obtain ⟨m, ⟨o', es, ep, e', d', _⟩, _⟩ := R.ns
    rw [z, eI] at e'; obtain rfl := Option.some.inj e'; rw [dI] at d'; cases d'
  have nc : ∀ c w, h.IsCell c w → h'.IsCell c w := fun c w ⟨o, e, d⟩ => ⟨o, k c o (fun z => by rw [z, eI] at e; obtain rfl := Option.some.inj e; rw [dI] at d; cases d) e, d⟩
  refine ⟨B, ?_, fun x pv e kd => ?_, R.hl, R.gl, fun x c e => ?_, R.inj, R.has⟩
  · obtain ⟨m, hn, q⟩ := R.ns
    refine ⟨m, hn.at' fun o e => k _ o nL e, fun x pv e kd => ?_⟩
    obtain ⟨v, V, hm⟩ := q x pv e kd
    exact ⟨v, V.step R.br S W, hm⟩
  · obtain ⟨a, v, c, V, hc, hcell⟩ := R.nc x pv e kd
    exact ⟨a, v, c, V.step R.br S W, hc, nc _ _ hcell⟩
  · obtain ⟨a, w, hw⟩ := R.cells x c e
    exact ⟨a, w, nc _ _ hw⟩

noncomputable def IT (g : Gd) (A : Around) (env : Env) (l : PL) (H : PH) (tgt iter : Expr) (Q : List PV → (PH → Prop) → PH → Prop) : Prop :=
  ∀ s (Q' : Value → Shared → Prop), ER g env l H s.heap → (∀ I items C St H' h' tk, Src g A tgt I C St → BR g H' h' → Stp H s.heap H' h' → St items H' h' → H' I = none → s.heap.get? I = none → C H' → Q items C H' → Q' (.ref I) { s with heap := h', toks := tk }) →
    wpAny g.m A (eval iter env) (fun x s₁ => wpAny g.m A (pyIter x) Q' noE s₁) noE s

/-- what is wanted of the turns that are left -/
noncomputable def LoopT (g : Gd) (A : Around) (env : Env) (tgt : Expr) (body : List Stmt) (C : PH → Prop) (Q : PF → PL → PH → Prop) : List PV → PL → PH → Prop
  | [], l, H => Q .next l H
  | v :: r, l, H => AT g A env l H tgt v fun l₁ H₁ => SS g A env l₁ H₁ body fun f l₂ H₂ => match f with
    | .next | .cont => C H₂ ∧ LoopT g A env tgt body C Q r l₂ H₂
    | .brk => Q .next l₂ H₂
    | .ret v => Q (.ret v) l₂ H₂

section
variable {g : Gd} {A : Around} {env : Env} {l : PL} {H : PH}
theorem past {own : Addr → Prop} {H' : PH} {h h' h₂ : Heap} {I : Addr} (S : StpO own H h H' h') (nI : h.get? I = none) (k : ∀ b o, b ≠ I → h'.get? b = some o → h₂.get? b = some o) : StpO own H h H' h₂ := by
  have ne : ∀ b o, h.get? b = some o → b ≠ I := fun b o e z => by rw [z, nI] at e; cases e
  exact ⟨fun b o e n w => k b o (ne b o e) (S.keep b o e n w), S.dom, fun b o e => let ⟨o', e'⟩ := S.alive b o e; ⟨o', k b o' (ne b o e) e'⟩, S.idle⟩
theorem ST.for {tgt iter : Expr} {body : List Stmt} {pos : Pos} {Q : PF → PL → PH → Prop} (hs : ∀ env x, foldedSetIterable iter env x = pure x)
    (h : IT g A env l H tgt iter fun items C H₁ => LoopT g A env tgt body C Q items l H₁) : ST g A env l H (.For tgt iter body [] pos) Q := by
  intro s Q' R P
  refine wpAny_For (h s _ R ?_) (hs env)
  intro I items C St H₁ h₁ tk₁ W B₁ S₁ st hI nI hC q
  have gI : g.G.get? I = none := by
    cases z : g.G.get? I with
    | none => rfl
    | some o => have := R.br.keep _ o z; rw [nI] at this; cases this
  have notOwn : ∀ b, ownOf env b → b ≠ I := fun b w z => by
    rw [z] at w
    rcases w with w | ⟨_, x, w⟩
    · obtain ⟨_, hn, _⟩ := R.ns; obtain ⟨o, e⟩ := Ns.obj hn; rw [← w, nI] at e; cases e
    · obtain ⟨_, _, o, e, _⟩ := R.cells x I w; rw [nI] at e; cases e
  refine codeAny_forLoop_any (fun n s' => ∃ r l' H' h' tk, s' = { s with heap := h', toks := tk } ∧ ER g env l' H' h' ∧ StpO (ownOf env) H s.heap H' h' ∧ St r H' h' ∧ H' I = none ∧ C H' ∧ LoopT g A env tgt body C Q r l' H' ∧ n = r.length) ?_ items.length
    ⟨items, l, H₁, h₁, tk₁, rfl, R.after B₁ S₁, S₁.own, st, hI, hC, q, rfl⟩
  rintro n s' ⟨r, l', H', h', tk, rfl, R', S', st', hI', hC', q', rfl⟩
  cases r with
  | nil =>
    refine wpAny_mono (W.done H' { s with heap := h', toks := tk } (fun s₁ => wpAny g.m A (execs [] env) (fun f s₃ => (match (Except.ok f : Result) with | .ok f => Q' f s₃ | .error e => cameBackBy g.m A env noE e s₃)) noE s₁) st' R'.br hC' ?_) (fun x s₁ w => ?_) noted_noE
    · intro h₂ tk₂ k₂
      refine wpAny_execs_nil ?_
      have R₂ := R'.touch k₂ (W.fld _ _ _ st') hI' gI
      have S₃ := past S' nI k₂
      exact P .next .next l' H' h₂ tk₂ R₂ S₃ trivial q'
    · cases x with
      | none => exact wpAny_mono w (fun _ _ z => z) noted_noE
      | some u => exact w.elim
  | cons v r =>
    refine wpAny_mono (W.item v r H' { s with heap := h', toks := tk } (fun u s₂ => wpAny g.m A (PySem.assign tgt env u) (fun _ s₃ => wpAny g.m A (execs body env) (fun f s₄ => match f with
        | .next | .cont => ∃ m, m < (v :: r).length ∧ ∃ r l' H' h' tk, s₄ = { s with heap := h', toks := tk } ∧ ER g env l' H' h' ∧ StpO (ownOf env) H s.heap H' h' ∧ St r H' h' ∧ H' I = none ∧ C H' ∧ LoopT g A env tgt body C Q r l' H' ∧ m = r.length
        | .brk => Q' .next s₄
        | .ret v => Q' (.ret v) s₄) noE s₃) noE s₂) st' R'.br hC' hI' ?_) (fun x s₁ w => ?_) noted_noE
    · intro u h₂ tk₂ k₂ V₂ st₂
      have R₂ := R'.touch k₂ (W.fld _ _ _ st') hI' gI
      have S₃ := past S' nI k₂
      refine q' u { s with heap := h₂, toks := tk₂ } _ R₂ V₂ ?_
      intro l₃ H₃ h₃ tk₃ R₃ S₄ q₃
      refine q₃ _ _ R₃ ?_
      intro f pf l₄ H₄ h₄ tk₄ R₄ S₅ V₄ q₄
      have S₆ := S₄.trans S₅
      have fin : C H₄ ∧ LoopT g A env tgt body C Q r l₄ H₄ → ∃ m, m < (v :: r).length ∧ ∃ r l' H' h' tk, ({ s with heap := h₄, toks := tk₄ } : Shared) = { s with heap := h', toks := tk } ∧ ER g env l' H' h' ∧ StpO (ownOf env) H s.heap H' h' ∧ St r H' h' ∧ H' I = none ∧ C H' ∧ LoopT g A env tgt body C Q r l' H' ∧ m = r.length := by
        rintro ⟨c, q⟩
        obtain ⟨oI, _, eI, _⟩ := W.fld _ _ _ st₂
        refine ⟨r.length, Nat.lt_succ_self _, r, l₄, H₄, h₄, tk₄, rfl, R₄, S₃.trans S₆, W.frame r H' h₂ H₄ h₄ st₂ (fun o e => S₆.keep _ o e hI' (fun w => notOwn _ w rfl)) (fun ws ds z => z.step R₂.br S₆.kp R₂.ownOk) (fun b o e c d => ?_), S₆.dom _ oI eI hI', c, q, rfl⟩
        obtain ⟨xs, n, d⟩ := d
        exact S₆.keep b o e (R₂.br.fixed e (.inl ⟨c, xs, n, d⟩)) (R₂.ownOk.seq e c d)
      cases f <;> cases pf <;> first | exact V₄.elim | exact fin q₄ | exact P .next .next _ _ h₄ tk₄ R₄ (S₃.trans S₆) trivial q₄ | exact P (.ret _) (.ret _) _ _ h₄ tk₄ R₄ (S₃.trans S₆) V₄ q₄
    · cases x with
      | none => exact w.elim
      | some u => exact wpAny_mono w (fun _ s₂ z => wpAny_mono z (fun _ s₃ y => wpAny_mono y (fun f s₄ x => by cases f <;> exact x) noted_noE) noted_noE) noted_noE

theorem grew {h : Heap} {o : Obj} : ∀ b o', h.get? b = some o' → (h.push o).get? b = some o' := fun _ _ e => Heap.get?_push_of_some _ e
theorem drop_head {α : Type} {v : α} {r items : List α} {i : Nat} (e : v :: r = items.drop i) : items[i]? = some v ∧ r = items.drop (i + 1) := by
  have h1 : (items.drop i)[0]? = some v := by rw [← e]; rfl
  have h2 : (items.drop i).tail = r := by rw [← e]; rfl
  rw [List.getElem?_drop] at h1
  exact ⟨h1, by rw [← h2, List.tail_drop]⟩
theorem drop_nil {α : Type} {items : List α} {i : Nat} (e : [] = items.drop i) : items[i]? = none := by
  have : items.length ≤ i := List.drop_eq_nil_iff.mp e.symm
  exact List.getElem?_eq_none this

theorem Src.list (hh : A.handled = none) {tgt : Expr} (I a : Addr) (items : List PV) (gI : g.G.get? I = none) : Src g A tgt I (fun H => H a = some (.list items)) (fun r H h => ∃ i, h.IsListIter I a i ∧ r = items.drop i) := by
  have fld : ∀ (r : List PV) (H : PH) (h : Heap), (∃ i, h.IsListIter I a i ∧ r = items.drop i) → ∃ o vs, h.get? I = some o ∧ o.data = .fields vs ∧ o.cls ≠ .type "range" := by
    rintro r H h ⟨i, ⟨o, e, c, d⟩, _⟩
    exact ⟨o, _, e, d, by rw [c]; decide⟩
  refine ⟨fld, ?_, ?_, ?_, ?_⟩
  · rintro r H h H' h' ⟨i, ⟨o, e, c, d⟩, q⟩ k _ _
    exact ⟨i, ⟨o, k o e, c, d⟩, q⟩
  · rintro r H s Q' ⟨i, hit, _⟩ q; exact wpAny_pyIter_listiter hit q
  · rintro v r H s Q' st B hC hI P
    obtain ⟨i, hit, q⟩ := id st
    obtain ⟨hv, hr⟩ := drop_head q
    obtain ⟨⟨ws, n, o, U⟩, _⟩ := B.hr a _ hC
    obtain ⟨u, hu, V⟩ := U.get hv
    have hl : s.heap.IsList a ws.toArray := ⟨_, o, rfl, n, rfl⟩
    refine wpAny_pyNext_list_item hit hl (by simpa using hu) (fun h' hit' hs => ?_)
    refine letGo_listiter hit' ?_
    have k : ∀ b o, b ≠ I → s.heap.get? b = some o → h'.get? b = some o := fun b o n e => (hs.2 b n).trans e
    obtain ⟨_, S, W⟩ := B.touch k (fld _ H _ st) hI gI
    exact P u h' s.toks k (V.step B S W) ⟨i + 1, hit', hr⟩
  · rintro H s Q' ⟨i, hit, q⟩ B hC P
    obtain ⟨⟨ws, n, o, U⟩, _⟩ := B.hr a _ hC
    have hl : s.heap.IsList a ws.toArray := ⟨_, o, rfl, n, rfl⟩
    have hnone : ws.toArray[i]? = none := by
      have := drop_nil q
      have e : ws.length = items.length := U.length
      have h2 : items.length ≤ i := by simpa using this
      simp; omega
    exact wpAny_pyNext_list_end hh hit hl hnone (fun h' he => P h' s.toks fun b o n e => he b o n e)
theorem IT.list (hh : A.handled = none) {tgt iter : Expr} {Q : List PV → (PH → Prop) → PH → Prop}
    (h : ET g A env l H iter fun v H₁ => ∃ a items, v = .ref a ∧ H₁ a = some (.list items) ∧ Q items (fun H => H a = some (.list items)) H₁) : IT g A env l H tgt iter Q := by
  intro s Q' R P
  refine h s _ R ?_
  rintro v pv H₁ h₁ t₁ B₁ S₁ V₁ ⟨a, items, rfl, ha, q⟩
  cases V₁
  obtain ⟨⟨ws, n, o, U⟩, _⟩ := B₁.hr a _ ha
  have hl : h₁.IsList a ws.toArray := ⟨_, o, rfl, n, rfl⟩
  refine wpAny_pyIter_list (s := { s with heap := h₁, toks := t₁ }) hl ?_
  have k : ∀ b o, h₁.get? b = some o → (h₁.push { cls := Value.type "list_iterator", data := Data.fields #[Value.ref a, Value.int 0 0] }).get? b = some o := fun b o e => Heap.get?_push_of_some _ e
  have nI : s.heap.get? h₁.objs.size = none := by
    cases z : s.heap.get? h₁.objs.size with
    | none => rfl
    | some o => obtain ⟨o', e'⟩ := S₁.alive _ o z; exact absurd (Heap.lt_size e') (Nat.lt_irrefl _)
  exact P h₁.objs.size items _ _ H₁ _ t₁ (Src.list hh _ a items B₁.gfresh) (B₁.grown k) (S₁.trans (Stp.grown k)) ⟨0, ⟨_, Heap.get?_push_size _ rfl, rfl, rfl⟩, rfl⟩ B₁.fresh nI ha q

theorem freshI {s : Shared} {H₁ : PH} {h₁ : Heap} (S₁ : Stp H s.heap H₁ h₁) : s.heap.get? h₁.objs.size = none := by
  cases z : s.heap.get? h₁.objs.size with
  | none => rfl
  | some o => obtain ⟨o', e'⟩ := S₁.alive _ o z; exact absurd (Heap.lt_size e') (Nat.lt_irrefl _)

noncomputable def rangeL (a c : Int) (n : Nat) : List PV := (List.range n).map fun (j : Nat) => PV.int (a + (j : Int) * c)
theorem rangeL_succ (a c : Int) (n : Nat) : rangeL a c (n + 1) = .int a :: rangeL (a + c) c n := by
  unfold rangeL
  rw [List.range_succ_eq_map, List.map_cons, List.map_map]
  congr 1
  · simp
  · refine List.map_congr_left fun j _ => ?_
    simp only [Function.comp, Nat.succ_eq_add_one, Int.natCast_add, Int.add_mul]
    congr 1; omega
theorem rangeL_length (a c : Int) (n : Nat) : (rangeL a c n).length = n := by simp [rangeL]
theorem Src.range (hh : A.handled = none) {tgt : Expr} (htgt : ∀ it v, letOwnedTupleGo tgt it v = pure ()) (I : Addr) (c : Int) (gI : g.G.get? I = none) : Src g A tgt I (fun _ => True) (fun r H h => ∃ x n, IsRangeIter h I x n c ∧ r = rangeL x c n.toNat) := by
  have fld : ∀ (r : List PV) (H : PH) (h : Heap), (∃ x n, IsRangeIter h I x n c ∧ r = rangeL x c n.toNat) → ∃ o vs, h.get? I = some o ∧ o.data = .fields vs ∧ o.cls ≠ .type "range" := by
    rintro r H h ⟨x, n, e, _⟩
    exact ⟨_, _, e, rfl, fun z => absurd (show Value.type _ = Value.type "range" from z) (by decide)⟩
  refine ⟨fld, ?_, ?_, ?_, ?_⟩
  · rintro r H h H' h' ⟨x, n, e, q⟩ k _ _
    exact ⟨x, n, k _ e, q⟩
  · rintro r H s Q' ⟨x, n, hit, _⟩ q; exact wpAny_pyIter_rangeiter hit q
  · rintro v r H s Q' st B hC hI P
    obtain ⟨x, n, hit, q⟩ := id st
    have hpos : 0 < n := by
      have h1 : (rangeL x c n.toNat).length = r.length + 1 := by rw [← q]; rfl
      rw [rangeL_length] at h1; omega
    obtain ⟨m, hm⟩ : ∃ m, n.toNat = m + 1 := ⟨n.toNat - 1, by omega⟩
    rw [hm, rangeL_succ] at q
    injection q with q1 q2
    refine wpAny_pyNext_range_item hit hpos (fun h' hit' hs => ?_)
    refine wpAny_of_eq (htgt _ _) ?_
    have k : ∀ b o, b ≠ I → s.heap.get? b = some o → h'.get? b = some o := fun b o n e => (hs.2 b n).trans e
    exact P _ h' _ k (q1 ▸ .int x s.toks) ⟨x + c, n - 1, hit', by rw [q2]; congr 1; omega⟩
  · rintro H s Q' ⟨x, n, hit, q⟩ B hC P
    have h0 : n ≤ 0 := by
      have h1 : (rangeL x c n.toNat).length = 0 := by rw [← q]; rfl
      rw [rangeL_length] at h1; omega
    exact wpAny_pyNext_range_end hh hit h0 (fun h' he => P h' s.toks fun b o n e => he b o n e)
theorem IT.range (hh : A.handled = none) {tgt iter : Expr} {Q : List PV → (PH → Prop) → PH → Prop} (htgt : ∀ it v, letOwnedTupleGo tgt it v = pure ())
    (h : ET g A env l H iter fun v H₁ => ∃ a b c, v = .rng a b c ∧ Builtin.Range.small a b c = true ∧ Q (rangeL a c (Builtin.Range.rangeSize a b c).toNat) (fun _ => True) H₁) : IT g A env l H tgt iter Q := by
  intro s Q' R P
  refine h s _ R ?_
  rintro v pv H₁ h₁ t₁ B₁ S₁ V₁ ⟨a, b, c, rfl, hsm, q⟩
  cases V₁ with
  | rng hr =>
    refine wpAny_pyIter_range (s := { s with heap := h₁, toks := t₁ }) hr hsm ?_
    have k : ∀ b' o, h₁.get? b' = some o → (h₁.push { cls := Value.type "range_iterator", data := Data.fields #[rawInt a, rawInt (Builtin.Range.rangeSize a b c), rawInt c] }).get? b' = some o := fun b o e => Heap.get?_push_of_some _ e
    exact P h₁.objs.size _ _ _ H₁ _ t₁ (Src.range hh htgt _ c B₁.gfresh) (B₁.grown k) (S₁.trans (Stp.grown k)) ⟨a, _, Heap.get?_push_size _ rfl, rfl⟩ B₁.fresh (freshI S₁) trivial q
theorem CT.range1 {n : Int} {Q : PV → PH → Prop} (h : Q (.rng 0 n 1) H) : CT g A H (.type "range") [.int n] Q := by
  intro vs s Q' V B P
  cases V with
  | cons V1 V2 =>
    cases V1; cases V2
    refine call_range_1 ?_
    exact P _ _ H _ _ (B.grown grew) (Stp.grown grew) (.rng (IsRange.new _ _ _ _ _ _ _)) h
theorem CT.range2 {a b : Int} {Q : PV → PH → Prop} (h : Q (.rng a b 1) H) : CT g A H (.type "range") [.int a, .int b] Q := by
  intro vs s Q' V B P
  cases V with
  | cons V1 V2 => cases V2 with
    | cons V2 V3 =>
    cases V1; cases V2; cases V3
    refine call_range_2 ?_
    exact P _ _ H _ _ (B.grown grew) (Stp.grown grew) (.rng (IsRange.new _ _ _ _ _ _ _)) h
theorem range_items {a b : Int} : rangeL a 1 (Builtin.Range.rangeSize a b 1).toNat = rangeL a 1 (b - a).toNat := by
  rw [rangeSize_one]; split
  · rfl
  · congr 1; omega

theorem KV.get {K : Type} {H : PH} {h : Heap} : ∀ {kvs : List (K × Value)} {es : List (K × PV)} {i : Nat} {k : K} {d : PV}, KV H h kvs es → es[i]? = some (k, d) → ∃ v, kvs[i]? = some (k, v) ∧ VR H h v d
  | [], [], _, _, _, _, e => by simp at e
  | (_, _) :: _, (_, _) :: _, 0, _, _, x, e => by
    simp at e; obtain ⟨rfl, rfl⟩ := e; obtain ⟨⟨rfl, V⟩, _⟩ := x; exact ⟨_, rfl, V⟩
  | (_, _) :: _, (_, _) :: _, i + 1, _, _, x, e => by
    simp at e; obtain ⟨v, e', V⟩ := KV.get x.2 e; exact ⟨v, by simpa using e', V⟩
  | [], _ :: _, _, _, _, x, _ => x.elim
  | _ :: _, [], _, _, _, x, _ => x.elim

theorem Src.keys {K : Type} [DecidableEq K] (D : DK g K) (hh : A.handled = none) {tgt : Expr} (I a : Addr) (es : List (K × PV)) (ep : Nat) (gI : g.G.get? I = none) : Src g A tgt I (fun H => H a = some (D.pack es ep)) (fun r H h => ∃ i, h.IsKeyIter I a i es.length ep ∧ r = (es.map fun e => D.val e.1).drop i) := by
  have fld : ∀ (r : List PV) (H : PH) (h : Heap), (∃ i, h.IsKeyIter I a i es.length ep ∧ r = (es.map fun e => D.val e.1).drop i) → ∃ o vs, h.get? I = some o ∧ o.data = .fields vs ∧ o.cls ≠ .type "range" := by
    rintro r H h ⟨i, ⟨o, e, c, d⟩, _⟩
    exact ⟨o, _, e, d, by rw [c]; decide⟩
  refine ⟨fld, ?_, ?_, ?_, ?_⟩
  · rintro r H h H' h' ⟨i, ⟨o, e, c, d⟩, q⟩ k _ _
    exact ⟨i, ⟨o, k o e, c, d⟩, q⟩
  · rintro r H s Q' ⟨i, hit, _⟩ q; exact wpAny_pyIter_keyiter hit q
  · rintro v r H s Q' st B hC hI P
    obtain ⟨i, hit, q⟩ := id st
    obtain ⟨hv, hr⟩ := drop_head q
    rw [List.getElem?_map, Option.map_eq_some_iff] at hv
    obtain ⟨⟨k, d⟩, hkd, rfl⟩ := hv
    obtain ⟨kvs, dd, U, lo⟩ := D.at B hC
    obtain ⟨x, hx, V⟩ := U.get hkd
    rw [← U.length] at hit
    refine wpAny_pyNext_dict_item hit dd hx (fun key h' hkey hit' hs => ?_)
    refine letGo_keyiter hit' ?_
    have k : ∀ b o, b ≠ I → s.heap.get? b = some o → h'.get? b = some o := fun b o n e => (hs.2 b n).trans e
    exact P key h' s.toks k (D.back _ _ _ _ hkey) ⟨i + 1, U.length ▸ hit', hr⟩
  · rintro H s Q' ⟨i, hit, q⟩ B hC P
    obtain ⟨kvs, dd, U, lo⟩ := D.at B hC
    have hn := drop_nil q
    rw [← U.length] at hit
    have hnone : kvs[i]? = none := by
      have h2 : es.length ≤ i := by simpa using hn
      have := U.length
      simp; omega
    exact wpAny_pyNext_dict_end hh hit dd hnone (fun h' he => P h' s.toks fun b o n e => he b o n e)
theorem IT.keys {K : Type} [DecidableEq K] (D : DK g K) (hh : A.handled = none) {tgt iter : Expr} {Q : List PV → (PH → Prop) → PH → Prop}
    (h : ET g A env l H iter fun v H₁ => ∃ a es ep, v = .ref a ∧ H₁ a = some (D.pack es ep) ∧ Q (es.map fun e => D.val e.1) (fun H => H a = some (D.pack es ep)) H₁) : IT g A env l H tgt iter Q := by
  intro s Q' R P
  refine h s _ R ?_
  rintro v pv H₁ h₁ t₁ B₁ S₁ V₁ ⟨a, es, ep, rfl, ha, q⟩
  cases V₁
  obtain ⟨kvs, dd, U, lo⟩ := D.at B₁ ha
  refine wpAny_pyIter_dict (s := { s with heap := h₁, toks := t₁ }) lo dd ?_
  exact P h₁.objs.size _ _ _ H₁ _ t₁ (Src.keys D hh _ a es ep B₁.gfresh) (B₁.grown grew) (S₁.trans (Stp.grown grew)) ⟨0, ⟨_, Heap.get?_push_size _ rfl, rfl, by rw [← U.length]; rfl⟩, rfl⟩ B₁.fresh (freshI S₁) ha q

theorem Src.items {K : Type} [DecidableEq K] (D : DK g K) (hh : A.handled = none) {elts : List Expr} {kk : Nat} {pos : Pos} (I a : Addr) (es : List (K × PV)) (ep : Nat) (gI : g.G.get? I = none) : Src g A (.Tuple elts kk pos) I (fun H => H a = some (D.pack es ep)) (fun r H h => ∃ i ok ov, IsItemIter h I a i es.length ep ok ov ∧ r = (es.map fun e => PV.tuple [D.val e.1, e.2]).drop i) := by
  have fld : ∀ (r : List PV) (H : PH) (h : Heap), (∃ i ok ov, IsItemIter h I a i es.length ep ok ov ∧ r = (es.map fun e => PV.tuple [D.val e.1, e.2]).drop i) → ∃ o vs, h.get? I = some o ∧ o.data = .fields vs ∧ o.cls ≠ .type "range" := by
    rintro r H h ⟨i, ok, ov, e, _⟩
    exact ⟨_, _, e, rfl, fun z => absurd (show Value.type _ = Value.type "range" from z) (by decide)⟩
  refine ⟨fld, ?_, ?_, ?_, ?_⟩
  · rintro r H h H' h' ⟨i, ok, ov, e, q⟩ k _ _
    exact ⟨i, ok, ov, k _ e, q⟩
  · rintro r H s Q' ⟨i, ok, ov, hit, _⟩ q; exact kcp_self hit q
  · rintro v r H s Q' st B hC hI P
    obtain ⟨i, ok, ov, hit, q⟩ := id st
    obtain ⟨hv, hr⟩ := drop_head q
    rw [List.getElem?_map, Option.map_eq_some_iff] at hv
    obtain ⟨⟨k, d⟩, hkd, rfl⟩ := hv
    obtain ⟨kvs, dd, U, lo⟩ := D.at B hC
    obtain ⟨x, hx, V⟩ := U.get hkd
    rw [← U.length] at hit
    refine wpAny_pyNext_items_item hit dd hx (fun key h₁ hkey ho hT hsz hk => ?_)
    have nI : s.heap.objs.size ≠ I := fun z => by
      obtain ⟨o, vs, e, _⟩ := fld _ H _ st; exact absurd (Heap.lt_size e) (z ▸ Nat.lt_irrefl _)
    refine wpAny_letOwnedTupleGo_items ho fun h₂ he hs => ?_
    have k : ∀ b o, b ≠ I → s.heap.get? b = some o → h₂.get? b = some o := fun b o n e => (hs.2 b n).trans (hk b o n e)
    obtain ⟨_, S, W⟩ := B.touch k (fld _ H _ st) hI gI
    exact P _ h₂ s.toks k (.tuple (vs := [key, x]) ⟨_, (hs.2 _ nI).trans hT, rfl, 0, rfl⟩ (.cons (D.back _ _ _ _ hkey) (.cons (V.step B S W) .nil))) ⟨i + 1, _, _, U.length ▸ he, hr⟩
  · rintro H s Q' ⟨i, ok, ov, hit, q⟩ B hC P
    obtain ⟨kvs, dd, U, lo⟩ := D.at B hC
    have hn := drop_nil q
    rw [← U.length] at hit
    have hnone : kvs[i]? = none := by
      have h2 : es.length ≤ i := by simpa using hn
      have := U.length
      simp; omega
    exact wpAny_pyNext_items_end hh hit dd hnone (fun h' he => P h' s.toks fun b o n e => he b o n e)
theorem IT.items {K : Type} [DecidableEq K] (D : DK g K) (hh : A.handled = none) {elts : List Expr} {kk : Nat} {tp apos cpos : Pos} {o : Expr} {Q : List PV → (PH → Prop) → PH → Prop}
    (hb : attributeBase o "items" env (eval o env) = eval o env) (hline : (apos.endLine == cpos.line) = true)
    (h : ET g A env l H o fun v H₁ => ∃ a es ep, v = .ref a ∧ H₁ a = some (D.pack es ep) ∧ Q (es.map fun e => PV.tuple [D.val e.1, e.2]) (fun H => H a = some (D.pack es ep)) H₁) : IT g A env l H (.Tuple elts kk tp) (.Call (.Attribute o "items" apos) [] [] cpos) Q := by
  intro s Q' R P
  refine wpAny_Call_method (T := "dict") (id := "dict.items") hb rfl hline PySem.F.plainAttrs_dict PySem.F.slot_dict_items PySem.F.type_dict_items (h s _ R ?_)
  rintro v pv H₁ h₁ t₁ B₁ S₁ V₁ ⟨a, es, ep, rfl, ha, q⟩
  cases V₁
  obtain ⟨kvs, dd, U, lo⟩ := D.at B₁ ha
  refine ⟨dd.dictOf.typeIs, dd.dictOf.mapOf.noDict, ?_⟩
  show wpAny _ _ (callWith cpos (.builtin "dict.items") [.ref a] [] []) _ _ _
  refine method_meetsIn PySem.F.slot_dict_items PySem.F.entry_dict_items rfl (PySem.evalArgs_none ⟨rfl, dd.dictOf.typeIs, PySem.F.args_dict_items_1 _, _, meets_dict_items D.knd a lo, ⟨kvs, dd.dictOf⟩, ?_⟩)
  have k₀ : ∀ b o, h₁.get? b = some o → (h₁.push { cls := .type "dict_items", data := .fields #[.ref a] }).get? b = some o := fun b o e => Heap.get?_push_of_some _ e
  refine wpAny_pyIter_items (s := { s with heap := h₁.push { cls := .type "dict_items", data := .fields #[.ref a] }, toks := t₁ }) ⟨_, Heap.get?_push_size _ rfl, rfl, rfl⟩ (dd.push _) ?_
  have B₂ := (B₁.grown k₀)
  have S₂ : Stp H s.heap H₁ _ := S₁.trans (Stp.grown k₀)
  exact P _ _ _ _ H₁ _ t₁ (Src.items D hh _ a es ep B₂.gfresh) (B₂.grown grew) (S₂.trans (Stp.grown grew)) ⟨0, .none, .none, by rw [← U.length]; exact Heap.get?_push_size _ rfl, rfl⟩ B₂.fresh (freshI S₂) ha q
end
end Mine
end
section
open PySem PySem.W PyProof.Rows PySem.Calls PySem.Spec
set_option maxRecDepth 100000

namespace Mine

section
variable {g : Gd} {A : Around} {env : Env} {l : PL} {H : PH}

/-! a tuple of targets -/
noncomputable def ATs (g : Gd) (A : Around) (env : Env) : PL → PH → List Expr → List PV → (PL → PH → Prop) → Prop
  | l, H, [], [], Q => Q l H
  | l, H, t :: ts, v :: vs, Q => AT g A env l H t v fun l₁ H₁ => ATs g A env l₁ H₁ ts vs Q
  | _, _, _, _, _ => False
theorem assignEach_plain : ∀ {ts : List Expr}, ts.all plainArg = true → ∀ env, assignEach ts env = ts.map fun t => (false, PySem.assign t env)
  | [], _, _ => rfl
  | t :: ts, h, env => by
    obtain ⟨h1, h2⟩ := Bool.and_eq_true_iff.mp h
    have e : assignEach (t :: ts) env = (false, PySem.assign t env) :: assignEach ts env := by cases t <;> first | rfl | cases h1
    rw [e, assignEach_plain h2 env]; rfl
theorem ER.grown {h h' : Heap} (R : ER g env l H h) (k : ∀ b o, h.get? b = some o → h'.get? b = some o) : ER g env l H h' := R.after (R.br.grown k) (Stp.grown k)
theorem ATs.run : ∀ {ts : List Expr} {us : List Value} {vs : List PV} {l : PL} {H : PH} {Q : PL → PH → Prop} {s : Shared} {Q' : Unit → Shared → Prop}, ATs g A env l H ts vs Q → ER g env l H s.heap → VRs H s.heap us vs → PostU g env H s Q Q' →
    wpAny g.m A (assignInOrder (ts.map fun t => PySem.assign t env) us) Q' noE s
  | [], us, vs, l, H, Q, s, Q', h, R, V, P => by
    cases vs with
    | nil => cases V; exact wpAny_pure (P l H s.heap s.toks R (Stp.refl _ _) h)
    | cons v vs => exact h.elim
  | t :: ts, us, vs, l, H, Q, s, Q', h, R, V, P => by
    cases vs with
    | nil => exact h.elim
    | cons v vs =>
      cases V with
      | @cons u _ us _ V V' =>
      show wpAny g.m A (do holding us (PySem.assign t env u); assignInOrder (ts.map fun t => PySem.assign t env) us) Q' noE s
      refine wpAny_bind (wpAny_holding (h u s _ R V ?_))
      intro l₁ H₁ h₁ t₁ R₁ S₁ q₁
      exact ATs.run q₁ R₁ (V'.step R.br S₁.kp R.ownOk) (P.after S₁)
theorem AT.tuple {ts : List Expr} {k : Nat} {pos : Pos} {vs : List PV} {Q : PL → PH → Prop} (hh : A.handled = none) (hp : ts.all plainArg = true) (hlen : ts.length = vs.length) (h : ATs g A env l H ts vs Q) : AT g A env l H (.Tuple ts k pos) (.tuple vs) Q := by
  intro u s Q' R V P
  cases V with
  | @tuple a ws _ ht U =>
    have e := assignEach_plain hp env
    refine wpAny_assign_Tuple hh ht (by rw [e, List.length_map, List.size_toArray, hlen, U.length]) (by rw [e]; exact List.findIdx?_eq_none_iff.mpr fun x hx => by obtain ⟨t, _, rfl⟩ := List.mem_map.mp hx; rfl) fun h' hx => ?_
    rw [e, List.map_map]
    have k : ∀ b o, s.heap.get? b = some o → h'.get? b = some o := fun b o q => hx b o (Nat.ne_of_lt (Heap.lt_size q)) q
    exact ATs.run (s := { s with heap := h' }) h (R.grown k) (U.after R.br (Stp.grown k)) (fun l' H' h'' tk R' S q => P l' H' h'' tk R' ((Stp.grown k).trans S) q)
theorem ATs.nil {Q : PL → PH → Prop} (h : Q l H) : ATs g A env l H [] [] Q := h
theorem ATs.cons {t : Expr} {ts : List Expr} {v : PV} {vs : List PV} {Q : PL → PH → Prop} (h : AT g A env l H t v fun l₁ H₁ => ATs g A env l₁ H₁ ts vs Q) : ATs g A env l H (t :: ts) (v :: vs) Q := h

end

/-! comprehensions -/
theorem forIn_pure {α β : Type} {l : List α} {f : α → β → Sem (ForInStep β)} (step : α → β → β) : ∀ (c : β), (∀ x ∈ l, ∀ c, f x c = pure (.yield (step x c))) → forIn l c f = pure (l.foldl (fun c x => step x c) c) := by
  induction l with
  | nil => intro c _; rfl
  | cons x l ih =>
    intro c h
    rw [List.forIn_cons, h x List.mem_cons_self, pure_bind]
    exact ih _ fun y hy => h y (List.mem_cons_of_mem _ hy)
noncomputable def clStep (env : Env) (x : Str × NameKind) (cs : List (Str × Addr)) : List (Str × Addr) := if x.2 == .free then (match env.cells.lookup x.1 with | some a => (x.1, a) :: cs | none => cs) else cs
noncomputable def clOf (scope : Scope) (env : Env) : List (Str × Addr) := scope.names.foldl (fun c x => clStep env x c) []
theorem closure_ok {scope : Scope} {env : Env} (h : ∀ p ∈ scope.names, p.2 = .free → (env.cells.lookup p.1).isSome = true) : closureFor scope env = pure (clOf scope env) := by
  simp only [closureFor]
  rw [forIn_pure (clStep env) [] (fun x hx c => ?_)]
  · rfl
  · obtain ⟨n, kind⟩ := x
    by_cases hk : (kind == NameKind.free) = true
    · obtain ⟨a, ha⟩ := Option.isSome_iff_exists.mp (h _ hx (by simpa using hk))
      simp only [hk, if_true, clStep, cellOf, ha]
      rfl
    · simp only [Bool.not_eq_true] at hk
      simp only [hk, Bool.false_eq_true, if_false, clStep]
theorem cl_sound {env : Env} : ∀ (ns : List (Str × NameKind)) (cs : List (Str × Addr)), (∀ n c, cs.lookup n = some c → env.cells.lookup n = some c) → ∀ n c, (ns.foldl (fun c x => clStep env x c) cs).lookup n = some c → env.cells.lookup n = some c
  | [], _, h => h
  | x :: ns, cs, h => by
    refine cl_sound ns (clStep env x cs) fun n c e => ?_
    unfold clStep at e
    split at e
    · split at e
      · rename_i a ha
        rw [List.lookup_cons] at e
        by_cases z : n = x.1
        · subst z; rw [show (x.1 == x.1) = true from beq_iff_eq.mpr rfl] at e; rw [← Option.some.inj e]; exact ha
        · rw [show (n == x.1) = false from beq_eq_false_iff_ne.mpr z] at e; exact h n c e
      · exact h n c e
    · exact h n c e
theorem cl_keep {env : Env} {n : Str} : ∀ (ns : List (Str × NameKind)) (cs : List (Str × Addr)), (cs.lookup n).isSome = true → ((ns.foldl (fun c x => clStep env x c) cs).lookup n).isSome = true
  | [], _, h => h
  | x :: ns, cs, h => by
    refine cl_keep ns (clStep env x cs) ?_
    unfold clStep
    split
    · split
      · rw [List.lookup_cons]; split <;> first | rfl | exact h
      · exact h
    · exact h
theorem cl_has {env : Env} {n : Str} : ∀ (ns : List (Str × NameKind)) (cs : List (Str × Addr)), (n, NameKind.free) ∈ ns → (env.cells.lookup n).isSome = true → ((ns.foldl (fun c x => clStep env x c) cs).lookup n).isSome = true
  | x :: ns, cs, hm, h => by
    rcases List.mem_cons.mp hm with e | hm
    · subst e
      refine cl_keep ns _ ?_
      unfold clStep
      obtain ⟨a, ha⟩ := Option.isSome_iff_exists.mp h
      simp only [beq_self_eq_true, if_true, ha]
      rw [List.lookup_cons, show (n == n) = true from beq_iff_eq.mpr rfl]; rfl
    · exact cl_has ns _ hm h
theorem lookup_map_snd {f : Str → NameKind → NameKind} {y : Str} : ∀ (ns : List (Str × NameKind)), (ns.map fun p => (p.1, f p.1 p.2)).lookup y = (ns.lookup y).map (f y)
  | [] => rfl
  | (n, k) :: ns => by
    rw [List.map_cons, List.lookup_cons, List.lookup_cons]
    by_cases z : y = n
    · subst z; rw [show (y == y) = true from beq_iff_eq.mpr rfl]; rfl
    · rw [show (y == n) = false from beq_eq_false_iff_ne.mpr z]; exact lookup_map_snd ns
theorem relabel_names (scope : Scope) (env : Env) : (relabel scope env).names = scope.names.map fun p => (p.1, if (p.2 == .free && env.scope.kind == .function && env.kindOf p.1 == some .cell) then .cell else p.2) := by
  unfold relabel
  dsimp only
  refine List.map_congr_left fun p _ => ?_
  obtain ⟨n, k⟩ := p
  dsimp only
  split <;> rfl

/-- the scope of a comprehension, as the text has it -/
structure CompOk (scope : Scope) (env : Env) : Prop where
  kind : scope.kind = .function
  cell : ∀ p ∈ scope.names, p.2 ≠ .cell
  loc : ∀ p ∈ scope.names, p.2 = .local → scope.names.lookup p.1 = some .local
  free : ∀ p ∈ scope.names, p.2 = .free → env.kindOf p.1 = some .cell
noncomputable def lcap (scope : Scope) (l : PL) : PL := fun y => if scope.names.lookup y = some .free then l y else none

section
variable {g : Gd} {A : Around} {env : Env} {l : PL} {H : PH}
theorem CompOk.closure {scope : Scope} {h : Heap} (O : CompOk scope env) (R : ER g env l H h) : closureFor scope env = pure (clOf scope env) := closure_ok fun p hp e => R.has _ (O.free p hp e)
/-- the comprehension's own environment -/
theorem ER.comp {scope : Scope} {h h' : Heap} {C : Addr} {m : Str → Option Value} (O : CompOk scope env) (E : EnvOk env) (R : ER g env l H h) (k : ∀ b o, h.get? b = some o → h'.get? b = some o) (hC : h'.Ns C m) (nC : H C = none) (gC : g.G.get? C = none) :
    ER g (compEnvC scope (clOf scope env) C env) (lcap scope l) H h' := by
  have kd : ∀ y, (compEnvC scope (clOf scope env) C env).kindOf y = (scope.names.lookup y).map fun q => if (q == .free && env.scope.kind == .function && env.kindOf y == some .cell) then .cell else q := fun y => by
    show (relabel scope env).names.lookup y = _
    rw [relabel_names]
    exact lookup_map_snd (f := fun n q => if (q == .free && env.scope.kind == .function && env.kindOf n == some .cell) then .cell else q) scope.names
  have free : ∀ y, scope.names.lookup y = some .free → env.kindOf y = some .cell ∧ (compEnvC scope (clOf scope env) C env).kindOf y = some .cell := fun y e => by
    have c := O.free _ (lookup_mem _ e) rfl
    refine ⟨c, ?_⟩
    rw [kd, e, Option.map_some, c, E.kind]; rfl
  have R' := R.grown k
  refine ⟨R'.br, ⟨m, hC, fun x pv e kk => ?_⟩, fun x pv e kk => ?_, nC, gC, fun x c e => R'.cells x c (cl_sound _ _ (fun _ _ q => by cases q) _ _ e), fun x y c e e' => R'.inj x y c (cl_sound _ _ (fun _ _ q => by cases q) _ _ e) (cl_sound _ _ (fun _ _ q => by cases q) _ _ e'), fun x e => ?_⟩
  · unfold lcap at e
    split at e
    · rename_i f; rw [(free x f).2] at kk; cases kk
    · cases e
  · unfold lcap at e
    split at e
    · rename_i f
      obtain ⟨c, c'⟩ := free x f
      obtain ⟨_, v, a, V, hc, hcell⟩ := R'.nc x pv e (by rw [c]; decide)
      obtain ⟨a', ha'⟩ := Option.isSome_iff_exists.mp (cl_has (env := env) scope.names [] (lookup_mem _ f) (by rw [hc]; rfl))
      have := cl_sound scope.names [] (fun _ _ q => by cases q) _ _ ha'
      rw [hc] at this; obtain rfl := Option.some.inj this
      exact ⟨.inl c', v, a, V, ha', hcell⟩
    · cases e
  · rw [kd] at e
    obtain ⟨q, hq, e'⟩ := Option.map_eq_some_iff.mp e
    have hm := lookup_mem _ hq
    have qf : q = .free := by
      by_cases z : q = .free
      · exact z
      · have : (q == NameKind.free) = false := beq_eq_false_iff_ne.mpr z
        rw [this] at e'
        simp only [Bool.false_and, Bool.false_eq_true, if_false] at e'
        exact absurd e' (O.cell _ hm)
    subst qf
    exact cl_has scope.names [] hm (R.has x (O.free _ hm rfl))
theorem compEnvOk {scope : Scope} {C : Addr} {cl : List (Str × Addr)} (O : CompOk scope env) (E : EnvOk env) : EnvOk (compEnvC scope cl C env) := ⟨O.kind, E.globals, E.builtins⟩

/-- one address of our own has turned -/
theorem ER.same {b₀ : Addr} {h h' : Heap} {o₀ : Obj} (R : ER g env l H h) (hs : Heap.SameBut b₀ h h') (e₀ : h.get? b₀ = some o₀) (hb : H b₀ = none) (gb : g.G.get? b₀ = none) (W : OwnOk (fun b => b = b₀) h) (nL : env.locals ≠ b₀) (nc : ∀ v, o₀.data ≠ .cell v) : ER g env l H h' := by
  have S : Kp (fun b => b = b₀) H h H h' := Kp.same hs
  have B := R.br.same S W hs hb gb
  have cl : ∀ c w, h.IsCell c w → h'.IsCell c w := fun c w ⟨o, e, d⟩ => ⟨o, (hs.2 c fun z => by rw [show c = b₀ from z, e₀] at e; obtain rfl := Option.some.inj e; exact nc _ d).trans e, d⟩
  refine ⟨B, ?_, fun x pv e kd => ?_, R.hl, R.gl, fun x c e => ?_, R.inj, R.has⟩
  · obtain ⟨m, hn, q⟩ := R.ns
    refine ⟨m, hn.sameBut hs nL, fun x pv e kd => ?_⟩
    obtain ⟨v, V, hm⟩ := q x pv e kd
    exact ⟨v, V.step R.br S W, hm⟩
  · obtain ⟨a, v, c, V, hc, hcell⟩ := R.nc x pv e kd
    exact ⟨a, v, c, V.step R.br S W, hc, cl _ _ hcell⟩
  · obtain ⟨a, w, hw⟩ := R.cells x c e
    exact ⟨a, w, cl _ _ hw⟩
theorem BR.add {h : Heap} (B : BR g H h) {a : Addr} {po : PO} (n : H a = none) (hg : g.G.get? a = none ∧ 2 < a) (O : OR g H h a po) : BR g (hup H a po) h := by
  have S : Kp noOwn H h (hup H a po) h := ⟨fun _ _ e _ _ => e, fun b e => by rw [hup_ne (fun z => by rw [show b = a from z, n] at e; cases e)]; exact e⟩
  refine ⟨B.keep, fun b q e => ?_⟩
  by_cases z : b = a
  · subst z; rw [hup_at] at e; obtain rfl := Option.some.inj e; exact ⟨OR.step B S (noOwnOk h) (fun _ e => e) O, hg⟩
  · rw [hup_ne z] at e; exact ⟨OR.step B S (noOwnOk h) (fun _ e => e) (B.hr b q e).1, (B.hr b q e).2⟩
theorem StpO.add {own : Addr → Prop} {H' : PH} {h h' : Heap} (S : StpO own H h H' h') {a : Addr} {po : PO} (n : h.get? a = none) (n' : H' a = none) : StpO own H h (hup H' a po) h' :=
  ⟨S.keep, fun b o e q => by rw [hup_ne (fun z => by rw [show b = a from z, n] at e; cases e)]; exact S.dom b o e q, S.alive, fun b e => by
    have := S.idle b e
    rw [hup_ne (fun z => by rw [show b = a from z, n'] at this; cases this)]; exact this⟩

/-- what the tests of a comprehension say -/
noncomputable def TestsT (g : Gd) (A : Around) (env : Env) (l : PL) (H : PH) : List Expr → (Bool → PH → Prop) → Prop
  | [], K => K true H
  | [c], K => BT g A env l H c K
  | _, _ => False
theorem TestsT.run {ifs : List Expr} {K : Bool → PH → Prop} {s : Shared} {Q' : Bool → Shared → Prop} (h : TestsT g A env l H ifs K) (R : ER g env l H s.heap) (P : PostB g H s K Q') :
    wpAny g.m A (forIn ifs true fun c r => if r = true then do let ok ← isTrue c env (eval c env); pure (ForInStep.yield ok) else pure (ForInStep.yield r)) Q' noE s := by
  match ifs, h with
  | [], h => exact wpAny_tests_nil (P true H s.heap s.toks R.br (Stp.refl _ _) h)
  | [c], h =>
    rw [List.forIn_cons]
    simp only [if_true]
    refine wpAny_bind (wpAny_bind (h s _ R ?_))
    intro b H' h' tk B S q
    refine wpAny_pure ?_
    show wpAny g.m A (forIn [] b _) Q' noE _
    rw [List.forIn_nil]
    exact wpAny_pure (P b H' h' tk B S q)
end
end Mine
end
section
open PySem PySem.W PyProof.Rows PySem.Calls PySem.Spec
set_option maxRecDepth 100000

namespace Mine
section
variable {g : Gd} {A : Around} {env : Env} {l : PL} {H : PH}

/-- what is wanted of a list comprehension's turns -/
noncomputable def CompL (g : Gd) (A : Around) (env : Env) (scope : Scope) (l : PL) (tgt : Expr) (ifs : List Expr) (elt : Expr) (C : PH → Prop) (Q : List PV → PH → Prop) : List PV → List PV → PH → Prop
  | [], acc, H => acc.length ≤ sizeLine ∧ Q acc H
  | v :: r, acc, H => ∀ cl L, EnvOk (compEnvC scope cl L env) → AT g A (compEnvC scope cl L env) (lcap scope l) H tgt v fun l₁ H₁ =>
      TestsT g A (compEnvC scope cl L env) l₁ H₁ ifs fun b H₂ => if b = true then
        ET g A (compEnvC scope cl L env) l₁ H₂ elt fun d H₃ => C H₃ ∧ acc.length ≤ sizeLine ∧ CompL g A env scope l tgt ifs elt C Q r (acc ++ [d]) H₃
      else C H₂ ∧ CompL g A env scope l tgt ifs elt C Q r acc H₂

theorem of_pure_any {α β : Type} {M : Model} {a : α} {t : α → Sem β} {Q' : β → Shared → Prop} {E E' : Value → Shared → Prop} {s : Shared} (w : wpAny M A (pure a) (fun x s => wpAny M A (t x) Q' E s) E' s) : wpAny M A (t a) Q' E s := fun Γ p hΓ => by
  have := w Γ p hΓ
  rw [Sem.wp_pure'] at this
  exact this Γ p hΓ
theorem ownC {scope : Scope} {cl : List (Str × Addr)} {L b : Addr} (w : ownOf (compEnvC scope cl L env) b) : b = L := by
  rcases w with w | ⟨w, _⟩
  · exact w
  · cases w

theorem lcap_kind {scope : Scope} {cl : List (Str × Addr)} {L : Addr} (O : CompOk scope env) (E : EnvOk env) : ∀ x pv, lcap scope l x = some pv → (compEnvC scope cl L env).kindOf x ≠ some .local := by
  intro x pv e
  unfold lcap at e
  split at e
  · rename_i f
    have kd : (compEnvC scope cl L env).kindOf x = (scope.names.lookup x).map fun q => if (q == .free && env.scope.kind == .function && env.kindOf x == some .cell) then .cell else q := by
      show (relabel scope env).names.lookup x = _
      rw [relabel_names]
      exact lookup_map_snd (f := fun n q => if (q == .free && env.scope.kind == .function && env.kindOf n == some .cell) then .cell else q) scope.names
    rw [kd, f, Option.map_some, O.free _ (lookup_mem _ f) rfl, E.kind]
    decide
  · cases e
theorem ER.again {own : Addr → Prop} {lx : PL} {H' : PH} {h h' : Heap} (R₂ : ER g env l H h) (R₃ : ER g env lx H' h') (S : StpO own H h H' h') (hown : ∀ b, own b → b = env.locals) (hl : ∀ x pv, l x = some pv → env.kindOf x ≠ some .local) : ER g env l H' h' := by
  obtain ⟨m, ⟨oL, es, ep, eL, dL, _⟩, _⟩ := R₂.ns
  have W : OwnOk own h := by
    intro b o w e
    rw [hown b w, eL] at e; obtain rfl := Option.some.inj e; exact .inl ⟨es, ep, dL⟩
  refine ⟨R₃.br, ?_, fun x pv e kd => ?_, R₃.hl, R₃.gl, R₃.cells, R₃.inj, R₃.has⟩
  · obtain ⟨m', hn', _⟩ := R₃.ns
    exact ⟨m', hn', fun x pv e k => absurd k (hl x pv e)⟩
  · obtain ⟨a, v, c, V, hc, o, ho, hd⟩ := R₂.nc x pv e kd
    refine ⟨a, v, c, V.step R₂.br S.kp W, hc, o, S.keep c o ho (R₂.br.fixed ho (.inr (.inr (.inl ⟨_, hd⟩)))) (fun w => ?_), hd⟩
    rw [hown c w, eL] at ho; obtain rfl := Option.some.inj ho; rw [dL] at hd; cases hd

/-- the state of a list comprehension between two turns -/
inductive CLst (g : Gd) (A : Around) (env cenv : Env) (scope : Scope) (l : PL) (tgt : Expr) (ifs : List Expr) (elt : Expr) (C : PH → Prop) (Q : List PV → PH → Prop) (s : Shared) (H : PH) (St : List PV → PH → Heap → Prop) (I D : Addr) (n : Nat) (s' : Shared) : Prop where
  | mk (r : List PV) (H' : PH) (h' : Heap) (tk : Nat) (ws : List Value) (k : Nat) (acc : List PV) (_ : s' = { s with heap := h', toks := tk }) (_ : ER g cenv (lcap scope l) H' h') (_ : Stp H s.heap H' h') (_ : St r H' h') (_ : H' I = none) (_ : H' D = none) (_ : h'.get? D = some (listOf ws.toArray k)) (_ : VRs H' h' ws acc) (_ : C H') (_ : CompL g A env scope l tgt ifs elt C Q r acc H') (_ : n = r.length) : CLst g A env cenv scope l tgt ifs elt C Q s H St I D n s'
/-- what a turn's end has kept -/
structure CFin (g : Gd) (cenv : Env) (lx : PL) (s : Shared) (H : PH) (St : List PV → PH → Heap → Prop) (I D : Addr) (r : List PV) (H₃ : PH) (h₃ : Heap) : Prop where
  a1 : ER g cenv lx H₃ h₃
  a2 : Stp H s.heap H₃ h₃
  a3 : St r H₃ h₃
  a4 : H₃ I = none
  a5 : H₃ D = none
theorem cfin {cenv : Env} {lx l₃ : PL} {s : Shared} {H H' H₃ : PH} {h₂ h₃ : Heap} {St : List PV → PH → Heap → Prop} {I D L : Addr} {r : List PV} (sL' : s.heap.get? L = none) (hown : ∀ b, ownOf cenv b → b = L) (R₂ : ER g cenv lx H' h₂) (S₂ : Stp H s.heap H' h₂) (hcl : cenv.locals = L)
    (hI : ∃ o vs, h₂.get? I = some o ∧ o.data = .fields vs) (hI' : H' I = none) (hD : ∃ o, h₂.get? D = some o) (hD' : H' D = none)
    (frame : ∀ (H₃ : PH) (h₃ : Heap), (∀ o, h₂.get? I = some o → h₃.get? I = some o) → (∀ ws ds, VRs H' h₂ ws ds → VRs H₃ h₃ ws ds) → (∀ b o, h₂.get? b = some o → o.cls = .type "tuple" → (∃ xs n, o.data = .seq xs n) → h₃.get? b = some o) → St r H₃ h₃)
    (hl : ∀ x pv, lx x = some pv → cenv.kindOf x ≠ some .local) (R₃ : ER g cenv l₃ H₃ h₃) (S₃ : StpO (ownOf cenv) H' h₂ H₃ h₃) : CFin g cenv lx s H St I D r H₃ h₃ := by
  obtain ⟨oI, vsI, eI, dI⟩ := hI
  obtain ⟨oD, eD⟩ := hD
  have W₃ := R₂.ownOk
  have notI : ¬ ownOf cenv I := fun w => by
    obtain ⟨m, ⟨o', es, ep, e', d', _⟩, _⟩ := R₂.ns
    rw [hcl, ← hown I w, eI] at e'
    obtain rfl := Option.some.inj e'; rw [dI] at d'; cases d'
  refine ⟨R₂.again R₃ S₃ (fun b w => (hown b w).trans hcl.symm) hl, ?_, ?_, S₃.dom I _ eI hI', S₃.dom D _ eD hD'⟩
  · refine ⟨fun b o e n _ => S₃.keep b o (S₂.keep b o e n id) (S₂.dom b o e n) (fun w => by rw [hown b w, sL'] at e; cases e), fun b o e n => ?_, fun b o e => ?_, fun b e => S₃.idle b (S₂.idle b e)⟩
    · obtain ⟨o', e'⟩ := S₂.alive b o e; exact S₃.dom b o' e' (S₂.dom b o e n)
    · obtain ⟨o', e'⟩ := S₂.alive b o e; exact S₃.alive b o' e'
  · refine frame H₃ h₃ (fun o e => S₃.keep _ o e hI' notI) (fun ws ds z => z.step R₂.br S₃.kp W₃) fun b o e c d => ?_
    obtain ⟨xs, n, d⟩ := d
    exact S₃.keep b o e (R₂.br.fixed e (.inl ⟨c, xs, n, d⟩)) (W₃.seq e c d)

theorem comp_list {scope : Scope} {x : Str} {xp : Pos} {iter elt : Expr} {ifs : List Expr} {pos : Pos} {Q : List PV → PH → Prop} {s : Shared} {RR : Value → Addr → Result → Shared → Prop} (hG : g.Ok) (O : CompOk scope env) (E : EnvOk env) (R : ER g env l H s.heap)
    (h : IT g A env l H (.Name x xp) iter fun items C H₁ => CompL g A env scope l (.Name x xp) ifs elt C Q items [] H₁)
    (hRR : ∀ D C h' tk H' acc, BR g (hup H' D (.list acc)) h' → Stp H s.heap (hup H' D (.list acc)) h' → (∃ m, h'.Ns C m) → s.heap.get? C = none → H' C = none → C ≠ D → g.G.get? C = none → H' D = none → Q acc H' → RR (.ref D) C (.ok .next) { s with heap := h', toks := tk }) :
    wpAny g.m A (eval iter env) (fun xv s₁ => wpAny g.m A (pyIter xv) (fun it s₂ => wpAny g.m A (newList []) (fun acc s₃ => wpAny g.m A (newFunctionEnv scope env.globals (clOf scope env) [] env.qual none .none (some env)) (fun cenv s₄ =>
      codeAny g.m A (.compStart (.ListComp elt [⟨.Name x xp, iter, ifs, 0⟩] scope pos) 0 it acc { cenv with scope := relabel scope env }) (RR acc cenv.locals) s₄) noE s₃) noE s₂) noE s₁) noE s := by
  refine h s _ R ?_
  intro I items C St H₁ h₁ tk₁ W B₁ S₁ st hI nI hC q
  have gI : g.G.get? I = none := by
    cases z : g.G.get? I with
    | none => rfl
    | some o => have := R.br.keep _ o z; rw [nI] at this; cases this
  refine wpAny_newObj_type ?_
  generalize hD0 : h₁.push { cls := Value.type "list", dict := none, data := Data.seq ([] : List Value).toArray } = hD
  have kD : ∀ b o, h₁.get? b = some o → hD.get? b = some o := fun b o e => hD0 ▸ Heap.get?_push_of_some _ e
  have eD : hD.get? h₁.objs.size = some (listOf ([] : List Value).toArray 0) := hD0 ▸ Heap.get?_push_size _ rfl
  have sD : hD.objs.size = h₁.objs.size + 1 := by rw [← hD0, Heap.size_push]
  refine wpAny_newFunctionEnv O.cell (by intro y hy; simp at hy) (fun hE hns hsb => ?_) O.kind
  dsimp only at hns hsb ⊢
  have kE : ∀ b o, hD.get? b = some o → hE.get? b = some o := fun b o e => hsb.extBut b o (Nat.ne_of_lt (Heap.lt_size e)) (Heap.get?_push_of_some _ e)
  have kDE : ∀ b o, h₁.get? b = some o → hE.get? b = some o := fun b o e => kE b o (kD b o e)
  generalize hL : hD.objs.size = L at hns hsb ⊢
  generalize hDD : h₁.objs.size = D at eD sD ⊢
  have LD : L ≠ D := by rw [← hL, sD]; exact Nat.succ_ne_self _
  have BD : BR g H₁ hD := B₁.grown kD
  have nL : H₁ L = none := hL ▸ BD.fresh
  have gL : g.G.get? L = none := hL ▸ BD.gfresh
  have nD : H₁ D = none := hDD ▸ B₁.fresh
  have gD : g.G.get? D = none := hDD ▸ B₁.gfresh
  have lowD : 2 < D := hDD ▸ low (s := { s with heap := h₁, toks := tk₁ }) hG B₁
  have sfresh : ∀ b, h₁.objs.size ≤ b → s.heap.get? b = none := fun b hb => by
    cases z : s.heap.get? b with
    | none => rfl
    | some o => obtain ⟨o', e'⟩ := S₁.alive _ o z; exact absurd (Heap.lt_size e') (Nat.not_lt.mpr hb)
  have sD' : s.heap.get? D = none := sfresh D (hDD ▸ Nat.le_refl _)
  have sL' : s.heap.get? L = none := sfresh L (by rw [← hL, sD, hDD]; exact Nat.le_succ _)
  have RE : ER g (compEnvC scope (clOf scope env) L env) (lcap scope l) H₁ hE := (R.after B₁ S₁).comp O E kDE hns nL gL
  have SE : Stp H s.heap H₁ hE := S₁.trans (Stp.grown kDE)
  have stE : St items H₁ hE := W.frame _ _ _ _ _ st (fun o e => kDE _ o e) (fun ws ds z => z.step B₁ (Stp.grown (own := noOwn) kDE).kp (noOwnOk _)) (fun b o e _ _ => kDE b o e)
  have O' : EnvOk (compEnvC scope (clOf scope env) L env) := compEnvOk O E
  show codeAny g.m A (.compStart (.ListComp elt [⟨.Name x xp, iter, ifs, 0⟩] scope pos) 0 (.ref I) (.ref D) (compEnvC scope (clOf scope env) L env)) (RR (.ref D) L) _
  have loop : codeAny g.m A (.compLoop (.ListComp elt [⟨.Name x xp, iter, ifs, 0⟩] scope pos) 0 (.ref I) (.ref D) (compEnvC scope (clOf scope env) L env)) (RR (.ref D) L) { s with heap := hE, toks := tk₁ + ([] : List (Str × Value)).length } := by
    refine codeAny_compLoop_tests (CLst g A env (compEnvC scope (clOf scope env) L env) scope l (.Name x xp) ifs elt C Q s H St I D) ?_ items.length
      ⟨items, H₁, hE, _, [], 0, [], rfl, RE, SE, stE, hI, nD, kE _ _ eD, .nil, hC, q, rfl⟩
    rintro n s' ⟨r, H', h', tk, ws, k, acc, rfl, R', S', st', hI', hD', eD', U, hC', q', rfl⟩
    have IneD : I ≠ D := fun z => by
      obtain ⟨o, vs, e, d, _⟩ := W.fld _ _ _ st'
      rw [z, eD'] at e; obtain rfl := Option.some.inj e; cases d
    cases r with
    | nil =>
      refine wpAny_mono (W.done H' { s with heap := h', toks := tk } (fun s₁ => RR (.ref D) L (.ok .next) s₁) st' R'.br hC' ?_) (fun x s₁ w => ?_) noted_noE
      · intro h₂ tk₂ k₂
        obtain ⟨B₂, K₂, W₂⟩ := R'.br.touch k₂ (W.fld _ _ _ st') hI' gI
        have S₃ := past S' nI k₂
        have R₂ := R'.touch k₂ (W.fld _ _ _ st') hI' gI
        exact hRR D L h₂ tk₂ H' acc (B₂.add hD' ⟨gD, lowD⟩ (show OR g _ h₂ D (.list acc) from ⟨ws, k, k₂ D _ (Ne.symm IneD) eD', U.step R'.br K₂ W₂⟩)) (S₃.add sD' hD') (let ⟨m, hn, _⟩ := R₂.ns; ⟨m, hn⟩) sL' R₂.hl LD gL hD' q'.2
      · cases x with
        | none => exact w
        | some u => exact w.elim
    | cons v r =>
      let J : Shared → Prop := fun s₅ => ∃ m, m < (v :: r).length ∧ CLst g A env (compEnvC scope (clOf scope env) L env) scope l (.Name x xp) ifs elt C Q s H St I D m s₅
      refine wpAny_mono (W.item v r H' { s with heap := h', toks := tk } (fun u s₂ => wpAny g.m A (PySem.assign (.Name x xp) (compEnvC scope (clOf scope env) L env) u) (fun _ s₃ => wpAny g.m A (forIn ifs true fun c r => if r = true then do let ok ← isTrue c (compEnvC scope (clOf scope env) L env) (eval c (compEnvC scope (clOf scope env) L env)); pure (ForInStep.yield ok) else pure (ForInStep.yield r))
        (fun ok s₄ => if ok = true then wpAny g.m A (eval elt (compEnvC scope (clOf scope env) L env)) (fun y s₅ => wpAny g.m A (call (.builtin "list.append") [.ref D, y]) (fun _ s₆ => J s₆) noE s₅) noE s₄ else J s₄) noE s₃) noE s₂) st' R'.br hC' hI' ?_) (fun x s₁ w => ?_) noted_noE
      · intro u h₂ tk₂ k₂ V₂ st₂
        obtain ⟨_, K₂, W₂⟩ := R'.br.touch k₂ (W.fld _ _ _ st') hI' gI
        have R₂ := R'.touch k₂ (W.fld _ _ _ st') hI' gI
        have S₂ := past S' nI k₂
        have e₂ := k₂ D _ (Ne.symm IneD) eD'
        have U₂ := U.step R'.br K₂ W₂
        obtain ⟨oI, vsI, eI, dI, _⟩ := W.fld _ _ _ st₂
        have hown : ∀ b, ownOf (compEnvC scope (clOf scope env) L env) b → b = L := fun b w => ownC w
        -- the end of a turn, from a heap that has kept what is ours
        have fin : ∀ {lx : PL} {H₃ : PH} {h₃ : Heap}, ER g (compEnvC scope (clOf scope env) L env) lx H₃ h₃ → StpO (ownOf (compEnvC scope (clOf scope env) L env)) H' h₂ H₃ h₃ → CFin g (compEnvC scope (clOf scope env) L env) (lcap scope l) s H St I D r H₃ h₃ := fun R₃ S₃ =>
          cfin sL' hown R₂ S₂ rfl ⟨oI, vsI, eI, dI⟩ hI' ⟨_, e₂⟩ hD' (fun H₃ h₃ f1 f2 f3 => W.frame r H' h₂ H₃ h₃ st₂ f1 f2 f3) (lcap_kind O E) R₃ S₃
        have notD : ¬ ownOf (compEnvC scope (clOf scope env) L env) D := fun w => LD (hown D w).symm
        refine q' (clOf scope env) L O' u { s with heap := h₂, toks := tk₂ } _ R₂ V₂ ?_
        intro l₃ H₃ h₃ tk₃ R₃ S₃ q₃
        refine q₃.run R₃ ?_
        intro b H₄ h₄ tk₄ B₄ S₄ q₄
        have R₄ := R₃.after B₄ S₄
        have S₃₄ := S₃.trans S₄.own
        cases b with
        | false =>
          simp only [Bool.false_eq_true, if_false] at q₄ ⊢
          obtain ⟨a1, a2, a3, a4, a5⟩ := fin R₄ S₃₄
          have a6 := S₃₄.keep D _ e₂ hD' notD
          have a7 := U₂.step R₂.br S₃₄.kp R₂.ownOk
          exact ⟨r.length, Nat.lt_succ_self _, r, H₄, h₄, tk₄, ws, k, acc, rfl, a1, a2, a3, a4, a5, a6, a7, q₄.1, q₄.2, rfl⟩
        | true =>
          simp only [if_true] at q₄ ⊢
          refine q₄ _ _ R₄ ?_
          intro y d H₅ h₅ tk₅ B₅ S₅ V₅ q₅
          obtain ⟨c₅, hsz, q₅⟩ := q₅
          obtain ⟨a1, a2, a3, a4, a5⟩ := fin (R₄.after B₅ S₅) (S₃₄.trans (Stp.own S₅))
          have a6 := (S₃₄.trans (Stp.own S₅)).keep D _ e₂ hD' notD
          have a7 := U₂.step R₂.br (S₃₄.trans (Stp.own S₅)).kp R₂.ownOk
          refine append_at a6 (fun h₆ hs₆ e₆ => ?_) (by rw [List.size_toArray, a7.length]; exact hsz)
          have W₆ : OwnOk (fun b => b = D) h₅ := by
            rintro b o rfl e; rw [a6] at e; obtain rfl := Option.some.inj e; exact .inr (.inr (.inr ⟨_, _, rfl, rfl⟩))
          have R₆ := a1.same hs₆ a6 a5 gD W₆ LD (fun v z => by cases z)
          have S₆ : StpO (fun b => b = D) H₅ h₅ H₅ h₆ := Stp.same hs₆ e₆ rfl
          obtain ⟨oI₅, vI₅, eI₅, _, _⟩ := W.fld _ _ _ a3
          refine ⟨r.length, Nat.lt_succ_self _, r, H₅, h₆, _, ws ++ [y], k + 1, acc ++ [d], rfl, R₆, ?_, ?_, a4, a5, by rw [e₆]; simp [PySem.W.listOf], (a7.append (.cons V₅ .nil)).step a1.br S₆.kp W₆, c₅, q₅, rfl⟩
          · exact ⟨fun b o e n _ => S₆.keep b o (a2.keep b o e n id) (a2.dom b o e n) (fun w => by rw [show b = D from w, sD'] at e; cases e), a2.dom, fun b o e => by
              obtain ⟨o', e'⟩ := a2.alive b o e
              exact S₆.alive b o' e', a2.idle⟩
          · refine W.frame r H₅ h₅ H₅ h₆ a3 (fun o e => (hs₆.2 I IneD).trans e) (fun ws ds z => z.step a1.br S₆.kp W₆) fun b o e c dd => ?_
            refine (hs₆.2 b fun z => ?_).trans e
            rw [show b = D from z, a6] at e; obtain rfl := Option.some.inj e
            exact absurd (show Value.type "list" = Value.type "tuple" from c) (by decide)
      · cases x with
        | none => exact w.elim
        | some u =>
          have w' := of_pure_any (show wpAny g.m A (pure ()) _ noE s₁ from w)
          refine wpAny_mono w' (fun _ s₂ z => wpAny_mono z (fun ok s₃ y => ?_) noted_noE) noted_noE
          cases ok with
          | false => exact y
          | true => exact wpAny_mono y (fun _ s₄ z => wpAny_mono z (fun _ _ z => z) noted_noE) noted_noE
  exact codeAny_compStart_list loop (wpAny_mono (W.self _ _ _ _ stE loop) (fun _ _ z => z) noted_noE)

/-- what is wanted of a dict comprehension's turns -/
noncomputable def CompD {K : Type} [DecidableEq K] (DD : DK g K) (A : Around) (env : Env) (scope : Scope) (l : PL) (tgt : Expr) (ifs : List Expr) (kx vx : Expr) (C : PH → Prop) (Q : List (K × PV) → PH → Prop) : List PV → List (K × PV) → PH → Prop
  | [], acc, H => Q acc H
  | v :: r, acc, H => ∀ cl L, EnvOk (compEnvC scope cl L env) → AT g A (compEnvC scope cl L env) (lcap scope l) H tgt v fun l₁ H₁ =>
      TestsT g A (compEnvC scope cl L env) l₁ H₁ ifs fun b H₂ => if b = true then
        ET g A (compEnvC scope cl L env) l₁ H₂ kx fun kd H₃ => ET g A (compEnvC scope cl L env) l₁ H₃ vx fun d H₄ => C H₄ ∧ ∃ key, kd = DD.val key ∧ acc.length ≤ sizeLine ∧ CompD DD A env scope l tgt ifs kx vx C Q r (dset acc key d) H₄
      else C H₂ ∧ CompD DD A env scope l tgt ifs kx vx C Q r acc H₂

/-- the state of a dict comprehension between two turns -/
inductive CDst {K : Type} [DecidableEq K] (g : Gd) (DD : DK g K) (A : Around) (env cenv : Env) (scope : Scope) (l : PL) (tgt : Expr) (ifs : List Expr) (kx vx : Expr) (C : PH → Prop) (Q : List (K × PV) → PH → Prop) (s : Shared) (H : PH) (St : List PV → PH → Heap → Prop) (I D : Addr) (n : Nat) (s' : Shared) : Prop where
  | mk (r : List PV) (H' : PH) (h' : Heap) (tk : Nat) (ws : List (K × Value)) (acc : List (K × PV)) (_ : s' = { s with heap := h', toks := tk }) (_ : ER g cenv (lcap scope l) H' h') (_ : Stp H s.heap H' h') (_ : St r H' h') (_ : H' I = none) (_ : H' D = none) (_ : h'.DictOf DD.knd D ws) (_ : KV H' h' ws acc) (_ : C H') (_ : CompD DD A env scope l tgt ifs kx vx C Q r acc H') (_ : n = r.length) : CDst g DD A env cenv scope l tgt ifs kx vx C Q s H St I D n s'
theorem comp_dict {K : Type} [DecidableEq K] (DD : DK g K) {scope : Scope} {x : Str} {xp : Pos} {iter kx vx : Expr} {ifs : List Expr} {pos : Pos} {Q : List (K × PV) → PH → Prop} {s : Shared} {RR : Value → Addr → Result → Shared → Prop} (hG : g.Ok) (O : CompOk scope env) (E : EnvOk env) (R : ER g env l H s.heap)
    (h : IT g A env l H (.Name x xp) iter fun items C H₁ => CompD DD A env scope l (.Name x xp) ifs kx vx C Q items [] H₁)
    (hRR : ∀ D C h' tk H' acc ep, BR g (hup H' D (DD.pack acc ep)) h' → Stp H s.heap (hup H' D (DD.pack acc ep)) h' → (∃ m, h'.Ns C m) → s.heap.get? C = none → H' C = none → C ≠ D → g.G.get? C = none → H' D = none → Q acc H' → RR (.ref D) C (.ok .next) { s with heap := h', toks := tk }) :
    wpAny g.m A (eval iter env) (fun xv s₁ => wpAny g.m A (pyIter xv) (fun it s₂ => wpAny g.m A newDict (fun acc s₃ => wpAny g.m A (newFunctionEnv scope env.globals (clOf scope env) [] env.qual none .none (some env)) (fun cenv s₄ =>
      codeAny g.m A (.compStart (.DictComp kx vx [⟨.Name x xp, iter, ifs, 0⟩] scope pos) 0 it acc { cenv with scope := relabel scope env }) (RR acc cenv.locals) s₄) noE s₃) noE s₂) noE s₁) noE s := by
  refine h s _ R ?_
  intro I items C St H₁ h₁ tk₁ W B₁ S₁ st hI nI hC q
  have gI : g.G.get? I = none := by
    cases z : g.G.get? I with
    | none => rfl
    | some o => have := R.br.keep _ o z; rw [nI] at this; cases this
  refine wpAny_newObj_type ?_
  generalize hD0 : h₁.push { cls := Value.type "dict", dict := none, data := Data.dict #[] } = hD
  have kD : ∀ b o, h₁.get? b = some o → hD.get? b = some o := fun b o e => hD0 ▸ Heap.get?_push_of_some _ e
  have eD : hD.DictOf DD.knd h₁.objs.size [] := hD0 ▸ Heap.DictOf.new h₁
  have sD : hD.objs.size = h₁.objs.size + 1 := by rw [← hD0, Heap.size_push]
  refine wpAny_newFunctionEnv O.cell (by intro y hy; simp at hy) (fun hE hns hsb => ?_) O.kind
  dsimp only at hns hsb ⊢
  have kE : ∀ b o, hD.get? b = some o → hE.get? b = some o := fun b o e => hsb.extBut b o (Nat.ne_of_lt (Heap.lt_size e)) (Heap.get?_push_of_some _ e)
  have kDE : ∀ b o, h₁.get? b = some o → hE.get? b = some o := fun b o e => kE b o (kD b o e)
  generalize hL : hD.objs.size = L at hns hsb ⊢
  generalize hDD : h₁.objs.size = D at eD sD ⊢
  have LD : L ≠ D := by rw [← hL, sD]; exact Nat.succ_ne_self _
  have BD : BR g H₁ hD := B₁.grown kD
  have nL : H₁ L = none := hL ▸ BD.fresh
  have gL : g.G.get? L = none := hL ▸ BD.gfresh
  have nD : H₁ D = none := hDD ▸ B₁.fresh
  have gD : g.G.get? D = none := hDD ▸ B₁.gfresh
  have lowD : 2 < D := hDD ▸ low (s := { s with heap := h₁, toks := tk₁ }) hG B₁
  have sfresh : ∀ b, h₁.objs.size ≤ b → s.heap.get? b = none := fun b hb => by
    cases z : s.heap.get? b with
    | none => rfl
    | some o => obtain ⟨o', e'⟩ := S₁.alive _ o z; exact absurd (Heap.lt_size e') (Nat.not_lt.mpr hb)
  have sD' : s.heap.get? D = none := sfresh D (hDD ▸ Nat.le_refl _)
  have sL' : s.heap.get? L = none := sfresh L (by rw [← hL, sD, hDD]; exact Nat.le_succ _)
  have RE : ER g (compEnvC scope (clOf scope env) L env) (lcap scope l) H₁ hE := (R.after B₁ S₁).comp O E kDE hns nL gL
  have SE : Stp H s.heap H₁ hE := S₁.trans (Stp.grown kDE)
  have stE : St items H₁ hE := W.frame _ _ _ _ _ st (fun o e => kDE _ o e) (fun ws ds z => z.step B₁ (Stp.grown (own := noOwn) kDE).kp (noOwnOk _)) (fun b o e _ _ => kDE b o e)
  have O' : EnvOk (compEnvC scope (clOf scope env) L env) := compEnvOk O E
  show codeAny g.m A (.compStart (.DictComp kx vx [⟨.Name x xp, iter, ifs, 0⟩] scope pos) 0 (.ref I) (.ref D) (compEnvC scope (clOf scope env) L env)) (RR (.ref D) L) _
  have loop : codeAny g.m A (.compLoop (.DictComp kx vx [⟨.Name x xp, iter, ifs, 0⟩] scope pos) 0 (.ref I) (.ref D) (compEnvC scope (clOf scope env) L env)) (RR (.ref D) L) { s with heap := hE, toks := tk₁ + ([] : List (Str × Value)).length } := by
    refine codeAny_compLoop_testsD (CDst g DD A env (compEnvC scope (clOf scope env) L env) scope l (.Name x xp) ifs kx vx C Q s H St I D) ?_ items.length
      ⟨items, H₁, hE, _, [], [], rfl, RE, SE, stE, hI, nD, eD.at fun o e => kE _ o e, trivial, hC, q, rfl⟩
    rintro n s' ⟨r, H', h', tk, ws, acc, rfl, R', S', st', hI', hD', eD', U, hC', q', rfl⟩
    have IneD : I ≠ D := fun z => by
      obtain ⟨o, vs, e, d, _⟩ := W.fld _ _ _ st'
      obtain ⟨oD, esD, epD, eo, _, dD, _⟩ := eD'
      rw [z, eo] at e; obtain rfl := Option.some.inj e; rw [dD] at d; cases d
    cases r with
    | nil =>
      refine wpAny_mono (W.done H' { s with heap := h', toks := tk } (fun s₁ => RR (.ref D) L (.ok .next) s₁) st' R'.br hC' ?_) (fun x s₁ w => ?_) noted_noE
      · intro h₂ tk₂ k₂
        obtain ⟨B₂, K₂, W₂⟩ := R'.br.touch k₂ (W.fld _ _ _ st') hI' gI
        have S₃ := past S' nI k₂
        have R₂ := R'.touch k₂ (W.fld _ _ _ st') hI' gI
        obtain ⟨ep, dat⟩ := (eD'.at fun o e => k₂ D o (Ne.symm IneD) e).dictAt
        exact hRR D L h₂ tk₂ H' acc ep (B₂.add hD' ⟨gD, lowD⟩ ((DD.orr _ _ _ _ _).mpr ⟨ws, dat, U.step R'.br K₂ W₂⟩)) (S₃.add sD' hD') (let ⟨m, hn, _⟩ := R₂.ns; ⟨m, hn⟩) sL' R₂.hl LD gL hD' q'
      · cases x with
        | none => exact w
        | some u => exact w.elim
    | cons v r =>
      let J : Shared → Prop := fun s₅ => ∃ m, m < (v :: r).length ∧ CDst g DD A env (compEnvC scope (clOf scope env) L env) scope l (.Name x xp) ifs kx vx C Q s H St I D m s₅
      refine wpAny_mono (W.item v r H' { s with heap := h', toks := tk } (fun u s₂ => wpAny g.m A (PySem.assign (.Name x xp) (compEnvC scope (clOf scope env) L env) u) (fun _ s₃ => wpAny g.m A (forIn ifs true fun c r => if r = true then do let ok ← isTrue c (compEnvC scope (clOf scope env) L env) (eval c (compEnvC scope (clOf scope env) L env)); pure (ForInStep.yield ok) else pure (ForInStep.yield r))
        (fun ok s₄ => if ok = true then wpAny g.m A (eval kx (compEnvC scope (clOf scope env) L env)) (fun ky s₅ => wpAny g.m A (eval vx (compEnvC scope (clOf scope env) L env)) (fun y s₆ => wpAny g.m A (dictSet D ky y) (fun _ s₇ => J s₇) noE s₆) noE s₅) noE s₄ else J s₄) noE s₃) noE s₂) st' R'.br hC' hI' ?_) (fun x s₁ w => ?_) noted_noE
      · intro u h₂ tk₂ k₂ V₂ st₂
        obtain ⟨_, K₂, W₂⟩ := R'.br.touch k₂ (W.fld _ _ _ st') hI' gI
        have R₂ := R'.touch k₂ (W.fld _ _ _ st') hI' gI
        have S₂ := past S' nI k₂
        have e₂ := eD'.at fun o e => k₂ D o (Ne.symm IneD) e
        obtain ⟨oD₂, eoD₂⟩ : ∃ o, h₂.get? D = some o := let ⟨o, _, _, e, _⟩ := e₂; ⟨o, e⟩
        have U₂ := U.step R'.br K₂ W₂
        obtain ⟨oI, vsI, eI, dI, _⟩ := W.fld _ _ _ st₂
        have hown : ∀ b, ownOf (compEnvC scope (clOf scope env) L env) b → b = L := fun b w => ownC w
        -- the end of a turn, from a heap that has kept what is ours
        have fin : ∀ {lx : PL} {H₃ : PH} {h₃ : Heap}, ER g (compEnvC scope (clOf scope env) L env) lx H₃ h₃ → StpO (ownOf (compEnvC scope (clOf scope env) L env)) H' h₂ H₃ h₃ → CFin g (compEnvC scope (clOf scope env) L env) (lcap scope l) s H St I D r H₃ h₃ := fun R₃ S₃ =>
          cfin sL' hown R₂ S₂ rfl ⟨oI, vsI, eI, dI⟩ hI' ⟨_, eoD₂⟩ hD' (fun H₃ h₃ f1 f2 f3 => W.frame r H' h₂ H₃ h₃ st₂ f1 f2 f3) (lcap_kind O E) R₃ S₃
        have notD : ¬ ownOf (compEnvC scope (clOf scope env) L env) D := fun w => LD (hown D w).symm
        refine q' (clOf scope env) L O' u { s with heap := h₂, toks := tk₂ } _ R₂ V₂ ?_
        intro l₃ H₃ h₃ tk₃ R₃ S₃ q₃
        refine q₃.run R₃ ?_
        intro b H₄ h₄ tk₄ B₄ S₄ q₄
        have R₄ := R₃.after B₄ S₄
        have S₃₄ := S₃.trans S₄.own
        cases b with
        | false =>
          simp only [Bool.false_eq_true, if_false] at q₄ ⊢
          obtain ⟨a1, a2, a3, a4, a5⟩ := fin R₄ S₃₄
          have a6 := e₂.at fun o e => S₃₄.keep D o e hD' notD
          have a7 := U₂.step R₂.br S₃₄.kp R₂.ownOk
          exact ⟨r.length, Nat.lt_succ_self _, r, H₄, h₄, tk₄, ws, acc, rfl, a1, a2, a3, a4, a5, a6, a7, q₄.1, q₄.2, rfl⟩
        | true =>
          simp only [if_true] at q₄ ⊢
          refine q₄ _ _ R₄ ?_
          intro ky kd H₄' h₄' tk₄' B₄' S₄' V₄' q₄'
          refine q₄' _ _ (R₄.after B₄' S₄') ?_
          rintro y d H₅ h₅ tk₅ B₅ S₅' V₅ ⟨c₅, key, rfl, hsz, q₅⟩
          have S₅ := S₄'.trans S₅'
          obtain ⟨a1, a2, a3, a4, a5⟩ := fin (R₄.after B₅ S₅) (S₃₄.trans (Stp.own S₅))
          have a6 := e₂.at fun o e => (S₃₄.trans (Stp.own S₅)).keep D o e hD' notD
          have a7 := U₂.step R₂.br (S₃₄.trans (Stp.own S₅)).kp R₂.ownOk
          refine wpAny_dictSet_pairs (DD.is _ _ _ _ V₄') a6 (fun h₆ e₆ hs₆ => ?_) (by rw [a7.length]; exact hsz)
          obtain ⟨oD, esD, epD, eoD, hxD, dD, _⟩ := id a6
          obtain ⟨oD₆, _, _, eoD₆, _, dD₆, _⟩ := id e₆
          have W₆ : OwnOk (fun b => b = D) h₅ := by
            rintro b o rfl e; rw [eoD] at e; obtain rfl := Option.some.inj e; exact .inl ⟨_, _, dD⟩
          have R₆ := a1.same hs₆ eoD a5 gD W₆ LD (fun v z => by rw [dD] at z; cases z)
          have S₆ : StpO (fun b => b = D) H₅ h₅ H₅ h₆ := Stp.same hs₆ eoD₆ rfl
          obtain ⟨oI₅, vI₅, eI₅, _, _⟩ := W.fld _ _ _ a3
          refine ⟨r.length, Nat.lt_succ_self _, r, H₅, h₆, _, PySem.stored ws key y, dset acc key d, rfl, R₆, ?_, ?_, a4, a5, e₆, (a7.stored V₅).step a1.br S₆.kp W₆, c₅, q₅, rfl⟩
          · exact ⟨fun b o e n _ => S₆.keep b o (a2.keep b o e n id) (a2.dom b o e n) (fun w => by rw [show b = D from w, sD'] at e; cases e), a2.dom, fun b o e => by
              obtain ⟨o', e'⟩ := a2.alive b o e
              exact S₆.alive b o' e', a2.idle⟩
          · refine W.frame r H₅ h₅ H₅ h₆ a3 (fun o e => (hs₆.2 I IneD).trans e) (fun ws ds z => z.step a1.br S₆.kp W₆) fun b o e c dd => ?_
            refine (hs₆.2 b fun z => ?_).trans e
            rw [show b = D from z, eoD] at e; obtain rfl := Option.some.inj e
            rw [hxD.1] at c; exact absurd c (by decide)
      · cases x with
        | none => exact w.elim
        | some u =>
          have w' := of_pure_any (show wpAny g.m A (pure ()) _ noE s₁ from w)
          refine wpAny_mono w' (fun _ s₂ z => wpAny_mono z (fun ok s₃ y => ?_) noted_noE) noted_noE
          cases ok with
          | false => exact y
          | true => exact wpAny_mono y (fun _ s₄ z => wpAny_mono z (fun _ _ z => wpAny_mono z (fun _ _ z => z) noted_noE) noted_noE) noted_noE
  exact codeAny_compStart_dict loop (wpAny_mono (W.self _ _ _ _ stE loop) (fun _ _ z => z) noted_noE)
end
end Mine
end
section
open PySem PySem.W PyProof.Rows PySem.Calls PySem.Spec
set_option maxRecDepth 100000

namespace Mine
section
variable {g : Gd} {A : Around} {env : Env} {l : PL} {H : PH}

theorem ns_own {h : Heap} {C : Addr} {m : Str → Option Value} (hn : h.Ns C m) : OwnOk (fun b => b = C) h := by
  rintro b o rfl e
  obtain ⟨o', es, ep, e', d, _⟩ := hn
  rw [e] at e'; obtain rfl := Option.some.inj e'; exact .inl ⟨es, ep, d⟩
/-- letting the comprehension's variables go -/
theorem letgo_step {H' : PH} {h h' h'' : Heap} {C : Addr} {m : Str → Option Value} (B : BR g H' h') (S : Stp H h H' h') (hn : h'.Ns C m) (nC : h.get? C = none) (hC : H' C = none) (gC : g.G.get? C = none) (hs : Heap.SameBut C h' h'') :
    BR g H' h'' ∧ Stp H h H' h'' ∧ Kp (fun b => b = C) H' h' H' h'' := by
  have K : Kp (fun b => b = C) H' h' H' h'' := Kp.same hs
  have ne : ∀ b o, h.get? b = some o → b ≠ C := fun b o e z => by rw [z, nC] at e; cases e
  exact ⟨B.same K (ns_own hn) hs hC gC, ⟨fun b o e n w => (hs.2 b (ne b o e)).trans (S.keep b o e n w), S.dom, fun b o e => let ⟨o', e'⟩ := S.alive b o e; ⟨o', (hs.2 b (ne b o e)).trans e'⟩, S.idle⟩, K⟩

theorem ET.listcomp {scope : Scope} {x : Str} {xp : Pos} {iter elt : Expr} {ifs : List Expr} {pos : Pos} {Q : PV → PH → Prop} (hG : g.Ok) (O : CompOk scope env) (E : EnvOk env) (hs : ∀ env x, foldedSetIterable iter env x = pure x)
    (h : IT g A env l H (.Name x xp) iter fun items C H₁ => CompL g A env scope l (.Name x xp) ifs elt C (fun acc H' => ∀ D, H' D = none → Q (.ref D) (hup H' D (.list acc))) items [] H₁) : ET g A env l H (.ListComp elt [⟨.Name x xp, iter, ifs, 0⟩] scope pos) Q := by
  intro s Q' R P
  show wpAny g.m A (comprehension (.ListComp elt [⟨.Name x xp, iter, ifs, 0⟩] scope pos) scope env (firstIterPos [⟨.Name x xp, iter, ifs, 0⟩] pos) (newList []) false (eval iter env) none) Q' noE s
  refine wpAny_comprehension_free (use := none) rfl (hs env) (O.closure R) O.kind O.loc (comp_list (RR := fun acc C => compPost g.m A noE none Q' acc C) hG O E R h ?_)
  intro D C h' tk H' acc B S ⟨m, hn⟩ nC hC CD gC hD q
  refine ⟨m, hn, fun h'' hs'' => ?_⟩
  obtain ⟨B', S', _⟩ := letgo_step B S hn nC (by rw [hup_ne CD]; exact hC) gC hs''
  exact P _ _ _ h'' tk B' S' (.ref D) (q D hD)

theorem ET.dictcomp {K : Type} [DecidableEq K] (DD : DK g K) {scope : Scope} {x : Str} {xp : Pos} {iter kx vx : Expr} {ifs : List Expr} {pos : Pos} {Q : PV → PH → Prop} (hG : g.Ok) (O : CompOk scope env) (E : EnvOk env) (hs : ∀ env x, foldedSetIterable iter env x = pure x)
    (h : IT g A env l H (.Name x xp) iter fun items C H₁ => CompD DD A env scope l (.Name x xp) ifs kx vx C (fun acc H' => ∀ D ep, H' D = none → Q (.ref D) (hup H' D (DD.pack acc ep))) items [] H₁) : ET g A env l H (.DictComp kx vx [⟨.Name x xp, iter, ifs, 0⟩] scope pos) Q := by
  intro s Q' R P
  show wpAny g.m A (comprehension (.DictComp kx vx [⟨.Name x xp, iter, ifs, 0⟩] scope pos) scope env (firstIterPos [⟨.Name x xp, iter, ifs, 0⟩] pos) newDict false (eval iter env) none) Q' noE s
  refine wpAny_comprehension_free (use := none) rfl (hs env) (O.closure R) O.kind O.loc (comp_dict DD (RR := fun acc C => compPost g.m A noE none Q' acc C) hG O E R h ?_)
  intro D C h' tk H' acc ep B S ⟨m, hn⟩ nC hC CD gC hD q
  refine ⟨m, hn, fun h'' hs'' => ?_⟩
  obtain ⟨B', S', _⟩ := letgo_step B S hn nC (by rw [hup_ne CD]; exact hC) gC hs''
  exact P _ _ _ h'' tk B' S' (.ref D) (q D ep hD)

/-- the end of a comprehension that is stored at once -/
theorem comp_store {y : Str} {py : Pos} {H' : PH} {s : Shared} {h' : Heap} {tk : Nat} {D C : Addr} {Q : PF → PL → PH → Prop} {Q' : Flow → Shared → Prop} (E : EnvOk env) (hk : StoreK env y) (R : ER g env l H s.heap) (P : PostS g env H s Q Q')
    (B : BR g H' h') (S : Stp H s.heap H' h') (hn : ∃ m, h'.Ns C m) (nC : s.heap.get? C = none) (hC : H' C = none) (gC : g.G.get? C = none) (q : Q .next (upd l y (.ref D)) H') :
    compPost g.m A noE (some (PySem.assign (.Name y py) env)) (fun _ s' => Q' .next s') (.ref D) C (.ok .next) { s with heap := h', toks := tk } := by
  obtain ⟨m, hn⟩ := hn
  have R' := R.after B S
  show wpAny g.m A (PySem.assign (.Name y py) env (.ref D)) _ noE _
  refine wpAny_assign_Name (store E R' (.ref D) hk fun l₂ H₂ h₂ tk₂ R₂ S₂ ⟨e1, e2⟩ => ?_)
  subst e1 e2
  obtain ⟨oC, esC, epC, eC, dC, kC⟩ := hn
  have notC : ¬ ownOf env C := by
    rintro (w | ⟨_, x, w⟩)
    · obtain ⟨_, hn', _⟩ := R.ns; obtain ⟨o, e⟩ := Ns.obj hn'; rw [← w, nC] at e; cases e
    · obtain ⟨_, _, o, e, _⟩ := R.cells x C w; rw [nC] at e; cases e
  have hn₂ : h₂.Ns C m := ⟨oC, esC, epC, S₂.keep C _ eC hC notC, dC, kC⟩
  refine ⟨m, hn₂, fun h₃ hs₃ => ?_⟩
  have neL : env.locals ≠ C := fun z => notC (.inl z.symm)
  have R₃ : ER g env (upd l y (.ref D)) H₂ h₃ := R₂.same hs₃ (S₂.keep C _ eC hC notC) hC gC (ns_own hn₂) neL (fun v z => by rw [dC] at z; cases z)
  have S₃ : StpO (ownOf env) H s.heap H₂ h₃ := by
    have T : StpO (ownOf env) H s.heap H₂ h₂ := S.own.trans S₂
    have ne : ∀ b o, s.heap.get? b = some o → b ≠ C := fun b o e z => by rw [z, nC] at e; cases e
    exact ⟨fun b o e n w => (hs₃.2 b (ne b o e)).trans (T.keep b o e n w), T.dom, fun b o e => let ⟨o', e'⟩ := T.alive b o e; ⟨o', (hs₃.2 b (ne b o e)).trans e'⟩, T.idle⟩
  exact P .next .next _ H₂ h₃ tk₂ R₃ S₃ trivial q

theorem ST.assignL {y : Str} {py spos : Pos} {scope : Scope} {x : Str} {xp : Pos} {iter elt : Expr} {ifs : List Expr} {pos : Pos} {Q : PF → PL → PH → Prop} (hG : g.Ok) (O : CompOk scope env) (E : EnvOk env) (hk : StoreK env y)
    (hsw : swapsWith (.ListComp elt [⟨.Name x xp, iter, ifs, 0⟩] scope pos) (some (.Name y py)) spos.line env = pure true) (hs : ∀ env x, foldedSetIterable iter env x = pure x)
    (h : IT g A env l H (.Name x xp) iter fun items C H₁ => CompL g A env scope l (.Name x xp) ifs elt C (fun acc H' => ∀ D, H' D = none → Q .next (upd l y (.ref D)) (hup H' D (.list acc))) items [] H₁) : ST g A env l H (.Assign [.Name y py] (.ListComp elt [⟨.Name x xp, iter, ifs, 0⟩] scope pos) spos) Q := by
  intro s Q' R P
  rw [exec_Assign_Name_used _ _ _ _ hsw]
  refine wpAny_bind (wpAny_standAt (wpAny_bind ?_))
  show wpAny g.m A (do let _ ← comprehension (.ListComp elt [⟨.Name x xp, iter, ifs, 0⟩] scope pos) scope env (firstIterPos [⟨.Name x xp, iter, ifs, 0⟩] pos) (newList []) false (eval iter env) (some (PySem.assign (.Name y py) env))) _ _ s
  refine wpAny_bind (wpAny_mono (wpAny_comprehension_free (use := some (PySem.assign (.Name y py) env)) (Q := fun _ s' => Q' .next s') rfl (hs env) (O.closure R) O.kind O.loc
    (comp_list (RR := fun acc C => compPost g.m A noE (some (PySem.assign (.Name y py) env)) (fun _ s' => Q' .next s') acc C) hG O E R h ?_)) (fun _ s' hq => wpAny_pure (wpAny_pure hq)) fun _ _ e => e)
  intro D C h' tk H' acc B S hn nC hC CD gC hD q
  exact comp_store E hk R P B S hn nC (by rw [hup_ne CD]; exact hC) gC (q D hD)

end
end Mine
end
section
open PySem PySem.W PyProof.Rows PySem.Calls PySem.Spec
set_option maxRecDepth 100000

namespace Mine

/-! instances with slots, made by their own __init__ -/
structure InstK (K : Frag) (C fI : Addr) : Prop where
  makes : makesIn K C = true
  init : findIn K (.ref C) "__init__" = some (some (.ref fI))
  fn : typeIn K (.ref fI) = some (.type "function")
  seta : findIn K (.ref C) "__setattr__" = some (some (.builtin "object.__setattr__"))
  over : plainOver K C = true
structure FieldK (K : Frag) (C : Addr) (name : Str) (i : Nat) : Prop where
  at_ : ∃ p, takerIn K C name = some (some (.ref p)) ∧ typeIn K (.ref p) = some (.type "member_descriptor") ∧ slotIn K p C = some i
  lt : i < 1000
inductive InitB (K : Frag) (C : Addr) : List Str → List Nat → List Stmt → Prop
  | nil : InitB K C [] [] []
  | cons {x f : Str} {xs : List Str} {i : Nat} {js : List Nat} {p1 p2 p3 pos : Pos} {rest : List Stmt} : FieldK K C f i → (x == ("__debug__" : Str)) = false → InitB K C xs js rest →
      InitB K C (x :: xs) (i :: js) (.Assign [.Attribute (.Name "self" p1) f p2] (.Name x p3) pos :: rest)

abbrev slotsObj (C dx : Addr) (sl : List (Option Value)) : Obj := ⟨.ref C, some dx, .plain, sl.toArray⟩
noncomputable def slotSet (sl : List (Option Value)) (i : Nat) (v : Value) : List (Option Value) := (sl ++ List.replicate (i + 1 - sl.length) none).set i (some v)
noncomputable def slotsAll : List Nat → List Value → List (Option Value) → List (Option Value)
  | i :: is, v :: vs, sl => slotsAll is vs (slotSet sl i v)
  | _, _, sl => sl

section
variable {prog : Program} {w : World} {A : Around} {E : Value → Shared → Prop}
theorem init_run {K : Frag} {C x dx L a : Addr} {h₁ : Heap} {m : Str → Option Value} {fd : FuncData} {Q : Flow → Shared → Prop} (hk : fd.scope.kind = .function) (X : K.In h₁) (hs : findIn K (.ref C) "__setattr__" = some (some (.builtin "object.__setattr__"))) (hp : plainOver K C = true)
    (hself : m "self" = some (.ref x)) (lself : fd.scope.names.lookup (Str.ofString "self") = some NameKind.local) (ne : x ≠ dx) :
    ∀ {xs : List Str} {js : List Nat} {body : List Stmt}, InitB K C xs js body → ∀ {ws : List Value} {sl : List (Option Value)} {s : Shared}, ws.length = xs.length → (∀ (j : Nat) (x : Str) (w : Value), xs[j]? = some x → ws[j]? = some w → m x = some w) → (∀ x ∈ xs, fd.scope.names.lookup x = some .local) →
      Fr h₁ L s.heap m → News h₁ L s.heap [(x, slotsObj C dx sl), (dx, emptyDict)] →
      (∀ h' tk, Fr h₁ L h' m → News h₁ L h' [(x, slotsObj C dx (slotsAll js ws sl)), (dx, emptyDict)] → Q .next { s with heap := h', toks := tk }) → wpAny (model prog w) A (execs body (callEnv fd L a)) Q E s := by
  intro xs js body hI
  induction hI with
  | nil =>
    intro ws sl s hl _ _ F N q
    obtain rfl : ws = [] := List.length_eq_zero_iff.mp hl
    exact wpAny_execs_nil (q s.heap s.toks F N)
  | @cons y f xs i js p1 p2 p3 pos rest hf hd _ ih =>
    intro ws sl s hl hm hloc F N q
    cases ws with
    | nil => cases hl
    | cons u ws =>
    obtain ⟨⟨p, a1, a2, a3⟩, lt⟩ := hf
    refine wpAny_execs_cons (plainObj_wpAny_Assign_Attribute (ldc hk (hloc y List.mem_cons_self) F.ns (hm 0 y u (by simp) (by simp)) (ldc hk lself F.ns hself ?_) hd) rfl)
    refine set_slot (ox := slotsObj C dx sl) (ox' := slotsObj C dx (slotSet sl i u)) (od := emptyDict) F X N ⟨N.get List.mem_cons_self, rfl, rfl, N.get (List.mem_cons_of_mem _ List.mem_cons_self)⟩ hs hp a1 a2 a3 lt ?_ rfl (Upd.head (fun p hp => ?_)) fun h' F' N' => ?_
    · show Obj.mk _ _ _ _ = Obj.mk _ _ _ _
      congr 1
      apply Array.ext'
      simp [slotSet]
    · obtain rfl := List.mem_singleton.mp hp; exact ne.symm
    · exact ih (ws := ws) (sl := slotSet sl i u) (by simpa using hl) (fun j x w e e' => hm (j + 1) x w (by simpa using e) (by simpa using e')) (fun x hx => hloc x (List.mem_cons_of_mem _ hx)) F' N' fun h'' tk F'' N'' => q h'' tk F'' N''
end

theorem lookup_of_mem {β : Type} {x : Str} {v : β} : ∀ {l : List (Str × β)}, (l.map (·.1)).Nodup → (x, v) ∈ l → l.lookup x = some v
  | (a, b) :: r, hn, hm => by
    rw [List.map_cons, List.nodup_cons] at hn
    rw [List.lookup_cons]
    rcases List.mem_cons.mp hm with e | hm
    · injection e with e1 e2; subst e1 e2; rw [show (x == x) = true from beq_iff_eq.mpr rfl]
    · have : x ≠ a := fun z => hn.1 (z ▸ List.mem_map_of_mem (f := (·.1)) hm)
      rw [show (x == a) = false from beq_eq_false_iff_ne.mpr this]; exact lookup_of_mem hn.2 hm

section
variable {g : Gd} {A : Around} {H : PH} {Q : PV → PH → Prop}
theorem CT.inst {C fI : Addr} {fo : Obj} {fd : FuncData} {body : List Stmt} {ns : List Str} {args : List PV} (hG : g.Ok) (hR : Room A 3) (IK : InstK g.K C fI)
    (ho : g.K.lookup fI = some fo) (hfd : fo.data = .func fd) (hb : fd.body = .stmts body) (hcode : codeIn g.K fd.code fd.qualname = true)
    (hco : fd.scope.isCoroutine = false) (hgen : fd.scope.isGenerator = false) (hk : fd.scope.kind = .function)
    (hcell : ∀ x ∈ fd.scope.names, x.2 ≠ .cell) (hloc : ∀ x ∈ (Str.ofString "self") :: ns, fd.scope.names.lookup x = some .local) (hbind : ∀ s vs, vs.length = ns.length + 1 → BindsTo s fd ⟨vs, []⟩ (((Str.ofString "self") :: ns).zip vs))
    (hnd : ((Str.ofString "self") :: ns).Nodup) {js : List Nat} {sg : ∀ {α : Type}, List α → List α} (hI : InitB g.K C ns js body) (hlen : args.length = ns.length)
    (hsl : ∀ ws, ws.length = ns.length → slotsAll js ws [] = (sg ws).map some) (hsg : ∀ H h ws ds, VRs H h ws ds → ws.length = ns.length → VRs H h (sg ws) (sg ds))
    (h : ∀ dx, H dx = none → Q (.inst C (sg args)) (hup H dx .idle)) : CT g A H (.ref C) args Q := by
  intro vs s Q' V B P
  have X : g.K.In s.heap := hG.kin.keeps B.keep
  have lim : s.heap.NoLimit := hG.top.nolimit.keeps B.keep
  have hz : vs.length = ns.length := V.length.trans hlen
  obtain ⟨h₁, gs, dr, t, os⟩ := s
  refine wpAny_call (make_core (makes_of X IK.makes) (looks_findIn X IK.init) (fun self => bind_fn X self IK.fn) (.inl rfl) ?_)
  have k2 : ∀ b o, h₁.get? b = some o → ((h₁.push emptyDict).push (instObj C h₁.objs.size)).get? b = some o := fun b o e => Heap.get?_push_of_some _ (Heap.get?_push_of_some _ e)
  refine codeAny_call_def (by have := hR.d; show A.depth + 1 < 1000; omega) (X.keeps k2 _ _ ho) hfd (lim.keeps k2) (codeRec_of (X.keeps k2) hcode) hb (hbind _ _ (by simp [hz])) hcell (fun p hp => hloc p.1 (List.of_mem_zip hp).1) (fun h₀ hns hk0 => ?_) hco hgen hk
  generalize hm : (fun x => (((Str.ofString "self") :: ns).zip (Value.ref (h₁.objs.size + 1) :: vs)).reverse.lookup x) = m at hns
  have hsz : ((h₁.push emptyDict).push (instObj C h₁.objs.size)).objs.size = h₁.objs.size + 2 := by rw [Heap.size_push, Heap.size_push]
  rw [hsz] at hns
  have F : Fr h₁ (h₁.objs.size + 2) h₀ m := ⟨hns, fun b o e => hk0 b o (k2 b o e), by omega⟩
  have hx : ((h₁.push emptyDict).push (instObj C h₁.objs.size)).get? (h₁.objs.size + 1) = some (instObj C h₁.objs.size) := by heap_get
  have hd : ((h₁.push emptyDict).push (instObj C h₁.objs.size)).get? h₁.objs.size = some emptyDict := by heap_get
  have none1 : ∀ c, h₁.objs.size ≤ c → h₁.get? c = none := fun c hc => by
    cases q : h₁.get? c with
    | none => rfl
    | some o => exact absurd (Heap.lt_size q) (Nat.not_lt.mpr hc)
  have N : News h₁ (h₁.objs.size + 2) h₀ [(h₁.objs.size + 1, slotsObj C h₁.objs.size []), (h₁.objs.size, emptyDict)] := by
    intro p hp
    rcases List.mem_cons.mp hp with rfl | hp
    · exact ⟨hk0 _ _ hx, by show h₁.objs.size + 1 ≠ _; omega, none1 _ (by show h₁.objs.size ≤ h₁.objs.size + 1; omega)⟩
    · obtain rfl := List.mem_singleton.mp hp
      exact ⟨hk0 _ _ hd, by show h₁.objs.size ≠ _; omega, none1 _ (Nat.le_refl _)⟩
  have keyz : ((((Str.ofString "self") :: ns).zip (Value.ref (h₁.objs.size + 1) :: vs)).reverse.map (·.1)).Nodup := by
    rw [List.map_reverse, List.map_fst_zip (by simp [hz])]; exact List.pairwise_reverse.mpr (List.Pairwise.imp Ne.symm hnd)
  have hget : ∀ p ∈ ((Str.ofString "self") :: ns).zip (Value.ref (h₁.objs.size + 1) :: vs), m p.1 = some p.2 := fun p hp => by
    rw [← hm]; exact lookup_of_mem keyz (List.mem_reverse.mpr hp)
  rw [hsz]
  refine init_run (x := h₁.objs.size + 1) (dx := h₁.objs.size) (h₁ := h₁) hk X IK.seta IK.over ?_ (hloc _ List.mem_cons_self) (Nat.succ_ne_self _) hI (ws := vs) (sl := []) hz (fun j x w e e' => ?_) (fun x hx => hloc x (List.mem_cons_of_mem _ hx)) F N fun h' tk F' N' => ?_
  · exact hget (Str.ofString "self", _) (by rw [List.zip_cons_cons]; exact List.mem_cons_self)
  · refine hget (x, w) ?_
    rw [List.zip_cons_cons]
    refine List.mem_cons_of_mem _ ?_
    refine List.mem_iff_getElem?.mpr ⟨j, ?_⟩
    rw [List.getElem?_zip_eq_some]; exact ⟨e, e'⟩
  · refine ⟨rfl, ?_⟩
    have nd : h₁.get? h₁.objs.size = none := none1 _ (Nat.le_refl _)
    have S : Stp H h₁ (hup H h₁.objs.size .idle) h' := Stp.born B F'.keep nd
    rw [hsl vs hz] at N'
    exact P _ _ _ h' tk (B.born (po := .idle) F'.keep nd ⟨B.gfresh, low (s := ⟨h₁, gs, dr, t, os⟩) hG B⟩ ⟨_, N'.get (List.mem_cons_of_mem _ List.mem_cons_self), rfl, _, _, rfl⟩) S
      (.inst (N'.get List.mem_cons_self) (hup_at _ _ _) (hsg _ _ _ _ (V.after B S) hz)) (h _ B.fresh)
end
end Mine
end
section
open PySem PySem.W PyProof.Rows PySem.Calls PySem.Spec
set_option maxRecDepth 100000

namespace Mine
theorem parms_at {x : Str} {ns : List Str} {v : PV} {ds : List PV} : parms (x :: ns) (v :: ds) x = some v := by
  unfold parms; rw [List.zip_cons_cons, List.lookup_cons, show (x == x) = true from beq_iff_eq.mpr rfl]
theorem parms_ne {x y : Str} {ns : List Str} {v : PV} {ds : List PV} (h : y ≠ x) : parms (x :: ns) (v :: ds) y = parms ns ds y := by
  unfold parms; rw [List.zip_cons_cons, List.lookup_cons, show (y == x) = false from beq_eq_false_iff_ne.mpr h]

/-- what was there is there still -/
noncomputable def Ext (H H' : PH) : Prop := ∀ a po, H a = some po → H' a = some po
theorem Ext.refl (H : PH) : Ext H H := fun _ _ e => e
theorem Ext.trans {H H₁ H₂ : PH} (x : Ext H H₁) (y : Ext H₁ H₂) : Ext H H₂ := fun a po e => y a po (x a po e)
theorem Ext.hup {H H₁ : PH} (x : Ext H H₁) {a : Addr} {o : PO} (n : H₁ a = none) : Ext H (hup H₁ a o) := fun b po e => by
  rw [hup_ne (fun z => by have := x b po e; rw [z, n] at this; cases this)]; exact x b po e
/-- all but one object -/
noncomputable def ExtB (a : Addr) (H H' : PH) : Prop := ∀ b po, b ≠ a → H b = some po → H' b = some po
theorem Ext.but {H H' : PH} (x : Ext H H') (a : Addr) : ExtB a H H' := fun b po _ e => x b po e

/-! the comparing of tables, as numbers -/
section
variable {K : Type} [DecidableEq K]
abbrev Tab (K : Type) := List (K × (Int × Int))
noncomputable def dgetT (t : Tab K) (k : K) : Option (Int × Int) := (t.find? fun e => e.1 = k).map (·.2)
noncomputable def ddelT (t : Tab K) (k : K) : Tab K := t.filter fun e => decide (e.1 ≠ k)
/-- (key, size, size_diff, count, count_diff) -/
abbrev Dif (K : Type) := K × Int × Int × Int × Int
noncomputable def dif1 (k : K) (s c : Int) : Option (Int × Int) → Dif K
  | some (ps, pc) => (k, s, s - ps, c, c - pc)
  | none => (k, s, s, c, c)
noncomputable def cmpNew : Tab K → Tab K → List (Dif K)
  | (k, s, c) :: r, o => dif1 k s c (dgetT o k) :: cmpNew r (ddelT o k)
  | [], _ => []
noncomputable def cmpLeft : Tab K → Tab K → Tab K
  | (k, _, _) :: r, o => cmpLeft r (ddelT o k)
  | [], o => o
noncomputable def cmpOld : Tab K → List (Dif K)
  | (k, s, c) :: r => (k, 0, -s, 0, -c) :: cmpOld r
  | [] => []
noncomputable def cmpAll (o n : Tab K) : List (Dif K) := cmpNew n o ++ cmpOld (cmpLeft n o)
theorem ddelT_none {t : Tab K} {k : K} (h : dgetT t k = none) : ddelT t k = t := by
  unfold dgetT at h; unfold ddelT
  rw [Option.map_eq_none_iff, List.find?_eq_none] at h
  rw [List.filter_eq_self]
  intro e he; simpa using h e he
theorem ddelT_len (t : Tab K) (k : K) : (ddelT t k).length ≤ t.length := List.length_filter_le _ _
theorem cmpLeft_len (n : Tab K) : ∀ o : Tab K, (cmpLeft n o).length ≤ o.length := by
  induction n with
  | nil => exact fun o => Nat.le_refl _
  | cons e r ih => obtain ⟨k, s, c⟩ := e; exact fun o => Nat.le_trans (ih _) (ddelT_len _ _)
theorem cmpNew_len (n : Tab K) : ∀ o : Tab K, (cmpNew n o).length = n.length := by
  induction n with
  | nil => exact fun o => rfl
  | cons e r ih => obtain ⟨k, s, c⟩ := e; exact fun o => congrArg (· + 1) (ih _)
/-- a table of Statistics as values of a dict -/
noncomputable def tabP (val : K → PV) (CS : Addr) (t : Tab K) : List (K × PV) := t.map fun e => (e.1, .inst CS [.int e.2.2, .int e.2.1, val e.1])
theorem tabP_get (val : K → PV) (CS : Addr) (k : K) : ∀ (t : Tab K), dget (tabP val CS t) k = (dgetT t k).map fun e => .inst CS [.int e.2, .int e.1, val k]
  | [] => rfl
  | (k', s, c) :: r => by
    have ih := tabP_get val CS k r
    unfold dget dgetT tabP at *
    rw [List.map_cons, List.find?_cons, List.find?_cons]
    by_cases z : k' = k
    · subst z; simp
    · simp only [z, decide_false]
      exact ih
theorem tabP_del (val : K → PV) (CS : Addr) (k : K) (t : Tab K) : ddel (tabP val CS t) k = tabP val CS (ddelT t k) := by
  unfold ddel ddelT tabP
  rw [List.filter_map]; rfl
theorem tabP_len (val : K → PV) (CS : Addr) (t : Tab K) : (tabP val CS t).length = t.length := by simp [tabP]
abbrev difP (val : K → PV) (CD : Addr) (d : Dif K) : PV := .inst CD [.int d.2.2.2.1, .int d.2.2.2.2, .int d.2.1, .int d.2.2.1, val d.1]
end
section
variable {g : Gd} {A : Around} {env : Env}
theorem LoopT.inv {tgt : Expr} {body : List Stmt} {C : PH → Prop} {Q : PF → PL → PH → Prop} (Inv : List PV → PL → PH → Prop)
    (turn : ∀ v r l H, Inv (v :: r) l H → AT g A env l H tgt v fun l₁ H₁ => SS g A env l₁ H₁ body fun f l₂ H₂ => match f with
      | .next | .cont => C H₂ ∧ Inv r l₂ H₂
      | .brk => Q .next l₂ H₂
      | .ret v => Q (.ret v) l₂ H₂)
    (done : ∀ l H, Inv [] l H → Q .next l H) : ∀ {items : List PV} {l : PL} {H : PH}, Inv items l H → LoopT g A env tgt body C Q items l H
  | [], l, H, h => done l H h
  | v :: r, l, H, h => by
    intro u s Q' R V P
    refine turn v r l H h u s Q' R V fun l₁ H₁ h₁ t₁ R₁ S₁ q₁ => P l₁ H₁ h₁ t₁ R₁ S₁ (q₁.mono fun f l₂ H₂ q => ?_)
    cases f with
    | next => exact ⟨q.1, LoopT.inv Inv turn done q.2⟩
    | cont => exact ⟨q.1, LoopT.inv Inv turn done q.2⟩
    | brk => exact q
    | ret v => exact q
theorem AT.mono {l : PL} {H : PH} {t : Expr} {v : PV} {Q₁ Q : PL → PH → Prop} (h : AT g A env l H t v Q₁) (k : ∀ l' H', Q₁ l' H' → Q l' H') : AT g A env l H t v Q :=
  fun u s Q' R V P => h u s Q' R V fun l' H' h' tk R' S q => P l' H' h' tk R' S (k _ _ q)
theorem BT.mono {l : PL} {H : PH} {t : Expr} {Q₁ Q : Bool → PH → Prop} (h : BT g A env l H t Q₁) (k : ∀ b H', Q₁ b H' → Q b H') : BT g A env l H t Q :=
  fun s Q' R P => h s Q' R fun b H' h' tk B S q => P b H' h' tk B S (k _ _ q)
theorem TestsT.mono {l : PL} {H : PH} {ifs : List Expr} {K₁ K : Bool → PH → Prop} (h : TestsT g A env l H ifs K₁) (k : ∀ b H', K₁ b H' → K b H') : TestsT g A env l H ifs K := by
  match ifs, h with
  | [], h => exact k _ _ h
  | [c], h => exact BT.mono h k
theorem CompL.inv {scope : Scope} {l : PL} {tgt : Expr} {ifs : List Expr} {elt : Expr} {C : PH → Prop} {Q : List PV → PH → Prop} (Inv : List PV → List PV → PH → Prop)
    (turn : ∀ v r acc H, Inv (v :: r) acc H → ∀ cl L, EnvOk (compEnvC scope cl L env) → AT g A (compEnvC scope cl L env) (lcap scope l) H tgt v fun l₁ H₁ =>
      TestsT g A (compEnvC scope cl L env) l₁ H₁ ifs fun b H₂ => if b = true then
        ET g A (compEnvC scope cl L env) l₁ H₂ elt fun d H₃ => C H₃ ∧ acc.length ≤ sizeLine ∧ Inv r (acc ++ [d]) H₃
      else C H₂ ∧ Inv r acc H₂)
    (done : ∀ acc H, Inv [] acc H → acc.length ≤ sizeLine ∧ Q acc H) : ∀ {items acc : List PV} {H : PH}, Inv items acc H → CompL g A env scope l tgt ifs elt C Q items acc H
  | [], acc, H, h => done acc H h
  | v :: r, acc, H, h => fun cl L E => (turn v r acc H h cl L E).mono fun l₁ H₁ q => q.mono fun b H₂ q => by
    cases b with
    | true => simp only [if_true] at q ⊢; exact ET.mono q fun d H₃ q => ⟨q.1, q.2.1, CompL.inv Inv turn done q.2.2⟩
    | false => simp only [Bool.false_eq_true, if_false] at q ⊢; exact ⟨q.1, CompL.inv Inv turn done q.2⟩
theorem CompD.inv {K : Type} [DecidableEq K] {DD : DK g K} {scope : Scope} {l : PL} {tgt : Expr} {ifs : List Expr} {kx vx : Expr} {C : PH → Prop} {Q : List (K × PV) → PH → Prop} (Inv : List PV → List (K × PV) → PH → Prop)
    (turn : ∀ v r acc H, Inv (v :: r) acc H → ∀ cl L, EnvOk (compEnvC scope cl L env) → AT g A (compEnvC scope cl L env) (lcap scope l) H tgt v fun l₁ H₁ =>
      TestsT g A (compEnvC scope cl L env) l₁ H₁ ifs fun b H₂ => if b = true then
        ET g A (compEnvC scope cl L env) l₁ H₂ kx fun kd H₃ => ET g A (compEnvC scope cl L env) l₁ H₃ vx fun d H₄ => C H₄ ∧ ∃ key, kd = DD.val key ∧ acc.length ≤ sizeLine ∧ Inv r (dset acc key d) H₄
      else C H₂ ∧ Inv r acc H₂)
    (done : ∀ acc H, Inv [] acc H → Q acc H) : ∀ {items : List PV} {acc : List (K × PV)} {H : PH}, Inv items acc H → CompD DD A env scope l tgt ifs kx vx C Q items acc H
  | [], acc, H, h => done acc H h
  | v :: r, acc, H, h => fun cl L E => (turn v r acc H h cl L E).mono fun l₁ H₁ q => q.mono fun b H₂ q => by
    cases b with
    | true => simp only [if_true] at q ⊢; exact ET.mono q fun kd H₃ q => ET.mono q fun d H₄ ⟨q1, key, e, q2, q3⟩ => ⟨q1, key, e, q2, CompD.inv Inv turn done q3⟩
    | false => simp only [Bool.false_eq_true, if_false] at q ⊢; exact ⟨q.1, CompD.inv Inv turn done q.2⟩

theorem ExtB.hupN {a D : Addr} {H H' : PH} {o : PO} (x : ExtB a H H') (n : H D = none) : ExtB a H (hup H' D o) := fun b po ne e => by
  rw [hup_ne (fun z => by rw [z, n] at e; cases e)]; exact x b po ne e
theorem ExtB.hupA {a : Addr} {H H' : PH} {o : PO} (x : ExtB a H H') : ExtB a H (hup H' a o) := fun b po ne e => by
  rw [hup_ne ne]; exact x b po ne e
theorem ExtB.hupF {a d : Addr} {H H' : PH} {o : PO} (x : ExtB a H H') (n : H' d = none) : ExtB a H (hup H' d o) := fun b po ne e => by
  have := x b po ne e
  rw [hup_ne (fun z => by rw [z, n] at this; cases this)]; exact this
theorem ne_of {H : PH} {a b : Addr} {po : PO} (e : H a = some po) (n : H b = none) : a ≠ b := fun z => by rw [z, n] at e; cases e
end
section
variable {g : Gd} {A : Around} {H : PH} {Q : PV → PH → Prop}
noncomputable def KO (env : Env) (names : List (Str × NameKind)) : Prop := ∀ x, env.kindOf x = names.lookup x
theorem CT.def {f : Addr} {fo : Obj} {fd : FuncData} {body : List Stmt} {ns : List Str} {args : List PV} {n : Nat} {names : List (Str × NameKind)} (hG : g.Ok) (hR : Room A (n + 1))
    (ho : g.K.lookup f = some fo) (hfd : fo.data = .func fd) (hb : fd.body = .stmts body) (hcode : codeIn g.K fd.code fd.qualname = true)
    (hnames : fd.scope.names = names)
    (hco : fd.scope.isCoroutine = false) (hgen : fd.scope.isGenerator = false) (hk : fd.scope.kind = .function) (hcl : fd.closure = []) (hgl : fd.globals = mainGlobals) (hbi : fd.builtins = builtinsNs)
    (hbind : ∀ s vs, vs.length = ns.length → BindsTo s fd ⟨vs, []⟩ (ns.zip vs)) (hnd : ns.Nodup)
    (hns : (ns.all fun x => names.lookup x == some .local || names.lookup x == some .cell) = true) (hlen : args.length = ns.length)
    (h : ∀ (e : Env) (A' : Around), EnvOk e → KO e names → e.func.isSome = true → Room A' n → SS g A' e (parms ns args) H body fun fl _ H' => match fl with | .ret v => Q v H' | .next => Q .none H' | _ => False) : CT g A H (.ref f) args Q := by
  subst hnames
  exact CT.fn hG hR ho hfd hb hcode hco hgen hk hcl hgl hbi hbind hnd hns hlen fun e A' hE hF hR' => h { e with scope := fd.scope } A' hE (fun x => rfl) hF hR'
end
theorem lcap_free {scope : Scope} {l : PL} {y : Str} (h : scope.names.lookup y = some .free) : lcap scope l y = l y := if_pos h
theorem KO.at {env : Env} {names : List (Str × NameKind)} {x : Str} {v : Option NameKind} (h : KO env names) (e : names.lookup x = v) : env.kindOf x = v := (h x).trans e
section
variable {g : Gd} {A : Around} {env : Env} {l : PL} {H : PH}
theorem ST.mono {st : Stmt} {Q₁ Q : PF → PL → PH → Prop} (h : ST g A env l H st Q₁) (k : ∀ f l' H', Q₁ f l' H' → Q f l' H') : ST g A env l H st Q :=
  fun s Q' R P => h s Q' R fun f pf l' H' h' tk R' S V q => P f pf l' H' h' tk R' S V (k _ _ _ q)
/-- a cut between two statements -/
theorem SS.seq {st : Stmt} {rest : List Stmt} {Q : PF → PL → PH → Prop} (M : PL → PH → Prop) (h : ST g A env l H st fun f l₁ H₁ => match f with | .next => M l₁ H₁ | f => Q f l₁ H₁) (k : ∀ l₁ H₁, M l₁ H₁ → SS g A env l₁ H₁ rest Q) : SS g A env l H (st :: rest) Q :=
  SS.cons (h.mono fun f l₁ H₁ q => by cases f <;> first | exact k _ _ q | exact q)
/-- a for whose body goes round, with a word that holds between the turns -/
theorem ST.forI {tgt iter : Expr} {body : List Stmt} {pos : Pos} {Q : PF → PL → PH → Prop} (hs : ∀ env x, foldedSetIterable iter env x = pure x) (Inv : List PV → PL → PH → Prop) (C : PH → Prop)
    (h : IT g A env l H tgt iter fun items C' H₁ => C' = C ∧ Inv items l H₁)
    (turn : ∀ v r l H, Inv (v :: r) l H → AT g A env l H tgt v fun l₁ H₁ => SS g A env l₁ H₁ body fun f l₂ H₂ => match f with
      | .next | .cont => C H₂ ∧ Inv r l₂ H₂
      | .brk => Q .next l₂ H₂
      | .ret v => Q (.ret v) l₂ H₂)
    (done : ∀ l H, Inv [] l H → Q .next l H) : ST g A env l H (.For tgt iter body [] pos) Q := by
  refine ST.for hs ?_
  intro s Q' R P
  refine h s Q' R ?_
  rintro I items C' St H' h' tk W B S st hI nI hC ⟨rfl, q⟩
  exact P I items C' St H' h' tk W B S st hI nI hC (LoopT.inv Inv turn done q)
end
theorem iteT {P R : Prop} (h : P) : if (true = true) then P else R := by rwa [if_pos rfl]
theorem iteF {P R : Prop} (h : R) : if (false = true) then P else R := by rwa [if_neg (by decide)]
theorem attrK {K : Frag} {C : Addr} {name : Str} {vs : List PV} {i : Nat} {d : PV} {Q : PV → Prop} (hs : SlotAt K C name i) (e : vs[i]? = some d) (hp : d.plain = true) (q : Q d) :
    ∃ C' vs' i d, PV.inst C vs = PV.inst C' vs' ∧ SlotAt K C' name i ∧ vs'[i]? = some d ∧ d.plain = true ∧ Q d := ⟨C, vs, i, d, rfl, hs, e, hp, q⟩
theorem methL {H : PH} {a : Addr} {ds : List PV} {P : Prop} (e : H a = some (.list ds)) (q : P) : (∃ a' po, PV.ref a = .ref a' ∧ H a' = some po ∧ po ≠ .idle ∧ ("list" = match po with | .list _ => "list" | _ => "dict")) ∧ P := ⟨⟨a, _, rfl, e, nofun, rfl⟩, q⟩
theorem methD {g : Gd} {K : Type} [DecidableEq K] {D : DK g K} {H : PH} {a : Addr} {es : List (K × PV)} {ep : Nat} {P : Prop} (e : H a = some (D.pack es ep)) (q : P) : (∃ a' po, PV.ref a = .ref a' ∧ H a' = some po ∧ po ≠ .idle ∧ ("dict" = match po with | .list _ => "list" | _ => "dict")) ∧ P := ⟨⟨a, _, rfl, e, D.nidle _ _, (D.ty _ _).symm⟩, q⟩
end Mine
end
section
open PySem PySem.W PyProof.Rows PySem.Calls PySem.Spec
set_option maxRecDepth 100000

namespace Mine

/-! values read as data -/
mutual
inductive RD (H : PH) : PV → PyData → Prop
  | none : RD H .none .none
  | bool (b : Bool) : RD H (.bool b) (.bool b)
  | int (i : Int) : RD H (.int i) (.int i)
  | str (x : Str) : RD H (.str x) (.str x)
  | tuple {ds : List PV} {xs : List PyData} : RDs H ds xs → RD H (.tuple ds) (.tuple xs)
  | list {a : Addr} {ds : List PV} {xs : List PyData} : H a = some (.list ds) → RDs H ds xs → RD H (.ref a) (.list xs)
inductive RDs (H : PH) : List PV → List PyData → Prop
  | nil : RDs H [] []
  | cons {d : PV} {x : PyData} {ds : List PV} {xs : List PyData} : RD H d x → RDs H ds xs → RDs H (d :: ds) (x :: xs)
end
section
variable {g : Gd} {A : Around} {H : PH}
mutual
theorem RD.reads {h : Heap} (B : BR g H h) : ∀ {d : PV} {x : PyData}, RD H d x → ∀ {v : Value}, VR H h v d → ∃ as, Reads h v x as
  | _, _, .none, _, V => by cases V; exact ⟨_, .none⟩
  | _, _, .bool b, _, V => by cases V; exact ⟨_, .bool b⟩
  | _, _, .int i, _, V => by cases V; exact ⟨_, .int i _⟩
  | _, _, .str x, _, V => by cases V; exact ⟨_, .str x _⟩
  | _, _, .tuple r, _, V => by
    cases V with
    | tuple ht U =>
      obtain ⟨o, e, c, n, dd⟩ := ht
      obtain ⟨as, ra⟩ := RDs.reads B r U
      exact ⟨as, .tuple e c dd ra⟩
  | _, _, .list e r, _, V => by
    cases V
    obtain ⟨vs, n, eo, U⟩ := (B.hr _ _ e).1
    obtain ⟨as, ra⟩ := RDs.reads B r U
    exact ⟨_, .list eo rfl rfl ra⟩
theorem RDs.reads {h : Heap} (B : BR g H h) : ∀ {ds : List PV} {xs : List PyData}, RDs H ds xs → ∀ {vs : List Value}, VRs H h vs ds → ∃ as, ReadsAll h vs xs as
  | _, _, .nil, _, V => by cases V; exact ⟨_, .nil⟩
  | _, _, .cons a r, _, V => by
    cases V with
    | cons V U =>
      obtain ⟨as, ra⟩ := RD.reads B a V
      obtain ⟨bs, rb⟩ := RDs.reads B r U
      exact ⟨_, .cons ra rb⟩
end
theorem RDs.ints (H : PH) (ns : List Int) : RDs H (ns.map PV.int) (ns.map PyData.int) := by
  induction ns with
  | nil => exact .nil
  | cons n ns ih => exact .cons (.int n) ih
theorem Room.cline {n : Nat} (R : Room A n) : A.units + 64 < cLine := by have := R.u; show A.units + 64 < 9900; omega

theorem CmpT.eqD {n : Nat} {a b : PV} {da db : PyData} {Q : PV → PH → Prop} (R : Room A n) (ra : RD H a da) (rb : RD H b db) (ha : SeqAt.shaped da = true) (hb : SeqAt.shaped db = true) (h : Q (.bool (PyData.eqv da db)) H) : CmpT g A H .Eq a b Q := by
  intro v w s Q' V W B P
  obtain ⟨as, ra⟩ := ra.reads B V
  obtain ⟨bs, rb⟩ := rb.reads B W
  exact SeqAt.compareEq_shaped ra rb ha hb R.cline (P.now B (.bool _) h)
theorem CmpT.neD {n : Nat} {a b : PV} {da db : PyData} {Q : PV → PH → Prop} (R : Room A n) (ra : RD H a da) (rb : RD H b db) (ha : SeqAt.shaped da = true) (hb : SeqAt.shaped db = true) (h : Q (.bool (!PyData.eqv da db)) H) : CmpT g A H .NotEq a b Q := by
  intro v w s Q' V W B P
  obtain ⟨as, ra⟩ := ra.reads B V
  obtain ⟨bs, rb⟩ := rb.reads B W
  exact SeqAt.compareNe_shaped ra rb ha hb R.cline (P.now B (.bool _) h)
/-- a pair of ints held against another one -/
theorem CmpT.nePair {n : Nat} {a b c d : Int} {Q : PV → PH → Prop} (R : Room A n) (h : Q (.bool (!(a == c && b == d))) H) : CmpT g A H .NotEq (.tuple [.int a, .int b]) (.tuple [.int c, .int d]) Q := by
  refine CmpT.neD R (.tuple (.cons (.int a) (.cons (.int b) .nil))) (.tuple (.cons (.int c) (.cons (.int d) .nil))) rfl rfl ?_
  simp only [PyData.eqv, PyData.eqvAll, Bool.and_true]
  exact h

theorem isInts {h : Heap} : ∀ {vs : List Value} {ns : List Int}, VRs H h vs (ns.map PV.int) → IntsAre vs ns
  | _, [], V => by cases V; exact .nil
  | _, n :: ns, V => by
    cases V with
    | cons V U => cases V; exact .cons _ _ (isInts U)
theorem listAt {h : Heap} {a : Addr} {ds : List PV} (B : BR g H h) (e : H a = some (.list ds)) : ∃ vs, h.IsList a vs.toArray ∧ VRs H h vs ds := by
  obtain ⟨vs, n, eo, U⟩ := (B.hr _ _ e).1
  exact ⟨vs, ⟨_, eo, rfl, n, rfl⟩, U⟩

theorem CmpT.inI {a : Addr} {ns : List Int} {k : Int} {Q : PV → PH → Prop} (e : H a = some (.list (ns.map PV.int))) (h : Q (.bool (ns.any (· == k))) H) : CmpT g A H .In (.int k) (.ref a) Q := by
  intro v w s Q' V W B P
  cases V; cases W
  obtain ⟨vs, hl, U⟩ := listAt B e
  exact in_list_ints hl (isInts U) (P.now B (.bool _) h)

/-- a new list in the heap -/
theorem newL {s : Shared} {h' : Heap} {tk : Nat} {Q : PV → PH → Prop} {Q' : Value → Shared → Prop} {vs : List Value} {ds : List PV} {n : Nat} {a : Addr} (hG : g.Ok) (B : BR g H s.heap) (P : Post g H s Q Q') (ha : s.heap.objs.size ≤ a) (hx : ∀ b o, s.heap.get? b = some o → h'.get? b = some o) (eo : h'.get? a = some (listOf vs.toArray n))
    (U : VRs H s.heap vs ds) (h : ∀ D, H D = none → Q (.ref D) (hup H D (.list ds))) : Q' (.ref a) { s with heap := h', toks := tk } := by
  have nn : ∀ {hh : Heap}, (∀ b o, hh.get? b = some o → s.heap.get? b = some o) → hh.get? a = none := fun k => by
    rename_i hh
    cases q : hh.get? a with
    | none => rfl
    | some o => exact absurd (Heap.lt_size (k _ o q)) (Nat.not_lt.mpr ha)
  have na : s.heap.get? a = none := nn fun _ _ e => e
  have ng : g.G.get? a = none := nn B.keep
  have S := Stp.born (own := noOwn) (po := .list ds) B hx na
  have l2 : 2 < a := Nat.lt_of_lt_of_le (low hG B) ha
  exact P _ _ _ h' tk (B.born hx na ⟨ng, l2⟩ (show OR g _ _ a (.list ds) from ⟨vs, n, eo, U.after B S⟩)) S (.ref _) (h _ (B.off na))

theorem BinT.addL {a b : Addr} {xs ys : List PV} {Q : PV → PH → Prop} (hG : g.Ok) (ea : H a = some (.list xs)) (eb : H b = some (.list ys)) (hsz : xs.length + ys.length ≤ sizeLine) (h : ∀ D, H D = none → Q (.ref D) (hup H D (.list (xs ++ ys)))) : BinT g A H .Add (.ref a) (.ref b) Q := by
  intro v w s Q' V W B P
  cases V; cases W
  obtain ⟨vs, n, eo, U⟩ := (B.hr _ _ ea).1
  obtain ⟨ws, n', eo', U'⟩ := (B.hr _ _ eb).1
  have e : vs.toArray ++ ws.toArray = (vs ++ ws).toArray := by simp
  refine concat_meets ⟨_, eo, rfl⟩ ⟨_, eo', rfl⟩ noFill_list_add seq_list_add PySem.F.slot_list_add PySem.F.entry_list_add (PySem.F.args_list_add_2 _ _) (list_addW a b vs.toArray ws.toArray n n' _ _ _ _ (by rw [List.size_toArray, List.size_toArray, U.length, U'.length]; exact hsz)) ⟨eo, eo', ?_⟩
  rw [e]
  exact newL (n := 0) (tk := s.toks) hG B P (Nat.le_refl _) (fun b o e => Heap.get?_push_of_some _ e) (Heap.get?_push_size _ rfl) (U.append U') h

theorem CT.len {a : Addr} {ds : List PV} {Q : PV → PH → Prop} (e : H a = some (.list ds)) (hsz : ds.length < 2 ^ 62) (h : Q (.int ds.length) H) : CT g A H (.builtin "len") [.ref a] Q := by
  intro vs s Q' V B P
  cases V with
  | cons V V2 =>
    cases V; cases V2
    obtain ⟨vs, hl, U⟩ := listAt B e
    have el : vs.toArray.size = ds.length := by rw [List.size_toArray, U.length]
    refine call_len_list hl (by rw [el]; omega) ?_
    rw [el]
    exact P _ _ H s.heap _ B (Stp.refl _ _) (.int _ _) h
theorem CT.abs {a : Int} {Q : PV → PH → Prop} (h : Q (.int (if a < 0 then -a else a)) H) : CT g A H (.builtin "abs") [.int a] Q := by
  intro vs s Q' V B P
  cases V with
  | cons V V2 =>
    cases V; cases V2
    exact call_abs_int fun u tk => P _ _ H s.heap tk B (Stp.refl _ _) (.int _ _) h
theorem InpT.add {a b : Int} {Q : PV → PH → Prop} (h : Q (.int (a + b)) H) : InpT g A H .Add (.int a) (.int b) Q := by
  intro v w s Q' V W B P; cases V; cases W; exact iadd_int (P.here B (.int _ s.toks) h (s.toks + 1))
theorem InpT.sub {a b : Int} {Q : PV → PH → Prop} (h : Q (.int (a - b)) H) : InpT g A H .Sub (.int a) (.int b) Q := by
  intro v w s Q' V W B P; cases V; cases W; exact isub_int (P.here B (.int _ s.toks) h (s.toks + 1))
theorem InpT.mul {a b : Int} {Q : PV → PH → Prop} (hm : IntMulOk a b) (h : Q (.int (a * b)) H) : InpT g A H .Mult (.int a) (.int b) Q := by
  intro v w s Q' V W B P; cases V; cases W; exact imul_int (P.here B (.int _ s.toks) h (s.toks + 1)) hm
theorem BinT.pow {a n : Int} {Q : PV → PH → Prop} (hn : 0 ≤ n) (hn2 : n ≤ 1000000) (ha : a.natAbs < 2 ^ 64) (h : Q (.int (a ^ n.toNat)) H) : BinT g A H .Pow (.int a) (.int n) Q := by
  intro v w s Q' V W B P; cases V; cases W; exact pow_int_small hn hn2 ha (P.here B (.int _ s.toks) h (s.toks + 1))
end
end Mine
end
section
open PySem PySem.W PyProof.Rows PySem.Calls PySem.Spec
set_option maxRecDepth 100000

namespace Mine
section
variable {g : Gd} {A : Around} {env : Env} {l : PL} {H : PH}

theorem preSum_eq (ns : List Int) : ∀ k, k ≤ ns.length → preSum (fun i => ns.getD i 0) k = (ns.take k).sum
  | 0, _ => by simp [preSum]
  | k + 1, h => by
    have hk : k < ns.length := by omega
    have e : ns.take (k + 1) = ns.take k ++ [ns[k]] := by simp
    rw [preSum, preSum_eq ns k (by omega), e, List.sum_append, List.getD_eq_getElem?_getD, List.getElem?_eq_getElem hk]
    simp only [Option.getD_some, List.sum_cons, List.sum_nil, Int.add_zero]
theorem intAt {h : Heap} {vs : List Value} {ns : List Int} (U : VRs H h vs (ns.map PV.int)) {i : Nat} {v : Value} (e : vs.toArray[i]? = some v) : ∃ t, v = .int (ns.getD i 0) t := by
  have hi : i < vs.length := by
    rw [List.getElem?_toArray] at e; exact (List.getElem?_eq_some_iff.mp e).1
  have hl : vs.length = ns.length := by have := U.length; simpa using this
  obtain ⟨u, e', V⟩ := U.get (i := i) (d := .int (ns.getD i 0)) (by
    rw [List.getElem?_map, List.getElem?_eq_getElem (by omega)]; simp [List.getD_eq_getElem?_getD, List.getElem?_eq_getElem (show i < ns.length by omega)])
  rw [List.getElem?_toArray] at e
  rw [e] at e'; obtain rfl := Option.some.inj e'
  cases V; exact ⟨_, rfl⟩

theorem CT.maxI {n : Nat} {a : Addr} {ns : List Int} {Q : PV → PH → Prop} (R : Room A n) (e : H a = some (.list (ns.map PV.int))) (h0 : ns ≠ []) (h : ∀ m, m ∈ ns → (∀ x ∈ ns, x ≤ m) → Q (.int m) H) : CT g A H (.builtin "max") [.ref a] Q := by
  intro vs s Q' V B P
  cases V with
  | cons V V2 =>
    cases V; cases V2
    obtain ⟨vs, hl, U⟩ := listAt B e
    have hlen : vs.length = ns.length := by have := U.length; simpa using this
    have hpos : 0 < ns.length := List.length_pos_iff.mpr h0
    refine call_max_walk (wpAny_pyIter_list hl ?_)
    have ne : a ≠ s.heap.objs.size := by obtain ⟨o, e, _⟩ := hl; exact Nat.ne_of_lt (Heap.lt_size e)
    refine ⟨s.heap.objs.size, _, _, _, _, _, fun i j => decide (ns.getD i 0 > ns.getD j 0), rfl, Walks.list (A := A.in1) R.hh _ a ne vs.toArray, ⟨⟨_, Heap.get?_push_size _ rfl, rfl, rfl⟩, hl.at fun o e => Heap.get?_push_of_some _ e⟩, ?_, by rw [List.size_toArray]; omega, ?_, ?_⟩
    · intro b hb
      rw [Heap.size_push]
      rcases List.mem_cons.mp hb with rfl | hb
      · exact Nat.lt_succ_self _
      · obtain rfl := List.mem_singleton.mp hb; obtain ⟨o, e, _⟩ := hl; exact Nat.lt_succ_of_lt (Heap.lt_size e)
    · intro i j vi vj s Q E hi hj q
      obtain ⟨t, rfl⟩ := intAt U hi
      obtain ⟨u, rfl⟩ := intAt U hj
      exact gt_int (prog := g.prog) (w := g.w) q
    · intro v h' tk hv k
      have kk : ∀ b o, s.heap.get? b = some o → h'.get? b = some o := fun b o e => k b o (fun z => by rw [List.mem_singleton.mp z] at e; exact absurd (Heap.lt_size e) (Nat.lt_irrefl _)) (Heap.get?_push_of_some _ e)
      obtain ⟨t, rfl⟩ := intAt U hv
      obtain ⟨b1, b2⟩ := argBest_gt (fun i => ns.getD i 0) (vs.toArray.size - 1)
      have hb : argBest (fun i j => decide (ns.getD i 0 > ns.getD j 0)) (vs.toArray.size - 1) < ns.length := by
        rw [List.size_toArray] at b1 ⊢; omega
      refine P _ _ H h' tk (B.grown kk) (Stp.grown kk) (.int _ _) (h _ ?_ fun x hx => ?_)
      · rw [List.getD_eq_getElem?_getD, List.getElem?_eq_getElem hb]; exact List.getElem_mem _
      · obtain ⟨j, hj, rfl⟩ := List.mem_iff_getElem.mp hx
        have := b2 j (by rw [List.size_toArray]; omega)
        rwa [show ns.getD j 0 = ns[j] by rw [List.getD_eq_getElem?_getD, List.getElem?_eq_getElem hj]; rfl] at this

theorem SubT.listNeg {a : Addr} {ds : List PV} {k : Int} {d : PV} (e : H a = some (.list ds)) (h0 : k < 0) (h1 : -(ds.length : Int) ≤ k) (h2 : -(2 ^ 63) ≤ k) (hd : ds[(k + ds.length).toNat]? = some d) (h : Q d H) : SubT g A H (.ref a) (.int k) Q := by
  intro value slice v w s Q' V W B hi P
  cases V; cases W
  obtain ⟨⟨vs, n, o, U⟩, _⟩ := B.hr a _ e
  obtain ⟨u, e', V⟩ := U.get hd
  have hl : s.heap.IsList a vs.toArray := ⟨_, o, rfl, n, rfl⟩
  exact tail_any hl.typeIs slot_list_getitem.lookup (wpAny_getItem_list_neg hl h0 (by rw [List.size_toArray, U.length]; exact h1) h2 (by rw [List.size_toArray, U.length]; simpa using e') (P.now B V h)) (sub_plain hi _ _)

theorem CT.range3 {a b c : Int} {Q : PV → PH → Prop} (hc : c ≠ 0) (hp : Builtin.divisionGoesByPylong (b - a) c = false) (h : Q (.rng a b c) H) : CT g A H (.type "range") [.int a, .int b, .int c] Q := by
  intro vs s Q' V B P
  cases V with
  | cons V1 V => cases V with
    | cons V2 V => cases V with
      | cons V3 V =>
      cases V1; cases V2; cases V3; cases V
      refine call_range_3 hc ?_ (.inl hp)
      exact P _ _ H _ _ (B.grown grew) (Stp.grown grew) (.rng (IsRange.new _ _ _ _ _ _ _)) h

theorem ET.and {x y : Expr} {pos : Pos} {Q : PV → PH → Prop} (h : ET g A env l H x fun v H₁ => TrT g A H₁ v fun b H₂ => if b = true then ET g A env l H₂ y Q else Q v H₂) : ET g A env l H (.BoolOp .And [x, y] pos) Q := by
  intro s Q' R P
  refine BoolOp_and (h s _ R ?_)
  intro v pv H₁ h₁ t₁ B₁ S₁ V₁ q₁
  refine q₁ v _ _ V₁ B₁ ?_
  intro b H₂ h₂ t₂ B₂ S₂ q₂
  cases b with
  | true => exact BoolOp_one (q₂ _ _ ((R.after B₁ S₁).after B₂ S₂) (P.after (S₁.trans S₂)))
  | false =>
    simp only [Bool.false_eq_true, if_false] at q₂ ⊢
    exact P v pv H₂ h₂ t₂ B₂ (S₁.trans S₂) (V₁.after B₁ S₂) q₂
theorem ET.or {x y : Expr} {pos : Pos} {Q : PV → PH → Prop} (h : ET g A env l H x fun v H₁ => TrT g A H₁ v fun b H₂ => if b = true then Q v H₂ else ET g A env l H₂ y Q) : ET g A env l H (.BoolOp .Or [x, y] pos) Q := by
  intro s Q' R P
  refine BoolOp_or (h s _ R ?_)
  intro v pv H₁ h₁ t₁ B₁ S₁ V₁ q₁
  refine q₁ v _ _ V₁ B₁ ?_
  intro b H₂ h₂ t₂ B₂ S₂ q₂
  cases b with
  | false => exact BoolOp_one (q₂ _ _ ((R.after B₁ S₁).after B₂ S₂) (P.after (S₁.trans S₂)))
  | true =>
    simp only [if_true] at q₂ ⊢
    exact P v pv H₂ h₂ t₂ B₂ (S₁.trans S₂) (V₁.after B₁ S₂) q₂
end
end Mine
end
section
open PySem PySem.W PyProof.Rows PySem.Calls PySem.Spec
set_option maxRecDepth 100000

namespace Mine
section
variable {g : Gd} {A : Around} {env : Env} {l : PL} {H : PH}

/-! a display of a dict -/
noncomputable def DPs {K : Type} [DecidableEq K] (D : DK g K) (A : Around) (env : Env) (l : PL) : List (Option Expr) → List Expr → PH → (List (K × PV) → PH → Prop) → Prop
  | [], [], H, Q => Q [] H
  | some k :: ks, v :: vs, H, Q => ET g A env l H k fun kd H₁ => ET g A env l H₁ v fun d H₂ => ∃ key, kd = D.val key ∧ DPs D A env l ks vs H₂ fun r H₃ => Q ((key, d) :: r) H₃
  | _, _, _, _ => False
theorem DPs.run {K : Type} [DecidableEq K] {D : DK g K} {pos : Pos} : ∀ {ks : List (Option Expr)} {vs : List Expr} {H : PH} {Q : List (K × PV) → PH → Prop} {s : Shared} {Q' : List (Value × Value) → Shared → Prop}, DPs D A env l ks vs H Q → ER g env l H s.heap →
    (∀ kvs es ps H' h' tk, BR g H' h' → Stp H s.heap H' h' → Carries D.knd ps kvs → KV H' h' kvs es → Q es H' → Q' ps { s with heap := h', toks := tk }) → wpAny g.m A (evalPairs (pairTrees ks vs env pos)) Q' noE s
  | [], [], H, Q, s, Q', h, R, P => pairTrees_nil_walk (P [] [] [] H s.heap s.toks R.br (Stp.refl _ _) trivial trivial h)
  | some k :: ks, v :: vs, H, Q, s, Q', h, R, P => by
    refine pairTrees_cons_walk (h s _ R ?_)
    intro kv kd H₁ h₁ t₁ B₁ S₁ V₁ q₁
    refine q₁ _ _ (R.after B₁ S₁) ?_
    rintro vv d H₂ h₂ t₂ B₂ S₂ V₂ ⟨key, rfl, q₂⟩
    refine DPs.run q₂ ((R.after B₁ S₁).after B₂ S₂) ?_
    intro kvs es ps H₃ h₃ t₃ B₃ S₃ C₃ W₃ q₃
    exact P ((key, vv) :: kvs) ((key, d) :: es) ((kv, vv) :: ps) H₃ h₃ t₃ B₃ ((S₁.trans S₂).trans S₃) ⟨D.is _ _ _ _ V₁, rfl, C₃⟩ ⟨⟨rfl, V₂.after B₂ S₃⟩, W₃⟩ q₃
  | [], _ :: _, _, _, _, _, h, _, _ => h.elim
  | some _ :: _, [], _, _, _, _, h, _, _ => h.elim
  | none :: _, [], _, _, _, _, h, _, _ => h.elim
  | none :: _, _ :: _, _, _, _, _, h, _, _ => h.elim
theorem KV.merged {K : Type} [DecidableEq K] {h : Heap} : ∀ {kvs : List (K × Value)} {es : List (K × PV)} {kvs₀ : List (K × Value)} {es₀ : List (K × PV)}, KV H h kvs es → KV H h kvs₀ es₀ → KV H h (PySem.merged kvs₀ kvs) (es.foldl (fun acc e => dset acc e.1 e.2) es₀)
  | [], [], _, _, _, x => x
  | (k, v) :: _, (k', d) :: _, _, _, ⟨⟨e, V⟩, r⟩, x => by
    subst e
    have y := KV.stored (k := k) V x
    have z := KV.merged r y
    exact z
  | [], _ :: _, _, _, x, _ => x.elim
  | _ :: _, [], _, _, x, _ => x.elim
theorem ET.dict {K : Type} [DecidableEq K] (D : DK g K) {ks : List (Option Expr)} {vs : List Expr} {pos : Pos} {Q : PV → PH → Prop} (hG : g.Ok) (hall : ks.all (·.isSome) = true) (hl : ks.length = vs.length) (h0 : ks ≠ []) (hlen : ks.length ≤ 15)
    (h : DPs D A env l ks vs H fun es H₁ => ∀ a ep, H₁ a = none → Q (.ref a) (hup H₁ a (D.pack (es.foldl (fun acc e => dset acc e.1 e.2) []) ep))) : ET g A env l H (.Dict ks vs pos) Q := by
  intro s Q' R P
  refine wpAny_Dict_walk (knd := D.knd) hall hl h0 hlen ?_
  have k0 : ∀ b o, s.heap.get? b = some o → (s.heap.push { cls := .type "dict", data := .dict #[] }).get? b = some o := fun b o e => Heap.get?_push_of_some _ e
  have B0 := R.br.grown k0
  refine DPs.run (s := { s with heap := s.heap.push { cls := .type "dict", data := .dict #[] } }) h (R.grown k0) ?_
  intro kvs es ps H₁ h₁ t₁ B₁ S₁ C₁ W₁ q₁
  have hD : (s.heap.push { cls := .type "dict", data := .dict #[] }).get? s.heap.objs.size = some { cls := .type "dict", data := .dict #[] } := Heap.get?_push_size _ rfl
  have nD : H s.heap.objs.size = none := R.br.fresh
  have nH : s.heap.get? s.heap.objs.size = none := by
    cases q : s.heap.get? s.heap.objs.size with
    | none => rfl
    | some o => exact absurd (Heap.lt_size q) (Nat.lt_irrefl _)
  have eD : h₁.get? s.heap.objs.size = some { cls := .type "dict", data := .dict #[] } := S₁.keep _ _ hD nD id
  have nD₁ : H₁ s.heap.objs.size = none := S₁.dom _ _ hD nD
  refine ⟨kvs, C₁, (Heap.DictOf.new (knd := D.knd) s.heap).at fun o e => S₁.keep _ o e nD id, fun h' d' hs => ?_⟩
  obtain ⟨oD, esD, epD, eoD, _, _, _⟩ := id d'
  obtain ⟨ep', d''⟩ := d'.dictAt
  have gD : g.G.get? s.heap.objs.size = none := R.br.gfresh
  have W : OwnOk (fun b => b = s.heap.objs.size) h₁ := by
    rintro b o rfl e; rw [eD] at e; obtain rfl := Option.some.inj e; exact .inl ⟨_, _, rfl⟩
  have Sx : StpO (fun b => b = s.heap.objs.size) H₁ h₁ H₁ h' := Stp.same hs eoD rfl
  have B₂ := B₁.same Sx.kp W hs nD₁ gD
  have S₂ : Stp H s.heap H₁ h' := by
    have S := (Stp.grown (own := noOwn) (H := H) k0).trans S₁
    have ne : ∀ b o, s.heap.get? b = some o → b ≠ s.heap.objs.size := fun b o e z => by rw [z, nH] at e; cases e
    exact ⟨fun b o e n w => (hs.2 b (ne b o e)).trans (S.keep b o e n w), S.dom, fun b o e => let ⟨o', e'⟩ := S.alive b o e; ⟨o', (hs.2 b (ne b o e)).trans e'⟩, S.idle⟩
  have KVm : KV H₁ h₁ (PySem.merged [] kvs) (es.foldl (fun acc e => dset acc e.1 e.2) []) := KV.merged W₁ trivial
  exact P _ _ _ h' _ (B₂.add nD₁ ⟨gD, low (s := s) hG R.br⟩ ((D.orr _ _ _ _ _).mpr ⟨_, d'', KVm.step B₁ Sx.kp W⟩)) (S₂.add nH nD₁) (.ref _) (q₁ _ ep' nD₁)
theorem ET.dict0 {K : Type} [DecidableEq K] (D : DK g K) {pos : Pos} {Q : PV → PH → Prop} (hG : g.Ok) (h : ∀ a ep, H a = none → Q (.ref a) (hup H a (D.pack [] ep))) : ET g A env l H (.Dict [] [] pos) Q := by
  intro s Q' R P
  refine wpAny_Dict_empty ?_
  have k0 : ∀ b o, s.heap.get? b = some o → (s.heap.push { cls := .type "dict", data := .dict #[] }).get? b = some o := fun b o e => Heap.get?_push_of_some _ e
  have nH : s.heap.get? s.heap.objs.size = none := by
    cases q : s.heap.get? s.heap.objs.size with
    | none => rfl
    | some o => exact absurd (Heap.lt_size q) (Nat.lt_irrefl _)
  obtain ⟨ep', d''⟩ := (Heap.DictOf.new (knd := D.knd) s.heap).dictAt
  exact P _ _ _ _ _ (R.br.born k0 nH ⟨R.br.gfresh, low (s := s) hG R.br⟩ ((D.orr _ _ _ [] _).mpr ⟨[], d'', trivial⟩)) (Stp.born R.br k0 nH) (.ref _) (h _ ep' R.br.fresh)

/-! what a heap tells of a dict's keys -/
theorem DK.nodup {K : Type} [DecidableEq K] (D : DK g K) {h : Heap} (B : BR g H h) {a : Addr} {es : List (K × PV)} {ep : Nat} (e : H a = some (D.pack es ep)) : (es.map (·.1)).Nodup := by
  obtain ⟨kvs, ⟨_, _, _, _, _, _, _, nd⟩, W, _⟩ := D.at B e
  rw [← W.keys]; exact nd
theorem CT.nodup {K : Type} [DecidableEq K] (D : DK g K) {f : Value} {args : List PV} {Q : PV → PH → Prop} {a : Addr} {es : List (K × PV)} {ep : Nat} (e : H a = some (D.pack es ep)) (h : (es.map (·.1)).Nodup → CT g A H f args Q) : CT g A H f args Q :=
  fun vs s Q' V B P => h (D.nodup B e) vs s Q' V B P

/-! slices of a list -/
theorem VRs.take {h : Heap} (n : Nat) {vs : List Value} {ds : List PV} (U : VRs H h vs ds) : VRs H h (vs.take n) (ds.take n) := by
  induction n generalizing vs ds with
  | zero => exact .nil
  | succ n ih => cases U with
    | nil => exact .nil
    | cons V U => exact .cons V (ih U)
theorem ET.sliceTo {x u : Expr} {p pos : Pos} {Q : PV → PH → Prop} (hG : g.Ok) (ht : ∀ o r, letTemporaryGo x o r = pure ())
    (h : ET g A env l H x fun v H₁ => ET g A env l H₁ u fun w H₂ => ∃ (a : Addr) (ds : List PV) (k : Nat), v = .ref a ∧ w = .int k ∧ H₂ a = some (.list ds) ∧ ds.length ≤ sizeLine ∧ ∀ D, H₂ D = none → Q (.ref D) (hup H₂ D (.list (ds.take k)))) :
    ET g A env l H (.Subscript x (.Slice none (some u) none p) pos) Q := by
  intro s Q' R P
  refine wpAny_Subscript_list_slice (h s _ R ?_) ht
  intro v pv H₁ h₁ t₁ B₁ S₁ V₁ q₁
  refine wpAny_evalPart_none (wpAny_evalPart_some (q₁ _ _ (R.after B₁ S₁) ?_))
  rintro w wv H₂ h₂ t₂ B₂ S₂ V₂ ⟨a, ds, k, rfl, rfl, e, hsz, q⟩
  cases V₁; cases V₂; rename_i tk0
  obtain ⟨vs, n, eo, U⟩ := (B₂.hr _ _ e).1
  refine ⟨a, vs.toArray, none, some (k : Int), rfl, ⟨_, eo, rfl, n, rfl⟩, by rw [List.size_toArray, U.length]; exact hsz, .none, .int _ _, ?_⟩
  rw [slicePick_upto']
  have hx : ∀ b o, h₂.get? b = some o → ((h₂.push { cls := .type "slice", data := .fields #[.none, Value.int (k : Int) tk0, .none] }).push { cls := .type "list", data := .seq (vs.toArray.toList.take k).toArray }).get? b = some o := fun b o e => Heap.get?_push_of_some _ (Heap.get?_push_of_some _ e)
  have eN := Heap.get?_push_size (h₂.push { cls := .type "slice", data := .fields #[.none, Value.int (k : Int) tk0, .none] }) (o := { cls := .type "list", data := .seq (vs.toArray.toList.take k).toArray }) rfl
  rw [Heap.size_push] at eN
  exact newL (s := { s with heap := h₂, toks := t₂ }) (n := 0) (tk := t₂) hG B₂ (P.after (S₁.trans S₂)) (Nat.le_succ _) hx eN (U.take k) q

theorem TrT.list {a : Addr} {ds : List PV} {Q : Bool → PH → Prop} (e : H a = some (.list ds)) (hsz : ds.length < 2 ^ 62) (h : Q (!ds.isEmpty) H) : TrT g A H (.ref a) Q := by
  intro v s Q' V B P
  cases V
  obtain ⟨vs, hl, U⟩ := listAt B e
  have el : vs.toArray.size = ds.length := by rw [List.size_toArray, U.length]
  refine wpAny_truthy_list hl (by rw [el]; omega) ?_
  have ee : vs.toArray.isEmpty = ds.isEmpty := by
    cases U <;> rfl
  rw [ee]
  exact P _ H s.heap _ B (Stp.refl _ _) h

theorem VRs.rep {h : Heap} {vs : List Value} {ds : List PV} (U : VRs H h vs ds) : ∀ k, VRs H h (List.replicate k vs).flatten (List.replicate k ds).flatten
  | 0 => .nil
  | k + 1 => by rw [List.replicate_succ, List.replicate_succ, List.flatten_cons, List.flatten_cons]; exact U.append (U.rep k)
theorem BinT.mulL {a : Addr} {k : Int} {ds : List PV} {Q : PV → PH → Prop} (hG : g.Ok) (ea : H a = some (.list ds)) (h0 : 0 ≤ k) (h1 : k < 1000) (hsz : ds.length ≤ 1000) (h : ∀ D, H D = none → Q (.ref D) (hup H D (.list (List.replicate k.toNat ds).flatten))) : BinT g A H .Mult (.ref a) (.int k) Q := by
  intro v w s Q' V W B P
  cases V; cases W; rename_i tk0
  obtain ⟨vs, n, eo, U⟩ := (B.hr _ _ ea).1
  have hlen := U.length
  have hb : ds.length * k.toNat ≤ 1000 * 1000 := Nat.mul_le_mul hsz (by omega)
  refine wpAny_binaryOp_repeat_ref (T := "list") (U := "int") (by decide) ⟨_, eo, rfl⟩ (fun s' => typeIs_int s' k tk0) noFill_list_mul PySem.F.fills_int_mul PySem.F.slot_int_rmul repeat_list PySem.F.slot_int_index.lookup
    (call_meets PySem.F.slot_int_rmul (typeIs_int s k tk0) PySem.F.entry_int_rmul (PySem.F.args_int_rmul_2 _ _) (lm_int_rmul_list_any k tk0 a vs.toArray n none #[])
      ⟨eo, rfl, ⟨_, eo, rfl⟩, call_meets PySem.F.slot_list_mul ⟨_, eo, rfl⟩ PySem.F.entry_list_mul (PySem.F.args_list_mul_2 _ _)
        (lm_list_mul_any a vs.toArray n none #[] k tk0 (by simp [Builtin.List.listFitsIndex]; omega) (by rw [List.size_toArray, hlen]; omega) (by rw [List.size_toArray, hlen]; simp [Builtin.List.listTooLong, sizeLine]; omega))
        ⟨eo, ?_⟩⟩)
  rw [listMul_foldl_if]
  exact newL (n := 0) (tk := s.toks) hG B P (Nat.le_refl _) (fun b o e => Heap.get?_push_of_some _ e) (Heap.get?_push_size _ rfl) (U.rep _) h
end
theorem CompOk.of {scope : Scope} {env : Env} {names : List (Str × NameKind)} (hk : KO env names) (kind : scope.kind = .function)
    (h : (scope.names.all fun p => decide (p.2 ≠ .cell) && (decide (p.2 ≠ .local) || decide (scope.names.lookup p.1 = some .local)) && (decide (p.2 ≠ .free) || decide (names.lookup p.1 = some .cell))) = true) : CompOk scope env := by
  have key := fun p hp => List.all_eq_true.mp h p hp
  refine ⟨kind, fun p hp => ?_, fun p hp e => ?_, fun p hp e => ?_⟩
  · have := key p hp
    simp only [Bool.and_eq_true, decide_eq_true_eq] at this
    exact this.1.1
  · have := key p hp
    simp only [Bool.and_eq_true, Bool.or_eq_true, decide_eq_true_eq] at this
    exact this.1.2.resolve_left fun z => z e
  · have := key p hp
    simp only [Bool.and_eq_true, Bool.or_eq_true, decide_eq_true_eq] at this
    rw [hk]; exact this.2.resolve_left fun z => z e
section
variable {K : Type} [DecidableEq K]
noncomputable def dsetT (t : Tab K) (k : K) (v : Int × Int) : Tab K := if t.any (fun e => e.1 = k) then t.map (fun e => if e.1 = k then (e.1, v) else e) else t ++ [(k, v)]
theorem tabP_any (val : K → PV) (CS : Addr) (k : K) (t : Tab K) : (tabP val CS t).any (fun e => e.1 = k) = t.any (fun e => e.1 = k) := by
  unfold tabP; rw [List.any_map]; rfl
theorem tabP_set (val : K → PV) (CS : Addr) (k : K) (s c : Int) (t : Tab K) : dset (tabP val CS t) k (.inst CS [.int c, .int s, val k]) = tabP val CS (dsetT t k (s, c)) := by
  unfold dset dsetT
  rw [tabP_any]
  by_cases h : (t.any fun e => e.1 = k) = true
  · rw [if_pos h, if_pos h]
    unfold tabP
    rw [List.map_map, List.map_map]
    refine List.map_congr_left fun e _ => ?_
    simp only [Function.comp]
    by_cases z : e.1 = k
    · rw [if_pos z, if_pos z]; simp only [z]
    · rw [if_neg z, if_neg z]
  · rw [if_neg h, if_neg h]
    unfold tabP; rw [List.map_append]; rfl
theorem dsetT_len (t : Tab K) (k : K) (v : Int × Int) : (dsetT t k v).length ≤ t.length + 1 := by
  unfold dsetT; split
  · rw [List.length_map]; exact Nat.le_succ _
  · simp
noncomputable def keepD (d : Dif K) : Bool := !(d.2.2.1 == 0 && d.2.2.2.2 == 0)
noncomputable def takenGo (ds : List (Dif K)) (t : Tab K) : Tab K := ds.foldl (fun t d => if keepD d then dsetT t d.1 (d.2.2.1, d.2.2.2.2) else t) t
noncomputable def takenT (o n : Tab K) : Tab K := takenGo (cmpAll o n) []
theorem takenGo_len (ds : List (Dif K)) : ∀ t : Tab K, (takenGo ds t).length ≤ t.length + ds.length := by
  induction ds with
  | nil => intro t; exact Nat.le_refl _
  | cons d ds ih =>
    intro t
    have h1 := dsetT_len t d.1 (d.2.2.1, d.2.2.2.2)
    show (takenGo ds (if keepD d then dsetT t d.1 (d.2.2.1, d.2.2.2.2) else t)).length ≤ _
    split
    · have h2 := ih (dsetT t d.1 (d.2.2.1, d.2.2.2.2)); simp only [List.length_cons]; omega
    · have h2 := ih t; simp only [List.length_cons]; omega
end
noncomputable def GB (g : Gd) (x : Str) (v : Value) : Prop := nsIn g.K mainGlobals x = some none ∧ x ≠ "__name__" ∧ bootBuiltins x = some v
theorem ET.bi {g : Gd} {A : Around} {env : Env} {l : PL} {H : PH} {Q : PV → PH → Prop} {x : Str} {pos : Pos} {v : Value} (O : EnvOk env) (hG : g.Ok) (hx : env.kindOf x = some .globalImplicit) (hd : (x == ("__debug__" : Str)) = false) (e : GB g x v) (h : Q (.k v) H) : ET g A env l H (.Name x pos) Q :=
  ET.builtin O hG hx hd e.2.1 e.1 e.2.2 h
theorem TestsT.one {g : Gd} {A : Around} {env : Env} {l : PL} {H : PH} {c : Expr} {K : Bool → PH → Prop} (h : BT g A env l H c K) : TestsT g A env l H [c] K := h
theorem TestsT.no {g : Gd} {A : Around} {env : Env} {l : PL} {H : PH} {K : Bool → PH → Prop} (h : K true H) : TestsT g A env l H [] K := h
theorem szl {n : Nat} (h : Nat.ble n 1000 = true) : n ≤ sizeLine := Nat.le_trans (Nat.le_of_ble_eq_true h) (by unfold sizeLine; decide)
theorem szAnd {n : Nat} {P : Prop} (h : Nat.ble n 1000 = true) (q : P) : n ≤ sizeLine ∧ P := ⟨szl h, q⟩
theorem iteC {c : Bool} {P R : Prop} (t : c = true → P) (f : c = false → R) : if c = true then P else R := by
  cases c with
  | true => rw [if_pos rfl]; exact t rfl
  | false => rw [if_neg (by decide)]; exact f rfl
section
variable {K : Type} [DecidableEq K]
theorem dgetT_mem {t : Tab K} {k : K} {v : Int × Int} (hn : (t.map (·.1)).Nodup) (hm : (k, v) ∈ t) : dgetT t k = some v := by
  induction t with
  | nil => cases hm
  | cons e r ih =>
    rw [List.map_cons, List.nodup_cons] at hn
    unfold dgetT
    rw [List.find?_cons]
    rcases List.mem_cons.mp hm with z | z
    · subst z; simp
    · have hne : e.1 ≠ k := fun q => hn.1 (q ▸ List.mem_map_of_mem (f := (·.1)) z)
      simp only [hne, decide_false]
      exact ih hn.2 z
theorem dgetT_some {t : Tab K} {k : K} {v : Int × Int} (h : dgetT t k = some v) : (k, v) ∈ t := by
  unfold dgetT at h
  obtain ⟨e, he, rfl⟩ := Option.map_eq_some_iff.mp h
  have h1 := List.mem_of_find?_eq_some he
  have h2 := List.find?_some he
  simp at h2; subst h2; exact h1
theorem dgetT_none {t : Tab K} {k : K} : dgetT t k = none ↔ k ∉ t.map (·.1) := by
  unfold dgetT
  rw [Option.map_eq_none_iff, List.find?_eq_none]
  constructor
  · intro h hm
    obtain ⟨e, he, rfl⟩ := List.mem_map.mp hm
    exact h e he (by simp)
  · intro h e he
    simp only [decide_eq_true_eq]
    exact fun z => h (z ▸ List.mem_map_of_mem (f := (·.1)) he)
theorem dsetT_new {t : Tab K} {k : K} {v : Int × Int} (h : k ∉ t.map (·.1)) : dsetT t k v = t ++ [(k, v)] := by
  unfold dsetT
  rw [if_neg]
  rw [List.any_eq_true]
  rintro ⟨e, he, z⟩
  simp only [decide_eq_true_eq] at z
  exact h (z ▸ List.mem_map_of_mem (f := (·.1)) he)
theorem tabP_keys (val : K → PV) (CS : Addr) (t : Tab K) : (tabP val CS t).map (·.1) = t.map (·.1) := by unfold tabP; rw [List.map_map]; rfl
end
noncomputable def timesT (t : Tab Int) (f u : Int) : Tab Int := t.map fun e => (e.1 + u, f * e.2.1, f * e.2.2)
theorem DPs.cons {g : Gd} {K : Type} [DecidableEq K] {D : DK g K} {A : Around} {env : Env} {l : PL} {k v : Expr} {ks : List (Option Expr)} {vs : List Expr} {H : PH} {Q : List (K × PV) → PH → Prop} (h : ET g A env l H k fun kd H₁ => ET g A env l H₁ v fun d H₂ => ∃ key, kd = D.val key ∧ DPs D A env l ks vs H₂ fun r H₃ => Q ((key, d) :: r) H₃) : DPs D A env l (some k :: ks) (v :: vs) H Q := h
theorem DPs.nil {g : Gd} {K : Type} [DecidableEq K] {D : DK g K} {A : Around} {env : Env} {l : PL} {H : PH} {Q : List (K × PV) → PH → Prop} (h : Q [] H) : DPs D A env l [] [] H Q := h
/-- a cut behind a statement that neither returns nor breaks -/
theorem ST.cut {g : Gd} {A : Around} {env : Env} {l : PL} {H : PH} {st : Stmt} {Q : PF → PL → PH → Prop} (M : PL → PH → Prop) (h : ST g A env l H st fun f l₁ H₁ => match f with | .next => M l₁ H₁ | _ => False) (k : ∀ l₁ H₁, M l₁ H₁ → Q .next l₁ H₁) : ST g A env l H st Q :=
  h.mono fun f l₁ H₁ q => by cases f <;> first | exact k _ _ q | exact q.elim
theorem ET.cut {g : Gd} {A : Around} {env : Env} {l : PL} {H : PH} {e : Expr} {Q : PV → PH → Prop} (M : PV → PH → Prop) (h : ET g A env l H e M) (k : ∀ v H₁, M v H₁ → Q v H₁) : ET g A env l H e Q := h.mono k
theorem takenT_len {K : Type} [DecidableEq K] (o n : Tab K) : (takenT o n).length ≤ o.length + n.length := by
  have h1 := cmpNew_len n o
  have h2 := cmpLeft_len n o
  have h3 : ∀ t : Tab K, (cmpOld t).length = t.length := fun t => by induction t with | nil => rfl | cons e r ih => obtain ⟨_, _, _⟩ := e; exact congrArg (· + 1) ih
  have h4 := takenGo_len (cmpAll o n) []
  simp only [cmpAll, List.length_append, h1, h3, List.length_nil] at h4
  exact Nat.le_trans h4 (by omega)
theorem timesT_len (t : Tab Int) (f u : Int) : (timesT t f u).length = t.length := by unfold timesT; rw [List.length_map]
noncomputable def mulRoot (t : Tab Int) (r : Int) : Tab Int := takenT (timesT t r 0) (timesT t 1 1)
theorem mulRoot_len (t : Tab Int) (r : Int) : (mulRoot t r).length ≤ 2 * t.length := by
  have := takenT_len (timesT t r 0) (timesT t 1 1)
  rw [timesT_len, timesT_len] at this
  unfold mulRoot; omega
noncomputable def rootsT (rs : List Int) : Tab Int := rs.foldl mulRoot [(0, 1, 0)]
noncomputable def prodT (rs : List Int) (m h : Int) : Tab Int := takenT (takenT (timesT (rootsT rs) (m * m + h) 0) (timesT (rootsT rs) (2 * m) 1)) (timesT (rootsT rs) 1 2)
end Mine
end
section
open PySem PySem.W PyProof.Rows PySem.Calls PySem.Spec
set_option maxRecDepth 100000

namespace Mine
section
variable {prog : Program} {w : World} {A : Around} {E : Value → Shared → Prop} {s : Shared} {K : Type} [DecidableEq K] {knd : KeyKind prog w K}

theorem call_list_dict {Q : Value → Shared → Prop} {r : Addr} {kvs : List (K × Value)} {ep : Nat} (hh : A.handled = none) (hd : (r == sysModules) = false) (hr : s.heap.DictAt knd r kvs ep) (hlen : kvs.length ≤ 2 ^ 20)
    (hQ : ∀ h' tk acc' c', (∀ b o, s.heap.get? b = some o → h'.get? b = some o) →
      h'.get? s.heap.objs.size = some { cls := .type "list", dict := none, data := .seq acc' c', slots := #[] } → ItemsOf (fun i v => ∃ k x, kvs[i]? = some (k, x) ∧ knd.is k v = true) acc' kvs.length → Q (.ref s.heap.objs.size) { s with heap := h', toks := tk }) :
    wpAny (model prog w) A (call (.type "list") [.ref r]) Q E s :=
  kdl_call (kdl_dict (knd := knd) (kvs := kvs) (ep := ep) hd) hh hr (kdl_size (by omega)) hQ
end

section
variable {g : Gd} {A : Around} {H : PH} {K : Type} [DecidableEq K] {Q : PV → PH → Prop}
theorem items_vals (D : DK g K) {H : PH} {h : Heap} : ∀ {acc : List Value} {kvs : List (K × Value)}, acc.length = kvs.length → (∀ (j : Nat) v, acc[j]? = some v → ∃ k x, kvs[j]? = some (k, x) ∧ D.knd.is k v = true) → VRs H h acc (kvs.map fun e => D.val e.1)
  | [], [], _, _ => .nil
  | v :: acc, (k, x) :: kvs, hl, hi => by
    refine .cons ?_ (items_vals D (by simpa using hl) fun j v e => ?_)
    · obtain ⟨k', x', e, is⟩ := hi 0 v (by simp)
      simp at e
      obtain ⟨rfl, rfl⟩ := e
      exact D.back _ _ _ _ is
    · obtain ⟨k', x', e', is⟩ := hi (j + 1) v (by simpa using e)
      exact ⟨k', x', by simpa using e', is⟩
  | [], _ :: _, hl, _ => by simp at hl
  | _ :: _, [], hl, _ => by simp at hl
theorem CT.listK (D : DK g K) {n : Nat} (hG : g.Ok) (R : Room A n) {a : Addr} {es : List (K × PV)} {ep : Nat} (e : H a = some (D.pack es ep)) (hsz : es.length ≤ 1000) (h : ∀ r, H r = none → Q (.ref r) (hup H r (.list (es.map fun e => D.val e.1)))) : CT g A H (.type "list") [.ref a] Q := by
  intro vs s Q' V B P
  cases V with
  | cons V1 V2 =>
    cases V1; cases V2
    obtain ⟨kvs, d, W, lo⟩ := D.at B e
    refine call_list_dict (knd := D.knd) R.hh lo d (by rw [W.length]; omega) fun h' tk acc' c' k eo hi => ?_
    have hv : VRs H s.heap acc'.toList (es.map fun e => D.val e.1) := by
      have z := items_vals D (H := H) (h := s.heap) (acc := acc'.toList) (kvs := kvs) (by have := hi.1; simpa using this) (fun j v e => hi.2 j v (by simpa using e))
      have ek : kvs.map (fun e => D.val e.1) = es.map fun e => D.val e.1 := by
        have := congrArg (List.map D.val) W.keys
        rwa [List.map_map, List.map_map] at this
      rw [ek] at z; exact z
    refine newL (vs := acc'.toList) (n := c') hG B P (Nat.le_refl _) k ?_ hv h
    rw [eo]
end
noncomputable def valT (t : Tab Int) (k : Int) : Int × Int := (dgetT t k).getD (0, 0)
noncomputable def numAt (t : Tab Int) (c : Bool) (k : Int) : Int := if c then (valT t k).2 else (valT t k).1
noncomputable def numsDown (t : Tab Int) (c : Bool) : Nat → List Int
  | 0 => []
  | n + 1 => numAt t c n :: numsDown t c n
theorem numsDown_len (t : Tab Int) (c : Bool) : ∀ n, (numsDown t c n).length = n
  | 0 => rfl
  | n + 1 => congrArg (· + 1) (numsDown_len t c n)
noncomputable def IsTop (t : Tab Int) (m : Nat) : Prop := (m = 0 ∨ (m : Int) ∈ t.map (·.1)) ∧ ∀ k ∈ t.map (·.1), k ≤ (m : Int)
theorem rangeSize_down (m : Nat) : Builtin.Range.rangeSize (m : Int) (-1) (-1) = (m : Int) + 1 := by
  unfold Builtin.Range.rangeSize
  simp
  omega
theorem iteT' {c : Bool} {P R : Prop} (hc : c = true) (h : P) : if c = true then P else R := by rwa [if_pos hc]
theorem iteF' {c : Bool} {P R : Prop} (hc : c = false) (h : R) : if c = true then P else R := by subst hc; rwa [if_neg (by decide)]
theorem small_down (m : Nat) (h : m ≤ 1000) : Builtin.Range.small (m : Int) (-1) (-1) = true := by
  unfold Builtin.Range.small
  rw [rangeSize_down]
  simp [Builtin.Range.rangeFitsLong]
  omega
section
variable {env : Env}
theorem swaps_L {y : Str} {py : Pos} {n : Nat} {elt : Expr} {gens : List Comprehension} {scope : Scope} {pos : Pos} (O : EnvOk env) (hk : env.kindOf y = some .local) (hl : (py.line == pos.line) = true) (hn : (scope.names.any fun (n, k) => n == y && (k == .local || k == .cell)) = false) :
    swapsWith (.ListComp elt gens scope pos) (some (.Name y py)) n env = pure true := by
  have hb : env.blockKind = .function := by unfold Env.blockKind; rw [O.kind]; rfl
  simp only [swapsWith, hb, hk]
  show pure ((ScopeKind.function == ScopeKind.function) && (some NameKind.local == some NameKind.local) && (py.line == pos.line) && !(scope.names.any fun (n, k) => n == y && (k == .local || k == .cell))) = (pure true : Sem Bool)
  rw [hl, hn]; rfl
theorem swaps_cell {y : Str} {py : Pos} {n : Nat} {elt : Expr} {gens : List Comprehension} {scope : Scope} {pos : Pos} (hk : env.kindOf y = some .cell) :
    swapsWith (.ListComp elt gens scope pos) (some (.Name y py)) n env = pure false := by
  simp only [swapsWith, hk]
  show pure ((env.blockKind == .function) && (some NameKind.cell == some NameKind.local) && (py.line == pos.line) && !(scope.names.any fun (n, k) => n == y && (k == .local || k == .cell))) = (pure false : Sem Bool)
  rw [show (some NameKind.cell == some NameKind.local) = false from rfl, Bool.and_false]; rfl
end
noncomputable def Refs (H : PH) : List Addr → List (List Int) → Prop
  | [], [] => True
  | a :: as, n :: ns => H a = some (.list (n.map .int)) ∧ Refs H as ns
  | _, _ => False
theorem Refs.ext {H H' : PH} (X : Ext H H') : ∀ {as : List Addr} {ns : List (List Int)}, Refs H as ns → Refs H' as ns
  | [], [], _ => trivial
  | _ :: _, _ :: _, ⟨e, r⟩ => ⟨X _ _ e, Refs.ext X r⟩
  | [], _ :: _, h => h.elim
  | _ :: _, [], h => h.elim
theorem Refs.length {H : PH} : ∀ {as : List Addr} {ns : List (List Int)}, Refs H as ns → as.length = ns.length
  | [], [], _ => rfl
  | _ :: _, _ :: _, ⟨_, r⟩ => congrArg (· + 1) r.length
  | [], _ :: _, h => h.elim
  | _ :: _, [], h => h.elim
theorem Refs.get {H : PH} : ∀ {as : List Addr} {ns : List (List Int)} {i : Nat} {n : List Int}, Refs H as ns → ns[i]? = some n → ∃ a, as[i]? = some a ∧ H a = some (.list (n.map .int))
  | [], [], _, _, _, e => by simp at e
  | a :: _, _ :: _, 0, _, ⟨e, _⟩, q => by simp at q; subst q; exact ⟨a, rfl, e⟩
  | _ :: _, _ :: _, i + 1, _, ⟨_, r⟩, q => by simp at q; obtain ⟨a, x, y⟩ := Refs.get r q; exact ⟨a, by simpa using x, y⟩
  | [], _ :: _, _, _, h, _ => h.elim
  | _ :: _, [], _, _, h, _ => h.elim
noncomputable def signsOf (ws : List Int) : List Bool := (ws.filter fun w => w != 0).map fun w => decide (0 < w)
noncomputable def changesAt (ss : List Bool) : Nat → Nat
  | 0 => 0
  | j + 1 => changesAt ss j + (if ss.getD (j + 1) false != ss.getD j false then 1 else 0)
noncomputable def changesN (ss : List Bool) : Nat := changesAt ss (ss.length - 1)
theorem changesAt_le (ss : List Bool) : ∀ j, changesAt ss j ≤ j
  | 0 => Nat.le_refl _
  | j + 1 => by
    have := changesAt_le ss j
    rw [changesAt]; split <;> omega
theorem CmpT.neB {g : Gd} {A : Around} {H : PH} {n : Nat} {a b : Bool} {Q : PV → PH → Prop} (R : Room A n) (h : Q (.bool (a != b)) H) : CmpT g A H .NotEq (.bool a) (.bool b) Q :=
  CmpT.neD R (.bool a) (.bool b) rfl rfl h
theorem small_up (a b : Int) (h : -1000 ≤ a) (h' : a ≤ 1000) (h2 : -1000 ≤ b) (h3 : b ≤ 1000) : Builtin.Range.small a b 1 = true := by
  unfold Builtin.Range.small
  rw [rangeSize_one]
  split <;> simp [Builtin.Range.rangeFitsLong] <;> omega
end Mine
end
section
open PySem PySem.W PyProof.Rows PySem.Calls PySem.Spec
set_option maxRecDepth 100000

namespace Mine
section
variable {g : Gd} {A : Around} {env : Env} {l : PL} {H : PH}
theorem callRaw {n : Str} {np pos : Pos} {as : List Expr} {u : Value} {QQ : List PV → PH → Prop} {s : Shared} {Q' : Value → Shared → Prop} (hG : g.Ok) (hst : as.all plainArg = true) (hn : ET g A env l H (.Name n np) fun v H₁ => v = .k u ∧ H₁ = H) (C : CallK g u) (h : ETs g A env l H as QQ) (R : ER g env l H s.heap)
    (k : ∀ ws pvs H₂ h₂ tk, BR g H₂ h₂ → Stp H s.heap H₂ h₂ → VRs H₂ h₂ ws pvs → QQ pvs H₂ → wpAny g.m A (call u ws) Q' noE { s with heap := h₂, toks := tk }) : wpAny g.m A (eval (.Call (.Name n np) as [] pos) env) Q' noE s := by
  show wpAny g.m A (do callWith pos (← eval (.Name n np) env) [] (backTo pos (starEach as env)) (backToKw pos (keywordEach [] env))) Q' noE s
  refine wpAny_bind (hn s _ R ?_)
  rintro v pv H₁ h₁ t₁ B₁ S₁ V₁ ⟨rfl, rfl⟩
  cases V₁
  refine callWith_of (P := g.K.In) (by rw [starEach_any pos env hst]; rfl) (fun h X => C.keeps _ h X) ?_
  have key : wpAny g.m A (spliced (backTo pos (starEach as env))) (fun vs s₁ => g.K.In s₁.heap ∧ wpAny g.m A (call u ([] ++ vs)) Q' noE s₁) noE { s with heap := h₁, toks := t₁ } := by
    refine h pos _ _ (R.after B₁ S₁) ?_
    intro vs pvs H₂ h₂ t₂ B₂ S₂ V₂ q₂
    exact ⟨hG.kin.keeps B₂.keep, k vs pvs H₂ h₂ t₂ B₂ (S₁.trans S₂) V₂ q₂⟩
  cases as with
  | nil =>
    unfold evalArgs
    show wpAny g.m A (spliced [] >>= _) _ _ _
    refine wpAny_bind (wpAny_mono key (fun vs s' h' => ?_) fun _ _ x => x)
    refine wpAny_holding ?_
    exact wpAny_bind (wpAny_pure (wpAny_bind (wpAny_pure (wpAny_pure h'))))
  | cons e r =>
    obtain ⟨h1, h2⟩ := Bool.and_eq_true_iff.mp hst
    rw [starEach_cons h1 env] at key ⊢
    exact evalArgs_plain key

noncomputable def ZipElt (g : Gd) (A : Around) (env : Env) (l : PL) (scope : Scope) (a b : Str) (elt : Expr) (f : Int → Int → Int) (H₁ : PH) : Prop :=
  ∀ (L : Addr) (s : Shared) (m : Str → Option Value) (h₁ : Heap) (x y : Int) (t u : Tok) (Q' : Value → Shared → Prop), H₁ L = none → g.G.get? L = none → BR g H₁ h₁ → ER g env l H₁ h₁ → (∀ b o, h₁.get? b = some o → s.heap.get? b = some o) → s.heap.Ns L m → m a = some (.int x t) → m b = some (.int y u) →
    (∀ tk t', Q' (.int (f x y) t') { s with toks := tk }) → wpAny g.m A (eval elt (compEnvC scope (clOf scope env) L env)) Q' noE s

theorem nn {a b : Nat} (h : a ≠ b) : @Ne Addr a b := h
theorem na {N i j : Nat} (h : i ≠ j) : @Ne Addr (N + i) (N + j) := fun e => h (Nat.add_left_cancel e)
theorem na6 {N j : Nat} (h : 6 ≠ j) : @Ne Addr (N + 5 + 1) (N + j) := na h
theorem n6a {N i : Nat} (h : i ≠ 6) : @Ne Addr (N + i) (N + 5 + 1) := na h
theorem n0a {N j : Nat} : @Ne Addr N (N + (j + 1)) := na (i := 0) (Nat.succ_ne_zero j).symm
theorem na0 {N j : Nat} : @Ne Addr (N + (j + 1)) N := na (j := 0) (Nat.succ_ne_zero j)
/-- the state of a comprehension over a zip between two turns -/
inductive CZst (h₁ : Heap) (s : Shared) (H₁ : PH) (a1 a2 : Addr) (xs ys : List Int) (f : Int → Int → Int) (N : Nat) (n : Nat) (s' : Shared) : Prop where
  | mk (i : Nat) (h' : Heap) (tk : Nat) (rs : List Value) (k : Nat) (p q : Value) (m : Str → Option Value) (_ : s' = { s with heap := h', toks := tk }) (_ : i + n = xs.length) (_ : ∀ b o, h₁.get? b = some o → h'.get? b = some o) (_ : IsZip h' (N + 4) (N + 2) (N + 3) .none) (_ : IsPair h' (N + 2) (.ref N) (.ref (N + 1))) (_ : IsPair h' (N + 3) p q) (_ : h'.IsListIter N a1 i) (_ : h'.IsListIter (N + 1) a2 i) (_ : h'.get? (N + 5) = some (listOf rs.toArray k)) (_ : VRs H₁ h₁ rs (((List.zipWith f xs ys).take i).map .int)) (_ : h'.Ns (N + 5 + 1) m) : CZst h₁ s H₁ a1 a2 xs ys f N n s'
theorem comp_zip {scope : Scope} {a b : Str} {pa pb tp np cp pos : Pos} {kk : Nat} {X Y elt : Expr} {f : Int → Int → Int} {Q : List Int → PH → Prop} {s : Shared} {RR : Value → Addr → Result → Shared → Prop} (hG : g.Ok) (hh : A.handled = none) (O : CompOk scope env) (E : EnvOk env) (R : ER g env l H s.heap)
    (ha : scope.names.lookup a = some .local) (hb : scope.names.lookup b = some .local) (hab : a ≠ b)
    (hst : [X, Y].all plainArg = true) (hz : ET g A env l H (.Name "zip" np) fun v H₁ => v = .k (.type "zip") ∧ H₁ = H)
    (h : ETs g A env l H [X, Y] fun vs H₁ => ∃ (a1 a2 : Addr) (xs ys : List Int), vs = [.ref a1, .ref a2] ∧ H₁ a1 = some (.list (xs.map .int)) ∧ H₁ a2 = some (.list (ys.map .int)) ∧ xs.length = ys.length ∧ xs.length ≤ 1000 ∧ ZipElt g A env l scope a b elt f H₁ ∧ Q (List.zipWith f xs ys) H₁)
    (hRR : ∀ D C h' tk H' acc, BR g (hup H' D (.list (acc.map PV.int))) h' → Stp H s.heap (hup H' D (.list (acc.map PV.int))) h' → (∃ m, h'.Ns C m) → s.heap.get? C = none → H' C = none → C ≠ D → g.G.get? C = none → H' D = none → Q acc H' → RR (.ref D) C (.ok .next) { s with heap := h', toks := tk }) :
    wpAny g.m A (eval (.Call (.Name "zip" np) [X, Y] [] cp) env) (fun xv s₁ => wpAny g.m A (pyIter xv) (fun it s₂ => wpAny g.m A (newList []) (fun acc s₃ => wpAny g.m A (newFunctionEnv scope env.globals (clOf scope env) [] env.qual none .none (some env)) (fun cenv s₄ =>
      codeAny g.m A (.compStart (.ListComp elt [⟨.Tuple [.Name a pa, .Name b pb] kk tp, .Call (.Name "zip" np) [X, Y] [] cp, [], 0⟩] scope pos) 0 it acc { cenv with scope := relabel scope env }) (RR acc cenv.locals) s₄) noE s₃) noE s₂) noE s₁) noE s := by
  refine callRaw hG hst hz (.inr (.inl ⟨_, rfl⟩)) h R ?_
  rintro ws pvs H₁ h₁ tk₁ B₁ S₁ V₁ ⟨a1, a2, xs, ys, rfl, e1, e2, hlen, hsz, helt, q⟩
  cases V₁ with
  | cons V1 V₁ => cases V₁ with
    | cons V2 V₁ =>
    cases V1; cases V2; cases V₁
    obtain ⟨us, hl1, U1⟩ := listAt B₁ e1
    obtain ⟨ws, hl2, U2⟩ := listAt B₁ e2
    refine call_zip_2 (s := { s with heap := h₁, toks := tk₁ }) hl1 hl2 fun h₂ hz hTI hTO hi1 hi2 hsz2 k12 => ?_
    have R₁ := R.after B₁ S₁
    have lt1 : a1 < h₁.objs.size := by obtain ⟨o, e, _⟩ := hl1; exact Heap.lt_size e
    have lt2 : a2 < h₁.objs.size := by obtain ⟨o, e, _⟩ := hl2; exact Heap.lt_size e
    have AP := zipApart_new lt1 lt2
    dsimp only at hz hTI hTO hi1 hi2 hsz2 k12 ⊢
    generalize hN : h₁.objs.size = N at *
    refine wpAny_pyIter_zip hz ?_
    refine wpAny_newObj_type ?_
    dsimp only
    generalize hD0 : h₂.push { cls := Value.type "list", dict := none, data := Data.seq ([] : List Value).toArray } = hD
    have kD : ∀ b o, h₂.get? b = some o → hD.get? b = some o := fun b o e => hD0 ▸ Heap.get?_push_of_some _ e
    have eD : hD.get? h₂.objs.size = some (listOf ([] : List Value).toArray 0) := hD0 ▸ Heap.get?_push_size _ rfl
    have sD : hD.objs.size = h₂.objs.size + 1 := by rw [← hD0, Heap.size_push]
    refine wpAny_newFunctionEnv O.cell (by intro y hy; simp at hy) (fun hE hns hsb => ?_) O.kind
    dsimp only at hns hsb ⊢
    have kE : ∀ b o, hD.get? b = some o → hE.get? b = some o := fun b o e => hsb.extBut b o (Nat.ne_of_lt (Heap.lt_size e)) (Heap.get?_push_of_some _ e)
    have k2E : ∀ b o, h₂.get? b = some o → hE.get? b = some o := fun b o e => kE b o (kD b o e)
    have k1E : ∀ b o, h₁.get? b = some o → hE.get? b = some o := fun b o e => k2E b o (k12 b o e)
    rw [sD, hsz2] at hns hsb ⊢
    rw [hsz2] at eD
    have fr1 : ∀ b o, h₁.get? b = some o → b < N := fun b o e => hN ▸ Heap.lt_size e
    have none1 : ∀ c, N ≤ c → h₁.get? c = none := fun c hc => by
      cases q : h₁.get? c with
      | none => rfl
      | some o => exact absurd (fr1 c o q) (Nat.not_lt.mpr hc)
    have sfresh : ∀ c, N ≤ c → s.heap.get? c = none := fun c hc => by
      cases z : s.heap.get? c with
      | none => rfl
      | some o => obtain ⟨o', e'⟩ := S₁.alive _ o z; rw [none1 c hc] at e'; cases e'
    have hfresh : ∀ c, N ≤ c → H₁ c = none := fun c hc => B₁.off (none1 c hc)
    have gfresh : ∀ c, N ≤ c → g.G.get? c = none := fun c hc => by
      cases q : g.G.get? c with
      | none => rfl
      | some o => exact absurd (B₁.keep _ o q) (by rw [none1 c hc]; nofun)
    have lowD : 2 < N := hN ▸ low (s := { s with heap := h₁, toks := tk₁ }) hG B₁
    have kd : ∀ y, (compEnvC scope (clOf scope env) (N + 5 + 1) env).kindOf y = (scope.names.lookup y).map fun q => if (q == .free && env.scope.kind == .function && env.kindOf y == some .cell) then .cell else q := fun y => by
      show (relabel scope env).names.lookup y = _
      rw [relabel_names]
      exact lookup_map_snd (f := fun n q => if (q == .free && env.scope.kind == .function && env.kindOf n == some .cell) then .cell else q) scope.names
    have lenU1 : us.length = xs.length := by have := U1.length; simpa using this
    have lenU2 : ws.length = xs.length := by have := U2.length; rw [hlen]; simpa using this
    have loop : codeAny g.m A (.compLoop (.ListComp elt [⟨.Tuple [.Name a pa, .Name b pb] kk tp, .Call (.Name "zip" np) [X, Y] [] cp, [], 0⟩] scope pos) 0 (.ref (N + 4)) (.ref (N + 5)) (compEnvC scope (clOf scope env) (N + 5 + 1) env)) (RR (.ref (N + 5)) (N + 5 + 1)) { s with heap := hE, toks := tk₁ + ([] : List (Str × Value)).length } := by
      refine kcp_loop (CZst h₁ s H₁ a1 a2 xs ys f N) ?_ xs.length
        ⟨0, hE, _, [], 0, _, _, _, rfl, by omega, k1E, k2E _ _ hz, k2E _ _ hTI, k2E _ _ hTO, hi1.at fun o e => k2E _ o e, hi2.at fun o e => k2E _ o e, kE _ _ eD, by simpa using VRs.nil, hns⟩
      rintro n s' ⟨i, h', tk, rs, k, p, q', m, rfl, hi, k1, z1, z2, z3, z4, z5, z6, U, hn⟩
      have hl1' := hl1.at fun o e => k1 _ o e
      have hl2' := hl2.at fun o e => k1 _ o e
      have ne1 : ∀ c o, h₁.get? c = some o → c ≠ N + 4 ∧ c ≠ N + 3 ∧ c ≠ N ∧ c ≠ N + 1 ∧ c ≠ N + 5 ∧ c ≠ N + 5 + 1 := fun c o e => by
        have this := fr1 c o e
        have le : ∀ k, c ≠ N + k := fun k => Nat.ne_of_lt (Nat.lt_of_lt_of_le this (Nat.le_add_right N k))
        exact ⟨le 4, le 3, le 0, le 1, le 5, le 6⟩
      by_cases hlt : i < xs.length
      · obtain ⟨n', rfl⟩ : ∃ n', n = n' + 1 := ⟨n - 1, by omega⟩
        obtain ⟨x, hx, Vx⟩ := U1.get (i := i) (d := .int (xs.getD i 0)) (by rw [List.getElem?_map, List.getD_eq_getElem?_getD, List.getElem?_eq_getElem hlt]; rfl)
        obtain ⟨y, hy, Vy⟩ := U2.get (i := i) (d := .int (ys.getD i 0)) (by rw [List.getElem?_map, List.getD_eq_getElem?_getD, List.getElem?_eq_getElem (by first | exact na (by decide) | exact na6 (by decide) | exact n6a (by decide) | exact n0a | exact na0 | exact Nat.le_add_right _ _ | omega | exact nn (by omega))]; rfl)
        cases Vx; cases Vy; rename_i t1 t2
        refine wpAny_pyNext_zip_item AP z1 z2 z3 z4 z5 hl1' hl2' (by simpa using hx) (by simpa using hy) fun h3 y1 y2 y3 y4 y5 y6 y7 => ?_
        dsimp only
        refine wpAny_letOwnedTupleGo_zip y1 fun h4 w1 ws4 => ?_
        have k34 : ∀ c o, c ≠ N + 4 → h3.get? c = some o → h4.get? c = some o := fun c o hc e => (ws4.2 c hc).trans e
        have keep4 : ∀ c o, c ≠ N + 4 → c ≠ N + 3 → c ≠ N → c ≠ N + 1 → h'.get? c = some o → h4.get? c = some o := fun c o n1 n2 n3 n4 e => k34 c o n1 (y7 c o n1 n2 n3 n4 e)
        have hT : h'.objs.size ≠ N + 4 := Nat.ne_of_gt (Heap.lt_size z1)
        have hn4 : h4.Ns (N + 5 + 1) m := hn.at' fun o e => keep4 _ o (by first | exact na (by decide) | exact na6 (by decide) | exact n6a (by decide) | exact n0a | exact na0 | exact Nat.le_add_right _ _ | omega | exact nn (by omega)) (by first | exact na (by decide) | exact na6 (by decide) | exact n6a (by decide) | exact n0a | exact na0 | exact Nat.le_add_right _ _ | omega | exact nn (by omega)) (by first | exact na (by decide) | exact na6 (by decide) | exact n6a (by decide) | exact n0a | exact na0 | exact Nat.le_add_right _ _ | omega | exact nn (by omega)) (by first | exact na (by decide) | exact na6 (by decide) | exact n6a (by decide) | exact n0a | exact na0 | exact Nat.le_add_right _ _ | omega | exact nn (by omega)) e
        refine kcp_assign (x := .int (xs.getD i 0) t1) (y := .int (ys.getD i 0) t2) hh ⟨_, k34 _ _ hT y5, rfl, 0, rfl⟩ (by rw [kd, ha]; rfl) (by rw [kd, hb]; rfl) ?_ hn4 fun h5 tk5 hn5 k5 => ?_
        · show (scope.kind == .class || (scope.kind == .module && _)) = false
          rw [O.kind]; rfl
        have k5' : ∀ c o, c ≠ N + 5 + 1 → h4.get? c = some o → h5.get? c = some o := k5
        have k15 : ∀ c o, h₁.get? c = some o → h5.get? c = some o := fun c o e => by
          obtain ⟨n1, n2, n3, n4, n5, n6⟩ := ne1 c o e
          exact k5' c o n6 (keep4 c o n1 n2 n3 n4 (k1 c o e))
        refine wpAny_mono (helt (N + 5 + 1) { s with heap := h5, toks := tk5 } (fun z => if z = b then some (.int (ys.getD i 0) t2) else if z = a then some (.int (xs.getD i 0) t1) else m z) h₁ (xs.getD i 0) (ys.getD i 0) t1 t2 _ (hfresh _ (by first | exact na (by decide) | exact na6 (by decide) | exact n6a (by decide) | exact n0a | exact na0 | exact Nat.le_add_right _ _ | omega | exact nn (by omega))) (gfresh _ (by first | exact na (by decide) | exact na6 (by decide) | exact n6a (by decide) | exact n0a | exact na0 | exact Nat.le_add_right _ _ | omega | exact nn (by omega))) B₁ R₁ k15 hn5 ((if_neg hab).trans (if_pos rfl)) (if_pos rfl) fun tk6 t6 => ?_) (fun _ _ x => x) noted_noE
        have eD5 : h5.get? (N + 5) = some (listOf rs.toArray k) := k5' _ _ (by first | exact na (by decide) | exact na6 (by decide) | exact n6a (by decide) | exact n0a | exact na0 | exact Nat.le_add_right _ _ | omega | exact nn (by omega)) (keep4 _ _ (by first | exact na (by decide) | exact na6 (by decide) | exact n6a (by decide) | exact n0a | exact na0 | exact Nat.le_add_right _ _ | omega | exact nn (by omega)) (by first | exact na (by decide) | exact na6 (by decide) | exact n6a (by decide) | exact n0a | exact na0 | exact Nat.le_add_right _ _ | omega | exact nn (by omega)) (by first | exact na (by decide) | exact na6 (by decide) | exact n6a (by decide) | exact n0a | exact na0 | exact Nat.le_add_right _ _ | omega | exact nn (by omega)) (by first | exact na (by decide) | exact na6 (by decide) | exact n6a (by decide) | exact n0a | exact na0 | exact Nat.le_add_right _ _ | omega | exact nn (by omega)) z6)
        have hrl : rs.length = i := by have := U.length; simp at this; omega
        refine append_at eD5 (fun h6 hs6 e6 => ?_) (by rw [List.size_toArray, hrl]; unfold sizeLine; omega)
        have k56 : ∀ c o, c ≠ N + 5 → h5.get? c = some o → h6.get? c = some o := fun c o hc e => (hs6.2 c hc).trans e
        have up : ∀ c o, c ≠ N + 5 → c ≠ N + 5 + 1 → h4.get? c = some o → h6.get? c = some o := fun c o n1 n2 e => k56 c o n1 (k5' c o n2 e)
        have y3' := y3.at fun o e => k34 _ o (by first | exact na (by decide) | exact na6 (by decide) | exact n6a (by decide) | exact n0a | exact na0 | exact Nat.le_add_right _ _ | omega | exact nn (by omega)) e
        have y4' := y4.at fun o e => k34 _ o (by first | exact na (by decide) | exact na6 (by decide) | exact n6a (by decide) | exact n0a | exact na0 | exact Nat.le_add_right _ _ | omega | exact nn (by omega)) e
        refine ⟨n', Nat.lt_succ_self _, i + 1, h6, _, rs ++ [.int (f (xs.getD i 0) (ys.getD i 0)) t6], k + 1, _, _, _, rfl, by omega, fun c o e => k56 c o (ne1 c o e).2.2.2.2.1 (k15 c o e), up _ _ (by first | exact na (by decide) | exact na6 (by decide) | exact n6a (by decide) | exact n0a | exact na0 | exact Nat.le_add_right _ _ | omega | exact nn (by omega)) (by first | exact na (by decide) | exact na6 (by decide) | exact n6a (by decide) | exact n0a | exact na0 | exact Nat.le_add_right _ _ | omega | exact nn (by omega)) w1, up _ _ (by first | exact na (by decide) | exact na6 (by decide) | exact n6a (by decide) | exact n0a | exact na0 | exact Nat.le_add_right _ _ | omega | exact nn (by omega)) (by first | exact na (by decide) | exact na6 (by decide) | exact n6a (by decide) | exact n0a | exact na0 | exact Nat.le_add_right _ _ | omega | exact nn (by omega)) (keep4 _ _ (by first | exact na (by decide) | exact na6 (by decide) | exact n6a (by decide) | exact n0a | exact na0 | exact Nat.le_add_right _ _ | omega | exact nn (by omega)) (by first | exact na (by decide) | exact na6 (by decide) | exact n6a (by decide) | exact n0a | exact na0 | exact Nat.le_add_right _ _ | omega | exact nn (by omega)) (by first | exact na (by decide) | exact na6 (by decide) | exact n6a (by decide) | exact n0a | exact na0 | exact Nat.le_add_right _ _ | omega | exact nn (by omega)) (by first | exact na (by decide) | exact na6 (by decide) | exact n6a (by decide) | exact n0a | exact na0 | exact Nat.le_add_right _ _ | omega | exact nn (by omega)) z2), up _ _ (by first | exact na (by decide) | exact na6 (by decide) | exact n6a (by decide) | exact n0a | exact na0 | exact Nat.le_add_right _ _ | omega | exact nn (by omega)) (by first | exact na (by decide) | exact na6 (by decide) | exact n6a (by decide) | exact n0a | exact na0 | exact Nat.le_add_right _ _ | omega | exact nn (by omega)) (k34 _ _ (by first | exact na (by decide) | exact na6 (by decide) | exact n6a (by decide) | exact n0a | exact na0 | exact Nat.le_add_right _ _ | omega | exact nn (by omega)) y2),
          y3'.at fun o e => up _ o (by first | exact na (by decide) | exact na6 (by decide) | exact n6a (by decide) | exact n0a | exact na0 | exact Nat.le_add_right _ _ | omega | exact nn (by omega)) (by first | exact na (by decide) | exact na6 (by decide) | exact n6a (by decide) | exact n0a | exact na0 | exact Nat.le_add_right _ _ | omega | exact nn (by omega)) e, y4'.at fun o e => up _ o (by first | exact na (by decide) | exact na6 (by decide) | exact n6a (by decide) | exact n0a | exact na0 | exact Nat.le_add_right _ _ | omega | exact nn (by omega)) (by first | exact na (by decide) | exact na6 (by decide) | exact n6a (by decide) | exact n0a | exact na0 | exact Nat.le_add_right _ _ | omega | exact nn (by omega)) e, by rw [e6]; simp [PySem.W.listOf], ?_, (show h5.Ns (N + 5 + 1) _ from hn5).at' fun o e => k56 (N + 5 + 1) o (nn (by omega)) e⟩
        have hzl : i < (List.zipWith f xs ys).length := by simp; omega
        have ez : (List.zipWith f xs ys).take (i + 1) = (List.zipWith f xs ys).take i ++ [f (xs.getD i 0) (ys.getD i 0)] := by
          rw [List.take_add_one, List.getElem?_eq_getElem hzl]
          simp [List.getD_eq_getElem?_getD, List.getElem?_eq_getElem hlt, List.getElem?_eq_getElem (show i < ys.length by omega)]
        rw [ez, List.map_append]
        exact U.append (.cons (.int _ _) .nil)
      · have hi' : i = xs.length := by omega
        refine wpAny_pyNext_zip_end hh AP z1 z2 z3 z4 z5 hl1' hl2' (.inl (by simp; omega)) fun h3 k3 => ?_
        dsimp only
        have k13 : ∀ c o, h₁.get? c = some o → h3.get? c = some o := fun c o e => by
          obtain ⟨n1, n2, n3, n4, n5, n6⟩ := ne1 c o e
          exact k3 c o n1 n2 n3 n4 (k1 c o e)
        have eD3 : h3.get? (N + 5) = some (listOf rs.toArray k) := k3 _ _ (by first | exact na (by decide) | exact na6 (by decide) | exact n6a (by decide) | exact n0a | exact na0 | exact Nat.le_add_right _ _ | omega | exact nn (by omega)) (by first | exact na (by decide) | exact na6 (by decide) | exact n6a (by decide) | exact n0a | exact na0 | exact Nat.le_add_right _ _ | omega | exact nn (by omega)) (by first | exact na (by decide) | exact na6 (by decide) | exact n6a (by decide) | exact n0a | exact na0 | exact Nat.le_add_right _ _ | omega | exact nn (by omega)) (by first | exact na (by decide) | exact na6 (by decide) | exact n6a (by decide) | exact n0a | exact na0 | exact Nat.le_add_right _ _ | omega | exact nn (by omega)) z6
        have Uall : VRs H₁ h₁ rs ((List.zipWith f xs ys).map .int) := by
          have : (List.zipWith f xs ys).take i = List.zipWith f xs ys := List.take_of_length_le (by simp; omega)
          rw [this] at U; exact U
        have B₃ := B₁.grown k13
        have S₃ : Stp H s.heap H₁ h3 := S₁.trans (Stp.grown k13)
        exact hRR (N + 5) (N + 5 + 1) h3 tk H₁ _ (B₃.add (hfresh _ (by first | exact na (by decide) | exact na6 (by decide) | exact n6a (by decide) | exact n0a | exact na0 | exact Nat.le_add_right _ _ | omega | exact nn (by omega))) ⟨gfresh _ (by first | exact na (by decide) | exact na6 (by decide) | exact n6a (by decide) | exact n0a | exact na0 | exact Nat.le_add_right _ _ | omega | exact nn (by omega)), Nat.lt_of_lt_of_le lowD (Nat.le_add_right N 5)⟩ (show OR g _ h3 (N + 5) (.list _) from ⟨rs, k, eD3, Uall.after B₁ (Stp.grown k13)⟩)) (S₃.add (sfresh _ (by first | exact na (by decide) | exact na6 (by decide) | exact n6a (by decide) | exact n0a | exact na0 | exact Nat.le_add_right _ _ | omega | exact nn (by omega))) (hfresh _ (by first | exact na (by decide) | exact na6 (by decide) | exact n6a (by decide) | exact n0a | exact na0 | exact Nat.le_add_right _ _ | omega | exact nn (by omega))))
          ⟨m, hn.at' fun o e => k3 _ o (by first | exact na (by decide) | exact na6 (by decide) | exact n6a (by decide) | exact n0a | exact na0 | exact Nat.le_add_right _ _ | omega | exact nn (by omega)) (by first | exact na (by decide) | exact na6 (by decide) | exact n6a (by decide) | exact n0a | exact na0 | exact Nat.le_add_right _ _ | omega | exact nn (by omega)) (by first | exact na (by decide) | exact na6 (by decide) | exact n6a (by decide) | exact n0a | exact na0 | exact Nat.le_add_right _ _ | omega | exact nn (by omega)) (by first | exact na (by decide) | exact na6 (by decide) | exact n6a (by decide) | exact n0a | exact na0 | exact Nat.le_add_right _ _ | omega | exact nn (by omega)) e⟩ (sfresh _ (by first | exact na (by decide) | exact na6 (by decide) | exact n6a (by decide) | exact n0a | exact na0 | exact Nat.le_add_right _ _ | omega | exact nn (by omega))) (hfresh _ (by first | exact na (by decide) | exact na6 (by decide) | exact n6a (by decide) | exact n0a | exact na0 | exact Nat.le_add_right _ _ | omega | exact nn (by omega))) (by first | exact na (by decide) | exact na6 (by decide) | exact n6a (by decide) | exact n0a | exact na0 | exact Nat.le_add_right _ _ | omega | exact nn (by omega)) (gfresh _ (by first | exact na (by decide) | exact na6 (by decide) | exact n6a (by decide) | exact n0a | exact na0 | exact Nat.le_add_right _ _ | omega | exact nn (by omega))) (hfresh _ (by first | exact na (by decide) | exact na6 (by decide) | exact n6a (by decide) | exact n0a | exact na0 | exact Nat.le_add_right _ _ | omega | exact nn (by omega))) q
    exact codeAny_compStart_list loop (wpAny_pyIter_zip (k2E _ _ hz) loop)

theorem ST.assignZ {scope : Scope} {a b y : Str} {pa pb tp np cp pos py spos : Pos} {kk : Nat} {X Y elt : Expr} (f : Int → Int → Int) {Q : PF → PL → PH → Prop} (hG : g.Ok) (hh : A.handled = none) (O : CompOk scope env) (E : EnvOk env) (hk : StoreK env y)
    (hsw : swapsWith (.ListComp elt [⟨.Tuple [.Name a pa, .Name b pb] kk tp, .Call (.Name "zip" np) [X, Y] [] cp, [], 0⟩] scope pos) (some (.Name y py)) spos.line env = pure true) (hs : ∀ env x, foldedSetIterable (.Call (.Name "zip" np) [X, Y] [] cp) env x = pure x)
    (ha : scope.names.lookup a = some .local) (hb : scope.names.lookup b = some .local) (hab : a ≠ b)
    (hst : [X, Y].all plainArg = true) (hz : ET g A env l H (.Name "zip" np) fun v H₁ => v = .k (.type "zip") ∧ H₁ = H)
    (h : ETs g A env l H [X, Y] fun vs H₁ => ∃ (a1 a2 : Addr) (xs ys : List Int), vs = [.ref a1, .ref a2] ∧ H₁ a1 = some (.list (xs.map .int)) ∧ H₁ a2 = some (.list (ys.map .int)) ∧ xs.length = ys.length ∧ xs.length ≤ 1000 ∧ ZipElt g A env l scope a b elt f H₁ ∧ ∀ D, H₁ D = none → Q .next (upd l y (.ref D)) (hup H₁ D (.list ((List.zipWith f xs ys).map .int)))) :
    ST g A env l H (.Assign [.Name y py] (.ListComp elt [⟨.Tuple [.Name a pa, .Name b pb] kk tp, .Call (.Name "zip" np) [X, Y] [] cp, [], 0⟩] scope pos) spos) Q := by
  intro s Q' R P
  rw [exec_Assign_Name_used _ _ _ _ hsw]
  refine wpAny_bind (wpAny_standAt (wpAny_bind ?_))
  show wpAny g.m A (do let _ ← comprehension (.ListComp elt [⟨.Tuple [.Name a pa, .Name b pb] kk tp, .Call (.Name "zip" np) [X, Y] [] cp, [], 0⟩] scope pos) scope env (firstIterPos [⟨.Tuple [.Name a pa, .Name b pb] kk tp, .Call (.Name "zip" np) [X, Y] [] cp, [], 0⟩] pos) (newList []) false (eval (.Call (.Name "zip" np) [X, Y] [] cp) env) (some (PySem.assign (.Name y py) env))) _ _ s
  refine wpAny_bind (wpAny_mono (wpAny_comprehension_free (use := some (PySem.assign (.Name y py) env)) (Q := fun _ s' => Q' .next s') rfl (hs env) (O.closure R) O.kind O.loc
    (comp_zip (RR := fun acc C => compPost g.m A noE (some (PySem.assign (.Name y py) env)) (fun _ s' => Q' .next s') acc C) (Q := fun acc H₁ => ∀ D, H₁ D = none → Q .next (upd l y (.ref D)) (hup H₁ D (.list (acc.map .int)))) hG hh O E R ha hb hab hst hz h ?_)) (fun _ s' hq => wpAny_pure (wpAny_pure hq)) fun _ _ e => e)
  intro D C h' tk H' acc B S hn nC hC CD gC hD q
  exact comp_store E hk R P B S hn nC (by rw [hup_ne CD]; exact hC) gC (q D hD)
end
end Mine
end
section
open PySem PySem.W PyProof.Rows PySem.Calls PySem.Spec
set_option maxRecDepth 100000

namespace Mine
section
variable {g : Gd} {A : Around} {env : Env} {l : PL} {H : PH}
/-- a list of ints in the ground -/
structure GList (g : Gd) (a : Addr) (ns : List Int) : Prop where
  at_ : ∃ vs, g.G.IsList a vs.toArray ∧ IntsAre vs ns
theorem ints_VRs {H : PH} {h : Heap} : ∀ {vs : List Value} {ns : List Int}, IntsAre vs ns → VRs H h vs (ns.map .int)
  | _, _, .nil => .nil
  | _, _, .cons n t r => .cons (.int n t) (ints_VRs r)
theorem ET.sliceToG {x u : Expr} {p pos : Pos} {Q : PV → PH → Prop} (hG : g.Ok) (ht : ∀ o r, letTemporaryGo x o r = pure ())
    (h : ET g A env l H x fun v H₁ => ET g A env l H₁ u fun w H₂ => ∃ (a : Addr) (ns : List Int) (k : Nat), v = .k (.ref a) ∧ w = .int k ∧ GList g a ns ∧ ns.length ≤ sizeLine ∧ ∀ D, H₂ D = none → Q (.ref D) (hup H₂ D (.list ((ns.take k).map .int)))) :
    ET g A env l H (.Subscript x (.Slice none (some u) none p) pos) Q := by
  intro s Q' R P
  refine wpAny_Subscript_list_slice (h s _ R ?_) ht
  intro v pv H₁ h₁ t₁ B₁ S₁ V₁ q₁
  refine wpAny_evalPart_none (wpAny_evalPart_some (q₁ _ _ (R.after B₁ S₁) ?_))
  rintro w wv H₂ h₂ t₂ B₂ S₂ V₂ ⟨a, ns, k, rfl, rfl, ⟨vs, eg, hi⟩, hsz, q⟩
  cases V₁; cases V₂; rename_i tk0
  have eo := eg.at fun o e => B₂.keep _ o e
  have U : VRs H₂ h₂ vs (ns.map .int) := ints_VRs hi
  have hlen : vs.length = ns.length := by have := U.length; simpa using this
  refine ⟨a, vs.toArray, none, some (k : Int), rfl, eo, by rw [List.size_toArray, hlen]; exact hsz, .none, .int _ _, ?_⟩
  rw [slicePick_upto']
  have hx : ∀ b o, h₂.get? b = some o → ((h₂.push { cls := .type "slice", data := .fields #[.none, Value.int (k : Int) tk0, .none] }).push { cls := .type "list", data := .seq (vs.toArray.toList.take k).toArray }).get? b = some o := fun b o e => Heap.get?_push_of_some _ (Heap.get?_push_of_some _ e)
  have eN := Heap.get?_push_size (h₂.push { cls := .type "slice", data := .fields #[.none, Value.int (k : Int) tk0, .none] }) (o := { cls := .type "list", data := .seq (vs.toArray.toList.take k).toArray }) rfl
  rw [Heap.size_push] at eN
  have Ut : VRs H₂ h₂ (vs.take k) ((ns.take k).map .int) := by rw [List.map_take]; exact U.take k
  exact newL (s := { s with heap := h₂, toks := t₂ }) (n := 0) (tk := t₂) hG B₂ (P.after (S₁.trans S₂)) (Nat.le_succ _) hx eN Ut q
theorem CT.sumG {n : Nat} {a : Addr} {ns : List Int} {Q : PV → PH → Prop} (R : Room A n) (e : GList g a ns) (h : Q (.int ns.sum) H) : CT g A H (.builtin "sum") [.k (.ref a)] Q := by
  intro vs s Q' V B P
  cases V with
  | cons V V2 =>
    cases V; cases V2
    obtain ⟨vs, eg, hi⟩ := e.at_
    have hl : s.heap.IsList a vs.toArray := eg.at fun o e => B.keep _ o e
    have U : VRs H s.heap vs (ns.map .int) := ints_VRs hi
    have hlen : vs.length = ns.length := by have := U.length; simpa using this
    refine call_sum_walkG (wpAny_pyIter_list hl ?_)
    have ne : a ≠ s.heap.objs.size := by obtain ⟨o, e, _⟩ := hl; exact Nat.ne_of_lt (Heap.lt_size e)
    refine ⟨s.heap.objs.size, _, _, _, _, _, fun i => ns.getD i 0, rfl, Walks.list (A := A.in1) R.hh _ a ne vs.toArray, ⟨⟨_, Heap.get?_push_size _ rfl, rfl, rfl⟩, hl.at fun o e => Heap.get?_push_of_some _ e⟩, ?_, fun i v e => intAt U e, ?_⟩
    · intro b hb
      rw [Heap.size_push]
      rcases List.mem_cons.mp hb with rfl | hb
      · exact Nat.lt_succ_self _
      · obtain rfl := List.mem_singleton.mp hb; obtain ⟨o, e, _⟩ := hl; exact Nat.lt_succ_of_lt (Heap.lt_size e)
    · intro h' tk t' k
      have kk : ∀ b o, s.heap.get? b = some o → h'.get? b = some o := fun b o e => k b o (fun z => by rw [List.mem_singleton.mp z] at e; exact absurd (Heap.lt_size e) (Nat.lt_irrefl _)) (Heap.get?_push_of_some _ e)
      rw [List.size_toArray, hlen, preSum_eq ns ns.length (Nat.le_refl _), List.take_length]
      exact P _ _ H h' tk (B.grown kk) (Stp.grown kk) (.int _ _) h
end
end Mine
end
section
open PySem PySem.W PyProof.Rows PySem.Calls PySem.Spec
set_option maxRecDepth 100000

namespace Mine
abbrev Nk (t : Tab Int) : Prop := (t.map (·.1)).Nodup

theorem valT_mem {t : Tab Int} {k : Int} {v : Int × Int} (hn : Nk t) (h : (k, v) ∈ t) : valT t k = v := by
  unfold valT; rw [dgetT_mem hn h]; rfl
theorem valT_not {t : Tab Int} {k : Int} (h : k ∉ t.map (·.1)) : valT t k = (0, 0) := by
  unfold valT; rw [dgetT_none.mpr h]; rfl
theorem valT_ne {t : Tab Int} {k : Int} (h : valT t k ≠ (0, 0)) : (k, valT t k) ∈ t := by
  unfold valT at h ⊢
  cases q : dgetT t k with
  | none => rw [q] at h; exact absurd rfl h
  | some v => exact dgetT_some q
theorem dgetT_valT {t : Tab Int} {k : Int} {v : Int × Int} (h : dgetT t k = some v) : valT t k = v := by unfold valT; rw [h]; rfl

theorem dgetT_del {t : Tab Int} {k k' : Int} (h : k' ≠ k) : dgetT (ddelT t k) k' = dgetT t k' := by
  unfold dgetT ddelT
  rw [List.find?_filter]
  congr 2
  funext e
  by_cases z : e.1 = k'
  · have : e.1 ≠ k := fun q => h (z.symm.trans q)
    simp [z, h]
  · simp [z]
theorem cmpNew_eq : ∀ {n : Tab Int}, Nk n → ∀ (o : Tab Int), cmpNew n o = n.map fun e => dif1 e.1 e.2.1 e.2.2 (dgetT o e.1)
  | [], _, _ => rfl
  | (k, s, c) :: r, hn, o => by
    have hn' := List.nodup_cons.mp hn
    rw [cmpNew, cmpNew_eq hn'.2, List.map_cons]
    congr 1
    refine List.map_congr_left fun e he => ?_
    have hne : e.1 ≠ k := fun z => hn'.1 (by show k ∈ _; rw [← z]; exact List.mem_map_of_mem (f := (·.1)) he)
    rw [dgetT_del hne]
theorem cmpLeft_eq : ∀ (n o : Tab Int), cmpLeft n o = o.filter fun e => decide (e.1 ∉ n.map (·.1))
  | [], o => by rw [cmpLeft]; exact (List.filter_eq_self.mpr fun _ _ => by simp).symm
  | (k, s, c) :: r, o => by
    rw [cmpLeft, cmpLeft_eq r, ddelT, List.filter_filter]
    refine List.filter_congr fun e _ => ?_
    by_cases h1 : e.1 = k <;> simp [h1]
theorem cmpOld_eq : ∀ t : Tab Int, cmpOld t = t.map fun e => (e.1, 0, -e.2.1, 0, -e.2.2)
  | [] => rfl
  | (k, s, c) :: r => by rw [cmpOld, cmpOld_eq r]; rfl
theorem dif1_key (k s c : Int) (p : Option (Int × Int)) : (dif1 k s c p).1 = k := by cases p <;> rfl
theorem cmpAll_keys {o n : Tab Int} (ho : Nk o) (hn : Nk n) : ((cmpAll o n).map (·.1)).Nodup := by
  unfold cmpAll
  rw [cmpNew_eq hn, cmpOld_eq, cmpLeft_eq, List.map_append, List.map_map, List.map_map]
  have e1 : (n.map ((fun x : Dif Int => x.1) ∘ fun e => dif1 e.1 e.2.1 e.2.2 (dgetT o e.1))) = n.map (·.1) := List.map_congr_left fun e _ => dif1_key _ _ _ _
  have e2 : ∀ l : Tab Int, (l.map ((fun x : Dif Int => x.1) ∘ fun e => (e.1, 0, -e.2.1, 0, -e.2.2))) = l.map (·.1) := fun l => List.map_congr_left fun e _ => rfl
  rw [e1, e2]
  refine List.nodup_append.mpr ⟨hn, ?_, fun a ha b hb z => ?_⟩
  · exact List.Pairwise.sublist (List.Sublist.map _ List.filter_sublist) ho
  · subst z
    obtain ⟨e, he, rfl⟩ := List.mem_map.mp hb
    have := (List.mem_filter.mp he).2
    simp only [decide_eq_true_eq] at this
    exact this ha
noncomputable def keepE (d : Dif Int) : Option (Int × (Int × Int)) := if keepD d then some (d.1, d.2.2.1, d.2.2.2.2) else none
theorem takenGo_eq : ∀ (ds : List (Dif Int)) (t : Tab Int), (t.map (·.1) ++ ds.map (·.1)).Nodup → takenGo ds t = t ++ ds.filterMap keepE
  | [], t, _ => by simp [takenGo]
  | d :: ds, t, h => by
    show takenGo ds (if keepD d then dsetT t d.1 (d.2.2.1, d.2.2.2.2) else t) = _
    rw [List.map_cons] at h
    obtain ⟨h1, h2, h3⟩ := List.nodup_append.mp h
    by_cases hk : keepD d = true
    · rw [if_pos hk, dsetT_new fun z => h3 _ z _ List.mem_cons_self rfl, takenGo_eq ds]
      · rw [List.filterMap_cons, keepE, if_pos hk]; simp
      · rw [List.map_append, List.append_assoc]; exact h
    · rw [if_neg hk, takenGo_eq ds]
      · rw [List.filterMap_cons, keepE, if_neg hk]
      · refine List.nodup_append.mpr ⟨h1, (List.nodup_cons.mp h2).2, fun a ha b hb => h3 a ha b (List.mem_cons_of_mem _ hb)⟩
theorem takenT_eq {o n : Tab Int} (ho : Nk o) (hn : Nk n) : takenT o n = (cmpAll o n).filterMap keepE := by
  unfold takenT; rw [takenGo_eq _ _ (by simpa using cmpAll_keys ho hn), List.nil_append]
theorem filterMap_keys {ds : List (Dif Int)} (h : (ds.map (·.1)).Nodup) : Nk (ds.filterMap keepE) := by
  induction ds with
  | nil => exact List.nodup_nil
  | cons d ds ih =>
    rw [List.map_cons, List.nodup_cons] at h
    rw [List.filterMap_cons]
    unfold keepE
    by_cases hk : keepD d = true
    · rw [if_pos hk]
      refine List.nodup_cons.mpr ⟨fun z => h.1 ?_, ih h.2⟩
      obtain ⟨e, he, z⟩ := List.mem_map.mp z
      obtain ⟨d', hd', e'⟩ := List.mem_filterMap.mp he
      have : d'.1 = d.1 := by
        split at e'
        · have := Option.some.inj e'; rw [← this] at z; exact z
        · cases e'
      exact this ▸ List.mem_map_of_mem (f := (·.1)) hd'
    · rw [if_neg hk]; exact ih h.2
theorem takenT_nk {o n : Tab Int} (ho : Nk o) (hn : Nk n) : Nk (takenT o n) := by
  rw [takenT_eq ho hn]; exact filterMap_keys (cmpAll_keys ho hn)
theorem takenT_mem {o n : Tab Int} (ho : Nk o) (hn : Nk n) {k s c : Int} (h : (k, s, c) ∈ takenT o n) : s = (valT n k).1 - (valT o k).1 ∧ c = (valT n k).2 - (valT o k).2 ∧ ¬ (s = 0 ∧ c = 0) ∧ (k ∈ n.map (·.1) ∨ k ∈ o.map (·.1)) := by
  rw [takenT_eq ho hn] at h
  obtain ⟨d, hd, e⟩ := List.mem_filterMap.mp h
  unfold keepE at e
  split at e
  · rename_i hk
    have e := Option.some.inj e
    injection e with e1 e2
    injection e2 with e2 e3
    have hne : ¬ (s = 0 ∧ c = 0) := by
      intro ⟨z1, z2⟩
      unfold keepD at hk
      rw [e2, e3, z1, z2] at hk
      exact absurd hk (by decide)
    unfold cmpAll at hd
    rw [cmpNew_eq hn, cmpOld_eq, cmpLeft_eq] at hd
    rcases List.mem_append.mp hd with z | z
    · obtain ⟨x, hx, rfl⟩ := List.mem_map.mp z
      rw [dif1_key] at e1
      have hv : valT n k = x.2 := by rw [← e1]; exact valT_mem hn hx
      have hkey : k ∈ n.map (·.1) := by rw [← e1]; exact List.mem_map_of_mem (f := (·.1)) hx
      subst e1
      cases q : dgetT o x.1 with
      | none =>
        have hv2 : valT o x.1 = (0, 0) := by unfold valT; rw [q]; rfl
        rw [q] at e2 e3
        rw [hv, hv2]
        have e2' : x.2.1 = s := e2
        have e3' : x.2.2 = c := e3
        exact ⟨by simp; omega, by simp; omega, hne, .inl hkey⟩
      | some v =>
        have hv2 := dgetT_valT q
        rw [q] at e2 e3
        rw [hv, hv2]
        have e2' : x.2.1 - v.1 = s := e2
        have e3' : x.2.2 - v.2 = c := e3
        exact ⟨by omega, by omega, hne, .inl hkey⟩
    · obtain ⟨x, hx, rfl⟩ := List.mem_map.mp z
      have h1 := (List.mem_filter.mp hx).1
      have h2 := (List.mem_filter.mp hx).2
      simp only [decide_eq_true_eq] at h2
      have e1' : x.1 = k := e1
      subst e1'
      rw [valT_not h2, valT_mem ho h1]
      have e2' : -x.2.1 = s := e2
      have e3' : -x.2.2 = c := e3
      exact ⟨by simp; omega, by simp; omega, hne, .inr (List.mem_map_of_mem (f := (·.1)) h1)⟩
  · cases e
theorem valT_taken {o n : Tab Int} (ho : Nk o) (hn : Nk n) (k : Int) : (valT (takenT o n) k).1 = (valT n k).1 - (valT o k).1 ∧ (valT (takenT o n) k).2 = (valT n k).2 - (valT o k).2 := by
  by_cases hk : k ∈ (takenT o n).map (·.1)
  · obtain ⟨⟨k', s, c⟩, he, rfl⟩ := List.mem_map.mp hk
    obtain ⟨a, b, _⟩ := takenT_mem ho hn he
    rw [valT_mem (takenT_nk ho hn) he]
    exact ⟨a, b⟩
  · rw [valT_not hk]
    -- the difference is nought
    have hz : (valT n k).1 - (valT o k).1 = 0 ∧ (valT n k).2 - (valT o k).2 = 0 := by
      refine Classical.byContradiction fun hne => hk ?_
      rw [takenT_eq ho hn]
      have hmem : ∃ d ∈ cmpAll o n, d.1 = k ∧ d.2.2.1 = (valT n k).1 - (valT o k).1 ∧ d.2.2.2.2 = (valT n k).2 - (valT o k).2 := by
        unfold cmpAll
        rw [cmpNew_eq hn, cmpOld_eq, cmpLeft_eq]
        by_cases h1 : k ∈ n.map (·.1)
        · obtain ⟨x, hx, rfl⟩ := List.mem_map.mp h1
          refine ⟨_, List.mem_append_left _ (List.mem_map_of_mem hx), dif1_key _ _ _ _, ?_⟩
          have hv : valT n x.1 = x.2 := valT_mem hn hx
          cases q : dgetT o x.1 with
          | none =>
            have hv2 : valT o x.1 = (0, 0) := by unfold valT; rw [q]; rfl
            rw [hv, hv2]
            exact ⟨show x.2.1 = x.2.1 - 0 by omega, show x.2.2 = x.2.2 - 0 by omega⟩
          | some v => rw [hv, dgetT_valT q]; exact ⟨rfl, rfl⟩
        · by_cases h2 : k ∈ o.map (·.1)
          · obtain ⟨x, hx, rfl⟩ := List.mem_map.mp h2
            refine ⟨_, List.mem_append_right _ (List.mem_map_of_mem (List.mem_filter.mpr ⟨hx, by simpa using h1⟩)), rfl, ?_⟩
            rw [valT_not h1, valT_mem ho hx]
            exact ⟨show -x.2.1 = 0 - x.2.1 by omega, show -x.2.2 = 0 - x.2.2 by omega⟩
          · exact absurd ⟨by rw [valT_not h1, valT_not h2]; rfl, by rw [valT_not h1, valT_not h2]; rfl⟩ hne
      obtain ⟨d, hd, rfl, d1, d2⟩ := hmem
      have hkeep : keepD d = true := by
        unfold keepD
        rw [d1, d2]
        simp only [Bool.not_eq_true', Bool.and_eq_false_iff, beq_eq_false_iff_ne]
        by_cases z : (valT n d.1).1 - (valT o d.1).1 = 0
        · exact .inr fun z2 => hne ⟨z, z2⟩
        · exact .inl z
      exact List.mem_map.mpr ⟨(d.1, d.2.2.1, d.2.2.2.2), List.mem_filterMap.mpr ⟨d, hd, by unfold keepE; rw [if_pos hkeep]⟩, rfl⟩
    exact ⟨hz.1.symm, hz.2.symm⟩

theorem timesT_nk {t : Tab Int} (h : Nk t) (f u : Int) : Nk (timesT t f u) := by
  unfold timesT Nk
  rw [List.map_map]
  have e : (t.map ((fun x : Int × Int × Int => x.1) ∘ fun e => (e.1 + u, f * e.2.1, f * e.2.2))) = (t.map (·.1)).map (· + u) := by rw [List.map_map]; rfl
  rw [e]
  exact List.Pairwise.map _ (fun a b hab z => hab (by omega)) h
theorem valT_times {t : Tab Int} (h : Nk t) (f u k : Int) : valT (timesT t f u) k = (f * (valT t (k - u)).1, f * (valT t (k - u)).2) := by
  by_cases hk : k - u ∈ t.map (·.1)
  · obtain ⟨x, hx, e⟩ := List.mem_map.mp hk
    have e' : x.1 = k - u := e
    have hv : valT t (k - u) = x.2 := by rw [← e']; exact valT_mem h hx
    rw [hv]
    refine valT_mem (timesT_nk h f u) (List.mem_map.mpr ⟨x, hx, ?_⟩)
    rw [e', show k - u + u = k by omega]
  · rw [valT_not hk, valT_not]
    · simp
    · intro z
      unfold timesT at z
      rw [List.map_map] at z
      obtain ⟨x, hx, e⟩ := List.mem_map.mp z
      have e' : x.1 + u = k := e
      exact hk (List.mem_map.mpr ⟨x, hx, by omega⟩)
end Mine
end
section
open PySem PySem.W PyProof.Rows PySem.Calls PySem.Spec
set_option maxRecDepth 100000

namespace Mine
noncomputable def slopeT (t : Tab Int) : Tab Int := (0, ((dgetT t 1).getD (0, 0)).1, 1) :: (t.filter fun e => decide (1 < e.1)).map fun e => (e.1 - 1, e.1 * e.2.1, 0)
noncomputable def IsHigh (t : Tab Int) (m : Int) : Prop := (m = -1 ∨ ∃ s c, (m, s, c) ∈ t ∧ s ≠ 0) ∧ -1 ≤ m ∧ ∀ e ∈ t, e.2.1 ≠ 0 → e.1 ≤ m

theorem IsHigh.zero {t : Tab Int} {m k : Int} (h : IsHigh t m) (hk : m < k) : (valT t k).1 = 0 := by
  refine Classical.byContradiction fun hne => ?_
  have := valT_ne (t := t) (k := k) (fun z => hne (by rw [z]))
  have := h.2.2 _ this hne
  have h3 : k ≤ m := this
  omega
theorem IsHigh.val {t : Tab Int} {m : Int} (hn : Nk t) (h : IsHigh t m) (hm : 0 ≤ m) : (valT t m).1 ≠ 0 ∧ dgetT t m = some (valT t m) := by
  rcases h.1 with z | ⟨s, c, hmem, hs⟩
  · omega
  · rw [valT_mem hn hmem]; exact ⟨hs, dgetT_mem hn hmem⟩
theorem IsHigh.of {t : Tab Int} {m : Int} (h0 : -1 ≤ m) (h1 : m = -1 ∨ (valT t m).1 ≠ 0) (h2 : ∀ k, m < k → (valT t k).1 = 0) (hn : Nk t) : IsHigh t m := by
  refine ⟨h1.imp id fun z => ⟨_, _, valT_ne (t := t) (k := m) fun q => z (congrArg (·.1) q), z⟩, h0, fun e he hs => ?_⟩
  refine Classical.byContradiction fun hlt => hs ?_
  have := h2 e.1 (by omega)
  rwa [valT_mem hn he] at this
theorem IsHigh.uniq {t : Tab Int} {m m' : Int} (hn : Nk t) (h : IsHigh t m) (h' : IsHigh t m') : m = m' := by
  have key : ∀ {a b : Int}, IsHigh t a → IsHigh t b → a ≤ b := fun {a b} ha hb => by
    refine Classical.byContradiction fun hlt => ?_
    have h1 := ha.2.1
    have hb1 := hb.2.1
    have := (ha.val hn (by omega)).1
    exact this (hb.zero (by omega))
  have := key h h'; have := key h' h; omega
theorem IsHigh.lt {t : Tab Int} {m k : Int} (h : IsHigh t m) (hz : ∀ j, k ≤ j → (valT t j).1 = 0) (hk : 0 ≤ k) (hn : Nk t) : m < k := by
  refine Classical.byContradiction fun hlt => ?_
  exact (h.val hn (by omega)).1 (hz m (by omega))

theorem slopeT_mem {t : Tab Int} {k s c : Int} : (k, s, c) ∈ slopeT t ↔ (k = 0 ∧ s = (valT t 1).1 ∧ c = 1) ∨ ∃ s' c', (k + 1, s', c') ∈ t ∧ 1 < k + 1 ∧ s = (k + 1) * s' ∧ c = 0 := by
  unfold slopeT
  rw [List.mem_cons]
  constructor
  · rintro (z | z)
    · injection z with e1 e2; injection e2 with e2 e3
      exact .inl ⟨e1, e2, e3⟩
    · obtain ⟨x, hx, e⟩ := List.mem_map.mp z
      obtain ⟨h1, h2⟩ := List.mem_filter.mp hx
      injection e with e1 e2; injection e2 with e2 e3
      simp only [decide_eq_true_eq] at h2
      obtain ⟨x1, x2, x3⟩ := x
      have e1' : x1 - 1 = k := e1
      have : x1 = k + 1 := by omega
      subst this
      exact .inr ⟨x2, x3, h1, h2, e2.symm, e3.symm⟩
  · rintro (⟨rfl, rfl, rfl⟩ | ⟨s', c', h1, h2, rfl, rfl⟩)
    · exact .inl rfl
    · refine .inr (List.mem_map.mpr ⟨_, List.mem_filter.mpr ⟨h1, by simpa using h2⟩, ?_⟩)
      show (k + 1 - 1, _, _) = _
      rw [show k + 1 - 1 = k by omega]
theorem slopeT_nk {t : Tab Int} (h : Nk t) : Nk (slopeT t) := by
  unfold slopeT Nk
  rw [List.map_cons, List.map_map]
  refine List.nodup_cons.mpr ⟨fun z => ?_, ?_⟩
  · obtain ⟨x, hx, e⟩ := List.mem_map.mp z
    have h2 := (List.mem_filter.mp hx).2
    simp only [decide_eq_true_eq] at h2
    have e' : x.1 - 1 = 0 := e
    omega
  · have e : ((t.filter fun e => decide (1 < e.1)).map ((fun x : Int × Int × Int => x.1) ∘ fun e => (e.1 - 1, e.1 * e.2.1, 0))) = ((t.filter fun e => decide (1 < e.1)).map (·.1)).map (· - 1) := by rw [List.map_map]; rfl
    rw [e]
    exact List.Pairwise.map _ (fun a b hab z => hab (by omega)) (List.Pairwise.sublist (List.Sublist.map _ List.filter_sublist) h)
theorem valT_slope {t : Tab Int} (h : Nk t) (k : Int) : (valT (slopeT t) k).1 = (if 0 ≤ k then (k + 1) * (valT t (k + 1)).1 else 0) ∧ (valT (slopeT t) k).2 = (if k = 0 then 1 else 0) := by
  by_cases hk : k ∈ (slopeT t).map (·.1)
  · obtain ⟨⟨k', s, c⟩, he, rfl⟩ := List.mem_map.mp hk
    rw [valT_mem (slopeT_nk h) he]
    rcases slopeT_mem.mp he with ⟨rfl, rfl, rfl⟩ | ⟨s', c', h1, h2, rfl, rfl⟩
    · simp
    · have : 0 ≤ k' := by omega
      simp only
      rw [if_pos this, if_neg (by omega), valT_mem h h1]
      exact ⟨rfl, rfl⟩
  · rw [valT_not hk]
    have k0 : k ≠ 0 := fun z => hk (List.mem_map.mpr ⟨_, slopeT_mem.mpr (.inl ⟨rfl, rfl, rfl⟩), z.symm⟩)
    rw [if_neg k0]
    refine ⟨?_, rfl⟩
    split
    · rename_i hp
      have : (valT t (k + 1)).1 = 0 := by
        refine Classical.byContradiction fun hne => hk ?_
        have hm := valT_ne (t := t) (k := k + 1) fun q => hne (by rw [q])
        exact List.mem_map.mpr ⟨(k, (k + 1) * (valT t (k + 1)).1, 0), slopeT_mem.mpr (.inr ⟨_, _, hm, by omega, rfl, rfl⟩), rfl⟩
      rw [this]; simp
    · rfl

structure TabOk (t : Tab Int) (K : Int) (B : Nat) : Prop where
  nk : Nk t
  ent : ∀ e ∈ t, 0 ≤ e.1 ∧ e.1 ≤ K ∧ e.2.1.natAbs < 2 ^ B ∧ e.2.2.natAbs < 2 ^ B
theorem TabOk.mono {t : Tab Int} {K K' : Int} {B B' : Nat} (h : TabOk t K B) (hK : K ≤ K') (hB : B ≤ B') : TabOk t K' B' :=
  ⟨h.nk, fun e he => by
    obtain ⟨a, b, c, d⟩ := h.ent e he
    have := Nat.pow_le_pow_right (n := 2) (by decide) hB
    exact ⟨a, by omega, by omega, by omega⟩⟩
theorem pigeon : ∀ (n : Nat) (l : List Int), l.Nodup → (∀ x ∈ l, 0 ≤ x ∧ x < n) → l.length ≤ n
  | 0, l, _, h => by
    cases l with
    | nil => exact Nat.le_refl _
    | cons x l => have := h x List.mem_cons_self; omega
  | n + 1, l, hn, h => by
    have h1 := pigeon n (l.erase n) (hn.erase _) fun x hx => by
      have hx' := List.mem_of_mem_erase hx
      have hne : x ≠ n := fun z => by subst z; exact (List.Nodup.not_mem_erase hn) hx
      have := h x hx'; omega
    have h2 := List.length_erase (a := (n : Int)) (l := l)
    by_cases hm : (n : Int) ∈ l
    · rw [List.length_erase_of_mem hm] at h1; omega
    · rw [List.erase_of_not_mem hm] at h1; omega
theorem TabOk.len {t : Tab Int} {K : Nat} {B : Nat} (h : TabOk t K B) : t.length ≤ K + 1 := by
  have := pigeon (K + 1) (t.map (·.1)) h.nk fun x hx => by
    obtain ⟨e, he, rfl⟩ := List.mem_map.mp hx
    have := h.ent e he; omega
  simpa using this
theorem TabOk.val {t : Tab Int} {K : Int} {B : Nat} (h : TabOk t K B) (k : Int) : (valT t k).1.natAbs < 2 ^ B ∧ (valT t k).2.natAbs < 2 ^ B := by
  by_cases hk : k ∈ t.map (·.1)
  · obtain ⟨e, he, rfl⟩ := List.mem_map.mp hk
    rw [valT_mem h.nk he]
    exact ⟨(h.ent e he).2.2.1, (h.ent e he).2.2.2⟩
  · rw [valT_not hk]
    have : 0 < 2 ^ B := Nat.pow_pos (by decide)
    exact ⟨this, this⟩
theorem natAbs_sub_lt {a b : Int} {p : Nat} (ha : a.natAbs < 2 ^ p) (hb : b.natAbs < 2 ^ p) : (a - b).natAbs < 2 ^ (p + 1) := by
  rw [Nat.pow_succ]; omega
theorem natAbs_mul_lt {a b : Int} {p q : Nat} (ha : a.natAbs < 2 ^ p) (hb : b.natAbs < 2 ^ q) : (a * b).natAbs < 2 ^ (p + q) := by
  rw [Int.natAbs_mul, Nat.pow_add]
  have hq : 0 < 2 ^ q := Nat.pow_pos (by decide)
  calc a.natAbs * b.natAbs ≤ a.natAbs * 2 ^ q := Nat.mul_le_mul_left _ (Nat.le_of_lt hb)
    _ < 2 ^ p * 2 ^ q := Nat.mul_lt_mul_of_pos_right ha hq

/-- one step of a division -/
noncomputable def stepT (b r : Tab Int) (first lead up : Int) : Tab Int := takenT (timesT b first up) (timesT r lead 0)
theorem stepT_nk {b r : Tab Int} (hb : Nk b) (hr : Nk r) (f g u : Int) : Nk (stepT b r f g u) := takenT_nk (timesT_nk hb _ _) (timesT_nk hr _ _)
theorem valT_step {b r : Tab Int} (hb : Nk b) (hr : Nk r) (f g u k : Int) : (valT (stepT b r f g u) k).1 = g * (valT r k).1 - f * (valT b (k - u)).1 ∧ (valT (stepT b r f g u) k).2 = g * (valT r k).2 - f * (valT b (k - u)).2 := by
  have h := valT_taken (timesT_nk hb f u) (timesT_nk hr g 0) k
  rw [valT_times hb, valT_times hr, show k - 0 = k by omega] at h
  exact h
theorem stepT_ok {b r : Tab Int} {K : Int} {B C : Nat} {f g u : Int} (hb : TabOk b K B) (hr : TabOk r (K + u) C) (hf : f.natAbs < 2 ^ C) (hg : g.natAbs < 2 ^ B) (hu : 0 ≤ u) : TabOk (stepT b r f g u) (K + u) (B + C + 1) := by
  refine ⟨stepT_nk hb.nk hr.nk _ _ _, fun e he => ?_⟩
  obtain ⟨k, s, c⟩ := e
  have hm := takenT_mem (timesT_nk hb.nk f u) (timesT_nk hr.nk g 0) he
  rw [valT_times hb.nk, valT_times hr.nk] at hm
  obtain ⟨h1, h2, _, h3⟩ := hm
  have b1 := hb.val (k - u)
  have r1 := hr.val (k - 0)
  have key : ∀ x y : Int, x.natAbs < 2 ^ C → y.natAbs < 2 ^ B → (g * x - f * y).natAbs < 2 ^ (B + C + 1) := fun x y hx hy => by
    refine natAbs_sub_lt (natAbs_mul_lt hg hx) ?_
    rw [Nat.add_comm B C]; exact natAbs_mul_lt hf hy
  refine ⟨?_, ?_, by rw [h1]; exact key _ _ r1.1 b1.1, by rw [h2]; exact key _ _ r1.2 b1.2⟩
  all_goals
    rcases h3 with z | z
    · obtain ⟨x, hx, e⟩ := List.mem_map.mp z
      obtain ⟨y, hy, rfl⟩ := List.mem_map.mp hx
      have e' : y.1 + 0 = k := e
      have := hr.ent y hy
      show _ ≤ _
      first | (show 0 ≤ k; omega) | (show k ≤ K + u; omega)
    · obtain ⟨x, hx, e⟩ := List.mem_map.mp z
      obtain ⟨y, hy, rfl⟩ := List.mem_map.mp hx
      have e' : y.1 + u = k := e
      have := hb.ent y hy
      first | (show 0 ≤ k; omega) | (show k ≤ K + u; omega)
/-- the other sign -/
theorem negT_nk {r : Tab Int} (hr : Nk r) : Nk (takenT r []) := takenT_nk hr List.nodup_nil
theorem valT_nil (k : Int) : valT [] k = (0, 0) := rfl
theorem valT_neg {r : Tab Int} (hr : Nk r) (k : Int) : (valT (takenT r []) k).1 = -(valT r k).1 ∧ (valT (takenT r []) k).2 = -(valT r k).2 := by
  have h := valT_taken (o := r) (n := []) hr (by exact List.nodup_nil) k
  rw [valT_nil] at h
  exact ⟨by rw [h.1]; simp, by rw [h.2]; simp⟩
theorem negT_ok {r : Tab Int} {K : Int} {B : Nat} (hr : TabOk r K B) : TabOk (takenT r []) K B := by
  refine ⟨negT_nk hr.nk, fun e he => ?_⟩
  obtain ⟨k, s, c⟩ := e
  obtain ⟨h1, h2, _, h3⟩ := takenT_mem (o := r) (n := []) hr.nk (by exact List.nodup_nil) he
  rw [valT_nil] at h1 h2
  have r1 := hr.val k
  have hk : k ∈ r.map (·.1) := h3.resolve_left fun z => by cases z
  obtain ⟨x, hx, e⟩ := List.mem_map.mp hk
  have := hr.ent x hx
  have e' : x.1 = k := e
  refine ⟨by show 0 ≤ k; omega, by show k ≤ K; omega, ?_, ?_⟩
  · show s.natAbs < _; omega
  · show c.natAbs < _; omega
theorem slopeT_ok {t : Tab Int} {K : Nat} {B : Nat} (h : TabOk t (K + 1) B) (hK : K < 8) (hB : 1 ≤ B) : TabOk (slopeT t) K (B + 3) := by
  refine ⟨slopeT_nk h.nk, fun e he => ?_⟩
  obtain ⟨k, s, c⟩ := e
  have hp : 2 ^ B * 8 = 2 ^ (B + 3) := by rw [Nat.pow_add]
  have hp1 : 0 < 2 ^ B := Nat.pow_pos (by decide)
  rcases slopeT_mem.mp he with ⟨rfl, rfl, rfl⟩ | ⟨s', c', h1, h2, rfl, rfl⟩
  · have := (h.val 1).1
    exact ⟨by simp, by simp, by show (valT t 1).1.natAbs < _; omega, by show 1 < 2 ^ (B + 3); omega⟩
  · have h3 := h.ent _ h1
    refine ⟨by show 0 ≤ k; omega, by show k ≤ K; omega, ?_, by show 0 < 2 ^ (B + 3); omega⟩
    show ((k + 1) * s').natAbs < _
    rw [← hp, Int.natAbs_mul, Nat.mul_comm]
    have h4 : (k + 1).natAbs ≤ 8 := by have : k + 1 ≤ K + 1 := h3.2.1; omega
    have h5 : s'.natAbs < 2 ^ B := h3.2.2.1
    calc s'.natAbs * (k + 1).natAbs ≤ s'.natAbs * 8 := Nat.mul_le_mul_left _ h4
      _ < 2 ^ B * 8 := Nat.mul_lt_mul_of_pos_right h5 (by decide)
noncomputable def firstOf (lead x : Int) : Int := if 0 < lead then x else -x
noncomputable def absI (a : Int) : Int := if a < 0 then -a else a
inductive Div (b : Tab Int) (e : Int) : Tab Int → Tab Int → Prop
  | done {r : Tab Int} {top : Int} : IsHigh r top → top < e → Div b e r r
  | step {r r' : Tab Int} {top : Int} : IsHigh r top → e ≤ top → Div b e (stepT b r (firstOf (valT b e).1 (valT r top).1) (absI (valT b e).1) (top - e)) r' → Div b e r r'
inductive Row : Tab Int → Tab Int → List (Tab Int) → Prop
  | done {a b : Tab Int} {m : Int} : IsHigh b m → m < 0 → Row a b []
  | step {a b r : Tab Int} {e : Int} {ts : List (Tab Int)} : IsHigh b e → 0 ≤ e → Div b e a r → Row b (takenT r []) ts → Row a b (takenT r [] :: ts)
noncomputable def Bd (d : Int) : Nat := 26 * 3 ^ (5 - d).toNat
theorem Bd_pos (d : Int) : 1 ≤ Bd d := by
  have : 0 < 3 ^ (5 - d).toNat := Nat.pow_pos (by decide)
  unfold Bd; omega
theorem three_pow : ∀ k : Nat, k + 3 ≤ 3 ^ (k + 1)
  | 0 => Nat.le_refl 3
  | k + 1 => by have := three_pow k; rw [Nat.pow_succ]; omega
theorem sq_le {n : Nat} {d : Int} (h : d.natAbs ≤ n) : (d * d).natAbs ≤ n * n := by rw [Int.natAbs_mul]; exact Nat.mul_le_mul h h
theorem Bd_step {dx dy : Int} (h1 : -1 ≤ dy) (h2 : dy < dx) (h3 : dx ≤ 5) : ((dx - dy).toNat + 2) * Bd dx ≤ Bd dy := by
  obtain ⟨k, hk⟩ : ∃ k : Nat, (dx - dy).toNat = k := ⟨_, rfl⟩
  have e : (5 - dy).toNat = (5 - dx).toNat + k := by omega
  have h4 : k + 2 ≤ 3 ^ k := by
    obtain ⟨j, rfl⟩ : ∃ j, k = j + 1 := ⟨k - 1, by omega⟩
    exact three_pow j
  unfold Bd
  rw [hk, e, Nat.pow_add]
  calc (k + 2) * (26 * 3 ^ (5 - dx).toNat) ≤ 3 ^ k * (26 * 3 ^ (5 - dx).toNat) := Nat.mul_le_mul_right _ h4
    _ = 26 * (3 ^ (5 - dx).toNat * 3 ^ k) := by rw [Nat.mul_left_comm, Nat.mul_comm (3 ^ k)]
theorem Bd_small {d : Int} (h : 1 ≤ d) : Bd d ≤ 2106 := by
  have : (5 - d).toNat ≤ 4 := by omega
  have := Nat.pow_le_pow_right (n := 3) (by decide) this
  unfold Bd; omega
theorem Bd_mono {dx dy : Int} (h : dy ≤ dx) : Bd dx ≤ Bd dy := by
  have : (5 - dx).toNat ≤ (5 - dy).toNat := by omega
  have := Nat.pow_le_pow_right (n := 3) (by decide) this
  unfold Bd; omega
theorem first_abs (lead x : Int) : (firstOf lead x).natAbs = x.natAbs := by unfold firstOf; split <;> simp
theorem abs_abs (a : Int) : (absI a).natAbs = a.natAbs := by unfold absI; split <;> simp
theorem cancel (lead x : Int) : absI lead * x - firstOf lead x * lead = 0 := by
  unfold absI firstOf
  rcases Int.lt_trichotomy lead 0 with h | h | h
  · rw [if_pos h, if_neg (by omega)]; grind
  · subst h; simp
  · rw [if_neg (by omega), if_pos h]; grind
/-- a step takes the highest power off -/
theorem step_high {b r : Tab Int} {e top top' : Int} (hb : Nk b) (hr : Nk r) (hbe : IsHigh b e) (hrt : IsHigh r top) (he : 0 ≤ e) (ht : e ≤ top) (h' : IsHigh (stepT b r (firstOf (valT b e).1 (valT r top).1) (absI (valT b e).1) (top - e)) top') : top' < top := by
  refine h'.lt (fun j hj => ?_) (by omega) (stepT_nk hb hr _ _ _)
  rw [(valT_step hb hr _ _ _ _).1]
  by_cases hjt : j = top
  · subst hjt
    rw [show j - (j - e) = e by omega]
    exact cancel _ _
  · rw [hrt.zero (k := j) (by omega), hbe.zero (k := j - (top - e)) (by omega)]
    simp
theorem neg_high {r : Tab Int} {m : Int} (hr : Nk r) (h : IsHigh r m) : IsHigh (takenT r []) m := by
  refine IsHigh.of h.2.1 ?_ (fun k hk => ?_) (negT_nk hr)
  · by_cases hm : m = -1
    · exact .inl hm
    · refine .inr ?_
      rw [(valT_neg hr m).1]
      have := (h.val hr (by have := h.2.1; omega)).1
      omega
  · rw [(valT_neg hr k).1, h.zero hk]; rfl
theorem slope_high {t : Tab Int} {d : Int} (hn : Nk t) (h : IsHigh t d) (hd : 1 ≤ d) : IsHigh (slopeT t) (d - 1) := by
  refine IsHigh.of (by omega) (.inr ?_) (fun k hk => ?_) (slopeT_nk hn)
  · rw [(valT_slope hn _).1, if_pos (by omega), show d - 1 + 1 = d by omega]
    exact Int.mul_ne_zero (by omega) (h.val hn (by omega)).1
  · rw [(valT_slope hn _).1, if_pos (by omega), h.zero (by omega)]; simp
noncomputable def TRefs (g : Gd) (H : PH) (CS : Addr) (ads : List Addr) (ts : List (Tab Int)) : Prop := ads.length = ts.length ∧ ∀ (i : Nat) (a : Addr) (t : Tab Int), ads[i]? = some a → ts[i]? = some t → ∃ ep, H a = some ((ik g).pack (tabP .int CS t) ep)
theorem TRefs.ext {g : Gd} {H H' : PH} {CS : Addr} {ads : List Addr} {ts : List (Tab Int)} (h : TRefs g H CS ads ts) (X : Ext H H') : TRefs g H' CS ads ts :=
  ⟨h.1, fun i a t e e' => let ⟨ep, q⟩ := h.2 i a t e e'; ⟨ep, X _ _ q⟩⟩
theorem TRefs.snoc {g : Gd} {H : PH} {CS : Addr} {ads : List Addr} {ts : List (Tab Int)} {a : Addr} {t : Tab Int} {ep : Nat} (h : TRefs g H CS ads ts) (e : H a = some ((ik g).pack (tabP .int CS t) ep)) : TRefs g H CS (ads ++ [a]) (ts ++ [t]) := by
  refine ⟨by simp [h.1], fun i b u e1 e2 => ?_⟩
  by_cases hi : i < ads.length
  · rw [List.getElem?_append_left hi] at e1
    rw [List.getElem?_append_left (by rw [← h.1]; exact hi)] at e2
    exact h.2 i b u e1 e2
  · rw [List.getElem?_append_right (by omega)] at e1
    rw [List.getElem?_append_right (by rw [← h.1]; omega)] at e2
    have h1 := (List.getElem?_eq_some_iff.mp e1).1
    have hi0 : i - ads.length = 0 := by simp at h1; omega
    have hi1 : i - ts.length = 0 := by rw [← h.1]; exact hi0
    rw [hi0] at e1; rw [hi1] at e2
    simp at e1 e2
    subst e1 e2
    exact ⟨ep, e⟩
noncomputable def topN (t : Tab Int) : Nat := (t.map (·.1)).foldl (fun m k => max m k.toNat) 0
theorem foldmax : ∀ (l : List Int) (m : Nat), m ≤ l.foldl (fun m k => max m k.toNat) m ∧ (∀ k ∈ l, k.toNat ≤ l.foldl (fun m k => max m k.toNat) m) ∧ (l.foldl (fun m k => max m k.toNat) m = m ∨ ∃ k ∈ l, k.toNat = l.foldl (fun m k => max m k.toNat) m)
  | [], m => ⟨Nat.le_refl _, by simp, .inl rfl⟩
  | k :: l, m => by
    obtain ⟨a, b, c⟩ := foldmax l (max m k.toNat)
    simp only [List.foldl_cons]
    refine ⟨by omega, fun x hx => ?_, ?_⟩
    · rcases List.mem_cons.mp hx with rfl | hx
      · omega
      · exact b x hx
    · rcases c with c | ⟨x, hx, c⟩
      · by_cases h : m ≤ k.toNat
        · exact .inr ⟨k, List.mem_cons_self, by omega⟩
        · exact .inl (by omega)
      · exact .inr ⟨x, List.mem_cons_of_mem _ hx, c⟩
theorem IsTop.eq {t : Tab Int} {m : Nat} (h : IsTop t m) : m = topN t := by
  obtain ⟨a, b, c⟩ := foldmax (t.map (·.1)) 0
  unfold topN
  have h1 : ∀ k ∈ t.map (·.1), k.toNat ≤ m := fun k hk => by have := h.2 k hk; omega
  rcases h.1 with z | z
  · rcases c with c | ⟨x, hx, c⟩
    · omega
    · have := h1 x hx; omega
  · have := b _ z
    rcases c with c | ⟨x, hx, c⟩
    · omega
    · have := h1 x hx; omega
end Mine
end
section
open PySem PySem.W PyProof.Rows PySem.Calls PySem.Spec
set_option maxRecDepth 100000

namespace Mine
noncomputable def worthGo (x u : Int) : List Int → Int → Int → Int
  | [], w, _ => w
  | n :: r, w, s => worthGo x u r (w * x + n * s) (s * u)
noncomputable def worthL (ns : List Int) (x u : Int) : Int := worthGo x u ns 0 1
noncomputable def worthsAt (nss : List (List Int)) (x : Int) : List Int := nss.map fun ns => worthL ns x 2
noncomputable def slopeGo (rs : List Int) (i : Nat) (s : Int) : Nat → Int
  | 0 => s
  | j + 1 => if j = i then slopeGo rs i s j else slopeGo rs i s j * (rs.getD i 0 - rs.getD j 0)
noncomputable def slopeAt (rs : List Int) (m h : Int) (i : Nat) : Int := slopeGo rs i ((rs.getD i 0 - m) ^ 2 + h) rs.length
theorem slope_zero {rs : List Int} {i : Nat} {s : Int} : slopeGo rs i s 0 = s := rfl
theorem slope_ne {rs : List Int} {i j : Nat} {s : Int} (h : j ≠ i) : slopeGo rs i s (j + 1) = slopeGo rs i s j * (rs.getD i 0 - rs.getD j 0) := if_neg h
theorem slope_eq {rs : List Int} {i j : Nat} {s : Int} (h : j = i) : slopeGo rs i s (j + 1) = slopeGo rs i s j := if_pos h
noncomputable def mulLin (due : List Int) (r : Int) : List Int := List.zipWith (fun a b => a - r * b) (due ++ [0]) ([0] ++ due)
noncomputable def dueAt (rs : List Int) : Nat → List Int
  | 0 => [1]
  | k + 1 => if (rs.take k).any (· == rs.getD k 0) then mulLin (dueAt rs k) (rs.getD k 0) else dueAt rs k
theorem dueAt_len (rs : List Int) : ∀ k, (dueAt rs k).length ≤ k + 1 ∧ 1 ≤ (dueAt rs k).length
  | 0 => ⟨Nat.le_refl _, Nat.le_refl _⟩
  | k + 1 => by
    have := dueAt_len rs k
    rw [dueAt]; split
    · simp [mulLin]; omega
    · omega
noncomputable def rootsOf (sc : List Int) : List Int := (if (sc.take 3).isEmpty then [4] else sc.take 3).map fun n => n.fmod 7 - 3
noncomputable def midOf (sc : List Int) : Int := (sc.sum.fdiv 7).fmod 7 - 3
noncomputable def htOf (sc : List Int) : Int := 1 + (sc.sum.fdiv 49).fmod 1000
noncomputable def tab0 (sc : List Int) : Tab Int := prodT (rootsOf sc) (midOf sc) (htOf sc)
noncomputable def sizesOf (c : Bool) (ts : List (Tab Int)) : List (List Int) := ts.map fun t => numsDown t c (topN t + 1)
structure PlainLaw (sc : List Int) : Prop where
  ok : TabOk (tab0 sc) ((rootsOf sc).length + 2) 22
  high : IsHigh (tab0 sc) ((rootsOf sc).length + 2)
  told : ∀ ts, Row (tab0 sc) (slopeT (tab0 sc)) ts → ∀ k : Nat, k < 7 → (changesN (signsOf (worthsAt (sizesOf false (tab0 sc :: slopeT (tab0 sc) :: ts)) (2 * k - 7))) : Int) - changesN (signsOf (worthsAt (sizesOf false (tab0 sc :: slopeT (tab0 sc) :: ts)) (2 * k - 5))) = if (rootsOf sc).any (· == (k : Int) - 3) then 1 else 0
  again : ∀ ts ns, Row (tab0 sc) (slopeT (tab0 sc)) ts → (sizesOf false (tab0 sc :: slopeT (tab0 sc) :: ts))[ts.length]? = some ns → (∀ x ∈ dueAt (rootsOf sc) (rootsOf sc).length, Builtin.Int.intBits x ≤ 64) ∧ (dueAt (rootsOf sc) (rootsOf sc).length).length ≤ ns.length ∧
    ns = List.replicate (ns.length - (dueAt (rootsOf sc) (rootsOf sc).length).length) 0 ++ (dueAt (rootsOf sc) (rootsOf sc).length).map fun x => ns.getD (ns.length - (dueAt (rootsOf sc) (rootsOf sc).length).length) 0 * x
  bits : ∀ i < (rootsOf sc).length, Builtin.Int.intBits (slopeAt (rootsOf sc) (midOf sc) (htOf sc) i) ≤ 64
  bound : ∀ ts, Row (tab0 sc) (slopeT (tab0 sc)) ts → ∀ i < (rootsOf sc).length, ∀ k < (sizesOf false (tab0 sc :: slopeT (tab0 sc) :: ts)).length, worthL ((sizesOf false (tab0 sc :: slopeT (tab0 sc) :: ts)).getD k []) ((rootsOf sc).getD i 0) 1 = slopeAt (rootsOf sc) (midOf sc) (htOf sc) i * worthL ((sizesOf true (tab0 sc :: slopeT (tab0 sc) :: ts)).getD k []) ((rootsOf sc).getD i 0) 1

theorem rootsOf_len (sc : List Int) : 1 ≤ (rootsOf sc).length ∧ (rootsOf sc).length ≤ 3 := by
  unfold rootsOf
  rw [List.length_map]
  split
  · exact ⟨Nat.le_refl _, by decide⟩
  · rename_i h
    refine ⟨?_, by simp; omega⟩
    have : sc.take 3 ≠ [] := by simpa using h
    exact List.length_pos_iff.mpr this
theorem rootsOf_bd (sc : List Int) : ∀ r ∈ rootsOf sc, -3 ≤ r ∧ r ≤ 3 := by
  intro r hr
  unfold rootsOf at hr
  obtain ⟨n, _, rfl⟩ := List.mem_map.mp hr
  have h1 := Int.fmod_nonneg_of_pos n (b := 7) (by decide)
  have h2 := Int.fmod_lt_of_pos n (b := 7) (by decide)
  omega
theorem midOf_bd (sc : List Int) : -3 ≤ midOf sc ∧ midOf sc ≤ 3 := by
  have h1 := Int.fmod_nonneg_of_pos (sc.sum.fdiv 7) (b := 7) (by decide)
  have h2 := Int.fmod_lt_of_pos (sc.sum.fdiv 7) (b := 7) (by decide)
  unfold midOf; omega
theorem htOf_bd (sc : List Int) : 1 ≤ htOf sc ∧ htOf sc ≤ 1000 := by
  have h1 := Int.fmod_nonneg_of_pos (sc.sum.fdiv 49) (b := 1000) (by decide)
  have h2 := Int.fmod_lt_of_pos (sc.sum.fdiv 49) (b := 1000) (by decide)
  unfold htOf; omega

end Mine
end
section
open PySem PySem.W PyProof.Rows PySem.Calls PySem.Spec
set_option maxRecDepth 100000

namespace Mine
structure Is (g : Gd) : Prop where
  ok : g.Ok
  K : g.K = hd.heap_1 g.w.params

example (P : Params) : PySem.Challenge.rw_wa0013_03.row.prog = PySem.Challenge.rw_wa0013_03.row.prog ∧ hd.heap_1 P = hd.heap_1 P := by
  k_fill
  exact ⟨rfl, rfl⟩

section
variable {g : Gd} {A : Around} {H : PH} {Q : PV → PH → Prop}
abbrev CS : Addr := 82
abbrev CD : Addr := 141
/-- a Statistic, a StatisticDiff, as their slots lie -/
abbrev st3 (t s c : PV) : PV := .inst CS [c, s, t]
abbrev sd5 (t s sd c cd : PV) : PV := .inst CD [c, cd, s, sd, t]

theorem stat_ct (I : Is g) (R : Room A 3) {t s c : PV} (h : ∀ dx, H dx = none → Q (st3 t s c) (hup H dx .idle)) : CT g A H (.ref CS) [t, s, c] Q := by
  refine' CT.inst (ns := [Str.ofString "traceback", Str.ofString "size", Str.ofString "count"]) (js := [2, 1, 0]) (fI := 43) (sg := fun l => l.reverse) I.ok R (IK := ?IK) (ho := ?ho) (hfd := ?hfd) (hb := ?hb) (hcode := ?hc) ?h1 ?h2 ?h3 ?h4 ?h5 ?h6 ?h7 ?h8 ?h9 ?h10 ?h11 h
  case ho => rw [I.K]; k_is
  case hfd => exact rfl
  case hb => exact rfl
  case hc => rw [I.K]; k_is
  case IK => rw [I.K]; exact ⟨by k_is, by k_is, by k_is, by k_is, by k_is⟩
  case h1 => exact rfl
  case h2 => exact rfl
  case h3 => exact rfl
  case h4 => decide
  case h5 => decide
  case h6 => (intro s vs hv; obtain ⟨x, y, z, w, rfl⟩ := len4 hv; exact BindsTo.of_eq rfl)
  case h7 => decide
  case h8 => rw [I.K]; exact .cons ⟨⟨85, by k_is, by k_is, by k_is⟩, by decide⟩ rfl (.cons ⟨⟨84, by k_is, by k_is, by k_is⟩, by decide⟩ rfl (.cons ⟨⟨83, by k_is, by k_is, by k_is⟩, by decide⟩ rfl .nil))
  case h9 => rfl
  case h10 => (intro ws hw; obtain ⟨x, y, z, rfl⟩ := len3 hw; rfl)
  case h11 =>
    intro H h ws ds V hw
    obtain ⟨x, y, z, rfl⟩ := len3 hw
    obtain ⟨x', y', z', rfl⟩ := len3 (V.length.symm.trans hw)
    obtain ⟨_, _, e1, a, V⟩ := V.inv
    obtain ⟨_, _, e2, b, V⟩ := V.inv
    obtain ⟨_, _, e3, c, V⟩ := V.inv
    injection e1 with e1 e1'; subst e1 e1'
    injection e2 with e2 e2'; subst e2 e2'
    injection e3 with e3 e3'; subst e3
    exact .cons c (.cons b (.cons a .nil))

theorem diff_ct (I : Is g) (R : Room A 3) {t s sd c cd : PV} (h : ∀ dx, H dx = none → Q (sd5 t s sd c cd) (hup H dx .idle)) : CT g A H (.ref CD) [t, s, sd, c, cd] Q := by
  refine' CT.inst (ns := [Str.ofString "traceback", Str.ofString "size", Str.ofString "size_diff", Str.ofString "count", Str.ofString "count_diff"]) (js := [4, 2, 3, 0, 1]) (fI := 102) (sg := fun l => match l with | [a, b, c, d, e] => [d, e, b, c, a] | l => l) I.ok R (IK := ?IK) (ho := ?ho) (hfd := ?hfd) (hb := ?hb) (hcode := ?hc) ?h1 ?h2 ?h3 ?h4 ?h5 ?h6 ?h7 ?h8 ?h9 ?h10 ?h11 h
  case ho => rw [I.K]; k_is
  case hfd => exact rfl
  case hb => exact rfl
  case hc => rw [I.K]; k_is
  case IK => rw [I.K]; exact ⟨by k_is, by k_is, by k_is, by k_is, by k_is⟩
  case h1 => exact rfl
  case h2 => exact rfl
  case h3 => exact rfl
  case h4 => decide
  case h5 => decide
  case h6 => (intro s vs hv; obtain ⟨x, y, z, w, u, v, rfl⟩ := len6 hv; exact BindsTo.of_eq rfl)
  case h7 => decide
  case h8 => rw [I.K]; exact .cons ⟨⟨146, by k_is, by k_is, by k_is⟩, by decide⟩ rfl (.cons ⟨⟨144, by k_is, by k_is, by k_is⟩, by decide⟩ rfl (.cons ⟨⟨145, by k_is, by k_is, by k_is⟩, by decide⟩ rfl (.cons ⟨⟨142, by k_is, by k_is, by k_is⟩, by decide⟩ rfl (.cons ⟨⟨143, by k_is, by k_is, by k_is⟩, by decide⟩ rfl .nil))))
  case h9 => rfl
  case h10 => (intro ws hw; obtain ⟨x, y, z, u, v, rfl⟩ := len5 hw; rfl)
  case h11 =>
    intro H h ws ds V hw
    obtain ⟨x, y, z, u, v, rfl⟩ := len5 hw
    obtain ⟨x', y', z', u', v', rfl⟩ := len5 (V.length.symm.trans hw)
    obtain ⟨_, _, e1, a, V⟩ := V.inv
    obtain ⟨_, _, e2, b, V⟩ := V.inv
    obtain ⟨_, _, e3, c, V⟩ := V.inv
    obtain ⟨_, _, e4, d, V⟩ := V.inv
    obtain ⟨_, _, e5, e, V⟩ := V.inv
    injection e1 with e1 e1'; subst e1 e1'
    injection e2 with e2 e2'; subst e2 e2'
    injection e3 with e3 e3'; subst e3 e3'
    injection e4 with e4 e4'; subst e4 e4'
    injection e5 with e5 e5'; subst e5
    exact .cons d (.cons e (.cons b (.cons c (.cons a .nil))))
end
end Mine
end
section
open PySem PySem.W PyProof.Rows PySem.Calls PySem.Spec
set_option maxRecDepth 100000
set_option maxHeartbeats 1000000
namespace Mine
section
variable {g : Gd} {A : Around} {H : PH} {Q : PV → PH → Prop}
theorem gl_StatisticDiff (I : Is g) : nsIn g.K mainGlobals "StatisticDiff" = some (some (.ref 141)) := by rw [I.K]; k_is
theorem gl_Statistic (I : Is g) : nsIn g.K mainGlobals "Statistic" = some (some (.ref 82)) := by rw [I.K]; k_is
theorem ck_141 (I : Is g) : CallK g (.ref 141) := .inr (.inr (by rw [I.K]; k_is))
theorem ck_82 (I : Is g) : CallK g (.ref 82) := .inr (.inr (by rw [I.K]; k_is))
theorem sl_st_size (I : Is g) : SlotAt g.K CS "size" 1 := ⟨by rw [I.K]; k_is, by rw [I.K]; k_is, 84, by rw [I.K]; k_is, by rw [I.K]; k_is, by rw [I.K]; k_is, by rw [I.K]; k_is⟩
theorem sl_st_count (I : Is g) : SlotAt g.K CS "count" 0 := ⟨by rw [I.K]; k_is, by rw [I.K]; k_is, 83, by rw [I.K]; k_is, by rw [I.K]; k_is, by rw [I.K]; k_is, by rw [I.K]; k_is⟩
theorem sl_sd_tb (I : Is g) : SlotAt g.K CD "traceback" 4 := ⟨by rw [I.K]; k_is, by rw [I.K]; k_is, 146, by rw [I.K]; k_is, by rw [I.K]; k_is, by rw [I.K]; k_is, by rw [I.K]; k_is⟩
theorem sl_sd_sized (I : Is g) : SlotAt g.K CD "size_diff" 3 := ⟨by rw [I.K]; k_is, by rw [I.K]; k_is, 145, by rw [I.K]; k_is, by rw [I.K]; k_is, by rw [I.K]; k_is, by rw [I.K]; k_is⟩
theorem sl_sd_countd (I : Is g) : SlotAt g.K CD "count_diff" 1 := ⟨by rw [I.K]; k_is, by rw [I.K]; k_is, 143, by rw [I.K]; k_is, by rw [I.K]; k_is, by rw [I.K]; k_is, by rw [I.K]; k_is⟩

inductive CmpM1 (g : Gd) (H : PH) (a D : Addr) (o n : Tab Int) (l : PL) (H' : PH) : Prop where
  | mk (ep : Nat) (_ : l (Str.ofString "old_group") = some (.ref a)) (_ : l (Str.ofString "statistics") = some (.ref D)) (_ : H' a = some ((ik g).pack (tabP .int CS (cmpLeft n o)) ep)) (_ : H' D = some (.list ((cmpNew n o).map (difP .int CD)))) (_ : ExtB a H H') : CmpM1 g H a D o n l H'
inductive CmpI1 (g : Gd) (H : PH) (a D : Addr) (o n : Tab Int) (r : List PV) (l : PL) (H' : PH) : Prop where
  | mk (er eo : Tab Int) (ep : Nat) (acc : List (Dif Int)) (_ : r = er.map (fun e => PV.tuple [.int e.1, st3 (.int e.1) (.int e.2.1) (.int e.2.2)])) (_ : l (Str.ofString "old_group") = some (.ref a)) (_ : l (Str.ofString "statistics") = some (.ref D)) (_ : H' a = some ((ik g).pack (tabP .int CS eo) ep)) (_ : H' D = some (.list (acc.map (difP .int CD)))) (_ : ExtB a H H') (_ : acc ++ cmpNew er eo = cmpNew n o) (_ : cmpLeft er eo = cmpLeft n o) (_ : eo.length ≤ 1000) (_ : acc.length + er.length = n.length) : CmpI1 g H a D o n r l H'
inductive CmpM2 (H : PH) (a D : Addr) (o n : Tab Int) (l : PL) (H' : PH) : Prop where
  | mk  (_ : l (Str.ofString "statistics") = some (.ref D)) (_ : H' D = some (.list ((cmpAll o n).map (difP .int CD)))) (_ : ExtB a H H') : CmpM2 H a D o n l H'
inductive CmpI2 (g : Gd) (H : PH) (a D : Addr) (o n : Tab Int) (ep : Nat) (r : List PV) (l : PL) (H' : PH) : Prop where
  | mk (er : Tab Int) (acc : List (Dif Int)) (_ : r = er.map (fun e => PV.tuple [.int e.1, st3 (.int e.1) (.int e.2.1) (.int e.2.2)])) (_ : l (Str.ofString "statistics") = some (.ref D)) (_ : H' a = some ((ik g).pack (tabP .int CS (cmpLeft n o)) ep)) (_ : H' D = some (.list (acc.map (difP .int CD)))) (_ : ExtB a H H') (_ : acc ++ cmpOld er = cmpAll o n) (_ : acc.length + er.length ≤ 2000) : CmpI2 g H a D o n ep r l H'
theorem cmp_ct (I : Is g) (R : Room A 6) {a b : Addr} {o n : Tab Int} {ep ep' : Nat} (ha : H a = some ((ik g).pack (tabP .int CS o) ep)) (hb : H b = some ((ik g).pack (tabP .int CS n) ep')) (hab : a ≠ b) (ho : o.length ≤ 1000) (hn : n.length ≤ 1000)
    (h : ∀ r H', H r = none → ExtB a H H' → H' r = some (.list ((cmpAll o n).map (difP .int CD))) → Q (.ref r) H') : CT g A H (.ref 155) [.ref a, .ref b] Q := by
  refine' CT.def (n := 5) (ns := [Str.ofString "old_group", Str.ofString "new_group"]) I.ok R (ho := ?ho) (hfd := ?hfd) (hb := ?hb) (hcode := ?hc) (hnames := ?hnm) ?h1 ?h2 ?h3 ?h4 ?h5 ?h6 ?h7 ?h8 ?h9 rfl ?_
  case ho => rw [I.K]; k_is
  case hfd => exact rfl
  case hb => exact rfl
  case hc => rw [I.K]; k_is
  case hnm => exact rfl
  case h1 => exact rfl
  case h2 => exact rfl
  case h3 => exact rfl
  case h4 => exact rfl
  case h5 => exact rfl
  case h6 => exact rfl
  case h7 => (intro s vs hv; obtain ⟨x0, x1, rfl⟩ := len2 hv; exact BindsTo.of_eq rfl)
  case h8 => decide
  case h9 => exact rfl
  intro env A' hE hk hF hR
  dsimp only at hk
  with_reducible refine SS.cons (ST.gen fun _ _ => ?_)
  with_reducible refine ST.assign (by assumption) ?_ ?_ ?_
  focus refine Or.inl ?_; (with_reducible refine KO.at (by assumption) ?_); exact rfl
  focus exact rfl
  with_reducible refine ET.list (Is.ok (by assumption)) ?_
  with_reducible refine ETs.nil ?_
  refine ⟨by decide, fun D hD => ?_⟩
  with_reducible refine GK.use (by assumption) ?_
  have hDa : D ≠ a := fun z => by rw [z, ha] at hD; cases hD
  have hDb : D ≠ b := fun z => by rw [z, hb] at hD; cases hD
  refine SS.seq (CmpM1 g H a D o n) ?_ ?_
  · refine ST.forI (fun _ _ => rfl) (CmpI1 g H a D o n)
      (fun H' => H' b = some ((ik g).pack (tabP .int CS n) ep')) (IT.items (ik g) hR.hh rfl rfl ?_) ?_ ?_
    · with_reducible apply ET.var (by assumption)
      focus (with_reducible refine (upd_ne ?_).trans ?_); (focus (first | assumption | exact (by decide))); (with_reducible refine (parms_ne ?_).trans ?_); (focus (exact (by decide))); with_reducible exact parms_at
      focus exact rfl
      refine ⟨b, _, _, rfl, (hup_ne hDb.symm).trans hb, rfl, n, o, ep, [], ?_, ?_, ?_, (hup_ne hDa.symm).trans ha, hup_at _ _ _, ((Ext.refl H).hup hD).but a, rfl, rfl, ho, by simp⟩
      · simp [tabP, ik, Function.comp_def]
      · with_reducible refine (upd_ne ?_).trans ?_
        focus (first | assumption | exact (by decide))
        with_reducible exact parms_at
      · with_reducible exact upd_at _ _ _
    · rintro v r l H' ⟨er, eo, ep, acc, hr, l1, l2, H1, H2, X, e1, e2, e3, e4⟩
      cases er with
      | nil => cases hr
      | cons en er =>
      obtain ⟨k, sz, ct⟩ := en
      injection hr with hv hr
      subst hv hr
      with_reducible refine AT.tuple (Room.hh (by assumption)) ?_ ?_ ?_
      focus exact rfl
      focus exact rfl
      with_reducible refine ATs.cons ?_
      with_reducible refine AT.name (by assumption) ?_ ?_
      focus refine Or.inl ?_; (with_reducible refine KO.at (by assumption) ?_); exact rfl
      with_reducible refine ATs.cons ?_
      with_reducible refine AT.name (by assumption) ?_ ?_
      focus refine Or.inl ?_; (with_reducible refine KO.at (by assumption) ?_); exact rfl
      with_reducible refine ATs.nil ?_
      with_reducible refine SS.cons (ST.gen fun _ _ => ?_)
      with_reducible refine ST.assign (by assumption) ?_ ?_ ?_
      focus refine Or.inl ?_; (with_reducible refine KO.at (by assumption) ?_); exact rfl
      focus exact rfl
      refine ET.meth (T := "dict") (id := "dict.pop") I.ok rfl rfl (by decide) rfl PySem.F.plainAttrs_dict PySem.F.slot_dict_pop PySem.F.type_dict_pop ?_
      with_reducible apply ET.var (by assumption)
      focus (with_reducible refine (upd_ne ?_).trans ?_); (focus (first | assumption | exact (by decide))); (with_reducible refine (upd_ne ?_).trans ?_); (focus (first | assumption | exact (by decide))); with_reducible assumption
      focus exact rfl
      refine methD H1 ?_
      with_reducible refine ETs.cons ?_ ?_
      focus (intro _; exact rfl)
      with_reducible apply ET.var (by assumption)
      focus (with_reducible refine (upd_ne ?_).trans ?_); (focus (first | assumption | exact (by decide))); with_reducible exact upd_at _ _ _
      focus exact rfl
      with_reducible refine ETs.cons ?_ ?_
      focus (intro _; exact rfl)
      with_reducible refine ET.pnone ?_
      with_reducible refine ETs.nil ?_
      rw [cmpNew] at e1
      rw [cmpLeft] at e2
      have hg := tabP_get PV.int CS k eo
      rcases hq : dgetT eo k with _ | ⟨ps, pc⟩
      · rw [hq] at hg e1
        refine CT.popMiss (ik g) (k := k) H1 hg ?_
        with_reducible refine GK.use (by assumption) ?_
        with_reducible refine SS.cons (ST.gen fun _ _ => ?_)
        with_reducible refine ST.ite ?_
        with_reducible refine BT.cmp ?_ ?_
        focus exact rfl
        with_reducible apply ET.var (by assumption)
        focus with_reducible exact upd_at _ _ _
        focus exact rfl
        with_reducible refine ET.pnone ?_
        with_reducible refine CmpT.isNone' ?_
        with_reducible refine TrT.bool ?_
        with_reducible refine iteF ?_
        with_reducible refine SS.cons (ST.gen fun _ _ => ?_)
        with_reducible refine ST.assign (by assumption) ?_ ?_ ?_
        focus refine Or.inl ?_; (with_reducible refine KO.at (by assumption) ?_); exact rfl
        focus exact rfl
        with_reducible refine ET.call (Is.ok (by assumption)) ?_ ?_
        focus exact rfl
        with_reducible apply ET.glob (by assumption) (Is.ok (by assumption))
        focus (with_reducible refine KO.at (by assumption) ?_); exact rfl
        focus exact rfl
        focus with_reducible exact gl_StatisticDiff (by assumption)
        with_reducible refine ⟨_, rfl, ?_, ?_⟩
        focus with_reducible exact ck_141 (by assumption)
        with_reducible refine ETs.cons ?_ ?_
        focus (intro _; exact rfl)
        with_reducible apply ET.var (by assumption)
        focus (with_reducible refine (upd_ne ?_).trans ?_); (focus (first | assumption | exact (by decide))); (with_reducible refine (upd_ne ?_).trans ?_); (focus (first | assumption | exact (by decide))); with_reducible exact upd_at _ _ _
        focus exact rfl
        with_reducible refine ETs.cons ?_ ?_
        focus (intro _; exact rfl)
        with_reducible refine ET.attr (Is.ok (by assumption)) ?_ ?_
        focus (intro _; exact rfl)
        with_reducible apply ET.var (by assumption)
        focus (with_reducible refine (upd_ne ?_).trans ?_); (focus (first | assumption | exact (by decide))); with_reducible exact upd_at _ _ _
        focus exact rfl
        with_reducible apply attrK
        focus with_reducible exact sl_st_size (by assumption)
        focus exact rfl
        focus exact rfl
        with_reducible refine ETs.cons ?_ ?_
        focus (intro _; exact rfl)
        with_reducible refine ET.attr (Is.ok (by assumption)) ?_ ?_
        focus (intro _; exact rfl)
        with_reducible apply ET.var (by assumption)
        focus (with_reducible refine (upd_ne ?_).trans ?_); (focus (first | assumption | exact (by decide))); with_reducible exact upd_at _ _ _
        focus exact rfl
        with_reducible apply attrK
        focus with_reducible exact sl_st_size (by assumption)
        focus exact rfl
        focus exact rfl
        with_reducible refine ETs.cons ?_ ?_
        focus (intro _; exact rfl)
        with_reducible refine ET.attr (Is.ok (by assumption)) ?_ ?_
        focus (intro _; exact rfl)
        with_reducible apply ET.var (by assumption)
        focus (with_reducible refine (upd_ne ?_).trans ?_); (focus (first | assumption | exact (by decide))); with_reducible exact upd_at _ _ _
        focus exact rfl
        with_reducible apply attrK
        focus with_reducible exact sl_st_count (by assumption)
        focus exact rfl
        focus exact rfl
        with_reducible refine ETs.cons ?_ ?_
        focus (intro _; exact rfl)
        with_reducible refine ET.attr (Is.ok (by assumption)) ?_ ?_
        focus (intro _; exact rfl)
        with_reducible apply ET.var (by assumption)
        focus (with_reducible refine (upd_ne ?_).trans ?_); (focus (first | assumption | exact (by decide))); with_reducible exact upd_at _ _ _
        focus exact rfl
        with_reducible apply attrK
        focus with_reducible exact sl_st_count (by assumption)
        focus exact rfl
        focus exact rfl
        with_reducible refine ETs.nil ?_
        refine diff_ct I (hR.le (by decide)) fun dx hdx => ?_
        have nDx := ne_of H2 hdx
        with_reducible refine GK.use (by assumption) ?_
        with_reducible refine SS.nil ?_
        with_reducible refine GK.use (by assumption) ?_
        with_reducible refine SS.cons (ST.gen fun _ _ => ?_)
        with_reducible refine ST.expr (by assumption) ?_ ?_
        focus (intro _; exact rfl)
        refine ET.meth (T := "list") (id := "list.append") (Is.ok (by assumption)) ?_ ?_ ?_ ?_ PySem.F.plainAttrs_list PySem.F.slot_list_append PySem.F.type_list_append ?_
        focus exact rfl
        focus exact rfl
        focus exact (by decide)
        focus exact rfl
        (with_reducible apply ET.var (by assumption)); (focus (with_reducible refine (upd_ne ?_).trans ?_); (focus (first | assumption | exact (by decide))); (with_reducible refine (upd_ne ?_).trans ?_); (focus (first | assumption | exact (by decide))); (with_reducible refine (upd_ne ?_).trans ?_); (focus (first | assumption | exact (by decide))); (with_reducible refine (upd_ne ?_).trans ?_); (focus (first | assumption | exact (by decide))); with_reducible assumption); (focus exact rfl)
        apply methL
        focus (with_reducible refine (hup_ne ?_).trans ?_); (focus with_reducible assumption); with_reducible assumption
        (with_reducible refine ETs.cons ?_ ?_); (focus (intro _; exact rfl)); (with_reducible apply ET.var (by assumption)); (focus with_reducible exact upd_at _ _ _); (focus exact rfl); with_reducible refine ETs.nil ?_
        apply CT.append
        focus (with_reducible refine (hup_ne ?_).trans ?_); (focus with_reducible assumption); with_reducible assumption
        · simp at e4 ⊢; unfold sizeLine; omega
        skip
        refine ⟨rfl, ?_⟩
        with_reducible refine GK.use (by assumption) ?_
        with_reducible refine SS.nil ?_
        have X2 := (X.hupF (o := .idle) hdx).hupN (o := .list (acc.map (difP .int CD) ++ [difP .int CD (dif1 k sz ct none)])) hD
        refine ⟨X2 _ _ hab.symm hb, er, ddelT eo k, ep, acc ++ [dif1 k sz ct none], rfl, by (((with_reducible refine (upd_ne ?_).trans ?_); (focus (first | assumption | exact (by decide))); (with_reducible refine (upd_ne ?_).trans ?_); (focus (first | assumption | exact (by decide))); (with_reducible refine (upd_ne ?_).trans ?_); (focus (first | assumption | exact (by decide))); (with_reducible refine (upd_ne ?_).trans ?_); (focus (first | assumption | exact (by decide))); with_reducible assumption)), by (((with_reducible refine (upd_ne ?_).trans ?_); (focus (first | assumption | exact (by decide))); (with_reducible refine (upd_ne ?_).trans ?_); (focus (first | assumption | exact (by decide))); (with_reducible refine (upd_ne ?_).trans ?_); (focus (first | assumption | exact (by decide))); (with_reducible refine (upd_ne ?_).trans ?_); (focus (first | assumption | exact (by decide))); with_reducible assumption)), ?_, ?_, X2, ?_, e2, Nat.le_trans (ddelT_len _ _) e3, ?_⟩
        · rw [ddelT_none hq]; exact (hup_ne hDa.symm).trans ((hup_ne (ne_of H1 hdx)).trans H1)
        · rw [List.map_append]; exact hup_at _ _ _
        · rw [List.append_assoc]; exact e1
        · simp at e4 ⊢; omega
      · rw [hq] at hg e1
        refine CT.popThere (ik g) (k := k) H1 (by rw [tabP_len]; unfold sizeLine; omega) hg fun ep2 => ?_
        have H2' : ∀ po, (hup H' a po) D = some (.list (acc.map (difP .int CD))) := fun po => (hup_ne hDa).trans H2
        with_reducible refine GK.use (by assumption) ?_
        with_reducible refine SS.cons (ST.gen fun _ _ => ?_)
        with_reducible refine ST.ite ?_
        with_reducible refine BT.cmp ?_ ?_
        focus exact rfl
        with_reducible apply ET.var (by assumption)
        focus with_reducible exact upd_at _ _ _
        focus exact rfl
        with_reducible refine ET.pnone ?_
        with_reducible refine CmpT.isNone ?_ ?_ ?_
        focus nofun
        focus nofun
        with_reducible refine TrT.bool ?_
        with_reducible refine iteT ?_
        with_reducible refine SS.cons (ST.gen fun _ _ => ?_)
        with_reducible refine ST.assign (by assumption) ?_ ?_ ?_
        focus refine Or.inl ?_; (with_reducible refine KO.at (by assumption) ?_); exact rfl
        focus exact rfl
        with_reducible refine ET.call (Is.ok (by assumption)) ?_ ?_
        focus exact rfl
        with_reducible apply ET.glob (by assumption) (Is.ok (by assumption))
        focus (with_reducible refine KO.at (by assumption) ?_); exact rfl
        focus exact rfl
        focus with_reducible exact gl_StatisticDiff (by assumption)
        with_reducible refine ⟨_, rfl, ?_, ?_⟩
        focus with_reducible exact ck_141 (by assumption)
        with_reducible refine ETs.cons ?_ ?_
        focus (intro _; exact rfl)
        with_reducible apply ET.var (by assumption)
        focus (with_reducible refine (upd_ne ?_).trans ?_); (focus (first | assumption | exact (by decide))); (with_reducible refine (upd_ne ?_).trans ?_); (focus (first | assumption | exact (by decide))); with_reducible exact upd_at _ _ _
        focus exact rfl
        with_reducible refine ETs.cons ?_ ?_
        focus (intro _; exact rfl)
        with_reducible refine ET.attr (Is.ok (by assumption)) ?_ ?_
        focus (intro _; exact rfl)
        with_reducible apply ET.var (by assumption)
        focus (with_reducible refine (upd_ne ?_).trans ?_); (focus (first | assumption | exact (by decide))); with_reducible exact upd_at _ _ _
        focus exact rfl
        with_reducible apply attrK
        focus with_reducible exact sl_st_size (by assumption)
        focus exact rfl
        focus exact rfl
        with_reducible refine ETs.cons ?_ ?_
        focus (intro _; exact rfl)
        with_reducible refine ET.binop ?_
        with_reducible refine ET.attr (Is.ok (by assumption)) ?_ ?_
        focus (intro _; exact rfl)
        with_reducible apply ET.var (by assumption)
        focus (with_reducible refine (upd_ne ?_).trans ?_); (focus (first | assumption | exact (by decide))); with_reducible exact upd_at _ _ _
        focus exact rfl
        with_reducible apply attrK
        focus with_reducible exact sl_st_size (by assumption)
        focus exact rfl
        focus exact rfl
        with_reducible refine ET.attr (Is.ok (by assumption)) ?_ ?_
        focus (intro _; exact rfl)
        with_reducible apply ET.var (by assumption)
        focus with_reducible exact upd_at _ _ _
        focus exact rfl
        with_reducible apply attrK
        focus with_reducible exact sl_st_size (by assumption)
        focus exact rfl
        focus exact rfl
        with_reducible refine BinT.sub ?_
        with_reducible refine ETs.cons ?_ ?_
        focus (intro _; exact rfl)
        with_reducible refine ET.attr (Is.ok (by assumption)) ?_ ?_
        focus (intro _; exact rfl)
        with_reducible apply ET.var (by assumption)
        focus (with_reducible refine (upd_ne ?_).trans ?_); (focus (first | assumption | exact (by decide))); with_reducible exact upd_at _ _ _
        focus exact rfl
        with_reducible apply attrK
        focus with_reducible exact sl_st_count (by assumption)
        focus exact rfl
        focus exact rfl
        with_reducible refine ETs.cons ?_ ?_
        focus (intro _; exact rfl)
        with_reducible refine ET.binop ?_
        with_reducible refine ET.attr (Is.ok (by assumption)) ?_ ?_
        focus (intro _; exact rfl)
        with_reducible apply ET.var (by assumption)
        focus (with_reducible refine (upd_ne ?_).trans ?_); (focus (first | assumption | exact (by decide))); with_reducible exact upd_at _ _ _
        focus exact rfl
        with_reducible apply attrK
        focus with_reducible exact sl_st_count (by assumption)
        focus exact rfl
        focus exact rfl
        with_reducible refine ET.attr (Is.ok (by assumption)) ?_ ?_
        focus (intro _; exact rfl)
        with_reducible apply ET.var (by assumption)
        focus with_reducible exact upd_at _ _ _
        focus exact rfl
        with_reducible apply attrK
        focus with_reducible exact sl_st_count (by assumption)
        focus exact rfl
        focus exact rfl
        with_reducible refine BinT.sub ?_
        with_reducible refine ETs.nil ?_
        refine diff_ct I (hR.le (by decide)) fun dx hdx => ?_
        have nDx := ne_of (H2' _) hdx
        with_reducible refine GK.use (by assumption) ?_
        with_reducible refine SS.nil ?_
        with_reducible refine GK.use (by assumption) ?_
        with_reducible refine SS.cons (ST.gen fun _ _ => ?_)
        with_reducible refine ST.expr (by assumption) ?_ ?_
        focus (intro _; exact rfl)
        refine ET.meth (T := "list") (id := "list.append") (Is.ok (by assumption)) ?_ ?_ ?_ ?_ PySem.F.plainAttrs_list PySem.F.slot_list_append PySem.F.type_list_append ?_
        focus exact rfl
        focus exact rfl
        focus exact (by decide)
        focus exact rfl
        (with_reducible apply ET.var (by assumption)); (focus (with_reducible refine (upd_ne ?_).trans ?_); (focus (first | assumption | exact (by decide))); (with_reducible refine (upd_ne ?_).trans ?_); (focus (first | assumption | exact (by decide))); (with_reducible refine (upd_ne ?_).trans ?_); (focus (first | assumption | exact (by decide))); (with_reducible refine (upd_ne ?_).trans ?_); (focus (first | assumption | exact (by decide))); with_reducible assumption); (focus exact rfl)
        apply methL
        focus (with_reducible refine (hup_ne ?_).trans ?_); (focus with_reducible assumption); (with_reducible refine (hup_ne ?_).trans ?_); (focus with_reducible assumption); with_reducible assumption
        (with_reducible refine ETs.cons ?_ ?_); (focus (intro _; exact rfl)); (with_reducible apply ET.var (by assumption)); (focus with_reducible exact upd_at _ _ _); (focus exact rfl); with_reducible refine ETs.nil ?_
        apply CT.append
        focus (with_reducible refine (hup_ne ?_).trans ?_); (focus with_reducible assumption); (with_reducible refine (hup_ne ?_).trans ?_); (focus with_reducible assumption); with_reducible assumption
        · simp at e4 ⊢; unfold sizeLine; omega
        skip
        refine ⟨rfl, ?_⟩
        with_reducible refine GK.use (by assumption) ?_
        with_reducible refine SS.nil ?_
        have X2 := ((X.hupA (o := (ik g).pack (ddel (tabP .int CS eo) k) ep2)).hupF (o := .idle) hdx).hupN (o := .list (acc.map (difP .int CD) ++ [difP .int CD (dif1 k sz ct (some (ps, pc)))])) hD
        refine ⟨X2 _ _ hab.symm hb, er, ddelT eo k, ep2, acc ++ [dif1 k sz ct (some (ps, pc))], rfl, by (((with_reducible refine (upd_ne ?_).trans ?_); (focus (first | assumption | exact (by decide))); (with_reducible refine (upd_ne ?_).trans ?_); (focus (first | assumption | exact (by decide))); (with_reducible refine (upd_ne ?_).trans ?_); (focus (first | assumption | exact (by decide))); (with_reducible refine (upd_ne ?_).trans ?_); (focus (first | assumption | exact (by decide))); with_reducible assumption)), by (((with_reducible refine (upd_ne ?_).trans ?_); (focus (first | assumption | exact (by decide))); (with_reducible refine (upd_ne ?_).trans ?_); (focus (first | assumption | exact (by decide))); (with_reducible refine (upd_ne ?_).trans ?_); (focus (first | assumption | exact (by decide))); (with_reducible refine (upd_ne ?_).trans ?_); (focus (first | assumption | exact (by decide))); with_reducible assumption)), ?_, ?_, X2, ?_, e2, Nat.le_trans (ddelT_len _ _) e3, ?_⟩
        · rw [← tabP_del]; exact (hup_ne hDa.symm).trans ((hup_ne (ne_of (hup_at _ _ _) hdx)).trans (hup_at _ _ _))
        · rw [List.map_append]; exact hup_at _ _ _
        · rw [List.append_assoc]; exact e1
        · simp at e4 ⊢; omega
    · rintro l H' ⟨er, eo, ep, acc, hr, l1, l2, H1, H2, X, e1, e2, e3, e4⟩
      obtain rfl : er = [] := by cases er with | nil => rfl | cons _ _ => cases hr
      rw [cmpNew, List.append_nil] at e1
      rw [cmpLeft] at e2
      subst e1 e2
      exact ⟨ep, l1, l2, H1, H2, X⟩
  · rintro l H' ⟨ep, l1, l2, H1, H2, X⟩
    have hlen := cmpLeft_len n o
    have hl2 := cmpNew_len n o
    refine SS.seq (CmpM2 H a D o n) ?_ ?_
    · refine ST.forI (fun _ _ => rfl) (CmpI2 g H a D o n ep)
        (fun H' => H' a = some ((ik g).pack (tabP .int CS (cmpLeft n o)) ep)) (IT.items (ik g) hR.hh rfl rfl ?_) ?_ ?_
      · with_reducible apply ET.var (by assumption)
        focus with_reducible assumption
        focus exact rfl
        refine ⟨a, _, _, rfl, H1, rfl, cmpLeft n o, cmpNew n o, ?_, l2, H1, H2, X, rfl, by omega⟩
        simp [tabP, ik, Function.comp_def]
      · rintro v r l H' ⟨er, acc, hr, l1, H1, H2, X, e1, e4⟩
        cases er with
        | nil => cases hr
        | cons en er =>
        obtain ⟨k, sz, ct⟩ := en
        injection hr with hv hr
        subst hv hr
        with_reducible refine AT.tuple (Room.hh (by assumption)) ?_ ?_ ?_
        focus exact rfl
        focus exact rfl
        with_reducible refine ATs.cons ?_
        with_reducible refine AT.name (by assumption) ?_ ?_
        focus refine Or.inl ?_; (with_reducible refine KO.at (by assumption) ?_); exact rfl
        with_reducible refine ATs.cons ?_
        with_reducible refine AT.name (by assumption) ?_ ?_
        focus refine Or.inl ?_; (with_reducible refine KO.at (by assumption) ?_); exact rfl
        with_reducible refine ATs.nil ?_
        with_reducible refine SS.cons (ST.gen fun _ _ => ?_)
        with_reducible refine ST.assign (by assumption) ?_ ?_ ?_
        focus refine Or.inl ?_; (with_reducible refine KO.at (by assumption) ?_); exact rfl
        focus exact rfl
        with_reducible refine ET.call (Is.ok (by assumption)) ?_ ?_
        focus exact rfl
        with_reducible apply ET.glob (by assumption) (Is.ok (by assumption))
        focus (with_reducible refine KO.at (by assumption) ?_); exact rfl
        focus exact rfl
        focus with_reducible exact gl_StatisticDiff (by assumption)
        with_reducible refine ⟨_, rfl, ?_, ?_⟩
        focus with_reducible exact ck_141 (by assumption)
        with_reducible refine ETs.cons ?_ ?_
        focus (intro _; exact rfl)
        with_reducible apply ET.var (by assumption)
        focus (with_reducible refine (upd_ne ?_).trans ?_); (focus (first | assumption | exact (by decide))); with_reducible exact upd_at _ _ _
        focus exact rfl
        with_reducible refine ETs.cons ?_ ?_
        focus (intro _; exact rfl)
        with_reducible refine ET.int ?_
        with_reducible refine ETs.cons ?_ ?_
        focus (intro _; exact rfl)
        with_reducible refine ET.unop ?_
        with_reducible refine ET.attr (Is.ok (by assumption)) ?_ ?_
        focus (intro _; exact rfl)
        with_reducible apply ET.var (by assumption)
        focus with_reducible exact upd_at _ _ _
        focus exact rfl
        with_reducible apply attrK
        focus with_reducible exact sl_st_size (by assumption)
        focus exact rfl
        focus exact rfl
        with_reducible refine UnT.neg ?_
        with_reducible refine ETs.cons ?_ ?_
        focus (intro _; exact rfl)
        with_reducible refine ET.int ?_
        with_reducible refine ETs.cons ?_ ?_
        focus (intro _; exact rfl)
        with_reducible refine ET.unop ?_
        with_reducible refine ET.attr (Is.ok (by assumption)) ?_ ?_
        focus (intro _; exact rfl)
        with_reducible apply ET.var (by assumption)
        focus with_reducible exact upd_at _ _ _
        focus exact rfl
        with_reducible apply attrK
        focus with_reducible exact sl_st_count (by assumption)
        focus exact rfl
        focus exact rfl
        with_reducible refine UnT.neg ?_
        with_reducible refine ETs.nil ?_
        refine diff_ct I (hR.le (by decide)) fun dx hdx => ?_
        have nDx := ne_of H2 hdx
        with_reducible refine GK.use (by assumption) ?_
        with_reducible refine SS.cons (ST.gen fun _ _ => ?_)
        with_reducible refine ST.expr (by assumption) ?_ ?_
        focus (intro _; exact rfl)
        refine ET.meth (T := "list") (id := "list.append") (Is.ok (by assumption)) ?_ ?_ ?_ ?_ PySem.F.plainAttrs_list PySem.F.slot_list_append PySem.F.type_list_append ?_
        focus exact rfl
        focus exact rfl
        focus exact (by decide)
        focus exact rfl
        (with_reducible apply ET.var (by assumption)); (focus (with_reducible refine (upd_ne ?_).trans ?_); (focus (first | assumption | exact (by decide))); (with_reducible refine (upd_ne ?_).trans ?_); (focus (first | assumption | exact (by decide))); (with_reducible refine (upd_ne ?_).trans ?_); (focus (first | assumption | exact (by decide))); with_reducible assumption); (focus exact rfl)
        apply methL
        focus (with_reducible refine (hup_ne ?_).trans ?_); (focus with_reducible assumption); with_reducible assumption
        (with_reducible refine ETs.cons ?_ ?_); (focus (intro _; exact rfl)); (with_reducible apply ET.var (by assumption)); (focus with_reducible exact upd_at _ _ _); (focus exact rfl); with_reducible refine ETs.nil ?_
        apply CT.append
        focus (with_reducible refine (hup_ne ?_).trans ?_); (focus with_reducible assumption); with_reducible assumption
        · simp at e4 ⊢; unfold sizeLine; omega
        skip
        refine ⟨rfl, ?_⟩
        with_reducible refine GK.use (by assumption) ?_
        with_reducible refine SS.nil ?_
        have H1' := (hup_ne (o := PO.list (acc.map (difP .int CD) ++ [difP .int CD (k, 0, -sz, 0, -ct)])) hDa.symm).trans ((hup_ne (o := .idle) (ne_of H1 hdx)).trans H1)
        refine ⟨H1', er, acc ++ [(k, 0, -sz, 0, -ct)], rfl, by (((with_reducible refine (upd_ne ?_).trans ?_); (focus (first | assumption | exact (by decide))); (with_reducible refine (upd_ne ?_).trans ?_); (focus (first | assumption | exact (by decide))); (with_reducible refine (upd_ne ?_).trans ?_); (focus (first | assumption | exact (by decide))); with_reducible assumption)), H1', ?_, (X.hupF hdx).hupN hD, ?_, ?_⟩
        · rw [List.map_append]; exact hup_at _ _ _
        · rw [List.append_assoc]; exact e1
        · simp at e4 ⊢; omega
      · rintro l H' ⟨er, acc, hr, l1, H1, H2, X, e1, e4⟩
        obtain rfl : er = [] := by cases er with | nil => rfl | cons _ _ => cases hr
        rw [cmpOld, List.append_nil] at e1
        subst e1
        exact ⟨l1, H2, X⟩
    · rintro l H' ⟨l1, H2, X⟩
      with_reducible refine SS.cons (ST.gen fun _ _ => ?_)
      with_reducible refine ST.ret ?_
      with_reducible apply ET.var (by assumption)
      focus with_reducible assumption
      focus exact rfl
      with_reducible refine GK.use (by assumption) ?_
      exact h D H' hD X H2
end
end Mine
end
section
open PySem PySem.W PyProof.Rows PySem.Calls PySem.Spec
set_option maxRecDepth 100000
set_option maxHeartbeats 1000000
namespace Mine
section
variable {g : Gd} {A : Around} {H : PH} {Q : PV → PH → Prop}
theorem gl_cmp (I : Is g) : nsIn g.K mainGlobals "_compare_grouped_stats" = some (some (.ref 155)) := by rw [I.K]; k_is
theorem ck_155 (I : Is g) : CallK g (.ref 155) := .inr (.inr (by rw [I.K]; k_is))
theorem gb_dict (I : Is g) : GB g "dict" (.type "dict") := ⟨by rw [I.K]; k_is, by decide, rfl⟩
theorem ck_tdict : CallK g (.type "dict") := .inr (.inl ⟨_, rfl⟩)

inductive TakenI (H1 : PH) (o n : Tab Int) (r : List PV) (acc : List (Int × PV)) (H' : PH) : Prop where
  | mk (dr : List (Dif Int)) (t : Tab Int) (_ : r = dr.map (difP .int CD)) (_ : acc = tabP .int CS t) (_ : takenGo dr t = takenT o n) (_ : Ext H1 H') (_ : t.length + dr.length ≤ 2000) : TakenI H1 o n r acc H'
theorem taken_ct (I : Is g) (R : Room A 8) {a b : Addr} {o n : Tab Int} {ep ep' : Nat} (ha : H a = some ((ik g).pack (tabP .int CS o) ep)) (hb : H b = some ((ik g).pack (tabP .int CS n) ep')) (ho : o.length ≤ 1000) (hn : n.length ≤ 1000)
    (h : ∀ r ep'' H', H r = none → Ext H H' → H' r = some ((ik g).pack (tabP .int CS (takenT o n)) ep'') → Q (.ref r) H') : CT g A H (.ref 174) [.ref a, .ref b] Q := by
  refine' CT.def (n := 7) (ns := [Str.ofString "old", Str.ofString "new"]) I.ok R (ho := ?ho) (hfd := ?hfd) (hb := ?hb) (hcode := ?hc) (hnames := ?hnm) ?h1 ?h2 ?h3 ?h4 ?h5 ?h6 ?h7 ?h8 ?h9 rfl ?_
  case ho => rw [I.K]; k_is
  case hfd => exact rfl
  case hb => exact rfl
  case hc => rw [I.K]; k_is
  case hnm => exact rfl
  case h1 => exact rfl
  case h2 => exact rfl
  case h3 => exact rfl
  case h4 => exact rfl
  case h5 => exact rfl
  case h6 => exact rfl
  case h7 => (intro s vs hv; obtain ⟨x0, x1, rfl⟩ := len2 hv; exact BindsTo.of_eq rfl)
  case h8 => decide
  case h9 => exact rfl
  intro env A' hE hk hF hR
  dsimp only at hk
  with_reducible refine SS.cons (ST.gen fun _ _ => ?_)
  with_reducible refine ST.assign (by assumption) ?_ ?_ ?_
  focus refine Or.inl ?_; (with_reducible refine KO.at (by assumption) ?_); exact rfl
  focus exact rfl
  with_reducible refine ET.call (Is.ok (by assumption)) ?_ ?_
  focus exact rfl
  with_reducible apply ET.glob (by assumption) (Is.ok (by assumption))
  focus (with_reducible refine KO.at (by assumption) ?_); exact rfl
  focus exact rfl
  focus with_reducible exact gl_cmp (by assumption)
  with_reducible refine ⟨_, rfl, ?_, ?_⟩
  focus with_reducible exact ck_155 (by assumption)
  with_reducible refine ETs.cons ?_ ?_
  focus (intro _; exact rfl)
  with_reducible refine ET.call (Is.ok (by assumption)) ?_ ?_
  focus exact rfl
  with_reducible apply ET.bi (by assumption) (Is.ok (by assumption))
  focus (with_reducible refine KO.at (by assumption) ?_); exact rfl
  focus exact rfl
  focus with_reducible exact gb_dict (by assumption)
  with_reducible refine ⟨_, rfl, ?_, ?_⟩
  focus with_reducible exact ck_tdict
  with_reducible refine ETs.cons ?_ ?_
  focus (intro _; exact rfl)
  with_reducible apply ET.var (by assumption)
  focus with_reducible exact parms_at
  focus exact rfl
  with_reducible refine ETs.nil ?_
  refine CT.dictOf (ik g) I.ok ha (by rw [tabP_len]; unfold sizeLine; omega) fun c ep1 hc => ?_
  have hcb : c ≠ b := fun z => by rw [z, hb] at hc; cases hc
  with_reducible refine ETs.cons ?_ ?_
  focus (intro _; exact rfl)
  with_reducible apply ET.var (by assumption)
  focus (with_reducible refine (parms_ne ?_).trans ?_); (focus (exact (by decide))); with_reducible exact parms_at
  focus exact rfl
  with_reducible refine ETs.nil ?_
  refine cmp_ct I (hR.le (by decide)) (hup_at _ _ _) ((hup_ne hcb.symm).trans hb) hcb ho hn fun D H1 hD X hl => ?_
  have X0 : Ext H H1 := fun x po e => X x po (fun z => by rw [z, hc] at e; cases e) (((Ext.refl H).hup hc) x po e)
  have hD0 : H D = none := by
    by_cases z : D = c
    · rw [z, hup_at] at hD; cases hD
    · rwa [hup_ne z] at hD
  with_reducible refine GK.use (by assumption) ?_
  with_reducible refine SS.cons (ST.gen fun _ _ => ?_)
  with_reducible refine ST.ret ?_
  with_reducible refine ET.dictcomp (ik _) (Is.ok (by assumption)) (CompOk.of (by assumption) ?_ ?_) (by assumption) ?_ ?_
  focus exact rfl
  focus exact (by decide)
  focus (intro _ _; exact rfl)
  refine IT.list hR.hh ?_
  with_reducible apply ET.var (by assumption)
  focus with_reducible exact upd_at _ _ _
  focus exact rfl
  refine ⟨D, _, rfl, hl, ?_⟩
  refine CompD.inv (TakenI H1 o n) ?_ ?_ ⟨cmpAll o n, [], rfl, rfl, rfl, Ext.refl _, ?_⟩
  · rintro v r acc H' ⟨dr, t, hr, rfl, e1, X1, e2⟩ cl L hE'
    cases dr with
    | nil => cases hr
    | cons d dr =>
    obtain ⟨k, s, sd, c', cd⟩ := d
    injection hr with hv hr
    subst hv hr
    with_reducible refine AT.name (by assumption) ?_ ?_
    focus refine Or.inl ?_; exact rfl
    with_reducible refine TestsT.one ?_
    with_reducible refine BT.cmp ?_ ?_
    focus exact rfl
    with_reducible refine ET.tuple ?_
    with_reducible refine ETs.cons ?_ ?_
    focus (intro _; exact rfl)
    with_reducible refine ET.attr (Is.ok (by assumption)) ?_ ?_
    focus (intro _; exact rfl)
    with_reducible apply ET.var (by assumption)
    focus with_reducible exact upd_at _ _ _
    focus exact rfl
    with_reducible apply attrK
    focus with_reducible exact sl_sd_sized (by assumption)
    focus exact rfl
    focus exact rfl
    with_reducible refine ETs.cons ?_ ?_
    focus (intro _; exact rfl)
    with_reducible refine ET.attr (Is.ok (by assumption)) ?_ ?_
    focus (intro _; exact rfl)
    with_reducible apply ET.var (by assumption)
    focus with_reducible exact upd_at _ _ _
    focus exact rfl
    with_reducible apply attrK
    focus with_reducible exact sl_sd_countd (by assumption)
    focus exact rfl
    focus exact rfl
    with_reducible refine ETs.nil ?_
    with_reducible refine szAnd ?_ ?_
    focus exact rfl
    with_reducible refine ET.tuple ?_
    with_reducible refine ETs.cons ?_ ?_
    focus (intro _; exact rfl)
    with_reducible refine ET.int ?_
    with_reducible refine ETs.cons ?_ ?_
    focus (intro _; exact rfl)
    with_reducible refine ET.int ?_
    with_reducible refine ETs.nil ?_
    with_reducible refine szAnd ?_ ?_
    focus exact rfl
    with_reducible refine CmpT.nePair (by assumption) ?_
    with_reducible refine TrT.bool ?_
    have e1' : takenGo dr (if keepD (k, s, sd, c', cd) then dsetT t k (sd, cd) else t) = takenT o n := e1
    have hD1 := X1 _ _ hl
    refine iteC (fun hkeep => ?_) (fun hkeep => ?_)
    · rw [show keepD (k, s, sd, c', cd) = true from hkeep, if_pos rfl] at e1'
      with_reducible refine ET.attr (Is.ok (by assumption)) ?_ ?_
      focus (intro _; exact rfl)
      with_reducible apply ET.var (by assumption)
      focus with_reducible exact upd_at _ _ _
      focus exact rfl
      with_reducible apply attrK
      focus with_reducible exact sl_sd_tb (by assumption)
      focus exact rfl
      focus exact rfl
      with_reducible refine ET.call (Is.ok (by assumption)) ?_ ?_
      focus exact rfl
      with_reducible apply ET.glob (by assumption) (Is.ok (by assumption))
      focus exact rfl
      focus exact rfl
      focus with_reducible exact gl_Statistic (by assumption)
      with_reducible refine ⟨_, rfl, ?_, ?_⟩
      focus with_reducible exact ck_82 (by assumption)
      with_reducible refine ETs.cons ?_ ?_
      focus (intro _; exact rfl)
      with_reducible refine ET.attr (Is.ok (by assumption)) ?_ ?_
      focus (intro _; exact rfl)
      with_reducible apply ET.var (by assumption)
      focus with_reducible exact upd_at _ _ _
      focus exact rfl
      with_reducible apply attrK
      focus with_reducible exact sl_sd_tb (by assumption)
      focus exact rfl
      focus exact rfl
      with_reducible refine ETs.cons ?_ ?_
      focus (intro _; exact rfl)
      with_reducible refine ET.attr (Is.ok (by assumption)) ?_ ?_
      focus (intro _; exact rfl)
      with_reducible apply ET.var (by assumption)
      focus with_reducible exact upd_at _ _ _
      focus exact rfl
      with_reducible apply attrK
      focus with_reducible exact sl_sd_sized (by assumption)
      focus exact rfl
      focus exact rfl
      with_reducible refine ETs.cons ?_ ?_
      focus (intro _; exact rfl)
      with_reducible refine ET.attr (Is.ok (by assumption)) ?_ ?_
      focus (intro _; exact rfl)
      with_reducible apply ET.var (by assumption)
      focus with_reducible exact upd_at _ _ _
      focus exact rfl
      with_reducible apply attrK
      focus with_reducible exact sl_sd_countd (by assumption)
      focus exact rfl
      focus exact rfl
      with_reducible refine ETs.nil ?_
      refine stat_ct I (hR.le (by decide)) fun dx hdx => ?_
      have hlen : t.length + (dr.length + 1) ≤ 2000 := by simpa using e2
      have hs := dsetT_len t k (sd, cd)
      exact ⟨(hup_ne (ne_of hD1 hdx)).trans hD1, k, rfl, by rw [tabP_len]; unfold sizeLine; omega, dr, dsetT t k (sd, cd), rfl, tabP_set _ _ _ _ _ _, e1', X1.hup hdx, by omega⟩
    · rw [show keepD (k, s, sd, c', cd) = false from hkeep, if_neg (by decide)] at e1'
      exact ⟨hD1, dr, t, rfl, rfl, e1', X1, by simp at e2; omega⟩
  · rintro acc H' ⟨dr, t, hr, rfl, e1, X1, e2⟩
    obtain rfl : dr = [] := by cases dr with | nil => rfl | cons _ _ => cases hr
    intro E ep2 hE2
    have e1' : t = takenT o n := e1
    subst e1'
    with_reducible refine GK.use (by assumption) ?_
    refine h E ep2 _ ?_ ((X0.trans X1).hup hE2) (hup_at _ _ _)
    cases q : H E with
    | none => rfl
    | some po => have := X1 _ _ (X0 _ _ q); rw [hE2] at this; cases this
  · have h1 := cmpNew_len n o
    have h2 := cmpLeft_len n o
    have h3 : ∀ t : Tab Int, (cmpOld t).length = t.length := fun t => by induction t with | nil => rfl | cons e r ih => obtain ⟨_, _, _⟩ := e; exact congrArg (· + 1) ih
    simp only [cmpAll, List.length_append, h1, h3, List.length_nil]
    omega
end
end Mine
end
section
open PySem PySem.W PyProof.Rows PySem.Calls PySem.Spec
set_option maxRecDepth 100000
set_option maxHeartbeats 1000000
namespace Mine
section
variable {g : Gd} {A : Around} {H : PH} {Q : PV → PH → Prop}
inductive TimesI (H : PH) (t : Tab Int) (f u : Int) (r : List PV) (acc : List (Int × PV)) (H' : PH) : Prop where
  | mk (t1 t2 : Tab Int) (_ : t = t1 ++ t2) (_ : r = t2.map (fun e => PV.int e.1)) (_ : acc = tabP .int CS (timesT t1 f u)) (_ : Ext H H') : TimesI H t f u r acc H'
theorem times_ct (I : Is g) (R : Room A 8) {a : Addr} {t : Tab Int} {ep : Nat} {f u : Int} (ha : H a = some ((ik g).pack (tabP .int CS t) ep)) (ht : t.length ≤ 1000) (hm : ∀ e ∈ t, IntMulOk f e.2.1 ∧ IntMulOk f e.2.2)
    (h : ∀ r ep' H', H r = none → Ext H H' → H' r = some ((ik g).pack (tabP .int CS (timesT t f u)) ep') → Q (.ref r) H') : CT g A H (.ref 179) [.ref a, .int f, .int u] Q := by
  refine CT.nodup (ik g) ha fun hnd => ?_
  rw [tabP_keys] at hnd
  refine' CT.def (n := 7) (ns := [Str.ofString "table", Str.ofString "factor", Str.ofString "up"]) I.ok R (ho := ?ho) (hfd := ?hfd) (hb := ?hb) (hcode := ?hc) (hnames := ?hnm) ?h1 ?h2 ?h3 ?h4 ?h5 ?h6 ?h7 ?h8 ?h9 rfl ?_
  case ho => rw [I.K]; k_is
  case hfd => exact rfl
  case hb => exact rfl
  case hc => rw [I.K]; k_is
  case hnm => exact rfl
  case h1 => exact rfl
  case h2 => exact rfl
  case h3 => exact rfl
  case h4 => exact rfl
  case h5 => exact rfl
  case h6 => exact rfl
  case h7 => (intro s vs hv; obtain ⟨x0, x1, x2, rfl⟩ := len3 hv; exact BindsTo.of_eq rfl)
  case h8 => decide
  case h9 => exact rfl
  intro env A' hE hk hF hR
  dsimp only at hk
  with_reducible refine SS.cons (ST.gen fun _ _ => ?_)
  with_reducible refine ST.ret ?_
  with_reducible refine ET.dictcomp (ik _) (Is.ok (by assumption)) (CompOk.of (by assumption) ?_ ?_) (by assumption) ?_ ?_
  focus exact rfl
  focus exact (by decide)
  focus (intro _ _; exact rfl)
  refine IT.keys (ik g) hR.hh ?_
  with_reducible apply ET.var (by assumption)
  focus with_reducible exact parms_at
  focus exact rfl
  refine ⟨a, _, _, rfl, ha, ?_⟩
  refine CompD.inv (TimesI H t f u) ?_ ?_ ⟨[], t, rfl, ?_, rfl, Ext.refl _⟩
  · rintro v r acc H' ⟨t1, t2, e0, hr, rfl, X1⟩ cl L hE'
    cases t2 with
    | nil => cases hr
    | cons d t2 =>
    obtain ⟨k, s, c⟩ := d
    injection hr with hv hr
    subst hv hr
    have hmem : (k, s, c) ∈ t := by rw [e0]; simp
    have hg : dget (tabP PV.int CS t) k = some (st3 (.int k) (.int s) (.int c)) := by rw [tabP_get, dgetT_mem hnd hmem]; rfl
    have ha' := X1 _ _ ha
    with_reducible refine AT.name (by assumption) ?_ ?_
    focus refine Or.inl ?_; exact rfl
    with_reducible refine TestsT.no ?_
    with_reducible refine iteT ?_
    with_reducible refine ET.binop ?_
    with_reducible apply ET.var (by assumption)
    focus with_reducible exact upd_at _ _ _
    focus exact rfl
    with_reducible apply ET.var (by assumption)
    focus (with_reducible refine (upd_ne ?_).trans ?_); (focus (first | assumption | exact (by decide))); (with_reducible refine (lcap_free ?_).trans ?_); (focus exact rfl); (with_reducible refine (parms_ne ?_).trans ?_); (focus (exact (by decide))); (with_reducible refine (parms_ne ?_).trans ?_); (focus (exact (by decide))); with_reducible exact parms_at
    focus exact rfl
    with_reducible refine BinT.add ?_
    with_reducible refine ET.call (Is.ok (by assumption)) ?_ ?_
    focus exact rfl
    with_reducible apply ET.glob (by assumption) (Is.ok (by assumption))
    focus exact rfl
    focus exact rfl
    focus with_reducible exact gl_Statistic (by assumption)
    with_reducible refine ⟨_, rfl, ?_, ?_⟩
    focus with_reducible exact ck_82 (by assumption)
    with_reducible refine ETs.cons ?_ ?_
    focus (intro _; exact rfl)
    with_reducible refine ET.binop ?_
    with_reducible apply ET.var (by assumption)
    focus with_reducible exact upd_at _ _ _
    focus exact rfl
    with_reducible apply ET.var (by assumption)
    focus (with_reducible refine (upd_ne ?_).trans ?_); (focus (first | assumption | exact (by decide))); (with_reducible refine (lcap_free ?_).trans ?_); (focus exact rfl); (with_reducible refine (parms_ne ?_).trans ?_); (focus (exact (by decide))); (with_reducible refine (parms_ne ?_).trans ?_); (focus (exact (by decide))); with_reducible exact parms_at
    focus exact rfl
    with_reducible refine BinT.add ?_
    with_reducible refine ETs.cons ?_ ?_
    focus (intro _; exact rfl)
    with_reducible refine ET.binop ?_
    with_reducible apply ET.var (by assumption)
    focus (with_reducible refine (upd_ne ?_).trans ?_); (focus (first | assumption | exact (by decide))); (with_reducible refine (lcap_free ?_).trans ?_); (focus exact rfl); (with_reducible refine (parms_ne ?_).trans ?_); (focus (exact (by decide))); with_reducible exact parms_at
    focus exact rfl
    with_reducible refine ET.attr (Is.ok (by assumption)) ?_ ?_
    focus (intro _; exact rfl)
    with_reducible refine ET.sub ?_ ?_
    focus nofun
    with_reducible apply ET.var (by assumption)
    focus (with_reducible refine (upd_ne ?_).trans ?_); (focus (first | assumption | exact (by decide))); (with_reducible refine (lcap_free ?_).trans ?_); (focus exact rfl); with_reducible exact parms_at
    focus exact rfl
    with_reducible apply ET.var (by assumption)
    focus with_reducible exact upd_at _ _ _
    focus exact rfl
    refine SubT.dict (ik g) (k := k) ha' hg ?_
    with_reducible apply attrK
    focus with_reducible exact sl_st_size (by assumption)
    focus exact rfl
    focus exact rfl
    refine BinT.mul (hm _ hmem).1 ?_
    with_reducible refine ETs.cons ?_ ?_
    focus (intro _; exact rfl)
    with_reducible refine ET.binop ?_
    with_reducible apply ET.var (by assumption)
    focus (with_reducible refine (upd_ne ?_).trans ?_); (focus (first | assumption | exact (by decide))); (with_reducible refine (lcap_free ?_).trans ?_); (focus exact rfl); (with_reducible refine (parms_ne ?_).trans ?_); (focus (exact (by decide))); with_reducible exact parms_at
    focus exact rfl
    with_reducible refine ET.attr (Is.ok (by assumption)) ?_ ?_
    focus (intro _; exact rfl)
    with_reducible refine ET.sub ?_ ?_
    focus nofun
    with_reducible apply ET.var (by assumption)
    focus (with_reducible refine (upd_ne ?_).trans ?_); (focus (first | assumption | exact (by decide))); (with_reducible refine (lcap_free ?_).trans ?_); (focus exact rfl); with_reducible exact parms_at
    focus exact rfl
    with_reducible apply ET.var (by assumption)
    focus with_reducible exact upd_at _ _ _
    focus exact rfl
    refine SubT.dict (ik g) (k := k) ha' hg ?_
    with_reducible apply attrK
    focus with_reducible exact sl_st_count (by assumption)
    focus exact rfl
    focus exact rfl
    refine BinT.mul (hm _ hmem).2 ?_
    with_reducible refine ETs.nil ?_
    refine stat_ct I (hR.le (by decide)) fun dx hdx => ?_
    have hlen : t1.length + (t2.length + 1) ≤ 1000 := by rw [e0] at ht; simpa using ht
    have hnk : k + u ∉ (timesT t1 f u).map (·.1) := by
      intro z
      obtain ⟨e, he, ee⟩ := List.mem_map.mp z
      obtain ⟨e', he', rfl⟩ := List.mem_map.mp he
      have ek : e'.1 = k := by have : e'.1 + u = k + u := ee; omega
      rw [e0, List.map_append, List.map_cons] at hnd
      exact (List.nodup_append.mp hnd).2.2 _ (List.mem_map_of_mem (f := (·.1)) he') _ List.mem_cons_self ek
    refine ⟨(hup_ne (ne_of ha' hdx)).trans ha', k + u, rfl, by rw [tabP_len, timesT, List.length_map]; unfold sizeLine; omega, t1 ++ [(k, s, c)], t2, by rw [e0]; simp, rfl, ?_, X1.hup hdx⟩
    refine (tabP_set _ _ _ _ _ _).trans ?_
    rw [dsetT_new hnk]
    simp [timesT]
  · rintro acc H' ⟨t1, t2, e0, hr, rfl, X1⟩
    obtain rfl : t2 = [] := by cases t2 with | nil => rfl | cons _ _ => cases hr
    rw [List.append_nil] at e0
    subst e0
    intro E ep2 hE2
    with_reducible refine GK.use (by assumption) ?_
    refine h E ep2 _ ?_ (X1.hup hE2) (hup_at _ _ _)
    cases q : H E with
    | none => rfl
    | some po => have := X1 _ _ q; rw [hE2] at this; cases this
  · simp [tabP, ik, Function.comp_def]
end
end Mine
end
section
open PySem PySem.W PyProof.Rows PySem.Calls PySem.Spec
set_option maxRecDepth 100000
set_option maxHeartbeats 1000000
namespace Mine
section
variable {g : Gd} {A : Around} {H : PH} {Q : PV → PH → Prop}
theorem gb_max (I : Is g) : GB g "max" (.builtin "max") := ⟨by rw [I.K]; k_is, by decide, rfl⟩
theorem ck_max : CallK g (.builtin "max") := .inl ⟨_, rfl⟩

inductive HighI (H : PH) (L1 : Addr) (t : Tab Int) (r : List PV) (acc : List PV) (H' : PH) : Prop where
  | mk (t1 t2 : Tab Int) (ns : List Int) (_ : t = t1 ++ t2) (_ : r = t2.map (fun e => PV.int e.1)) (_ : acc = ns.map PV.int) (_ : (∀ k, k ∈ ns ↔ ∃ s c, (k, s, c) ∈ t1 ∧ s ≠ 0)) (_ : ns.length ≤ t1.length) (_ : Ext (hup H L1 (.list [.int (-1)])) H') : HighI H L1 t r acc H'
theorem high_ct (I : Is g) (R : Room A 8) {a : Addr} {t : Tab Int} {ep : Nat} (ha : H a = some ((ik g).pack (tabP .int CS t) ep)) (ht : t.length ≤ 1000)
    (h : ∀ m H', IsHigh t m → Ext H H' → Q (.int m) H') : CT g A H (.ref 198) [.ref a] Q := by
  refine CT.nodup (ik g) ha fun hnd => ?_
  rw [tabP_keys] at hnd
  refine' CT.def (n := 7) (ns := [Str.ofString "table"]) I.ok R (ho := ?ho) (hfd := ?hfd) (hb := ?hb) (hcode := ?hc) (hnames := ?hnm) ?h1 ?h2 ?h3 ?h4 ?h5 ?h6 ?h7 ?h8 ?h9 rfl ?_
  case ho => rw [I.K]; k_is
  case hfd => exact rfl
  case hb => exact rfl
  case hc => rw [I.K]; k_is
  case hnm => exact rfl
  case h1 => exact rfl
  case h2 => exact rfl
  case h3 => exact rfl
  case h4 => exact rfl
  case h5 => exact rfl
  case h6 => exact rfl
  case h7 => (intro s vs hv; obtain ⟨x0, rfl⟩ := len1 hv; exact BindsTo.of_eq rfl)
  case h8 => decide
  case h9 => exact rfl
  intro env A' hE hk hF hR
  dsimp only at hk
  with_reducible refine SS.cons (ST.gen fun _ _ => ?_)
  with_reducible refine ST.ret ?_
  with_reducible refine ET.call (Is.ok (by assumption)) ?_ ?_
  focus exact rfl
  with_reducible apply ET.bi (by assumption) (Is.ok (by assumption))
  focus (with_reducible refine KO.at (by assumption) ?_); exact rfl
  focus exact rfl
  focus with_reducible exact gb_max (by assumption)
  with_reducible refine ⟨_, rfl, ?_, ?_⟩
  focus with_reducible exact ck_max
  with_reducible refine ETs.cons ?_ ?_
  focus (intro _; exact rfl)
  with_reducible refine ET.binop ?_
  with_reducible refine ET.list (Is.ok (by assumption)) ?_
  with_reducible refine ETs.cons ?_ ?_
  focus (intro _; exact rfl)
  with_reducible refine ET.unop ?_
  with_reducible refine ET.int ?_
  with_reducible refine UnT.neg ?_
  with_reducible refine ETs.nil ?_
  with_reducible refine szAnd ?_ ?_
  focus exact rfl
  intro L1 hL1
  have ha1 := (hup_ne (o := .list [.int (-1)]) (ne_of ha hL1)).trans ha
  have X0 : Ext H (hup H L1 (.list [.int (-1)])) := (Ext.refl H).hup hL1
  with_reducible refine ET.listcomp (Is.ok (by assumption)) (CompOk.of (by assumption) ?_ ?_) (by assumption) ?_ ?_
  focus exact rfl
  focus exact (by decide)
  focus (intro _ _; exact rfl)
  refine IT.keys (ik g) hR.hh ?_
  with_reducible apply ET.var (by assumption)
  focus with_reducible exact parms_at
  focus exact rfl
  refine ⟨a, _, _, rfl, ha1, ?_⟩
  refine CompL.inv (HighI H L1 t) ?_ ?_ ⟨[], t, [], rfl, ?_, rfl, by simp, by simp, Ext.refl _⟩
  · rintro v r acc H' ⟨t1, t2, ns, e0, hr, rfl, hns, hl, X1⟩ cl L hE'
    cases t2 with
    | nil => cases hr
    | cons d t2 =>
    obtain ⟨k, s, c⟩ := d
    injection hr with hv hr
    subst hv hr
    have hmem : (k, s, c) ∈ t := by rw [e0]; simp
    have hg : dget (tabP PV.int CS t) k = some (st3 (.int k) (.int s) (.int c)) := by rw [tabP_get, dgetT_mem hnd hmem]; rfl
    have ha' := X1 _ _ ha1
    have hlen : t1.length + (t2.length + 1) ≤ 1000 := by rw [e0] at ht; simpa using ht
    with_reducible refine AT.name (by assumption) ?_ ?_
    focus refine Or.inl ?_; exact rfl
    with_reducible refine TestsT.one ?_
    with_reducible refine BT.cmp ?_ ?_
    focus exact rfl
    with_reducible refine ET.attr (Is.ok (by assumption)) ?_ ?_
    focus (intro _; exact rfl)
    with_reducible refine ET.sub ?_ ?_
    focus nofun
    with_reducible apply ET.var (by assumption)
    focus (with_reducible refine (upd_ne ?_).trans ?_); (focus (first | assumption | exact (by decide))); (with_reducible refine (lcap_free ?_).trans ?_); (focus exact rfl); with_reducible exact parms_at
    focus exact rfl
    with_reducible apply ET.var (by assumption)
    focus with_reducible exact upd_at _ _ _
    focus exact rfl
    refine SubT.dict (ik g) (k := k) ha' hg ?_
    with_reducible apply attrK
    focus with_reducible exact sl_st_size (by assumption)
    focus exact rfl
    focus exact rfl
    with_reducible refine ET.int ?_
    with_reducible refine CmpT.neI ?_
    with_reducible refine TrT.bool ?_
    refine iteC (fun hs => ?_) (fun hs => ?_)
    · with_reducible apply ET.var (by assumption)
      focus with_reducible exact upd_at _ _ _
      focus exact rfl
      refine ⟨ha', by rw [List.length_map]; unfold sizeLine; omega, t1 ++ [(k, s, c)], t2, ns ++ [k], by rw [e0]; simp, rfl, by simp, fun x => ?_, by simp; omega, X1⟩
      have hs' : s ≠ 0 := by simpa using hs
      constructor
      · intro hx
        rcases List.mem_append.mp hx with z | z
        · obtain ⟨s', c', h1, h2⟩ := (hns x).mp z
          exact ⟨s', c', List.mem_append_left _ h1, h2⟩
        · obtain rfl := List.mem_singleton.mp z
          exact ⟨s, c, by simp, hs'⟩
      · rintro ⟨s', c', h1, h2⟩
        rcases List.mem_append.mp h1 with z | z
        · exact List.mem_append_left _ ((hns x).mpr ⟨s', c', z, h2⟩)
        · have := List.mem_singleton.mp z
          injection this with e1 e2
          subst e1; simp
    · have hs' : s = 0 := by simpa using hs
      refine ⟨ha', t1 ++ [(k, s, c)], t2, ns, by rw [e0]; simp, rfl, rfl, fun x => ?_, by simp; omega, X1⟩
      rw [hns]
      constructor
      · rintro ⟨s', c', h1, h2⟩
        exact ⟨s', c', List.mem_append_left _ h1, h2⟩
      · rintro ⟨s', c', h1, h2⟩
        rcases List.mem_append.mp h1 with z | z
        · exact ⟨s', c', z, h2⟩
        · have := List.mem_singleton.mp z
          injection this with e1 e2
          injection e2 with e2 e3
          exact absurd (e2.trans hs') h2
  · rintro acc H' ⟨t1, t2, ns, e0, hr, rfl, hns, hl, X1⟩
    obtain rfl : t2 = [] := by cases t2 with | nil => rfl | cons _ _ => cases hr
    rw [List.append_nil] at e0
    subst e0
    refine ⟨by rw [List.length_map]; unfold sizeLine; omega, fun D hD => ?_⟩
    have hL1' := X1 _ _ (hup_at H L1 (.list [.int (-1)]))
    refine BinT.addL I.ok ((hup_ne (ne_of hL1' hD)).trans hL1') (hup_at _ _ _) (by simp; unfold sizeLine; omega) fun M hM => ?_
    with_reducible refine ETs.nil ?_
    refine CT.maxI (ns := -1 :: ns) hR (hup_at _ _ _) (by simp) fun m hm hmax => ?_
    with_reducible refine GK.use (by assumption) ?_
    refine h m _ ⟨?_, hmax _ (by simp), fun e he hs => hmax _ ?_⟩ (((X0.trans X1).hup hD).hup hM)
    · rcases List.mem_cons.mp hm with z | z
      · exact .inl z
      · exact .inr ((hns m).mp z)
    · exact List.mem_cons_of_mem _ ((hns e.1).mpr ⟨e.2.1, e.2.2, he, hs⟩)
  · simp [tabP, ik, Function.comp_def]
end
end Mine
end
section
open PySem PySem.W PyProof.Rows PySem.Calls PySem.Spec
set_option maxRecDepth 100000
set_option maxHeartbeats 1000000
namespace Mine
section
variable {g : Gd} {A : Around} {H : PH} {Q : PV → PH → Prop}
inductive SlopeM (g : Gd) (H' : PH) (S : Addr) (t : Tab Int) (l : PL) (H1 : PH) : Prop where
  | mk (ep : Nat) (_ : l (Str.ofString "slope") = some (.ref S)) (_ : H1 S = some ((ik g).pack (tabP .int CS (slopeT t)) ep)) (_ : Ext H' H1) : SlopeM g H' S t l H1
inductive SlopeI (g : Gd) (H' : PH) (a S : Addr) (t : Tab Int) (r : List PV) (l : PL) (H1 : PH) : Prop where
  | mk (t1 t2 : Tab Int) (ep : Nat) (_ : t = t1 ++ t2) (_ : r = t2.map (fun e => PV.int e.1)) (_ : l (Str.ofString "table") = some (.ref a)) (_ : l (Str.ofString "slope") = some (.ref S)) (_ : Ext H' H1) (_ : H1 S = some ((ik g).pack (tabP .int CS ((0, ((dgetT t 1).getD (0, 0)).1, 1) :: (t1.filter fun e => decide (1 < e.1)).map fun e => (e.1 - 1, e.1 * e.2.1, 0))) ep)) : SlopeI g H' a S t r l H1
theorem slope_ct (I : Is g) (R : Room A 8) {a : Addr} {t : Tab Int} {ep : Nat} (ha : H a = some ((ik g).pack (tabP .int CS t) ep)) (ht : t.length ≤ 1000) (hk : ∀ e ∈ t, IntMulOk e.1 e.2.1)
    (h : ∀ r ep' H', H r = none → Ext H H' → H' r = some ((ik g).pack (tabP .int CS (slopeT t)) ep') → Q (.ref r) H') : CT g A H (.ref 193) [.ref a] Q := by
  refine CT.nodup (ik g) ha fun hnd => ?_
  rw [tabP_keys] at hnd
  have hmul := hk
  clear hk
  refine' CT.def (n := 7) (ns := [Str.ofString "table"]) I.ok R (ho := ?ho) (hfd := ?hfd) (hb := ?hb) (hcode := ?hc) (hnames := ?hnm) ?h1 ?h2 ?h3 ?h4 ?h5 ?h6 ?h7 ?h8 ?h9 rfl ?_
  case ho => rw [I.K]; k_is
  case hfd => exact rfl
  case hb => exact rfl
  case hc => rw [I.K]; k_is
  case hnm => exact rfl
  case h1 => exact rfl
  case h2 => exact rfl
  case h3 => exact rfl
  case h4 => exact rfl
  case h5 => exact rfl
  case h6 => exact rfl
  case h7 => (intro s vs hv; obtain ⟨x0, rfl⟩ := len1 hv; exact BindsTo.of_eq rfl)
  case h8 => decide
  case h9 => exact rfl
  intro env A' hE hk hF hR
  dsimp only at hk
  with_reducible refine SS.cons (ST.gen fun _ _ => ?_)
  with_reducible refine ST.assign (by assumption) ?_ ?_ ?_
  focus refine Or.inl ?_; (with_reducible refine KO.at (by assumption) ?_); exact rfl
  focus exact rfl
  with_reducible refine ET.dict (ik _) (Is.ok (by assumption)) ?_ ?_ ?_ ?_ ?_
  focus exact rfl
  focus exact rfl
  focus exact List.cons_ne_nil _ _
  focus exact (by decide)
  refine ?_
  with_reducible refine DPs.cons ?_
  with_reducible refine ET.int ?_
  with_reducible refine ET.call (Is.ok (by assumption)) ?_ ?_
  focus exact rfl
  with_reducible apply ET.glob (by assumption) (Is.ok (by assumption))
  focus (with_reducible refine KO.at (by assumption) ?_); exact rfl
  focus exact rfl
  focus with_reducible exact gl_Statistic (by assumption)
  with_reducible refine ⟨_, rfl, ?_, ?_⟩
  focus with_reducible exact ck_82 (by assumption)
  with_reducible refine ETs.cons ?_ ?_
  focus (intro _; exact rfl)
  with_reducible refine ET.int ?_
  with_reducible refine ETs.cons ?_ ?_
  focus (intro _; exact rfl)
  refine ET.mono (Q₁ := fun v H' => v = .int ((dgetT t 1).getD (0, 0)).1 ∧ H' = H) ?_ ?_
  · refine ET.ite ?_
    with_reducible refine BT.cmp ?_ ?_
    focus exact rfl
    with_reducible refine ET.int ?_
    with_reducible apply ET.var (by assumption)
    focus with_reducible exact parms_at
    focus exact rfl
    refine CmpT.inD (ik g) (k := 1) ha ?_
    with_reducible refine TrT.bool ?_
    rcases hq : dgetT t 1 with _ | ⟨s1, c1⟩
    · rw [tabP_get, hq]
      exact iteF (ET.int ⟨rfl, rfl⟩)
    · have hg := tabP_get PV.int CS 1 t
      rw [hq] at hg
      rw [hg]
      refine iteT ?_
      with_reducible refine ET.attr (Is.ok (by assumption)) ?_ ?_
      focus (intro _; exact rfl)
      with_reducible refine ET.sub ?_ ?_
      focus nofun
      with_reducible apply ET.var (by assumption)
      focus with_reducible exact parms_at
      focus exact rfl
      with_reducible refine ET.int ?_
      refine SubT.dict (ik g) (k := 1) ha hg ?_
      with_reducible apply attrK
      focus with_reducible exact sl_st_size (by assumption)
      focus exact rfl
      focus exact rfl
      exact ⟨rfl, rfl⟩
  · rintro v H' ⟨rfl, rfl⟩
    with_reducible refine ETs.cons ?_ ?_
    focus (intro _; exact rfl)
    with_reducible refine ET.int ?_
    with_reducible refine ETs.nil ?_
    refine stat_ct I (hR.le (by decide)) fun dx hdx => ?_
    refine ⟨0, rfl, ?_⟩
    with_reducible refine DPs.nil ?_
    intro S ep1 hS
    have hS0 : H' S = none := by
      by_cases z : S = dx
      · rw [z, hup_at] at hS; cases hS
      · rwa [hup_ne z] at hS
    have hSa : S ≠ a := fun z => by rw [z, ha] at hS0; cases hS0
    with_reducible refine GK.use (by assumption) ?_
    with_reducible refine SS.cons (ST.gen fun _ _ => ?_)
    refine ST.cut (SlopeM g H' S t) ?_ ?_
    · refine ST.forI (fun _ _ => rfl) (SlopeI g H' a S t)
        (fun H1 => H1 a = some ((ik g).pack (tabP .int CS t) ep)) (IT.keys (ik g) hR.hh ?_) ?_ ?_
      · with_reducible apply ET.var (by assumption)
        focus (with_reducible refine (upd_ne ?_).trans ?_); (focus (first | assumption | exact (by decide))); with_reducible exact parms_at
        focus exact rfl
        refine ⟨a, _, _, rfl, (hup_ne hSa.symm).trans ((hup_ne (ne_of ha hdx)).trans ha), rfl, [], t, ep1, rfl, ?_, by (((with_reducible refine (upd_ne ?_).trans ?_); (focus (first | assumption | exact (by decide))); with_reducible exact parms_at)), by ((with_reducible exact upd_at _ _ _)), ((Ext.refl H').hup hdx).hup hS, hup_at _ _ _⟩
        simp [tabP, ik, Function.comp_def]
      · rintro v r l H1 ⟨t1, t2, ep, e0, hr, l1, l2, X1, HS⟩
        cases t2 with
        | nil => cases hr
        | cons d t2 =>
        obtain ⟨k, s, c⟩ := d
        injection hr with hv hr
        subst hv hr
        have hmem : (k, s, c) ∈ t := by rw [e0]; simp
        have hg : dget (tabP PV.int CS t) k = some (st3 (.int k) (.int s) (.int c)) := by rw [tabP_get, dgetT_mem hnd hmem]; rfl
        have ha' := X1 _ _ ha
        have hlen : t1.length + (t2.length + 1) ≤ 1000 := by rw [e0] at ht; simpa using ht
        have hfl := List.length_filter_le (fun e => decide (1 < e.1)) t1
        with_reducible refine AT.name (by assumption) ?_ ?_
        focus refine Or.inl ?_; (with_reducible refine KO.at (by assumption) ?_); exact rfl
        with_reducible refine SS.cons (ST.gen fun _ _ => ?_)
        with_reducible refine ST.ite ?_
        with_reducible refine BT.cmp ?_ ?_
        focus exact rfl
        with_reducible apply ET.var (by assumption)
        focus with_reducible exact upd_at _ _ _
        focus exact rfl
        with_reducible refine ET.int ?_
        with_reducible refine CmpT.gtI ?_
        with_reducible refine TrT.bool ?_
        refine iteC (fun hs => ?_) (fun hs => ?_)
        · have hs' : 1 < k := by simpa using hs
          with_reducible refine SS.cons (ST.gen fun _ _ => ?_)
          refine ST.setItem (fun _ => rfl) ?_
          with_reducible refine ET.call (Is.ok (by assumption)) ?_ ?_
          focus exact rfl
          with_reducible apply ET.glob (by assumption) (Is.ok (by assumption))
          focus (with_reducible refine KO.at (by assumption) ?_); exact rfl
          focus exact rfl
          focus with_reducible exact gl_Statistic (by assumption)
          with_reducible refine ⟨_, rfl, ?_, ?_⟩
          focus with_reducible exact ck_82 (by assumption)
          with_reducible refine ETs.cons ?_ ?_
          focus (intro _; exact rfl)
          with_reducible refine ET.binop ?_
          with_reducible apply ET.var (by assumption)
          focus with_reducible exact upd_at _ _ _
          focus exact rfl
          with_reducible refine ET.int ?_
          with_reducible refine BinT.sub ?_
          with_reducible refine ETs.cons ?_ ?_
          focus (intro _; exact rfl)
          with_reducible refine ET.binop ?_
          with_reducible apply ET.var (by assumption)
          focus with_reducible exact upd_at _ _ _
          focus exact rfl
          with_reducible refine ET.attr (Is.ok (by assumption)) ?_ ?_
          focus (intro _; exact rfl)
          with_reducible refine ET.sub ?_ ?_
          focus nofun
          with_reducible apply ET.var (by assumption)
          focus (with_reducible refine (upd_ne ?_).trans ?_); (focus (first | assumption | exact (by decide))); with_reducible assumption
          focus exact rfl
          with_reducible apply ET.var (by assumption)
          focus with_reducible exact upd_at _ _ _
          focus exact rfl
          refine SubT.dict (ik g) (k := k) ha' hg ?_
          with_reducible apply attrK
          focus with_reducible exact sl_st_size (by assumption)
          focus exact rfl
          focus exact rfl
          refine BinT.mul (hmul _ hmem) ?_
          with_reducible refine ETs.cons ?_ ?_
          focus (intro _; exact rfl)
          with_reducible refine ET.int ?_
          with_reducible refine ETs.nil ?_
          refine stat_ct I (hR.le (by decide)) fun dx2 hdx2 => ?_
          with_reducible apply ET.var (by assumption)
          focus (with_reducible refine (upd_ne ?_).trans ?_); (focus (first | assumption | exact (by decide))); with_reducible assumption
          focus exact rfl
          with_reducible refine ET.binop ?_
          with_reducible apply ET.var (by assumption)
          focus with_reducible exact upd_at _ _ _
          focus exact rfl
          with_reducible refine ET.int ?_
          with_reducible refine BinT.sub ?_
          refine SetT.dict (ik g) (k := k - 1) ((hup_ne (ne_of HS hdx2)).trans HS) (by rw [tabP_len]; simp only [List.length_cons, List.length_map]; unfold sizeLine; omega) fun ep3 => ?_
          with_reducible refine GK.use (by assumption) ?_
          with_reducible refine SS.nil ?_
          with_reducible refine GK.use (by assumption) ?_
          with_reducible refine SS.nil ?_
          have hnk : k - 1 ∉ ((0, ((dgetT t 1).getD (0, 0)).1, 1) :: (t1.filter fun e => decide (1 < e.1)).map fun e => (e.1 - 1, e.1 * e.2.1, (0 : Int))).map (·.1) := by
            rw [List.map_cons]
            intro z
            rcases List.mem_cons.mp z with z | z
            · have z' : k - 1 = 0 := z
              omega
            · rw [List.map_map] at z
              obtain ⟨e', he', ee⟩ := List.mem_map.mp z
              have ek : e'.1 = k := by have : e'.1 - 1 = k - 1 := ee; omega
              rw [e0, List.map_append, List.map_cons] at hnd
              exact (List.nodup_append.mp hnd).2.2 _ (List.mem_map_of_mem (f := (·.1)) (List.mem_filter.mp he').1) _ List.mem_cons_self ek
          have X2 := (X1.hup hdx2 (o := .idle))
          have X3 : ∀ po, Ext H' (hup (hup H1 dx2 .idle) S po) := fun po x q e => by
            rw [hup_ne (ne_of e hS0)]; exact X2 x q e
          refine ⟨X3 _ _ _ ha, t1 ++ [(k, s, c)], t2, ep3, by rw [e0]; simp, rfl, by (((with_reducible refine (upd_ne ?_).trans ?_); (focus (first | assumption | exact (by decide))); with_reducible assumption)), by (((with_reducible refine (upd_ne ?_).trans ?_); (focus (first | assumption | exact (by decide))); with_reducible assumption)), X3 _, ?_⟩
          refine (hup_at _ _ _).trans ?_
          refine congrArg (fun z => some ((ik g).pack z ep3)) ((tabP_set _ _ _ _ _ _).trans ?_)
          rw [dsetT_new hnk, List.filter_append, List.map_append]
          simp [hs']
        · have hs' : ¬ 1 < k := by simpa using hs
          with_reducible refine SS.nil ?_
          with_reducible refine GK.use (by assumption) ?_
          with_reducible refine SS.nil ?_
          refine ⟨ha', t1 ++ [(k, s, c)], t2, ep, by rw [e0]; simp, rfl, by (((with_reducible refine (upd_ne ?_).trans ?_); (focus (first | assumption | exact (by decide))); with_reducible assumption)), by (((with_reducible refine (upd_ne ?_).trans ?_); (focus (first | assumption | exact (by decide))); with_reducible assumption)), X1, ?_⟩
          rw [List.filter_append]
          simpa [hs'] using HS
      · rintro l H1 ⟨t1, t2, ep, e0, hr, l1, l2, X1, HS⟩
        obtain rfl : t2 = [] := by cases t2 with | nil => rfl | cons _ _ => cases hr
        rw [List.append_nil] at e0
        subst e0
        exact ⟨ep, l2, HS, X1⟩
    · rintro l H1 ⟨ep, l1, HS, X1⟩
      with_reducible refine GK.use (by assumption) ?_
      with_reducible refine SS.cons (ST.gen fun _ _ => ?_)
      with_reducible refine ST.ret ?_
      with_reducible apply ET.var (by assumption)
      focus with_reducible assumption
      focus exact rfl
      with_reducible refine GK.use (by assumption) ?_
      skip
      exact h S ep H1 hS0 X1 HS
end
end Mine
end
section
open PySem PySem.W PyProof.Rows PySem.Calls PySem.Spec
set_option maxRecDepth 100000
set_option maxHeartbeats 1000000
namespace Mine
section
variable {g : Gd} {A : Around} {H : PH} {Q : PV → PH → Prop}
theorem gl_taken (I : Is g) : nsIn g.K mainGlobals "_law_taken_off" = some (some (.ref 174)) := by rw [I.K]; k_is
theorem gl_times (I : Is g) : nsIn g.K mainGlobals "_law_times" = some (some (.ref 179)) := by rw [I.K]; k_is
theorem ck_174 (I : Is g) : CallK g (.ref 174) := .inr (.inr (by rw [I.K]; k_is))
theorem ck_179 (I : Is g) : CallK g (.ref 179) := .inr (.inr (by rw [I.K]; k_is))

inductive ProdM (g : Gd) (H : PH) (rs : List Int) (m ht : Int) (l : PL) (H1 : PH) : Prop where
  | mk (S : Addr) (ep : Nat) (_ : l (Str.ofString "middle") = some (.int m)) (_ : l (Str.ofString "height") = some (.int ht)) (_ : l (Str.ofString "table") = some (.ref S)) (_ : H1 S = some ((ik g).pack (tabP .int CS (rootsT rs)) ep)) (_ : Ext H H1) (_ : (rootsT rs).length ≤ 8) : ProdM g H rs m ht l H1
inductive ProdI (g : Gd) (H : PH) (rs : List Int) (m ht : Int) (r : List PV) (l : PL) (H1 : PH) : Prop where
  | mk (r1 r2 : List Int) (S : Addr) (ep : Nat) (_ : rs = r1 ++ r2) (_ : r = r2.map PV.int) (_ : l (Str.ofString "middle") = some (.int m)) (_ : l (Str.ofString "height") = some (.int ht)) (_ : l (Str.ofString "table") = some (.ref S)) (_ : Ext H H1) (_ : H1 S = some ((ik g).pack (tabP .int CS (rootsT r1)) ep)) (_ : (rootsT r1).length ≤ 2 ^ r1.length) : ProdI g H rs m ht r l H1
theorem prod_ct (I : Is g) (R : Room A 12) {a : Addr} {rs : List Int} {m ht : Int} (ha : H a = some (.list (rs.map .int))) (hl : rs.length ≤ 3) (hr : ∀ r ∈ rs, Builtin.Int.intBits r ≤ 64) (hm : Builtin.Int.intBits m ≤ 64) (hm2 : Builtin.Int.intBits (2 * m) ≤ 64) (hh : Builtin.Int.intBits (m * m + ht) ≤ 64)
    (h : ∀ r ep' H', Ext H H' → H' r = some ((ik g).pack (tabP .int CS (prodT rs m ht)) ep') → Q (.ref r) H') : CT g A H (.ref 186) [.ref a, .int m, .int ht] Q := by
  refine' CT.def (n := 11) (ns := [Str.ofString "roots", Str.ofString "middle", Str.ofString "height"]) I.ok R (ho := ?ho) (hfd := ?hfd) (hb := ?hb) (hcode := ?hc) (hnames := ?hnm) ?h1 ?h2 ?h3 ?h4 ?h5 ?h6 ?h7 ?h8 ?h9 rfl ?_
  case ho => rw [I.K]; k_is
  case hfd => exact rfl
  case hb => exact rfl
  case hc => rw [I.K]; k_is
  case hnm => exact rfl
  case h1 => exact rfl
  case h2 => exact rfl
  case h3 => exact rfl
  case h4 => exact rfl
  case h5 => exact rfl
  case h6 => exact rfl
  case h7 => (intro s vs hv; obtain ⟨x0, x1, x2, rfl⟩ := len3 hv; exact BindsTo.of_eq rfl)
  case h8 => decide
  case h9 => exact rfl
  intro env A' hE hk hF hR
  dsimp only at hk
  with_reducible refine SS.cons (ST.gen fun _ _ => ?_)
  with_reducible refine ST.assign (by assumption) ?_ ?_ ?_
  focus refine Or.inl ?_; (with_reducible refine KO.at (by assumption) ?_); exact rfl
  focus exact rfl
  with_reducible refine ET.dict (ik _) (Is.ok (by assumption)) ?_ ?_ ?_ ?_ ?_
  focus exact rfl
  focus exact rfl
  focus exact List.cons_ne_nil _ _
  focus exact (by decide)
  refine ?_
  with_reducible refine DPs.cons ?_
  with_reducible refine ET.int ?_
  with_reducible refine ET.call (Is.ok (by assumption)) ?_ ?_
  focus exact rfl
  with_reducible apply ET.glob (by assumption) (Is.ok (by assumption))
  focus (with_reducible refine KO.at (by assumption) ?_); exact rfl
  focus exact rfl
  focus with_reducible exact gl_Statistic (by assumption)
  with_reducible refine ⟨_, rfl, ?_, ?_⟩
  focus with_reducible exact ck_82 (by assumption)
  with_reducible refine ETs.cons ?_ ?_
  focus (intro _; exact rfl)
  with_reducible refine ET.int ?_
  with_reducible refine ETs.cons ?_ ?_
  focus (intro _; exact rfl)
  with_reducible refine ET.int ?_
  with_reducible refine ETs.cons ?_ ?_
  focus (intro _; exact rfl)
  with_reducible refine ET.int ?_
  with_reducible refine ETs.nil ?_
  refine stat_ct I (hR.le (by decide)) fun dx hdx => ?_
  refine ⟨0, rfl, ?_⟩
  with_reducible refine DPs.nil ?_
  intro S ep1 hS
  with_reducible refine GK.use (by assumption) ?_
  with_reducible refine SS.cons (ST.gen fun _ _ => ?_)
  refine ST.cut (ProdM g H rs m ht) ?_ ?_
  · refine ST.forI (fun _ _ => rfl) (ProdI g H rs m ht)
      (fun H1 => H1 a = some (.list (rs.map .int))) (IT.list hR.hh ?_) ?_ ?_
    · with_reducible apply ET.var (by assumption)
      focus (with_reducible refine (upd_ne ?_).trans ?_); (focus (first | assumption | exact (by decide))); with_reducible exact parms_at
      focus exact rfl
      exact ⟨a, _, rfl, ((Ext.refl H).hup hdx).hup hS _ _ ha, rfl, [], rs, S, ep1, rfl, rfl, by (((with_reducible refine (upd_ne ?_).trans ?_); (focus (first | assumption | exact (by decide))); (with_reducible refine (parms_ne ?_).trans ?_); (focus (exact (by decide))); with_reducible exact parms_at)), by (((with_reducible refine (upd_ne ?_).trans ?_); (focus (first | assumption | exact (by decide))); (with_reducible refine (parms_ne ?_).trans ?_); (focus (exact (by decide))); (with_reducible refine (parms_ne ?_).trans ?_); (focus (exact (by decide))); with_reducible exact parms_at)), by ((with_reducible exact upd_at _ _ _)), ((Ext.refl H).hup hdx).hup hS, hup_at _ _ _, Nat.le_refl _⟩
    · rintro v r l H1 ⟨r1, r2, S, ep, e0, hr', l1, l2, l3, X1, HS, hlen⟩
      cases r2 with
      | nil => cases hr'
      | cons x r2 =>
      injection hr' with hv hr'
      subst hv hr'
      have hx : Builtin.Int.intBits x ≤ 64 := hr x (by rw [e0]; simp)
      have hl1 : r1.length + (r2.length + 1) ≤ 3 := by rw [e0] at hl; simpa using hl
      have hp : 2 ^ r1.length ≤ 2 ^ 3 := Nat.pow_le_pow_right (by decide) (by omega)
      with_reducible refine AT.name (by assumption) ?_ ?_
      focus refine Or.inl ?_; (with_reducible refine KO.at (by assumption) ?_); exact rfl
      with_reducible refine SS.cons (ST.gen fun _ _ => ?_)
      with_reducible refine ST.assign (by assumption) ?_ ?_ ?_
      focus refine Or.inl ?_; (with_reducible refine KO.at (by assumption) ?_); exact rfl
      focus exact rfl
      with_reducible refine ET.call (Is.ok (by assumption)) ?_ ?_
      focus exact rfl
      with_reducible apply ET.glob (by assumption) (Is.ok (by assumption))
      focus (with_reducible refine KO.at (by assumption) ?_); exact rfl
      focus exact rfl
      focus with_reducible exact gl_taken (by assumption)
      with_reducible refine ⟨_, rfl, ?_, ?_⟩
      focus with_reducible exact ck_174 (by assumption)
      with_reducible refine ETs.cons ?_ ?_
      focus (intro _; exact rfl)
      with_reducible refine ET.call (Is.ok (by assumption)) ?_ ?_
      focus exact rfl
      with_reducible apply ET.glob (by assumption) (Is.ok (by assumption))
      focus (with_reducible refine KO.at (by assumption) ?_); exact rfl
      focus exact rfl
      focus with_reducible exact gl_times (by assumption)
      with_reducible refine ⟨_, rfl, ?_, ?_⟩
      focus with_reducible exact ck_179 (by assumption)
      with_reducible refine ETs.cons ?_ ?_
      focus (intro _; exact rfl)
      with_reducible apply ET.var (by assumption)
      focus (with_reducible refine (upd_ne ?_).trans ?_); (focus (first | assumption | exact (by decide))); with_reducible assumption
      focus exact rfl
      with_reducible refine ETs.cons ?_ ?_
      focus (intro _; exact rfl)
      with_reducible apply ET.var (by assumption)
      focus with_reducible exact upd_at _ _ _
      focus exact rfl
      with_reducible refine ETs.cons ?_ ?_
      focus (intro _; exact rfl)
      with_reducible refine ET.int ?_
      with_reducible refine ETs.nil ?_
      refine times_ct I (hR.le (by decide)) HS (by omega) (fun e _ => ⟨.of_left hx, .of_left hx⟩) fun b1 ep2 H2 hb1 X2 Hb1 => ?_
      with_reducible refine ETs.cons ?_ ?_
      focus (intro _; exact rfl)
      with_reducible refine ET.call (Is.ok (by assumption)) ?_ ?_
      focus exact rfl
      with_reducible apply ET.glob (by assumption) (Is.ok (by assumption))
      focus (with_reducible refine KO.at (by assumption) ?_); exact rfl
      focus exact rfl
      focus with_reducible exact gl_times (by assumption)
      with_reducible refine ⟨_, rfl, ?_, ?_⟩
      focus with_reducible exact ck_179 (by assumption)
      with_reducible refine ETs.cons ?_ ?_
      focus (intro _; exact rfl)
      with_reducible apply ET.var (by assumption)
      focus (with_reducible refine (upd_ne ?_).trans ?_); (focus (first | assumption | exact (by decide))); with_reducible assumption
      focus exact rfl
      with_reducible refine ETs.cons ?_ ?_
      focus (intro _; exact rfl)
      with_reducible refine ET.int ?_
      with_reducible refine ETs.cons ?_ ?_
      focus (intro _; exact rfl)
      with_reducible refine ET.int ?_
      with_reducible refine ETs.nil ?_
      refine times_ct I (hR.le (by decide)) (X2 _ _ HS) (by omega) (fun e _ => ⟨.of_left (by decide), .of_left (by decide)⟩) fun b2 ep3 H3 hb2 X3 Hb2 => ?_
      with_reducible refine ETs.nil ?_
      refine taken_ct I (hR.le (by decide)) (X3 _ _ Hb1) Hb2 (by rw [timesT_len]; omega) (by rw [timesT_len]; omega) fun b3 ep4 H4 hb3 X4 Hb3 => ?_
      with_reducible refine GK.use (by assumption) ?_
      with_reducible refine SS.nil ?_
      refine ⟨((X1.trans X2).trans X3).trans X4 _ _ ha, r1 ++ [x], r2, b3, ep4, by rw [e0]; simp, rfl, by (((with_reducible refine (upd_ne ?_).trans ?_); (focus (first | assumption | exact (by decide))); (with_reducible refine (upd_ne ?_).trans ?_); (focus (first | assumption | exact (by decide))); with_reducible assumption)), by (((with_reducible refine (upd_ne ?_).trans ?_); (focus (first | assumption | exact (by decide))); (with_reducible refine (upd_ne ?_).trans ?_); (focus (first | assumption | exact (by decide))); with_reducible assumption)), by ((with_reducible exact upd_at _ _ _)), ((X1.trans X2).trans X3).trans X4, ?_, ?_⟩
      · rw [Hb3]; simp [rootsT, List.foldl_append, mulRoot]
      · have := mulRoot_len (rootsT r1) x
        rw [show rootsT (r1 ++ [x]) = mulRoot (rootsT r1) x by simp [rootsT, List.foldl_append], List.length_append, List.length_singleton, Nat.pow_succ]
        omega
    · rintro l H1 ⟨r1, r2, S, ep, e0, hr', l1, l2, l3, X1, HS, hlen⟩
      obtain rfl : r2 = [] := by cases r2 with | nil => rfl | cons _ _ => cases hr'
      rw [List.append_nil] at e0
      subst e0
      have hp : 2 ^ rs.length ≤ 2 ^ 3 := Nat.pow_le_pow_right (by decide) hl
      exact ⟨S, ep, l1, l2, l3, HS, X1, by omega⟩
  · rintro l H1 ⟨S, ep, l1, l2, l3, HS, X1, hlen⟩
    with_reducible refine GK.use (by assumption) ?_
    with_reducible refine SS.cons (ST.gen fun _ _ => ?_)
    with_reducible refine ST.assign (by assumption) ?_ ?_ ?_
    focus refine Or.inl ?_; (with_reducible refine KO.at (by assumption) ?_); exact rfl
    focus exact rfl
    with_reducible refine ET.call (Is.ok (by assumption)) ?_ ?_
    focus exact rfl
    with_reducible apply ET.glob (by assumption) (Is.ok (by assumption))
    focus (with_reducible refine KO.at (by assumption) ?_); exact rfl
    focus exact rfl
    focus with_reducible exact gl_taken (by assumption)
    with_reducible refine ⟨_, rfl, ?_, ?_⟩
    focus with_reducible exact ck_174 (by assumption)
    with_reducible refine ETs.cons ?_ ?_
    focus (intro _; exact rfl)
    with_reducible refine ET.call (Is.ok (by assumption)) ?_ ?_
    focus exact rfl
    with_reducible apply ET.glob (by assumption) (Is.ok (by assumption))
    focus (with_reducible refine KO.at (by assumption) ?_); exact rfl
    focus exact rfl
    focus with_reducible exact gl_times (by assumption)
    with_reducible refine ⟨_, rfl, ?_, ?_⟩
    focus with_reducible exact ck_179 (by assumption)
    with_reducible refine ETs.cons ?_ ?_
    focus (intro _; exact rfl)
    with_reducible apply ET.var (by assumption)
    focus with_reducible assumption
    focus exact rfl
    with_reducible refine ETs.cons ?_ ?_
    focus (intro _; exact rfl)
    with_reducible refine ET.binop ?_
    with_reducible refine ET.binop ?_
    with_reducible apply ET.var (by assumption)
    focus with_reducible assumption
    focus exact rfl
    with_reducible apply ET.var (by assumption)
    focus with_reducible assumption
    focus exact rfl
    refine BinT.mul (.of_left hm) ?_
    with_reducible apply ET.var (by assumption)
    focus with_reducible assumption
    focus exact rfl
    with_reducible refine BinT.add ?_
    with_reducible refine ETs.cons ?_ ?_
    focus (intro _; exact rfl)
    with_reducible refine ET.int ?_
    with_reducible refine ETs.nil ?_
    refine times_ct I (hR.le (by decide)) HS (by omega) (fun e _ => ⟨.of_left hh, .of_left hh⟩) fun b1 ep2 H2 hb1 X2 Hb1 => ?_
    with_reducible refine ETs.cons ?_ ?_
    focus (intro _; exact rfl)
    with_reducible refine ET.call (Is.ok (by assumption)) ?_ ?_
    focus exact rfl
    with_reducible apply ET.glob (by assumption) (Is.ok (by assumption))
    focus (with_reducible refine KO.at (by assumption) ?_); exact rfl
    focus exact rfl
    focus with_reducible exact gl_times (by assumption)
    with_reducible refine ⟨_, rfl, ?_, ?_⟩
    focus with_reducible exact ck_179 (by assumption)
    with_reducible refine ETs.cons ?_ ?_
    focus (intro _; exact rfl)
    with_reducible apply ET.var (by assumption)
    focus with_reducible assumption
    focus exact rfl
    with_reducible refine ETs.cons ?_ ?_
    focus (intro _; exact rfl)
    with_reducible refine ET.binop ?_
    with_reducible refine ET.int ?_
    with_reducible apply ET.var (by assumption)
    focus with_reducible assumption
    focus exact rfl
    refine BinT.mul (.of_left (by decide)) ?_
    with_reducible refine ETs.cons ?_ ?_
    focus (intro _; exact rfl)
    with_reducible refine ET.int ?_
    with_reducible refine ETs.nil ?_
    refine times_ct I (hR.le (by decide)) (X2 _ _ HS) (by omega) (fun e _ => ⟨.of_left hm2, .of_left hm2⟩) fun b2 ep3 H3 hb2 X3 Hb2 => ?_
    with_reducible refine ETs.nil ?_
    have hl1 := takenT_len (timesT (rootsT rs) (m * m + ht) 0) (timesT (rootsT rs) (2 * m) 1)
    rw [timesT_len, timesT_len] at hl1
    refine taken_ct I (hR.le (by decide)) (X3 _ _ Hb1) Hb2 (by rw [timesT_len]; omega) (by rw [timesT_len]; omega) fun b3 ep4 H4 hb3 X4 Hb3 => ?_
    with_reducible refine GK.use (by assumption) ?_
    with_reducible refine SS.cons (ST.gen fun _ _ => ?_)
    with_reducible refine ST.ret ?_
    with_reducible refine ET.call (Is.ok (by assumption)) ?_ ?_
    focus exact rfl
    with_reducible apply ET.glob (by assumption) (Is.ok (by assumption))
    focus (with_reducible refine KO.at (by assumption) ?_); exact rfl
    focus exact rfl
    focus with_reducible exact gl_taken (by assumption)
    with_reducible refine ⟨_, rfl, ?_, ?_⟩
    focus with_reducible exact ck_174 (by assumption)
    with_reducible refine ETs.cons ?_ ?_
    focus (intro _; exact rfl)
    with_reducible apply ET.var (by assumption)
    focus with_reducible exact upd_at _ _ _
    focus exact rfl
    with_reducible refine ETs.cons ?_ ?_
    focus (intro _; exact rfl)
    with_reducible refine ET.call (Is.ok (by assumption)) ?_ ?_
    focus exact rfl
    with_reducible apply ET.glob (by assumption) (Is.ok (by assumption))
    focus (with_reducible refine KO.at (by assumption) ?_); exact rfl
    focus exact rfl
    focus with_reducible exact gl_times (by assumption)
    with_reducible refine ⟨_, rfl, ?_, ?_⟩
    focus with_reducible exact ck_179 (by assumption)
    with_reducible refine ETs.cons ?_ ?_
    focus (intro _; exact rfl)
    with_reducible apply ET.var (by assumption)
    focus (with_reducible refine (upd_ne ?_).trans ?_); (focus (first | assumption | exact (by decide))); with_reducible assumption
    focus exact rfl
    with_reducible refine ETs.cons ?_ ?_
    focus (intro _; exact rfl)
    with_reducible refine ET.int ?_
    with_reducible refine ETs.cons ?_ ?_
    focus (intro _; exact rfl)
    with_reducible refine ET.int ?_
    with_reducible refine ETs.nil ?_
    refine times_ct I (hR.le (by decide)) (X4 _ _ (X3 _ _ (X2 _ _ HS))) (by omega) (fun e _ => ⟨.of_left (by decide), .of_left (by decide)⟩) fun b4 ep5 H5 hb4 X5 Hb4 => ?_
    with_reducible refine ETs.nil ?_
    refine taken_ct I (hR.le (by decide)) (X5 _ _ Hb3) Hb4 (by omega) (by rw [timesT_len]; omega) fun b5 ep6 H6 hb5 X6 Hb5 => ?_
    with_reducible refine GK.use (by assumption) ?_
    exact h b5 ep6 H6 (((((X1.trans X2).trans X3).trans X4).trans X5).trans X6) Hb5
end
end Mine
end
section
open PySem PySem.W PyProof.Rows PySem.Calls PySem.Spec
set_option maxRecDepth 100000
set_option maxHeartbeats 1000000
namespace Mine
section
variable {g : Gd} {A : Around} {H : PH} {Q : PV → PH → Prop}
theorem gb_list (I : Is g) : GB g "list" (.type "list") := ⟨by rw [I.K]; k_is, by decide, rfl⟩
theorem gb_range (I : Is g) : GB g "range" (.type "range") := ⟨by rw [I.K]; k_is, by decide, rfl⟩
theorem gb_len (I : Is g) : GB g "len" (.builtin "len") := ⟨by rw [I.K]; k_is, by decide, rfl⟩
theorem ck_list : CallK g (.type "list") := .inr (.inl ⟨_, rfl⟩)
theorem ck_range : CallK g (.type "range") := .inr (.inl ⟨_, rfl⟩)
theorem ck_len : CallK g (.builtin "len") := .inl ⟨_, rfl⟩

inductive NumsM (H : PH) (t : Tab Int) (cnt : Bool) (D : Addr) (l : PL) (H1 : PH) : Prop where
  | mk (m : Nat) (_ : IsTop t m) (_ : l (Str.ofString "numbers") = some (.ref D)) (_ : H1 D = some (.list ((numsDown t cnt (m + 1)).map .int))) (_ : Ext H H1) : NumsM H t cnt D l H1
inductive NumsI (H : PH) (t : Tab Int) (cnt : Bool) (a D : Addr) (r : List PV) (l : PL) (H1 : PH) : Prop where
  | mk (m n : Nat) (acc : List Int) (_ : IsTop t m) (_ : m ≤ 1000) (_ : r = rangeL ((n : Int) - 1) (-1) n) (_ : l (Str.ofString "numbers") = some (.ref D)) (_ : l (Str.ofString "table") = some (.ref a)) (_ : l (Str.ofString "counts") = some (.bool cnt)) (_ : Ext H H1) (_ : H1 D = some (.list (acc.map .int))) (_ : acc ++ numsDown t cnt n = numsDown t cnt (m + 1)) : NumsI H t cnt a D r l H1
theorem nums_ct (I : Is g) (R : Room A 8) {a : Addr} {t : Tab Int} {ep : Nat} {cnt : Bool} (ha : H a = some ((ik g).pack (tabP .int CS t) ep)) (ht : t.length ≤ 900) (hkey : ∀ k ∈ t.map (·.1), k ≤ 1000)
    (h : ∀ r m H', IsTop t m → Ext H H' → H' r = some (.list ((numsDown t cnt (m + 1)).map .int)) → Q (.ref r) H') : CT g A H (.ref 212) [.ref a, .bool cnt] Q := by
  refine CT.nodup (ik g) ha fun hnd => ?_
  rw [tabP_keys] at hnd
  refine' CT.def (n := 7) (ns := [Str.ofString "table", Str.ofString "counts"]) I.ok R (ho := ?ho) (hfd := ?hfd) (hb := ?hb) (hcode := ?hc) (hnames := ?hnm) ?h1 ?h2 ?h3 ?h4 ?h5 ?h6 ?h7 ?h8 ?h9 rfl ?_
  case ho => rw [I.K]; k_is
  case hfd => exact rfl
  case hb => exact rfl
  case hc => rw [I.K]; k_is
  case hnm => exact rfl
  case h1 => exact rfl
  case h2 => exact rfl
  case h3 => exact rfl
  case h4 => exact rfl
  case h5 => exact rfl
  case h6 => exact rfl
  case h7 => (intro s vs hv; obtain ⟨x0, x1, rfl⟩ := len2 hv; exact BindsTo.of_eq rfl)
  case h8 => decide
  case h9 => exact rfl
  intro env A' hE hk hF hR
  dsimp only at hk
  with_reducible refine SS.cons (ST.gen fun _ _ => ?_)
  with_reducible refine ST.assign (by assumption) ?_ ?_ ?_
  focus refine Or.inl ?_; (with_reducible refine KO.at (by assumption) ?_); exact rfl
  focus exact rfl
  with_reducible refine ET.list (Is.ok (by assumption)) ?_
  with_reducible refine ETs.nil ?_
  with_reducible refine szAnd ?_ ?_
  focus exact rfl
  intro D hD
  with_reducible refine GK.use (by assumption) ?_
  with_reducible refine SS.cons (ST.gen fun _ _ => ?_)
  have Da : a ≠ D := ne_of ha hD
  refine ST.cut (NumsM H t cnt D) ?_ ?_
  · refine ST.forI (fun _ _ => rfl) (NumsI H t cnt a D)
      (fun _ => True) (IT.range hR.hh (fun _ _ => rfl) ?_) ?_ ?_
    · with_reducible refine ET.call (Is.ok (by assumption)) ?_ ?_
      focus exact rfl
      with_reducible apply ET.bi (by assumption) (Is.ok (by assumption))
      focus (with_reducible refine KO.at (by assumption) ?_); exact rfl
      focus exact rfl
      focus with_reducible exact gb_range (by assumption)
      with_reducible refine ⟨_, rfl, ?_, ?_⟩
      focus with_reducible exact ck_range
      with_reducible refine ETs.cons ?_ ?_
      focus (intro _; exact rfl)
      with_reducible refine ET.call (Is.ok (by assumption)) ?_ ?_
      focus exact rfl
      with_reducible apply ET.bi (by assumption) (Is.ok (by assumption))
      focus (with_reducible refine KO.at (by assumption) ?_); exact rfl
      focus exact rfl
      focus with_reducible exact gb_max (by assumption)
      with_reducible refine ⟨_, rfl, ?_, ?_⟩
      focus with_reducible exact ck_max
      with_reducible refine ETs.cons ?_ ?_
      focus (intro _; exact rfl)
      with_reducible refine ET.binop ?_
      with_reducible refine ET.list (Is.ok (by assumption)) ?_
      with_reducible refine ETs.cons ?_ ?_
      focus (intro _; exact rfl)
      with_reducible refine ET.int ?_
      with_reducible refine ETs.nil ?_
      with_reducible refine szAnd ?_ ?_
      focus exact rfl
      intro L1 hL1
      with_reducible refine ET.call (Is.ok (by assumption)) ?_ ?_
      focus exact rfl
      with_reducible apply ET.bi (by assumption) (Is.ok (by assumption))
      focus (with_reducible refine KO.at (by assumption) ?_); exact rfl
      focus exact rfl
      focus with_reducible exact gb_list (by assumption)
      with_reducible refine ⟨_, rfl, ?_, ?_⟩
      focus with_reducible exact ck_list
      with_reducible refine ETs.cons ?_ ?_
      focus (intro _; exact rfl)
      with_reducible apply ET.var (by assumption)
      focus (with_reducible refine (upd_ne ?_).trans ?_); (focus (first | assumption | exact (by decide))); with_reducible exact parms_at
      focus exact rfl
      with_reducible refine ETs.nil ?_
      have X1 : Ext H (hup (hup H D (.list [])) L1 (.list [.int 0])) := ((Ext.refl H).hup hD).hup hL1
      refine CT.listK (ik g) I.ok hR (X1 _ _ ha) (by rw [tabP_len]; omega) fun L2 hL2 => ?_
      skip
      refine BinT.addL I.ok ((hup_ne (ne_of (hup_at _ _ _) hL2)).trans (hup_at _ _ _)) (hup_at _ _ _) (by simp [tabP_len]; unfold sizeLine; omega) fun L3 hL3 => ?_
      with_reducible refine ETs.nil ?_
      have eL : [PV.int 0] ++ (tabP .int CS t).map (fun e => (ik g).val e.1) = (0 :: t.map (·.1)).map PV.int := by simp [tabP, ik, Function.comp_def]
      refine CT.maxI (ns := 0 :: t.map (·.1)) hR (by rw [← eL]; exact hup_at _ _ _) (by simp) fun m hm hmax => ?_
      with_reducible refine ETs.cons ?_ ?_
      focus (intro _; exact rfl)
      with_reducible refine ET.unop ?_
      with_reducible refine ET.int ?_
      with_reducible refine UnT.neg ?_
      with_reducible refine ETs.cons ?_ ?_
      focus (intro _; exact rfl)
      with_reducible refine ET.unop ?_
      with_reducible refine ET.int ?_
      with_reducible refine UnT.neg ?_
      with_reducible refine ETs.nil ?_
      have m0 : 0 ≤ m := hmax 0 (by simp)
      have m1 : m ≤ 1000 := by
        rcases List.mem_cons.mp hm with z | z
        · omega
        · exact hkey m z
      obtain ⟨m', rfl⟩ : ∃ m' : Nat, m = m' := ⟨m.toNat, by omega⟩
      refine CT.range3 (by decide) (PyProof.noPylong_of_log2 (by decide +kernel)) ?_
      refine ⟨_, _, _, rfl, ?_, rfl, m', m' + 1, [], ⟨?_, fun k hk => hmax k (List.mem_cons_of_mem _ hk)⟩, by omega, ?_, by ((with_reducible exact upd_at _ _ _)), by (((with_reducible refine (upd_ne ?_).trans ?_); (focus (first | assumption | exact (by decide))); with_reducible exact parms_at)), by (((with_reducible refine (upd_ne ?_).trans ?_); (focus (first | assumption | exact (by decide))); (with_reducible refine (parms_ne ?_).trans ?_); (focus (exact (by decide))); with_reducible exact parms_at)), (X1.hup hL2).hup hL3, ?_, rfl⟩
      · exact small_down m' (by omega)
      · rcases List.mem_cons.mp hm with z | z
        · exact .inl (by omega)
        · exact .inr z
      · rw [rangeSize_down, show ((m' : Int) + 1).toNat = m' + 1 by omega, show ((m' + 1 : Nat) : Int) - 1 = m' by omega]
      · have e1 := (hup_ne (ne_of (hup_at H D (.list [])) hL1) (o := .list [.int 0])).trans (hup_at H D (.list []))
        exact (hup_ne (ne_of ((hup_ne (ne_of e1 hL2)).trans e1) hL3)).trans ((hup_ne (ne_of e1 hL2)).trans e1)
    · rintro v r l H1 ⟨m, n, acc, hT, hm, hr, l1, l2, l3, X1, HD, e1⟩
      cases n with
      | zero => simp [rangeL] at hr
      | succ n =>
      rw [show ((n + 1 : Nat) : Int) - 1 = n by omega, rangeL_succ] at hr
      injection hr with hv hr
      subst hv hr
      have ha' := X1 _ _ ha
      have hlen : acc.length + (n + 1) = m + 1 := by have := congrArg List.length e1; simpa [numsDown_len] using this
      have fin : ∀ x : Int, x = numAt t cnt n → (Ext H (hup H1 D (.list (acc.map .int ++ [.int x])))) ∧ hup H1 D (.list (acc.map .int ++ [.int x])) D = some (.list ((acc ++ [x]).map .int)) ∧ (acc ++ [x]) ++ numsDown t cnt n = numsDown t cnt (m + 1) := fun x hx => by
        subst hx
        refine ⟨fun b po e => ?_, by rw [hup_at]; simp, by rw [← e1]; simp [numsDown]⟩
        rw [hup_ne (ne_of e hD)]; exact X1 _ _ e
      with_reducible refine AT.name (by assumption) ?_ ?_
      focus refine Or.inl ?_; (with_reducible refine KO.at (by assumption) ?_); exact rfl
      with_reducible refine SS.cons (ST.gen fun _ _ => ?_)
      with_reducible refine ST.ite ?_
      with_reducible refine BT.cmp ?_ ?_
      focus exact rfl
      with_reducible apply ET.var (by assumption)
      focus with_reducible exact upd_at _ _ _
      focus exact rfl
      with_reducible apply ET.var (by assumption)
      focus (with_reducible refine (upd_ne ?_).trans ?_); (focus (first | assumption | exact (by decide))); with_reducible assumption
      focus exact rfl
      refine CmpT.notInD (ik g) (k := (n : Int)) ha' ?_
      with_reducible refine TrT.bool ?_
      have hg := tabP_get PV.int CS (n : Int) t
      rcases hq : dgetT t (n : Int) with _ | ⟨s, c⟩
      · rw [hg, hq]
        refine iteT' rfl ?_
        with_reducible refine SS.cons (ST.gen fun _ _ => ?_)
        with_reducible refine ST.expr (by assumption) ?_ ?_
        focus (intro _; exact rfl)
        refine ET.meth (T := "list") (id := "list.append") (Is.ok (by assumption)) ?_ ?_ ?_ ?_ PySem.F.plainAttrs_list PySem.F.slot_list_append PySem.F.type_list_append ?_
        focus exact rfl
        focus exact rfl
        focus exact (by decide)
        focus exact rfl
        (with_reducible apply ET.var (by assumption)); (focus (with_reducible refine (upd_ne ?_).trans ?_); (focus (first | assumption | exact (by decide))); with_reducible assumption); (focus exact rfl)
        apply methL
        focus with_reducible assumption
        (with_reducible refine ETs.cons ?_ ?_); (focus (intro _; exact rfl)); with_reducible refine ET.int ?_; with_reducible refine ETs.nil ?_
        apply CT.append
        focus with_reducible assumption
        · simp; unfold sizeLine; omega
        skip
        refine ⟨rfl, ?_⟩
        with_reducible refine GK.use (by assumption) ?_
        with_reducible refine SS.nil ?_
        with_reducible refine GK.use (by assumption) ?_
        with_reducible refine SS.nil ?_
        obtain ⟨f1, f2, f3⟩ := fin 0 (by cases cnt <;> simp [numAt, valT, hq])
        exact ⟨trivial, m, n, acc ++ [0], hT, hm, by rw [show (n : Int) + -1 = (n : Int) - 1 by omega], by (((with_reducible refine (upd_ne ?_).trans ?_); (focus (first | assumption | exact (by decide))); with_reducible assumption)), by (((with_reducible refine (upd_ne ?_).trans ?_); (focus (first | assumption | exact (by decide))); with_reducible assumption)), by (((with_reducible refine (upd_ne ?_).trans ?_); (focus (first | assumption | exact (by decide))); with_reducible assumption)), f1, f2, f3⟩
      · rw [hq] at hg
        rw [hg]
        refine iteF' rfl ?_
        with_reducible refine SS.cons (ST.gen fun _ _ => ?_)
        with_reducible refine ST.ite ?_
        with_reducible refine BT.val ?_ ?_
        focus (intro _ _; exact rfl)
        with_reducible apply ET.var (by assumption)
        focus (with_reducible refine (upd_ne ?_).trans ?_); (focus (first | assumption | exact (by decide))); with_reducible assumption
        focus exact rfl
        with_reducible refine TrT.bool ?_
        refine iteC (fun hc => ?_) (fun hc => ?_)
        · subst hc
          with_reducible refine SS.cons (ST.gen fun _ _ => ?_)
          with_reducible refine ST.expr (by assumption) ?_ ?_
          focus (intro _; exact rfl)
          refine ET.meth (T := "list") (id := "list.append") (Is.ok (by assumption)) ?_ ?_ ?_ ?_ PySem.F.plainAttrs_list PySem.F.slot_list_append PySem.F.type_list_append ?_
          focus exact rfl
          focus exact rfl
          focus exact (by decide)
          focus exact rfl
          (with_reducible apply ET.var (by assumption)); (focus (with_reducible refine (upd_ne ?_).trans ?_); (focus (first | assumption | exact (by decide))); with_reducible assumption); (focus exact rfl)
          apply methL
          focus with_reducible assumption
          with_reducible refine ETs.cons ?_ ?_
          focus (intro _; exact rfl)
          with_reducible refine ET.attr (Is.ok (by assumption)) ?_ ?_
          focus (intro _; exact rfl)
          with_reducible refine ET.sub ?_ ?_
          focus nofun
          with_reducible apply ET.var (by assumption)
          focus (with_reducible refine (upd_ne ?_).trans ?_); (focus (first | assumption | exact (by decide))); with_reducible assumption
          focus exact rfl
          with_reducible apply ET.var (by assumption)
          focus with_reducible exact upd_at _ _ _
          focus exact rfl
          refine SubT.dict (ik g) (k := (n : Int)) ha' hg ?_
          with_reducible apply attrK
          focus with_reducible exact sl_st_count (by assumption)
          focus exact rfl
          focus exact rfl
          with_reducible refine ETs.nil ?_
          apply CT.append
          focus with_reducible assumption
          · simp; unfold sizeLine; omega
          skip
          refine ⟨rfl, ?_⟩
          with_reducible refine GK.use (by assumption) ?_
          with_reducible refine SS.nil ?_
          with_reducible refine GK.use (by assumption) ?_
          with_reducible refine SS.nil ?_
          with_reducible refine GK.use (by assumption) ?_
          with_reducible refine SS.nil ?_
          obtain ⟨f1, f2, f3⟩ := fin c (by simp [numAt, valT, hq])
          exact ⟨trivial, m, n, acc ++ [c], hT, hm, by rw [show (n : Int) + -1 = (n : Int) - 1 by omega], by (((with_reducible refine (upd_ne ?_).trans ?_); (focus (first | assumption | exact (by decide))); with_reducible assumption)), by (((with_reducible refine (upd_ne ?_).trans ?_); (focus (first | assumption | exact (by decide))); with_reducible assumption)), by (((with_reducible refine (upd_ne ?_).trans ?_); (focus (first | assumption | exact (by decide))); with_reducible assumption)), f1, f2, f3⟩
        · subst hc
          with_reducible refine SS.cons (ST.gen fun _ _ => ?_)
          with_reducible refine ST.expr (by assumption) ?_ ?_
          focus (intro _; exact rfl)
          refine ET.meth (T := "list") (id := "list.append") (Is.ok (by assumption)) ?_ ?_ ?_ ?_ PySem.F.plainAttrs_list PySem.F.slot_list_append PySem.F.type_list_append ?_
          focus exact rfl
          focus exact rfl
          focus exact (by decide)
          focus exact rfl
          (with_reducible apply ET.var (by assumption)); (focus (with_reducible refine (upd_ne ?_).trans ?_); (focus (first | assumption | exact (by decide))); with_reducible assumption); (focus exact rfl)
          apply methL
          focus with_reducible assumption
          with_reducible refine ETs.cons ?_ ?_
          focus (intro _; exact rfl)
          with_reducible refine ET.attr (Is.ok (by assumption)) ?_ ?_
          focus (intro _; exact rfl)
          with_reducible refine ET.sub ?_ ?_
          focus nofun
          with_reducible apply ET.var (by assumption)
          focus (with_reducible refine (upd_ne ?_).trans ?_); (focus (first | assumption | exact (by decide))); with_reducible assumption
          focus exact rfl
          with_reducible apply ET.var (by assumption)
          focus with_reducible exact upd_at _ _ _
          focus exact rfl
          refine SubT.dict (ik g) (k := (n : Int)) ha' hg ?_
          with_reducible apply attrK
          focus with_reducible exact sl_st_size (by assumption)
          focus exact rfl
          focus exact rfl
          with_reducible refine ETs.nil ?_
          apply CT.append
          focus with_reducible assumption
          · simp; unfold sizeLine; omega
          skip
          refine ⟨rfl, ?_⟩
          with_reducible refine GK.use (by assumption) ?_
          with_reducible refine SS.nil ?_
          with_reducible refine GK.use (by assumption) ?_
          with_reducible refine SS.nil ?_
          with_reducible refine GK.use (by assumption) ?_
          with_reducible refine SS.nil ?_
          obtain ⟨f1, f2, f3⟩ := fin s (by simp [numAt, valT, hq])
          exact ⟨trivial, m, n, acc ++ [s], hT, hm, by rw [show (n : Int) + -1 = (n : Int) - 1 by omega], by (((with_reducible refine (upd_ne ?_).trans ?_); (focus (first | assumption | exact (by decide))); with_reducible assumption)), by (((with_reducible refine (upd_ne ?_).trans ?_); (focus (first | assumption | exact (by decide))); with_reducible assumption)), by (((with_reducible refine (upd_ne ?_).trans ?_); (focus (first | assumption | exact (by decide))); with_reducible assumption)), f1, f2, f3⟩
    · rintro l H1 ⟨m, n, acc, hT, hm, hr, l1, l2, l3, X1, HD, e1⟩
      have hn : n = 0 := by have := congrArg List.length hr; simpa [rangeL_length] using this.symm
      subst hn
      rw [numsDown, List.append_nil] at e1
      subst e1
      exact ⟨m, hT, l1, HD, X1⟩
  · rintro l H1 ⟨m, hT, l1, HD, X1⟩
    with_reducible refine GK.use (by assumption) ?_
    with_reducible refine SS.cons (ST.gen fun _ _ => ?_)
    with_reducible refine ST.ret ?_
    with_reducible apply ET.var (by assumption)
    focus with_reducible assumption
    focus exact rfl
    with_reducible refine GK.use (by assumption) ?_
    skip
    exact h D m H1 hT X1 HD
end
end Mine
end
section
open PySem PySem.W PyProof.Rows PySem.Calls PySem.Spec
set_option maxRecDepth 100000
set_option maxHeartbeats 1000000
namespace Mine
section
variable {g : Gd} {A : Around} {H : PH} {Q : PV → PH → Prop}
theorem gl_iadd (I : Is g) : nsIn g.K mainGlobals "iadd" = some (some (.ref 162)) := by rw [I.K]; k_is
theorem gl_isub (I : Is g) : nsIn g.K mainGlobals "isub" = some (some (.ref 169)) := by rw [I.K]; k_is
theorem ck_162 (I : Is g) : CallK g (.ref 162) := .inr (.inr (by rw [I.K]; k_is))
theorem ck_169 (I : Is g) : CallK g (.ref 169) := .inr (.inr (by rw [I.K]; k_is))
inductive WorthM (H : PH) (ns : List Int) (x u : Int) (l : PL) (H1 : PH) : Prop where
  | mk  (_ : l (Str.ofString "worth") = some (.int (worthL ns x u))) (_ : Ext H H1) : WorthM H ns x u l H1
inductive WorthI (H : PH) (ns : List Int) (x u : Int) (r : List PV) (l : PL) (H1 : PH) : Prop where
  | mk (r1 r2 : List Int) (w s : Int) (_ : ns = r1 ++ r2) (_ : r = r2.map PV.int) (_ : l (Str.ofString "x") = some (.int x)) (_ : l (Str.ofString "under") = some (.int u)) (_ : l (Str.ofString "worth") = some (.int w)) (_ : l (Str.ofString "share") = some (.int s)) (_ : s = u ^ r1.length) (_ : worthGo x u r2 w s = worthL ns x u) (_ : Ext H H1) : WorthI H ns x u r l H1
theorem iadd_ct (I : Is g) (R : Room A 3) {a b : Int} (h : Q (.int (a + b)) H) : CT g A H (.ref 162) [.int a, .int b] Q := by
  refine' CT.def (n := 2) (ns := [Str.ofString "a", Str.ofString "b"]) I.ok R (ho := ?ho) (hfd := ?hfd) (hb := ?hb) (hcode := ?hc) (hnames := ?hnm) ?h1 ?h2 ?h3 ?h4 ?h5 ?h6 ?h7 ?h8 ?h9 rfl ?_
  case ho => rw [I.K]; k_is
  case hfd => exact rfl
  case hb => exact rfl
  case hc => rw [I.K]; k_is
  case hnm => exact rfl
  case h1 => exact rfl
  case h2 => exact rfl
  case h3 => exact rfl
  case h4 => exact rfl
  case h5 => exact rfl
  case h6 => exact rfl
  case h7 => (intro s vs hv; obtain ⟨x0, x1, rfl⟩ := len2 hv; exact BindsTo.of_eq rfl)
  case h8 => decide
  case h9 => exact rfl
  intro env A' hE hk hF hR
  dsimp only at hk
  with_reducible refine SS.cons (ST.gen fun _ _ => ?_)
  with_reducible apply ST.aug (by assumption)
  focus refine Or.inl ?_; (with_reducible refine KO.at (by assumption) ?_); exact rfl
  focus with_reducible exact parms_at
  with_reducible apply ET.var (by assumption)
  focus (with_reducible refine (parms_ne ?_).trans ?_); (focus (exact (by decide))); with_reducible exact parms_at
  focus exact rfl
  with_reducible refine InpT.add ?_
  with_reducible refine GK.use (by assumption) ?_
  with_reducible refine SS.cons (ST.gen fun _ _ => ?_)
  with_reducible refine ST.ret ?_
  with_reducible apply ET.var (by assumption)
  focus with_reducible exact upd_at _ _ _
  focus exact rfl
  with_reducible refine GK.use (by assumption) ?_
  exact h
theorem isub_ct (I : Is g) (R : Room A 3) {a b : Int} (h : Q (.int (a - b)) H) : CT g A H (.ref 169) [.int a, .int b] Q := by
  refine' CT.def (n := 2) (ns := [Str.ofString "a", Str.ofString "b"]) I.ok R (ho := ?ho) (hfd := ?hfd) (hb := ?hb) (hcode := ?hc) (hnames := ?hnm) ?h1 ?h2 ?h3 ?h4 ?h5 ?h6 ?h7 ?h8 ?h9 rfl ?_
  case ho => rw [I.K]; k_is
  case hfd => exact rfl
  case hb => exact rfl
  case hc => rw [I.K]; k_is
  case hnm => exact rfl
  case h1 => exact rfl
  case h2 => exact rfl
  case h3 => exact rfl
  case h4 => exact rfl
  case h5 => exact rfl
  case h6 => exact rfl
  case h7 => (intro s vs hv; obtain ⟨x0, x1, rfl⟩ := len2 hv; exact BindsTo.of_eq rfl)
  case h8 => decide
  case h9 => exact rfl
  intro env A' hE hk hF hR
  dsimp only at hk
  with_reducible refine SS.cons (ST.gen fun _ _ => ?_)
  with_reducible apply ST.aug (by assumption)
  focus refine Or.inl ?_; (with_reducible refine KO.at (by assumption) ?_); exact rfl
  focus with_reducible exact parms_at
  with_reducible apply ET.var (by assumption)
  focus (with_reducible refine (parms_ne ?_).trans ?_); (focus (exact (by decide))); with_reducible exact parms_at
  focus exact rfl
  with_reducible refine InpT.sub ?_
  with_reducible refine GK.use (by assumption) ?_
  with_reducible refine SS.cons (ST.gen fun _ _ => ?_)
  with_reducible refine ST.ret ?_
  with_reducible apply ET.var (by assumption)
  focus with_reducible exact upd_at _ _ _
  focus exact rfl
  with_reducible refine GK.use (by assumption) ?_
  exact h

theorem bits_pow2 {n : Nat} (h : n ≤ 40) : Builtin.Int.intBits ((2 : Int) ^ n) ≤ 64 := by
  refine intBits_le ?_
  rw [Int.natAbs_pow]
  exact Nat.pow_lt_pow_right (by decide) (by omega)
theorem worth_ct (I : Is g) (R : Room A 6) {a : Addr} {ns : List Int} {x u : Int} (ha : H a = some (.list (ns.map .int))) (hl : ns.length ≤ 40) (hx : Builtin.Int.intBits x ≤ 64) (hu : u = 1 ∨ u = 2)
    (h : ∀ H', Ext H H' → Q (.int (worthL ns x u)) H') : CT g A H (.ref 219) [.ref a, .int x, .int u] Q := by
  refine' CT.def (n := 5) (ns := [Str.ofString "numbers", Str.ofString "x", Str.ofString "under"]) I.ok R (ho := ?ho) (hfd := ?hfd) (hb := ?hb) (hcode := ?hc) (hnames := ?hnm) ?h1 ?h2 ?h3 ?h4 ?h5 ?h6 ?h7 ?h8 ?h9 rfl ?_
  case ho => rw [I.K]; k_is
  case hfd => exact rfl
  case hb => exact rfl
  case hc => rw [I.K]; k_is
  case hnm => exact rfl
  case h1 => exact rfl
  case h2 => exact rfl
  case h3 => exact rfl
  case h4 => exact rfl
  case h5 => exact rfl
  case h6 => exact rfl
  case h7 => (intro s vs hv; obtain ⟨x0, x1, x2, rfl⟩ := len3 hv; exact BindsTo.of_eq rfl)
  case h8 => decide
  case h9 => exact rfl
  intro env A' hE hk hF hR
  dsimp only at hk
  with_reducible refine SS.cons (ST.gen fun _ _ => ?_)
  with_reducible refine ST.assign (by assumption) ?_ ?_ ?_
  focus refine Or.inl ?_; (with_reducible refine KO.at (by assumption) ?_); exact rfl
  focus exact rfl
  with_reducible refine ET.int ?_
  with_reducible refine GK.use (by assumption) ?_
  with_reducible refine SS.cons (ST.gen fun _ _ => ?_)
  with_reducible refine ST.assign (by assumption) ?_ ?_ ?_
  focus refine Or.inl ?_; (with_reducible refine KO.at (by assumption) ?_); exact rfl
  focus exact rfl
  with_reducible refine ET.int ?_
  with_reducible refine GK.use (by assumption) ?_
  with_reducible refine SS.cons (ST.gen fun _ _ => ?_)
  refine ST.cut (WorthM H ns x u) ?_ ?_
  · refine ST.forI (fun _ _ => rfl) (WorthI H ns x u)
      (fun H1 => H1 a = some (.list (ns.map .int))) (IT.list hR.hh ?_) ?_ ?_
    · with_reducible apply ET.var (by assumption)
      focus (with_reducible refine (upd_ne ?_).trans ?_); (focus (first | assumption | exact (by decide))); (with_reducible refine (upd_ne ?_).trans ?_); (focus (first | assumption | exact (by decide))); with_reducible exact parms_at
      focus exact rfl
      exact ⟨a, _, rfl, ha, rfl, [], ns, 0, 1, rfl, rfl, by (((with_reducible refine (upd_ne ?_).trans ?_); (focus (first | assumption | exact (by decide))); (with_reducible refine (upd_ne ?_).trans ?_); (focus (first | assumption | exact (by decide))); (with_reducible refine (parms_ne ?_).trans ?_); (focus (exact (by decide))); with_reducible exact parms_at)), by (((with_reducible refine (upd_ne ?_).trans ?_); (focus (first | assumption | exact (by decide))); (with_reducible refine (upd_ne ?_).trans ?_); (focus (first | assumption | exact (by decide))); (with_reducible refine (parms_ne ?_).trans ?_); (focus (exact (by decide))); (with_reducible refine (parms_ne ?_).trans ?_); (focus (exact (by decide))); with_reducible exact parms_at)), by (((with_reducible refine (upd_ne ?_).trans ?_); (focus (first | assumption | exact (by decide))); with_reducible exact upd_at _ _ _)), by ((with_reducible exact upd_at _ _ _)), by simp, rfl, Ext.refl _⟩
    · rintro v r l H1 ⟨r1, r2, w, s, e0, hr', l1, l2, l3, l4, hs, e1, X1⟩
      cases r2 with
      | nil => cases hr'
      | cons y r2 =>
      injection hr' with hv hr'
      subst hv hr'
      have hb : Builtin.Int.intBits s ≤ 64 := by
        have hl1 : r1.length ≤ 40 := by rw [e0] at hl; simp at hl; omega
        subst hs
        rcases hu with rfl | rfl
        · rw [Int.one_pow]; decide
        · exact bits_pow2 hl1
      have hub : Builtin.Int.intBits u ≤ 64 := by rcases hu with rfl | rfl <;> decide
      with_reducible refine AT.name (by assumption) ?_ ?_
      focus refine Or.inl ?_; (with_reducible refine KO.at (by assumption) ?_); exact rfl
      with_reducible refine SS.cons (ST.gen fun _ _ => ?_)
      with_reducible refine ST.assign (by assumption) ?_ ?_ ?_
      focus refine Or.inl ?_; (with_reducible refine KO.at (by assumption) ?_); exact rfl
      focus exact rfl
      with_reducible refine ET.call (Is.ok (by assumption)) ?_ ?_
      focus exact rfl
      with_reducible apply ET.glob (by assumption) (Is.ok (by assumption))
      focus (with_reducible refine KO.at (by assumption) ?_); exact rfl
      focus exact rfl
      focus with_reducible exact gl_iadd (by assumption)
      with_reducible refine ⟨_, rfl, ?_, ?_⟩
      focus with_reducible exact ck_162 (by assumption)
      with_reducible refine ETs.cons ?_ ?_
      focus (intro _; exact rfl)
      with_reducible refine ET.binop ?_
      with_reducible apply ET.var (by assumption)
      focus (with_reducible refine (upd_ne ?_).trans ?_); (focus (first | assumption | exact (by decide))); with_reducible assumption
      focus exact rfl
      with_reducible apply ET.var (by assumption)
      focus (with_reducible refine (upd_ne ?_).trans ?_); (focus (first | assumption | exact (by decide))); with_reducible assumption
      focus exact rfl
      refine BinT.mul (.of_right hx) ?_
      with_reducible refine ETs.cons ?_ ?_
      focus (intro _; exact rfl)
      with_reducible refine ET.binop ?_
      with_reducible apply ET.var (by assumption)
      focus with_reducible exact upd_at _ _ _
      focus exact rfl
      with_reducible apply ET.var (by assumption)
      focus (with_reducible refine (upd_ne ?_).trans ?_); (focus (first | assumption | exact (by decide))); with_reducible assumption
      focus exact rfl
      refine BinT.mul (.of_right hb) ?_
      with_reducible refine ETs.nil ?_
      refine iadd_ct I (hR.le (by decide)) ?_
      with_reducible refine GK.use (by assumption) ?_
      with_reducible refine SS.cons (ST.gen fun _ _ => ?_)
      with_reducible apply ST.aug (by assumption)
      focus refine Or.inl ?_; (with_reducible refine KO.at (by assumption) ?_); exact rfl
      focus (with_reducible refine (upd_ne ?_).trans ?_); (focus (first | assumption | exact (by decide))); (with_reducible refine (upd_ne ?_).trans ?_); (focus (first | assumption | exact (by decide))); with_reducible assumption
      with_reducible apply ET.var (by assumption)
      focus (with_reducible refine (upd_ne ?_).trans ?_); (focus (first | assumption | exact (by decide))); (with_reducible refine (upd_ne ?_).trans ?_); (focus (first | assumption | exact (by decide))); with_reducible assumption
      focus exact rfl
      refine InpT.mul (.of_right hub) ?_
      with_reducible refine GK.use (by assumption) ?_
      with_reducible refine SS.nil ?_
      exact ⟨X1 _ _ ha, r1 ++ [y], r2, _, _, by rw [e0]; simp, rfl, by (((with_reducible refine (upd_ne ?_).trans ?_); (focus (first | assumption | exact (by decide))); (with_reducible refine (upd_ne ?_).trans ?_); (focus (first | assumption | exact (by decide))); (with_reducible refine (upd_ne ?_).trans ?_); (focus (first | assumption | exact (by decide))); with_reducible assumption)), by (((with_reducible refine (upd_ne ?_).trans ?_); (focus (first | assumption | exact (by decide))); (with_reducible refine (upd_ne ?_).trans ?_); (focus (first | assumption | exact (by decide))); (with_reducible refine (upd_ne ?_).trans ?_); (focus (first | assumption | exact (by decide))); with_reducible assumption)), by (((with_reducible refine (upd_ne ?_).trans ?_); (focus (first | assumption | exact (by decide))); with_reducible exact upd_at _ _ _)), by ((with_reducible exact upd_at _ _ _)), by rw [hs]; simp [Int.pow_succ], e1, X1⟩
    · rintro l H1 ⟨r1, r2, w, s, e0, hr', l1, l2, l3, l4, hs, e1, X1⟩
      obtain rfl : r2 = [] := by cases r2 with | nil => rfl | cons _ _ => cases hr'
      rw [worthGo] at e1
      subst e1
      exact ⟨l3, X1⟩
  · rintro l H1 ⟨l1, X1⟩
    with_reducible refine GK.use (by assumption) ?_
    with_reducible refine SS.cons (ST.gen fun _ _ => ?_)
    with_reducible refine ST.ret ?_
    with_reducible apply ET.var (by assumption)
    focus with_reducible assumption
    focus exact rfl
    with_reducible refine GK.use (by assumption) ?_
    skip
    exact h H1 X1
end
end Mine
end
section
open PySem PySem.W PyProof.Rows PySem.Calls PySem.Spec
set_option maxRecDepth 100000
set_option maxHeartbeats 1000000
namespace Mine
section
variable {g : Gd} {A : Around} {H : PH} {Q : PV → PH → Prop}
theorem gl_worth (I : Is g) : nsIn g.K mainGlobals "_law_worth" = some (some (.ref 219)) := by rw [I.K]; k_is
theorem ck_219 (I : Is g) : CallK g (.ref 219) := .inr (.inr (by rw [I.K]; k_is))
inductive ChM1 (H : PH) (nss : List (List Int)) (x : Int) (l : PL) (H1 : PH) : Prop where
  | mk (W : Addr) (_ : l (Str.ofString "worths") = some (.ref W)) (_ : H1 W = some (.list ((worthsAt nss x).map .int))) (_ : Ext H H1) : ChM1 H nss x l H1
inductive ChI1 (H : PH) (nss : List (List Int)) (x : Int) (r : List PV) (acc : List PV) (H1 : PH) : Prop where
  | mk (as2 : List Addr) (n1 n2 : List (List Int)) (_ : nss = n1 ++ n2) (_ : r = as2.map PV.ref) (_ : Refs H1 as2 n2) (_ : acc = (worthsAt n1 x).map .int) (_ : Ext H H1) : ChI1 H nss x r acc H1
inductive ChM2 (H : PH) (ws : List Int) (l : PL) (H2 : PH) : Prop where
  | mk (S : Addr) (_ : l (Str.ofString "signs") = some (.ref S)) (_ : H2 S = some (.list ((signsOf ws).map .bool))) (_ : Ext H H2) : ChM2 H ws l H2
inductive ChI2 (H1 : PH) (ws : List Int) (r : List PV) (acc : List PV) (H2 : PH) : Prop where
  | mk (w1 w2 : List Int) (_ : ws = w1 ++ w2) (_ : r = w2.map PV.int) (_ : acc = (signsOf w1).map .bool) (_ : Ext H1 H2) : ChI2 H1 ws r acc H2
inductive ChI3 (H2 : PH) (ss : List Bool) (r : List PV) (acc : List PV) (H3 : PH) : Prop where
  | mk (j m : Nat) (_ : j + m = ss.length - 1) (_ : r = rangeL (1 + (j : Int)) 1 m) (_ : acc.length = changesAt ss j) (_ : Ext H2 H3) : ChI3 H2 ss r acc H3
theorem changes_ct (I : Is g) (R : Room A 9) {a : Addr} {as : List Addr} {nss : List (List Int)} {x : Int} (ha : H a = some (.list (as.map .ref))) (hr : Refs H as nss) (hl : nss.length ≤ 100) (hn : ∀ ns ∈ nss, ns.length ≤ 40) (hx : Builtin.Int.intBits x ≤ 64)
    (h : ∀ H', Ext H H' → Q (.int (changesN (signsOf (worthsAt nss x)))) H') : CT g A H (.ref 224) [.ref a, .int x] Q := by
  refine' CT.def (n := 8) (ns := [Str.ofString "sizes", Str.ofString "x"]) I.ok R (ho := ?ho) (hfd := ?hfd) (hb := ?hb) (hcode := ?hc) (hnames := ?hnm) ?h1 ?h2 ?h3 ?h4 ?h5 ?h6 ?h7 ?h8 ?h9 rfl ?_
  case ho => rw [I.K]; k_is
  case hfd => exact rfl
  case hb => exact rfl
  case hc => rw [I.K]; k_is
  case hnm => exact rfl
  case h1 => exact rfl
  case h2 => exact rfl
  case h3 => exact rfl
  case h4 => exact rfl
  case h5 => exact rfl
  case h6 => exact rfl
  case h7 => (intro s vs hv; obtain ⟨x0, x1, rfl⟩ := len2 hv; exact BindsTo.of_eq rfl)
  case h8 => decide
  case h9 => exact rfl
  intro env A' hE hk hF hR
  dsimp only at hk
  with_reducible refine SS.cons (ST.gen fun _ _ => ?_)
  refine ST.cut (ChM1 H nss x) ?_ ?_
  · with_reducible refine ST.assignL (Is.ok (by assumption)) (CompOk.of (by assumption) ?_ ?_) (by assumption) ?_ (swaps_L (by assumption) ?_ ?_ ?_) ?_ ?_
    focus exact rfl
    focus exact (by decide)
    focus refine Or.inl ?_; (with_reducible refine KO.at (by assumption) ?_); exact rfl
    focus (with_reducible refine KO.at (by assumption) ?_); exact rfl
    focus exact rfl
    focus exact (by decide)
    focus (intro _ _; exact rfl)
    refine IT.list hR.hh ?_
    with_reducible apply ET.var (by assumption)
    focus with_reducible exact parms_at
    focus exact rfl
    refine ⟨a, _, rfl, ha, ?_⟩
    refine CompL.inv (ChI1 H nss x) ?_ ?_ ⟨as, [], nss, rfl, rfl, hr, rfl, Ext.refl _⟩
    · rintro v r acc H1 ⟨as2, n1, n2, e0, hr', hR2, rfl, X1⟩ cl L hE'
      match as2, n2, hR2, hr' with
      | b :: as2, ns :: n2, ⟨hb, hR2⟩, hr' =>
      injection hr' with hv hr2
      subst hv hr2
      have hl1 : n1.length ≤ 100 := by rw [e0] at hl; simp at hl; omega
      with_reducible refine AT.name (by assumption) ?_ ?_
      focus refine Or.inl ?_; exact rfl
      with_reducible refine TestsT.no ?_
      with_reducible refine iteT ?_
      with_reducible refine ET.call (Is.ok (by assumption)) ?_ ?_
      focus exact rfl
      with_reducible apply ET.glob (by assumption) (Is.ok (by assumption))
      focus exact rfl
      focus exact rfl
      focus with_reducible exact gl_worth (by assumption)
      with_reducible refine ⟨_, rfl, ?_, ?_⟩
      focus with_reducible exact ck_219 (by assumption)
      with_reducible refine ETs.cons ?_ ?_
      focus (intro _; exact rfl)
      with_reducible apply ET.var (by assumption)
      focus with_reducible exact upd_at _ _ _
      focus exact rfl
      with_reducible refine ETs.cons ?_ ?_
      focus (intro _; exact rfl)
      with_reducible apply ET.var (by assumption)
      focus (with_reducible refine (upd_ne ?_).trans ?_); (focus (first | assumption | exact (by decide))); (with_reducible refine (lcap_free ?_).trans ?_); (focus exact rfl); (with_reducible refine (parms_ne ?_).trans ?_); (focus (exact (by decide))); with_reducible exact parms_at
      focus exact rfl
      with_reducible refine ETs.cons ?_ ?_
      focus (intro _; exact rfl)
      with_reducible refine ET.int ?_
      with_reducible refine ETs.nil ?_
      refine worth_ct I (hR.le (by decide)) hb (hn ns (by rw [e0]; simp)) hx (.inr rfl) fun H2 X2 => ?_
      exact ⟨X2 _ _ (X1 _ _ ha), by simp [worthsAt]; unfold sizeLine; omega, as2, n1 ++ [ns], n2, by rw [e0]; simp, rfl, hR2.ext X2, by simp [worthsAt], X1.trans X2⟩
    · rintro acc H1 ⟨as2, n1, n2, e0, hr', hR2, rfl, X1⟩
      match as2, n2, hR2, hr' with
      | [], [], _, _ =>
      rw [List.append_nil] at e0
      subst e0
      refine ⟨by simp [worthsAt]; unfold sizeLine; omega, fun D hD => ⟨D, by ((with_reducible exact upd_at _ _ _)), hup_at _ _ _, X1.hup hD⟩⟩
  · rintro l H1 ⟨W, l1, HW, X1⟩
    generalize hws : worthsAt nss x = ws at *
    have hwl : ws.length ≤ 100 := by rw [← hws]; simpa [worthsAt] using hl
    with_reducible refine GK.use (by assumption) ?_
    with_reducible refine SS.cons (ST.gen fun _ _ => ?_)
    refine ST.cut (ChM2 H ws) ?_ ?_
    · with_reducible refine ST.assign (by assumption) ?_ (swaps_cell ?_) ?_
      focus refine Or.inr ⟨?_, by assumption⟩; (with_reducible refine KO.at (by assumption) ?_); exact rfl
      focus (with_reducible refine KO.at (by assumption) ?_); exact rfl
      with_reducible refine ET.listcomp (Is.ok (by assumption)) (CompOk.of (by assumption) ?_ ?_) (by assumption) ?_ ?_
      focus exact rfl
      focus exact (by decide)
      focus (intro _ _; exact rfl)
      refine IT.list hR.hh ?_
      with_reducible apply ET.var (by assumption)
      focus with_reducible assumption
      focus exact rfl
      refine ⟨W, _, rfl, HW, ?_⟩
      refine CompL.inv (ChI2 H1 ws) ?_ ?_ ⟨[], ws, rfl, rfl, rfl, Ext.refl _⟩
      · rintro v r acc H2 ⟨w1, w2, e0, hr', rfl, X2⟩ cl L hE'
        cases w2 with
        | nil => cases hr'
        | cons y w2 =>
        injection hr' with hv hr'
        subst hv hr'
        have hl1 : (signsOf w1).length ≤ 100 := by
          have := List.length_filter_le (fun w : Int => w != 0) w1
          rw [e0] at hwl; simp at hwl; simp [signsOf]; omega
        with_reducible refine AT.name (by assumption) ?_ ?_
        focus refine Or.inl ?_; exact rfl
        with_reducible refine TestsT.one ?_
        with_reducible refine BT.cmp ?_ ?_
        focus exact rfl
        with_reducible apply ET.var (by assumption)
        focus with_reducible exact upd_at _ _ _
        focus exact rfl
        with_reducible refine ET.int ?_
        with_reducible refine CmpT.neI ?_
        with_reducible refine TrT.bool ?_
        refine iteC (fun hc => ?_) (fun hc => ?_)
        · with_reducible refine ET.cmp ?_ ?_
          focus exact rfl
          with_reducible apply ET.var (by assumption)
          focus with_reducible exact upd_at _ _ _
          focus exact rfl
          with_reducible refine ET.int ?_
          with_reducible refine CmpT.gtI ?_
          exact ⟨X2 _ _ HW, by simp; unfold sizeLine; omega, w1 ++ [y], w2, by rw [e0]; simp, rfl, by simp [signsOf, List.filter_append, hc], X2⟩
        · exact ⟨X2 _ _ HW, w1 ++ [y], w2, by rw [e0]; simp, rfl, by simp [signsOf, List.filter_append, hc], X2⟩
      · rintro acc H2 ⟨w1, w2, e0, hr', rfl, X2⟩
        obtain rfl : w2 = [] := by cases w2 with | nil => rfl | cons _ _ => cases hr'
        rw [List.append_nil] at e0
        subst e0
        have hl1 : (signsOf ws).length ≤ 100 := by
          have := List.length_filter_le (fun w : Int => w != 0) ws
          simp [signsOf]; omega
        refine ⟨by simp; unfold sizeLine; omega, fun D hD => ⟨D, by ((with_reducible exact upd_at _ _ _)), hup_at _ _ _, (X1.trans X2).hup hD⟩⟩
    · rintro l H2 ⟨S, l2, HS, X2⟩
      generalize hss : signsOf ws = ss at *
      have hsl : ss.length ≤ 100 := by
        have := List.length_filter_le (fun w : Int => w != 0) ws
        rw [← hss]; simp [signsOf]; omega
      with_reducible refine GK.use (by assumption) ?_
      with_reducible refine SS.cons (ST.gen fun _ _ => ?_)
      with_reducible refine ST.ret ?_
      with_reducible refine ET.call (Is.ok (by assumption)) ?_ ?_
      focus exact rfl
      with_reducible apply ET.bi (by assumption) (Is.ok (by assumption))
      focus (with_reducible refine KO.at (by assumption) ?_); exact rfl
      focus exact rfl
      focus with_reducible exact gb_len (by assumption)
      with_reducible refine ⟨_, rfl, ?_, ?_⟩
      focus with_reducible exact ck_len
      with_reducible refine ETs.cons ?_ ?_
      focus (intro _; exact rfl)
      with_reducible refine ET.listcomp (Is.ok (by assumption)) (CompOk.of (by assumption) ?_ ?_) (by assumption) ?_ ?_
      focus exact rfl
      focus exact (by decide)
      focus (intro _ _; exact rfl)
      refine IT.range hR.hh (fun _ _ => rfl) ?_
      with_reducible refine ET.call (Is.ok (by assumption)) ?_ ?_
      focus exact rfl
      with_reducible apply ET.bi (by assumption) (Is.ok (by assumption))
      focus (with_reducible refine KO.at (by assumption) ?_); exact rfl
      focus exact rfl
      focus with_reducible exact gb_range (by assumption)
      with_reducible refine ⟨_, rfl, ?_, ?_⟩
      focus with_reducible exact ck_range
      with_reducible refine ETs.cons ?_ ?_
      focus (intro _; exact rfl)
      with_reducible refine ET.int ?_
      with_reducible refine ETs.cons ?_ ?_
      focus (intro _; exact rfl)
      with_reducible refine ET.call (Is.ok (by assumption)) ?_ ?_
      focus exact rfl
      with_reducible apply ET.bi (by assumption) (Is.ok (by assumption))
      focus (with_reducible refine KO.at (by assumption) ?_); exact rfl
      focus exact rfl
      focus with_reducible exact gb_len (by assumption)
      with_reducible refine ⟨_, rfl, ?_, ?_⟩
      focus with_reducible exact ck_len
      with_reducible refine ETs.cons ?_ ?_
      focus (intro _; exact rfl)
      with_reducible apply ET.var (by assumption)
      focus with_reducible assumption
      focus exact rfl
      with_reducible refine ETs.nil ?_
      refine CT.len HS (by simp; omega) ?_
      with_reducible refine ETs.nil ?_
      refine CT.range2 ?_
      refine ⟨_, _, _, rfl, small_up _ _ (by decide) (by decide) (by simp <;> omega) (by simp <;> omega), ?_⟩
      rw [range_items]
      refine CompL.inv (ChI3 H2 ss) ?_ ?_ ⟨0, ss.length - 1, by omega, ?_, rfl, Ext.refl _⟩
      · rintro v r acc H3 ⟨j, m, e0, hr', hacc, X3⟩ cl L hE'
        cases m with
        | zero => simp [rangeL] at hr'
        | succ m =>
        rw [rangeL_succ] at hr'
        injection hr' with hv hr'
        subst hv hr'
        have HS3 := X3 _ _ HS
        have hle := changesAt_le ss j
        have g1 : (ss.map PV.bool)[(1 + (j : Int)).toNat]? = some (.bool (ss.getD (j + 1) false)) := by
          rw [show (1 + (j : Int)).toNat = j + 1 by omega, List.getElem?_map, List.getD_eq_getElem?_getD, List.getElem?_eq_getElem (by omega)]; rfl
        have g2 : (ss.map PV.bool)[(1 + (j : Int) - 1).toNat]? = some (.bool (ss.getD j false)) := by
          rw [show (1 + (j : Int) - 1).toNat = j by omega, List.getElem?_map, List.getD_eq_getElem?_getD, List.getElem?_eq_getElem (by omega)]; rfl
        with_reducible refine AT.name (by assumption) ?_ ?_
        focus refine Or.inl ?_; exact rfl
        with_reducible refine TestsT.one ?_
        with_reducible refine BT.cmp ?_ ?_
        focus exact rfl
        with_reducible refine ET.sub ?_ ?_
        focus nofun
        with_reducible apply ET.var (by assumption)
        focus (with_reducible refine (upd_ne ?_).trans ?_); (focus (first | assumption | exact (by decide))); (with_reducible refine (lcap_free ?_).trans ?_); (focus exact rfl); with_reducible assumption
        focus exact rfl
        with_reducible apply ET.var (by assumption)
        focus with_reducible exact upd_at _ _ _
        focus exact rfl
        refine SubT.list HS3 (by omega) (by omega) g1 ?_
        with_reducible refine ET.sub ?_ ?_
        focus nofun
        with_reducible apply ET.var (by assumption)
        focus (with_reducible refine (upd_ne ?_).trans ?_); (focus (first | assumption | exact (by decide))); (with_reducible refine (lcap_free ?_).trans ?_); (focus exact rfl); with_reducible assumption
        focus exact rfl
        with_reducible refine ET.binop ?_
        with_reducible apply ET.var (by assumption)
        focus with_reducible exact upd_at _ _ _
        focus exact rfl
        with_reducible refine ET.int ?_
        with_reducible refine BinT.sub ?_
        refine SubT.list HS3 (by omega) (by omega) g2 ?_
        refine CmpT.neB hR ?_
        with_reducible refine TrT.bool ?_
        refine iteC (fun hc => ?_) (fun hc => ?_)
        · with_reducible apply ET.var (by assumption)
          focus with_reducible exact upd_at _ _ _
          focus exact rfl
          exact ⟨trivial, by unfold sizeLine; omega, j + 1, m, by omega, by rw [show 1 + (j : Int) + 1 = 1 + ((j + 1 : Nat) : Int) by omega], by rw [changesAt, hc]; simp [hacc], X3⟩
        · exact ⟨trivial, j + 1, m, by omega, by rw [show 1 + (j : Int) + 1 = 1 + ((j + 1 : Nat) : Int) by omega], by rw [changesAt, hc]; simp [hacc], X3⟩
      · rintro acc H3 ⟨j, m, e0, hr', hacc, X3⟩
        have hm : m = 0 := by have := congrArg List.length hr'; simpa [rangeL_length] using this.symm
        subst hm
        have hle := changesAt_le ss j
        refine ⟨by unfold sizeLine; omega, fun D hD => ?_⟩
        with_reducible refine ETs.nil ?_
        refine CT.len (hup_at _ _ _) (by omega) ?_
        have e1 : acc.length = changesN ss := by rw [hacc, changesN, ← e0]; rfl
        rw [e1]
        with_reducible refine GK.use (by assumption) ?_
        exact h _ ((X2.trans X3).hup hD)
      · congr 1
        simp <;> omega
end
end Mine
end
section
open PySem PySem.W PyProof.Rows PySem.Calls PySem.Spec
set_option maxRecDepth 100000
set_option maxHeartbeats 1000000
namespace Mine
section
variable {g : Gd} {A : Around} {H : PH} {Q : PV → PH → Prop}
theorem BinT.sq {a : Int} (ha : a.natAbs < 2 ^ 64) (h : Q (.int (a ^ 2)) H) : BinT g A H .Pow (.int a) (.int 2) Q := BinT.pow (by decide) (by decide) ha h
theorem getI {ns : List Int} {i : Nat} (h : i < ns.length) {k : Int} (hk : k = i) : (ns.map PV.int)[k.toNat]? = some (.int (ns.getD i 0)) := by
  subst hk
  rw [Int.toNat_natCast, List.getElem?_map, List.getD_eq_getElem?_getD, List.getElem?_eq_getElem h]; rfl
inductive BdI1 (H : PH) (a b c : Addr) (rs : List Int) (m ht : Int) (r : List PV) (l : PL) (H1 : PH) : Prop where
  | mk (i n : Nat) (_ : i + n = rs.length) (_ : r = rangeL (i : Int) 1 n) (_ : l (Str.ofString "roots") = some (.ref a)) (_ : l (Str.ofString "middle") = some (.int m)) (_ : l (Str.ofString "height") = some (.int ht)) (_ : l (Str.ofString "sizes") = some (.ref b)) (_ : l (Str.ofString "counts") = some (.ref c)) (_ : Ext H H1) : BdI1 H a b c rs m ht r l H1
inductive BdM2 (H : PH) (a b c : Addr) (rs : List Int) (m ht : Int) (i : Nat) (l : PL) (H2 : PH) : Prop where
  | mk  (_ : l (Str.ofString "slope") = some (.int (slopeAt rs m ht i))) (_ : l (Str.ofString "i") = some (.int i)) (_ : l (Str.ofString "roots") = some (.ref a)) (_ : l (Str.ofString "middle") = some (.int m)) (_ : l (Str.ofString "height") = some (.int ht)) (_ : l (Str.ofString "sizes") = some (.ref b)) (_ : l (Str.ofString "counts") = some (.ref c)) (_ : Ext H H2) : BdM2 H a b c rs m ht i l H2
inductive BdI2 (H : PH) (a b c : Addr) (rs : List Int) (m ht : Int) (i : Nat) (r : List PV) (l : PL) (H2 : PH) : Prop where
  | mk (j n : Nat) (_ : j + n = rs.length) (_ : r = rangeL (j : Int) 1 n) (_ : l (Str.ofString "slope") = some (.int (slopeGo rs i ((rs.getD i 0 - m) ^ 2 + ht) j))) (_ : l (Str.ofString "i") = some (.int i)) (_ : l (Str.ofString "roots") = some (.ref a)) (_ : l (Str.ofString "middle") = some (.int m)) (_ : l (Str.ofString "height") = some (.int ht)) (_ : l (Str.ofString "sizes") = some (.ref b)) (_ : l (Str.ofString "counts") = some (.ref c)) (_ : Ext H H2) : BdI2 H a b c rs m ht i r l H2
inductive BdM3 (H : PH) (a b c : Addr) (m ht : Int) (l : PL) (H3 : PH) : Prop where
  | mk  (_ : l (Str.ofString "roots") = some (.ref a)) (_ : l (Str.ofString "middle") = some (.int m)) (_ : l (Str.ofString "height") = some (.int ht)) (_ : l (Str.ofString "sizes") = some (.ref b)) (_ : l (Str.ofString "counts") = some (.ref c)) (_ : Ext H H3) : BdM3 H a b c m ht l H3
inductive BdI3 (H : PH) (a b c : Addr) (rs : List Int) (ss : List (List Int)) (m ht : Int) (i : Nat) (r : List PV) (l : PL) (H3 : PH) : Prop where
  | mk (k n : Nat) (_ : k + n = ss.length) (_ : r = rangeL (k : Int) 1 n) (_ : l (Str.ofString "slope") = some (.int (slopeAt rs m ht i))) (_ : l (Str.ofString "i") = some (.int i)) (_ : l (Str.ofString "roots") = some (.ref a)) (_ : l (Str.ofString "middle") = some (.int m)) (_ : l (Str.ofString "height") = some (.int ht)) (_ : l (Str.ofString "sizes") = some (.ref b)) (_ : l (Str.ofString "counts") = some (.ref c)) (_ : Ext H H3) : BdI3 H a b c rs ss m ht i r l H3
theorem bound_ct (I : Is g) (R : Room A 9) {a b c : Addr} {rs : List Int} {m ht : Int} {sa ca : List Addr} {ss cs : List (List Int)} (ha : H a = some (.list (rs.map .int))) (hb : H b = some (.list (sa.map .ref))) (hc : H c = some (.list (ca.map .ref))) (hS : Refs H sa ss) (hC : Refs H ca cs) (hl : rs.length ≤ 3) (hsl : ss.length ≤ 100) (hcl : cs.length = ss.length)
    (hsn : ∀ ns ∈ ss, ns.length ≤ 40) (hcn : ∀ ns ∈ cs, ns.length ≤ 40) (hr : ∀ r ∈ rs, -3 ≤ r ∧ r ≤ 3) (hm : -3 ≤ m ∧ m ≤ 3) (hh : ∀ i < rs.length, Builtin.Int.intBits (slopeAt rs m ht i) ≤ 64)
    (hB : ∀ i < rs.length, ∀ k < ss.length, worthL (ss.getD k []) (rs.getD i 0) 1 = slopeAt rs m ht i * worthL (cs.getD k []) (rs.getD i 0) 1)
    (h : ∀ H', Ext H H' → Q (.bool true) H') : CT g A H (.ref 236) [.ref a, .int m, .int ht, .ref b, .ref c] Q := by
  refine' CT.def (n := 8) (ns := [Str.ofString "roots", Str.ofString "middle", Str.ofString "height", Str.ofString "sizes", Str.ofString "counts"]) I.ok R (ho := ?ho) (hfd := ?hfd) (hb := ?hb) (hcode := ?hc) (hnames := ?hnm) ?h1 ?h2 ?h3 ?h4 ?h5 ?h6 ?h7 ?h8 ?h9 rfl ?_
  case ho => rw [I.K]; k_is
  case hfd => exact rfl
  case hb => exact rfl
  case hc => rw [I.K]; k_is
  case hnm => exact rfl
  case h1 => exact rfl
  case h2 => exact rfl
  case h3 => exact rfl
  case h4 => exact rfl
  case h5 => exact rfl
  case h6 => exact rfl
  case h7 => (intro s vs hv; obtain ⟨x0, x1, x2, x3, x4, rfl⟩ := len5 hv; exact BindsTo.of_eq rfl)
  case h8 => decide
  case h9 => exact rfl
  intro env A' hE hk hF hR
  dsimp only at hk
  have rb : ∀ i, -3 ≤ rs.getD i 0 ∧ rs.getD i 0 ≤ 3 := fun i => by
    rw [List.getD_eq_getElem?_getD]
    by_cases z : i < rs.length
    · rw [List.getElem?_eq_getElem z]; exact hr _ (List.getElem_mem z)
    · rw [List.getElem?_eq_none (by omega)]; exact ⟨by decide, by decide⟩
  have small : ∀ z : Int, -100 ≤ z → z ≤ 100 → Builtin.Int.intBits z ≤ 64 := fun z h1 h2 => intBits_le (by omega)
  with_reducible refine SS.cons (ST.gen fun _ _ => ?_)
  refine ST.cut (fun l H1 => Ext H H1) ?_ ?_
  · refine ST.forI (fun _ _ => rfl) (BdI1 H a b c rs m ht)
      (fun _ => True) (IT.range hR.hh (fun _ _ => rfl) ?_) ?_ ?_
    · with_reducible refine ET.call (Is.ok (by assumption)) ?_ ?_
      focus exact rfl
      with_reducible apply ET.bi (by assumption) (Is.ok (by assumption))
      focus (with_reducible refine KO.at (by assumption) ?_); exact rfl
      focus exact rfl
      focus with_reducible exact gb_range (by assumption)
      with_reducible refine ⟨_, rfl, ?_, ?_⟩
      focus with_reducible exact ck_range
      with_reducible refine ETs.cons ?_ ?_
      focus (intro _; exact rfl)
      with_reducible refine ET.call (Is.ok (by assumption)) ?_ ?_
      focus exact rfl
      with_reducible apply ET.bi (by assumption) (Is.ok (by assumption))
      focus (with_reducible refine KO.at (by assumption) ?_); exact rfl
      focus exact rfl
      focus with_reducible exact gb_len (by assumption)
      with_reducible refine ⟨_, rfl, ?_, ?_⟩
      focus with_reducible exact ck_len
      with_reducible refine ETs.cons ?_ ?_
      focus (intro _; exact rfl)
      with_reducible apply ET.var (by assumption)
      focus with_reducible exact parms_at
      focus exact rfl
      with_reducible refine ETs.nil ?_
      refine CT.len ha (by simp; omega) ?_
      with_reducible refine ETs.nil ?_
      refine CT.range1 ⟨_, _, _, rfl, small_up _ _ (by decide) (by decide) (by simp <;> omega) (by simp <;> omega), rfl, 0, rs.length, by omega, ?_, by ((with_reducible exact parms_at)), by (((with_reducible refine (parms_ne ?_).trans ?_); (focus (exact (by decide))); with_reducible exact parms_at)), by (((with_reducible refine (parms_ne ?_).trans ?_); (focus (exact (by decide))); (with_reducible refine (parms_ne ?_).trans ?_); (focus (exact (by decide))); with_reducible exact parms_at)), by (((with_reducible refine (parms_ne ?_).trans ?_); (focus (exact (by decide))); (with_reducible refine (parms_ne ?_).trans ?_); (focus (exact (by decide))); (with_reducible refine (parms_ne ?_).trans ?_); (focus (exact (by decide))); with_reducible exact parms_at)), by (((with_reducible refine (parms_ne ?_).trans ?_); (focus (exact (by decide))); (with_reducible refine (parms_ne ?_).trans ?_); (focus (exact (by decide))); (with_reducible refine (parms_ne ?_).trans ?_); (focus (exact (by decide))); (with_reducible refine (parms_ne ?_).trans ?_); (focus (exact (by decide))); with_reducible exact parms_at)), Ext.refl _⟩
      rw [range_items]; congr 1; simp
    · rintro v r l H1 ⟨i, n, e0, hr', l1, l2, l3, l4, l5, X1⟩
      cases n with
      | zero => simp [rangeL] at hr'
      | succ n =>
      rw [rangeL_succ] at hr'
      injection hr' with hv hr2
      subst hv hr2
      have hi : i < rs.length := by omega
      have ha1 := X1 _ _ ha
      with_reducible refine AT.name (by assumption) ?_ ?_
      focus refine Or.inl ?_; (with_reducible refine KO.at (by assumption) ?_); exact rfl
      with_reducible refine SS.cons (ST.gen fun _ _ => ?_)
      with_reducible refine ST.assign (by assumption) ?_ ?_ ?_
      focus refine Or.inl ?_; (with_reducible refine KO.at (by assumption) ?_); exact rfl
      focus exact rfl
      with_reducible refine ET.binop ?_
      with_reducible refine ET.binop ?_
      with_reducible refine ET.binop ?_
      with_reducible refine ET.sub ?_ ?_
      focus nofun
      with_reducible apply ET.var (by assumption)
      focus (with_reducible refine (upd_ne ?_).trans ?_); (focus (first | assumption | exact (by decide))); with_reducible assumption
      focus exact rfl
      with_reducible apply ET.var (by assumption)
      focus with_reducible exact upd_at _ _ _
      focus exact rfl
      refine SubT.list ha1 (by omega) (by omega) (getI hi rfl) ?_
      with_reducible apply ET.var (by assumption)
      focus (with_reducible refine (upd_ne ?_).trans ?_); (focus (first | assumption | exact (by decide))); with_reducible assumption
      focus exact rfl
      with_reducible refine BinT.sub ?_
      with_reducible refine ET.int ?_
      have rbi := rb i
      refine BinT.sq (by omega) ?_
      with_reducible apply ET.var (by assumption)
      focus (with_reducible refine (upd_ne ?_).trans ?_); (focus (first | assumption | exact (by decide))); with_reducible assumption
      focus exact rfl
      with_reducible refine BinT.add ?_
      with_reducible refine GK.use (by assumption) ?_
      with_reducible refine SS.cons (ST.gen fun _ _ => ?_)
      refine ST.cut (BdM2 H a b c rs m ht i) ?_ ?_
      · refine ST.forI (fun _ _ => rfl) (BdI2 H a b c rs m ht i)
          (fun _ => True) (IT.range hR.hh (fun _ _ => rfl) ?_) ?_ ?_
        · with_reducible refine ET.call (Is.ok (by assumption)) ?_ ?_
          focus exact rfl
          with_reducible apply ET.bi (by assumption) (Is.ok (by assumption))
          focus (with_reducible refine KO.at (by assumption) ?_); exact rfl
          focus exact rfl
          focus with_reducible exact gb_range (by assumption)
          with_reducible refine ⟨_, rfl, ?_, ?_⟩
          focus with_reducible exact ck_range
          with_reducible refine ETs.cons ?_ ?_
          focus (intro _; exact rfl)
          with_reducible refine ET.call (Is.ok (by assumption)) ?_ ?_
          focus exact rfl
          with_reducible apply ET.bi (by assumption) (Is.ok (by assumption))
          focus (with_reducible refine KO.at (by assumption) ?_); exact rfl
          focus exact rfl
          focus with_reducible exact gb_len (by assumption)
          with_reducible refine ⟨_, rfl, ?_, ?_⟩
          focus with_reducible exact ck_len
          with_reducible refine ETs.cons ?_ ?_
          focus (intro _; exact rfl)
          with_reducible apply ET.var (by assumption)
          focus (with_reducible refine (upd_ne ?_).trans ?_); (focus (first | assumption | exact (by decide))); (with_reducible refine (upd_ne ?_).trans ?_); (focus (first | assumption | exact (by decide))); with_reducible assumption
          focus exact rfl
          with_reducible refine ETs.nil ?_
          refine CT.len ha1 (by simp; omega) ?_
          with_reducible refine ETs.nil ?_
          refine CT.range1 ⟨_, _, _, rfl, small_up _ _ (by decide) (by decide) (by simp <;> omega) (by simp <;> omega), rfl, 0, rs.length, by omega, ?_, by rw [slope_zero]; ((with_reducible exact upd_at _ _ _)), by (((with_reducible refine (upd_ne ?_).trans ?_); (focus (first | assumption | exact (by decide))); with_reducible exact upd_at _ _ _)), by (((with_reducible refine (upd_ne ?_).trans ?_); (focus (first | assumption | exact (by decide))); (with_reducible refine (upd_ne ?_).trans ?_); (focus (first | assumption | exact (by decide))); with_reducible assumption)), by (((with_reducible refine (upd_ne ?_).trans ?_); (focus (first | assumption | exact (by decide))); (with_reducible refine (upd_ne ?_).trans ?_); (focus (first | assumption | exact (by decide))); with_reducible assumption)), by (((with_reducible refine (upd_ne ?_).trans ?_); (focus (first | assumption | exact (by decide))); (with_reducible refine (upd_ne ?_).trans ?_); (focus (first | assumption | exact (by decide))); with_reducible assumption)), by (((with_reducible refine (upd_ne ?_).trans ?_); (focus (first | assumption | exact (by decide))); (with_reducible refine (upd_ne ?_).trans ?_); (focus (first | assumption | exact (by decide))); with_reducible assumption)), by (((with_reducible refine (upd_ne ?_).trans ?_); (focus (first | assumption | exact (by decide))); (with_reducible refine (upd_ne ?_).trans ?_); (focus (first | assumption | exact (by decide))); with_reducible assumption)), X1⟩
          rw [range_items]; congr 1; simp
        · rintro v r l H2 ⟨j, n, e1, hr', l0, l1, l2, l3, l4, l5, l6, X2⟩
          cases n with
          | zero => simp [rangeL] at hr'
          | succ n =>
          rw [rangeL_succ] at hr'
          injection hr' with hv hr3
          subst hv hr3
          have hj : j < rs.length := by omega
          have ha2 := X2 _ _ ha
          have rbj := rb j
          with_reducible refine AT.name (by assumption) ?_ ?_
          focus refine Or.inl ?_; (with_reducible refine KO.at (by assumption) ?_); exact rfl
          with_reducible refine SS.cons (ST.gen fun _ _ => ?_)
          with_reducible refine ST.ite ?_
          with_reducible refine BT.cmp ?_ ?_
          focus exact rfl
          with_reducible apply ET.var (by assumption)
          focus with_reducible exact upd_at _ _ _
          focus exact rfl
          with_reducible apply ET.var (by assumption)
          focus (with_reducible refine (upd_ne ?_).trans ?_); (focus (first | assumption | exact (by decide))); with_reducible assumption
          focus exact rfl
          with_reducible refine CmpT.neI ?_
          with_reducible refine TrT.bool ?_
          refine iteC (fun hc => ?_) (fun hc => ?_)
          · have hne : j ≠ i := by intro z; subst z; simp at hc
            with_reducible refine SS.cons (ST.gen fun _ _ => ?_)
            with_reducible apply ST.aug (by assumption)
            focus refine Or.inl ?_; (with_reducible refine KO.at (by assumption) ?_); exact rfl
            focus (with_reducible refine (upd_ne ?_).trans ?_); (focus (first | assumption | exact (by decide))); with_reducible assumption
            with_reducible refine ET.binop ?_
            with_reducible refine ET.sub ?_ ?_
            focus nofun
            with_reducible apply ET.var (by assumption)
            focus (with_reducible refine (upd_ne ?_).trans ?_); (focus (first | assumption | exact (by decide))); with_reducible assumption
            focus exact rfl
            with_reducible apply ET.var (by assumption)
            focus (with_reducible refine (upd_ne ?_).trans ?_); (focus (first | assumption | exact (by decide))); with_reducible assumption
            focus exact rfl
            refine SubT.list ha2 (by omega) (by omega) (getI hi rfl) ?_
            with_reducible refine ET.sub ?_ ?_
            focus nofun
            with_reducible apply ET.var (by assumption)
            focus (with_reducible refine (upd_ne ?_).trans ?_); (focus (first | assumption | exact (by decide))); with_reducible assumption
            focus exact rfl
            with_reducible apply ET.var (by assumption)
            focus with_reducible exact upd_at _ _ _
            focus exact rfl
            refine SubT.list ha2 (by omega) (by omega) (getI hj rfl) ?_
            with_reducible refine BinT.sub ?_
            refine InpT.mul (.of_right (small _ (by omega) (by omega))) ?_
            with_reducible refine GK.use (by assumption) ?_
            with_reducible refine SS.nil ?_
            with_reducible refine GK.use (by assumption) ?_
            with_reducible refine SS.nil ?_
            exact ⟨trivial, j + 1, n, by omega, by rw [show (j : Int) + 1 = ((j + 1 : Nat) : Int) by omega], by rw [slope_ne hne]; ((with_reducible exact upd_at _ _ _)), by (((with_reducible refine (upd_ne ?_).trans ?_); (focus (first | assumption | exact (by decide))); (with_reducible refine (upd_ne ?_).trans ?_); (focus (first | assumption | exact (by decide))); with_reducible assumption)), by (((with_reducible refine (upd_ne ?_).trans ?_); (focus (first | assumption | exact (by decide))); (with_reducible refine (upd_ne ?_).trans ?_); (focus (first | assumption | exact (by decide))); with_reducible assumption)), by (((with_reducible refine (upd_ne ?_).trans ?_); (focus (first | assumption | exact (by decide))); (with_reducible refine (upd_ne ?_).trans ?_); (focus (first | assumption | exact (by decide))); with_reducible assumption)), by (((with_reducible refine (upd_ne ?_).trans ?_); (focus (first | assumption | exact (by decide))); (with_reducible refine (upd_ne ?_).trans ?_); (focus (first | assumption | exact (by decide))); with_reducible assumption)), by (((with_reducible refine (upd_ne ?_).trans ?_); (focus (first | assumption | exact (by decide))); (with_reducible refine (upd_ne ?_).trans ?_); (focus (first | assumption | exact (by decide))); with_reducible assumption)), by (((with_reducible refine (upd_ne ?_).trans ?_); (focus (first | assumption | exact (by decide))); (with_reducible refine (upd_ne ?_).trans ?_); (focus (first | assumption | exact (by decide))); with_reducible assumption)), X2⟩
          · have he : j = i := by simp at hc; omega
            with_reducible refine SS.nil ?_
            with_reducible refine GK.use (by assumption) ?_
            with_reducible refine SS.nil ?_
            exact ⟨trivial, j + 1, n, by omega, by rw [show (j : Int) + 1 = ((j + 1 : Nat) : Int) by omega], by rw [slope_eq he]; (((with_reducible refine (upd_ne ?_).trans ?_); (focus (first | assumption | exact (by decide))); with_reducible assumption)), by (((with_reducible refine (upd_ne ?_).trans ?_); (focus (first | assumption | exact (by decide))); with_reducible assumption)), by (((with_reducible refine (upd_ne ?_).trans ?_); (focus (first | assumption | exact (by decide))); with_reducible assumption)), by (((with_reducible refine (upd_ne ?_).trans ?_); (focus (first | assumption | exact (by decide))); with_reducible assumption)), by (((with_reducible refine (upd_ne ?_).trans ?_); (focus (first | assumption | exact (by decide))); with_reducible assumption)), by (((with_reducible refine (upd_ne ?_).trans ?_); (focus (first | assumption | exact (by decide))); with_reducible assumption)), by (((with_reducible refine (upd_ne ?_).trans ?_); (focus (first | assumption | exact (by decide))); with_reducible assumption)), X2⟩
        · rintro l H2 ⟨j, n, e1, hr', l0, l1, l2, l3, l4, l5, l6, X2⟩
          have hn : n = 0 := by have := congrArg List.length hr'; simpa [rangeL_length] using this.symm
          have hjl : j = rs.length := by omega
          subst hjl
          exact ⟨l0, l1, l2, l3, l4, l5, l6, X2⟩
      · rintro l H2 ⟨l0, l1, l2, l3, l4, l5, l6, X2⟩
        with_reducible refine GK.use (by assumption) ?_
        with_reducible refine SS.cons (ST.gen fun _ _ => ?_)
        refine ST.cut (BdM3 H a b c m ht) ?_ ?_
        · refine ST.forI (fun _ _ => rfl) (BdI3 H a b c rs ss m ht i)
            (fun _ => True) (IT.range hR.hh (fun _ _ => rfl) ?_) ?_ ?_
          · have hlen : (sa.map PV.ref).length = ss.length := by rw [List.length_map]; exact hS.length
            with_reducible refine ET.call (Is.ok (by assumption)) ?_ ?_
            focus exact rfl
            with_reducible apply ET.bi (by assumption) (Is.ok (by assumption))
            focus (with_reducible refine KO.at (by assumption) ?_); exact rfl
            focus exact rfl
            focus with_reducible exact gb_range (by assumption)
            with_reducible refine ⟨_, rfl, ?_, ?_⟩
            focus with_reducible exact ck_range
            with_reducible refine ETs.cons ?_ ?_
            focus (intro _; exact rfl)
            with_reducible refine ET.call (Is.ok (by assumption)) ?_ ?_
            focus exact rfl
            with_reducible apply ET.bi (by assumption) (Is.ok (by assumption))
            focus (with_reducible refine KO.at (by assumption) ?_); exact rfl
            focus exact rfl
            focus with_reducible exact gb_len (by assumption)
            with_reducible refine ⟨_, rfl, ?_, ?_⟩
            focus with_reducible exact ck_len
            with_reducible refine ETs.cons ?_ ?_
            focus (intro _; exact rfl)
            with_reducible apply ET.var (by assumption)
            focus with_reducible assumption
            focus exact rfl
            with_reducible refine ETs.nil ?_
            refine CT.len (X2 _ _ hb) (by omega) ?_
            with_reducible refine ETs.nil ?_
            refine CT.range1 ⟨_, _, _, rfl, small_up _ _ (by decide) (by decide) (by omega) (by omega), rfl, 0, ss.length, by omega, ?_, by ((with_reducible assumption)), by ((with_reducible assumption)), by ((with_reducible assumption)), by ((with_reducible assumption)), by ((with_reducible assumption)), by ((with_reducible assumption)), by ((with_reducible assumption)), X2⟩
            rw [range_items, hlen]; congr 1 <;> simp
          · rintro v r l H3 ⟨k, n, e1, hr', l0, l1, l2, l3, l4, l5, l6, X3⟩
            cases n with
            | zero => simp [rangeL] at hr'
            | succ n =>
            rw [rangeL_succ] at hr'
            injection hr' with hv hr3
            subst hv hr3
            have hk1 : k < ss.length := by omega
            have hk2 : k < cs.length := by omega
            obtain ⟨sx, sx1, sx2⟩ := hS.get (i := k) (n := ss.getD k []) (by rw [List.getD_eq_getElem?_getD, List.getElem?_eq_getElem hk1]; rfl)
            obtain ⟨cx, cx1, cx2⟩ := hC.get (i := k) (n := cs.getD k []) (by rw [List.getD_eq_getElem?_getD, List.getElem?_eq_getElem hk2]; rfl)
            have m1 : ss.getD k [] ∈ ss := by rw [List.getD_eq_getElem?_getD, List.getElem?_eq_getElem hk1]; exact List.getElem_mem hk1
            have m2 : cs.getD k [] ∈ cs := by rw [List.getD_eq_getElem?_getD, List.getElem?_eq_getElem hk2]; exact List.getElem_mem hk2
            with_reducible refine AT.name (by assumption) ?_ ?_
            focus refine Or.inl ?_; (with_reducible refine KO.at (by assumption) ?_); exact rfl
            with_reducible refine SS.cons (ST.gen fun _ _ => ?_)
            with_reducible refine ST.ite ?_
            with_reducible refine BT.cmp ?_ ?_
            focus exact rfl
            with_reducible refine ET.call (Is.ok (by assumption)) ?_ ?_
            focus exact rfl
            with_reducible apply ET.glob (by assumption) (Is.ok (by assumption))
            focus (with_reducible refine KO.at (by assumption) ?_); exact rfl
            focus exact rfl
            focus with_reducible exact gl_worth (by assumption)
            with_reducible refine ⟨_, rfl, ?_, ?_⟩
            focus with_reducible exact ck_219 (by assumption)
            with_reducible refine ETs.cons ?_ ?_
            focus (intro _; exact rfl)
            with_reducible refine ET.sub ?_ ?_
            focus nofun
            with_reducible apply ET.var (by assumption)
            focus (with_reducible refine (upd_ne ?_).trans ?_); (focus (first | assumption | exact (by decide))); with_reducible assumption
            focus exact rfl
            with_reducible apply ET.var (by assumption)
            focus with_reducible exact upd_at _ _ _
            focus exact rfl
            refine SubT.list (X3 _ _ hb) (by omega) (by omega) (d := .ref sx) (by rw [Int.toNat_natCast, List.getElem?_map, sx1]; rfl) ?_
            with_reducible refine ETs.cons ?_ ?_
            focus (intro _; exact rfl)
            with_reducible refine ET.sub ?_ ?_
            focus nofun
            with_reducible apply ET.var (by assumption)
            focus (with_reducible refine (upd_ne ?_).trans ?_); (focus (first | assumption | exact (by decide))); with_reducible assumption
            focus exact rfl
            with_reducible apply ET.var (by assumption)
            focus (with_reducible refine (upd_ne ?_).trans ?_); (focus (first | assumption | exact (by decide))); with_reducible assumption
            focus exact rfl
            refine SubT.list (X3 _ _ ha) (by omega) (by omega) (getI hi rfl) ?_
            with_reducible refine ETs.cons ?_ ?_
            focus (intro _; exact rfl)
            with_reducible refine ET.int ?_
            with_reducible refine ETs.nil ?_
            refine worth_ct I (hR.le (by decide)) (X3 _ _ sx2) (hsn _ m1) (small _ (by omega) (by omega)) (.inl rfl) fun H4 X4 => ?_
            with_reducible refine ET.binop ?_
            with_reducible apply ET.var (by assumption)
            focus (with_reducible refine (upd_ne ?_).trans ?_); (focus (first | assumption | exact (by decide))); with_reducible assumption
            focus exact rfl
            with_reducible refine ET.call (Is.ok (by assumption)) ?_ ?_
            focus exact rfl
            with_reducible apply ET.glob (by assumption) (Is.ok (by assumption))
            focus (with_reducible refine KO.at (by assumption) ?_); exact rfl
            focus exact rfl
            focus with_reducible exact gl_worth (by assumption)
            with_reducible refine ⟨_, rfl, ?_, ?_⟩
            focus with_reducible exact ck_219 (by assumption)
            with_reducible refine ETs.cons ?_ ?_
            focus (intro _; exact rfl)
            with_reducible refine ET.sub ?_ ?_
            focus nofun
            with_reducible apply ET.var (by assumption)
            focus (with_reducible refine (upd_ne ?_).trans ?_); (focus (first | assumption | exact (by decide))); with_reducible assumption
            focus exact rfl
            with_reducible apply ET.var (by assumption)
            focus with_reducible exact upd_at _ _ _
            focus exact rfl
            have X34 := X3.trans X4
            refine SubT.list (X34 _ _ hc) (by omega) (by omega) (d := .ref cx) (by rw [Int.toNat_natCast, List.getElem?_map, cx1]; rfl) ?_
            with_reducible refine ETs.cons ?_ ?_
            focus (intro _; exact rfl)
            with_reducible refine ET.sub ?_ ?_
            focus nofun
            with_reducible apply ET.var (by assumption)
            focus (with_reducible refine (upd_ne ?_).trans ?_); (focus (first | assumption | exact (by decide))); with_reducible assumption
            focus exact rfl
            with_reducible apply ET.var (by assumption)
            focus (with_reducible refine (upd_ne ?_).trans ?_); (focus (first | assumption | exact (by decide))); with_reducible assumption
            focus exact rfl
            refine SubT.list (X34 _ _ ha) (by omega) (by omega) (getI hi rfl) ?_
            with_reducible refine ETs.cons ?_ ?_
            focus (intro _; exact rfl)
            with_reducible refine ET.int ?_
            with_reducible refine ETs.nil ?_
            refine worth_ct I (hR.le (by decide)) (X34 _ _ cx2) (hcn _ m2) (small _ (by omega) (by omega)) (.inl rfl) fun H5 X5 => ?_
            refine BinT.mul (.of_left (hh i hi)) ?_
            with_reducible refine CmpT.neI ?_
            with_reducible refine TrT.bool ?_
            refine iteF' (by rw [hB i hi k hk1]; simp) ?_
            with_reducible refine SS.nil ?_
            with_reducible refine GK.use (by assumption) ?_
            with_reducible refine SS.nil ?_
            exact ⟨trivial, k + 1, n, by omega, by rw [show (k : Int) + 1 = ((k + 1 : Nat) : Int) by omega], by (((with_reducible refine (upd_ne ?_).trans ?_); (focus (first | assumption | exact (by decide))); with_reducible assumption)), by (((with_reducible refine (upd_ne ?_).trans ?_); (focus (first | assumption | exact (by decide))); with_reducible assumption)), by (((with_reducible refine (upd_ne ?_).trans ?_); (focus (first | assumption | exact (by decide))); with_reducible assumption)), by (((with_reducible refine (upd_ne ?_).trans ?_); (focus (first | assumption | exact (by decide))); with_reducible assumption)), by (((with_reducible refine (upd_ne ?_).trans ?_); (focus (first | assumption | exact (by decide))); with_reducible assumption)), by (((with_reducible refine (upd_ne ?_).trans ?_); (focus (first | assumption | exact (by decide))); with_reducible assumption)), by (((with_reducible refine (upd_ne ?_).trans ?_); (focus (first | assumption | exact (by decide))); with_reducible assumption)), X34.trans X5⟩
          · rintro l H3 ⟨k, n, e1, hr', l0, l1, l2, l3, l4, l5, l6, X3⟩
            exact ⟨l2, l3, l4, l5, l6, X3⟩
        · rintro l H3 ⟨l2, l3, l4, l5, l6, X3⟩
          with_reducible refine GK.use (by assumption) ?_
          with_reducible refine SS.nil ?_
          exact ⟨trivial, i + 1, n, by omega, by rw [show (i : Int) + 1 = ((i + 1 : Nat) : Int) by omega], l2, l3, l4, l5, l6, X3⟩
    · rintro l H1 ⟨i, n, e0, hr', l1, l2, l3, l4, l5, X1⟩
      exact X1
  · rintro l H1 X1
    with_reducible refine GK.use (by assumption) ?_
    with_reducible refine SS.cons (ST.gen fun _ _ => ?_)
    with_reducible refine ST.ret ?_
    with_reducible refine ET.bool ?_
    with_reducible refine GK.use (by assumption) ?_
    skip
    exact h H1 X1
end
end Mine
end
section
open PySem PySem.W PyProof.Rows PySem.Calls PySem.Spec
set_option maxRecDepth 100000
set_option maxHeartbeats 1000000
namespace Mine
section
variable {g : Gd} {A : Around} {H : PH} {Q : PV → PH → Prop}
theorem gl_slope (I : Is g) : nsIn g.K mainGlobals "_law_slope" = some (some (.ref 193)) := by rw [I.K]; k_is
theorem gl_high (I : Is g) : nsIn g.K mainGlobals "_law_highest" = some (some (.ref 198)) := by rw [I.K]; k_is
theorem gb_abs (I : Is g) : GB g "abs" (.builtin "abs") := ⟨by rw [I.K]; k_is, by decide, rfl⟩
theorem ck_193 (I : Is g) : CallK g (.ref 193) := .inr (.inr (by rw [I.K]; k_is))
theorem ck_198 (I : Is g) : CallK g (.ref 198) := .inr (.inr (by rw [I.K]; k_is))
theorem ck_abs : CallK g (.builtin "abs") := .inl ⟨_, rfl⟩
theorem last1 {pa : List Addr} {x y : Addr} : ((pa ++ [x, y]).map PV.ref)[((-1 : Int) + ((pa ++ [x, y]).map PV.ref).length).toNat]? = some (.ref y) := by
  have : ((-1 : Int) + ((pa ++ [x, y]).map PV.ref).length).toNat = pa.length + 1 := by simp; omega
  rw [this]; simp
theorem last2 {pa : List Addr} {x y : Addr} : ((pa ++ [x, y]).map PV.ref)[((-2 : Int) + ((pa ++ [x, y]).map PV.ref).length).toNat]? = some (.ref x) := by
  have : ((-2 : Int) + ((pa ++ [x, y]).map PV.ref).length).toNat = pa.length := by simp; omega
  rw [this]; simp
theorem TRefs.last1 {pa : List Addr} {x y : Addr} {pt : List (Tab Int)} {u v : Tab Int} (h : TRefs g H CS (pa ++ [x, y]) (pt ++ [u, v])) : ∃ ep, H y = some ((ik g).pack (tabP .int CS v) ep) := by
  have hl : pa.length = pt.length := by have := h.1; simpa using this
  exact h.2 (pa.length + 1) y v (by simp) (by rw [hl]; simp)
theorem TRefs.last2 {pa : List Addr} {x y : Addr} {pt : List (Tab Int)} {u v : Tab Int} (h : TRefs g H CS (pa ++ [x, y]) (pt ++ [u, v])) : ∃ ep, H x = some ((ik g).pack (tabP .int CS u) ep) := by
  have hl : pa.length = pt.length := by have := h.1; simpa using this
  exact h.2 pa.length x u (by simp) (by rw [hl]; simp)
theorem okLen {t : Tab Int} {K : Int} {B : Nat} (h : TabOk t K B) (hK : K ≤ 11) : t.length ≤ 100 := by
  have := (TabOk.mono h hK (Nat.le_refl B)).len (K := 11); omega

inductive OutInv (g : Gd) (H : PH) (t : Tab Int) (D : Addr) (n : Nat) (l : PL) (H1 : PH) : Prop where
  | mk (pa : List Addr) (xa : Addr) (ya : Addr) (pt : List (Tab Int)) (x : Tab Int) (y : Tab Int) (dx : Int) (dy : Int) (acc : List (Tab Int)) (_ : l (Str.ofString "row") = some (.ref D)) (_ : H1 D = some (.list ((pa ++ [xa, ya]).map .ref))) (_ : TRefs g H1 CS (pa ++ [xa, ya]) (pt ++ [x, y])) (_ : t :: slopeT t :: acc = pt ++ [x, y]) (_ : IsHigh x dx) (_ : IsHigh y dy) (_ : dy < dx) (_ : dx ≤ 5) (_ : TabOk x (10 - dx) (Bd dx - 1)) (_ : TabOk y (10 - dx) (Bd dx - 1)) (_ : (∀ ts, Row x y ts → Row t (slopeT t) (acc ++ ts))) (_ : (∀ z ∈ pt ++ [x, y], ∃ B, TabOk z 11 B)) (_ : Ext H H1) (_ : n = (dy + 1).toNat) (_ : pa.length + (dy + 1).toNat ≤ 10) : OutInv g H t D n l H1
inductive InInv (g : Gd) (H1 : PH) (D : Addr) (x y : Tab Int) (dx dy : Int) (n : Nat) (l : PL) (H2 : PH) : Prop where
  | mk (ra : Addr) (r : Tab Int) (top : Int) (m : Nat) (ep : Nat) (_ : l (Str.ofString "row") = some (.ref D)) (_ : l (Str.ofString "rest") = some (.ref ra)) (_ : l (Str.ofString "end") = some (.int dy)) (_ : l (Str.ofString "lead") = some (.int (valT y dy).1)) (_ : l (Str.ofString "top") = some (.int top)) (_ : H2 ra = some ((ik g).pack (tabP .int CS r) ep)) (_ : IsHigh r top) (_ : top ≤ dx) (_ : TabOk r (10 - dy) (m * Bd dx - 1)) (_ : m + (top + 1 - dy).toNat ≤ (dx - dy).toNat + 2) (_ : 1 ≤ m) (_ : (∀ r', Div y dy r r' → Div y dy x r')) (_ : Ext H1 H2) (_ : n = (top + 1 - dy).toNat) : InInv g H1 D x y dx dy n l H2

inductive RowM1 (g : Gd) (H : PH) (t : Tab Int) (D : Addr) (l : PL) (H2 : PH) : Prop where
  | mk (ads : List Addr) (ts : List (Tab Int)) (_ : l (Str.ofString "row") = some (.ref D)) (_ : H2 D = some (.list (ads.map .ref))) (_ : TRefs g H2 CS ads (t :: slopeT t :: ts)) (_ : Row t (slopeT t) ts) (_ : ∀ x ∈ t :: slopeT t :: ts, ∃ B, TabOk x 11 B) (_ : ads.length ≤ 20) (_ : Ext H H2) : RowM1 g H t D l H2
inductive RowM2 (g : Gd) (H5 : PH) (D : Addr) (x y : Tab Int) (dx dy : Int) (l : PL) (H6 : PH) : Prop where
  | mk (ra : Addr) (r : Tab Int) (top : Int) (m ep : Nat) (_ : l (Str.ofString "row") = some (.ref D)) (_ : l (Str.ofString "rest") = some (.ref ra)) (_ : H6 ra = some ((ik g).pack (tabP .int CS r) ep)) (_ : IsHigh r top) (_ : top < dy) (_ : TabOk r (10 - dy) (m * Bd dx - 1)) (_ : m ≤ (dx - dy).toNat + 2) (_ : Div y dy x r) (_ : Ext H5 H6) : RowM2 g H5 D x y dx dy l H6
theorem row_ct (I : Is g) (R : Room A 13) {a : Addr} {t : Tab Int} {ep : Nat} {d : Int} (ha : H a = some ((ik g).pack (tabP .int CS t) ep)) (ht : TabOk t d 22) (hd : IsHigh t d) (hd1 : 1 ≤ d) (hd5 : d ≤ 5)
    (h : ∀ R ads ts H', Ext H H' → H' R = some (.list (ads.map .ref)) → TRefs g H' CS ads (t :: slopeT t :: ts) → Row t (slopeT t) ts → (∀ x ∈ t :: slopeT t :: ts, ∃ B, TabOk x 11 B) → ads.length ≤ 20 → Q (.ref R) H') : CT g A H (.ref 205) [.ref a] Q := by
  have hB := Bd_mono (dx := 5) (dy := d) (by omega)
  have hB5 : Bd 5 = 26 := rfl
  have hs : TabOk (slopeT t) (d - 1) 25 := by
    have hd' : ((d - 1).toNat : Int) = d - 1 := by omega
    have := slopeT_ok (t := t) (K := (d - 1).toNat) (B := 22) (by rw [hd', show d - 1 + 1 = d by omega]; exact ht) (by omega) (by decide)
    rwa [hd'] at this
  refine' CT.def (n := 12) (ns := [Str.ofString "table"]) I.ok R (ho := ?ho) (hfd := ?hfd) (hb := ?hb) (hcode := ?hc) (hnames := ?hnm) ?h1 ?h2 ?h3 ?h4 ?h5 ?h6 ?h7 ?h8 ?h9 rfl ?_
  case ho => rw [I.K]; k_is
  case hfd => exact rfl
  case hb => exact rfl
  case hc => rw [I.K]; k_is
  case hnm => exact rfl
  case h1 => exact rfl
  case h2 => exact rfl
  case h3 => exact rfl
  case h4 => exact rfl
  case h5 => exact rfl
  case h6 => exact rfl
  case h7 => (intro s vs hv; obtain ⟨x0, rfl⟩ := len1 hv; exact BindsTo.of_eq rfl)
  case h8 => decide
  case h9 => exact rfl
  intro env A' hE hk hF hR
  dsimp only at hk
  with_reducible refine SS.cons (ST.gen fun _ _ => ?_)
  with_reducible refine ST.assign (by assumption) ?_ ?_ ?_
  focus refine Or.inl ?_; (with_reducible refine KO.at (by assumption) ?_); exact rfl
  focus exact rfl
  with_reducible refine ET.list (Is.ok (by assumption)) ?_
  with_reducible refine ETs.cons ?_ ?_
  focus (intro _; exact rfl)
  with_reducible apply ET.var (by assumption)
  focus with_reducible exact parms_at
  focus exact rfl
  with_reducible refine ETs.cons ?_ ?_
  focus (intro _; exact rfl)
  with_reducible refine ET.call (Is.ok (by assumption)) ?_ ?_
  focus exact rfl
  with_reducible apply ET.glob (by assumption) (Is.ok (by assumption))
  focus (with_reducible refine KO.at (by assumption) ?_); exact rfl
  focus exact rfl
  focus with_reducible exact gl_slope (by assumption)
  with_reducible refine ⟨_, rfl, ?_, ?_⟩
  focus with_reducible exact ck_193 (by assumption)
  with_reducible refine ETs.cons ?_ ?_
  focus (intro _; exact rfl)
  with_reducible apply ET.var (by assumption)
  focus with_reducible exact parms_at
  focus exact rfl
  with_reducible refine ETs.nil ?_
  refine slope_ct I (hR.le (by decide)) ha (Nat.le_trans (okLen ht (by omega)) (by decide)) (fun e he => .of_left (intBits_le (by have := ht.ent e he; omega))) fun sl ep1 H1 hsl X1 Hsl => ?_
  with_reducible refine ETs.nil ?_
  with_reducible refine szAnd ?_ ?_
  focus exact rfl
  intro D hD
  with_reducible refine GK.use (by assumption) ?_
  with_reducible refine SS.cons (ST.gen fun _ _ => ?_)
  have hD0 : H D = none := by
    cases q : H D with
    | none => rfl
    | some po => have := X1 _ _ q; rw [hD] at this; cases this
  refine ST.cut (RowM1 g H t D) ?_ ?_
  · refine ST.while (OutInv g H t D) ?_ (d - 1 + 1).toNat ⟨[], a, sl, [], t, slopeT t, d, d - 1, [], by ((with_reducible exact upd_at _ _ _)), hup_at _ _ _, ?_, rfl, hd, slope_high ht.nk hd hd1, by omega, hd5, ht.mono (by omega) (by omega), hs.mono (by omega) (by omega), fun ts h => h, ?_, X1.hup hD, rfl, by simp; omega⟩
    · rintro n l H2 ⟨pa, xa, ya, pt, x, y, dx, dy, acc, l1, HD, HT, e0, hx, hy, hxy, hx5, okx, oky, hrow, hsm, X2, hn, hpl⟩
      obtain ⟨epy, Hy⟩ := HT.last1
      have hdy := hy.2.1
      have lay : y.length ≤ 100 := okLen oky (by omega)
      have lax : x.length ≤ 100 := okLen okx (by omega)
      have hlen2 : ((pa ++ [xa, ya]).map PV.ref).length = pa.length + 2 := by simp
      with_reducible refine BT.cmp ?_ ?_
      focus exact rfl
      with_reducible refine ET.call (Is.ok (by assumption)) ?_ ?_
      focus exact rfl
      with_reducible apply ET.glob (by assumption) (Is.ok (by assumption))
      focus (with_reducible refine KO.at (by assumption) ?_); exact rfl
      focus exact rfl
      focus with_reducible exact gl_high (by assumption)
      with_reducible refine ⟨_, rfl, ?_, ?_⟩
      focus with_reducible exact ck_198 (by assumption)
      with_reducible refine ETs.cons ?_ ?_
      focus (intro _; exact rfl)
      with_reducible refine ET.sub ?_ ?_
      focus nofun
      with_reducible apply ET.var (by assumption)
      focus with_reducible assumption
      focus exact rfl
      with_reducible refine ET.unop ?_
      with_reducible refine ET.int ?_
      with_reducible refine UnT.neg ?_
      refine SubT.listNeg HD (by decide) (by omega) (by decide) last1 ?_
      with_reducible refine ETs.nil ?_
      refine high_ct I (hR.le (by decide)) Hy (Nat.le_trans lay (by decide)) fun m H3 hm X3 => ?_
      obtain rfl := hy.uniq oky.nk hm
      with_reducible refine ET.int ?_
      with_reducible refine CmpT.geI ?_
      with_reducible refine TrT.bool ?_
      refine iteC (fun hc => ?_) (fun hc => ?_)
      · have hdy0 : 0 ≤ dy := by simpa using hc
        have HD3 := X3 _ _ HD
        have HT3 := HT.ext X3
        obtain ⟨epx, Hx⟩ := HT3.last2
        obtain ⟨epy3, Hy3⟩ := HT3.last1
        have B1 := Bd_pos dx
        have B2 := Bd_small (d := dx) (by omega)
        have B3 := Bd_step hdy hxy hx5
        with_reducible refine SS.cons (ST.gen fun _ _ => ?_)
        with_reducible refine ST.assign (by assumption) ?_ ?_ ?_
        focus refine Or.inl ?_; (with_reducible refine KO.at (by assumption) ?_); exact rfl
        focus exact rfl
        with_reducible refine ET.sub ?_ ?_
        focus nofun
        with_reducible apply ET.var (by assumption)
        focus with_reducible assumption
        focus exact rfl
        with_reducible refine ET.unop ?_
        with_reducible refine ET.int ?_
        with_reducible refine UnT.neg ?_
        refine SubT.listNeg HD3 (by decide) (by omega) (by decide) last2 ?_
        with_reducible refine GK.use (by assumption) ?_
        with_reducible refine SS.cons (ST.gen fun _ _ => ?_)
        with_reducible refine ST.assign (by assumption) ?_ ?_ ?_
        focus refine Or.inl ?_; (with_reducible refine KO.at (by assumption) ?_); exact rfl
        focus exact rfl
        with_reducible refine ET.call (Is.ok (by assumption)) ?_ ?_
        focus exact rfl
        with_reducible apply ET.glob (by assumption) (Is.ok (by assumption))
        focus (with_reducible refine KO.at (by assumption) ?_); exact rfl
        focus exact rfl
        focus with_reducible exact gl_high (by assumption)
        with_reducible refine ⟨_, rfl, ?_, ?_⟩
        focus with_reducible exact ck_198 (by assumption)
        with_reducible refine ETs.cons ?_ ?_
        focus (intro _; exact rfl)
        with_reducible refine ET.sub ?_ ?_
        focus nofun
        with_reducible apply ET.var (by assumption)
        focus (with_reducible refine (upd_ne ?_).trans ?_); (focus (first | assumption | exact (by decide))); with_reducible assumption
        focus exact rfl
        with_reducible refine ET.unop ?_
        with_reducible refine ET.int ?_
        with_reducible refine UnT.neg ?_
        refine SubT.listNeg HD3 (by decide) (by omega) (by decide) last1 ?_
        with_reducible refine ETs.nil ?_
        refine high_ct I (hR.le (by decide)) Hy3 (Nat.le_trans lay (by decide)) fun m H4 hm4 X4 => ?_
        obtain rfl := hy.uniq oky.nk hm4
        clear hm4
        obtain ⟨hv0, hdg⟩ := hy.val oky.nk hdy0
        have hg : dget (tabP PV.int CS y) dy = some (st3 (.int dy) (.int (valT y dy).1) (.int (valT y dy).2)) := by rw [tabP_get, hdg]; rfl
        with_reducible refine GK.use (by assumption) ?_
        with_reducible refine SS.cons (ST.gen fun _ _ => ?_)
        with_reducible refine ST.assign (by assumption) ?_ ?_ ?_
        focus refine Or.inl ?_; (with_reducible refine KO.at (by assumption) ?_); exact rfl
        focus exact rfl
        with_reducible refine ET.attr (Is.ok (by assumption)) ?_ ?_
        focus (intro _; exact rfl)
        with_reducible refine ET.sub ?_ ?_
        focus nofun
        with_reducible refine ET.sub ?_ ?_
        focus nofun
        with_reducible apply ET.var (by assumption)
        focus (with_reducible refine (upd_ne ?_).trans ?_); (focus (first | assumption | exact (by decide))); (with_reducible refine (upd_ne ?_).trans ?_); (focus (first | assumption | exact (by decide))); with_reducible assumption
        focus exact rfl
        with_reducible refine ET.unop ?_
        with_reducible refine ET.int ?_
        with_reducible refine UnT.neg ?_
        refine SubT.listNeg (X4 _ _ HD3) (by decide) (by omega) (by decide) last1 ?_
        with_reducible apply ET.var (by assumption)
        focus with_reducible exact upd_at _ _ _
        focus exact rfl
        refine SubT.dict (ik g) (k := dy) (X4 _ _ Hy3) hg ?_
        with_reducible apply attrK
        focus with_reducible exact sl_st_size (by assumption)
        focus exact rfl
        focus exact rfl
        with_reducible refine GK.use (by assumption) ?_
        with_reducible refine SS.cons (ST.gen fun _ _ => ?_)
        with_reducible refine ST.assign (by assumption) ?_ ?_ ?_
        focus refine Or.inl ?_; (with_reducible refine KO.at (by assumption) ?_); exact rfl
        focus exact rfl
        with_reducible refine ET.call (Is.ok (by assumption)) ?_ ?_
        focus exact rfl
        with_reducible apply ET.glob (by assumption) (Is.ok (by assumption))
        focus (with_reducible refine KO.at (by assumption) ?_); exact rfl
        focus exact rfl
        focus with_reducible exact gl_high (by assumption)
        with_reducible refine ⟨_, rfl, ?_, ?_⟩
        focus with_reducible exact ck_198 (by assumption)
        with_reducible refine ETs.cons ?_ ?_
        focus (intro _; exact rfl)
        with_reducible apply ET.var (by assumption)
        focus (with_reducible refine (upd_ne ?_).trans ?_); (focus (first | assumption | exact (by decide))); (with_reducible refine (upd_ne ?_).trans ?_); (focus (first | assumption | exact (by decide))); with_reducible exact upd_at _ _ _
        focus exact rfl
        with_reducible refine ETs.nil ?_
        refine high_ct I (hR.le (by decide)) (X4 _ _ Hx) (Nat.le_trans lax (by decide)) fun m H5 hm5 X5 => ?_
        obtain rfl := hx.uniq okx.nk hm5
        clear hm5
        with_reducible refine GK.use (by assumption) ?_
        with_reducible refine SS.cons (ST.gen fun _ _ => ?_)
        have X35 := (X4.trans X5)
        have HD5 := X35 _ _ HD3
        have HT5 := HT3.ext X35
        obtain ⟨epy5, Hy5⟩ := HT5.last1
        refine ST.cut (RowM2 g H5 D x y dx dy) ?_ ?_
        · refine ST.while (InInv g H5 D x y dx dy) ?_ (dx + 1 - dy).toNat ⟨xa, x, dx, 1, epx, by (((with_reducible refine (upd_ne ?_).trans ?_); (focus (first | assumption | exact (by decide))); (with_reducible refine (upd_ne ?_).trans ?_); (focus (first | assumption | exact (by decide))); (with_reducible refine (upd_ne ?_).trans ?_); (focus (first | assumption | exact (by decide))); (with_reducible refine (upd_ne ?_).trans ?_); (focus (first | assumption | exact (by decide))); with_reducible assumption)), by (((with_reducible refine (upd_ne ?_).trans ?_); (focus (first | assumption | exact (by decide))); (with_reducible refine (upd_ne ?_).trans ?_); (focus (first | assumption | exact (by decide))); (with_reducible refine (upd_ne ?_).trans ?_); (focus (first | assumption | exact (by decide))); with_reducible exact upd_at _ _ _)), by (((with_reducible refine (upd_ne ?_).trans ?_); (focus (first | assumption | exact (by decide))); (with_reducible refine (upd_ne ?_).trans ?_); (focus (first | assumption | exact (by decide))); with_reducible exact upd_at _ _ _)), by (((with_reducible refine (upd_ne ?_).trans ?_); (focus (first | assumption | exact (by decide))); with_reducible exact upd_at _ _ _)), by ((with_reducible exact upd_at _ _ _)), X35 _ _ Hx, hx, Int.le_refl _, okx.mono (by omega) (by omega), by omega, Nat.le_refl _, fun r' h => h, Ext.refl _, rfl⟩
          rintro k l H6 ⟨ra, r, top, m, ep6, l1, l2, l3, l4, l5, Hr, hr, htd, okr, hm, hm1, hdiv, X6, hk6⟩
          have htop := hr.2.1
          have HD6 := X6 _ _ HD5
          have Hy6 := X6 _ _ Hy5
          have lar : r.length ≤ 100 := okLen okr (by omega)
          with_reducible refine BT.cmp ?_ ?_
          focus exact rfl
          with_reducible apply ET.var (by assumption)
          focus with_reducible assumption
          focus exact rfl
          with_reducible apply ET.var (by assumption)
          focus with_reducible assumption
          focus exact rfl
          with_reducible refine CmpT.geI ?_
          with_reducible refine TrT.bool ?_
          refine iteC (fun hc => ?_) (fun hc => ?_)
          · have hte : dy ≤ top := by simpa using hc
            obtain ⟨hrv, hrd⟩ := hr.val okr.nk (by omega)
            have hgr : dget (tabP PV.int CS r) top = some (st3 (.int top) (.int (valT r top).1) (.int (valT r top).2)) := by rw [tabP_get, hrd]; rfl
            have m7 : m ≤ 7 := by omega
            have hmB : m * Bd dx ≤ 7 * 2106 := Nat.mul_le_mul m7 B2
            have hmB1 : 1 * Bd dx ≤ m * Bd dx := Nat.mul_le_mul_right _ hm1
            have bf : (firstOf (valT y dy).1 (valT r top).1).natAbs < 2 ^ (m * Bd dx - 1) := by rw [first_abs]; exact (okr.val top).1
            have bg : (absI (valT y dy).1).natAbs < 2 ^ (Bd dx - 1) := by rw [abs_abs]; exact (oky.val dy).1
            have bits : ∀ {z : Int} {p : Nat}, z.natAbs < 2 ^ p → p ≤ 20000 → Builtin.Int.intBits z ≤ 2 ^ 20 := fun hz hp => Nat.le_trans (intBits_le hz) (by omega)
            with_reducible refine SS.cons (ST.gen fun _ _ => ?_)
            with_reducible refine ST.assign (by assumption) ?_ ?_ ?_
            focus refine Or.inl ?_; (with_reducible refine KO.at (by assumption) ?_); exact rfl
            focus exact rfl
            refine ET.cut (fun v H7 => v = .int (firstOf (valT y dy).1 (valT r top).1) ∧ H7 = H6) ?_ ?_
            · refine ET.ite ?_
              with_reducible refine BT.cmp ?_ ?_
              focus exact rfl
              with_reducible apply ET.var (by assumption)
              focus with_reducible assumption
              focus exact rfl
              with_reducible refine ET.int ?_
              with_reducible refine CmpT.gtI ?_
              with_reducible refine TrT.bool ?_
              refine iteC (fun hp => ?_) (fun hp => ?_)
              · with_reducible refine ET.attr (Is.ok (by assumption)) ?_ ?_
                focus (intro _; exact rfl)
                with_reducible refine ET.sub ?_ ?_
                focus nofun
                with_reducible apply ET.var (by assumption)
                focus with_reducible assumption
                focus exact rfl
                with_reducible apply ET.var (by assumption)
                focus with_reducible assumption
                focus exact rfl
                refine SubT.dict (ik g) (k := top) Hr hgr ?_
                with_reducible apply attrK
                focus with_reducible exact sl_st_size (by assumption)
                focus exact rfl
                focus exact rfl
                have hp' : 0 < (valT y dy).1 := by simpa using hp
                exact ⟨by unfold firstOf; rw [if_pos hp'], rfl⟩
              · with_reducible refine ET.unop ?_
                with_reducible refine ET.attr (Is.ok (by assumption)) ?_ ?_
                focus (intro _; exact rfl)
                with_reducible refine ET.sub ?_ ?_
                focus nofun
                with_reducible apply ET.var (by assumption)
                focus with_reducible assumption
                focus exact rfl
                with_reducible apply ET.var (by assumption)
                focus with_reducible assumption
                focus exact rfl
                refine SubT.dict (ik g) (k := top) Hr hgr ?_
                with_reducible apply attrK
                focus with_reducible exact sl_st_size (by assumption)
                focus exact rfl
                focus exact rfl
                with_reducible refine UnT.neg ?_
                have hp' : ¬ 0 < (valT y dy).1 := by simpa using hp
                exact ⟨by unfold firstOf; rw [if_neg hp'], rfl⟩
            · rintro v H7 ⟨rfl, rfl⟩
              with_reducible refine GK.use (by assumption) ?_
              with_reducible refine SS.cons (ST.gen fun _ _ => ?_)
              with_reducible refine ST.assign (by assumption) ?_ ?_ ?_
              focus refine Or.inl ?_; (with_reducible refine KO.at (by assumption) ?_); exact rfl
              focus exact rfl
              with_reducible refine ET.call (Is.ok (by assumption)) ?_ ?_
              focus exact rfl
              with_reducible apply ET.glob (by assumption) (Is.ok (by assumption))
              focus (with_reducible refine KO.at (by assumption) ?_); exact rfl
              focus exact rfl
              focus with_reducible exact gl_taken (by assumption)
              with_reducible refine ⟨_, rfl, ?_, ?_⟩
              focus with_reducible exact ck_174 (by assumption)
              with_reducible refine ETs.cons ?_ ?_
              focus (intro _; exact rfl)
              with_reducible refine ET.call (Is.ok (by assumption)) ?_ ?_
              focus exact rfl
              with_reducible apply ET.glob (by assumption) (Is.ok (by assumption))
              focus (with_reducible refine KO.at (by assumption) ?_); exact rfl
              focus exact rfl
              focus with_reducible exact gl_times (by assumption)
              with_reducible refine ⟨_, rfl, ?_, ?_⟩
              focus with_reducible exact ck_179 (by assumption)
              with_reducible refine ETs.cons ?_ ?_
              focus (intro _; exact rfl)
              with_reducible refine ET.sub ?_ ?_
              focus nofun
              with_reducible apply ET.var (by assumption)
              focus (with_reducible refine (upd_ne ?_).trans ?_); (focus (first | assumption | exact (by decide))); with_reducible assumption
              focus exact rfl
              with_reducible refine ET.unop ?_
              with_reducible refine ET.int ?_
              with_reducible refine UnT.neg ?_
              refine SubT.listNeg HD6 (by decide) (by omega) (by decide) last1 ?_
              with_reducible refine ETs.cons ?_ ?_
              focus (intro _; exact rfl)
              with_reducible apply ET.var (by assumption)
              focus with_reducible exact upd_at _ _ _
              focus exact rfl
              with_reducible refine ETs.cons ?_ ?_
              focus (intro _; exact rfl)
              with_reducible refine ET.binop ?_
              with_reducible apply ET.var (by assumption)
              focus (with_reducible refine (upd_ne ?_).trans ?_); (focus (first | assumption | exact (by decide))); with_reducible assumption
              focus exact rfl
              with_reducible apply ET.var (by assumption)
              focus (with_reducible refine (upd_ne ?_).trans ?_); (focus (first | assumption | exact (by decide))); with_reducible assumption
              focus exact rfl
              with_reducible refine BinT.sub ?_
              with_reducible refine ETs.nil ?_
              refine times_ct I (hR.le (by decide)) Hy6 (Nat.le_trans lay (by decide)) (fun e he => ⟨.of_bits (bits bf (by omega)) (bits (oky.ent e he).2.2.1 (by omega)), .of_bits (bits bf (by omega)) (bits (oky.ent e he).2.2.2 (by omega))⟩) fun b1 ep7 H8 hb1 X8 Hb1 => ?_
              with_reducible refine ETs.cons ?_ ?_
              focus (intro _; exact rfl)
              with_reducible refine ET.call (Is.ok (by assumption)) ?_ ?_
              focus exact rfl
              with_reducible apply ET.glob (by assumption) (Is.ok (by assumption))
              focus (with_reducible refine KO.at (by assumption) ?_); exact rfl
              focus exact rfl
              focus with_reducible exact gl_times (by assumption)
              with_reducible refine ⟨_, rfl, ?_, ?_⟩
              focus with_reducible exact ck_179 (by assumption)
              with_reducible refine ETs.cons ?_ ?_
              focus (intro _; exact rfl)
              with_reducible apply ET.var (by assumption)
              focus (with_reducible refine (upd_ne ?_).trans ?_); (focus (first | assumption | exact (by decide))); with_reducible assumption
              focus exact rfl
              with_reducible refine ETs.cons ?_ ?_
              focus (intro _; exact rfl)
              with_reducible refine ET.call (Is.ok (by assumption)) ?_ ?_
              focus exact rfl
              with_reducible apply ET.bi (by assumption) (Is.ok (by assumption))
              focus (with_reducible refine KO.at (by assumption) ?_); exact rfl
              focus exact rfl
              focus with_reducible exact gb_abs (by assumption)
              with_reducible refine ⟨_, rfl, ?_, ?_⟩
              focus with_reducible exact ck_abs
              with_reducible refine ETs.cons ?_ ?_
              focus (intro _; exact rfl)
              with_reducible apply ET.var (by assumption)
              focus (with_reducible refine (upd_ne ?_).trans ?_); (focus (first | assumption | exact (by decide))); with_reducible assumption
              focus exact rfl
              with_reducible refine ETs.nil ?_
              refine CT.abs ?_
              with_reducible refine ETs.cons ?_ ?_
              focus (intro _; exact rfl)
              with_reducible refine ET.int ?_
              with_reducible refine ETs.nil ?_
              refine times_ct I (hR.le (by decide)) (X8 _ _ Hr) (Nat.le_trans lar (by decide)) (fun e he => ⟨.of_bits (bits bg (by omega)) (bits (okr.ent e he).2.2.1 (by omega)), .of_bits (bits bg (by omega)) (bits (okr.ent e he).2.2.2 (by omega))⟩) fun b2 ep8 H9 hb2 X9 Hb2 => ?_
              with_reducible refine ETs.nil ?_
              refine taken_ct I (hR.le (by decide)) (X9 _ _ Hb1) Hb2 (by rw [timesT_len]; omega) (by rw [timesT_len]; omega) fun b3 ep9 H10 hb3 X10 Hb3 => ?_
              have ok3 : TabOk (stepT y r (firstOf (valT y dy).1 (valT r top).1) (absI (valT y dy).1) (top - dy)) (10 - dy) ((m + 1) * Bd dx - 1) := by
                have z := stepT_ok (b := y) (r := r) (K := 10 - dy - (top - dy)) (B := Bd dx - 1) (C := m * Bd dx - 1) (f := firstOf (valT y dy).1 (valT r top).1) (g := absI (valT y dy).1) (u := top - dy) (oky.mono (by omega) (Nat.le_refl _)) (okr.mono (by omega) (Nat.le_refl _)) bf bg (by omega)
                refine z.mono (by omega) ?_
                rw [Nat.add_mul]; omega
              with_reducible refine GK.use (by assumption) ?_
              with_reducible refine SS.cons (ST.gen fun _ _ => ?_)
              with_reducible refine ST.assign (by assumption) ?_ ?_ ?_
              focus refine Or.inl ?_; (with_reducible refine KO.at (by assumption) ?_); exact rfl
              focus exact rfl
              with_reducible refine ET.call (Is.ok (by assumption)) ?_ ?_
              focus exact rfl
              with_reducible apply ET.glob (by assumption) (Is.ok (by assumption))
              focus (with_reducible refine KO.at (by assumption) ?_); exact rfl
              focus exact rfl
              focus with_reducible exact gl_high (by assumption)
              with_reducible refine ⟨_, rfl, ?_, ?_⟩
              focus with_reducible exact ck_198 (by assumption)
              with_reducible refine ETs.cons ?_ ?_
              focus (intro _; exact rfl)
              with_reducible apply ET.var (by assumption)
              focus with_reducible exact upd_at _ _ _
              focus exact rfl
              with_reducible refine ETs.nil ?_
              refine high_ct I (hR.le (by decide)) Hb3 (Nat.le_trans (okLen ok3 (by omega)) (by decide)) fun top' H11 htop' X11 => ?_
              have hlt := step_high oky.nk okr.nk hy hr hdy0 hte htop'
              have hge := htop'.2.1
              with_reducible refine GK.use (by assumption) ?_
              with_reducible refine SS.nil ?_
              exact ⟨(top' + 1 - dy).toNat, by omega, b3, _, top', m + 1, ep9, by (((with_reducible refine (upd_ne ?_).trans ?_); (focus (first | assumption | exact (by decide))); (with_reducible refine (upd_ne ?_).trans ?_); (focus (first | assumption | exact (by decide))); (with_reducible refine (upd_ne ?_).trans ?_); (focus (first | assumption | exact (by decide))); with_reducible assumption)), by (((with_reducible refine (upd_ne ?_).trans ?_); (focus (first | assumption | exact (by decide))); with_reducible exact upd_at _ _ _)), by (((with_reducible refine (upd_ne ?_).trans ?_); (focus (first | assumption | exact (by decide))); (with_reducible refine (upd_ne ?_).trans ?_); (focus (first | assumption | exact (by decide))); (with_reducible refine (upd_ne ?_).trans ?_); (focus (first | assumption | exact (by decide))); with_reducible assumption)), by (((with_reducible refine (upd_ne ?_).trans ?_); (focus (first | assumption | exact (by decide))); (with_reducible refine (upd_ne ?_).trans ?_); (focus (first | assumption | exact (by decide))); (with_reducible refine (upd_ne ?_).trans ?_); (focus (first | assumption | exact (by decide))); with_reducible assumption)), by ((with_reducible exact upd_at _ _ _)), X11 _ _ Hb3, htop', by omega, ok3, by omega, by omega, fun r' hd => hdiv r' (.step hr hte hd), (((X6.trans X8).trans X9).trans X10).trans X11, rfl⟩
          · have hte : top < dy := by have : ¬ dy ≤ top := by simpa using hc
                                      omega
            with_reducible refine SS.nil ?_
            exact ⟨ra, r, top, m, ep6, l1, l2, Hr, hr, hte, okr, by omega, hdiv r (.done hr hte), X6⟩
        · rintro l H6 ⟨ra, r, top, m, ep6, l1, l2, Hr, hr, hte, okr, hm, hdiv, X6⟩
          have htop := hr.2.1
          have HD6 := X6 _ _ HD5
          have lar : r.length ≤ 100 := okLen okr (by omega)
          with_reducible refine GK.use (by assumption) ?_
          with_reducible refine SS.cons (ST.gen fun _ _ => ?_)
          with_reducible refine ST.expr (by assumption) ?_ ?_
          focus (intro _; exact rfl)
          refine ET.meth (T := "list") (id := "list.append") (Is.ok (by assumption)) ?_ ?_ ?_ ?_ PySem.F.plainAttrs_list PySem.F.slot_list_append PySem.F.type_list_append ?_
          focus exact rfl
          focus exact rfl
          focus exact (by decide)
          focus exact rfl
          (with_reducible apply ET.var (by assumption)); (focus with_reducible assumption); (focus exact rfl)
          apply methL
          focus with_reducible assumption
          with_reducible refine ETs.cons ?_ ?_
          focus (intro _; exact rfl)
          with_reducible refine ET.call (Is.ok (by assumption)) ?_ ?_
          focus exact rfl
          with_reducible apply ET.glob (by assumption) (Is.ok (by assumption))
          focus (with_reducible refine KO.at (by assumption) ?_); exact rfl
          focus exact rfl
          focus with_reducible exact gl_taken (by assumption)
          with_reducible refine ⟨_, rfl, ?_, ?_⟩
          focus with_reducible exact ck_174 (by assumption)
          with_reducible refine ETs.cons ?_ ?_
          focus (intro _; exact rfl)
          with_reducible apply ET.var (by assumption)
          focus with_reducible assumption
          focus exact rfl
          with_reducible refine ETs.cons ?_ ?_
          focus (intro _; exact rfl)
          refine ET.dict0 (ik g) I.ok fun em epe hem => ?_
          have Hr' := (hup_ne (o := (ik g).pack [] epe) (ne_of Hr hem)).trans Hr
          have HD6' := (hup_ne (o := (ik g).pack [] epe) (ne_of HD6 hem)).trans HD6
          have X6' : Ext H5 (hup H6 em ((ik g).pack [] epe)) := X6.hup hem
          with_reducible refine ETs.nil ?_
          refine taken_ct I (hR.le (by decide)) (n := []) Hr' (hup_at _ _ _) (by omega) (by decide) fun cc epc H7 hcc X7 Hc => ?_
          have HD7 := X7 _ _ HD6'
          with_reducible refine ETs.nil ?_
          apply CT.append
          focus with_reducible assumption
          · simp; unfold sizeLine; omega
          skip
          refine ⟨rfl, ?_⟩
          with_reducible refine GK.use (by assumption) ?_
          with_reducible refine SS.nil ?_
          have X57 := X6'.trans X7
          have XH7 := ((X2.trans X3).trans X35).trans X57
          have XHf : ∀ o, Ext H (hup H7 D o) := fun o b po e => by rw [hup_ne (ne_of e hD0)]; exact XH7 _ _ e
          have okc := negT_ok okr
          have hBB : m * Bd dx ≤ Bd dy := Nat.le_trans (Nat.mul_le_mul_right _ hm) B3
          have Hc' : ∀ o, hup H7 D o cc = some ((ik g).pack (tabP .int CS (takenT r [])) epc) := fun o => (hup_ne (fun z => by rw [z] at hcc; rw [HD6'] at hcc; cases hcc)).trans Hc
          refine ⟨(top + 1).toNat, by omega, pa ++ [xa], ya, cc, pt ++ [x], y, takenT r [], dy, top, acc ++ [takenT r []], by ((with_reducible assumption)), ?_, ?_, by rw [← List.cons_append, ← List.cons_append, e0]; simp, hy, neg_high okr.nk hr, hte, by omega, oky.mono (by omega) (Nat.sub_le_sub_right (Bd_mono (by omega)) 1), okc.mono (by omega) (by omega), fun ts hts => ?_, ?_, XHf _, rfl, by simp; omega⟩
          · rw [hup_at]; simp
          · have h3 : TRefs g (hup H7 D (.list ((pa ++ [xa, ya]).map PV.ref ++ [.ref cc]))) CS (pa ++ [xa, ya]) (pt ++ [x, y]) := by
              refine ⟨HT5.1, fun i b u e1 e2 => ?_⟩
              obtain ⟨ep0, q⟩ := HT5.2 i b u e1 e2
              refine ⟨ep0, (hup_ne (fun z => ?_)).trans (X57 _ _ q)⟩
              rw [z, HD5] at q
              cases q
            have := h3.snoc (Hc' _)
            simpa using this
          · have := hrow (takenT r [] :: ts) (.step hy hdy0 hdiv hts)
            simpa using this
          · intro z hz
            have hz' : z ∈ pt ++ [x, y] ∨ z = takenT r [] := by
              simp only [List.mem_append, List.mem_cons, List.not_mem_nil, or_false] at hz ⊢
              rcases hz with (hz | rfl) | (rfl | rfl)
              · exact .inl (.inl hz)
              · exact .inl (.inr (.inl rfl))
              · exact .inl (.inr (.inr rfl))
              · exact .inr rfl
            rcases hz' with hz' | rfl
            · exact hsm z hz'
            · exact ⟨_, okc.mono (by omega) (Nat.le_refl _)⟩
      · have hdy0 : dy < 0 := by have : ¬ 0 ≤ dy := by simpa using hc
                                 omega
        with_reducible refine SS.nil ?_
        refine ⟨pa ++ [xa, ya], acc, l1, X3 _ _ HD, (by rw [e0]; exact HT.ext X3), ?_, (by rw [e0]; exact hsm), by simp; omega, X2.trans X3⟩
        have := hrow [] (.done hy hdy0)
        rwa [List.append_nil] at this
    · refine ⟨rfl, fun i b u e1 e2 => ?_⟩
      match i with
      | 0 => simp at e1 e2; subst e1 e2; exact ⟨ep, (X1.hup hD) _ _ ha⟩
      | 1 => simp at e1 e2; subst e1 e2; exact ⟨ep1, (Ext.refl H1).hup hD _ _ Hsl⟩
      | i + 2 => simp at e1
    · intro z hz
      rcases List.mem_cons.mp hz with rfl | hz
      · exact ⟨22, ht.mono (by omega) (Nat.le_refl _)⟩
      · obtain rfl := List.mem_singleton.mp hz
        exact ⟨25, hs.mono (by omega) (Nat.le_refl _)⟩
  · rintro l H2 ⟨ads, ts, l1, HD, HT, hrow, hsm, hlen, X2⟩
    with_reducible refine GK.use (by assumption) ?_
    with_reducible refine SS.cons (ST.gen fun _ _ => ?_)
    with_reducible refine ST.ret ?_
    with_reducible apply ET.var (by assumption)
    focus with_reducible assumption
    focus exact rfl
    with_reducible refine GK.use (by assumption) ?_
    skip
    exact h D ads ts H2 X2 HD HT hrow hsm hlen
end
end Mine
end
section
open PySem PySem.W PyProof.Rows PySem.Calls PySem.Spec
set_option maxRecDepth 100000
set_option maxHeartbeats 1000000
namespace Mine
section
variable {g : Gd} {A : Around} {H : PH} {Q : PV → PH → Prop}
theorem gb_zip (I : Is g) : GB g "zip" (.type "zip") := ⟨by rw [I.K]; k_is, by decide, rfl⟩
theorem eqv_ints : ∀ ns : List Int, PyData.eqvAll (ns.map PyData.int) (ns.map PyData.int) = true
  | [] => rfl
  | n :: ns => by
    rw [List.map_cons, PyData.eqvAll, eqv_ints ns, PyData.eqv]; simp
theorem shaped_ints (ns : List Int) : SeqAt.shaped (.list (ns.map .int)) = true := by
  have h1 : ∀ ns : List Int, PyData.canLayAll0 (ns.map .int) = true := fun ns => by
    induction ns with
    | nil => rfl
    | cons n ns ih => rw [List.map_cons, PyData.canLayAll0, ih]; rfl
  have h2 : ∀ ns : List Int, PyData.depthAll (ns.map .int) ≤ 1 := fun ns => by
    induction ns with
    | nil => simp [PyData.depthAll]
    | cons n ns ih => rw [List.map_cons, PyData.depthAll]; simp [PyData.depth]; omega
  unfold SeqAt.shaped
  rw [Bool.and_eq_true, decide_eq_true_eq]
  refine ⟨h1 ns, ?_⟩
  have := h2 ns
  rw [PyData.depth]; omega
theorem eltZip {env : Env} {l : PL} {scope : Scope} {pa p1 p2 p3 p4 p5 p6 : Pos} {ra : Addr} {rs : List Int} {k : Nat} {H₁ : PH} (O : CompOk scope env) (E : EnvOk env) (hra : H₁ ra = some (.list (rs.map .int))) (hk : k < rs.length) (hk2 : k < 1000) (hb : Builtin.Int.intBits (rs.getD k 0) ≤ 64)
    (lr : l (Str.ofString "roots") = some (.ref ra)) (lk : l (Str.ofString "k") = some (.int k))
    (na : scope.names.lookup (Str.ofString "a") = some .local) (nb : scope.names.lookup (Str.ofString "b") = some .local) (nr : scope.names.lookup (Str.ofString "roots") = some .free) (nk : scope.names.lookup (Str.ofString "k") = some .free) :
    ZipElt g A env l scope (Str.ofString "a") (Str.ofString "b") (.BinOp (.Name (Str.ofString "a") pa) .Sub (.BinOp (.Subscript (.Name (Str.ofString "roots") p1) (.Name (Str.ofString "k") p2) p3) .Mult (.Name (Str.ofString "b") p4) p5) p6) (fun x y => x - rs.getD k 0 * y) H₁ := by
  intro L s m h₁ x y t u Q' nL gL B R k1 hn ha hb' q
  have R' := ER.comp O E R k1 hn nL gL
  have O' : EnvOk (compEnvC scope (clOf scope env) L env) := compEnvOk O E
  have kd : ∀ y, (compEnvC scope (clOf scope env) L env).kindOf y = (scope.names.lookup y).map fun q => if (q == .free && env.scope.kind == .function && env.kindOf y == some .cell) then .cell else q := fun y => by
    show (relabel scope env).names.lookup y = _
    rw [relabel_names]
    exact lookup_map_snd (f := fun n q => if (q == .free && env.scope.kind == .function && env.kindOf n == some .cell) then .cell else q) scope.names
  have cellK : ∀ y, scope.names.lookup y = some .free → (compEnvC scope (clOf scope env) L env).kindOf y = some .cell := fun y e => by
    rw [kd, e, Option.map_some, O.free _ (lookup_mem _ e) rfl, E.kind]; rfl
  have locK : ∀ y, scope.names.lookup y = some .local → (compEnvC scope (clOf scope env) L env).kindOf y = some .local := fun y e => by rw [kd, e]; rfl
  obtain ⟨_, vr, cr, Vr, hcr, hcellr⟩ := R'.nc (Str.ofString "roots") (.ref ra) (by rw [lcap_free nr]; exact lr) (by rw [cellK _ nr]; decide)
  obtain ⟨_, vk, ck, Vk, hck, hcellk⟩ := R'.nc (Str.ofString "k") (.int k) (by rw [lcap_free nk]; exact lk) (by rw [cellK _ nk]; decide)
  cases Vr; cases Vk
  have B' := B.grown k1
  obtain ⟨vs, hl, U⟩ := listAt B' hra
  obtain ⟨w, hw, Vw⟩ := U.get (getI hk rfl)
  cases Vw; rename_i tk0 tw
  refine wpAny_BinOp ?_
  refine wpAny_Name (wpAny_loadName_local O'.kind (locK _ na) hn ha ?_) rfl
  refine wpAny_BinOp ?_
  refine Subscript_ ?_
  refine wpAny_Name (wpAny_loadName_cell O'.kind (cellK _ nr) hcr hcellr ?_) rfl
  refine wpAny_Name (wpAny_loadName_cell O'.kind (cellK _ nk) hck hcellk ?_) rfl
  refine tail_any hl.typeIs slot_list_getitem.lookup (wpAny_getItem_list hl (by omega) (by omega) (by simpa using hw) ?_) (sub_plain (by nofun) _ _)
  refine wpAny_Name (wpAny_loadName_local O'.kind (locK _ nb) hn hb' ?_) rfl
  refine mul_int ?_ (.of_left hb)
  exact sub_int (q _ _)
end
end Mine
end
section
open PySem PySem.W PyProof.Rows PySem.Calls PySem.Spec
set_option maxRecDepth 100000
set_option maxHeartbeats 1000000
namespace Mine
section
variable {g : Gd} {A : Around} {H : PH} {Q : PV → PH → Prop}
theorem repInt : ∀ n : Nat, (List.replicate n [PV.int 0]).flatten = (List.replicate n (0 : Int)).map PV.int
  | 0 => rfl
  | n + 1 => by rw [List.replicate_succ, List.flatten_cons, repInt n]; rfl
inductive AgM (H : PH) (a b : Addr) (rs : List Int) (l : PL) (H1 : PH) : Prop where
  | mk (D : Addr) (_ : l (Str.ofString "due") = some (.ref D)) (_ : l (Str.ofString "roots") = some (.ref a)) (_ : l (Str.ofString "numbers") = some (.ref b)) (_ : H1 D = some (.list ((dueAt rs rs.length).map .int))) (_ : Ext H H1) : AgM H a b rs l H1
inductive AgI1 (H : PH) (a b : Addr) (rs : List Int) (r : List PV) (l : PL) (H1 : PH) : Prop where
  | mk (k n : Nat) (D : Addr) (_ : k + n = rs.length) (_ : r = rangeL (k : Int) 1 n) (_ : l (Str.ofString "due") = some (.ref D)) (_ : l (Str.ofString "roots") = some (.ref a)) (_ : l (Str.ofString "numbers") = some (.ref b)) (_ : H1 D = some (.list ((dueAt rs k).map .int))) (_ : Ext H H1) : AgI1 H a b rs r l H1
inductive AgI2 (H2 : PH) (ns due : List Int) (ov : Nat) (r : List PV) (acc : List PV) (H3 : PH) : Prop where
  | mk (d1 d2 : List Int) (_ : due = d1 ++ d2) (_ : r = d2.map PV.int) (_ : acc = (d1.map fun x => ns.getD ov 0 * x).map PV.int) (_ : Ext H2 H3) : AgI2 H2 ns due ov r acc H3
theorem again_ct (I : Is g) (R : Room A 9) {a b : Addr} {rs ns : List Int} (ha : H a = some (.list (rs.map .int))) (hb : H b = some (.list (ns.map .int))) (hl : rs.length ≤ 3) (hnl : ns.length ≤ 100) (hr : ∀ r ∈ rs, -3 ≤ r ∧ r ≤ 3)
    (hd : ∀ x ∈ dueAt rs rs.length, Builtin.Int.intBits x ≤ 64) (hle : (dueAt rs rs.length).length ≤ ns.length)
    (he : ns = List.replicate (ns.length - (dueAt rs rs.length).length) 0 ++ (dueAt rs rs.length).map fun x => ns.getD (ns.length - (dueAt rs rs.length).length) 0 * x)
    (h : ∀ H', Ext H H' → Q (.bool true) H') : CT g A H (.ref 229) [.ref a, .ref b] Q := by
  refine' CT.def (n := 8) (ns := [Str.ofString "roots", Str.ofString "numbers"]) I.ok R (ho := ?ho) (hfd := ?hfd) (hb := ?hb) (hcode := ?hc) (hnames := ?hnm) ?h1 ?h2 ?h3 ?h4 ?h5 ?h6 ?h7 ?h8 ?h9 rfl ?_
  case ho => rw [I.K]; k_is
  case hfd => exact rfl
  case hb => exact rfl
  case hc => rw [I.K]; k_is
  case hnm => exact rfl
  case h1 => exact rfl
  case h2 => exact rfl
  case h3 => exact rfl
  case h4 => exact rfl
  case h5 => exact rfl
  case h6 => exact rfl
  case h7 => (intro s vs hv; obtain ⟨x0, x1, rfl⟩ := len2 hv; exact BindsTo.of_eq rfl)
  case h8 => decide
  case h9 => exact rfl
  intro env A' hE hk hF hR
  dsimp only at hk
  have rb : ∀ i, -3 ≤ rs.getD i 0 ∧ rs.getD i 0 ≤ 3 := fun i => by
    rw [List.getD_eq_getElem?_getD]
    by_cases z : i < rs.length
    · rw [List.getElem?_eq_getElem z]; exact hr _ (List.getElem_mem z)
    · rw [List.getElem?_eq_none (by omega)]; exact ⟨by decide, by decide⟩
  have small : ∀ z : Int, -100 ≤ z → z ≤ 100 → Builtin.Int.intBits z ≤ 64 := fun z h1 h2 => intBits_le (by omega)
  with_reducible refine SS.cons (ST.gen fun _ _ => ?_)
  with_reducible refine ST.assign (by assumption) ?_ ?_ ?_
  focus refine Or.inl ?_; (with_reducible refine KO.at (by assumption) ?_); exact rfl
  focus exact rfl
  with_reducible refine ET.list (Is.ok (by assumption)) ?_
  with_reducible refine ETs.cons ?_ ?_
  focus (intro _; exact rfl)
  with_reducible refine ET.int ?_
  with_reducible refine ETs.nil ?_
  with_reducible refine szAnd ?_ ?_
  focus exact rfl
  intro D0 hD0
  with_reducible refine GK.use (by assumption) ?_
  with_reducible refine SS.cons (ST.gen fun _ _ => ?_)
  refine ST.cut (AgM H a b rs) ?_ ?_
  · refine ST.forI (fun _ _ => rfl) (AgI1 H a b rs)
      (fun _ => True) (IT.range hR.hh (fun _ _ => rfl) ?_) ?_ ?_
    · with_reducible refine ET.call (Is.ok (by assumption)) ?_ ?_
      focus exact rfl
      with_reducible apply ET.bi (by assumption) (Is.ok (by assumption))
      focus (with_reducible refine KO.at (by assumption) ?_); exact rfl
      focus exact rfl
      focus with_reducible exact gb_range (by assumption)
      with_reducible refine ⟨_, rfl, ?_, ?_⟩
      focus with_reducible exact ck_range
      with_reducible refine ETs.cons ?_ ?_
      focus (intro _; exact rfl)
      with_reducible refine ET.call (Is.ok (by assumption)) ?_ ?_
      focus exact rfl
      with_reducible apply ET.bi (by assumption) (Is.ok (by assumption))
      focus (with_reducible refine KO.at (by assumption) ?_); exact rfl
      focus exact rfl
      focus with_reducible exact gb_len (by assumption)
      with_reducible refine ⟨_, rfl, ?_, ?_⟩
      focus with_reducible exact ck_len
      with_reducible refine ETs.cons ?_ ?_
      focus (intro _; exact rfl)
      with_reducible apply ET.var (by assumption)
      focus (with_reducible refine (upd_ne ?_).trans ?_); (focus (first | assumption | exact (by decide))); with_reducible exact parms_at
      focus exact rfl
      with_reducible refine ETs.nil ?_
      refine CT.len (((Ext.refl H).hup hD0) _ _ ha) (by simp; omega) ?_
      with_reducible refine ETs.nil ?_
      refine CT.range1 ⟨_, _, _, rfl, small_up _ _ (by decide) (by decide) (by simp <;> omega) (by simp <;> omega), rfl, 0, rs.length, D0, by omega, ?_, by ((with_reducible exact upd_at _ _ _)), by (((with_reducible refine (upd_ne ?_).trans ?_); (focus (first | assumption | exact (by decide))); with_reducible exact parms_at)), by (((with_reducible refine (upd_ne ?_).trans ?_); (focus (first | assumption | exact (by decide))); (with_reducible refine (parms_ne ?_).trans ?_); (focus (exact (by decide))); with_reducible exact parms_at)), hup_at _ _ _, (Ext.refl H).hup hD0⟩
      rw [range_items]; congr 1 <;> simp
    · rintro v r l H1 ⟨k, n, D, e0, hr', l1, l2, l3, HD, X1⟩
      cases n with
      | zero => simp [rangeL] at hr'
      | succ n =>
      rw [rangeL_succ] at hr'
      injection hr' with hv hr2
      subst hv hr2
      have hk1 : k < rs.length := by omega
      have ha1 := X1 _ _ ha
      have rbk := rb k
      have dl := dueAt_len rs k
      with_reducible refine AT.name (by assumption) ?_ ?_
      focus refine Or.inr ⟨?_, by assumption⟩; (with_reducible refine KO.at (by assumption) ?_); exact rfl
      with_reducible refine SS.cons (ST.gen fun _ _ => ?_)
      with_reducible refine ST.ite ?_
      with_reducible refine BT.cmp ?_ ?_
      focus exact rfl
      with_reducible refine ET.sub ?_ ?_
      focus nofun
      with_reducible apply ET.var (by assumption)
      focus (with_reducible refine (upd_ne ?_).trans ?_); (focus (first | assumption | exact (by decide))); with_reducible assumption
      focus exact rfl
      with_reducible apply ET.var (by assumption)
      focus with_reducible exact upd_at _ _ _
      focus exact rfl
      refine SubT.list ha1 (by omega) (by omega) (getI hk1 rfl) ?_
      refine ET.sliceTo I.ok (fun _ _ => rfl) ?_
      with_reducible apply ET.var (by assumption)
      focus (with_reducible refine (upd_ne ?_).trans ?_); (focus (first | assumption | exact (by decide))); with_reducible assumption
      focus exact rfl
      with_reducible apply ET.var (by assumption)
      focus with_reducible exact upd_at _ _ _
      focus exact rfl
      refine ⟨a, _, k, rfl, rfl, ha1, by simp; unfold sizeLine; omega, fun S hS => ?_⟩
      have X1S : Ext H (hup H1 S (.list ((rs.map PV.int).take k))) := X1.hup hS
      have HD1 := (hup_ne (o := PO.list ((rs.map PV.int).take k)) (ne_of HD hS)).trans HD
      refine CmpT.inI (ns := rs.take k) (by rw [hup_at, List.map_take]) ?_
      with_reducible refine TrT.bool ?_
      refine iteC (fun hc => ?_) (fun hc => ?_)
      · with_reducible refine SS.cons (ST.gen fun _ _ => ?_)
        refine ST.assignZ (fun x y => x - rs.getD k 0 * y) I.ok hR.hh (CompOk.of hk rfl (by decide)) hE (.inl (by (((with_reducible refine KO.at (by assumption) ?_); exact rfl)))) (swaps_L hE (by (((with_reducible refine KO.at (by assumption) ?_); exact rfl))) rfl (by decide)) (fun _ _ => rfl) rfl rfl (by decide) rfl ?_ ?_
        · with_reducible apply ET.bi (by assumption) (Is.ok (by assumption))
          focus (with_reducible refine KO.at (by assumption) ?_); exact rfl
          focus exact rfl
          focus with_reducible exact gb_zip (by assumption)
          exact ⟨rfl, rfl⟩
        · with_reducible refine ETs.cons ?_ ?_
          focus (intro _; exact rfl)
          with_reducible refine ET.binop ?_
          with_reducible apply ET.var (by assumption)
          focus (with_reducible refine (upd_ne ?_).trans ?_); (focus (first | assumption | exact (by decide))); with_reducible assumption
          focus exact rfl
          with_reducible refine ET.list (Is.ok (by assumption)) ?_
          with_reducible refine ETs.cons ?_ ?_
          focus (intro _; exact rfl)
          with_reducible refine ET.int ?_
          with_reducible refine ETs.nil ?_
          with_reducible refine szAnd ?_ ?_
          focus exact rfl
          intro Z1 hZ1
          have HD2 := (hup_ne (o := PO.list [.int 0]) (ne_of HD1 hZ1)).trans HD1
          refine BinT.addL I.ok HD2 (hup_at _ _ _) (by simp; unfold sizeLine; omega) fun Z2 hZ2 => ?_
          have HD3 := (hup_ne (o := PO.list ((dueAt rs k).map .int ++ [.int 0])) (ne_of HD2 hZ2)).trans HD2
          with_reducible refine ETs.cons ?_ ?_
          focus (intro _; exact rfl)
          with_reducible refine ET.binop ?_
          with_reducible refine ET.list (Is.ok (by assumption)) ?_
          with_reducible refine ETs.cons ?_ ?_
          focus (intro _; exact rfl)
          with_reducible refine ET.int ?_
          with_reducible refine ETs.nil ?_
          with_reducible refine szAnd ?_ ?_
          focus exact rfl
          intro Z3 hZ3
          have HD4 := (hup_ne (o := PO.list [.int 0]) (ne_of HD3 hZ3)).trans HD3
          have HZ2a := hup_at (hup (hup H1 S (.list ((rs.map PV.int).take k))) Z1 (.list [.int 0])) Z2 (.list ((dueAt rs k).map .int ++ [.int 0]))
          have HZ2 := (hup_ne (o := PO.list [.int 0]) (ne_of HZ2a hZ3)).trans HZ2a
          with_reducible apply ET.var (by assumption)
          focus (with_reducible refine (upd_ne ?_).trans ?_); (focus (first | assumption | exact (by decide))); with_reducible assumption
          focus exact rfl
          refine BinT.addL I.ok (hup_at _ _ _) HD4 (by simp; unfold sizeLine; omega) fun Z4 hZ4 => ?_
          have HZ2' := (hup_ne (o := PO.list ([.int 0] ++ (dueAt rs k).map .int)) (ne_of HZ2 hZ4)).trans HZ2
          have X4 := ((((X1S.hup (o := PO.list [.int 0]) hZ1).hup (o := PO.list ((dueAt rs k).map .int ++ [.int 0])) hZ2).hup (o := PO.list [.int 0]) hZ3).hup (o := PO.list ([.int 0] ++ (dueAt rs k).map .int)) hZ4)
          with_reducible refine ETs.nil ?_
          refine ⟨Z2, Z4, dueAt rs k ++ [0], [0] ++ dueAt rs k, rfl, by rw [List.map_append]; exact HZ2', by rw [List.map_append]; exact hup_at _ _ _, by simp, by simp; omega, eltZip (CompOk.of hk rfl (by decide)) hE (X4 _ _ ha) hk1 (by omega) (small _ (by omega) (by omega)) (by (((with_reducible refine (upd_ne ?_).trans ?_); (focus (first | assumption | exact (by decide))); with_reducible assumption))) (by ((with_reducible exact upd_at _ _ _))) rfl rfl rfl rfl, fun D' hD' => ?_⟩
          with_reducible refine GK.use (by assumption) ?_
          with_reducible refine SS.nil ?_
          with_reducible refine GK.use (by assumption) ?_
          with_reducible refine SS.nil ?_
          refine ⟨trivial, k + 1, n, D', by omega, by rw [show (k : Int) + 1 = ((k + 1 : Nat) : Int) by omega], by ((with_reducible exact upd_at _ _ _)), by (((with_reducible refine (upd_ne ?_).trans ?_); (focus (first | assumption | exact (by decide))); (with_reducible refine (upd_ne ?_).trans ?_); (focus (first | assumption | exact (by decide))); with_reducible assumption)), by (((with_reducible refine (upd_ne ?_).trans ?_); (focus (first | assumption | exact (by decide))); (with_reducible refine (upd_ne ?_).trans ?_); (focus (first | assumption | exact (by decide))); with_reducible assumption)), ?_, X4.hup hD'⟩
          rw [dueAt, hc]; exact hup_at _ _ _
      · with_reducible refine SS.nil ?_
        with_reducible refine GK.use (by assumption) ?_
        with_reducible refine SS.nil ?_
        refine ⟨trivial, k + 1, n, D, by omega, by rw [show (k : Int) + 1 = ((k + 1 : Nat) : Int) by omega], by (((with_reducible refine (upd_ne ?_).trans ?_); (focus (first | assumption | exact (by decide))); with_reducible assumption)), by (((with_reducible refine (upd_ne ?_).trans ?_); (focus (first | assumption | exact (by decide))); with_reducible assumption)), by (((with_reducible refine (upd_ne ?_).trans ?_); (focus (first | assumption | exact (by decide))); with_reducible assumption)), ?_, X1S⟩
        rw [dueAt, hc]; exact HD1
    · rintro l H1 ⟨k, n, D, e0, hr', l1, l2, l3, HD, X1⟩
      have hn : n = 0 := by have := congrArg List.length hr'; simpa [rangeL_length] using this.symm
      have hkl : k = rs.length := by omega
      subst hkl
      exact ⟨D, l1, l2, l3, HD, X1⟩
  · rintro l H1 ⟨D, l1, l2, l3, HD, X1⟩
    generalize hdue : dueAt rs rs.length = due at *
    have hb1 := X1 _ _ hb
    with_reducible refine GK.use (by assumption) ?_
    with_reducible refine SS.cons (ST.gen fun _ _ => ?_)
    with_reducible refine ST.assign (by assumption) ?_ ?_ ?_
    focus refine Or.inr ⟨?_, by assumption⟩; (with_reducible refine KO.at (by assumption) ?_); exact rfl
    focus exact rfl
    with_reducible refine ET.binop ?_
    with_reducible refine ET.call (Is.ok (by assumption)) ?_ ?_
    focus exact rfl
    with_reducible apply ET.bi (by assumption) (Is.ok (by assumption))
    focus (with_reducible refine KO.at (by assumption) ?_); exact rfl
    focus exact rfl
    focus with_reducible exact gb_len (by assumption)
    with_reducible refine ⟨_, rfl, ?_, ?_⟩
    focus with_reducible exact ck_len
    with_reducible refine ETs.cons ?_ ?_
    focus (intro _; exact rfl)
    with_reducible apply ET.var (by assumption)
    focus with_reducible assumption
    focus exact rfl
    with_reducible refine ETs.nil ?_
    refine CT.len hb1 (by simp; omega) ?_
    with_reducible refine ET.call (Is.ok (by assumption)) ?_ ?_
    focus exact rfl
    with_reducible apply ET.bi (by assumption) (Is.ok (by assumption))
    focus (with_reducible refine KO.at (by assumption) ?_); exact rfl
    focus exact rfl
    focus with_reducible exact gb_len (by assumption)
    with_reducible refine ⟨_, rfl, ?_, ?_⟩
    focus with_reducible exact ck_len
    with_reducible refine ETs.cons ?_ ?_
    focus (intro _; exact rfl)
    with_reducible apply ET.var (by assumption)
    focus with_reducible assumption
    focus exact rfl
    with_reducible refine ETs.nil ?_
    refine CT.len HD (by simp; omega) ?_
    with_reducible refine BinT.sub ?_
    with_reducible refine GK.use (by assumption) ?_
    with_reducible refine SS.cons (ST.gen fun _ _ => ?_)
    with_reducible refine ST.ret ?_
    have hov : ((ns.map PV.int).length : Int) - ((due.map PV.int).length : Int) = ((ns.length - due.length : Nat) : Int) := by simp; omega
    rw [hov]
    generalize hovn : ns.length - due.length = ov at *
    refine ET.and ?_
    with_reducible refine ET.cmp ?_ ?_
    focus exact rfl
    with_reducible apply ET.var (by assumption)
    focus with_reducible exact upd_at _ _ _
    focus exact rfl
    with_reducible refine ET.int ?_
    with_reducible refine CmpT.geI ?_
    with_reducible refine TrT.bool ?_
    refine iteT' (by simp) ?_
    with_reducible refine ET.cmp ?_ ?_
    focus exact rfl
    with_reducible apply ET.var (by assumption)
    focus (with_reducible refine (upd_ne ?_).trans ?_); (focus (first | assumption | exact (by decide))); with_reducible assumption
    focus exact rfl
    with_reducible refine ET.binop ?_
    with_reducible refine ET.binop ?_
    with_reducible refine ET.list (Is.ok (by assumption)) ?_
    with_reducible refine ETs.cons ?_ ?_
    focus (intro _; exact rfl)
    with_reducible refine ET.int ?_
    with_reducible refine ETs.nil ?_
    with_reducible refine szAnd ?_ ?_
    focus exact rfl
    intro Z1 hZ1
    with_reducible apply ET.var (by assumption)
    focus with_reducible exact upd_at _ _ _
    focus exact rfl
    refine BinT.mulL I.ok (hup_at _ _ _) (by omega) (by omega) (by simp) fun Z2 hZ2 => ?_
    rw [Int.toNat_natCast, repInt]
    have HZ := hup_at (hup H1 Z1 (.list [.int 0])) Z2 (.list ((List.replicate ov 0).map .int))
    have X2 : Ext H1 (hup (hup H1 Z1 (.list [.int 0])) Z2 (.list ((List.replicate ov 0).map .int))) := ((Ext.refl H1).hup hZ1).hup hZ2
    generalize hup (hup H1 Z1 (.list [.int 0])) Z2 (.list ((List.replicate ov 0).map .int)) = H2 at HZ X2
    have hov1 : ov < ns.length := by have := (dueAt_len rs rs.length).2; rw [hdue] at this; omega
    with_reducible refine ET.listcomp (Is.ok (by assumption)) (CompOk.of (by assumption) ?_ ?_) (by assumption) ?_ ?_
    focus exact rfl
    focus exact (by decide)
    focus (intro _ _; exact rfl)
    refine IT.list hR.hh ?_
    with_reducible apply ET.var (by assumption)
    focus (with_reducible refine (upd_ne ?_).trans ?_); (focus (first | assumption | exact (by decide))); with_reducible assumption
    focus exact rfl
    refine ⟨D, _, rfl, X2 _ _ HD, ?_⟩
    refine CompL.inv (AgI2 H2 ns due ov) ?_ ?_ ⟨[], due, rfl, rfl, rfl, Ext.refl _⟩
    · rintro v r acc H3 ⟨d1, d2, e0, hr', rfl, X3⟩ cl L hE'
      cases d2 with
      | nil => cases hr'
      | cons x d2 =>
      injection hr' with hv hr2
      subst hv hr2
      have hx := hd x (by rw [e0]; simp)
      have hl1 : d1.length ≤ 100 := by rw [e0] at hle; simp at hle; omega
      with_reducible refine AT.name (by assumption) ?_ ?_
      focus refine Or.inl ?_; exact rfl
      with_reducible refine TestsT.no ?_
      with_reducible refine iteT ?_
      with_reducible refine ET.binop ?_
      with_reducible refine ET.sub ?_ ?_
      focus nofun
      with_reducible apply ET.var (by assumption)
      focus (with_reducible refine (upd_ne ?_).trans ?_); (focus (first | assumption | exact (by decide))); (with_reducible refine (lcap_free ?_).trans ?_); (focus exact rfl); (with_reducible refine (upd_ne ?_).trans ?_); (focus (first | assumption | exact (by decide))); with_reducible assumption
      focus exact rfl
      with_reducible apply ET.var (by assumption)
      focus (with_reducible refine (upd_ne ?_).trans ?_); (focus (first | assumption | exact (by decide))); (with_reducible refine (lcap_free ?_).trans ?_); (focus exact rfl); with_reducible exact upd_at _ _ _
      focus exact rfl
      refine SubT.list (X3 _ _ (X2 _ _ hb1)) (by omega) (by omega) (getI hov1 rfl) ?_
      with_reducible apply ET.var (by assumption)
      focus with_reducible exact upd_at _ _ _
      focus exact rfl
      refine BinT.mul (.of_right hx) ?_
      exact ⟨X3 _ _ (X2 _ _ HD), by simp; unfold sizeLine; omega, d1 ++ [x], d2, by rw [e0]; simp, rfl, by simp, X3⟩
    · rintro acc H3 ⟨d1, d2, e0, hr', rfl, X3⟩
      obtain rfl : d2 = [] := by cases d2 with | nil => rfl | cons _ _ => cases hr'
      rw [List.append_nil] at e0
      subst e0
      refine ⟨by simp; unfold sizeLine; omega, fun E hE3 => ?_⟩
      have HZ3 := (hup_ne (o := PO.list ((due.map fun x => ns.getD ov 0 * x).map .int)) (ne_of (X3 _ _ HZ) hE3)).trans (X3 _ _ HZ)
      have hb3 := (hup_ne (o := PO.list ((due.map fun x => ns.getD ov 0 * x).map .int)) (ne_of (X3 _ _ (X2 _ _ hb1)) hE3)).trans (X3 _ _ (X2 _ _ hb1))
      refine BinT.addL I.ok HZ3 (hup_at _ _ _) (by simp; unfold sizeLine; omega) fun F hF => ?_
      have hb4 := (hup_ne (o := PO.list ((List.replicate ov 0).map PV.int ++ (due.map fun x => ns.getD ov 0 * x).map .int)) (ne_of hb3 hF)).trans hb3
      have eF : (List.replicate ov 0).map PV.int ++ (due.map fun x => ns.getD ov 0 * x).map PV.int = ns.map PV.int := by
        rw [← List.map_append, ← he]
      rw [eF] at hb4 ⊢
      refine CmpT.eqD hR (.list hb4 (RDs.ints _ _)) (.list (hup_at _ _ _) (RDs.ints _ _)) (shaped_ints ns) (shaped_ints ns) ?_
      rw [PyData.eqv, eqv_ints]
      with_reducible refine GK.use (by assumption) ?_
      exact h _ (((X1.trans X2).trans X3).hup hE3 |>.hup hF)
end
end Mine
end
section
open PySem PySem.W PyProof.Rows PySem.Calls PySem.Spec
set_option maxRecDepth 100000
set_option maxHeartbeats 1000000
namespace Mine
section
variable {g : Gd} {A : Around} {H : PH} {Q : PV → PH → Prop}
theorem gb_sum (I : Is g) : GB g "sum" (.builtin "sum") := ⟨by rw [I.K]; k_is, by decide, rfl⟩
theorem ck_sum : CallK g (.builtin "sum") := .inl ⟨_, rfl⟩
theorem gl_row (I : Is g) : nsIn g.K mainGlobals "_law_row" = some (some (.ref 205)) := by rw [I.K]; k_is
theorem gl_product (I : Is g) : nsIn g.K mainGlobals "_law_product" = some (some (.ref 186)) := by rw [I.K]; k_is
theorem gl_numbers (I : Is g) : nsIn g.K mainGlobals "_law_numbers" = some (some (.ref 212)) := by rw [I.K]; k_is
theorem gl_changes (I : Is g) : nsIn g.K mainGlobals "_law_changes" = some (some (.ref 224)) := by rw [I.K]; k_is
theorem gl_again (I : Is g) : nsIn g.K mainGlobals "_law_again" = some (some (.ref 229)) := by rw [I.K]; k_is
theorem gl_bound (I : Is g) : nsIn g.K mainGlobals "_law_bound" = some (some (.ref 236)) := by rw [I.K]; k_is
theorem ck_205 (I : Is g) : CallK g (.ref 205) := .inr (.inr (by rw [I.K]; k_is))
theorem ck_186 (I : Is g) : CallK g (.ref 186) := .inr (.inr (by rw [I.K]; k_is))
theorem ck_212 (I : Is g) : CallK g (.ref 212) := .inr (.inr (by rw [I.K]; k_is))
theorem ck_224 (I : Is g) : CallK g (.ref 224) := .inr (.inr (by rw [I.K]; k_is))
theorem ck_229 (I : Is g) : CallK g (.ref 229) := .inr (.inr (by rw [I.K]; k_is))
theorem ck_236 (I : Is g) : CallK g (.ref 236) := .inr (.inr (by rw [I.K]; k_is))
theorem Refs.snoc {H : PH} {a : Addr} {n : List Int} (e : H a = some (.list (n.map .int))) : ∀ {as : List Addr} {ns : List (List Int)}, Refs H as ns → Refs H (as ++ [a]) (ns ++ [n])
  | [], [], _ => ⟨e, trivial⟩
  | _ :: _, _ :: _, ⟨x, r⟩ => ⟨x, Refs.snoc e r⟩
  | [], _ :: _, h => h.elim
  | _ :: _, [], h => h.elim
theorem topN_le {t : Tab Int} {B : Nat} (h : TabOk t 11 B) : topN t ≤ 11 := by
  obtain ⟨a, b, c⟩ := foldmax (t.map (·.1)) 0
  unfold topN
  rcases c with c | ⟨x, hx, c⟩
  · omega
  · obtain ⟨e, he, rfl⟩ := List.mem_map.mp hx
    have := h.ent e he; omega
theorem rangeSize8 : (Builtin.Range.rangeSize (-7) 8 2).toNat = 8 := by decide
theorem small8 : Builtin.Range.small (-7) 8 2 = true := by decide
inductive LawM (a : Addr) (sc : List Int) (l : PL) (H1 : PH) : Prop where
  | mk (ra : Addr) (_ : l (Str.ofString "roots") = some (.ref ra)) (_ : l (Str.ofString "script") = some (.k (.ref a))) (_ : H1 ra = some (.list ((rootsOf sc).map .int))) : LawM a sc l H1
inductive LawI1 (H : PH) (D : Addr) (sc : List Int) (r : List PV) (acc : List PV) (H3 : PH) : Prop where
  | mk (n1 n2 : List Int) (_ : sc.take 3 = n1 ++ n2) (_ : r = n2.map PV.int) (_ : acc = (n1.map fun n => n.fmod 7 - 3).map PV.int) (_ : Ext (hup H D (.list ((sc.take 3).map .int))) H3) : LawI1 H D sc r acc H3
inductive LawI1b (H : PH) (D E0 : Addr) (sc : List Int) (r : List PV) (acc : List PV) (H3 : PH) : Prop where
  | mk (n1 n2 : List Int) (_ : [4] = n1 ++ n2) (_ : r = n2.map PV.int) (_ : acc = (n1.map fun n => n.fmod 7 - 3).map PV.int) (_ : Ext (hup (hup H D (.list ((sc.take 3).map .int))) E0 (.list [.int 4])) H3) : LawI1b H D E0 sc r acc H3
inductive LawI2 (H3 : PH) (ads : List Addr) (tabs : List (Tab Int)) (r : List PV) (acc : List PV) (H4 : PH) : Prop where
  | mk (j : Nat) (as : List Addr) (_ : r = (ads.drop j).map PV.ref) (_ : j ≤ ads.length) (_ : acc = as.map PV.ref) (_ : Refs H4 as (sizesOf false (tabs.take j))) (_ : Ext H3 H4) : LawI2 H3 ads tabs r acc H4
inductive LawI3 (H5 : PH) (ads : List Addr) (tabs : List (Tab Int)) (r : List PV) (acc : List PV) (H4 : PH) : Prop where
  | mk (j : Nat) (as : List Addr) (_ : r = (ads.drop j).map PV.ref) (_ : j ≤ ads.length) (_ : acc = as.map PV.ref) (_ : Refs H4 as (sizesOf true (tabs.take j))) (_ : Ext H5 H4) : LawI3 H5 ads tabs r acc H4
inductive LawI4 (H7 : PH) (cf : Nat → Int) (r : List PV) (acc : List PV) (H8 : PH) : Prop where
  | mk (j n : Nat) (_ : j + n = 8) (_ : r = rangeL (2 * (j : Int) - 7) 2 n) (_ : acc = ((List.range j).map cf).map PV.int) (_ : Ext H7 H8) : LawI4 H7 cf r acc H8
inductive LawI5 (H9 : PH) (cf : Nat → Int) (r : List PV) (acc : List PV) (H10 : PH) : Prop where
  | mk (j n : Nat) (_ : j + n = 7) (_ : r = rangeL (j : Int) 1 n) (_ : acc = ((List.range j).map fun k => cf k - cf (k + 1)).map PV.int) (_ : Ext H9 H10) : LawI5 H9 cf r acc H10
inductive LawI6 (H11 : PH) (df : Nat → Int) (r : List PV) (acc : List PV) (H12 : PH) : Prop where
  | mk (j n : Nat) (_ : j + n = 7) (_ : r = rangeL (j : Int) 1 n) (_ : acc = ((List.range j).map df).map PV.int) (_ : Ext H11 H12) : LawI6 H11 df r acc H12
theorem law_ct (I : Is g) (R : Room A 20) {a : Addr} {sc : List Int} (ha : GList g a sc) (hlen : sc.length ≤ 63) (PL : PlainLaw sc) (h : ∀ H', Q (.bool true) H') : CT g A H (.ref 241) [.k (.ref a)] Q := by
  refine' CT.def (n := 19) (ns := [Str.ofString "script"]) I.ok R (ho := ?ho) (hfd := ?hfd) (hb := ?hb) (hcode := ?hc) (hnames := ?hnm) ?h1 ?h2 ?h3 ?h4 ?h5 ?h6 ?h7 ?h8 ?h9 rfl ?_
  case ho => rw [I.K]; k_is
  case hfd => exact rfl
  case hb => exact rfl
  case hc => rw [I.K]; k_is
  case hnm => exact rfl
  case h1 => exact rfl
  case h2 => exact rfl
  case h3 => exact rfl
  case h4 => exact rfl
  case h5 => exact rfl
  case h6 => exact rfl
  case h7 => (intro s vs hv; obtain ⟨x0, rfl⟩ := len1 hv; exact BindsTo.of_eq rfl)
  case h8 => decide
  case h9 => exact rfl
  intro env A' hE hk hF hR
  dsimp only at hk
  with_reducible refine SS.cons (ST.gen fun _ _ => ?_)
  refine ST.cut (LawM a sc) ?_ ?_
  · with_reducible refine ST.assign (by assumption) ?_ (swaps_cell ?_) ?_
    focus refine Or.inr ⟨?_, by assumption⟩; (with_reducible refine KO.at (by assumption) ?_); exact rfl
    focus (with_reducible refine KO.at (by assumption) ?_); exact rfl
    with_reducible refine ET.listcomp (Is.ok (by assumption)) (CompOk.of (by assumption) ?_ ?_) (by assumption) ?_ ?_
    focus exact rfl
    focus exact (by decide)
    focus (intro _ _; exact rfl)
    refine IT.list hR.hh ?_
    refine ET.or ?_
    refine ET.sliceToG I.ok (fun _ _ => rfl) ?_
    with_reducible apply ET.var (by assumption)
    focus with_reducible exact parms_at
    focus exact rfl
    with_reducible refine ET.int ?_
    refine ⟨a, sc, 3, rfl, rfl, ha, by unfold sizeLine; omega, fun D hD => ?_⟩
    refine TrT.list (hup_at _ _ _) (by simp; omega) ?_
    refine iteC (fun hc => ?_) (fun hc => ?_)
    · refine ⟨D, _, rfl, hup_at _ _ _, ?_⟩
      refine CompL.inv (LawI1 H D sc) ?_ ?_ ⟨[], _, rfl, rfl, rfl, Ext.refl _⟩
      · rintro v r acc H3 ⟨n1, n2, e0, hr', rfl, X3⟩ cl L hE'
        cases n2 with
        | nil => cases hr'
        | cons x n2 =>
        injection hr' with hv hr2
        subst hv hr2
        have hl1 : n1.length ≤ 100 := by have := congrArg List.length e0; simp at this; omega
        with_reducible refine AT.name (by assumption) ?_ ?_
        focus refine Or.inl ?_; exact rfl
        with_reducible refine TestsT.no ?_
        with_reducible refine iteT ?_
        with_reducible refine ET.binop ?_
        with_reducible refine ET.binop ?_
        with_reducible apply ET.var (by assumption)
        focus with_reducible exact upd_at _ _ _
        focus exact rfl
        with_reducible refine ET.int ?_
        refine BinT.mod (by decide) ?_
        with_reducible refine ET.int ?_
        with_reducible refine BinT.sub ?_
        exact ⟨X3 _ _ (hup_at _ _ _), by simp; unfold sizeLine; omega, n1 ++ [x], n2, by rw [e0]; simp, rfl, by simp, X3⟩
      · rintro acc H3 ⟨n1, n2, e0, hr', rfl, X3⟩
        obtain rfl : n2 = [] := by cases n2 with | nil => rfl | cons _ _ => cases hr'
        rw [List.append_nil] at e0
        have hl1 : n1.length ≤ 100 := by have := congrArg List.length e0; simp at this; omega
        refine ⟨by simp; unfold sizeLine; omega, fun E hE3 => ⟨E, by ((with_reducible exact upd_at _ _ _)), by (((with_reducible refine (upd_ne ?_).trans ?_); (focus (first | assumption | exact (by decide))); with_reducible exact parms_at)), ?_⟩⟩
        rw [hup_at, ← e0, rootsOf, if_neg (by simpa using hc)]
    · with_reducible refine ET.list (Is.ok (by assumption)) ?_
      with_reducible refine ETs.cons ?_ ?_
      focus (intro _; exact rfl)
      with_reducible refine ET.int ?_
      with_reducible refine ETs.nil ?_
      with_reducible refine szAnd ?_ ?_
      focus exact rfl
      intro E0 hE0
      refine ⟨E0, _, rfl, hup_at _ _ _, ?_⟩
      refine CompL.inv (LawI1b H D E0 sc) ?_ ?_ ⟨[], _, rfl, rfl, rfl, Ext.refl _⟩
      · rintro v r acc H3 ⟨n1, n2, e0, hr', rfl, X3⟩ cl L hE'
        cases n2 with
        | nil => cases hr'
        | cons x n2 =>
        injection hr' with hv hr2
        subst hv hr2
        have hl1 : n1.length ≤ 100 := by have := congrArg List.length e0; simp at this; omega
        with_reducible refine AT.name (by assumption) ?_ ?_
        focus refine Or.inl ?_; exact rfl
        with_reducible refine TestsT.no ?_
        with_reducible refine iteT ?_
        with_reducible refine ET.binop ?_
        with_reducible refine ET.binop ?_
        with_reducible apply ET.var (by assumption)
        focus with_reducible exact upd_at _ _ _
        focus exact rfl
        with_reducible refine ET.int ?_
        refine BinT.mod (by decide) ?_
        with_reducible refine ET.int ?_
        with_reducible refine BinT.sub ?_
        exact ⟨X3 _ _ (hup_at _ _ _), by simp; unfold sizeLine; omega, n1 ++ [x], n2, by rw [e0]; simp, rfl, by simp, X3⟩
      · rintro acc H3 ⟨n1, n2, e0, hr', rfl, X3⟩
        obtain rfl : n2 = [] := by cases n2 with | nil => rfl | cons _ _ => cases hr'
        rw [List.append_nil] at e0
        have hl1 : n1.length ≤ 100 := by have := congrArg List.length e0; simp at this; omega
        refine ⟨by simp; unfold sizeLine; omega, fun E hE3 => ⟨E, by ((with_reducible exact upd_at _ _ _)), by (((with_reducible refine (upd_ne ?_).trans ?_); (focus (first | assumption | exact (by decide))); with_reducible exact parms_at)), ?_⟩⟩
        rw [hup_at, ← e0, rootsOf, if_pos (by simpa using hc)]
  · rintro l H1 ⟨ra, l1, l2, Hra⟩
    with_reducible refine GK.use (by assumption) ?_
    with_reducible refine SS.cons (ST.gen fun _ _ => ?_)
    with_reducible refine ST.assign (by assumption) ?_ ?_ ?_
    focus refine Or.inl ?_; (with_reducible refine KO.at (by assumption) ?_); exact rfl
    focus exact rfl
    with_reducible refine ET.call (Is.ok (by assumption)) ?_ ?_
    focus exact rfl
    with_reducible apply ET.bi (by assumption) (Is.ok (by assumption))
    focus (with_reducible refine KO.at (by assumption) ?_); exact rfl
    focus exact rfl
    focus with_reducible exact gb_sum (by assumption)
    with_reducible refine ⟨_, rfl, ?_, ?_⟩
    focus with_reducible exact ck_sum
    with_reducible refine ETs.cons ?_ ?_
    focus (intro _; exact rfl)
    with_reducible apply ET.var (by assumption)
    focus with_reducible assumption
    focus exact rfl
    with_reducible refine ETs.nil ?_
    refine CT.sumG hR ha ?_
    with_reducible refine GK.use (by assumption) ?_
    with_reducible refine SS.cons (ST.gen fun _ _ => ?_)
    with_reducible refine ST.assign (by assumption) ?_ ?_ ?_
    focus refine Or.inl ?_; (with_reducible refine KO.at (by assumption) ?_); exact rfl
    focus exact rfl
    with_reducible refine ET.binop ?_
    with_reducible refine ET.binop ?_
    with_reducible refine ET.binop ?_
    with_reducible apply ET.var (by assumption)
    focus with_reducible exact upd_at _ _ _
    focus exact rfl
    with_reducible refine ET.int ?_
    refine BinT.fdiv (by decide) (PyProof.noPylong_of_log2 (by decide +kernel)) ?_
    with_reducible refine ET.int ?_
    refine BinT.mod (by decide) ?_
    with_reducible refine ET.int ?_
    with_reducible refine BinT.sub ?_
    with_reducible refine GK.use (by assumption) ?_
    with_reducible refine SS.cons (ST.gen fun _ _ => ?_)
    with_reducible refine ST.assign (by assumption) ?_ ?_ ?_
    focus refine Or.inl ?_; (with_reducible refine KO.at (by assumption) ?_); exact rfl
    focus exact rfl
    with_reducible refine ET.binop ?_
    with_reducible refine ET.int ?_
    with_reducible refine ET.binop ?_
    with_reducible refine ET.binop ?_
    with_reducible apply ET.var (by assumption)
    focus (with_reducible refine (upd_ne ?_).trans ?_); (focus (first | assumption | exact (by decide))); with_reducible exact upd_at _ _ _
    focus exact rfl
    with_reducible refine ET.int ?_
    refine BinT.fdiv (by decide) (PyProof.noPylong_of_log2 (by decide +kernel)) ?_
    with_reducible refine ET.int ?_
    refine BinT.mod (by decide) ?_
    with_reducible refine BinT.add ?_
    with_reducible refine GK.use (by assumption) ?_
    with_reducible refine SS.cons (ST.gen fun _ _ => ?_)
    with_reducible refine ST.assign (by assumption) ?_ ?_ ?_
    focus refine Or.inl ?_; (with_reducible refine KO.at (by assumption) ?_); exact rfl
    focus exact rfl
    with_reducible refine ET.call (Is.ok (by assumption)) ?_ ?_
    focus exact rfl
    with_reducible apply ET.glob (by assumption) (Is.ok (by assumption))
    focus (with_reducible refine KO.at (by assumption) ?_); exact rfl
    focus exact rfl
    focus with_reducible exact gl_row (by assumption)
    with_reducible refine ⟨_, rfl, ?_, ?_⟩
    focus with_reducible exact ck_205 (by assumption)
    with_reducible refine ETs.cons ?_ ?_
    focus (intro _; exact rfl)
    with_reducible refine ET.call (Is.ok (by assumption)) ?_ ?_
    focus exact rfl
    with_reducible apply ET.glob (by assumption) (Is.ok (by assumption))
    focus (with_reducible refine KO.at (by assumption) ?_); exact rfl
    focus exact rfl
    focus with_reducible exact gl_product (by assumption)
    with_reducible refine ⟨_, rfl, ?_, ?_⟩
    focus with_reducible exact ck_186 (by assumption)
    with_reducible refine ETs.cons ?_ ?_
    focus (intro _; exact rfl)
    with_reducible apply ET.var (by assumption)
    focus (with_reducible refine (upd_ne ?_).trans ?_); (focus (first | assumption | exact (by decide))); (with_reducible refine (upd_ne ?_).trans ?_); (focus (first | assumption | exact (by decide))); (with_reducible refine (upd_ne ?_).trans ?_); (focus (first | assumption | exact (by decide))); with_reducible assumption
    focus exact rfl
    with_reducible refine ETs.cons ?_ ?_
    focus (intro _; exact rfl)
    with_reducible apply ET.var (by assumption)
    focus (with_reducible refine (upd_ne ?_).trans ?_); (focus (first | assumption | exact (by decide))); with_reducible exact upd_at _ _ _
    focus exact rfl
    with_reducible refine ETs.cons ?_ ?_
    focus (intro _; exact rfl)
    with_reducible apply ET.var (by assumption)
    focus with_reducible exact upd_at _ _ _
    focus exact rfl
    with_reducible refine ETs.nil ?_
    have hrl := rootsOf_len sc
    have hrb := rootsOf_bd sc
    have hmb : -3 ≤ (sc.sum.fdiv 7).fmod 7 - 3 ∧ (sc.sum.fdiv 7).fmod 7 - 3 ≤ 3 := midOf_bd sc
    have hhb : 1 ≤ 1 + (sc.sum.fdiv 49).fmod 1000 ∧ 1 + (sc.sum.fdiv 49).fmod 1000 ≤ 1000 := htOf_bd sc
    have hemid : (sc.sum.fdiv 7).fmod 7 - 3 = midOf sc := rfl
    have heht : 1 + (sc.sum.fdiv 49).fmod 1000 = htOf sc := rfl
    rw [hemid, heht]
    rw [hemid] at hmb
    rw [heht] at hhb
    generalize hmid : midOf sc = mid at *
    generalize hht : htOf sc = ht at *
    have hmm : mid * mid ≤ 9 := by have := sq_le (n := 3) (d := mid) (by omega); omega
    have hmm0 : 0 ≤ mid * mid := by have := Int.natAbs_mul_self (a := mid); omega
    have small : ∀ z : Int, -10000 ≤ z → z ≤ 10000 → Builtin.Int.intBits z ≤ 64 := fun z h1 h2 => intBits_le (by omega)
    refine prod_ct I (hR.le (by decide)) Hra hrl.2 (fun r hr => small r (by have := hrb r hr; omega) (by have := hrb r hr; omega)) (small _ (by omega) (by omega)) (small _ (by omega) (by omega)) (small _ (by omega) (by omega)) fun T0 ep0 H2 X2 HT0 => ?_
    have et0 : prodT (rootsOf sc) mid ht = tab0 sc := by unfold tab0; rw [hmid, hht]
    rw [et0] at HT0
    with_reducible refine ETs.nil ?_
    refine row_ct I (hR.le (by decide)) HT0 PL.ok PL.high (by omega) (by omega) fun RA ads ts H3 X3 HRA HT hrow hsm hads => ?_
    have hra3 := X3 _ _ (X2 _ _ Hra)
    generalize htabs : tab0 sc :: slopeT (tab0 sc) :: ts = tabs at *
    with_reducible refine GK.use (by assumption) ?_
    with_reducible refine SS.cons (ST.gen fun _ _ => ?_)
    with_reducible refine ST.assign (by assumption) ?_ (swaps_cell ?_) ?_
    focus refine Or.inr ⟨?_, by assumption⟩; (with_reducible refine KO.at (by assumption) ?_); exact rfl
    focus (with_reducible refine KO.at (by assumption) ?_); exact rfl
    with_reducible refine ET.listcomp (Is.ok (by assumption)) (CompOk.of (by assumption) ?_ ?_) (by assumption) ?_ ?_
    focus exact rfl
    focus exact (by decide)
    focus (intro _ _; exact rfl)
    refine IT.list hR.hh ?_
    with_reducible apply ET.var (by assumption)
    focus with_reducible exact upd_at _ _ _
    focus exact rfl
    refine ⟨RA, _, rfl, HRA, ?_⟩
    refine CompL.inv (LawI2 H3 ads tabs) ?_ ?_ ⟨0, [], by simp, Nat.zero_le _, rfl, trivial, Ext.refl _⟩
    · rintro v r acc H4 ⟨j, as, hr', hj, rfl, hrefs, X4⟩ cl L hE'
      have hjl : j < ads.length := by
        refine Nat.lt_of_le_of_ne hj fun z => ?_
        rw [z, List.drop_length] at hr'; cases hr'
      have hjt : j < tabs.length := by rw [← HT.1]; exact hjl
      rw [List.drop_eq_getElem_cons hjl, List.map_cons] at hr'
      injection hr' with hv hr2
      subst hv hr2
      obtain ⟨ep0, Ht⟩ := HT.2 j ads[j] tabs[j] (List.getElem?_eq_getElem hjl) (List.getElem?_eq_getElem hjt)
      obtain ⟨B0, okt⟩ := hsm tabs[j] (List.getElem_mem hjt)
      have hal : as.length ≤ 100 := by have := hrefs.length; simp [sizesOf] at this; omega
      with_reducible refine AT.name (by assumption) ?_ ?_
      focus refine Or.inl ?_; exact rfl
      with_reducible refine TestsT.no ?_
      with_reducible refine iteT ?_
      with_reducible refine ET.call (Is.ok (by assumption)) ?_ ?_
      focus exact rfl
      with_reducible apply ET.glob (by assumption) (Is.ok (by assumption))
      focus exact rfl
      focus exact rfl
      focus with_reducible exact gl_numbers (by assumption)
      with_reducible refine ⟨_, rfl, ?_, ?_⟩
      focus with_reducible exact ck_212 (by assumption)
      with_reducible refine ETs.cons ?_ ?_
      focus (intro _; exact rfl)
      with_reducible apply ET.var (by assumption)
      focus with_reducible exact upd_at _ _ _
      focus exact rfl
      with_reducible refine ETs.cons ?_ ?_
      focus (intro _; exact rfl)
      with_reducible refine ET.bool ?_
      with_reducible refine ETs.nil ?_
      refine nums_ct I (hR.le (by decide)) (X4 _ _ ((Ext.refl H3) _ _ Ht)) (Nat.le_trans (okLen okt (by omega)) (by decide)) (fun k hk => by
        obtain ⟨e, he, rfl⟩ := List.mem_map.mp hk
        have := okt.ent e he; omega) fun N m H6 hm X6 HN => ?_
      obtain rfl := hm.eq
      refine ⟨X6 _ _ (X4 _ _ HRA), by simp; unfold sizeLine; omega, j + 1, as ++ [N], rfl, hjl, by simp, ?_, X4.trans X6⟩
      have ez : sizesOf false (tabs.take (j + 1)) = sizesOf false (tabs.take j) ++ [numsDown tabs[j] false (topN tabs[j] + 1)] := by
        unfold sizesOf; rw [List.take_add_one, List.getElem?_eq_getElem hjt, List.map_append]; rfl
      rw [ez]; exact Refs.snoc HN (hrefs.ext X6)
    · rintro acc H4 ⟨j, as, hr', hj, rfl, hrefs, X4⟩
      have hjl : j = ads.length := by
        refine Nat.le_antisymm hj ?_
        have := congrArg List.length hr'; simp at this; omega
      have htk : tabs.take j = tabs := List.take_of_length_le (by rw [hjl, HT.1]; exact Nat.le_refl _)
      rw [htk] at hrefs
      have hal : as.length ≤ 100 := by have := hrefs.length; simp [sizesOf] at this; have := HT.1; omega
      refine ⟨by simp; unfold sizeLine; omega, fun SZ hSZ => ?_⟩
      with_reducible refine GK.use (by assumption) ?_
      with_reducible refine SS.cons (ST.gen fun _ _ => ?_)
      with_reducible refine ST.assignL (Is.ok (by assumption)) (CompOk.of (by assumption) ?_ ?_) (by assumption) ?_ (swaps_L (by assumption) ?_ ?_ ?_) ?_ ?_
      focus exact rfl
      focus exact (by decide)
      focus refine Or.inl ?_; (with_reducible refine KO.at (by assumption) ?_); exact rfl
      focus (with_reducible refine KO.at (by assumption) ?_); exact rfl
      focus exact rfl
      focus exact (by decide)
      focus (intro _ _; exact rfl)
      have X34 : Ext H3 (hup H4 SZ (.list (as.map .ref))) := X4.hup hSZ
      have HSZ := hup_at H4 SZ (.list (as.map PV.ref))
      have RSZ := hrefs.ext ((Ext.refl H4).hup (o := .list (as.map .ref)) hSZ)
      generalize hup H4 SZ (.list (as.map .ref)) = H5 at X34 HSZ RSZ
      have X35 := X34
      refine IT.list hR.hh ?_
      with_reducible apply ET.var (by assumption)
      focus (with_reducible refine (upd_ne ?_).trans ?_); (focus (first | assumption | exact (by decide))); with_reducible exact upd_at _ _ _
      focus exact rfl
      refine ⟨RA, _, rfl, (X35 _ _ HRA), ?_⟩
      refine CompL.inv (LawI3 H5 ads tabs) ?_ ?_ ⟨0, [], by simp, Nat.zero_le _, rfl, trivial, Ext.refl _⟩
      · rintro v r acc H4 ⟨j, as, hr', hj, rfl, hrefs, X4⟩ cl L hE'
        have hjl : j < ads.length := by
          refine Nat.lt_of_le_of_ne hj fun z => ?_
          rw [z, List.drop_length] at hr'; cases hr'
        have hjt : j < tabs.length := by rw [← HT.1]; exact hjl
        rw [List.drop_eq_getElem_cons hjl, List.map_cons] at hr'
        injection hr' with hv hr2
        subst hv hr2
        obtain ⟨ep0, Ht⟩ := HT.2 j ads[j] tabs[j] (List.getElem?_eq_getElem hjl) (List.getElem?_eq_getElem hjt)
        obtain ⟨B0, okt⟩ := hsm tabs[j] (List.getElem_mem hjt)
        have hal : as.length ≤ 100 := by have := hrefs.length; simp [sizesOf] at this; omega
        with_reducible refine AT.name (by assumption) ?_ ?_
        focus refine Or.inl ?_; exact rfl
        with_reducible refine TestsT.no ?_
        with_reducible refine iteT ?_
        with_reducible refine ET.call (Is.ok (by assumption)) ?_ ?_
        focus exact rfl
        with_reducible apply ET.glob (by assumption) (Is.ok (by assumption))
        focus exact rfl
        focus exact rfl
        focus with_reducible exact gl_numbers (by assumption)
        with_reducible refine ⟨_, rfl, ?_, ?_⟩
        focus with_reducible exact ck_212 (by assumption)
        with_reducible refine ETs.cons ?_ ?_
        focus (intro _; exact rfl)
        with_reducible apply ET.var (by assumption)
        focus with_reducible exact upd_at _ _ _
        focus exact rfl
        with_reducible refine ETs.cons ?_ ?_
        focus (intro _; exact rfl)
        with_reducible refine ET.bool ?_
        with_reducible refine ETs.nil ?_
        refine nums_ct I (hR.le (by decide)) (X4 _ _ (X35 _ _ Ht)) (Nat.le_trans (okLen okt (by omega)) (by decide)) (fun k hk => by
          obtain ⟨e, he, rfl⟩ := List.mem_map.mp hk
          have := okt.ent e he; omega) fun N m H6 hm X6 HN => ?_
        obtain rfl := hm.eq
        refine ⟨X6 _ _ (X4 _ _ (X35 _ _ HRA)), by simp; unfold sizeLine; omega, j + 1, as ++ [N], rfl, hjl, by simp, ?_, X4.trans X6⟩
        have ez : sizesOf true (tabs.take (j + 1)) = sizesOf true (tabs.take j) ++ [numsDown tabs[j] true (topN tabs[j] + 1)] := by
          unfold sizesOf; rw [List.take_add_one, List.getElem?_eq_getElem hjt, List.map_append]; rfl
        rw [ez]; exact Refs.snoc HN (hrefs.ext X6)
      · rintro acc H4 ⟨j, as, hr', hj, rfl, hrefs, X4⟩
        have hjl : j = ads.length := by
          refine Nat.le_antisymm hj ?_
          have := congrArg List.length hr'; simp at this; omega
        have htk : tabs.take j = tabs := List.take_of_length_le (by rw [hjl, HT.1]; exact Nat.le_refl _)
        rw [htk] at hrefs
        have hal : as.length ≤ 100 := by have := hrefs.length; simp [sizesOf] at this; have := HT.1; omega
        refine ⟨by simp; unfold sizeLine; omega, fun CZ hCZ => ?_⟩
        with_reducible refine GK.use (by assumption) ?_
        with_reducible refine SS.cons (ST.gen fun _ _ => ?_)
        with_reducible refine ST.assign (by assumption) ?_ (swaps_cell ?_) ?_
        focus refine Or.inr ⟨?_, by assumption⟩; (with_reducible refine KO.at (by assumption) ?_); exact rfl
        focus (with_reducible refine KO.at (by assumption) ?_); exact rfl
        with_reducible refine ET.listcomp (Is.ok (by assumption)) (CompOk.of (by assumption) ?_ ?_) (by assumption) ?_ ?_
        focus exact rfl
        focus exact (by decide)
        focus (intro _ _; exact rfl)
        have X57 : Ext H5 (hup H4 CZ (.list (as.map .ref))) := X4.hup hCZ
        have HCZ := hup_at H4 CZ (.list (as.map PV.ref))
        have RCZ := hrefs.ext ((Ext.refl H4).hup (o := .list (as.map .ref)) hCZ)
        generalize hup H4 CZ (.list (as.map .ref)) = H7 at X57 HCZ RCZ
        have lenS : (sizesOf false tabs).length ≤ 100 := by simp [sizesOf]; rw [← HT.1]; omega
        have lenN : ∀ c, ∀ ns ∈ sizesOf c tabs, ns.length ≤ 40 := fun c ns hns => by
          obtain ⟨t, ht, rfl⟩ := List.mem_map.mp hns
          obtain ⟨B0, okt⟩ := hsm t ht
          have := topN_le okt
          rw [numsDown_len]; omega
        generalize hcf : (fun j : Nat => ((changesN (signsOf (worthsAt (sizesOf false tabs) (2 * (j : Int) - 7))) : Nat) : Int)) = cf
        refine IT.range hR.hh (fun _ _ => rfl) ?_
        with_reducible refine ET.call (Is.ok (by assumption)) ?_ ?_
        focus exact rfl
        with_reducible apply ET.bi (by assumption) (Is.ok (by assumption))
        focus (with_reducible refine KO.at (by assumption) ?_); exact rfl
        focus exact rfl
        focus with_reducible exact gb_range (by assumption)
        with_reducible refine ⟨_, rfl, ?_, ?_⟩
        focus with_reducible exact ck_range
        with_reducible refine ETs.cons ?_ ?_
        focus (intro _; exact rfl)
        with_reducible refine ET.unop ?_
        with_reducible refine ET.int ?_
        with_reducible refine UnT.neg ?_
        with_reducible refine ETs.cons ?_ ?_
        focus (intro _; exact rfl)
        with_reducible refine ET.int ?_
        with_reducible refine ETs.cons ?_ ?_
        focus (intro _; exact rfl)
        with_reducible refine ET.int ?_
        with_reducible refine ETs.nil ?_
        refine CT.range3 (by decide) (PyProof.noPylong_of_log2 (by decide +kernel)) ?_
        refine ⟨_, _, _, rfl, small8, ?_⟩
        rw [rangeSize8]
        refine CompL.inv (LawI4 H7 cf) ?_ ?_ ⟨0, 8, rfl, rfl, rfl, Ext.refl _⟩
        · rintro v r acc H8 ⟨j, n, hj, hr', rfl, X8⟩ cl L hE'
          cases n with
          | zero => simp [rangeL] at hr'
          | succ n =>
          rw [rangeL_succ] at hr'
          injection hr' with hv hr2
          subst hv hr2
          with_reducible refine AT.name (by assumption) ?_ ?_
          focus refine Or.inl ?_; exact rfl
          with_reducible refine TestsT.no ?_
          with_reducible refine iteT ?_
          with_reducible refine ET.call (Is.ok (by assumption)) ?_ ?_
          focus exact rfl
          with_reducible apply ET.glob (by assumption) (Is.ok (by assumption))
          focus exact rfl
          focus exact rfl
          focus with_reducible exact gl_changes (by assumption)
          with_reducible refine ⟨_, rfl, ?_, ?_⟩
          focus with_reducible exact ck_224 (by assumption)
          with_reducible refine ETs.cons ?_ ?_
          focus (intro _; exact rfl)
          with_reducible apply ET.var (by assumption)
          focus (with_reducible refine (upd_ne ?_).trans ?_); (focus (first | assumption | exact (by decide))); (with_reducible refine (lcap_free ?_).trans ?_); (focus exact rfl); (with_reducible refine (upd_ne ?_).trans ?_); (focus (first | assumption | exact (by decide))); with_reducible exact upd_at _ _ _
          focus exact rfl
          with_reducible refine ETs.cons ?_ ?_
          focus (intro _; exact rfl)
          with_reducible apply ET.var (by assumption)
          focus with_reducible exact upd_at _ _ _
          focus exact rfl
          with_reducible refine ETs.nil ?_
          refine changes_ct I (hR.le (by decide)) (X8 _ _ (X57 _ _ HSZ)) ((RSZ.ext X57).ext X8) lenS (lenN false) (small _ (by omega) (by omega)) fun H9 X9 => ?_
          refine ⟨trivial, by simp; unfold sizeLine; omega, j + 1, n, by omega, by rw [show 2 * (j : Int) - 7 + 2 = 2 * ((j + 1 : Nat) : Int) - 7 by omega], ?_, X8.trans X9⟩
          rw [List.range_succ, List.map_append, List.map_append, ← hcf]; rfl
        · rintro acc H8 ⟨j, n, hj, hr', rfl, X8⟩
          have hn : n = 0 := by have := congrArg List.length hr'; simpa [rangeL_length] using this.symm
          obtain rfl : j = 8 := by omega
          refine ⟨by simp; unfold sizeLine; omega, fun CH hCH => ?_⟩
          have X9 : Ext H7 (hup H8 CH (.list (((List.range 8).map cf).map .int))) := X8.hup hCH
          have HCH := hup_at H8 CH (.list (((List.range 8).map cf).map .int))
          generalize hup H8 CH (.list (((List.range 8).map cf).map .int)) = H9 at X9 HCH
          with_reducible refine GK.use (by assumption) ?_
          with_reducible refine SS.cons (ST.gen fun _ _ => ?_)
          with_reducible refine ST.assignL (Is.ok (by assumption)) (CompOk.of (by assumption) ?_ ?_) (by assumption) ?_ (swaps_L (by assumption) ?_ ?_ ?_) ?_ ?_
          focus exact rfl
          focus exact (by decide)
          focus refine Or.inl ?_; (with_reducible refine KO.at (by assumption) ?_); exact rfl
          focus (with_reducible refine KO.at (by assumption) ?_); exact rfl
          focus exact rfl
          focus exact (by decide)
          focus (intro _ _; exact rfl)
          refine IT.range hR.hh (fun _ _ => rfl) ?_
          with_reducible refine ET.call (Is.ok (by assumption)) ?_ ?_
          focus exact rfl
          with_reducible apply ET.bi (by assumption) (Is.ok (by assumption))
          focus (with_reducible refine KO.at (by assumption) ?_); exact rfl
          focus exact rfl
          focus with_reducible exact gb_range (by assumption)
          with_reducible refine ⟨_, rfl, ?_, ?_⟩
          focus with_reducible exact ck_range
          with_reducible refine ETs.cons ?_ ?_
          focus (intro _; exact rfl)
          with_reducible refine ET.int ?_
          with_reducible refine ETs.nil ?_
          refine CT.range1 ⟨_, _, _, rfl, small_up _ _ (by decide) (by decide) (by decide) (by decide), ?_⟩
          rw [range_items]
          refine CompL.inv (LawI5 H9 cf) ?_ ?_ ⟨0, 7, rfl, rfl, rfl, Ext.refl _⟩
          · rintro v r acc H10 ⟨j, n, hj, hr', rfl, X10⟩ cl L hE'
            cases n with
            | zero => simp [rangeL] at hr'
            | succ n =>
            rw [rangeL_succ] at hr'
            injection hr' with hv hr2
            subst hv hr2
            have gk : ∀ k : Nat, k < 8 → (((List.range 8).map cf).map PV.int)[k]? = some (.int (cf k)) := fun k hk => by
              rw [List.getElem?_map, List.getElem?_map, List.getElem?_range hk]; rfl
            with_reducible refine AT.name (by assumption) ?_ ?_
            focus refine Or.inl ?_; exact rfl
            with_reducible refine TestsT.no ?_
            with_reducible refine iteT ?_
            with_reducible refine ET.call (Is.ok (by assumption)) ?_ ?_
            focus exact rfl
            with_reducible apply ET.glob (by assumption) (Is.ok (by assumption))
            focus exact rfl
            focus exact rfl
            focus with_reducible exact gl_isub (by assumption)
            with_reducible refine ⟨_, rfl, ?_, ?_⟩
            focus with_reducible exact ck_169 (by assumption)
            with_reducible refine ETs.cons ?_ ?_
            focus (intro _; exact rfl)
            with_reducible refine ET.sub ?_ ?_
            focus nofun
            with_reducible apply ET.var (by assumption)
            focus (with_reducible refine (upd_ne ?_).trans ?_); (focus (first | assumption | exact (by decide))); (with_reducible refine (lcap_free ?_).trans ?_); (focus exact rfl); with_reducible exact upd_at _ _ _
            focus exact rfl
            with_reducible apply ET.var (by assumption)
            focus with_reducible exact upd_at _ _ _
            focus exact rfl
            refine SubT.list (X10 _ _ HCH) (by omega) (by omega) (by rw [Int.toNat_natCast]; exact gk j (by omega)) ?_
            with_reducible refine ETs.cons ?_ ?_
            focus (intro _; exact rfl)
            with_reducible refine ET.sub ?_ ?_
            focus nofun
            with_reducible apply ET.var (by assumption)
            focus (with_reducible refine (upd_ne ?_).trans ?_); (focus (first | assumption | exact (by decide))); (with_reducible refine (lcap_free ?_).trans ?_); (focus exact rfl); with_reducible exact upd_at _ _ _
            focus exact rfl
            with_reducible refine ET.binop ?_
            with_reducible apply ET.var (by assumption)
            focus with_reducible exact upd_at _ _ _
            focus exact rfl
            with_reducible refine ET.int ?_
            with_reducible refine BinT.add ?_
            refine SubT.list (X10 _ _ HCH) (by omega) (by omega) (by rw [show ((j : Int) + 1).toNat = j + 1 by omega]; exact gk (j + 1) (by omega)) ?_
            with_reducible refine ETs.nil ?_
            refine isub_ct I (hR.le (by decide)) ?_
            refine ⟨trivial, by simp; unfold sizeLine; omega, j + 1, n, by omega, by rw [show (j : Int) + 1 = ((j + 1 : Nat) : Int) by omega], ?_, X10⟩
            rw [List.range_succ, List.map_append, List.map_append]; rfl
          · rintro acc H10 ⟨j, n, hj, hr', rfl, X10⟩
            have hn : n = 0 := by have := congrArg List.length hr'; simpa [rangeL_length] using this.symm
            obtain rfl : j = 7 := by omega
            refine ⟨by simp; unfold sizeLine; omega, fun TD hTD => ?_⟩
            have X11 : Ext H9 (hup H10 TD (.list (((List.range 7).map fun k => cf k - cf (k + 1)).map .int))) := X10.hup hTD
            have HTD := hup_at H10 TD (.list (((List.range 7).map fun k => cf k - cf (k + 1)).map .int))
            generalize hup H10 TD (.list (((List.range 7).map fun k => cf k - cf (k + 1)).map .int)) = H11 at X11 HTD
            with_reducible refine GK.use (by assumption) ?_
            with_reducible refine SS.cons (ST.gen fun _ _ => ?_)
            with_reducible refine ST.assignL (Is.ok (by assumption)) (CompOk.of (by assumption) ?_ ?_) (by assumption) ?_ (swaps_L (by assumption) ?_ ?_ ?_) ?_ ?_
            focus exact rfl
            focus exact (by decide)
            focus refine Or.inl ?_; (with_reducible refine KO.at (by assumption) ?_); exact rfl
            focus (with_reducible refine KO.at (by assumption) ?_); exact rfl
            focus exact rfl
            focus exact (by decide)
            focus (intro _ _; exact rfl)
            have hra11 := X11 _ _ (X9 _ _ (X57 _ _ (X34 _ _ hra3)))
            have X311 := ((X34.trans X57).trans X9).trans X11
            generalize hdf : (fun k : Nat => if (rootsOf sc).any (· == (k : Int) - 3) then (1 : Int) else 0) = df
            refine IT.range hR.hh (fun _ _ => rfl) ?_
            with_reducible refine ET.call (Is.ok (by assumption)) ?_ ?_
            focus exact rfl
            with_reducible apply ET.bi (by assumption) (Is.ok (by assumption))
            focus (with_reducible refine KO.at (by assumption) ?_); exact rfl
            focus exact rfl
            focus with_reducible exact gb_range (by assumption)
            with_reducible refine ⟨_, rfl, ?_, ?_⟩
            focus with_reducible exact ck_range
            with_reducible refine ETs.cons ?_ ?_
            focus (intro _; exact rfl)
            with_reducible refine ET.int ?_
            with_reducible refine ETs.nil ?_
            refine CT.range1 ⟨_, _, _, rfl, small_up _ _ (by decide) (by decide) (by decide) (by decide), ?_⟩
            rw [range_items]
            refine CompL.inv (LawI6 H11 df) ?_ ?_ ⟨0, 7, rfl, rfl, rfl, Ext.refl _⟩
            · rintro v r acc H12 ⟨j, n, hj, hr', rfl, X12⟩ cl L hE'
              cases n with
              | zero => simp [rangeL] at hr'
              | succ n =>
              rw [rangeL_succ] at hr'
              injection hr' with hv hr2
              subst hv hr2
              with_reducible refine AT.name (by assumption) ?_ ?_
              focus refine Or.inl ?_; exact rfl
              with_reducible refine TestsT.no ?_
              with_reducible refine iteT ?_
              refine ET.ite ?_
              with_reducible refine BT.cmp ?_ ?_
              focus exact rfl
              with_reducible refine ET.binop ?_
              with_reducible apply ET.var (by assumption)
              focus with_reducible exact upd_at _ _ _
              focus exact rfl
              with_reducible refine ET.int ?_
              with_reducible refine BinT.sub ?_
              with_reducible apply ET.var (by assumption)
              focus (with_reducible refine (upd_ne ?_).trans ?_); (focus (first | assumption | exact (by decide))); (with_reducible refine (lcap_free ?_).trans ?_); (focus exact rfl); (with_reducible refine (upd_ne ?_).trans ?_); (focus (first | assumption | exact (by decide))); (with_reducible refine (upd_ne ?_).trans ?_); (focus (first | assumption | exact (by decide))); (with_reducible refine (upd_ne ?_).trans ?_); (focus (first | assumption | exact (by decide))); (with_reducible refine (upd_ne ?_).trans ?_); (focus (first | assumption | exact (by decide))); (with_reducible refine (upd_ne ?_).trans ?_); (focus (first | assumption | exact (by decide))); (with_reducible refine (upd_ne ?_).trans ?_); (focus (first | assumption | exact (by decide))); (with_reducible refine (upd_ne ?_).trans ?_); (focus (first | assumption | exact (by decide))); (with_reducible refine (upd_ne ?_).trans ?_); (focus (first | assumption | exact (by decide))); with_reducible assumption
              focus exact rfl
              refine CmpT.inI (X12 _ _ hra11) ?_
              with_reducible refine TrT.bool ?_
              have fin : ∀ z : Int, df j = z → (((List.range j).map df).map PV.int ++ [PV.int z]) = ((List.range (j + 1)).map df).map PV.int := fun z hz => by
                rw [List.range_succ, List.map_append, List.map_append, ← hz]; rfl
              refine iteC (fun hc => ?_) (fun hc => ?_)
              · with_reducible refine ET.int ?_
                exact ⟨trivial, by simp; unfold sizeLine; omega, j + 1, n, by omega, by rw [show (j : Int) + 1 = ((j + 1 : Nat) : Int) by omega], fin 1 (by rw [← hdf]; simp only [hc]; rfl), X12⟩
              · with_reducible refine ET.int ?_
                exact ⟨trivial, by simp; unfold sizeLine; omega, j + 1, n, by omega, by rw [show (j : Int) + 1 = ((j + 1 : Nat) : Int) by omega], fin 0 (by rw [← hdf]; simp only [hc]; rfl), X12⟩
            · rintro acc H12 ⟨j, n, hj, hr', rfl, X12⟩
              have hn : n = 0 := by have := congrArg List.length hr'; simpa [rangeL_length] using this.symm
              obtain rfl : j = 7 := by omega
              refine ⟨by simp; unfold sizeLine; omega, fun DD hDD => ?_⟩
              have X13 : Ext H11 (hup H12 DD (.list (((List.range 7).map df).map .int))) := X12.hup hDD
              have HDD := hup_at H12 DD (.list (((List.range 7).map df).map .int))
              generalize hup H12 DD (.list (((List.range 7).map df).map .int)) = H13 at X13 HDD
              have etold : ((List.range 7).map fun k => cf k - cf (k + 1)) = (List.range 7).map df := by
                refine List.map_congr_left fun k hk => ?_
                have hk7 : k < 7 := by simpa using hk
                have := PL.told ts hrow k hk7
                rw [htabs] at this
                rw [← hcf, ← hdf]
                show ((changesN _ : Nat) : Int) - ((changesN _ : Nat) : Int) = _
                rw [show 2 * ((k + 1 : Nat) : Int) - 7 = 2 * (k : Int) - 5 by omega]
                exact this
              rw [etold] at HTD
              with_reducible refine GK.use (by assumption) ?_
              with_reducible refine SS.cons (ST.gen fun _ _ => ?_)
              with_reducible refine ST.ite ?_
              refine BT.or ?_
              with_reducible refine BT.cmp ?_ ?_
              focus exact rfl
              with_reducible apply ET.var (by assumption)
              focus (with_reducible refine (upd_ne ?_).trans ?_); (focus (first | assumption | exact (by decide))); with_reducible exact upd_at _ _ _
              focus exact rfl
              with_reducible apply ET.var (by assumption)
              focus with_reducible exact upd_at _ _ _
              focus exact rfl
              refine CmpT.neD hR (.list (X13 _ _ HTD) (RDs.ints _ _)) (.list HDD (RDs.ints _ _)) (shaped_ints _) (shaped_ints _) ?_
              with_reducible refine TrT.bool ?_
              rw [PyData.eqv, eqv_ints]
              refine iteF' rfl ?_
              with_reducible refine BT.not ?_
              with_reducible refine BT.val ?_ ?_
              focus (intro _ _; exact rfl)
              with_reducible refine ET.call (Is.ok (by assumption)) ?_ ?_
              focus exact rfl
              with_reducible apply ET.glob (by assumption) (Is.ok (by assumption))
              focus (with_reducible refine KO.at (by assumption) ?_); exact rfl
              focus exact rfl
              focus with_reducible exact gl_again (by assumption)
              with_reducible refine ⟨_, rfl, ?_, ?_⟩
              focus with_reducible exact ck_229 (by assumption)
              with_reducible refine ETs.cons ?_ ?_
              focus (intro _; exact rfl)
              with_reducible apply ET.var (by assumption)
              focus (with_reducible refine (upd_ne ?_).trans ?_); (focus (first | assumption | exact (by decide))); (with_reducible refine (upd_ne ?_).trans ?_); (focus (first | assumption | exact (by decide))); (with_reducible refine (upd_ne ?_).trans ?_); (focus (first | assumption | exact (by decide))); (with_reducible refine (upd_ne ?_).trans ?_); (focus (first | assumption | exact (by decide))); (with_reducible refine (upd_ne ?_).trans ?_); (focus (first | assumption | exact (by decide))); (with_reducible refine (upd_ne ?_).trans ?_); (focus (first | assumption | exact (by decide))); (with_reducible refine (upd_ne ?_).trans ?_); (focus (first | assumption | exact (by decide))); (with_reducible refine (upd_ne ?_).trans ?_); (focus (first | assumption | exact (by decide))); (with_reducible refine (upd_ne ?_).trans ?_); (focus (first | assumption | exact (by decide))); with_reducible assumption
              focus exact rfl
              with_reducible refine ETs.cons ?_ ?_
              focus (intro _; exact rfl)
              with_reducible refine ET.sub ?_ ?_
              focus nofun
              with_reducible apply ET.var (by assumption)
              focus (with_reducible refine (upd_ne ?_).trans ?_); (focus (first | assumption | exact (by decide))); (with_reducible refine (upd_ne ?_).trans ?_); (focus (first | assumption | exact (by decide))); (with_reducible refine (upd_ne ?_).trans ?_); (focus (first | assumption | exact (by decide))); (with_reducible refine (upd_ne ?_).trans ?_); (focus (first | assumption | exact (by decide))); with_reducible exact upd_at _ _ _
              focus exact rfl
              with_reducible refine ET.unop ?_
              with_reducible refine ET.int ?_
              with_reducible refine UnT.neg ?_
              have XF := X311.trans X13
              have X513 := ((X57.trans X9).trans X11).trans X13
              have hlt : tabs.length = ts.length + 2 := by rw [← htabs]; rfl
              have hsl : (sizesOf false tabs).length = ts.length + 2 := by simp [sizesOf, hlt]
              obtain ⟨ns, hns⟩ : ∃ ns, (sizesOf false tabs)[ts.length]? = some ns := ⟨_, List.getElem?_eq_getElem (by omega)⟩
              have hnsm : ns ∈ sizesOf false tabs := List.mem_of_getElem? hns
              obtain ⟨nsA, e1, e2⟩ := RSZ.get hns
              have lenA := RSZ.length
              refine SubT.listNeg (X513 _ _ HSZ) (by decide) (by rw [List.length_map, lenA, hsl]; omega) (by decide) (d := .ref nsA) (by
                rw [List.length_map, lenA, hsl, show ((-2 : Int) + ((ts.length + 2 : Nat) : Int)).toNat = ts.length by omega, List.getElem?_map, e1]; rfl) ?_
              with_reducible refine ETs.nil ?_
              obtain ⟨a1, a2, a3⟩ := PL.again ts ns hrow (by rw [htabs]; exact hns)
              refine again_ct I (hR.le (by decide)) (X13 _ _ hra11) (X513 _ _ e2) hrl.2 (Nat.le_trans (lenN false ns hnsm) (by decide)) hrb a1 a2 a3 fun H14 X14 => ?_
              with_reducible refine TrT.bool ?_
              refine iteF' rfl ?_
              with_reducible refine SS.nil ?_
              with_reducible refine GK.use (by assumption) ?_
              with_reducible refine SS.cons (ST.gen fun _ _ => ?_)
              with_reducible refine ST.ret ?_
              with_reducible refine ET.call (Is.ok (by assumption)) ?_ ?_
              focus exact rfl
              with_reducible apply ET.glob (by assumption) (Is.ok (by assumption))
              focus (with_reducible refine KO.at (by assumption) ?_); exact rfl
              focus exact rfl
              focus with_reducible exact gl_bound (by assumption)
              with_reducible refine ⟨_, rfl, ?_, ?_⟩
              focus with_reducible exact ck_236 (by assumption)
              with_reducible refine ETs.cons ?_ ?_
              focus (intro _; exact rfl)
              with_reducible apply ET.var (by assumption)
              focus (with_reducible refine (upd_ne ?_).trans ?_); (focus (first | assumption | exact (by decide))); (with_reducible refine (upd_ne ?_).trans ?_); (focus (first | assumption | exact (by decide))); (with_reducible refine (upd_ne ?_).trans ?_); (focus (first | assumption | exact (by decide))); (with_reducible refine (upd_ne ?_).trans ?_); (focus (first | assumption | exact (by decide))); (with_reducible refine (upd_ne ?_).trans ?_); (focus (first | assumption | exact (by decide))); (with_reducible refine (upd_ne ?_).trans ?_); (focus (first | assumption | exact (by decide))); (with_reducible refine (upd_ne ?_).trans ?_); (focus (first | assumption | exact (by decide))); (with_reducible refine (upd_ne ?_).trans ?_); (focus (first | assumption | exact (by decide))); (with_reducible refine (upd_ne ?_).trans ?_); (focus (first | assumption | exact (by decide))); with_reducible assumption
              focus exact rfl
              with_reducible refine ETs.cons ?_ ?_
              focus (intro _; exact rfl)
              with_reducible apply ET.var (by assumption)
              focus (with_reducible refine (upd_ne ?_).trans ?_); (focus (first | assumption | exact (by decide))); (with_reducible refine (upd_ne ?_).trans ?_); (focus (first | assumption | exact (by decide))); (with_reducible refine (upd_ne ?_).trans ?_); (focus (first | assumption | exact (by decide))); (with_reducible refine (upd_ne ?_).trans ?_); (focus (first | assumption | exact (by decide))); (with_reducible refine (upd_ne ?_).trans ?_); (focus (first | assumption | exact (by decide))); (with_reducible refine (upd_ne ?_).trans ?_); (focus (first | assumption | exact (by decide))); (with_reducible refine (upd_ne ?_).trans ?_); (focus (first | assumption | exact (by decide))); with_reducible exact upd_at _ _ _
              focus exact rfl
              with_reducible refine ETs.cons ?_ ?_
              focus (intro _; exact rfl)
              with_reducible apply ET.var (by assumption)
              focus (with_reducible refine (upd_ne ?_).trans ?_); (focus (first | assumption | exact (by decide))); (with_reducible refine (upd_ne ?_).trans ?_); (focus (first | assumption | exact (by decide))); (with_reducible refine (upd_ne ?_).trans ?_); (focus (first | assumption | exact (by decide))); (with_reducible refine (upd_ne ?_).trans ?_); (focus (first | assumption | exact (by decide))); (with_reducible refine (upd_ne ?_).trans ?_); (focus (first | assumption | exact (by decide))); (with_reducible refine (upd_ne ?_).trans ?_); (focus (first | assumption | exact (by decide))); with_reducible exact upd_at _ _ _
              focus exact rfl
              with_reducible refine ETs.cons ?_ ?_
              focus (intro _; exact rfl)
              with_reducible apply ET.var (by assumption)
              focus (with_reducible refine (upd_ne ?_).trans ?_); (focus (first | assumption | exact (by decide))); (with_reducible refine (upd_ne ?_).trans ?_); (focus (first | assumption | exact (by decide))); (with_reducible refine (upd_ne ?_).trans ?_); (focus (first | assumption | exact (by decide))); (with_reducible refine (upd_ne ?_).trans ?_); (focus (first | assumption | exact (by decide))); with_reducible exact upd_at _ _ _
              focus exact rfl
              with_reducible refine ETs.cons ?_ ?_
              focus (intro _; exact rfl)
              with_reducible apply ET.var (by assumption)
              focus (with_reducible refine (upd_ne ?_).trans ?_); (focus (first | assumption | exact (by decide))); (with_reducible refine (upd_ne ?_).trans ?_); (focus (first | assumption | exact (by decide))); (with_reducible refine (upd_ne ?_).trans ?_); (focus (first | assumption | exact (by decide))); with_reducible exact upd_at _ _ _
              focus exact rfl
              with_reducible refine ETs.nil ?_
              have pb := PL.bits
              have pB := PL.bound ts hrow
              rw [hmid, hht] at pb pB
              rw [htabs] at pB
              refine bound_ct I (hR.le (by decide)) (X14 _ _ (X13 _ _ hra11)) (X14 _ _ (X513 _ _ HSZ)) (X14 _ _ (((X9.trans X11).trans X13) _ _ HCZ)) ((RSZ.ext X513).ext X14) ((RCZ.ext ((X9.trans X11).trans X13)).ext X14) hrl.2 lenS (by simp [sizesOf]) (lenN false) (lenN true) hrb hmb pb pB fun H15 X15 => ?_
              with_reducible refine GK.use (by assumption) ?_
              exact h _
end
end Mine
end
section
open PySem PySem.W PyProof.Rows PySem.Calls PySem.Spec
set_option maxRecDepth 100000
set_option maxHeartbeats 4000000
namespace Mine
theorem holds_of (PL : ∀ sc : List Int, sc.length ≤ 63 → PlainLaw sc) : PySem.Challenge.rw_wa0013_03.Holds := hd (by
  k_fill
  intro w s₀ s₁ mg mb G Y fa o pm cd doc dV kV ho hd' hcd hD hmg hg args vals as hpre hlay hrd hwl hlo
  have KX := kIn_of Y
  have T := topRead_of G.T
  clear hD hd' hcd Y
  wrow_args hpre hlay hrd hwl hlo
  rename IntsAre _ _ => hI
  rename Heap.IsList _ _ _ => hL
  rename ¬ _ => hlen
  rename_i sc _ _ _ _ _ _ _ a vs _ _ _ _ _ _
  obtain ⟨ol, eol, col, nl, dol⟩ := id hL
  let g : Gd := ⟨PySem.Challenge.rw_wa0013_03.row.prog, w, hd.heap_1 w.params, vw, looseW vw [Str.ofString "Statistic", Str.ofString "StatisticDiff"], mg, mb, s₁.heap⟩
  have I : Is g := ⟨⟨KX, T⟩, rfl⟩
  have hfa : mg (Str.ofString "law") = some (.ref 241) := mg_of KX T.g (by k_is)
  have hfa' : fa = 241 := by
    have e : mg (Str.ofString "law") = some (.ref fa) := hmg
    rw [hfa] at e; injection e with e; injection e with e; exact e.symm
  subst hfa'
  have B : BR g (fun _ => none) s₁.heap := ⟨fun _ _ e => e, fun _ _ e => by cases e⟩
  have R : Room callerA 20 := ⟨rfl, by decide, by decide⟩
  refine wpAny_mono (law_ct (Q := fun v _ => v = .bool true) I R (a := a) (sc := sc) ?_ (by omega) (PL sc (by omega)) (fun _ => rfl) [.ref a] s₁ (fun v s' => GoodWG PySem.Challenge.rw_wa0013_03.row.claim (classAt s₀.heap) (ExcName.means s₀.heap) [ofPy (PyData.list (List.map PyData.int sc))] s₁ (Except.ok (Flow.ret v)) s') (.cons (.k _) .nil) B ?_) (fun _ _ x => x) (fun _ _ x => x.elim)
  · exact ⟨vs, hL, hI⟩
  · intro v pv H' h' tk B' S' V' e
    subst e
    cases V'
    refine GoodW.toG ⟨.inl ⟨_, .bool true, [], rfl, fun _ => rfl, ?_, ?_, ?_⟩, B'.keep, rfl, hg⟩
    · exact .bool true
    · first | rfl | decide | kernel_rfl | simp [PySem.Challenge.rw_wa0013_03]
    · exact fun _ => ⟨List.nodup_nil, fun _ h => by cases h⟩
    )
/-- the homogeneous worth of the lowest n coefficients -/
noncomputable def homo (c : Int → Int) (x u : Int) : Nat → Int
  | 0 => 0
  | n + 1 => c n * x ^ n + u * homo c x u n
theorem worth_homo (t : Tab Int) (cnt : Bool) (x u : Int) : ∀ (n : Nat) (w s : Int), worthGo x u (numsDown t cnt n) w s = w * x ^ n + s * homo (fun k => numAt t cnt k) x u n
  | 0, w, s => by simp [numsDown, worthGo, homo]
  | n + 1, w, s => by
    rw [numsDown, worthGo, worth_homo t cnt x u n, homo, Int.pow_succ]
    grind
/-- a polynomial's worth, as a rational number -/
noncomputable def ev (c : Int → Int) (x : Rat) : Nat → Rat
  | 0 => 0
  | n + 1 => ev c x n + (c n : Rat) * x ^ n
theorem rat_mul_pow (a b : Rat) : ∀ n : Nat, (a * b) ^ n = a ^ n * b ^ n
  | 0 => by simp
  | n + 1 => by rw [Rat.pow_succ, Rat.pow_succ, Rat.pow_succ, rat_mul_pow a b n]; grind
theorem homo_ev (c : Int → Int) (X U : Int) (x : Rat) (hx : (X : Rat) = (U : Rat) * x) : ∀ n, ((homo c X U (n + 1) : Int) : Rat) = (U : Rat) ^ n * ev c x (n + 1)
  | 0 => by simp [homo, ev]; grind
  | n + 1 => by
    have ih := homo_ev c X U x hx n
    rw [homo, Rat.intCast_add, Rat.intCast_mul, Rat.intCast_mul, ih, Rat.intCast_pow, hx, rat_mul_pow]
    show _ = (U : Rat) ^ (n + 1) * (ev c x (n + 1) + (c ((n + 1 : Nat) : Int) : Rat) * x ^ (n + 1))
    rw [Rat.pow_succ (U : Rat), Rat.pow_succ x]; grind
structure TabM (t : Tab Int) (K : Int) (M : Nat) : Prop where
  nk : Nk t
  ent : ∀ e ∈ t, 0 ≤ e.1 ∧ e.1 ≤ K ∧ e.2.1.natAbs ≤ M ∧ e.2.2 = 0
theorem TabM.val {t : Tab Int} {K : Int} {M : Nat} (h : TabM t K M) (k : Int) : (valT t k).1.natAbs ≤ M ∧ (valT t k).2 = 0 := by
  by_cases hk : k ∈ t.map (·.1)
  · obtain ⟨e, he, rfl⟩ := List.mem_map.mp hk
    rw [valT_mem h.nk he]
    exact ⟨(h.ent e he).2.2.1, (h.ent e he).2.2.2⟩
  · rw [valT_not hk]; exact ⟨Nat.zero_le _, rfl⟩
theorem TabM.key {t : Tab Int} {K : Int} {M : Nat} (h : TabM t K M) {k : Int} (hk : k ∈ t.map (·.1)) : 0 ≤ k ∧ k ≤ K := by
  obtain ⟨e, he, rfl⟩ := List.mem_map.mp hk
  exact ⟨(h.ent e he).1, (h.ent e he).2.1⟩
theorem times_keys {t : Tab Int} {f u k : Int} (h : k ∈ (timesT t f u).map (·.1)) : k - u ∈ t.map (·.1) := by
  obtain ⟨e, he, rfl⟩ := List.mem_map.mp h
  obtain ⟨y, hy, rfl⟩ := List.mem_map.mp he
  exact List.mem_map.mpr ⟨y, hy, by show y.1 = y.1 + u - u; omega⟩
/-- a difference of two multiples -/
theorem comb_ok {a b : Tab Int} {K : Int} {M N P : Nat} {f g u v : Int} (ha : TabM a (K - u) M) (hb : TabM b (K - v) N) (hu : 0 ≤ u) (hv : 0 ≤ v) (hP : ∀ x y : Int, x.natAbs ≤ M → y.natAbs ≤ N → (g * y - f * x).natAbs ≤ P) : TabM (takenT (timesT a f u) (timesT b g v)) K P := by
  refine ⟨takenT_nk (timesT_nk ha.nk _ _) (timesT_nk hb.nk _ _), fun e he => ?_⟩
  obtain ⟨k, s, c⟩ := e
  have hm := takenT_mem (timesT_nk ha.nk f u) (timesT_nk hb.nk g v) he
  rw [valT_times ha.nk, valT_times hb.nk] at hm
  obtain ⟨h1, h2, _, h3⟩ := hm
  have va := ha.val (k - u)
  have vb := hb.val (k - v)
  have hk : 0 ≤ k ∧ k ≤ K := by
    rcases h3 with z | z
    · have := hb.key (times_keys z); omega
    · have := ha.key (times_keys z); omega
  refine ⟨hk.1, hk.2, ?_, ?_⟩
  · show s.natAbs ≤ P
    rw [h1]; exact hP _ _ va.1 vb.1
  · show c = 0
    rw [h2]
    simp only
    rw [va.2, vb.2]; simp
theorem valT_comb {a b : Tab Int} (ha : Nk a) (hb : Nk b) (f g u v k : Int) : (valT (takenT (timesT a f u) (timesT b g v)) k).1 = g * (valT b (k - v)).1 - f * (valT a (k - u)).1 := by
  have h := (valT_taken (timesT_nk ha f u) (timesT_nk hb g v) k).1
  rw [valT_times ha, valT_times hb] at h
  exact h
theorem natAbs_lin {f g x y : Int} {F G M N : Nat} (hf : f.natAbs ≤ F) (hg : g.natAbs ≤ G) (hx : x.natAbs ≤ M) (hy : y.natAbs ≤ N) : (g * y - f * x).natAbs ≤ G * N + F * M := by
  have h1 : (g * y).natAbs ≤ G * N := by rw [Int.natAbs_mul]; exact Nat.mul_le_mul hg hy
  have h2 : (f * x).natAbs ≤ F * M := by rw [Int.natAbs_mul]; exact Nat.mul_le_mul hf hx
  omega
theorem mulRoot_M {t : Tab Int} {K : Int} {M : Nat} {r : Int} (h : TabM t K M) (hr : -3 ≤ r ∧ r ≤ 3) : TabM (mulRoot t r) (K + 1) (4 * M) := by
  refine comb_ok (K := K + 1) (M := M) (N := M) (f := r) (g := 1) (u := 0) (v := 1) ⟨h.nk, fun e he => ?_⟩ ⟨h.nk, fun e he => ?_⟩ (by decide) (by decide) fun x y hx hy => ?_
  · have := h.ent e he; omega
  · have := h.ent e he; omega
  · exact Nat.le_trans (natAbs_lin (F := 3) (G := 1) (by omega) (by decide) hx hy) (by omega)
theorem valT_mulRoot {t : Tab Int} (h : Nk t) (r k : Int) : (valT (mulRoot t r) k).1 = (valT t (k - 1)).1 - r * (valT t k).1 := by
  have := valT_comb h h r 1 0 1 k
  rw [show k - 0 = k by omega, Int.one_mul] at this
  exact this
theorem rootsT_M : ∀ (rs : List Int) (t : Tab Int) (K : Int) (M : Nat), TabM t K M → (∀ r ∈ rs, -3 ≤ r ∧ r ≤ 3) → TabM (rs.foldl mulRoot t) (K + rs.length) (4 ^ rs.length * M)
  | [], t, K, M, h, _ => by simpa using h
  | r :: rs, t, K, M, h, hr => by
    have h1 := rootsT_M rs (mulRoot t r) (K + 1) (4 * M) (mulRoot_M h (hr r (by simp))) fun x hx => hr x (by simp [hx])
    rw [List.foldl_cons, List.length_cons, Nat.pow_succ]
    have e1 : K + 1 + (rs.length : Int) = K + ((rs.length + 1 : Nat) : Int) := by omega
    have e2 : 4 ^ rs.length * (4 * M) = 4 ^ rs.length * 4 * M := by rw [Nat.mul_assoc]
    rw [← e1, ← e2]; exact h1
theorem timesT_one (t : Tab Int) : timesT t 1 0 = t := by
  unfold timesT
  conv => rhs; rw [← List.map_id t]
  refine List.map_congr_left fun e _ => ?_
  show (e.1 + 0, 1 * e.2.1, 1 * e.2.2) = e
  rw [Int.add_zero, Int.one_mul, Int.one_mul]
theorem base_M : TabM [(0, 1, 0)] 0 1 := ⟨by simp [Nk], fun e he => by obtain rfl := List.mem_singleton.mp he; decide⟩
theorem prodT_M {rs : List Int} {m h : Int} (hl : rs.length ≤ 3) (hr : ∀ r ∈ rs, -3 ≤ r ∧ r ≤ 3) (hm : -3 ≤ m ∧ m ≤ 3) (hh : 1 ≤ h ∧ h ≤ 1000) : TabM (prodT rs m h) (rs.length + 2) 66000 := by
  have h0 := rootsT_M rs [(0, 1, 0)] 0 1 base_M hr
  have hp : 4 ^ rs.length * 1 ≤ 64 := by
    have := Nat.pow_le_pow_right (n := 4) (by decide) hl
    omega
  have hT : TabM (rootsT rs) rs.length 64 := ⟨h0.nk, fun e he => by have := h0.ent e he; exact ⟨this.1, by omega, by omega, this.2.2.2⟩⟩
  have up : ∀ {K : Int}, (rs.length : Int) ≤ K → TabM (rootsT rs) K 64 := fun hK => ⟨hT.nk, fun e he => by have := hT.ent e he; exact ⟨this.1, by omega, this.2.2⟩⟩
  have hmm : (m * m + h).natAbs ≤ 1009 := by
    have := sq_le (n := 3) (d := m) (by omega)
    omega
  have h1 : TabM (takenT (timesT (rootsT rs) (m * m + h) 0) (timesT (rootsT rs) (2 * m) 1)) (rs.length + 1) (6 * 64 + 1009 * 64) :=
    comb_ok (up (by omega)) (up (by omega)) (by decide) (by decide) fun x y hx hy => natAbs_lin hmm (by omega) hx hy
  have h2 := comb_ok (K := rs.length + 2) (P := 1 * 64 + 1 * (6 * 64 + 1009 * 64)) (f := 1) (g := 1) (u := 0) (v := 2) (a := takenT (timesT (rootsT rs) (m * m + h) 0) (timesT (rootsT rs) (2 * m) 1)) (b := rootsT rs) (M := 6 * 64 + 1009 * 64) (N := 64)
    ⟨h1.nk, fun e he => by have := h1.ent e he; exact ⟨this.1, by omega, this.2.2⟩⟩ (up (by omega)) (by decide) (by decide) fun x y hx hy => natAbs_lin (by decide) (by decide) hx hy
  rw [timesT_one] at h2
  exact ⟨h2.nk, fun e he => by have := h2.ent e he; exact ⟨this.1, this.2.1, by omega, this.2.2.2⟩⟩
theorem TabM.ok {t : Tab Int} {K : Int} {M B : Nat} (h : TabM t K M) (hM : M < 2 ^ B) : TabOk t K B :=
  ⟨h.nk, fun e he => by
    have := h.ent e he
    have hp : 0 < 2 ^ B := Nat.pow_pos (by decide)
    exact ⟨this.1, this.2.1, by omega, by rw [this.2.2.2]; exact hp⟩⟩
theorem prodT_ok {rs : List Int} {m h : Int} (hl : rs.length ≤ 3) (hr : ∀ r ∈ rs, -3 ≤ r ∧ r ≤ 3) (hm : -3 ≤ m ∧ m ≤ 3) (hh : 1 ≤ h ∧ h ≤ 1000) : TabOk (prodT rs m h) (rs.length + 2) 22 := (prodT_M hl hr hm hh).ok (by decide)
theorem valT_prod {rs : List Int} {m h : Int} (hn : Nk (rootsT rs)) (k : Int) : (valT (prodT rs m h) k).1 = (valT (rootsT rs) (k - 2)).1 - 2 * m * (valT (rootsT rs) (k - 1)).1 + (m * m + h) * (valT (rootsT rs) k).1 := by
  have n1 := takenT_nk (timesT_nk hn (m * m + h) 0) (timesT_nk hn (2 * m) 1)
  have h1 := valT_comb n1 hn 1 1 0 2 k
  rw [timesT_one] at h1
  have h2 := valT_comb hn hn (m * m + h) (2 * m) 0 1 k
  unfold prodT
  rw [h1, show k - 0 = k by omega, h2, show k - 0 = k by omega]
  omega
theorem roots_lead : ∀ (rs : List Int) (t : Tab Int) (d : Int), Nk t → (valT t d).1 = 1 → (∀ k, d < k → (valT t k).1 = 0) → Nk (rs.foldl mulRoot t) ∧ (valT (rs.foldl mulRoot t) (d + rs.length)).1 = 1 ∧ ∀ k, d + rs.length < k → (valT (rs.foldl mulRoot t) k).1 = 0
  | [], t, d, hn, h1, h2 => by simpa using ⟨hn, h1, h2⟩
  | r :: rs, t, d, hn, h1, h2 => by
    have hn' : Nk (mulRoot t r) := takenT_nk (timesT_nk hn _ _) (timesT_nk hn _ _)
    have z := roots_lead rs (mulRoot t r) (d + 1) hn' (by rw [valT_mulRoot hn, show d + 1 - 1 = d by omega, h1, h2 _ (by omega)]; simp) fun k hk => by rw [valT_mulRoot hn, h2 _ (by omega), h2 _ (by omega)]; simp
    rw [List.foldl_cons, List.length_cons]
    have e : d + 1 + (rs.length : Int) = d + ((rs.length + 1 : Nat) : Int) := by omega
    rw [← e]; exact z
theorem rootsT_lead (rs : List Int) : Nk (rootsT rs) ∧ (valT (rootsT rs) rs.length).1 = 1 ∧ ∀ k, (rs.length : Int) < k → (valT (rootsT rs) k).1 = 0 := by
  have z := roots_lead rs [(0, 1, 0)] 0 base_M.nk (by rw [valT_mem base_M.nk List.mem_cons_self]) fun k hk => by rw [valT_not]; simp; omega
  rw [show (0 : Int) + rs.length = rs.length by omega] at z
  exact z
theorem prodT_high {rs : List Int} {m h : Int} (hl : rs.length ≤ 3) (hr : ∀ r ∈ rs, -3 ≤ r ∧ r ≤ 3) (hm : -3 ≤ m ∧ m ≤ 3) (hh : 1 ≤ h ∧ h ≤ 1000) : IsHigh (prodT rs m h) (rs.length + 2) := by
  obtain ⟨hn, h1, h2⟩ := rootsT_lead rs
  refine IsHigh.of (by omega) (.inr ?_) (fun k hk => ?_) (prodT_M hl hr hm hh).nk
  · rw [valT_prod hn, show (rs.length : Int) + 2 - 2 = rs.length by omega, h1, h2 _ (by omega), h2 _ (by omega)]; simp
  · rw [valT_prod hn, h2 _ (by omega), h2 _ (by omega), h2 _ (by omega)]; simp
end Mine
end
section
open PySem PySem.W PyProof.Rows PySem.Calls PySem.Spec
namespace Mine
theorem slopeGo_bd {rs : List Int} {i : Nat} {s : Int} (h : ∀ j, (rs.getD i 0 - rs.getD j 0).natAbs ≤ 6) : ∀ j, (slopeGo rs i s j).natAbs ≤ s.natAbs * 6 ^ j
  | 0 => by simp [slopeGo]
  | j + 1 => by
    have ih := slopeGo_bd (s := s) h j
    rw [slopeGo, Nat.pow_succ]
    split
    · have : s.natAbs * 6 ^ j ≤ s.natAbs * (6 ^ j * 6) := Nat.mul_le_mul_left _ (Nat.le_mul_of_pos_right _ (by decide))
      omega
    · rw [Int.natAbs_mul, ← Nat.mul_assoc]; exact Nat.mul_le_mul ih (h j)
theorem slope_bits {rs : List Int} {m h : Int} (hl : rs.length ≤ 3) (hr : ∀ r ∈ rs, -3 ≤ r ∧ r ≤ 3) (hm : -3 ≤ m ∧ m ≤ 3) (hh : 1 ≤ h ∧ h ≤ 1000) (i : Nat) : Builtin.Int.intBits (slopeAt rs m h i) ≤ 64 := by
  have rb : ∀ i, -3 ≤ rs.getD i 0 ∧ rs.getD i 0 ≤ 3 := fun i => by
    rw [List.getD_eq_getElem?_getD]
    by_cases z : i < rs.length
    · rw [List.getElem?_eq_getElem z]; exact hr _ (List.getElem_mem z)
    · rw [List.getElem?_eq_none (by omega)]; exact ⟨by decide, by decide⟩
  refine intBits_le ?_
  have h1 := slopeGo_bd (rs := rs) (i := i) (s := (rs.getD i 0 - m) ^ 2 + h) (fun j => by have := rb i; have := rb j; omega) rs.length
  have h2 : ((rs.getD i 0 - m) ^ 2 + h).natAbs ≤ 1036 := by
    have a := rb i
    have : ∀ d : Int, -6 ≤ d → d ≤ 6 → 0 ≤ d ^ 2 ∧ d ^ 2 ≤ 36 := fun d h1 h2 => by
      have a := sq_le (n := 6) (d := d) (by omega)
      have b : 0 ≤ d * d := by have := Int.natAbs_mul_self (a := d); omega
      rw [show d ^ 2 = d * d by rw [Int.pow_succ, Int.pow_succ, Int.pow_zero, Int.one_mul]]
      omega
    have := this (rs.getD i 0 - m) (by omega) (by omega)
    omega
  have h3 : 6 ^ rs.length ≤ 6 ^ 3 := Nat.pow_le_pow_right (by decide) hl
  have h4 := Nat.mul_le_mul h2 h3
  unfold slopeAt
  omega
theorem ev_congr {c d : Int → Int} (x : Rat) : ∀ n : Nat, (∀ k : Nat, k < n → c k = d k) → ev c x n = ev d x n
  | 0, _ => rfl
  | n + 1, h => by rw [ev, ev, ev_congr x n fun k hk => h k (by omega), h n (by omega)]
theorem ev_lin (c d : Int → Int) (g f : Int) (x : Rat) : ∀ n : Nat, ev (fun k => g * c k - f * d k) x n = (g : Rat) * ev c x n - (f : Rat) * ev d x n
  | 0 => by simp [ev]; grind
  | n + 1 => by
    rw [ev, ev, ev, ev_lin c d g f x n, Rat.intCast_sub, Rat.intCast_mul, Rat.intCast_mul]
    grind
theorem ev_neg (c : Int → Int) (x : Rat) : ∀ n : Nat, ev (fun k => -c k) x n = -ev c x n
  | 0 => by simp [ev]
  | n + 1 => by rw [ev, ev, ev_neg c x n, Rat.intCast_neg]; grind
theorem ev_zero (c : Int → Int) (x : Rat) : ∀ n : Nat, (∀ k : Nat, k < n → c k = 0) → ev c x n = 0
  | 0, _ => rfl
  | n + 1, h => by rw [ev, ev_zero c x n fun k hk => h k (by omega), h n (by omega)]; simp; grind
theorem rat_pow_add (x : Rat) (a : Nat) : ∀ b : Nat, x ^ (a + b) = x ^ a * x ^ b
  | 0 => by simp
  | b + 1 => by rw [← Nat.add_assoc, Rat.pow_succ, Rat.pow_succ, rat_pow_add x a b]; grind
theorem ev_shift (c : Int → Int) (u : Nat) (x : Rat) (h0 : ∀ k : Int, k < 0 → c k = 0) : ∀ n : Nat, ev (fun k => c (k - u)) x (n + u) = x ^ u * ev c x n
  | 0 => by
    have z := ev_zero (fun k => c (k - u)) x (0 + u) fun k hk => h0 _ (by omega)
    rw [z, ev]; grind
  | n + 1 => by
    rw [show n + 1 + u = (n + u) + 1 by omega, ev, ev_shift c u x h0 n, ev]
    have e : (((n + u : Nat) : Int) - (u : Int)) = (n : Int) := by omega
    rw [e, rat_pow_add]
    grind
end Mine
end
section
open PySem PySem.W PyProof.Rows PySem.Calls PySem.Spec
namespace Mine
structure NN (t : Tab Int) : Prop where
  nk : Nk t
  nn : ∀ k ∈ t.map (·.1), 0 ≤ k
theorem numAt_not {t : Tab Int} {c : Bool} {k : Int} (h : k ∉ t.map (·.1)) : numAt t c k = 0 := by
  unfold numAt; rw [valT_not h]; split <;> rfl
theorem NN.neg {t : Tab Int} (h : NN t) {c : Bool} {k : Int} (hk : k < 0) : numAt t c k = 0 := numAt_not fun z => by have := h.nn k z; omega
theorem topN_ge {t : Tab Int} {k : Int} (h : k ∈ t.map (·.1)) : k.toNat ≤ topN t := by
  unfold topN; exact (foldmax (t.map (·.1)) 0).2.1 k h
theorem numAt_big {t : Tab Int} {c : Bool} {k : Int} (hk : (topN t : Int) < k) : numAt t c k = 0 := numAt_not fun z => by have := topN_ge z; omega
noncomputable def evT (t : Tab Int) (c : Bool) (x : Rat) : Rat := ev (numAt t c) x (topN t + 1)
theorem ev_cap {c : Int → Int} {x : Rat} {n : Nat} (h : ∀ k : Nat, n ≤ k → c k = 0) : ∀ j : Nat, ev c x (n + j) = ev c x n
  | 0 => rfl
  | j + 1 => by rw [← Nat.add_assoc, ev, ev_cap h j, h (n + j) (by omega)]; simp; grind
theorem evT_cap {t : Tab Int} {c : Bool} {x : Rat} {n : Nat} (h : topN t + 1 ≤ n) : ev (numAt t c) x n = evT t c x := by
  obtain ⟨j, rfl⟩ : ∃ j, n = topN t + 1 + j := ⟨n - (topN t + 1), by omega⟩
  exact ev_cap (fun k hk => numAt_big (by omega)) j
theorem pow_pol : ∀ n : Nat, Pol fun x => x ^ n
  | 0 => (Pol.con 1).congr fun x => by simp
  | n + 1 => ((pow_pol n).mul Pol.id).congr fun x => Rat.pow_succ x n
theorem numAt_step {b r : Tab Int} (hb : Nk b) (hr : Nk r) (f g u : Int) (c : Bool) (k : Int) : numAt (stepT b r f g u) c k = g * numAt r c k - f * numAt b c (k - u) := by
  have h := valT_step hb hr f g u k
  unfold numAt; cases c
  · exact h.1
  · exact h.2
theorem numAt_neg {r : Tab Int} (hr : Nk r) (c : Bool) (k : Int) : numAt (takenT r []) c k = -numAt r c k := by
  have h := valT_neg hr k
  unfold numAt; cases c
  · exact h.1
  · exact h.2
theorem taken_keys {o n : Tab Int} (ho : Nk o) (hn : Nk n) {k : Int} (h : k ∈ (takenT o n).map (·.1)) : k ∈ n.map (·.1) ∨ k ∈ o.map (·.1) := by
  obtain ⟨⟨k', s, c⟩, he, rfl⟩ := List.mem_map.mp h
  exact (takenT_mem ho hn he).2.2.2
theorem NN.step {b r : Tab Int} (hb : NN b) (hr : NN r) (f g : Int) {u : Int} (hu : 0 ≤ u) : NN (stepT b r f g u) := by
  refine ⟨stepT_nk hb.nk hr.nk _ _ _, fun k hk => ?_⟩
  rcases taken_keys (timesT_nk hb.nk _ _) (timesT_nk hr.nk _ _) hk with z | z
  · have := hr.nn _ (times_keys z); omega
  · have := hb.nn _ (times_keys z); omega
theorem NN.other {r : Tab Int} (hr : NN r) : NN (takenT r []) := by
  refine ⟨negT_nk hr.nk, fun k hk => ?_⟩
  rcases taken_keys hr.nk (by exact List.nodup_nil) hk with z | z
  · cases z
  · exact hr.nn _ z
theorem NN.slope {t : Tab Int} (h : NN t) : NN (slopeT t) := by
  refine ⟨slopeT_nk h.nk, fun k hk => ?_⟩
  obtain ⟨⟨k', s, c⟩, he, rfl⟩ := List.mem_map.mp hk
  rcases slopeT_mem.mp he with ⟨rfl, _, _⟩ | ⟨s', c', h1, h2, _, _⟩
  · exact Int.le_refl 0
  · show 0 ≤ k'; omega
theorem evT_step {b r : Tab Int} (hb : NN b) (hr : NN r) (f g : Int) (u : Nat) (c : Bool) (x : Rat) : evT (stepT b r f g u) c x = (g : Rat) * evT r c x - (f : Rat) * x ^ u * evT b c x := by
  let n := topN (stepT b r f g u) + topN b + topN r + 1
  rw [← evT_cap (t := stepT b r f g u) (n := n + u) (by omega), ← evT_cap (t := r) (n := n + u) (by omega), ← evT_cap (t := b) (n := n) (by omega)]
  rw [ev_congr (d := fun k => g * numAt r c k - f * numAt b c (k - u)) x (n + u) fun k _ => numAt_step hb.nk hr.nk f g u c k, ev_lin (numAt r c) (fun k => numAt b c (k - u)), ev_shift (numAt b c) u x (fun k hk => hb.neg hk) n]
  grind
theorem evT_neg {r : Tab Int} (hr : NN r) (c : Bool) (x : Rat) : evT (takenT r []) c x = -evT r c x := by
  let n := topN (takenT r []) + topN r + 1
  rw [← evT_cap (t := takenT r []) (n := n) (by omega), ← evT_cap (t := r) (n := n) (by omega), ev_congr (d := fun k => -numAt r c k) x n fun k _ => numAt_neg hr.nk c k, ev_neg]
theorem evT_nought {b : Tab Int} {m : Int} (h : IsHigh b m) (hm : m < 0) (x : Rat) : evT b false x = 0 :=
  ev_zero _ _ _ fun k _ => by
    have := h.zero (k := (k : Int)) (by omega)
    unfold numAt; simpa using this
theorem absI_pos {a : Int} (h : a ≠ 0) : 0 < absI a := by unfold absI; split <;> omega
theorem Div.ev {b : Tab Int} {e : Int} {r r' : Tab Int} (h : Div b e r r') (hb : NN b) (hbe : IsHigh b e) (he : 0 ≤ e) : NN r → NN r' ∧ ∃ (C : Rat) (Q : Rat → Rat), 0 < C ∧ Pol Q ∧ ∀ c x, evT r' c x = C * evT r c x - Q x * evT b c x := by
  induction h with
  | done h1 h2 => intro hr; exact ⟨hr, 1, fun _ => 0, by grind, Pol.con 0, fun c x => by grind⟩
  | step h1 h2 h3 ih =>
    rename_i r r' top
    intro hr
    obtain ⟨u, hu⟩ : ∃ u : Nat, top - e = u := ⟨(top - e).toNat, by omega⟩
    rw [hu] at h3 ih
    obtain ⟨n, C, Q, hC, hQ, k⟩ := ih (hb.step hr _ _ (by omega))
    have hg : (0 : Rat) < ((absI (valT b e).1 : Int) : Rat) := by
      have := absI_pos (hbe.val hb.nk he).1
      exact Rat.intCast_pos.mpr this
    refine ⟨n, C * (absI (valT b e).1 : Int), fun x => C * ((firstOf (valT b e).1 (valT r top).1 : Int) * x ^ u) + Q x, Rat.mul_pos hC hg, ((Pol.con C).mul ((Pol.con _).mul (pow_pol u))).add hQ, fun c x => ?_⟩
    rw [k, evT_step hb hr]
    grind
theorem Row.chain {a b : Tab Int} {ts : List (Tab Int)} (h : Row a b ts) : NN a → NN b → ∃ (G : List (Rat → Rat)) (d A B : Rat → Rat), Ch G ∧ Pol A ∧ Pol B ∧ G.length = ts.length + 1 ∧ (∀ x, (a :: b :: ts).map (fun t => evT t false x) = G.map (fun g => g x * d x) ++ [0]) ∧ (∀ x, d x = A x * evT a false x + B x * evT b false x) ∧ ∃ td, (a :: b :: ts)[ts.length]? = some td ∧ NN td ∧ ∀ x, d x = evT td false x := by
  induction h with
  | done h1 h2 =>
    rename_i a b m
    intro ha hb
    exact ⟨[fun _ => 1], evT a false, fun _ => 1, fun _ => 0, .one fun _ => rfl, Pol.con 1, Pol.con 0, rfl, fun x => by simp [evT_nought h1 h2], fun x => by grind, a, rfl, ha, fun x => rfl⟩
  | step h1 h2 h3 h4 ih =>
    rename_i a b r e ts
    intro ha hb
    obtain ⟨hr, C, Q, hC, hQ, k⟩ := h3.ev hb h1 h2 ha
    obtain ⟨G, d, A, B, hG, hA, hB, hl, hm, hd, td, t1, t2, t3⟩ := ih hb hr.other
    match G, hl with
    | g1 :: l, hl =>
      have hp := hG.pol
      have e1 : ∀ x, evT b false x = g1 x * d x := fun x => by
        have := hm x
        simp only [List.map_cons, List.cons_append] at this
        exact (List.cons.inj this).1
      have e2 : ∀ x, evT (takenT r []) false x = hdF l x * d x := fun x => by
        have := hm x
        simp only [List.map_cons, List.cons_append] at this
        have := (List.cons.inj this).2
        cases l with
        | nil => simp at this; rw [this.1]; simp [hdF]
        | cons g2 l =>
          simp only [List.map_cons, List.cons_append] at this
          exact (List.cons.inj this).1
      have e3 : ∀ x, C * evT a false x = Q x * evT b false x - evT (takenT r []) false x := fun x => by rw [evT_neg hr, k]; grind
      refine ⟨(fun x => C⁻¹ * (Q x * g1 x - hdF l x)) :: g1 :: l, d, fun x => -C * B x, fun x => A x + B x * Q x, .step hG hQ hC fun x => by grind, (Pol.con (-C)).mul hB, hA.add (hB.mul hQ), by simp at hl ⊢; omega, fun x => ?_, fun x => ?_, td, ?_, t2, t3⟩
      · rw [List.map_cons, hm x, List.map_cons (f := fun g : Rat → Rat => g x * d x), List.cons_append]
        congr 1
        have := e3 x
        rw [e1, e2] at this
        grind
      · rw [hd x]
        have := e3 x
        grind
      · exact t1
theorem Row.bez {a b : Tab Int} {ts : List (Tab Int)} (h : Row a b ts) : NN a → NN b → ∀ x s : Rat, evT a false x = s * evT a true x → evT b false x = s * evT b true x → ∀ t ∈ a :: b :: ts, evT t false x = s * evT t true x := by
  induction h with
  | done h1 h2 =>
    intro ha hb x s e1 e2 t ht
    simp at ht
    rcases ht with rfl | rfl <;> assumption
  | step h1 h2 h3 h4 ih =>
    rename_i a b r e ts
    intro ha hb x s e1 e2 t ht
    obtain ⟨hr, C, Q, hC, hQ, k⟩ := h3.ev hb h1 h2 ha
    rcases List.mem_cons.mp ht with rfl | ht
    · exact e1
    · refine ih hb hr.other x s e2 ?_ t ht
      rw [evT_neg hr, evT_neg hr, k, k]
      grind
end Mine
end
section
open PySem PySem.W PyProof.Rows PySem.Calls PySem.Spec
namespace Mine
theorem NN.comb {a b : Tab Int} (ha : NN a) (hb : NN b) (f g : Int) {u v : Int} (hu : 0 ≤ u) (hv : 0 ≤ v) : NN (takenT (timesT a f u) (timesT b g v)) := by
  refine ⟨takenT_nk (timesT_nk ha.nk _ _) (timesT_nk hb.nk _ _), fun k hk => ?_⟩
  rcases taken_keys (timesT_nk ha.nk _ _) (timesT_nk hb.nk _ _) hk with z | z
  · have := hb.nn _ (times_keys z); omega
  · have := ha.nn _ (times_keys z); omega
theorem NN.mulRoot {t : Tab Int} (h : NN t) (r : Int) : NN (mulRoot t r) := h.comb h r 1 (by decide) (by decide)
theorem base_NN : NN [(0, 1, 0)] := ⟨base_M.nk, fun k hk => by simp at hk; omega⟩
theorem foldl_NN : ∀ (rs : List Int) (t : Tab Int), NN t → NN (rs.foldl mulRoot t)
  | [], _, h => h
  | r :: rs, _, h => foldl_NN rs _ (h.mulRoot r)
theorem rootsT_NN (rs : List Int) : NN (rootsT rs) := foldl_NN rs _ base_NN
theorem prodT_NN (rs : List Int) (m h : Int) : NN (prodT rs m h) := by
  have h1 := (rootsT_NN rs).comb (rootsT_NN rs) (m * m + h) (2 * m) (u := 0) (v := 1) (by decide) (by decide)
  have h2 := h1.comb (rootsT_NN rs) 1 1 (u := 0) (v := 2) (by decide) (by decide)
  rw [timesT_one] at h2
  exact h2
/-- a size -/
noncomputable abbrev sz (t : Tab Int) (k : Int) : Int := numAt t false k
theorem sz_mulRoot {t : Tab Int} (h : NN t) (r k : Int) : sz (mulRoot t r) k = sz t (k - 1) - r * sz t k := by
  have := valT_mulRoot h.nk r k
  simpa [sz, numAt] using this
theorem sz_prod (rs : List Int) (m h k : Int) : sz (prodT rs m h) k = sz (rootsT rs) (k - 2) - 2 * m * sz (rootsT rs) (k - 1) + (m * m + h) * sz (rootsT rs) k := by
  have := valT_prod (rs := rs) (m := m) (h := h) (rootsT_NN rs).nk k
  simpa [sz, numAt] using this
/-- the slope's coefficients and its worth -/
noncomputable def dc (t : Tab Int) (k : Int) : Int := (k + 1) * sz t (k + 1)
noncomputable def dv (t : Tab Int) (x : Rat) : Rat := ev (dc t) x (topN t + 1)
theorem dc_neg {t : Tab Int} (h : NN t) {k : Int} (hk : k < 0) : dc t k = 0 := by
  unfold dc
  by_cases z : k = -1
  · subst z; simp
  · rw [show sz t (k + 1) = 0 from h.neg (by omega)]; simp
theorem dv_cap {t : Tab Int} {x : Rat} {n : Nat} (h : topN t + 1 ≤ n) : ev (dc t) x n = dv t x := by
  obtain ⟨j, rfl⟩ : ∃ j, n = topN t + 1 + j := ⟨n - (topN t + 1), by omega⟩
  refine ev_cap (fun k hk => ?_) j
  unfold dc
  rw [show sz t (k + 1) = 0 from numAt_big (by omega)]; simp
theorem evT_slope {t : Tab Int} (h : NN t) (x : Rat) : evT (slopeT t) false x = dv t x := by
  let n := topN (slopeT t) + topN t + 1
  rw [← evT_cap (t := slopeT t) (n := n) (by omega), ← dv_cap (t := t) (n := n) (by omega)]
  refine ev_congr x n fun k _ => ?_
  have := (valT_slope h.nk k).1
  rw [if_pos (by omega)] at this
  simpa [numAt, dc, sz] using this
theorem evT_slope1 {t : Tab Int} (h : NN t) (x : Rat) : evT (slopeT t) true x = 1 := by
  unfold evT
  have h0 : ∀ n : Nat, ev (numAt (slopeT t) true) x (n + 1) = 1 := fun n => by
    induction n with
    | zero =>
      have := (valT_slope h.nk 0).2
      rw [ev, ev]
      simp [numAt, this]; grind
    | succ n ih =>
      have := (valT_slope h.nk ((n + 1 : Nat) : Int)).2
      rw [if_neg (by omega)] at this
      rw [ev, ih]
      simp only [numAt]
      rw [if_pos trivial, this]; simp; grind
  exact h0 _
theorem ev_mulRoot {t : Tab Int} (h : NN t) (r : Int) (x : Rat) : evT (mulRoot t r) false x = (x - r) * evT t false x := by
  let n := topN (mulRoot t r) + topN t + 1
  rw [← evT_cap (t := mulRoot t r) (n := n + 1) (by omega)]
  rw [ev_congr (d := fun k => 1 * sz t (k - (1 : Nat)) - r * sz t k) x (n + 1) fun k _ => by rw [Int.one_mul]; exact sz_mulRoot h r k]
  rw [ev_lin (fun k => sz t (k - (1 : Nat))) (sz t), ev_shift (sz t) 1 x (fun k hk => h.neg hk) n, evT_cap (by omega), evT_cap (by omega)]
  grind
theorem dv_mulRoot {t : Tab Int} (h : NN t) (r : Int) (x : Rat) : dv (mulRoot t r) x = (x - r) * dv t x + evT t false x := by
  let n := topN (mulRoot t r) + topN t + 1
  rw [← dv_cap (t := mulRoot t r) (n := n + 1) (by omega)]
  rw [ev_congr (d := fun k => 1 * dc t (k - (1 : Nat)) - (-1) * (1 * sz t k - r * dc t k)) x (n + 1) fun k _ => ?_]
  · rw [ev_lin (fun k => dc t (k - (1 : Nat))) (fun k => 1 * sz t k - r * dc t k), ev_lin (sz t) (dc t), ev_shift (dc t) 1 x (fun k hk => dc_neg h hk) n, dv_cap (by omega), dv_cap (by omega), evT_cap (by omega)]
    grind
  · unfold dc
    rw [sz_mulRoot h, show (k : Int) + 1 - 1 = k by omega, show (k : Int) - (1 : Nat) + 1 = k by omega]
    grind
theorem ev_prod (rs : List Int) (m h : Int) (x : Rat) : evT (prodT rs m h) false x = ((x - m) * (x - m) + h) * evT (rootsT rs) false x := by
  let t := rootsT rs
  have ht : NN t := rootsT_NN rs
  let n := topN (prodT rs m h) + topN t + 1
  rw [← evT_cap (t := prodT rs m h) (n := n + 2) (by omega)]
  rw [ev_congr (d := fun k => 1 * sz t (k - (2 : Nat)) - 1 * ((2 * m) * sz t (k - (1 : Nat)) - (m * m + h) * sz t k)) x (n + 2) fun k _ => ?_]
  · rw [ev_lin (fun k => sz t (k - (2 : Nat))) (fun k => (2 * m) * sz t (k - (1 : Nat)) - (m * m + h) * sz t k), ev_lin (fun k => sz t (k - (1 : Nat))) (sz t), ev_shift (sz t) 2 x (fun k hk => ht.neg hk) n,
      show n + 2 = n + 1 + 1 by omega, ev_shift (sz t) 1 x (fun k hk => ht.neg hk) (n + 1), evT_cap (by omega), evT_cap (by omega), evT_cap (by omega)]
    rw [Rat.intCast_mul, Rat.intCast_add, Rat.intCast_mul]
    show _ = _ * evT t false x
    have : ((2 : Int) : Rat) = 2 := rfl
    rw [this, Rat.pow_succ x 1, Rat.pow_succ x 0, Rat.pow_zero]
    grind
  · have := sz_prod rs m h k
    rw [show (k : Int) - (2 : Nat) = k - 2 by omega, show (k : Int) - (1 : Nat) = k - 1 by omega]
    show sz (prodT rs m h) k = _
    rw [this]
    show sz t (k - 2) - 2 * m * sz t (k - 1) + (m * m + h) * sz t k = _
    omega
theorem dv_prod (rs : List Int) (m h : Int) (x : Rat) : dv (prodT rs m h) x = ((x - m) * (x - m) + h) * dv (rootsT rs) x + 2 * (x - m) * evT (rootsT rs) false x := by
  let t := rootsT rs
  have ht : NN t := rootsT_NN rs
  let n := topN (prodT rs m h) + topN t + 1
  rw [← dv_cap (t := prodT rs m h) (n := n + 2) (by omega)]
  rw [ev_congr (d := fun k => 1 * (1 * dc t (k - (2 : Nat)) - (-2) * sz t (k - (1 : Nat))) - 1 * ((2 * m) * (1 * dc t (k - (1 : Nat)) - (-1) * sz t k) - (m * m + h) * dc t k)) x (n + 2) fun k _ => ?_]
  · rw [ev_lin (fun k => 1 * dc t (k - (2 : Nat)) - (-2) * sz t (k - (1 : Nat))) (fun k => (2 * m) * (1 * dc t (k - (1 : Nat)) - (-1) * sz t k) - (m * m + h) * dc t k),
      ev_lin (fun k => 1 * dc t (k - (1 : Nat)) - (-1) * sz t k) (dc t), ev_lin (fun k => dc t (k - (1 : Nat))) (sz t), ev_lin (fun k => dc t (k - (2 : Nat))) (fun k => sz t (k - (1 : Nat))),
      ev_shift (dc t) 2 x (fun k hk => dc_neg ht hk) n,
      show n + 2 = n + 1 + 1 by omega, ev_shift (sz t) 1 x (fun k hk => ht.neg hk) (n + 1), ev_shift (dc t) 1 x (fun k hk => dc_neg ht hk) (n + 1), dv_cap (by omega), dv_cap (by omega), dv_cap (by omega), evT_cap (by omega), evT_cap (by omega)]
    rw [Rat.intCast_mul, Rat.intCast_add, Rat.intCast_mul]
    show _ = _ * dv t x + _ * evT t false x
    have e2 : ((2 : Int) : Rat) = 2 := rfl
    have e3 : ((-2 : Int) : Rat) = -2 := rfl
    have e4 : ((-1 : Int) : Rat) = -1 := rfl
    have e5 : ((1 : Int) : Rat) = 1 := rfl
    rw [e2, e3, e4, e5, Rat.pow_succ x 1, Rat.pow_succ x 0, Rat.pow_zero]
    grind
  · unfold dc
    rw [sz_prod rs m h, show (k : Int) - (2 : Nat) + 1 = k - 1 by omega, show (k : Int) - (1 : Nat) + 1 = k by omega, show (k : Int) - (1 : Nat) = k - 1 by omega, show (k : Int) + 1 - 2 = k - 1 by omega, show (k : Int) + 1 - 1 = k by omega]
    show _ * (sz t _ - _ * sz t _ + _ * sz t _) = _
    grind
theorem roots_snoc (rs : List Int) (r : Int) : rootsT (rs ++ [r]) = mulRoot (rootsT rs) r := by unfold rootsT; rw [List.foldl_append]; rfl
theorem ev_one (x : Rat) : evT (rootsT []) false x = 1 := by
  show ev _ x 1 = 1
  rw [ev, ev]
  have : numAt (rootsT []) false ((0 : Nat) : Int) = 1 := by decide
  rw [this, Rat.pow_zero]; grind
theorem dv_one (x : Rat) : dv (rootsT []) x = 0 := by
  show ev _ x 1 = 0
  rw [ev, ev]
  have : dc (rootsT []) ((0 : Nat) : Int) = 0 := by decide
  rw [this]; simp; grind
/-- the slope at a root -/
theorem slopeGo_ev (rs : List Int) (i : Nat) (s : Int) : ∀ j, j ≤ rs.length → (j ≤ i → ((slopeGo rs i s j : Int) : Rat) = s * evT (rootsT (rs.take j)) false (rs.getD i 0 : Int)) ∧ (i < j → ((slopeGo rs i s j : Int) : Rat) = s * dv (rootsT (rs.take j)) (rs.getD i 0 : Int) ∧ evT (rootsT (rs.take j)) false (rs.getD i 0 : Int) = 0)
  | 0, _ => ⟨fun _ => by rw [slopeGo, List.take_zero, ev_one]; grind, fun h => by omega⟩
  | j + 1, hj => by
    obtain ⟨h1, h2⟩ := slopeGo_ev rs i s j (by omega)
    have et : rs.take (j + 1) = rs.take j ++ [rs.getD j 0] := by
      rw [List.take_add_one, List.getD_eq_getElem?_getD]
      rw [List.getElem?_eq_getElem (by omega)]; rfl
    rw [et, roots_snoc]
    have hn := rootsT_NN (rs.take j)
    rw [ev_mulRoot hn, dv_mulRoot hn, slopeGo]
    by_cases hji : j = i
    · subst hji
      rw [if_pos rfl]
      refine ⟨fun z => by omega, fun _ => ⟨?_, by grind⟩⟩
      rw [h1 (by omega)]; grind
    · rw [if_neg hji, Rat.intCast_mul, Rat.intCast_sub]
      refine ⟨fun z => ?_, fun z => ?_⟩
      · rw [h1 (by omega)]; grind
      · obtain ⟨k1, k2⟩ := h2 (by omega)
        rw [k1, k2]
        exact ⟨by grind, by grind⟩
theorem slopeAt_ev {rs : List Int} {m h : Int} {i : Nat} (hi : i < rs.length) : dv (prodT rs m h) (rs.getD i 0 : Int) = (slopeAt rs m h i : Int) ∧ evT (prodT rs m h) false (rs.getD i 0 : Int) = 0 := by
  obtain ⟨h1, h2⟩ := (slopeGo_ev rs i ((rs.getD i 0 - m) ^ 2 + h) rs.length (Nat.le_refl _)).2 hi
  rw [List.take_length] at h1 h2
  rw [ev_prod, dv_prod, h2]
  unfold slopeAt
  rw [h1, Rat.intCast_add, Rat.intCast_pow, Rat.intCast_sub, Rat.pow_succ, Rat.pow_succ, Rat.pow_zero]
  exact ⟨by grind, by grind⟩
end Mine
end
section
open PySem PySem.W PyProof.Rows PySem.Calls PySem.Spec
namespace Mine
/-- numbers, the highest first, at x -/
noncomputable def wl : List Int → Rat → Rat → Rat
  | [], _, w => w
  | n :: l, x, w => wl l x (w * x + n)
theorem wl_snoc : ∀ (l : List Int) (n : Int) (x w : Rat), wl (l ++ [n]) x w = wl l x w * x + n
  | [], n, x, w => rfl
  | a :: l, n, x, w => wl_snoc l n x (w * x + a)
theorem wl_zip (r : Int) : ∀ (l m : List Int) (x v w : Rat), l.length = m.length → wl (List.zipWith (fun a b => a - r * b) l m) x (v - r * w) = wl l x v - r * wl m x w
  | [], [], x, v, w, _ => rfl
  | a :: l, b :: m, x, v, w, h => by
    simp only [List.zipWith, wl]
    have := wl_zip r l m x (v * x + a) (w * x + b) (by simpa using h)
    rw [← this, Rat.intCast_sub, Rat.intCast_mul]
    congr 1
    grind
theorem wl_mulLin (due : List Int) (r : Int) (x : Rat) : wl (mulLin due r) x 0 = (x - r) * wl due x 0 := by
  have := wl_zip r (due ++ [0]) ([0] ++ due) x 0 0 (by simp)
  rw [show (0 : Rat) - r * 0 = 0 by grind] at this
  unfold mulLin
  rw [this, wl_snoc]
  show _ - _ * wl due x (0 * x + (0 : Int)) = _
  have e0 : ((0 : Int) : Rat) = 0 := rfl
  rw [e0, show (0 : Rat) * x + 0 = 0 by grind]
  grind
theorem wl_pol : ∀ (l : List Int) (g : Rat → Rat), Pol g → Pol fun x => wl l x (g x)
  | [], g, h => h
  | n :: l, g, h => wl_pol l (fun x => g x * x + n) ((h.mul Pol.id).add (Pol.con n))
theorem lin_ne : ∀ {l : List Int} {r : Int}, r ∉ l → lin l r ≠ 0
  | [], r, _ => by rw [lin]; grind
  | s :: l, r, h => by
    have h1 : r ≠ s := fun z => h (z ▸ List.mem_cons_self)
    have h2 : lin l r ≠ 0 := lin_ne fun z => h (List.mem_cons_of_mem _ z)
    have h3 : (r : Rat) - (s : Rat) ≠ 0 := fun z => h1 (Rat.intCast_inj.mp (by grind))
    rw [lin]; grind
noncomputable def but (ds : List Int) (r : Int) : List Int := ds.filter fun s => decide (s ≠ r)
theorem but_not {ds : List Int} {r : Int} (h : r ∉ ds) : but ds r = ds := List.filter_eq_self.mpr fun s hs => by simp; intro z; exact h (z ▸ hs)
theorem but_mem {ds : List Int} {r s : Int} : s ∈ but ds r ↔ s ∈ ds ∧ s ≠ r := by simp [but]
theorem but_self (ds : List Int) (r : Int) : r ∉ but ds r := fun h => (but_mem.mp h).2 rfl
theorem lin_but : ∀ {ds : List Int} {r : Int}, ds.Nodup → r ∈ ds → ∀ x, lin ds x = (x - r) * lin (but ds r) x
  | s :: ds, r, hn, h, x => by
    have hn' := List.nodup_cons.mp hn
    by_cases z : s = r
    · subst z
      have : but (s :: ds) s = but ds s := by simp [but]
      rw [this, but_not hn'.1, lin]
    · have : but (s :: ds) r = s :: but ds r := by simp [but, z]
      have h' : r ∈ ds := (List.mem_cons.mp h).resolve_left fun q => z q.symm
      rw [this, lin, lin, lin_but hn'.2 h' x]; grind
structure Fac (rs : List Int) (D S : Rat → Rat) (ds : List Int) : Prop where
  pS : Pol S
  ev : ∀ x, evT (rootsT rs) false x = D x * lin ds x
  dv : ∀ x, dv (rootsT rs) x = D x * S x
  nd : ds.Nodup
  mem : ∀ r, r ∈ ds ↔ r ∈ rs
  mu : ∀ r ∈ ds, ∃ u : Rat, 0 < u ∧ S (r : Int) = u * lin (but ds r) (r : Int)
theorem fac_of (rs : List Int) : ∀ k, k ≤ rs.length → ∃ S ds, Fac (rs.take k) (fun x => wl (dueAt rs k) x 0) S ds
  | 0, _ => ⟨fun _ => 0, [], Pol.con 0, fun x => by
      rw [List.take_zero, ev_one]
      show 1 = wl [1] x 0 * 1
      show (1 : Rat) = (0 * x + (1 : Int)) * 1
      have e1 : ((1 : Int) : Rat) = 1 := rfl
      rw [e1]; grind, fun x => by rw [List.take_zero, dv_one]; grind, List.nodup_nil, fun r => by simp, fun r h => by simp at h⟩
  | k + 1, hk => by
    obtain ⟨S, ds, F⟩ := fac_of rs k (by omega)
    have et : rs.take (k + 1) = rs.take k ++ [rs.getD k 0] := by
      rw [List.take_add_one, List.getD_eq_getElem?_getD]
      rw [List.getElem?_eq_getElem (by omega)]; rfl
    rw [et, dueAt]
    generalize hr : rs.getD k 0 = r
    have hn := rootsT_NN (rs.take k)
    by_cases hm : r ∈ ds
    · have ha : (rs.take k).any (· == r) = true := List.any_eq_true.mpr ⟨r, (F.mem r).mp hm, by simp⟩
      rw [if_pos ha]
      refine ⟨fun x => S x + lin (but ds r) x, ds, F.pS.add (lin_pol _), fun x => ?_, fun x => ?_, F.nd, fun s => ?_, fun s hs => ?_⟩
      · rw [roots_snoc, ev_mulRoot hn, F.ev, wl_mulLin]; grind
      · rw [roots_snoc, dv_mulRoot hn, F.ev, F.dv, wl_mulLin, lin_but F.nd hm]; grind
      · rw [F.mem, List.mem_append, List.mem_singleton]
        exact ⟨.inl, fun h => h.elim id fun z => by rw [z]; exact (F.mem r).mp hm⟩
      · obtain ⟨u, hu, e⟩ := F.mu s hs
        by_cases z : s = r
        · subst z
          exact ⟨u + 1, by grind, by rw [e]; grind⟩
        · refine ⟨u, hu, ?_⟩
          rw [e, lin_root (ds := but ds r) (but_mem.mpr ⟨hs, z⟩)]; grind
    · have ha : (rs.take k).any (· == r) = false := by
        refine Bool.eq_false_iff.mpr fun z => hm ?_
        obtain ⟨s, h1, h2⟩ := List.any_eq_true.mp z
        have : s = r := by simpa using h2
        exact (F.mem r).mpr (this ▸ h1)
      rw [if_neg (by rw [ha]; simp)]
      refine ⟨fun x => S x * (x - r) + lin ds x, r :: ds, (F.pS.mul (Pol.id.sub (Pol.con r))).add (lin_pol _), fun x => ?_, fun x => ?_, List.nodup_cons.mpr ⟨hm, F.nd⟩, fun s => ?_, fun s hs => ?_⟩
      · rw [roots_snoc, ev_mulRoot hn, F.ev, lin]; grind
      · rw [roots_snoc, dv_mulRoot hn, F.ev, F.dv]; grind
      · rw [List.mem_cons, List.mem_append, List.mem_singleton, F.mem]; exact Or.comm
      · by_cases z : s = r
        · subst z
          have : but (s :: ds) s = but ds s := by simp [but]
          refine ⟨1, by grind, ?_⟩
          rw [this, but_not hm]; grind
        · have hs' : s ∈ ds := (List.mem_cons.mp hs).resolve_left z
          obtain ⟨u, hu, e⟩ := F.mu s hs'
          have : but (r :: ds) s = r :: but ds s := by simp [but, Ne.symm z]
          refine ⟨u, hu, ?_⟩
          rw [this, e, lin, lin_root hs']; grind
theorem dueAt_ne (rs : List Int) (x : Rat) : ∀ k, k ≤ rs.length → (∀ r ∈ rs, x ≠ (r : Int)) → wl (dueAt rs k) x 0 ≠ 0
  | 0, _, _ => by
    show (0 * x + ((1 : Int) : Rat)) ≠ 0
    have e1 : ((1 : Int) : Rat) = 1 := rfl
    rw [e1]; grind
  | k + 1, hk, h => by
    have ih := dueAt_ne rs x k (by omega) h
    rw [dueAt]
    split
    · rw [wl_mulLin]
      have : rs.getD k 0 ∈ rs := by
        rw [List.getD_eq_getElem?_getD, List.getElem?_eq_getElem (by omega)]; exact List.getElem_mem _
      have := h _ this
      have : x - (rs.getD k 0 : Int) ≠ 0 := by grind
      grind
    · exact ih
/-- what the row of a product tells, as functions -/
theorem row_facts {rs : List Int} {m h : Int} (hh : 1 ≤ h) {ts : List (Tab Int)} (R : Row (prodT rs m h) (slopeT (prodT rs m h)) ts) :
    ∃ (G : List (Rat → Rat)) (g0 g1 d S : Rat → Rat) (ds : List Int) (K : Rat) (td : Tab Int), Ch (g0 :: g1 :: G) ∧ K ≠ 0 ∧ Pol S ∧
      (∀ x, (prodT rs m h :: slopeT (prodT rs m h) :: ts).map (fun t => evT t false x) = (g0 :: g1 :: G).map (fun g => g x * d x) ++ [0]) ∧
      (prodT rs m h :: slopeT (prodT rs m h) :: ts)[ts.length]? = some td ∧ NN td ∧ (∀ x, evT td false x = d x) ∧
      (∀ x, d x = K * wl (dueAt rs rs.length) x 0) ∧ ds.Nodup ∧ (∀ r, r ∈ ds ↔ r ∈ rs) ∧
      (∀ x, K * g0 x = lin ds x * ((x - m) * (x - m) + h)) ∧ (∀ x, K * g1 x = S x * ((x - m) * (x - m) + h) + lin ds x * (2 * (x - m))) ∧
      (∀ r ∈ ds, ∃ u : Rat, 0 < u ∧ S (r : Int) = u * lin (but ds r) (r : Int)) := by
  have hp := prodT_NN rs m h
  obtain ⟨S, ds, F⟩ := fac_of rs rs.length (Nat.le_refl _)
  rw [List.take_length] at F
  obtain ⟨G, d, A, B, hG, hA, hB, hl, hm, hd, td, t1, t2, t3⟩ := R.chain hp hp.slope
  have hh0 : (0 : Rat) < (h : Rat) := Rat.intCast_pos.mpr (by omega)
  have hSr : ∀ r ∈ ds, S (r : Int) ≠ 0 := fun r hr => by
    obtain ⟨u, hu, e⟩ := F.mu r hr
    have := lin_ne (but_self ds r)
    rw [e]; grind
  have p0 : ∀ x, evT (prodT rs m h) false x = wl (dueAt rs rs.length) x 0 * (lin ds x * ((x - m) * (x - m) + h)) := fun x => by rw [ev_prod, F.ev]; grind
  have p1 : ∀ x, evT (slopeT (prodT rs m h)) false x = wl (dueAt rs rs.length) x 0 * (S x * ((x - m) * (x - m) + h) + lin ds x * (2 * (x - m))) := fun x => by
    rw [evT_slope hp, dv_prod, F.ev, F.dv]; grind
  match G, hl with
  | [g0], hl =>
    -- the slope is not nought
    exfalso
    have : ts = [] := by simp at hl; exact hl
    subst this
    have z : ∀ x, evT (slopeT (prodT rs m h)) false x = 0 := fun x => by have := hm x; simp at this; exact this.2
    cases hG with
    | one k =>
      cases R with
      | done h1 h2 =>
        rename_i mm
        have hv := h1.zero (k := (rs.length : Int) + 1) (by omega)
        obtain ⟨hn, l1, l2⟩ := rootsT_lead rs
        have := (valT_slope hp.nk ((rs.length : Int) + 1)).1
        rw [hv, if_pos (by omega), valT_prod hn, show (rs.length : Int) + 1 + 1 - 2 = rs.length by omega, l1, l2 _ (by omega), l2 _ (by omega)] at this
        omega
  | g0 :: g1 :: G, hl =>
    have e0 : ∀ x, evT (prodT rs m h) false x = g0 x * d x := fun x => by
      have := hm x
      simp only [List.map_cons, List.cons_append] at this
      exact (List.cons.inj this).1
    have e1 : ∀ x, evT (slopeT (prodT rs m h)) false x = g1 x * d x := fun x => by
      have := hm x
      simp only [List.map_cons, List.cons_append] at this
      exact (List.cons.inj (List.cons.inj this).2).1
    let e : Rat → Rat := fun x => A x * (lin ds x * ((x - m) * (x - m) + h)) + B x * (S x * ((x - m) * (x - m) + h) + lin ds x * (2 * (x - m)))
    have hq : Pol fun x => (x - (m : Rat)) * (x - m) + (h : Rat) := ((Pol.id.sub (Pol.con m)).mul (Pol.id.sub (Pol.con m))).add (Pol.con h)
    have pE : Pol e := (hA.mul ((lin_pol ds).mul hq)).add (hB.mul ((F.pS.mul hq).add ((lin_pol ds).mul ((Pol.con 2).mul (Pol.id.sub (Pol.con m))))))
    have ed : ∀ x, d x = wl (dueAt rs rs.length) x 0 * e x := fun x => by
      rw [hd, p0, p1]
      show _ = _ * (A x * _ + B x * _)
      grind
    have pg := hG.pol
    have pD : Pol fun x => wl (dueAt rs rs.length) x 0 := wl_pol _ (fun _ => 0) (Pol.con 0)
    -- cancel the product of the repeated roots
    have canc : ∀ {u v : Rat → Rat}, Pol u → Pol v → (∀ x, wl (dueAt rs rs.length) x 0 * u x = wl (dueAt rs rs.length) x 0 * v x) → ∀ x, u x = v x := by
      intro u v hu hv huv
      refine Classical.byContradiction fun hne => ?_
      obtain ⟨x, hx⟩ := Classical.not_forall.mp hne
      obtain ⟨n, a, ha, hd1⟩ := (hu.sub hv).dg ⟨x, fun z => hx (by have z : u x - v x = 0 := z; grind)⟩
      have hhalf : ∀ r ∈ rs, (1/2 : Rat) ≠ (r : Int) := fun r _ z => by
        have h2 : ((2 * r : Int) : Rat) = ((1 : Int) : Rat) := by
          rw [Rat.intCast_mul, ← z]
          have e1 : ((1 : Int) : Rat) = 1 := rfl
          have e2 : ((2 : Int) : Rat) = 2 := rfl
          rw [e1, e2]; grind
        have := Rat.intCast_inj.mp h2
        omega
      obtain ⟨n', a', ha', hd2⟩ := pD.dg ⟨1/2, dueAt_ne rs _ _ (Nat.le_refl _) hhalf⟩
      obtain ⟨l, k1, k2, _⟩ := hd2.mul hd1
      have zz := hp_coZ l (fun y _ => by rw [← k1]; have := huv y; show wl _ y 0 * (u y - v y) = 0; grind) (n' + n)
      rw [k2] at zz
      grind
    have c0 := canc (pE.mul (pg g0 (by simp))) ((lin_pol ds).mul hq) fun x => by have := e0 x; rw [p0, ed] at this; grind
    have c1 := canc (pE.mul (pg g1 (by simp))) ((F.pS.mul hq).add ((lin_pol ds).mul ((Pol.con 2).mul (Pol.id.sub (Pol.con m))))) fun x => by have := e1 x; rw [p1, ed] at this; grind
    obtain ⟨K, hK, ek⟩ := gcd_const hh0 pE (pg g0 (by simp)) (pg g1 (by simp)) F.pS c0 c1 hSr
    exact ⟨G, g0, g1, d, S, ds, K, td, hG, hK, F.pS, hm, t1, t2, fun x => (t3 x).symm, fun x => by rw [ed, ek]; grind, F.nd, F.mem, fun x => by rw [← c0 x, ek], fun x => by rw [← c1 x, ek], F.mu⟩
end Mine
end
section
open PySem PySem.W PyProof.Rows PySem.Calls PySem.Spec
namespace Mine
theorem chAt_cons (s : Bool) (ss : List Bool) : ∀ j, changesAt (s :: ss) (j + 1) = (if ss.getD 0 false != s then 1 else 0) + changesAt ss j
  | 0 => by simp [changesAt]
  | j + 1 => by
    have ih := chAt_cons s ss j
    rw [changesAt, ih, changesAt]
    have e1 : (s :: ss).getD (j + 1 + 1) false = ss.getD (j + 1) false := by simp
    have e2 : (s :: ss).getD (j + 1) false = ss.getD j false := by simp
    rw [e1, e2]; omega
theorem chN_cons (s s' : Bool) (ss : List Bool) : changesN (s :: s' :: ss) = (if s' != s then 1 else 0) + changesN (s' :: ss) := by
  unfold changesN
  have := chAt_cons s (s' :: ss) ss.length
  simpa using this
noncomputable def sgR (vs : List Rat) : List Bool := (vs.filter fun v => decide (v ≠ 0)).map fun v => decide (0 < v)
theorem sgR_cons0 {v : Rat} (h : v = 0) (vs : List Rat) : sgR (v :: vs) = sgR vs := by unfold sgR; rw [List.filter_cons_of_neg (by simp [h])]
theorem sgR_cons {v : Rat} (h : v ≠ 0) (vs : List Rat) : sgR (v :: vs) = decide (0 < v) :: sgR vs := by unfold sgR; rw [List.filter_cons_of_pos (by simp [h])]; rfl
theorem sgR_snoc0 (vs : List Rat) : sgR (vs ++ [0]) = sgR vs := by
  unfold sgR; rw [List.filter_append]; simp
theorem signs_sgR {L : List (Tab Int)} {w : Tab Int → Int} {v : Tab Int → Rat} (h : ∀ t, ∃ p : Rat, 0 < p ∧ (w t : Rat) = p * v t) : signsOf (L.map w) = sgR (L.map v) := by
  induction L with
  | nil => rfl
  | cons t L ih =>
    obtain ⟨p, hp, e⟩ := h t
    have i0 : ((0 : Int) : Rat) = 0 := rfl
    by_cases z : v t = 0
    · have : w t = 0 := by
        rw [z] at e
        exact Rat.intCast_inj.mp (by rw [e, i0]; grind)
      rw [List.map_cons, List.map_cons, sgR_cons0 z, ← ih]
      unfold signsOf
      rw [List.filter_cons_of_neg (by simp [this])]
    · have hw : w t ≠ 0 := fun q => by
        rw [q, i0] at e
        have : p ≠ 0 := by grind
        grind
      rw [List.map_cons, List.map_cons, sgR_cons z, ← ih]
      unfold signsOf
      rw [List.filter_cons_of_pos (by simp [hw]), List.map_cons]
      congr 1
      have : 0 < w t ↔ 0 < v t := by
        rw [show (0 < w t) ↔ ((0 : Int) : Rat) < (w t : Rat) from Rat.intCast_lt_intCast.symm, i0, e]
        constructor
        · intro q; have := pos_cases q; grind
        · intro q; exact Rat.mul_pos hp q
      simp only [this]
theorem chN_vr {d : Rat} (hd : d ≠ 0) : ∀ (l : List Rat) (a : Rat), a ≠ 0 → changesN (sgR ((a :: l).map (· * d))) = vr a l
  | [], a, ha => by
    have : a * d ≠ 0 := by grind
    rw [List.map_cons, sgR_cons this]; rfl
  | b :: l, a, ha => by
    have had : a * d ≠ 0 := by grind
    by_cases hb : b = 0
    · have ih := chN_vr hd l a ha
      rw [vr, if_pos hb, ← ih]
      rw [List.map_cons, List.map_cons, List.map_cons, sgR_cons had, sgR_cons had, sgR_cons0 (by rw [hb]; grind)]
    · have hbd : b * d ≠ 0 := by grind
      have ih := chN_vr hd l b hb
      rw [List.map_cons, sgR_cons hbd] at ih
      rw [vr, if_neg hb, ← ih, List.map_cons, List.map_cons, sgR_cons had, sgR_cons hbd, chN_cons]
      congr 1
      have hdd := pos_sq hd
      by_cases z : a * b < 0
      · have c := neg_cases z
        rw [if_pos z, if_pos]
        rcases rat_tri d 0 with q | q | q
        · rcases c with ⟨c1, c2⟩ | ⟨c1, c2⟩
          · have h1 := mul_neg_of (.inl ⟨c1, q⟩); have h2 := mul_pos_of (.inr ⟨c2, q⟩)
            rw [decide_eq_true h2, decide_eq_false (by grind)]; rfl
          · have h1 := mul_pos_of (.inr ⟨c1, q⟩); have h2 := mul_neg_of (.inl ⟨c2, q⟩)
            rw [decide_eq_true h1, decide_eq_false (by grind)]; rfl
        · exact absurd q hd
        · rcases c with ⟨c1, c2⟩ | ⟨c1, c2⟩
          · have h1 := mul_pos_of (.inl ⟨c1, q⟩); have h2 := mul_neg_of (.inr ⟨c2, q⟩)
            rw [decide_eq_true h1, decide_eq_false (by grind)]; rfl
          · have h1 := mul_neg_of (.inr ⟨c1, q⟩); have h2 := mul_pos_of (.inl ⟨c2, q⟩)
            rw [decide_eq_true h2, decide_eq_false (by grind)]; rfl
      · have c : (0 < a ∧ 0 < b) ∨ (a < 0 ∧ b < 0) := by
          have := le_cases (a := a) (b := -b) (by grind)
          grind
        rw [if_neg z, if_neg]
        have : decide (0 < b * d) = decide (0 < a * d) := by
          rcases rat_tri d 0 with q | q | q
          · rcases c with ⟨c1, c2⟩ | ⟨c1, c2⟩
            · have h1 := mul_neg_of (.inl ⟨c1, q⟩); have h2 := mul_neg_of (.inl ⟨c2, q⟩)
              rw [decide_eq_false (by grind), decide_eq_false (by grind)]
            · have h1 := mul_pos_of (.inr ⟨c1, q⟩); have h2 := mul_pos_of (.inr ⟨c2, q⟩)
              rw [decide_eq_true h1, decide_eq_true h2]
          · exact absurd q hd
          · rcases c with ⟨c1, c2⟩ | ⟨c1, c2⟩
            · have h1 := mul_pos_of (.inl ⟨c1, q⟩); have h2 := mul_pos_of (.inl ⟨c2, q⟩)
              rw [decide_eq_true h1, decide_eq_true h2]
            · have h1 := mul_neg_of (.inr ⟨c1, q⟩); have h2 := mul_neg_of (.inr ⟨c2, q⟩)
              rw [decide_eq_false (by grind), decide_eq_false (by grind)]
        rw [this]; simp
theorem worth_ev (t : Tab Int) (c : Bool) (X U : Int) (x : Rat) (hx : (X : Rat) = (U : Rat) * x) : ((worthL (numsDown t c (topN t + 1)) X U : Int) : Rat) = (U : Rat) ^ topN t * evT t c x := by
  have := worth_homo t c X U (topN t + 1) 0 1
  unfold worthL
  rw [this, Int.zero_mul, Int.zero_add, Int.one_mul, homo_ev _ X U x hx]; rfl
theorem lin_same {r : Int} {x y : Rat} (hx : (r : Rat) - 1/2 ≤ x) (hx' : x ≤ (r : Rat) + 1/2) (hy : (r : Rat) - 1/2 ≤ y) (hy' : y ≤ (r : Rat) + 1/2) : ∀ l : List Int, r ∉ l → 0 < lin l x * lin l y
  | [], _ => by simp only [lin]; grind
  | s :: l, h => by
    have ih := lin_same hx hx' hy hy' l fun z => h (List.mem_cons_of_mem _ z)
    have hs : s ≠ r := fun z => h (z ▸ List.mem_cons_self)
    have i1 : ((1 : Int) : Rat) = 1 := rfl
    have : 0 < (x - (s : Rat)) * (y - (s : Rat)) := by
      rcases Int.lt_or_lt_of_ne hs with z | z
      · have : ((s + 1 : Int) : Rat) ≤ (r : Rat) := Rat.intCast_le_intCast.mpr (by omega)
        rw [Rat.intCast_add, i1] at this
        exact mul_pos_of (.inl ⟨by grind, by grind⟩)
      · have : ((r + 1 : Int) : Rat) ≤ (s : Rat) := Rat.intCast_le_intCast.mpr (by omega)
        rw [Rat.intCast_add, i1] at this
        exact mul_pos_of (.inr ⟨by grind, by grind⟩)
    have := Rat.mul_pos this ih
    rw [lin, lin]; grind
theorem of_mul_pos {K a : Rat} (hK : 0 < K) (h : 0 < K * a) : 0 < a := by have := pos_cases h; grind
theorem of_mul_neg {K a : Rat} (hK : 0 < K) (h : K * a < 0) : a < 0 := by have := neg_cases h; grind
/-- Sturm over one unit -/
theorem unit_V {g0 g1 S : Rat → Rat} {G : List (Rat → Rat)} {ds : List Int} {K : Rat} {m h r : Int} (hG : Ch (g0 :: g1 :: G)) (hK : K ≠ 0) (pS : Pol S) (hh : 1 ≤ h) (nd : ds.Nodup)
    (e0 : ∀ x, K * g0 x = lin ds x * ((x - m) * (x - m) + h)) (e1 : ∀ x, K * g1 x = S x * ((x - m) * (x - m) + h) + lin ds x * (2 * (x - m)))
    (mu : ∀ r ∈ ds, ∃ u : Rat, 0 < u ∧ S (r : Int) = u * lin (but ds r) (r : Int)) (hr : -3 ≤ r ∧ r ≤ 3) :
    V (g0 :: g1 :: G) ((r : Rat) - 1/2) = V (g0 :: g1 :: G) ((r : Rat) + 1/2) + (if r ∈ ds then 1 else 0) := by
  have hKK := pos_sq hK
  have hh0 : (0 : Rat) < (h : Rat) := Rat.intCast_pos.mpr (by omega)
  have r1 : (-3 : Rat) ≤ (r : Rat) := Rat.intCast_le_intCast.mpr hr.1
  have r2 : (r : Rat) ≤ 3 := Rat.intCast_le_intCast.mpr hr.2
  have qp := fun x => quad_pos hh0 x (m : Rat)
  have hq : Pol fun x => (x - (m : Rat)) * (x - m) + (h : Rat) := ((Pol.id.sub (Pol.con m)).mul (Pol.id.sub (Pol.con m))).add (Pol.con h)
  have gg : ∀ x y, K * K * (g0 x * g0 y) = lin ds x * lin ds y * (((x - m) * (x - m) + h) * ((y - m) * (y - m) + h)) := fun x y => by
    have a := e0 x; have b := e0 y
    have : K * K * (g0 x * g0 y) = (K * g0 x) * (K * g0 y) := by grind
    rw [this, a, b]; grind
  by_cases hm : r ∈ ds
  · rw [if_pos hm]
    obtain ⟨u, hu, eu⟩ := mu r hm
    have hb := lin_but nd hm
    have same := fun x y a b c d => lin_same (r := r) (x := x) (y := y) a b c d (but ds r) (but_self ds r)
    have gg' : ∀ x y, K * K * (g0 x * g0 y) = ((x - r) * (y - r)) * ((lin (but ds r) x * lin (but ds r) y) * (((x - m) * (x - m) + h) * ((y - m) * (y - m) + h))) := fun x y => by
      rw [gg, hb, hb]; grind
    refine hG.jump (K := K * K) (r := (r : Rat)) (H := fun x => lin (but ds r) x * ((x - m) * (x - m) + h) * (S x * ((x - m) * (x - m) + h) + lin ds x * (2 * (x - m)))) (by grind) (by grind) (by grind) (by grind)
      (((lin_pol _).mul hq).mul ((pS.mul hq).add ((lin_pol ds).mul ((Pol.con 2).mul (Pol.id.sub (Pol.con m)))))) ?_ hKK (fun x => ?_) (fun x y a b c d => ?_) (fun x y a b c d => ?_) (fun x y a b c d => ?_)
    · show 0 < lin (but ds r) r * _ * (S r * _ + lin ds r * _)
      rw [lin_root hm, eu]
      have p1 := pos_sq (lin_ne (but_self ds r))
      have p2 := qp r
      have p3 := Rat.mul_pos p1 (Rat.mul_pos p2 p2)
      have p4 := Rat.mul_pos hu p3
      generalize lin (but ds r) (r : Rat) = a at *
      generalize ((r : Rat) - m) * (r - m) + h = q at *
      grind
    · have a := e0 x; have b := e1 x
      have : K * K * (g0 x * g1 x) = (K * g0 x) * (K * g1 x) := by grind
      rw [this, a, b]
      conv => lhs; rw [hb x]
      rw [hb x]; grind
    · refine of_mul_pos hKK ?_
      rw [gg']
      exact Rat.mul_pos (mul_pos_of (.inr ⟨by grind, by grind⟩)) (Rat.mul_pos (same x y a (by grind) c (by grind)) (Rat.mul_pos (qp x) (qp y)))
    · refine of_mul_pos hKK ?_
      rw [gg']
      exact Rat.mul_pos (mul_pos_of (.inl ⟨by grind, by grind⟩)) (Rat.mul_pos (same x y (by grind) b (by grind) d) (Rat.mul_pos (qp x) (qp y)))
    · refine of_mul_neg hKK ?_
      rw [gg']
      have h1 := Rat.mul_pos (same x y a (by grind) (by grind) d) (Rat.mul_pos (qp x) (qp y))
      exact mul_neg_of (.inr ⟨mul_neg_of (.inr ⟨by grind, by grind⟩), h1⟩)
  · rw [if_neg hm, Nat.add_zero]
    refine hG.flat (by grind) (by grind) (by grind) fun x y a b c d => ?_
    refine of_mul_pos hKK ?_
    show 0 < K * K * (g0 x * g0 y)
    rw [gg]
    exact Rat.mul_pos (lin_same a b c d ds hm) (Rat.mul_pos (qp x) (qp y))
end Mine
end
section
open PySem PySem.W PyProof.Rows PySem.Calls PySem.Spec
namespace Mine
theorem changes_V {rs : List Int} {m h : Int} {ts : List (Tab Int)} {G : List (Rat → Rat)} {g0 g1 d : Rat → Rat} {X : Int} {x : Rat} (hX : (X : Rat) = 2 * x) (hd : d x ≠ 0) (h0 : g0 x ≠ 0)
    (hm : ∀ x, (prodT rs m h :: slopeT (prodT rs m h) :: ts).map (fun t => evT t false x) = (g0 :: g1 :: G).map (fun g => g x * d x) ++ [0]) :
    changesN (signsOf (worthsAt (sizesOf false (prodT rs m h :: slopeT (prodT rs m h) :: ts)) X)) = V (g0 :: g1 :: G) x := by
  have e1 : worthsAt (sizesOf false (prodT rs m h :: slopeT (prodT rs m h) :: ts)) X = (prodT rs m h :: slopeT (prodT rs m h) :: ts).map fun t => worthL (numsDown t false (topN t + 1)) X 2 := by
    unfold worthsAt sizesOf; rw [List.map_map]; rfl
  have e2 : ((2 : Int) : Rat) = 2 := rfl
  rw [e1, signs_sgR (v := fun t => evT t false x) fun t => ⟨((2 : Int) : Rat) ^ topN t, Rat.pow_pos (by rw [e2]; grind), worth_ev t false X 2 x (by rw [e2]; exact hX)⟩]
  rw [hm x, sgR_snoc0]
  have := chN_vr hd ((g1 :: G).map (· x)) (g0 x) h0
  have e3 : (g0 :: g1 :: G).map (fun g => g x * d x) = (g0 x :: (g1 :: G).map (· x)).map (· * d x) := by
    rw [List.map_cons (a := g0), List.map_cons (a := g0 x), List.map_map]; rfl
  rw [e3, this]; rfl
theorem half_ne (a r : Int) (x : Rat) (h : 2 * x = ((2 * a + 1 : Int) : Rat)) : x ≠ (r : Rat) := fun z => by
  have : ((2 * r : Int) : Rat) = ((2 * a + 1 : Int) : Rat) := by
    rw [Rat.intCast_mul, ← z]; exact h
  have := Rat.intCast_inj.mp this
  omega
theorem told_of {rs : List Int} {m h : Int} (hh : 1 ≤ h) {ts : List (Tab Int)} (R : Row (prodT rs m h) (slopeT (prodT rs m h)) ts) (k : Nat) (hk : k < 7) :
    (changesN (signsOf (worthsAt (sizesOf false (prodT rs m h :: slopeT (prodT rs m h) :: ts)) (2 * k - 7))) : Int) - changesN (signsOf (worthsAt (sizesOf false (prodT rs m h :: slopeT (prodT rs m h) :: ts)) (2 * k - 5))) = if rs.any (· == (k : Int) - 3) then 1 else 0 := by
  obtain ⟨G, g0, g1, d, S, ds, K, td, hG, hK, pS, hm, t1, t2, t3, t4, nd, hmem, e0, e1, mu⟩ := row_facts hh R
  have hh0 : (0 : Rat) < (h : Rat) := Rat.intCast_pos.mpr (by omega)
  have nz : ∀ (a : Int) (x : Rat), 2 * x = ((2 * a + 1 : Int) : Rat) → d x ≠ 0 ∧ g0 x ≠ 0 := fun a x hx => by
    refine ⟨?_, fun z => ?_⟩
    · rw [t4]
      have := dueAt_ne rs x _ (Nat.le_refl _) fun r _ => half_ne a r x hx
      grind
    · have h1 := e0 x
      rw [z] at h1
      have h2 := quad_pos hh0 x m
      have h3 : ∀ l : List Int, lin l x ≠ 0 := fun l => by
        induction l with
        | nil => simp only [lin]; grind
        | cons s l ih =>
          have := half_ne a s x hx
          have : x - (s : Rat) ≠ 0 := by grind
          rw [lin]; grind
      have h3 := h3 ds
      generalize (x - (m : Rat)) * (x - m) + h = q at *
      have : lin ds x * q = 0 := by grind
      grind
  have i2 : ((2 : Int) : Rat) = 2 := rfl
  have i1 : ((1 : Int) : Rat) = 1 := rfl
  let r : Int := (k : Int) - 3
  have xa : 2 * ((r : Rat) - 1/2) = ((2 * (r - 1) + 1 : Int) : Rat) := by
    rw [Rat.intCast_add, Rat.intCast_mul, Rat.intCast_sub, i2, i1]; grind
  have xb : 2 * ((r : Rat) + 1/2) = ((2 * r + 1 : Int) : Rat) := by
    rw [Rat.intCast_add, Rat.intCast_mul, i2, i1]; grind
  have na := nz _ _ xa
  have nb := nz _ _ xb
  have ca := changes_V (X := 2 * (r - 1) + 1) xa.symm na.1 na.2 hm
  have cb := changes_V (X := 2 * r + 1) xb.symm nb.1 nb.2 hm
  rw [show 2 * (r - 1) + 1 = 2 * (k : Int) - 7 by omega] at ca
  rw [show 2 * r + 1 = 2 * (k : Int) - 5 by omega] at cb
  rw [ca, cb, unit_V hG hK pS hh nd e0 e1 mu (r := r) (by omega)]
  have : (rs.any (· == (k : Int) - 3) = true) ↔ r ∈ ds := by
    rw [hmem, List.any_eq_true]
    constructor
    · rintro ⟨s, h1, h2⟩
      have : s = r := by simpa using h2
      exact this ▸ h1
    · intro h1; exact ⟨r, h1, by simp [r]⟩
  by_cases z : r ∈ ds
  · rw [if_pos z, if_pos (this.mpr z)]; omega
  · rw [if_neg z, if_neg fun q => z (this.mp q)]; omega
theorem wl_hp (x : Rat) : ∀ l : List Int, wl l.reverse x 0 = hp (l.map fun n : Int => (n : Rat)) x
  | [] => rfl
  | n :: l => by
    rw [List.reverse_cons, wl_snoc, wl_hp x l, List.map_cons, hp]; grind
theorem wl_nums (t : Tab Int) (c : Bool) (x : Rat) : ∀ (n : Nat) (w : Rat), wl (numsDown t c n) x w = w * x ^ n + ev (numAt t c) x n
  | 0, w => by simp [numsDown, wl, ev]; grind
  | n + 1, w => by rw [numsDown, wl, wl_nums t c x n, ev, Rat.pow_succ]; grind
theorem due_bd {rs : List Int} (hr : ∀ r ∈ rs, -3 ≤ r ∧ r ≤ 3) : ∀ k, ∀ y ∈ dueAt rs k, y.natAbs ≤ 4 ^ k
  | 0, y, hy => by simp [dueAt] at hy; subst hy; decide
  | k + 1, y, hy => by
    have ih := due_bd hr k
    have hp : 0 < 4 ^ k := Nat.pow_pos (by decide)
    have rb : -3 ≤ rs.getD k 0 ∧ rs.getD k 0 ≤ 3 := by
      rw [List.getD_eq_getElem?_getD]
      by_cases z : k < rs.length
      · rw [List.getElem?_eq_getElem z]; exact hr _ (List.getElem_mem z)
      · rw [List.getElem?_eq_none (by omega)]; exact ⟨by decide, by decide⟩
    rw [dueAt] at hy
    rw [Nat.pow_succ]
    split at hy
    · unfold mulLin at hy
      obtain ⟨i, hi, rfl⟩ := List.mem_iff_getElem.mp hy
      rw [List.getElem_zipWith]
      have ba : ∀ z ∈ dueAt rs k ++ [0], z.natAbs ≤ 4 ^ k := fun z hz => by
        rcases List.mem_append.mp hz with hz | hz
        · exact ih z hz
        · simp at hz; subst hz; exact Nat.zero_le _
      have bb : ∀ z ∈ [0] ++ dueAt rs k, z.natAbs ≤ 4 ^ k := fun z hz => by
        rcases List.mem_append.mp hz with hz | hz
        · simp at hz; subst hz; exact Nat.zero_le _
        · exact ih z hz
      have h1 := ba _ (List.getElem_mem (h := by simp at hi ⊢; omega) : (dueAt rs k ++ [0])[i]'(by simp [mulLin] at hi ⊢; omega) ∈ _)
      have h2 := bb _ (List.getElem_mem (h := by simp at hi ⊢; omega) : ([0] ++ dueAt rs k)[i]'(by simp [mulLin] at hi ⊢; omega) ∈ _)
      generalize (dueAt rs k ++ [0])[i]'_ = a at *
      generalize ([0] ++ dueAt rs k)[i]'_ = b at *
      generalize rs.getD k 0 = r at *
      have := natAbs_lin (f := r) (g := 1) (F := 3) (G := 1) (by omega) (by decide) h2 h1
      omega
    · have := ih y hy; omega
theorem due_head (rs : List Int) : ∀ k, ∃ l, dueAt rs k = 1 :: l
  | 0 => ⟨[], rfl⟩
  | k + 1 => by
    obtain ⟨l, e⟩ := due_head rs k
    rw [dueAt]
    split
    · rw [e]; unfold mulLin
      exact ⟨_, by simp; rfl⟩
    · exact ⟨l, e⟩
theorem again_of {rs : List Int} {m h : Int} (hh : 1 ≤ h) (hl : rs.length ≤ 3) (hr : ∀ r ∈ rs, -3 ≤ r ∧ r ≤ 3) {ts : List (Tab Int)} {ns : List Int} (R : Row (prodT rs m h) (slopeT (prodT rs m h)) ts) (hns : (sizesOf false (prodT rs m h :: slopeT (prodT rs m h) :: ts))[ts.length]? = some ns) :
    (∀ x ∈ dueAt rs rs.length, Builtin.Int.intBits x ≤ 64) ∧ (dueAt rs rs.length).length ≤ ns.length ∧
    ns = List.replicate (ns.length - (dueAt rs rs.length).length) 0 ++ (dueAt rs rs.length).map fun x => ns.getD (ns.length - (dueAt rs rs.length).length) 0 * x := by
  refine ⟨fun x hx => intBits_le ?_, ?_⟩
  · have h1 := due_bd hr rs.length x hx
    have h2 : 4 ^ rs.length ≤ 4 ^ 3 := Nat.pow_le_pow_right (by decide) hl
    omega
  obtain ⟨G, g0, g1, d, S, ds, K, td, hG, hK, pS, hm, t1, t2, t3, t4, nd, hmem, e0, e1, mu⟩ := row_facts hh R
  have hns' : ns = numsDown td false (topN td + 1) := by
    unfold sizesOf at hns
    rw [List.getElem?_map, t1] at hns
    exact (Option.some.inj hns).symm
  obtain ⟨l, hl1⟩ := due_head rs rs.length
  generalize hdue : dueAt rs rs.length = due at *
  have ew : ∀ x, wl ns x 0 = K * wl due x 0 := fun x => by
    rw [← t4, ← t3, hns', wl_nums]
    show _ = ev _ x _
    grind
  have ec : ∀ k, co (ns.reverse.map fun n : Int => (n : Rat)) k = K * co (due.reverse.map fun n : Int => (n : Rat)) k := fun k => by
    rw [← co_sm]
    refine hp_co (fun x _ => ?_) k
    rw [hp_sm, ← wl_hp, ← wl_hp, List.reverse_reverse, List.reverse_reverse]; exact ew x
  have cr : ∀ (l : List Int) (k : Nat), co (l.reverse.map fun n : Int => (n : Rat)) k = ((l.reverse.getD k 0 : Int) : Rat) := fun l k => by
    unfold co
    rw [List.getD_eq_getElem?_getD, List.getD_eq_getElem?_getD, List.getElem?_map]
    cases l.reverse[k]? <;> rfl
  have ec : ∀ k, ((ns.reverse.getD k 0 : Int) : Rat) = K * ((due.reverse.getD k 0 : Int) : Rat) := fun k => by rw [← cr, ← cr]; exact ec k
  have rev : ∀ (l : List Int) (k : Nat), k < l.length → l.reverse.getD k 0 = l.getD (l.length - 1 - k) 0 := fun l k hk => by
    rw [List.getD_eq_getElem?_getD, List.getD_eq_getElem?_getD, List.getElem?_reverse hk]
  have hpos : 1 ≤ due.length := by rw [hl1]; simp
  have top : ((ns.reverse.getD (due.length - 1) 0 : Int) : Rat) = K := by
    rw [ec, rev due _ (by omega), show due.length - 1 - (due.length - 1) = 0 by omega, hl1]
    show K * ((1 : Int) : Rat) = K
    have i1 : ((1 : Int) : Rat) = 1 := rfl
    rw [i1]; grind
  have i0 : ((0 : Int) : Rat) = 0 := rfl
  have hlen : due.length ≤ ns.length := by
    refine Classical.byContradiction fun hlt => hK ?_
    rw [← top, List.getD_eq_getElem?_getD, List.getElem?_eq_none (by simp; omega)]; exact i0
  refine ⟨hlen, ?_⟩
  have hK2 : (((ns.getD (ns.length - due.length) 0 : Int)) : Rat) = K := by
    rw [← top, rev ns _ (by omega)]; congr 2; omega
  generalize hkk : ns.getD (ns.length - due.length) 0 = kk at *
  refine List.ext_getElem (by simp; omega) fun i h1 h2 => ?_
  have e3 : ns[i] = ns.reverse.getD (ns.length - 1 - i) 0 := by
    rw [rev ns _ (by omega), show ns.length - 1 - (ns.length - 1 - i) = i by omega, List.getD_eq_getElem?_getD, List.getElem?_eq_getElem h1]; rfl
  have e4 := ec (ns.length - 1 - i)
  rw [← e3] at e4
  by_cases hi : i < ns.length - due.length
  · rw [List.getElem_append_left (by simpa using hi), List.getElem_replicate]
    rw [List.getD_eq_getElem?_getD (l := due.reverse), List.getElem?_eq_none (by simp; omega)] at e4
    refine Rat.intCast_inj.mp ?_
    rw [e4]
    show K * ((0 : Int) : Rat) = _
    rw [i0]; grind
  · rw [List.getElem_append_right (by simpa using hi), List.getElem_map]
    rw [rev due _ (by omega), ← hK2, ← Rat.intCast_mul] at e4
    rw [Rat.intCast_inj.mp e4]
    congr 1
    rw [List.getD_eq_getElem?_getD, List.getElem?_eq_getElem (by omega)]
    simp only [Option.getD_some, List.length_replicate]
    congr 1; omega
theorem bound_of {rs : List Int} {m h : Int} (hl : rs.length ≤ 3) (hr : ∀ r ∈ rs, -3 ≤ r ∧ r ≤ 3) (hm : -3 ≤ m ∧ m ≤ 3) (hh : 1 ≤ h ∧ h ≤ 1000) {ts : List (Tab Int)} (R : Row (prodT rs m h) (slopeT (prodT rs m h)) ts) (i : Nat) (hi : i < rs.length) (k : Nat) (hk : k < (sizesOf false (prodT rs m h :: slopeT (prodT rs m h) :: ts)).length) :
    worthL ((sizesOf false (prodT rs m h :: slopeT (prodT rs m h) :: ts)).getD k []) (rs.getD i 0) 1 = slopeAt rs m h i * worthL ((sizesOf true (prodT rs m h :: slopeT (prodT rs m h) :: ts)).getD k []) (rs.getD i 0) 1 := by
  generalize hL : prodT rs m h :: slopeT (prodT rs m h) :: ts = L at *
  have hp := prodT_NN rs m h
  have hkL : k < L.length := by unfold sizesOf at hk; simpa using hk
  have eg : ∀ c, (sizesOf c L).getD k [] = numsDown L[k] c (topN L[k] + 1) := fun c => by
    unfold sizesOf
    rw [List.getD_eq_getElem?_getD, List.getElem?_map, List.getElem?_eq_getElem hkL]; rfl
  have i1 : ((1 : Int) : Rat) = 1 := rfl
  have ep : ∀ n : Nat, (1 : Rat) ^ n = 1 := fun n => by induction n with
    | zero => exact Rat.pow_zero _
    | succ n ih => rw [Rat.pow_succ, ih]; grind
  have ew : ∀ c, ((worthL (numsDown L[k] c (topN L[k] + 1)) (rs.getD i 0) 1 : Int) : Rat) = evT L[k] c (rs.getD i 0 : Int) := fun c => by
    rw [worth_ev _ c _ 1 (rs.getD i 0 : Int) (by rw [i1]; grind), i1, ep]; grind
  refine Rat.intCast_inj.mp ?_
  rw [Rat.intCast_mul, eg, eg, ew, ew]
  obtain ⟨s1, s2⟩ := slopeAt_ev (m := m) (h := h) hi
  refine R.bez hp hp.slope (rs.getD i 0 : Int) (slopeAt rs m h i : Int) ?_ ?_ _ (by rw [hL]; exact List.getElem_mem _)
  · rw [s2]
    have : evT (prodT rs m h) true (rs.getD i 0 : Int) = 0 := ev_zero _ _ _ fun k _ => by
      have := ((prodT_M hl hr hm hh).val k).2
      simpa [numAt] using this
    rw [this]; grind
  · rw [evT_slope hp, s1, evT_slope1 hp]; grind
theorem plain_law (sc : List Int) : PlainLaw sc := by
  have hl := (rootsOf_len sc).2
  have hr := rootsOf_bd sc
  have hm := midOf_bd sc
  have hh := htOf_bd sc
  exact
    { ok := prodT_ok hl hr hm hh
      high := prodT_high hl hr hm hh
      told := fun ts R k hk => told_of hh.1 R k hk
      again := fun ts ns R e => again_of hh.1 hl hr R e
      bits := fun i _ => slope_bits hl hr hm hh i
      bound := fun ts R i hi k hk => bound_of hl hr hm hh R i hi k hk }
end Mine
end
set_option maxRecDepth 100000 in
set_option maxHeartbeats 4000000 in
theorem PySem.Challenge.cw_wa0013_03_holds : PySem.Challenge.rw_wa0013_03.Holds :=
  Mine.holds_of fun sc _ => Mine.plain_law sc

