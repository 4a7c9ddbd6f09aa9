import PyProof.Rows.All
import Wide.All
import OpenK.AllK
import Wide.FinOn
import KE.KDictList
import KE.KxPercentT
import PyProof.Conv_float_int
import Flt.RightMore
import KE.KCallOwn
import Lean
import PySem.Challenge.RW_wa0013_01
set_option Elab.async false
set_option linter.unusedVariables false
set_option linter.unusedSimpArgs false
section
open PySem PySem.W PyProof.Rows
set_option maxRecDepth 100000
set_option maxHeartbeats 8000000
namespace Mine
/-- the top's statements that the head sees -/
noncomputable def vw : Program := PySem.W.view PySem.Challenge.pw_wa0013_01 [0, 2, 3, 4, 5, 7, 8, 10, 11, 12, 13, 14, 15, 16, 17]
/-- the run of a top, its heap as a tree, with the library's fast twins -/
noncomputable def topT (p : Program) (w : World) (n₀ : Nat) (ann : Option Value) (n : Nat) : SharedT → Thread → Option SharedT :=
  Nat.rec (fun _ _ => none) (fun _ ih s t => match through t with
    | true => some s
    | false => match @PySem.W.Fast.tw6613529449190102663 n₀ ann t with
      | false => none
      | true => match @PySem.W.Fast.tw10156331382660048174 (@PySem.W.Fast.tw11892475500146522536 @PySem.W.Fast.tw14364793385576792824) p w s t with
        | some r => ih r.1 r.2
        | none => none) n
theorem topT_of {p : Program} {w : World} {n₀ : Nat} {ann : Option Value} : ∀ {n : Nat} {s s' : SharedT} {t : Thread}, topT p w n₀ ann n s t = some s' → topRun treeTable p w n₀ ann n s.abs t = some s'.abs
  | 0, _, _, _, h => by cases h
  | n + 1, s, s', t, h => by
    replace h : (match through t with
    | true => some s
    | false => match @PySem.W.Fast.tw6613529449190102663 n₀ ann t with
      | false => none
      | true => match @PySem.W.Fast.tw10156331382660048174 (@PySem.W.Fast.tw11892475500146522536 @PySem.W.Fast.tw14364793385576792824) p w s t with
        | some r => topT p w n₀ ann n r.1 r.2
        | none => none) = some s' := h
    rw [← PySem.W.Fast.te6613529449190102663, ← PySem.W.Fast.te10156331382660048174, ← PySem.W.Fast.te11892475500146522536, ← PySem.W.Fast.te14364793385576792824] at h
    unfold topRun
    cases ht : through t with
    | true => rw [ht] at h; cases h; rfl
    | false =>
      rw [ht] at h
      cases hk : stepOk n₀ ann t with
      | false => simp only [hk] at h; cases h
      | true =>
        simp only [hk] at h
        cases hs : stepT (denote treeTable) p w s t with
        | none => rw [hs] at h; cases h
        | some r => obtain ⟨s₂, t₂⟩ := r; rw [hs] at h; rw [stepT_spec hs]; exact topT_of h
/-- a heap's objects as a tree -/
noncomputable def treeOf (l : List Obj) : Option (BT × Nat) :=
  l.foldl (fun r o => match r with
    | some (t, n) => match ((t.ins n o).get n).isSome with
      | true => some (t.ins n o, n + 1)
      | false => none
    | none => none) (some (.nil, 0))
theorem treeOf_from : ∀ (l : List Obj) (t : BT) (n : Nat) (life : Life) (T : BT) (N : Nat), l.foldl (fun r o => match r with
    | some (t, n) => match ((BT.ins t n o).get n).isSome with
      | true => some (BT.ins t n o, n + 1)
      | false => none
    | none => none) (some (t, n)) = some (T, N) → absHeap T N life = ⟨(absHeap t n life).objs ++ l.toArray, life⟩
  | [], t, n, life, T, N, h => by
    simp only [List.foldl_nil, Option.some.injEq, Prod.mk.injEq] at h
    obtain ⟨rfl, rfl⟩ := h
    simp [absHeap]
  | o :: l, t, n, life, T, N, h => by
    simp only [List.foldl_cons] at h
    cases g : ((t.ins n o).get n).isSome with
    | false =>
      simp only [g] at h
      exfalso
      clear g
      induction l with
      | nil => cases h
      | cons a l ih => exact ih h
    | true =>
      simp only [g] at h
      rw [treeOf_from l _ _ life T N h, absHeap_ins g]
      congr 1
      show ((absHeap t n life).objs.push o) ++ l.toArray = _
      simp
theorem treeOf_abs {l : List Obj} {T : BT} {N : Nat} (h : treeOf l = some (T, N)) (life : Life) : absHeap T N life = ⟨l.toArray, life⟩ := by
  rw [treeOf_from l .nil 0 life T N h]
  simp [absHeap, BT.list]
noncomputable def topQ (p : Program) (w : World) (N : Nat) : Shared → Option Shared
  | ⟨⟨⟨l⟩, life⟩, gens, drawn, toks, os⟩ =>
  match (Heap.mk ⟨l⟩ life).isNs mainGlobals && gens.size == 0 with
  | true => match treeOf l with
    | some (T, n) => match (topT p w n ((Heap.mk ⟨l⟩ life).nsMap mainGlobals "__annotations__") N ⟨T, n, life, gens, drawn, toks, os⟩ (topStub p)) with
      | some s₁ => match staticsOk (importedModules p.main.body) ⟨⟨l⟩, life⟩ s₁.abs.heap && namesBound p s₁.abs.heap && gensDone s₁.abs && laidKept ⟨⟨l⟩, life⟩ s₁.abs.heap with
        | true => some s₁.abs
        | false => none
      | none => none
    | none => none
  | false => none
noncomputable def endsQ (p : Program) (w : World) (N : Nat) : Option Shared := ((@PySem.W.Fast.tw10274390034422433532 @PySem.W.Fast.tw14364793385576792824 (opening p) w N (start (opening p)).1 (start (opening p)).2).bind (@PySem.W.Fast.tw14289696077712309145 p)).bind (topQ p w N)
theorem topQ_of {p : Program} {w : World} {N : Nat} {s₀ s : Shared} (h : topQ p w N s₀ = some s) : topFrom treeTable p w N s₀ = some s := by
  obtain ⟨⟨⟨l⟩, life⟩, gens, drawn, toks, os⟩ := s₀
  unfold topQ at h
  unfold topFrom
  dsimp only at h ⊢
  cases hg : ((Heap.mk ⟨l⟩ life).isNs mainGlobals && gens.size == 0) with
  | false => rw [hg] at h; cases h
  | true =>
    rw [hg] at h
    dsimp only at h ⊢
    cases ht : treeOf l with
    | none => rw [ht] at h; cases h
    | some r =>
      obtain ⟨T, n⟩ := r
      rw [ht] at h
      dsimp only at h
      have ha := treeOf_abs ht life
      have hn : n = l.length := by
        have := congrArg (fun h => h.objs.size) ha
        rw [absHeap_size] at this
        exact this
      cases hr : topT p w n ((Heap.mk ⟨l⟩ life).nsMap mainGlobals "__annotations__") N ⟨T, n, life, gens, drawn, toks, os⟩ (topStub p) with
      | none => rw [hr] at h; cases h
      | some s₁ =>
        rw [hr] at h
        have k := topT_of hr
        have e : (SharedT.mk T n life gens drawn toks os).abs = ⟨⟨⟨l⟩, life⟩, gens, drawn, toks, os⟩ := by
          unfold SharedT.abs
          rw [ha]
        rw [e, hn] at k
        dsimp only at h
        show (topRun treeTable p w l.length _ N _ _).bind _ = _
        rw [k]
        exact h
theorem left_quick {p q : Program} {loose : List Str} {Xt : Shared → Bool} {α : Type} {Yf : Shared → α} {Ya : World → α} {N : Nat}
    (h : ∀ w, (endsQ p w N).map (fun s => (@PySem.W.Fast.tw4187177175401517315 q loose (importedModules p.main.body) Xt true s, Yf s)) = some (openGood q loose, Ya w)) : LeftO p q loose Xt Yf Ya N := fun w => by
  obtain ⟨s, hs, e⟩ := Option.map_eq_some_iff.mp (h w)
  unfold endsQ at hs
  rw [← PySem.W.Fast.te14364793385576792824, ← PySem.W.Fast.te10274390034422433532, ← PySem.W.Fast.te14289696077712309145] at hs
  obtain ⟨s₀, h0, h1⟩ := Option.bind_eq_some_iff.mp hs
  unfold openEnds fencedOpening
  rw [h0]
  show (topFrom treeTable p w N s₀).map _ = _
  rw [topQ_of h1, ← PySem.W.Fast.te4187177175401517315] at *
  exact congrArg some e
/-- the law's text is well said: each part in a check of its own -/
theorem law_said : PySem.Challenge.rw_wa0013_01.wellSaid = true := by
  unfold OpenLaw.wellSaid OpenRow.wellSaid OpenRow.partSaid looksOpen
  repeat' with_reducible refine look_both ?_ ?_
  all_goals (
    (try (rw [PySem.W.Fast.te8377067652309620493]))
    (try (rw [PySem.W.Fast.te8326940854005059898]))
    (try (rw [PySem.W.Fast.te17119622794617984870]))
    (try (rw [PySem.W.Fast.te8179353310426384613]))
    (try (rw [PySem.W.Fast.te9558739934217749035]))
    (try (rw [PySem.W.Fast.te16286561074155671207]))
    (try (rw [PySem.W.Fast.te10501279942588096481]))
    (try (rw [PySem.W.Fast.te11788848310118352699]))
    (try (rw [PySem.W.Fast.te12862048085361865435]))
    (try (rw [PySem.W.Fast.te18344453789297297638]))
    (try (rw [PySem.W.Fast.te17868728402115742887]))
    decide +kernel)
theorem ok_said : (chainsOk vw && opensWell PySem.Challenge.rw_wa0013_01.row.prog && (frees PySem.Challenge.rw_wa0013_01.row.toRowW && PySem.Challenge.rw_wa0013_01.row.toRowW.within.isEmpty)) = true := by
  repeat' with_reducible refine look_both ?_ ?_
  all_goals decide +kernel
theorem h_open (H : Hook) (said : PySem.Challenge.rw_wa0013_01.row.wellSaid = true) {d : DefRec} {kwd : List (Str × Expr)} (hdef : defOf vw PySem.Challenge.rw_wa0013_01.row.name = some (d, kwd)) (hp : PySem.Challenge.rw_wa0013_01.row.prog.theDef PySem.Challenge.rw_wa0013_01.row.name = some (d.params, d.body, d.scope)) (hk : kwWritten? d.params.kwonlyargs d.params.kw_defaults = some kwd)
    (hl : LeftO PySem.Challenge.rw_wa0013_01.row.prog vw [Str.ofString "Statistic", Str.ofString "StatisticDiff"] (fun s => xlAt vw [] s && recOk (RowW.records PySem.Challenge.rw_wa0013_01.row.toRowW) s) H.obs H.val 2760)
    (hw : PySem.Challenge.rw_wa0013_01.row.toRowW.promised) (hc : WalkO vw [Str.ofString "Statistic", Str.ofString "StatisticDiff"] (XL vw []) H.says PySem.Challenge.rw_wa0013_01.row.toRowW d kwd fun f vs => PySem.call f vs) : PySem.Challenge.rw_wa0013_01.row.Holds :=
  holds_open hl H.of H.keeps (fun s e => xl_of s (Bool.and_eq_true_iff.mp e).1) XL.keeps hdef hp hk (fun s e => recFacts_of (Bool.and_eq_true_iff.mp e).2) (by rfl) said ok_said ⟨rfl, rfl, rfl, rfl, rfl, by decide +kernel⟩ hw hc
/-- the run of the text's top -/
local macro_rules | `(tactic| o_head $H) => `(tactic| (
  refine h_open $H (by assumption) (by rfl) (by rfl) (by rfl) ?hl ?hw ?hc
  case hl => (refine left_quick ?_; intro w; kernel_rfl)))
local macro_rules | `(tactic| o_law) => `(tactic| refine holds_law (l := PySem.Challenge.rw_wa0013_01) law_said fun said => ?_)
open_top hd for PySem.Challenge.rw_wa0013_01
end Mine
end
section
open PySem PySem.W PyProof.Rows PySem.Calls PySem.Spec
set_option maxRecDepth 100000

namespace Mine

/-! values and objects, as plain data -/
inductive PV where
  | none
  | bool (b : Bool)
  | int (i : Int)
  | str (s : Str)
  | flt (b : UInt64)
  | tuple (vs : List PV)
  | inst (C : Addr) (vs : List PV)
  | rng (a b c : Int)
  | ref (a : Addr)
  | k (v : Value)

inductive PO where
  | idle
  | list (vs : List PV)
  | idict (es : List (Int × PV)) (ep : Nat)
  | sdict (es : List (Str × PV)) (ep : Nat)

abbrev PH := Addr → Option PO
abbrev PL := Str → Option PV

mutual
inductive VR (H : PH) (h : Heap) : Value → PV → Prop
  | none : VR H h .none .none
  | bool (b : Bool) : VR H h (.bool b) (.bool b)
  | int (i : Int) (t : Tok) : VR H h (.int i t) (.int i)
  | str (x : Str) (t : Tok) : VR H h (.str x t) (.str x)
  | flt (b : UInt64) (t : Tok) : VR H h (.float b t) (.flt b)
  | tuple {a : Addr} {vs : List Value} {ds : List PV} : h.IsTuple a vs.toArray → VRs H h vs ds → VR H h (.ref a) (.tuple ds)
  | inst {a C dx : Addr} {vs : List Value} {ds : List PV} : h.get? a = some ⟨.ref C, some dx, .plain, (vs.map some).toArray⟩ → H dx = some .idle → VRs H h vs ds → VR H h (.ref a) (.inst C ds)
  | rng {r : Addr} {a b c : Int} {t u v : Tok} : IsRange h r a b c t u v → VR H h (.ref r) (.rng a b c)
  | ref (a : Addr) : VR H h (.ref a) (.ref a)
  | k (v : Value) : VR H h v (.k v)
inductive VRs (H : PH) (h : Heap) : List Value → List PV → Prop
  | nil : VRs H h [] []
  | cons {v : Value} {d : PV} {vs : List Value} {ds : List PV} : VR H h v d → VRs H h vs ds → VRs H h (v :: vs) (d :: ds)
end

structure Gd where
  prog : Program
  w : World
  K : Frag
  p : Program
  loose : List Str
  mg : Str → Option Value
  mb : Str → Option Value
  G : Heap

structure Gd.Ok (g : Gd) : Prop where
  kin : g.K.In g.G
  top : TopRead g.p g.loose g.mg g.mb g.G

abbrev Gd.m (g : Gd) : Model := model g.prog g.w

noncomputable def KV {K : Type} (H : PH) (h : Heap) : List (K × Value) → List (K × PV) → Prop
  | [], [] => True
  | (a, v) :: r, (b, d) :: q => (a = b ∧ VR H h v d) ∧ KV H h r q
  | _, _ => False

noncomputable def OR (g : Gd) (H : PH) (h : Heap) (a : Addr) : PO → Prop
  | .idle => ∃ o, h.get? a = some o ∧ o.cls = .type "dict" ∧ ∃ es n, o.data = .dict es n
  | .list ds => ∃ vs n, h.get? a = some (listOf vs.toArray n) ∧ VRs H h vs ds
  | .idict es ep => ∃ kvs, h.DictAt (intKind g.prog g.w) a kvs ep ∧ KV H h kvs es
  | .sdict es ep => ∃ kvs, h.DictAt (PySem.strKind g.prog g.w) a kvs ep ∧ KV H h kvs es

structure BR (g : Gd) (H : PH) (h : Heap) : Prop where
  keep : ∀ b o, g.G.get? b = some o → h.get? b = some o
  hr : ∀ a po, H a = some po → OR g H h a po ∧ g.G.get? a = none ∧ 2 < a

structure StpO (own : Addr → Prop) (H : PH) (h : Heap) (H' : PH) (h' : Heap) : Prop where
  keep : ∀ b o, h.get? b = some o → H b = none → ¬ own b → h'.get? b = some o
  dom : ∀ b o, h.get? b = some o → H b = none → H' b = none
  alive : ∀ b o, h.get? b = some o → ∃ o', h'.get? b = some o'
  idle : ∀ b, H b = some .idle → H' b = some .idle
/-- the part of a step that values need -/
structure Kp (own : Addr → Prop) (H : PH) (h : Heap) (H' : PH) (h' : Heap) : Prop where
  keep : ∀ b o, h.get? b = some o → H b = none → ¬ own b → h'.get? b = some o
  idle : ∀ b, H b = some .idle → H' b = some .idle
theorem StpO.kp {own : Addr → Prop} {H H' : PH} {h h' : Heap} (S : StpO own H h H' h') : Kp own H h H' h' := ⟨S.keep, S.idle⟩
abbrev noOwn : Addr → Prop := fun _ => False
abbrev Stp := StpO noOwn

/-- an object that a dict or list of H never is -/
noncomputable def Fixed (o : Obj) : Prop := (o.cls = .type "tuple" ∧ ∃ xs n, o.data = .seq xs n) ∨ (∃ C dx sl, o = ⟨.ref C, some dx, .plain, sl⟩) ∨ (∃ v, o.data = .cell v) ∨ o.cls = .type "range"

theorem BR.fixed {g : Gd} {H : PH} {h : Heap} (B : BR g H h) {a : Addr} {o : Obj} (e : h.get? a = some o) (f : Fixed o) : H a = none := by
  cases q : H a with
  | none => rfl
  | some po =>
    exfalso
    have z := (B.hr a po q).1
    cases po with
    | idle =>
      obtain ⟨o', e', c', es, n, d'⟩ := z
      rw [e] at e'
      obtain rfl := Option.some.inj e'
      rcases f with ⟨c, _⟩ | ⟨C, dx, sl, c⟩ | ⟨v, c⟩ | c
      · rw [c'] at c; exact absurd c (by decide)
      · subst c; cases d'
      · rw [d'] at c; cases c
      · rw [c'] at c; exact absurd c (by decide)
    | list ds =>
      obtain ⟨vs, n, e', _⟩ := z
      rw [e] at e'
      obtain rfl := Option.some.inj e'
      rcases f with ⟨c, _⟩ | ⟨C, dx, sl, c⟩ | ⟨v, c⟩ | c
      · exact absurd (show Value.type "list" = Value.type "tuple" from c) (by decide)
      · cases c
      · cases c
      · exact absurd (show Value.type "list" = Value.type "range" from c) (by decide)
    | idict es ep =>
      obtain ⟨kvs, ⟨o', es', e', hx, hd, _⟩, _⟩ := z
      rw [e] at e'
      obtain rfl := Option.some.inj e'
      rcases f with ⟨c, _⟩ | ⟨C, dx, sl, c⟩ | ⟨v, c⟩ | c
      · rw [hx.1] at c; exact absurd c (by decide)
      · subst c; cases hd
      · rw [hd] at c; cases c
      · rw [hx.1] at c; exact absurd c (by decide)
    | sdict es ep =>
      obtain ⟨kvs, ⟨o', es', e', hx, hd, _⟩, _⟩ := z
      rw [e] at e'
      obtain rfl := Option.some.inj e'
      rcases f with ⟨c, _⟩ | ⟨C, dx, sl, c⟩ | ⟨v, c⟩ | c
      · rw [hx.1] at c; exact absurd c (by decide)
      · subst c; cases hd
      · rw [hd] at c; cases c
      · rw [hx.1] at c; exact absurd c (by decide)

theorem StpO.mono {own own' : Addr → Prop} {H H' : PH} {h h' : Heap} (S : StpO own H h H' h') (k : ∀ b, own b → own' b) : StpO own' H h H' h' :=
  ⟨fun b o e n q => S.keep b o e n fun z => q (k b z), S.dom, S.alive, S.idle⟩
theorem Stp.refl {own : Addr → Prop} (H : PH) (h : Heap) : StpO own H h H h := ⟨fun _ _ e _ _ => e, fun _ _ _ e => e, fun _ o e => ⟨o, e⟩, fun _ e => e⟩
theorem StpO.trans {own : Addr → Prop} {H H' H'' : PH} {h h' h'' : Heap} (S : StpO own H h H' h') (T : StpO own H' h' H'' h'') : StpO own H h H'' h'' where
  keep := fun b o e n q => T.keep b o (S.keep b o e n q) (S.dom b o e n) q
  dom := fun b o e n => let ⟨o', e'⟩ := S.alive b o e; T.dom b o' e' (S.dom b o e n)
  alive := fun b o e => let ⟨o', e'⟩ := S.alive b o e; T.alive b o' e'
  idle := fun b e => T.idle b (S.idle b e)
theorem Stp.to {own : Addr → Prop} {H H' : PH} {h h' : Heap} (S : Stp H h H' h') : StpO own H h H' h' := S.mono fun _ z => z.elim

/-- what a step may change is no tuple and no object with slots -/
noncomputable def OwnOk (own : Addr → Prop) (h : Heap) : Prop := ∀ b o, own b → h.get? b = some o → (∃ es ep, o.data = .dict es ep) ∨ (∃ v, o.data = .cell v) ∨ (∃ vs, o.data = .fields vs ∧ o.cls ≠ .type "range") ∨ ∃ xs n, o.data = .seq xs n ∧ o.cls = .type "list"
theorem OwnOk.seq {own : Addr → Prop} {h : Heap} (W : OwnOk own h) {b : Addr} {o : Obj} {xs n} (e : h.get? b = some o) (c : o.cls = .type "tuple") (d : o.data = .seq xs n) : ¬ own b := fun z => by
  rcases W b o z e with ⟨_, _, q⟩ | ⟨_, q⟩ | ⟨_, q, _⟩ | ⟨_, _, _, q⟩
  · rw [d] at q; cases q
  · rw [d] at q; cases q
  · rw [d] at q; cases q
  · rw [c] at q; exact absurd q (by decide)
theorem OwnOk.range {own : Addr → Prop} {h : Heap} (W : OwnOk own h) {b : Addr} {o : Obj} {vs} (e : h.get? b = some o) (c : o.cls = .type "range") (d : o.data = .fields vs) : ¬ own b := fun z => by
  rcases W b o z e with ⟨_, _, q⟩ | ⟨_, q⟩ | ⟨_, _, q⟩ | ⟨_, _, q, _⟩
  · rw [d] at q; cases q
  · rw [d] at q; cases q
  · exact q c
  · rw [d] at q; cases q
theorem OwnOk.plain {own : Addr → Prop} {h : Heap} (W : OwnOk own h) {b : Addr} {o : Obj} (e : h.get? b = some o) (d : o.data = .plain) : ¬ own b := fun z => by
  rcases W b o z e with ⟨_, _, q⟩ | ⟨_, q⟩ | ⟨_, q, _⟩ | ⟨_, _, q, _⟩ <;> (rw [d] at q; cases q)

mutual
theorem VR.step {g : Gd} {own : Addr → Prop} {H H' : PH} {h h' : Heap} (B : BR g H h) (S : Kp own H h H' h') (W : OwnOk own h) : ∀ {v : Value} {d : PV}, VR H h v d → VR H' h' v d
  | _, _, .none => .none
  | _, _, .bool b => .bool b
  | _, _, .int i t => .int i t
  | _, _, .str x t => .str x t
  | _, _, .flt b t => .flt b t
  | _, _, .tuple ht r => by
    obtain ⟨o, e, c, n, d⟩ := ht
    exact .tuple ⟨o, S.keep _ o e (B.fixed e (.inl ⟨c, _, n, d⟩)) (W.seq e c d), c, n, d⟩ (VRs.step B S W r)
  | _, _, .inst e ed r => .inst (S.keep _ _ e (B.fixed e (.inr (.inl ⟨_, _, _, rfl⟩))) (W.plain e rfl)) (S.idle _ ed) (VRs.step B S W r)
  | _, _, .rng e => .rng (S.keep _ _ e (B.fixed e (.inr (.inr (.inr rfl)))) (W.range e rfl rfl))
  | _, _, .ref a => .ref a
  | _, _, .k v => .k v
theorem VRs.step {g : Gd} {own : Addr → Prop} {H H' : PH} {h h' : Heap} (B : BR g H h) (S : Kp own H h H' h') (W : OwnOk own h) : ∀ {vs : List Value} {ds : List PV}, VRs H h vs ds → VRs H' h' vs ds
  | _, _, .nil => .nil
  | _, _, .cons x r => .cons (VR.step B S W x) (VRs.step B S W r)
end
theorem noOwnOk (h : Heap) : OwnOk noOwn h := fun _ _ z => z.elim
theorem VR.after {g : Gd} {H H' : PH} {h h' : Heap} {v : Value} {d : PV} (V : VR H h v d) (B : BR g H h) (S : Stp H h H' h') : VR H' h' v d := V.step B S.kp (noOwnOk h)
theorem VRs.after {g : Gd} {H H' : PH} {h h' : Heap} {v : List Value} {d : List PV} (V : VRs H h v d) (B : BR g H h) (S : Stp H h H' h') : VRs H' h' v d := V.step B S.kp (noOwnOk h)

/-- relation of an environment's names -/
structure ER (g : Gd) (env : Env) (l : PL) (H : PH) (h : Heap) : Prop where
  br : BR g H h
  ns : ∃ m, h.Ns env.locals m ∧ ∀ x pv, l x = some pv → env.kindOf x = some .local → ∃ v, VR H h v pv ∧ m x = some v
  nc : ∀ x pv, l x = some pv → env.kindOf x ≠ some .local → (env.kindOf x = some .cell ∨ env.kindOf x = some .free ∧ (x == ("__classdict__" : Str)) = false) ∧ ∃ v c, VR H h v pv ∧ env.cells.lookup x = some c ∧ h.IsCell c (some v)
  hl : H env.locals = none
  gl : g.G.get? env.locals = none
  cells : ∀ x c, env.cells.lookup x = some c → g.G.get? c = none ∧ ∃ w, h.IsCell c w
  inj : ∀ x y c, env.cells.lookup x = some c → env.cells.lookup y = some c → x = y
  has : ∀ x, env.kindOf x = some .cell → (env.cells.lookup x).isSome = true

structure EnvOk (env : Env) : Prop where
  kind : env.scope.kind = .function
  globals : env.globals = mainGlobals
  builtins : env.builtins = builtinsNs

theorem Ns.obj {h : Heap} {a : Addr} {m : Str → Option Value} (n : h.Ns a m) : ∃ o, h.get? a = some o := let ⟨o, _, _, e, _⟩ := n; ⟨o, e⟩

theorem ER.after {g : Gd} {env : Env} {l : PL} {H H' : PH} {h h' : Heap} (R : ER g env l H h) (B : BR g H' h') (S : Stp H h H' h') : ER g env l H' h' where
  br := B
  ns := by
    obtain ⟨m, hn, k⟩ := R.ns
    refine ⟨m, hn.at' fun o e => S.keep _ o e R.hl id, fun x pv e kd => ?_⟩
    obtain ⟨v, V, hm⟩ := k x pv e kd
    exact ⟨v, V.after R.br S, hm⟩
  nc := fun x pv e kd => by
    obtain ⟨a, v, c, V, hc, o, ho, hd⟩ := R.nc x pv e kd
    exact ⟨a, v, c, V.after R.br S, hc, o, S.keep _ o ho (R.br.fixed ho (.inr (.inr (.inl ⟨_, hd⟩)))) id, hd⟩
  hl := let ⟨_, hn, _⟩ := R.ns; let ⟨o, e⟩ := Ns.obj hn; S.dom _ o e R.hl
  gl := R.gl
  cells := fun x c e => by
    obtain ⟨a, w, o, ho, hd⟩ := R.cells x c e
    exact ⟨a, w, o, S.keep _ o ho (R.br.fixed ho (.inr (.inr (.inl ⟨_, hd⟩)))) id, hd⟩
  inj := R.inj
  has := R.has


abbrev noE : Value → Shared → Prop := fun _ _ => False

noncomputable def Post (g : Gd) (H : PH) (s : Shared) (Q : PV → PH → Prop) (Q' : Value → Shared → Prop) : Prop :=
  ∀ v pv H' h' tk, BR g H' h' → Stp H s.heap H' h' → VR H' h' v pv → Q pv H' → Q' v { s with heap := h', toks := tk }
noncomputable def PostB (g : Gd) (H : PH) (s : Shared) (Q : Bool → PH → Prop) (Q' : Bool → Shared → Prop) : Prop :=
  ∀ b H' h' tk, BR g H' h' → Stp H s.heap H' h' → Q b H' → Q' b { s with heap := h', toks := tk }
noncomputable def PostL (g : Gd) (H : PH) (s : Shared) (Q : List PV → PH → Prop) (Q' : List Value → Shared → Prop) : Prop :=
  ∀ vs pvs H' h' tk, BR g H' h' → Stp H s.heap H' h' → VRs H' h' vs pvs → Q pvs H' → Q' vs { s with heap := h', toks := tk }

theorem Post.after {g : Gd} {H H₁ : PH} {s : Shared} {h₁ : Heap} {tk₁ : Nat} {Q : PV → PH → Prop} {Q' : Value → Shared → Prop} (P : Post g H s Q Q') (S : Stp H s.heap H₁ h₁) : Post g H₁ { s with heap := h₁, toks := tk₁ } Q Q' :=
  fun v pv H' h' tk B S' V q => P v pv H' h' tk B (S.trans S') V q
theorem PostB.after {g : Gd} {H H₁ : PH} {s : Shared} {h₁ : Heap} {tk₁ : Nat} {Q : Bool → PH → Prop} {Q' : Bool → Shared → Prop} (P : PostB g H s Q Q') (S : Stp H s.heap H₁ h₁) : PostB g H₁ { s with heap := h₁, toks := tk₁ } Q Q' :=
  fun v H' h' tk B S' q => P v H' h' tk B (S.trans S') q
/-- nothing but marks spent -/
theorem Post.here {g : Gd} {H : PH} {s : Shared} {Q : PV → PH → Prop} {Q' : Value → Shared → Prop} (P : Post g H s Q Q') (B : BR g H s.heap) {v : Value} {pv : PV} (V : VR H s.heap v pv) (q : Q pv H) (tk : Nat) : Q' v { s with toks := tk } :=
  P v pv H s.heap tk B (Stp.refl H s.heap) V q
theorem Post.now {g : Gd} {H : PH} {s : Shared} {Q : PV → PH → Prop} {Q' : Value → Shared → Prop} (P : Post g H s Q Q') (B : BR g H s.heap) {v : Value} {pv : PV} (V : VR H s.heap v pv) (q : Q pv H) : Q' v s :=
  P v pv H s.heap s.toks B (Stp.refl H s.heap) V q
theorem PostB.now {g : Gd} {H : PH} {s : Shared} {Q : Bool → PH → Prop} {Q' : Bool → Shared → Prop} (P : PostB g H s Q Q') (B : BR g H s.heap) {b : Bool} (q : Q b H) : Q' b s :=
  P b H s.heap s.toks B (Stp.refl H s.heap) q

/-! the judgements -/
section
variable (g : Gd) (A : Around) (env : Env) (l : PL) (H : PH)
noncomputable def ET (e : Expr) (Q : PV → PH → Prop) : Prop := ∀ s Q', ER g env l H s.heap → Post g H s Q Q' → wpAny g.m A (eval e env) Q' noE s
noncomputable def ETs (es : List Expr) (Q : List PV → PH → Prop) : Prop := ∀ pos s Q', ER g env l H s.heap → PostL g H s Q Q' → wpAny g.m A (spliced (backTo pos (starEach es env))) Q' noE s
noncomputable def BT (e : Expr) (Q : Bool → PH → Prop) : Prop := ∀ s Q', ER g env l H s.heap → PostB g H s Q Q' → wpAny g.m A (isTrue e env (eval e env)) Q' noE s
noncomputable def BinT (op : Operator) (a b : PV) (Q : PV → PH → Prop) : Prop := ∀ v w s Q', VR H s.heap v a → VR H s.heap w b → BR g H s.heap → Post g H s Q Q' → wpAny g.m A (binaryOp op v w) Q' noE s
noncomputable def InpT (op : Operator) (a b : PV) (Q : PV → PH → Prop) : Prop := ∀ v w s Q', VR H s.heap v a → VR H s.heap w b → BR g H s.heap → Post g H s Q Q' → wpAny g.m A (inplaceOp op v w) Q' noE s
noncomputable def CmpT (op : CmpOp) (a b : PV) (Q : PV → PH → Prop) : Prop := ∀ v w s Q', VR H s.heap v a → VR H s.heap w b → BR g H s.heap → Post g H s Q Q' → wpAny g.m A (compareOp op v w) Q' noE s
noncomputable def UnT (op : UnaryOp) (a : PV) (Q : PV → PH → Prop) : Prop := ∀ v s Q', VR H s.heap v a → BR g H s.heap → Post g H s Q Q' → wpAny g.m A (unaryOp op v) Q' noE s
noncomputable def TrT (a : PV) (Q : Bool → PH → Prop) : Prop := ∀ v s Q', VR H s.heap v a → BR g H s.heap → PostB g H s Q Q' → wpAny g.m A (truthy v) Q' noE s
noncomputable def CT (f : Value) (args : List PV) (Q : PV → PH → Prop) : Prop := ∀ vs s Q', VRs H s.heap vs args → BR g H s.heap → Post g H s Q Q' → wpAny g.m A (call f vs) Q' noE s
end

section
variable {g : Gd} {A : Around} {env : Env} {l : PL} {H : PH} {Q : PV → PH → Prop}

theorem ET.mono {e : Expr} {Q₁ : PV → PH → Prop} (h : ET g A env l H e Q₁) (k : ∀ v H', Q₁ v H' → Q v H') : ET g A env l H e Q :=
  fun s Q' R P => h s Q' R fun v pv H' h' tk B S V q => P v pv H' h' tk B S V (k _ _ q)

theorem ET.int {i : Int} {k pos} (h : Q (.int i) H) : ET g A env l H (.Constant (.int i) k pos) Q :=
  fun s _ R P => wpAny_Constant_int (P.here R.br (.int i s.toks) h (s.toks + 1))
theorem ET.str {x : Str} {k pos} (h : Q (.str x) H) : ET g A env l H (.Constant (.str x) k pos) Q :=
  fun s _ R P => wpAny_Constant_str (P.here R.br (.str x s.toks) h (s.toks + 1))
theorem ET.bool {b : Bool} {k pos} (h : Q (.bool b) H) : ET g A env l H (.Constant (.bool b) k pos) Q :=
  fun _ _ R P => wpAny_Constant_bool (P.now R.br (.bool b) h)
theorem ET.pnone {k pos} (h : Q .none H) : ET g A env l H (.Constant .none k pos) Q :=
  fun _ _ R P => wpAny_Constant_none (P.now R.br .none h)

/-- a name of the environment -/
theorem ET.var {x : Str} {pos : Pos} {v : PV} (O : EnvOk env) (hv : l x = some v) (hd : (x == ("__debug__" : Str)) = false) (h : Q v H) : ET g A env l H (.Name x pos) Q := by
  intro s Q' R P
  refine wpAny_Name ?_ hd
  by_cases hk : env.kindOf x = some .local
  · obtain ⟨m, hn, q⟩ := R.ns
    obtain ⟨u, V, hm⟩ := q x v hv hk
    exact wpAny_loadName_local O.kind hk hn hm (P.now R.br V h)
  · obtain ⟨a, u, c, V, hc, hcell⟩ := R.nc x v hv hk
    rcases a with a | ⟨a, b⟩
    · exact wpAny_loadName_cell O.kind a hc hcell (P.now R.br V h)
    · exact wpAny_loadName_free O.kind a hc hcell (P.now R.br V h) b
theorem ET.glob {x : Str} {pos : Pos} {v : Value} (O : EnvOk env) (hG : g.Ok) (hx : env.kindOf x = some .globalImplicit) (hd : (x == ("__debug__" : Str)) = false) (e : nsIn g.K mainGlobals x = some (some v)) (h : Q (.k v) H) : ET g A env l H (.Name x pos) Q :=
  fun _ _ R P => Name_function_global O.kind hx (loadGlobal_global (O.globals ▸ hG.top.g.keeps R.br.keep) (mg_of hG.kin hG.top.g e) (P.now R.br (.k v) h)) hd
theorem ET.builtin {x : Str} {pos : Pos} {v : Value} (O : EnvOk env) (hG : g.Ok) (hx : env.kindOf x = some .globalImplicit) (hd : (x == ("__debug__" : Str)) = false) (hn : x ≠ "__name__") (e : nsIn g.K mainGlobals x = some Option.none) (hv : bootBuiltins x = some v) (h : Q (.k v) H) : ET g A env l H (.Name x pos) Q :=
  fun _ _ R P => Name_function_global O.kind hx (loadGlobal_builtin (O.globals ▸ hG.top.g.keeps R.br.keep) (mg_none_of hG.kin hG.top.g e) (O.builtins ▸ hG.top.b.keeps R.br.keep) ((hG.top.builtins x hn).trans hv) (P.now R.br (.k v) h)) hd

theorem ET.binop {a b : Expr} {op : Operator} {pos : Pos} (h : ET g A env l H a fun u H₁ => ET g A env l H₁ b fun v H₂ => BinT g A H₂ op u v Q) : ET g A env l H (.BinOp a op b pos) Q := by
  intro s Q' R P
  refine wpAny_BinOp (h s _ R ?_)
  intro v₁ p₁ H₁ h₁ t₁ B₁ S₁ V₁ q₁
  refine q₁ _ _ (R.after B₁ S₁) ?_
  intro v₂ p₂ H₂ h₂ t₂ B₂ S₂ V₂ q₂
  exact q₂ _ _ _ _ (V₁.after B₁ S₂) V₂ B₂ ((P.after S₁).after S₂)
theorem ET.unop {a : Expr} {op : UnaryOp} {pos : Pos} (h : ET g A env l H a fun u H₁ => UnT g A H₁ op u Q) : ET g A env l H (.UnaryOp op a pos) Q := by
  intro s Q' R P
  refine wpAny_UnaryOp (h s _ R ?_)
  intro v₁ p₁ H₁ h₁ t₁ B₁ S₁ V₁ q₁
  exact q₁ _ _ _ V₁ B₁ (P.after S₁)
theorem ET.cmp {a b : Expr} {op : CmpOp} {pos : Pos} (hm : behindInMarks op b = false) (h : ET g A env l H a fun u H₁ => ET g A env l H₁ b fun v H₂ => CmpT g A H₂ op u v Q) : ET g A env l H (.Compare a [op] [b] pos) Q := by
  intro s Q' R P
  refine wpAny_Compare1 (h s _ R ?_) hm
  intro v₁ p₁ H₁ h₁ t₁ B₁ S₁ V₁ q₁
  refine q₁ _ _ (R.after B₁ S₁) ?_
  intro v₂ p₂ H₂ h₂ t₂ B₂ S₂ V₂ q₂
  exact q₂ _ _ _ _ (V₁.after B₁ S₂) V₂ B₂ ((P.after S₁).after S₂)
theorem BT.cmp {a b : Expr} {op : CmpOp} {pos : Pos} {Q : Bool → PH → Prop} (hm : behindInMarks op b = false) (h : ET g A env l H a fun u H₁ => ET g A env l H₁ b fun v H₂ => CmpT g A H₂ op u v fun c H₃ => TrT g A H₃ c Q) : BT g A env l H (.Compare a [op] [b] pos) Q := by
  intro s Q' R P
  refine wpAny_isTrue_Compare1 (h s _ R ?_) hm
  intro v₁ p₁ H₁ h₁ t₁ B₁ S₁ V₁ q₁
  refine q₁ _ _ (R.after B₁ S₁) ?_
  intro v₂ p₂ H₂ h₂ t₂ B₂ S₂ V₂ q₂
  refine q₂ _ _ _ _ (V₁.after B₁ S₂) V₂ B₂ ?_
  intro v₃ p₃ H₃ h₃ t₃ B₃ S₃ V₃ q₃
  exact q₃ _ _ _ V₃ B₃ (((P.after S₁).after S₂).after S₃)
theorem BT.val {e : Expr} {Q : Bool → PH → Prop} (hp : ∀ env whole, isTrue e env whole = (do let v ← whole; standAt e.pos; holding [v] (truthy v))) (h : ET g A env l H e fun u H₁ => TrT g A H₁ u Q) : BT g A env l H e Q := by
  intro s Q' R P
  refine wpAny_isTrue_value (h s _ R ?_) (hp _ _)
  intro v₁ p₁ H₁ h₁ t₁ B₁ S₁ V₁ q₁
  exact q₁ _ _ _ V₁ B₁ (P.after S₁)
theorem BT.not {x : Expr} {pos : Pos} {Q : Bool → PH → Prop} (h : BT g A env l H x fun b H₁ => Q (!b) H₁) : BT g A env l H (.UnaryOp .Not x pos) Q :=
  fun s _ R P => wpAny_isTrue_Not (h s _ R fun b H' h' tk B S q => P (!b) H' h' tk B S q)
theorem BT.and {x y : Expr} {pos : Pos} {Q : Bool → PH → Prop} (h : BT g A env l H x fun b H₁ => if b = true then BT g A env l H₁ y Q else Q false H₁) : BT g A env l H (.BoolOp .And [x, y] pos) Q := by
  intro s Q' R P
  refine wpAny_isTrue_BoolOp (wpAny_allTrue_And_cons (h s _ R ?_))
  intro b H₁ h₁ t₁ B₁ S₁ q₁
  cases b with
  | false => exact P false H₁ h₁ t₁ B₁ S₁ q₁
  | true =>
    refine wpAny_allTrue_And_cons (q₁ _ _ (R.after B₁ S₁) ?_)
    intro b H₂ h₂ t₂ B₂ S₂ q₂
    cases b with
    | false => exact P false H₂ h₂ t₂ B₂ (S₁.trans S₂) q₂
    | true => exact wpAny_allTrue_And_nil (P true H₂ h₂ t₂ B₂ (S₁.trans S₂) q₂)
theorem BT.or {x y : Expr} {pos : Pos} {Q : Bool → PH → Prop} (h : BT g A env l H x fun b H₁ => if b = true then Q true H₁ else BT g A env l H₁ y Q) : BT g A env l H (.BoolOp .Or [x, y] pos) Q := by
  intro s Q' R P
  refine wpAny_isTrue_BoolOp (wpAny_allTrue_Or_cons (h s _ R ?_))
  intro b H₁ h₁ t₁ B₁ S₁ q₁
  cases b with
  | true => exact P true H₁ h₁ t₁ B₁ S₁ q₁
  | false =>
    refine wpAny_allTrue_Or_cons (q₁ _ _ (R.after B₁ S₁) ?_)
    intro b H₂ h₂ t₂ B₂ S₂ q₂
    cases b with
    | true => exact P true H₂ h₂ t₂ B₂ (S₁.trans S₂) q₂
    | false => exact wpAny_allTrue_Or_nil (P false H₂ h₂ t₂ B₂ (S₁.trans S₂) q₂)
theorem ET.ite {t a b : Expr} {pos : Pos} (h : BT g A env l H t fun c H₁ => if c = true then ET g A env l H₁ a Q else ET g A env l H₁ b Q) : ET g A env l H (.IfExp t a b pos) Q := by
  intro s Q' R P
  refine wpAny_IfExp (h s _ R ?_)
  intro c H₁ h₁ t₁ B₁ S₁ q₁
  cases c with
  | true => exact q₁ _ _ (R.after B₁ S₁) (P.after S₁)
  | false => exact q₁ _ _ (R.after B₁ S₁) (P.after S₁)

theorem TrT.bool {b : Bool} {Q : Bool → PH → Prop} (h : Q b H) : TrT g A H (.bool b) Q := by
  intro v s Q' V B P; cases V; exact wpAny_truthy_bool (P.now B h)
theorem TrT.int {i : Int} {Q : Bool → PH → Prop} (h : Q (i != 0) H) : TrT g A H (.int i) Q := by
  intro v s Q' V B P; cases V; exact truthy_int (P.now B h)

section
variable {a b : Int}
theorem BinT.add (h : Q (.int (a + b)) H) : BinT g A H .Add (.int a) (.int b) Q := by
  intro v w s Q' V W B P; cases V; cases W; exact add_int (P.here B (.int _ s.toks) h (s.toks + 1))
theorem BinT.sub (h : Q (.int (a - b)) H) : BinT g A H .Sub (.int a) (.int b) Q := by
  intro v w s Q' V W B P; cases V; cases W; exact sub_int (P.here B (.int _ s.toks) h (s.toks + 1))
theorem BinT.mul (hm : IntMulOk a b) (h : Q (.int (a * b)) H) : BinT g A H .Mult (.int a) (.int b) Q := by
  intro v w s Q' V W B P; cases V; cases W; exact mul_int (P.here B (.int _ s.toks) h (s.toks + 1)) hm
theorem BinT.mod (hb : b ≠ 0) (h : Q (.int (a.fmod b)) H) : BinT g A H .Mod (.int a) (.int b) Q := by
  intro v w s Q' V W B P; cases V; cases W; exact mod_int' hb (P.here B (.int _ s.toks) h (s.toks + 1))
theorem BinT.fdiv (hb : b ≠ 0) (hp : Builtin.divisionGoesByPylong a b = false) (h : Q (.int (a.fdiv b)) H) : BinT g A H .FloorDiv (.int a) (.int b) Q := by
  intro v w s Q' V W B P; cases V; cases W; exact floordiv_int hb (P.here B (.int _ s.toks) h (s.toks + 1)) (.inl hp)
theorem CmpT.eqI (h : Q (.bool (a == b)) H) : CmpT g A H .Eq (.int a) (.int b) Q := by
  intro v w s Q' V W B P; cases V; cases W; exact eq_int (P.now B (.bool _) h)
theorem CmpT.neI (h : Q (.bool (a != b)) H) : CmpT g A H .NotEq (.int a) (.int b) Q := by
  intro v w s Q' V W B P; cases V; cases W; exact ne_int (P.now B (.bool _) h)
theorem CmpT.ltI (h : Q (.bool (decide (a < b))) H) : CmpT g A H .Lt (.int a) (.int b) Q := by
  intro v w s Q' V W B P; cases V; cases W; exact lt_int (P.now B (.bool _) h)
theorem CmpT.gtI (h : Q (.bool (decide (b < a))) H) : CmpT g A H .Gt (.int a) (.int b) Q := by
  intro v w s Q' V W B P; cases V; cases W; exact gt_int (P.now B (.bool _) h)
theorem CmpT.geI (h : Q (.bool (decide (b ≤ a))) H) : CmpT g A H .GtE (.int a) (.int b) Q := by
  intro v w s Q' V W B P; cases V; cases W; exact ge_int (P.now B (.bool _) h)
theorem UnT.neg (h : Q (.int (-a)) H) : UnT g A H .USub (.int a) Q := by
  intro v s Q' V B P; cases V; exact neg_int (P.here B (.int _ s.toks) h (s.toks + 1))
end
theorem CmpT.isNone {a : PV} (ha : a ≠ .none) (hk : ∀ v, a ≠ .k v) (h : Q (.bool true) H) : CmpT g A H .IsNot a .none Q := by
  intro v w s Q' V W B P
  cases W
  refine isNot_none ?_
  have e : (v == Value.none) = false := by cases V <;> first | rfl | exact absurd rfl ha | exact absurd rfl (hk _)
  rw [e]
  exact P.now B (.bool _) h
theorem CmpT.isNone' (h : Q (.bool false) H) : CmpT g A H .IsNot .none .none Q := by
  intro v w s Q' V W B P
  cases W; cases V
  exact isNot_none (P.now B (.bool _) h)

theorem ETs.nil {Q : List PV → PH → Prop} (h : Q [] H) : ETs g A env l H [] Q :=
  fun _ s _ R P => wpAny_items_nil (P [] [] H s.heap s.toks R.br (Stp.refl _ _) .nil h)
theorem ETs.cons {e : Expr} {rest : List Expr} {Q : List PV → PH → Prop} (he : ∀ env, starEach (e :: rest) env = (false, eval e env) :: starEach rest env) (h : ET g A env l H e fun v H₁ => ETs g A env l H₁ rest fun vs H₂ => Q (v :: vs) H₂) : ETs g A env l H (e :: rest) Q := by
  intro pos s Q' R P
  refine wpAny_items_cons (h s _ R ?_) (he _)
  intro v₁ p₁ H₁ h₁ t₁ B₁ S₁ V₁ q₁
  refine q₁ _ _ _ (R.after B₁ S₁) ?_
  intro v₂ p₂ H₂ h₂ t₂ B₂ S₂ V₂ q₂
  exact P _ _ H₂ h₂ t₂ B₂ (S₁.trans S₂) (.cons (V₁.after B₁ S₂) V₂) q₂
end
end Mine
end
section
open PySem PySem.W PyProof.Rows PySem.Calls PySem.Spec
set_option maxRecDepth 100000

namespace Mine

noncomputable def upd (l : PL) (x : Str) (v : PV) : PL := fun y => if y = x then some v else l y
noncomputable def hup (H : PH) (a : Addr) (o : PO) : PH := fun b => if b = a then some o else H b
theorem upd_at (l : PL) (x : Str) (v : PV) : upd l x v x = some v := if_pos rfl
theorem upd_ne {l : PL} {x y : Str} {v : PV} (h : y ≠ x) : upd l x v y = l y := if_neg h
theorem hup_at (H : PH) (a : Addr) (o : PO) : hup H a o a = some o := if_pos rfl
theorem hup_ne {H : PH} {a b : Addr} {o : PO} (h : b ≠ a) : hup H a o b = H b := if_neg h

section heap
variable {g : Gd} {own : Addr → Prop} {H H' : PH} {h h' : Heap}

theorem KV.step {K : Type} (B : BR g H h) (S : Kp own H h H' h') (W : OwnOk own h) : ∀ {l : List (K × Value)} {r : List (K × PV)}, KV H h l r → KV H' h' l r
  | [], [], _ => trivial
  | (_, _) :: _, (_, _) :: _, x => ⟨⟨x.1.1, x.1.2.step B S W⟩, KV.step B S W x.2⟩
  | [], _ :: _, x => x.elim
  | _ :: _, [], x => x.elim
theorem OR.step (B : BR g H h) (S : Kp own H h H' h') (W : OwnOk own h) {a : Addr} (e : ∀ o, h.get? a = some o → h'.get? a = some o) : ∀ {po : PO}, OR g H h a po → OR g H' h' a po
  | .idle, ⟨o, eo, r⟩ => ⟨o, e o eo, r⟩
  | .list _, ⟨vs, n, o, V⟩ => ⟨vs, n, e _ o, V.step B S W⟩
  | .idict _ _, ⟨kvs, D, V⟩ => ⟨kvs, D.at' e, V.step B S W⟩
  | .sdict _ _, ⟨kvs, D, V⟩ => ⟨kvs, D.at' e, V.step B S W⟩
theorem OR.obj {a : Addr} : ∀ {po : PO}, OR g H h a po → ∃ o, h.get? a = some o
  | .idle, ⟨_, e, _⟩ => ⟨_, e⟩
  | .list _, ⟨_, _, o, _⟩ => ⟨_, o⟩
  | .idict _ _, ⟨_, ⟨o, _, e, _⟩, _⟩ => ⟨o, e⟩
  | .sdict _ _, ⟨_, ⟨o, _, e, _⟩, _⟩ => ⟨o, e⟩
theorem BR.obj (B : BR g H h) {a : Addr} {po : PO} (e : H a = some po) : ∃ o, h.get? a = some o := OR.obj (B.hr a po e).1
theorem BR.fresh (B : BR g H h) : H h.objs.size = none := by
  cases q : H h.objs.size with
  | none => rfl
  | some po => obtain ⟨o, e⟩ := B.obj q; exact absurd (Heap.lt_size e) (Nat.lt_irrefl _)
theorem BR.gfresh (B : BR g H h) : g.G.get? h.objs.size = none := by
  cases q : g.G.get? h.objs.size with
  | none => rfl
  | some o => exact absurd (Heap.lt_size (B.keep _ o q)) (Nat.lt_irrefl _)
theorem BR.off (B : BR g H h) {a : Addr} (e : h.get? a = none) : H a = none := by
  cases q : H a with
  | none => rfl
  | some po => obtain ⟨o, e'⟩ := B.obj q; rw [e] at e'; cases e'

/-- one address that H does not know has turned -/
theorem Stp.same {b₀ : Addr} {o₁ : Obj} (hs : Heap.SameBut b₀ h h') (e₁ : h'.get? b₀ = some o₁) (hb : own b₀) : StpO own H h H h' where
  keep := fun b o e _ q => (hs.2 b fun z => q (by rw [show b = b₀ from z]; exact hb)).trans e
  dom := fun _ _ _ e => e
  alive := fun b o e => by
    by_cases z : b = b₀
    · subst z; exact ⟨o₁, e₁⟩
    · exact ⟨o, (hs.2 b z).trans e⟩
  idle := fun _ e => e
theorem Kp.same {b₀ : Addr} (hs : Heap.SameBut b₀ h h') : Kp (fun b => b = b₀) H h H h' := ⟨fun b o e _ q => (hs.2 b q).trans e, fun _ e => e⟩
theorem BR.same {b₀ : Addr} (B : BR g H h) (S : Kp own H h H h') (W : OwnOk own h) (hs : Heap.SameBut b₀ h h') (hb : H b₀ = none) (hg : g.G.get? b₀ = none) : BR g H h' where
  keep := fun b o e => (hs.2 b fun z => by rw [show b = b₀ from z, hg] at e; cases e).trans (B.keep b o e)
  hr := fun a po e => ⟨OR.step B S W (fun o q => (hs.2 a fun z => by rw [show a = b₀ from z, hb] at e; cases e).trans q) (B.hr a po e).1, (B.hr a po e).2⟩

/-- heaps that only grew -/
theorem Stp.grown (k : ∀ b o, h.get? b = some o → h'.get? b = some o) : StpO own H h H h' := ⟨fun b o e _ _ => k b o e, fun _ _ _ e => e, fun b o e => ⟨o, k b o e⟩, fun _ e => e⟩
theorem BR.grown (B : BR g H h) (k : ∀ b o, h.get? b = some o → h'.get? b = some o) : BR g H h' :=
  ⟨fun b o e => k b o (B.keep b o e), fun a po e => ⟨OR.step B (Stp.grown (own := noOwn) k).kp (noOwnOk h) (fun o q => k a o q) (B.hr a po e).1, (B.hr a po e).2⟩⟩
/-- a new object of H's, at a place that was free -/
theorem Stp.born (B : BR g H h) (k : ∀ b o, h.get? b = some o → h'.get? b = some o) {a : Addr} {po : PO} (n : h.get? a = none) : StpO own H h (hup H a po) h' where
  keep := fun b o e _ _ => k b o e
  dom := fun b o e q => by rw [hup_ne (fun z => by rw [show b = a from z, n] at e; cases e)]; exact q
  alive := fun b o e => ⟨o, k b o e⟩
  idle := fun b e => by rw [hup_ne (fun z => by rw [show b = a from z, B.off n] at e; cases e)]; exact e
theorem BR.born (B : BR g H h) (k : ∀ b o, h.get? b = some o → h'.get? b = some o) {a : Addr} {po : PO} (n : h.get? a = none) (hg : g.G.get? a = none ∧ 2 < a) (O : OR g (hup H a po) h' a po) : BR g (hup H a po) h' where
  keep := fun b o e => k b o (B.keep b o e)
  hr := fun b q e => by
    by_cases z : b = a
    · subst z; rw [hup_at] at e; obtain rfl := Option.some.inj e; exact ⟨O, hg⟩
    · rw [hup_ne z] at e
      exact ⟨OR.step B (Stp.born (own := noOwn) (po := po) B k n).kp (noOwnOk h) (fun o q => k b o q) (B.hr b q e).1, (B.hr b q e).2⟩
/-- an object of H's turned -/
theorem Stp.turn {a : Addr} {po po' : PO} {o₁ : Obj} (hs : Heap.SameBut a h h') (e : H a = some po) (e₁ : h'.get? a = some o₁) (n₁ : po ≠ .idle) : StpO own H h (hup H a po') h' where
  keep := fun b o q n _ => (hs.2 b fun z => by rw [show b = a from z, e] at n; cases n).trans q
  dom := fun b o _ n => by rw [hup_ne (fun z => by rw [show b = a from z, e] at n; cases n)]; exact n
  alive := fun b o q => by
    by_cases z : b = a
    · subst z; exact ⟨o₁, e₁⟩
    · exact ⟨o, (hs.2 b z).trans q⟩
  idle := fun b q => by rw [hup_ne (fun z => by rw [show b = a from z, e] at q; exact n₁ (Option.some.inj q))]; exact q
theorem BR.turn (B : BR g H h) {a : Addr} {po po' : PO} {o₁ : Obj} (hs : Heap.SameBut a h h') (e : H a = some po) (e₁ : h'.get? a = some o₁) (n₁ : po ≠ .idle) (O : OR g (hup H a po') h' a po') : BR g (hup H a po') h' where
  keep := fun b o q => (hs.2 b fun z => by
    have := (B.hr a po e).2.1
    rw [← show b = a from z, q] at this; cases this).trans (B.keep b o q)
  hr := fun b q e' => by
    by_cases z : b = a
    · subst z; rw [hup_at] at e'; obtain rfl := Option.some.inj e'; exact ⟨O, (B.hr b po e).2⟩
    · rw [hup_ne z] at e'
      exact ⟨OR.step B (Stp.turn (own := noOwn) (po' := po') hs e e₁ n₁).kp (noOwnOk h) (fun o w => (hs.2 b z).trans w) (B.hr b q e').1, (B.hr b q e').2⟩
end heap

inductive PF where
  | next | brk | cont
  | ret (v : PV)
noncomputable def FR (H : PH) (h : Heap) : Flow → PF → Prop
  | .next, .next => True
  | .brk, .brk => True
  | .cont, .cont => True
  | .ret v, .ret d => VR H h v d
  | _, _ => False

noncomputable def ownOf (env : Env) : Addr → Prop := fun b => b = env.locals ∨ env.func.isSome = true ∧ ∃ x, env.cells.lookup x = some b
theorem ER.ownOk {g : Gd} {env : Env} {l : PL} {H : PH} {h : Heap} (R : ER g env l H h) : OwnOk (ownOf env) h := by
  rintro b o (rfl | ⟨_, x, e⟩) q
  · obtain ⟨m, ⟨o', es, ep, e', d, _⟩, _⟩ := R.ns
    rw [q] at e'; obtain rfl := Option.some.inj e'; exact .inl ⟨es, ep, d⟩
  · obtain ⟨_, w, o', e', d⟩ := R.cells x b e
    rw [q] at e'; obtain rfl := Option.some.inj e'; exact .inr (.inl ⟨w, d⟩)

noncomputable def PostS (g : Gd) (env : Env) (H : PH) (s : Shared) (Q : PF → PL → PH → Prop) (Q' : Flow → Shared → Prop) : Prop :=
  ∀ f pf l' H' h' tk, ER g env l' H' h' → StpO (ownOf env) H s.heap H' h' → FR H' h' f pf → Q pf l' H' → Q' f { s with heap := h', toks := tk }
noncomputable def PostU (g : Gd) (env : Env) (H : PH) (s : Shared) (Q : PL → PH → Prop) (Q' : Unit → Shared → Prop) : Prop :=
  ∀ l' H' h' tk, ER g env l' H' h' → StpO (ownOf env) H s.heap H' h' → Q l' H' → Q' () { s with heap := h', toks := tk }
theorem PostS.after {g : Gd} {env : Env} {H H₁ : PH} {s : Shared} {h₁ : Heap} {tk₁ : Nat} {Q : PF → PL → PH → Prop} {Q' : Flow → Shared → Prop} (P : PostS g env H s Q Q') (S : StpO (ownOf env) H s.heap H₁ h₁) : PostS g env H₁ { s with heap := h₁, toks := tk₁ } Q Q' :=
  fun f pf l' H' h' tk R S' V q => P f pf l' H' h' tk R (S.trans S') V q
theorem PostU.after {g : Gd} {env : Env} {H H₁ : PH} {s : Shared} {h₁ : Heap} {tk₁ : Nat} {Q : PL → PH → Prop} {Q' : Unit → Shared → Prop} (P : PostU g env H s Q Q') (S : StpO (ownOf env) H s.heap H₁ h₁) : PostU g env H₁ { s with heap := h₁, toks := tk₁ } Q Q' :=
  fun l' H' h' tk R S' q => P l' H' h' tk R (S.trans S') q
section
variable (g : Gd) (A : Around) (env : Env) (l : PL) (H : PH)
noncomputable def ST (st : Stmt) (Q : PF → PL → PH → Prop) : Prop := ∀ s Q', ER g env l H s.heap → PostS g env H s Q Q' → wpAny g.m A (exec st env) Q' noE s
noncomputable def SS (sts : List Stmt) (Q : PF → PL → PH → Prop) : Prop := ∀ s Q', ER g env l H s.heap → PostS g env H s Q Q' → wpAny g.m A (execs sts env) Q' noE s
noncomputable def AT (t : Expr) (v : PV) (Q : PL → PH → Prop) : Prop := ∀ u s Q', ER g env l H s.heap → VR H s.heap u v → PostU g env H s Q Q' → wpAny g.m A (assign t env u) Q' noE s
end

section
variable {g : Gd} {A : Around} {env : Env} {l : PL} {H : PH}

theorem ER.swap {h h' : Heap} (R : ER g env l H h) (B : BR g H h') (_S : StpO (ownOf env) H h H h') {m' : Str → Option Value} (hn : h'.Ns env.locals m')
    (hc : ∀ x c, env.cells.lookup x = some c → ∃ w, h'.IsCell c w) {l' : PL}
    (k1 : ∀ x pv, l' x = some pv → env.kindOf x = some .local → ∃ v, VR H h' v pv ∧ m' x = some v)
    (k2 : ∀ x pv, l' x = some pv → env.kindOf x ≠ some .local → (env.kindOf x = some .cell ∨ env.kindOf x = some .free ∧ (x == ("__classdict__" : Str)) = false) ∧ ∃ v c, VR H h' v pv ∧ env.cells.lookup x = some c ∧ h'.IsCell c (some v)) : ER g env l' H h' where
  br := B
  ns := ⟨m', hn, k1⟩
  nc := k2
  hl := R.hl
  gl := R.gl
  cells := fun x c e => ⟨(R.cells x c e).1, hc x c e⟩
  inj := R.inj
  has := R.has

theorem store {x : Str} {v : Value} {pv : PV} {s : Shared} {Q' : Unit → Shared → Prop} (O : EnvOk env) (R : ER g env l H s.heap) (V : VR H s.heap v pv)
    (hk : env.kindOf x = some .local ∨ env.kindOf x = some .cell ∧ env.func.isSome = true)
    (P : PostU g env H s (fun l' H' => l' = upd l x pv ∧ H' = H) Q') : wpAny g.m A (storeName env x v) Q' noE s := by
  have W := R.ownOk
  rcases hk with hk | ⟨hk, hc⟩
  · obtain ⟨m, hn, q⟩ := R.ns
    refine wpAny_storeName_local hk hn (fun h' hn' hs => ?_) (by rw [O.kind]; rfl)
    obtain ⟨o₁, e₁⟩ := Ns.obj hn'
    have S : StpO (ownOf env) H s.heap H h' := Stp.same hs e₁ (.inl rfl)
    have B := R.br.same S.kp W hs R.hl R.gl
    have cne : ∀ y c, env.cells.lookup y = some c → ∀ w, s.heap.IsCell c w → h'.IsCell c w := fun y c e w ⟨oc, eo, hd⟩ => by
      refine ⟨oc, (hs.2 c fun z => ?_).trans eo, hd⟩
      obtain ⟨o', es, ep, e', d', _⟩ := hn
      rw [← show c = env.locals from z, eo] at e'; obtain rfl := Option.some.inj e'; rw [hd] at d'; cases d'
    refine P _ _ h' _ (R.swap B S hn' (fun y c e => ?_) (fun y p e kd => ?_) (fun y p e kd => ?_)) S ⟨rfl, rfl⟩
    · obtain ⟨_, w, hw⟩ := R.cells y c e; exact ⟨w, cne y c e w hw⟩
    · by_cases z : y = x
      · subst z; rw [upd_at] at e; obtain rfl := Option.some.inj e; exact ⟨v, V.step R.br S.kp W, if_pos rfl⟩
      · rw [upd_ne z] at e; obtain ⟨u, U, hu⟩ := q y p e kd; exact ⟨u, U.step R.br S.kp W, (if_neg z).trans hu⟩
    · have z : y ≠ x := fun z => kd (z ▸ hk)
      rw [upd_ne z] at e
      obtain ⟨a, u, c, U, hcl, hcell⟩ := R.nc y p e kd
      exact ⟨a, u, c, U.step R.br S.kp W, hcl, cne y c hcl _ hcell⟩
  · have hf := hc
    obtain ⟨c, hc⟩ := Option.isSome_iff_exists.mp (R.has x hk)
    obtain ⟨hgc, w, hw⟩ := R.cells x c hc
    obtain ⟨oc, eoc, hdc⟩ := id hw
    refine wpAny_storeName_cell O.kind hk hc hw (fun h' hn' hs => ?_)
    obtain ⟨o₁, e₁, hd₁⟩ := id hn'
    have S : StpO (ownOf env) H s.heap H h' := Stp.same hs e₁ (.inr ⟨hf, x, hc⟩)
    have B := R.br.same S.kp W hs (R.br.fixed eoc (.inr (.inr (.inl ⟨_, hdc⟩)))) hgc
    obtain ⟨m, hn, q⟩ := R.ns
    have lne : env.locals ≠ c := fun z => by
      obtain ⟨o', es, ep, e', d', _⟩ := hn
      rw [z, eoc] at e'; obtain rfl := Option.some.inj e'; rw [hdc] at d'; cases d'
    refine P _ _ h' _ (R.swap B S (hn.sameBut hs lne) (fun y d e => ?_) (fun y p e kd => ?_) (fun y p e kd => ?_)) S ⟨rfl, rfl⟩
    · by_cases z : d = c
      · exact ⟨_, z ▸ hn'⟩
      · obtain ⟨_, w, od, eo, hd⟩ := R.cells y d e; exact ⟨w, od, (hs.2 d z).trans eo, hd⟩
    · have z : y ≠ x := fun z => by rw [z, hk] at kd; cases kd
      rw [upd_ne z] at e; obtain ⟨u, U, hu⟩ := q y p e kd; exact ⟨u, U.step R.br S.kp W, hu⟩
    · by_cases z : y = x
      · subst z; rw [upd_at] at e; obtain rfl := Option.some.inj e
        exact ⟨.inl hk, v, c, V.step R.br S.kp W, hc, hn'⟩
      · rw [upd_ne z] at e
        obtain ⟨a, u, d, U, hcl, od, eo, hd⟩ := R.nc y p e kd
        exact ⟨a, u, d, U.step R.br S.kp W, hcl, od, (hs.2 d fun q => z (R.inj y x d hcl (by rw [show d = c from q]; exact hc))).trans eo, hd⟩

noncomputable def StoreK (env : Env) (x : Str) : Prop := env.kindOf x = some .local ∨ env.kindOf x = some .cell ∧ env.func.isSome = true
theorem AT.name {x : Str} {pos : Pos} {v : PV} {Q : PL → PH → Prop} (O : EnvOk env) (hk : StoreK env x) (h : Q (upd l x v) H) : AT g A env l H (.Name x pos) v Q := by
  intro u s Q' R V P
  refine wpAny_assign_Name (store O R V hk fun l' H' h' tk R' S ⟨e1, e2⟩ => ?_)
  subst e1 e2; exact P _ _ h' tk R' S h

theorem SS.nil {Q : PF → PL → PH → Prop} (h : Q .next l H) : SS g A env l H [] Q :=
  fun s _ R P => wpAny_execs_nil (P .next .next l H s.heap s.toks R (Stp.refl _ _) trivial h)
theorem SS.cons {st : Stmt} {rest : List Stmt} {Q : PF → PL → PH → Prop} (h : ST g A env l H st fun f l₁ H₁ => match f with | .next => SS g A env l₁ H₁ rest Q | f => Q f l₁ H₁) : SS g A env l H (st :: rest) Q := by
  intro s Q' R P
  refine wpAny_execs_cons (h s _ R ?_)
  intro f pf l₁ H₁ h₁ t₁ R₁ S₁ V₁ q₁
  cases f <;> cases pf <;> first | exact V₁.elim | exact q₁ _ _ R₁ (P.after S₁) | exact P _ _ l₁ H₁ h₁ t₁ R₁ S₁ V₁ q₁
theorem SS.mono {sts : List Stmt} {Q Q₁ : PF → PL → PH → Prop} (h : SS g A env l H sts Q₁) (k : ∀ f l' H', Q₁ f l' H' → Q f l' H') : SS g A env l H sts Q :=
  fun s Q' R P => h s Q' R fun f pf l' H' h' tk R' S V q => P f pf l' H' h' tk R' S V (k _ _ _ q)

/-- from an expression to a statement -/
theorem Stp.own {H' : PH} {h h' : Heap} (S : Stp H h H' h') : StpO (ownOf env) H h H' h' := S.to

theorem ST.ret {e : Expr} {pos : Pos} {Q : PF → PL → PH → Prop} (h : ET g A env l H e fun v H₁ => Q (.ret v) l H₁) : ST g A env l H (.Return (some e) pos) Q := by
  intro s Q' R P
  refine wpAny_Return_some (h s _ R ?_)
  intro v pv H₁ h₁ t₁ B₁ S₁ V₁ q₁
  exact P (.ret v) (.ret pv) l H₁ h₁ t₁ (R.after B₁ S₁) S₁.own V₁ q₁
theorem ST.expr {e : Expr} {pos : Pos} {Q : PF → PL → PH → Prop} (O : EnvOk env) (hs : ∀ env, swapsWith e Option.none pos.line env = pure false) (h : ET g A env l H e fun v H₁ => v = .none ∧ Q .next l H₁) : ST g A env l H (.Expr e pos) Q := by
  intro s Q' R P
  refine wpAny_Expr (h s _ R ?_) (by simp [interactive, O.kind]) (hs _)
  intro v pv H₁ h₁ t₁ B₁ S₁ V₁ ⟨e₁, q₁⟩
  subst e₁
  cases V₁
  exact P .next .next l H₁ h₁ t₁ (R.after B₁ S₁) S₁.own trivial q₁
theorem ST.ite {t : Expr} {a b : List Stmt} {pos : Pos} {Q : PF → PL → PH → Prop} (h : BT g A env l H t fun c H₁ => if c = true then SS g A env l H₁ a Q else SS g A env l H₁ b Q) : ST g A env l H (.If t a b pos) Q := by
  intro s Q' R P
  refine wpAny_If (h s _ R ?_)
  intro c H₁ h₁ t₁ B₁ S₁ q₁
  cases c with
  | true => exact q₁ _ _ (R.after B₁ S₁) (P.after S₁.own)
  | false => exact q₁ _ _ (R.after B₁ S₁) (P.after S₁.own)
/-- an assignment to a name of what is no comprehension -/
theorem ST.assign {x : Str} {xp pos : Pos} {e : Expr} {Q : PF → PL → PH → Prop} (O : EnvOk env) (hk : StoreK env x)
    (hs : swapsWith e (some (.Name x xp)) pos.line env = pure false) (h : ET g A env l H e fun v H₁ => Q .next (upd l x v) H₁) : ST g A env l H (.Assign [.Name x xp] e pos) Q := by
  intro s Q' R P
  refine wpAny_Assign_Name (h s _ R ?_) hs
  intro v pv H₁ h₁ t₁ B₁ S₁ V₁ q₁
  refine store O (R.after B₁ S₁) V₁ hk fun l' H' h' tk R' S ⟨e1, e2⟩ => ?_
  subst e1 e2
  exact P .next .next _ _ h' tk R' (S₁.own.trans S) trivial q₁
theorem ST.aug {x : Str} {xp pos : Pos} {op : Operator} {e : Expr} {v₀ : PV} {Q : PF → PL → PH → Prop} (O : EnvOk env) (hk : StoreK env x)
    (hv : l x = some v₀) (h : ET g A env l H e fun v H₁ => InpT g A H₁ op v₀ v fun r H₂ => Q .next (upd l x r) H₂) : ST g A env l H (.AugAssign (.Name x xp) op e pos) Q := by
  intro s Q' R P
  refine wpAny_AugAssign_Name ?_
  have go : ∀ u, VR H s.heap u v₀ → wpAny g.m A (eval e env) (fun v s₂ => wpAny g.m A (inplaceOp op u v) (fun r s₃ => wpAny g.m A (storeName env x r) (fun _ => Q' Flow.next) noE s₃) noE s₂) noE s := by
    intro u U
    refine h s _ R ?_
    intro v pv H₁ h₁ t₁ B₁ S₁ V₁ q₁
    refine q₁ u v _ _ (U.after R.br S₁) V₁ B₁ ?_
    intro r pr H₂ h₂ t₂ B₂ S₂ V₂ q₂
    refine store O ((R.after B₁ S₁).after B₂ S₂) V₂ hk fun l' H' h' tk R' S ⟨e1, e2⟩ => ?_
    subst e1 e2
    exact P .next .next _ _ h' tk R' ((Stp.own (S₁.trans S₂)).trans S) trivial q₂
  rcases hk with k | ⟨k, _⟩
  · obtain ⟨m, hn, q⟩ := R.ns
    obtain ⟨u, U, hm⟩ := q x v₀ hv k
    exact wpAny_loadName_local O.kind k hn hm (go u U)
  · obtain ⟨_, u, c, U, hc, hcell⟩ := R.nc x v₀ hv (by rw [k]; decide)
    exact wpAny_loadName_cell O.kind k hc hcell (go u U)

theorem noted_noE {M : Model} {R : Value → Shared → Prop} : ∀ (e : Value) (s : Shared), noE e s → notedBy M A env R e s := fun _ _ z => z.elim

/-- a while, by a word that holds at each test, with a number that falls -/
theorem ST.while {t : Expr} {body orelse : List Stmt} {pos : Pos} {Q : PF → PL → PH → Prop} (I : Nat → PL → PH → Prop)
    (turn : ∀ n l H, I n l H → BT g A env l H t fun c H₁ => if c = true then SS g A env l H₁ body (fun f l₂ H₂ => match f with | .next | .cont => ∃ m, m < n ∧ I m l₂ H₂ | .brk => Q .next l₂ H₂ | .ret v => Q (.ret v) l₂ H₂) else SS g A env l H₁ orelse Q)
    (n : Nat) (h : I n l H) : ST g A env l H (.While t body orelse pos) Q := by
  intro s Q' R P
  refine wpAny_While (codeAny_whileLoop (fun n s' => ∃ l' H' h' tk, s' = { s with heap := h', toks := tk } ∧ ER g env l' H' h' ∧ StpO (ownOf env) H s.heap H' h' ∧ I n l' H') ?_ n ⟨l, H, s.heap, s.toks, rfl, R, Stp.refl _ _, h⟩)
  rintro n s' ⟨l', H', h', tk, rfl, R', S', hI⟩
  refine wpAny_mono (turn n l' H' hI _ _ R' ?_) (fun _ _ x => x) noted_noE
  intro c H₁ h₁ t₁ B₁ S₁ q₁
  have S₂ := S'.trans S₁.own
  cases c with
  | true =>
    simp only [if_true] at q₁ ⊢
    refine wpAny_mono (q₁ _ _ (R'.after B₁ S₁) ?_) (fun _ _ x => x) noted_noE
    intro f pf l₂ H₂ h₂ t₂ R₂ S₃ V₂ q₂
    cases f <;> cases pf <;> first | exact V₂.elim | skip
    · obtain ⟨m, hm, hI⟩ := q₂; exact ⟨m, hm, _, _, h₂, t₂, rfl, R₂, S₂.trans S₃, hI⟩
    · exact P .next .next _ _ h₂ t₂ R₂ (S₂.trans S₃) trivial q₂
    · obtain ⟨m, hm, hI⟩ := q₂; exact ⟨m, hm, _, _, h₂, t₂, rfl, R₂, S₂.trans S₃, hI⟩
    · exact P (.ret _) (.ret _) _ _ h₂ t₂ R₂ (S₂.trans S₃) V₂ q₂
  | false =>
    simp only [Bool.false_eq_true, if_false] at q₁ ⊢
    refine wpAny_mono (q₁ _ _ (R'.after B₁ S₁) ?_) (fun _ _ x => x) noted_noE
    intro f pf l₂ H₂ h₂ t₂ R₂ S₃ V₂ q₂
    exact P f pf _ _ h₂ t₂ R₂ (S₂.trans S₃) V₂ q₂
end
end Mine
end
section
open PySem PySem.W PyProof.Rows PySem.Calls PySem.Spec
namespace Mine
/-- a continuation behind a variable: the terms stay small -/
noncomputable def GK (Q K : PF → PL → PH → Prop) : Prop := ∀ f l H, Q f l H → K f l H
theorem GK.use {Q K : PF → PL → PH → Prop} (h : GK Q K) {f : PF} {l : PL} {H : PH} (q : Q f l H) : K f l H := h _ _ _ q
theorem ST.gen {g : Gd} {A : Around} {env : Env} {l : PL} {H : PH} {st : Stmt} {Q : PF → PL → PH → Prop} (h : ∀ K, GK Q K → ST g A env l H st K) : ST g A env l H st Q := h Q fun _ _ _ q => q
theorem len0 {α : Type} {vs : List α} (h : vs.length = 0) : vs = [] := List.eq_nil_of_length_eq_zero h
theorem len1 {α : Type} {vs : List α} (h : vs.length = 1) : ∃ x0, vs = [x0] := by
  cases vs with
  | nil => cases h
  | cons x r => exact ⟨x, congrArg (x :: ·) (len0 (Nat.succ.inj h))⟩
theorem len2 {α : Type} {vs : List α} (h : vs.length = 2) : ∃ x0 x1, vs = [x0, x1] := by
  cases vs with
  | nil => cases h
  | cons x r => obtain ⟨y0, e⟩ := len1 (Nat.succ.inj h); exact ⟨x, y0, congrArg (x :: ·) e⟩
theorem len3 {α : Type} {vs : List α} (h : vs.length = 3) : ∃ x0 x1 x2, vs = [x0, x1, x2] := by
  cases vs with
  | nil => cases h
  | cons x r => obtain ⟨y0, y1, e⟩ := len2 (Nat.succ.inj h); exact ⟨x, y0, y1, congrArg (x :: ·) e⟩
theorem len4 {α : Type} {vs : List α} (h : vs.length = 4) : ∃ x0 x1 x2 x3, vs = [x0, x1, x2, x3] := by
  cases vs with
  | nil => cases h
  | cons x r => obtain ⟨y0, y1, y2, e⟩ := len3 (Nat.succ.inj h); exact ⟨x, y0, y1, y2, congrArg (x :: ·) e⟩
theorem len5 {α : Type} {vs : List α} (h : vs.length = 5) : ∃ x0 x1 x2 x3 x4, vs = [x0, x1, x2, x3, x4] := by
  cases vs with
  | nil => cases h
  | cons x r => obtain ⟨y0, y1, y2, y3, e⟩ := len4 (Nat.succ.inj h); exact ⟨x, y0, y1, y2, y3, congrArg (x :: ·) e⟩
theorem len6 {α : Type} {vs : List α} (h : vs.length = 6) : ∃ x0 x1 x2 x3 x4 x5, vs = [x0, x1, x2, x3, x4, x5] := by
  cases vs with
  | nil => cases h
  | cons x r => obtain ⟨y0, y1, y2, y3, y4, e⟩ := len5 (Nat.succ.inj h); exact ⟨x, y0, y1, y2, y3, y4, congrArg (x :: ·) e⟩
theorem VRs.inv {H : PH} {h : Heap} {vs : List Value} {d : PV} {ds : List PV} (V : VRs H h vs (d :: ds)) : ∃ v r, vs = v :: r ∧ VR H h v d ∧ VRs H h r ds := by
  cases V with
  | cons a b => exact ⟨_, _, rfl, a, b⟩
end Mine
end
section
open PySem PySem.W PyProof.Rows PySem.Calls PySem.Spec
set_option maxRecDepth 100000

namespace Mine

/-! calls of the text's own defs -/
theorem bindL_not {kindOf : Str → Option NameKind} {x : Str} : ∀ (ns : List Str) (vs : List Value) (m : Str → Option Value), x ∉ ns → bindL kindOf (ns.zip vs) m x = m x
  | [], _, _, _ => by simp [bindL]
  | _ :: _, [], _, _ => by simp [bindL]
  | n :: ns, v :: vs, m, h => by
    rw [List.zip_cons_cons, bindL, bindL_not ns vs _ fun z => h (.tail _ z)]
    split
    · exact if_neg fun (z : x = n) => h (by rw [z]; exact List.mem_cons_self)
    · rfl
theorem bindC_not {kindOf : Str → Option NameKind} {x : Str} : ∀ (ns : List Str) (vs : List Value) (m : Str → Option Value), x ∉ ns → bindC kindOf (ns.zip vs) m x = m x
  | [], _, _, _ => by simp [bindC]
  | _ :: _, [], _, _ => by simp [bindC]
  | n :: ns, v :: vs, m, h => by
    rw [List.zip_cons_cons, bindC, bindC_not ns vs _ fun z => h (.tail _ z)]
    split
    · rfl
    · exact if_neg fun (z : x = n) => h (by rw [z]; exact List.mem_cons_self)
theorem lookup_mem {β : Type} {x : Str} {v : β} : ∀ (l : List (Str × β)), l.lookup x = some v → (x, v) ∈ l
  | [], q => by cases q
  | (a, b) :: r, q => by
    rw [List.lookup_cons] at q
    by_cases z : x = a
    · subst z; rw [show (x == x) = true from beq_iff_eq.mpr rfl] at q; obtain rfl := Option.some.inj q; exact List.mem_cons_self
    · rw [show (x == a) = false from beq_eq_false_iff_ne.mpr z] at q; exact List.mem_cons_of_mem _ (lookup_mem r q)
theorem bindL_get {kindOf : Str → Option NameKind} {x : Str} (hx : kindOf x = some .local) : ∀ (ns : List Str) (vs : List Value) (m : Str → Option Value) (v : Value), ns.Nodup → (ns.zip vs).lookup x = some v → bindL kindOf (ns.zip vs) m x = some v
  | [], _, _, _, _, h => by simp at h
  | _ :: _, [], _, _, _, h => by simp at h
  | n :: ns, u :: vs, m, v, hn, h => by
    rw [List.zip_cons_cons, List.lookup_cons] at h
    rw [List.zip_cons_cons, bindL]
    by_cases z : x = n
    · subst z
      rw [show (x == x) = true from beq_iff_eq.mpr rfl] at h
      obtain rfl := Option.some.inj h
      rw [if_pos hx, bindL_not ns vs _ (List.nodup_cons.mp hn).1]
      exact if_pos rfl
    · rw [show (x == n) = false from beq_eq_false_iff_ne.mpr z] at h
      exact bindL_get hx ns vs _ v (List.nodup_cons.mp hn).2 h
theorem bindC_get {kindOf : Str → Option NameKind} {x : Str} (hx : kindOf x ≠ some .local) : ∀ (ns : List Str) (vs : List Value) (m : Str → Option Value) (v : Value), ns.Nodup → (ns.zip vs).lookup x = some v → bindC kindOf (ns.zip vs) m x = some v
  | [], _, _, _, _, h => by simp at h
  | _ :: _, [], _, _, _, h => by simp at h
  | n :: ns, u :: vs, m, v, hn, h => by
    rw [List.zip_cons_cons, List.lookup_cons] at h
    rw [List.zip_cons_cons, bindC]
    by_cases z : x = n
    · subst z
      rw [show (x == x) = true from beq_iff_eq.mpr rfl] at h
      obtain rfl := Option.some.inj h
      rw [if_neg hx, bindC_not ns vs _ (List.nodup_cons.mp hn).1]
      exact if_pos rfl
    · rw [show (x == n) = false from beq_eq_false_iff_ne.mpr z] at h
      exact bindC_get hx ns vs _ v (List.nodup_cons.mp hn).2 h
theorem VRs.lookup {H : PH} {h : Heap} {x : Str} : ∀ {ns : List Str} {vs : List Value} {ds : List PV} {d : PV}, VRs H h vs ds → (ns.zip ds).lookup x = some d → ∃ v, (ns.zip vs).lookup x = some v ∧ VR H h v d
  | [], _, _, _, _, e => by simp at e
  | _ :: _, _, _, _, .nil, e => by simp at e
  | n :: ns, _, _, d, .cons (v := v) V r, e => by
    rw [List.zip_cons_cons, List.lookup_cons] at e
    rw [List.zip_cons_cons, List.lookup_cons]
    by_cases z : (x == n) = true
    · rw [z] at e ⊢; obtain rfl := Option.some.inj e; exact ⟨v, rfl, V⟩
    · rw [Bool.not_eq_true] at z; rw [z] at e ⊢; exact VRs.lookup r e
theorem VRs.length {H : PH} {h : Heap} : ∀ {vs : List Value} {ds : List PV}, VRs H h vs ds → vs.length = ds.length
  | _, _, .nil => rfl
  | _, _, .cons _ r => congrArg (· + 1) r.length

/-- room on the stacks -/
structure Room (A : Around) (n : Nat) : Prop where
  hh : A.handled = none
  d : A.depth + n ≤ 990
  u : A.units + 4 * n ≤ 9000
theorem Room.le {A : Around} {n k : Nat} (R : Room A n) (h : k ≤ n) : Room A k := ⟨R.hh, by have := R.d; omega, by have := R.u; omega⟩
theorem Room.deeper {A : Around} {n : Nat} {e : Env} (R : Room A (n + 1)) : Room (A.deeper e) n :=
  ⟨R.hh, by have := R.d; show A.depth + 1 + n ≤ 990; omega, by have := R.u; show A.units + 3 + 4 * n ≤ 9000; omega⟩
theorem Room.in1 {A : Around} {n : Nat} (R : Room A (n + 1)) : Room A.in1 n :=
  ⟨R.hh, by have := R.d; show A.depth + n ≤ 990; omega, by have := R.u; show A.units + 1 + 4 * n ≤ 9000; omega⟩

noncomputable def parms (ns : List Str) (ds : List PV) : PL := fun x => (ns.zip ds).lookup x

section
variable {g : Gd} {A : Around} {env : Env} {l : PL} {H : PH} {Q : PV → PH → Prop}

theorem CT.fn {f : Addr} {fo : Obj} {fd : FuncData} {body : List Stmt} {ns : List Str} {args : List PV} {n : Nat} (hG : g.Ok) (hR : Room A (n + 1))
    (ho : g.K.lookup f = some fo) (hfd : fo.data = .func fd) (hb : fd.body = .stmts body) (hcode : codeIn g.K fd.code fd.qualname = true)
    (hco : fd.scope.isCoroutine = false) (hgen : fd.scope.isGenerator = false) (hk : fd.scope.kind = .function) (hcl : fd.closure = []) (hgl : fd.globals = mainGlobals) (hbi : fd.builtins = builtinsNs)
    (hbind : ∀ s vs, vs.length = ns.length → BindsTo s fd ⟨vs, []⟩ (ns.zip vs)) (hnd : ns.Nodup)
    (hns : (ns.all fun x => fd.scope.names.lookup x == some .local || fd.scope.names.lookup x == some .cell) = true) (hlen : args.length = ns.length)
    (h : ∀ (e : Env) (A' : Around), EnvOk { e with scope := fd.scope } → e.func.isSome = true → Room A' n → SS g A' { e with scope := fd.scope } (parms ns args) H body fun fl _ H' => match fl with | .ret v => Q v H' | .next => Q .none H' | _ => False) : CT g A H (.ref f) args Q := by
  intro vs s Q' V B P
  have X : g.K.In s.heap := hG.kin.keeps B.keep
  have lim : s.heap.NoLimit := hG.top.nolimit.keeps B.keep
  refine wpAny_call (codeAny_call_function (by have := hR.d; show A.depth < 1000; omega) (X _ _ ho) hfd hco hgen hb (codeRec_of X hcode) ?_)
  have hz : vs.length = ns.length := V.length.trans hlen
  refine hbind s vs hz _ _ _ _ ?_
  have hnames : ∀ x ∈ ns.zip vs, fd.scope.names.lookup x.1 = some .local ∨ fd.scope.names.lookup x.1 = some .cell := fun x hx => by
    have z := List.all_eq_true.mp hns x.1 (List.of_mem_zip hx).1
    simpa using z
  rw [hcl]
  refine wpAny_newFunctionEnv_cells hk (fun x hx => (hnames x hx).imp id fun q => ⟨q, cellsFrom_some _ _ _ (.inl q)⟩) fun env he s' I => ?_
  obtain ⟨h₁, tk, rfl, _⟩ := I.done
  have keep := I.toInCall.keep
  refine ⟨lim.keeps keep, codeAny_func ?_⟩
  subst he
  have Lsize : s.heap.objs.size ≤ s.heap.objs.size := Nat.le_refl _
  generalize hE : newEnv fd.scope s.heap.objs.size fd.globals (cellsFrom (s.heap.objs.size + 1) fd.scope.names []) (fd.qualname ++ ".<locals>.") (some f) fd.code none fd.builtins = env at I ⊢
  have eS : env.scope = fd.scope := by rw [← hE]; rfl
  have eL : env.locals = s.heap.objs.size := by rw [← hE]; rfl
  have eC : env.cells = cellsFrom (s.heap.objs.size + 1) fd.scope.names [] := by rw [← hE]; rfl
  have eG : env.globals = mainGlobals := by rw [← hE]; exact hgl
  have eB : env.builtins = builtinsNs := by rw [← hE]; exact hbi
  have eE : ({ env with scope := fd.scope } : Env) = env := by cases env; cases eS; rfl
  have B₁ : BR g H h₁ := B.grown keep
  have S₁ : Stp H s.heap H h₁ := Stp.grown keep
  have gfresh : ∀ c, s.heap.objs.size ≤ c → g.G.get? c = none := fun c hc => by
    cases q : g.G.get? c with
    | none => rfl
    | some o => exact absurd (Heap.lt_size (B.keep _ o q)) (Nat.not_lt.mpr hc)
  have kd : ∀ x, env.kindOf x = fd.scope.names.lookup x := fun x => by unfold Env.kindOf; rw [eS]
  have R : ER g env (parms ns args) H h₁ := by
    refine ⟨B₁, ⟨_, by rw [eL]; exact (eL ▸ I.toInCall.ns), fun x pv e k => ?_⟩, fun x pv e k => ?_, ?_, ?_, fun x c e => ?_, fun x y c e e' => ?_, fun x e => ?_⟩
    · obtain ⟨v, e', V'⟩ := VRs.lookup V e
      exact ⟨v, V'.after B S₁, bindL_get k ns vs _ v hnd e'⟩
    · obtain ⟨v, e', V'⟩ := VRs.lookup V e
      have hm : (x, v) ∈ ns.zip vs := lookup_mem _ e'
      have hcell : env.kindOf x = some .cell := ((hnames _ hm).resolve_left fun q => k ((kd x).trans q) |>.elim).symm ▸ kd x
      have hs := cellsFrom_some (x := x) fd.scope.names (s.heap.objs.size + 1) [] (.inl ((kd x).symm.trans hcell))
      rw [← eC] at hs
      obtain ⟨c, hc⟩ := Option.isSome_iff_exists.mp hs
      have z := I.cell x c hc
      rw [bindC_get k ns vs _ v hnd e'] at z
      exact ⟨.inl hcell, v, c, V'.after B S₁, hc, z⟩
    · rw [eL]; exact B.fresh
    · rw [eL]; exact B.gfresh
    · have hm : (x, c) ∈ env.cells := lookup_mem _ e
      have := I.above x c hm
      rw [eL] at this
      exact ⟨gfresh c (Nat.le_of_lt this), _, I.cell x c e⟩
    · have key : ∀ (l : List (Str × Addr)), l.Pairwise (fun x y => x.2 ≠ y.2) → l.lookup x = some c → l.lookup y = some c → x = y := fun l => by
        have mem : ∀ (l : List (Str × Addr)) (u : Str), l.lookup u = some c → ∃ p ∈ l, p.2 = c := fun l u q => ⟨_, lookup_mem l q, rfl⟩
        induction l with
        | nil => intro _ q; cases q
        | cons p r ih =>
          obtain ⟨a, b⟩ := p
          intro hp q q'
          rw [List.lookup_cons] at q q'
          obtain ⟨h1, h2⟩ := List.pairwise_cons.mp hp
          by_cases z : x = a
          · by_cases z' : y = a
            · rw [z, z']
            · subst z
              rw [show (x == x) = true from beq_iff_eq.mpr rfl] at q
              rw [show (y == x) = false from beq_eq_false_iff_ne.mpr z'] at q'
              obtain ⟨p, hp, e⟩ := mem r y q'
              exact absurd ((Option.some.inj q).trans e.symm) (h1 p hp)
          · rw [show (x == a) = false from beq_eq_false_iff_ne.mpr z] at q
            by_cases z' : y = a
            · subst z'
              rw [show (y == y) = true from beq_iff_eq.mpr rfl] at q'
              obtain ⟨p, hp, e⟩ := mem r x q
              exact absurd ((Option.some.inj q').trans e.symm) (h1 p hp)
            · rw [show (y == a) = false from beq_eq_false_iff_ne.mpr z'] at q'
              exact ih h2 q q'
      exact key _ I.apart e e'
    · rw [eC]; exact cellsFrom_some _ _ _ (.inl ((kd x).symm.trans e))
  have O : EnvOk env := ⟨by rw [eS]; exact hk, eG, eB⟩
  have eF : env.func.isSome = true := by rw [← hE]; rfl
  have z := h env (A.deeper env) (eE ▸ O) eF hR.deeper
  rw [eE] at z
  refine wpAny_mono (z _ (fun f s' => (match (Except.ok (Flow.ret (match f with | .ret v => v | _ => .none)) : Result) with | .ok (.ret v) => Q' v s' | .ok _ => False | .error _ => False)) R ?_) (fun f s' x => x) (fun _ _ x => x.elim)
  intro f pf l' H' h' tk' R' S' V' q
  have S : Stp H s.heap H' h' := by
    refine ⟨fun b o e hn _ => S'.keep b o (keep b o e) hn fun w => ?_, fun b o e hn => S'.dom b o (keep b o e) hn, fun b o e => S'.alive b o (keep b o e), S'.idle⟩
    have hlt := Heap.lt_size e
    rcases w with w | ⟨_, x, w⟩
    · rw [show b = env.locals from w, eL] at hlt; exact Nat.lt_irrefl _ hlt
    · have hm : ∃ y, (y, b) ∈ env.cells := ⟨_, lookup_mem _ w⟩
      obtain ⟨y, hy⟩ := hm
      have := I.above y b hy
      rw [eL] at this
      exact Nat.lt_asymm hlt this
  cases f <;> cases pf <;> first | exact V'.elim | exact q.elim | exact P _ _ H' h' tk' R'.br S .none q | exact P _ _ H' h' tk' R'.br S V' q

/-! calls in general -/
noncomputable def plainArg : Expr → Bool
  | .Starred .. => false
  | _ => true
theorem starEach_cons {e : Expr} {rest : List Expr} (h : plainArg e = true) (env : Env) : starEach (e :: rest) env = (false, eval e env) :: starEach rest env := by
  cases e <;> first | rfl | cases h
theorem starEach_any (pos : Pos) (env : Env) : ∀ {as : List Expr}, as.all plainArg = true → (backTo pos (starEach as env)).any (·.1) = false
  | [], _ => rfl
  | e :: r, h => by
    obtain ⟨h1, h2⟩ := Bool.and_eq_true_iff.mp h
    rw [starEach_cons h1 env]
    show (false || (backTo pos (starEach r env)).any (·.1)) = false
    rw [starEach_any pos env h2]; rfl
noncomputable def CallK (g : Gd) (u : Value) : Prop := (∃ b, u = .builtin b) ∨ (∃ t, u = .type t) ∨ keepIn g.K u = true
theorem CallK.keeps {g : Gd} {u : Value} (C : CallK g u) (M : Model) (h : Heap) (X : g.K.In h) : ∃ k, (k = Keeper.frame ∨ k = Keeper.machine ∨ k = Keeper.boundFrame) ∧ Looks M h (keeperOf u) k := by
  rcases C with ⟨b, rfl⟩ | ⟨t, rfl⟩ | e
  · exact ⟨.machine, .inr (.inl rfl), Looks.of_pure rfl⟩
  · exact ⟨.machine, .inr (.inl rfl), Looks.of_pure rfl⟩
  · exact keeps_K e h X
theorem callWith_any {pos : Pos} {f : Value} {first : List Value} {as : List Expr} {s : Shared} {Q' : Value → Shared → Prop} {fs : List PV} (hG : g.Ok) (C : CallK g f) (hst : as.all plainArg = true) (R : ER g env l H s.heap) (V : VRs H s.heap first fs)
    (h : ETs g A env l H as fun vs H₂ => CT g A H₂ f (fs ++ vs) Q) (P : Post g H s Q Q') : wpAny g.m A (callWith pos f first (backTo pos (starEach as env)) []) Q' noE s := by
  refine callWith_of (P := g.K.In) (by rw [starEach_any pos env hst]; rfl) (fun h X => C.keeps _ h X) ?_
  have app : ∀ {H : PH} {h : Heap} {a : List Value} {da : List PV} {b : List Value} {db : List PV}, VRs H h a da → VRs H h b db → VRs H h (a ++ b) (da ++ db) := by
    intro H h a da b db x y
    induction a generalizing da with
    | nil => cases x; exact y
    | cons v r ih => cases x with | cons V r => exact .cons V (ih r)
  have key : wpAny g.m A (spliced (backTo pos (starEach as env))) (fun vs s₁ => g.K.In s₁.heap ∧ wpAny g.m A (call f (first ++ vs)) Q' noE s₁) noE s := by
    refine h pos s _ R ?_
    intro vs pvs H₁ h₁ t₁ B₁ S₁ V₁ q₁
    exact ⟨hG.kin.keeps B₁.keep, q₁ _ _ _ (app (V.after R.br S₁) V₁) B₁ (P.after S₁)⟩
  cases as with
  | nil =>
    unfold evalArgs
    show wpAny g.m A (spliced [] >>= _) _ _ s
    refine wpAny_bind (wpAny_mono key (fun vs s' h' => ?_) fun _ _ x => x)
    refine wpAny_holding ?_
    exact wpAny_bind (wpAny_pure (wpAny_bind (wpAny_pure (wpAny_pure h'))))
  | cons e r =>
    obtain ⟨h1, h2⟩ := Bool.and_eq_true_iff.mp hst
    rw [starEach_cons h1 env] at key ⊢
    exact evalArgs_plain key

/-- a call of a name -/
theorem ET.call {n : Str} {np pos : Pos} {as : List Expr} (hG : g.Ok) (hst : as.all plainArg = true)
    (h : ET g A env l H (.Name n np) fun v H₁ => ∃ u, v = .k u ∧ CallK g u ∧ ETs g A env l H₁ as fun vs H₂ => CT g A H₂ u vs Q) : ET g A env l H (.Call (.Name n np) as [] pos) Q := by
  intro s Q' R P
  show wpAny g.m A (do callWith pos (← eval (.Name n np) env) [] (backTo pos (starEach as env)) (backToKw pos (keywordEach [] env))) Q' noE s
  refine wpAny_bind (h s _ R ?_)
  rintro v pv H₁ h₁ t₁ B₁ S₁ V₁ ⟨u, rfl, C, q⟩
  cases V₁
  exact callWith_any (fs := []) hG C hst (R.after B₁ S₁) .nil q (P.after S₁)

/-- a call of a method of a built-in type's object -/
theorem ET.meth {T id : String} {o : Expr} {name : Str} {apos pos : Pos} {as : List Expr} (hG : g.Ok) (hb : attributeBase o name env (eval o env) = eval o env) (hst : as.all plainArg = true) (hn : as.length < 30) (hline : (apos.endLine == pos.line) = true)
    (hp : PlainAttrs T) (hs : Slot T name id) (ht : typeOf (Value.builtin id) = pure (Value.type "method_descriptor"))
    (h : ET g A env l H o fun v H₁ => (∃ a po, v = .ref a ∧ H₁ a = some po ∧ po ≠ .idle ∧ (T = match po with | .list _ => "list" | _ => "dict")) ∧ ETs g A env l H₁ as fun vs H₂ => CT g A H₂ (.builtin id) (v :: vs) Q) : ET g A env l H (.Call (.Attribute o name apos) as [] pos) Q := by
  intro s Q' R P
  refine wpAny_Call_method hb ?_ hline hp hs ht (h s _ R ?_)
  · have e1 : ((backTo pos (starEach as env)).all fun x => !x.1) = true := by
      have := starEach_any pos env hst
      rw [List.any_eq_false] at this
      rw [List.all_eq_true]
      intro x hx
      simpa using this x hx
    rw [e1]
    simp only [keywordEach, backToKw, List.map_nil, List.all_nil, List.length_nil, Nat.add_zero, List.isEmpty_nil, if_true, Bool.true_and, decide_eq_true_eq]
    exact hn
  · rintro v pv H₁ h₁ t₁ B₁ S₁ V₁ ⟨⟨a, po, rfl, ha, hni, hT⟩, q⟩
    cases V₁
    have O := (B₁.hr a po ha).1
    refine ⟨?_, ?_, callWith_any (fs := [.ref a]) hG (.inl ⟨id, rfl⟩) hst (R.after B₁ S₁) (.cons (.ref a) .nil) q (P.after S₁)⟩
    · cases po with
      | idle => obtain ⟨o, e, c, _⟩ := O; subst hT; exact ⟨_, e, c⟩
      | list ds => obtain ⟨vs, n, e, _⟩ := O; subst hT; exact ⟨_, e, rfl⟩
      | idict es ep => obtain ⟨kvs, D, _⟩ := O; subst hT; exact D.dictOf.typeIs
      | sdict es ep => obtain ⟨kvs, D, _⟩ := O; subst hT; exact D.dictOf.typeIs
    · intro b e
      injection e with e
      subst e
      cases po with
      | idle => exact absurd rfl hni
      | list ds => obtain ⟨vs, n, e, _⟩ := O; exact ⟨_, e, rfl⟩
      | idict es ep => obtain ⟨kvs, ⟨o, _, e, hx, _⟩, _⟩ := O; exact ⟨o, e, hx.2.1⟩
      | sdict es ep => obtain ⟨kvs, ⟨o, _, e, hx, _⟩, _⟩ := O; exact ⟨o, e, hx.2.1⟩

theorem VRs.append {H : PH} {h : Heap} {a : List Value} {da : List PV} {b : List Value} {db : List PV} (x : VRs H h a da) (y : VRs H h b db) : VRs H h (a ++ b) (da ++ db) := by
  induction a generalizing da with
  | nil => cases x; exact y
  | cons v r ih => cases x with | cons V r => exact .cons V (ih r)

theorem CT.append {a : Addr} {ds : List PV} {d : PV} (e : H a = some (.list ds)) (hsz : ds.length ≤ sizeLine) (h : Q .none (hup H a (.list (ds ++ [d])))) : CT g A H (.builtin "list.append") [.ref a, d] Q := by
  intro vs s Q' V B P
  cases V with
  | cons V1 V2 => cases V1; cases V2 with
    | cons V2 V3 => cases V3; rename_i u
                    obtain ⟨⟨ws, n, o, W⟩, hg, h2⟩ := B.hr a _ e
                    refine append_at o (fun h' hs ho' => ?_) (by rw [List.size_toArray, W.length]; exact hsz)
                    have S : Stp H s.heap (hup H a (.list (ds ++ [d]))) h' := Stp.turn hs e ho' (by intro z; cases z)
                    refine P _ _ _ h' _ (B.turn hs e ho' (by intro z; cases z) (show OR g _ h' a (.list (ds ++ [d])) from ⟨ws ++ [u], n + 1, by rw [ho']; simp [PySem.W.listOf], ?_⟩)) S .none h
                    exact (W.append (.cons V2 .nil)).after B S

/-- a new list -/
theorem low {s : Shared} (hG : g.Ok) (B : BR g H s.heap) : 2 < s.heap.objs.size := by
  obtain ⟨mc, hn, _⟩ := hG.top.nolimit.keeps B.keep
  exact hn.lt
theorem ET.list {es : List Expr} {pos : Pos} (hG : g.Ok)
    (h : ETs g A env l H es fun vs H₁ => vs.length ≤ sizeLine ∧ ∀ a, H₁ a = Option.none → Q (.ref a) (hup H₁ a (.list vs))) : ET g A env l H (.List es pos) Q := by
  intro s Q' R P
  refine List_ (h pos s _ R ?_)
  rintro vs pvs H₁ h₁ t₁ B₁ S₁ V₁ ⟨hsz, q₁⟩
  refine wpAny_newObj_type ?_ (by show vs.toArray.size ≤ sizeLine; rw [List.size_toArray, V₁.length]; exact hsz)
  have k : ∀ b o, h₁.get? b = some o → (h₁.push { cls := .type "list", data := .seq vs.toArray }).get? b = some o := fun b o e => Heap.get?_push_of_some _ e
  have hn : h₁.get? h₁.objs.size = Option.none := by
    cases q : h₁.get? h₁.objs.size with
    | none => rfl
    | some o => exact absurd (Heap.lt_size q) (Nat.lt_irrefl _)
  exact P _ _ _ _ _ (B₁.born k hn ⟨B₁.gfresh, low (s := { s with heap := h₁, toks := t₁ }) hG B₁⟩ (show OR g _ _ h₁.objs.size (.list pvs) from ⟨vs, 0, Heap.get?_push_size _ rfl, V₁.after B₁ (Stp.born B₁ k hn)⟩)) (S₁.trans (Stp.born B₁ k hn)) (.ref _) (q₁ _ B₁.fresh)
theorem ET.tuple {es : List Expr} {k : Nat} {pos : Pos}
    (h : ETs g A env l H es fun vs H₁ => vs.length ≤ sizeLine ∧ Q (.tuple vs) H₁) : ET g A env l H (.Tuple es k pos) Q := by
  intro s Q' R P
  refine Tuple_ (h pos s _ R ?_)
  rintro vs pvs H₁ h₁ t₁ B₁ S₁ V₁ ⟨hsz, q₁⟩
  refine wpAny_newObj_type ?_ (by show vs.toArray.size ≤ sizeLine; rw [List.size_toArray, V₁.length]; exact hsz)
  have k : ∀ b o, h₁.get? b = some o → (h₁.push { cls := .type "tuple", data := .seq vs.toArray }).get? b = some o := fun b o e => Heap.get?_push_of_some _ e
  exact P _ _ H₁ _ _ (B₁.grown k) (S₁.trans (Stp.grown k)) (.tuple ⟨_, Heap.get?_push_size _ rfl, rfl, 0, rfl⟩ (V₁.after B₁ (Stp.grown k))) q₁

/-! attributes of instances with slots -/
structure SlotAt (K : Frag) (C : Addr) (name : Str) (i : Nat) : Prop where
  get : plainGet K C name = true
  cls : isClsIn K C = true
  at_ : ∃ p, findIn K (.ref C) name = some (some (.ref p)) ∧ specialIn K (.ref p) "__get__" = some (some (.builtin "member_descriptor.__get__")) ∧ takesIn K (.ref p) = some true ∧ slotIn K p C = some i
theorem VRs.get {H : PH} {h : Heap} : ∀ {vs : List Value} {ds : List PV} {i : Nat} {d : PV}, VRs H h vs ds → ds[i]? = some d → ∃ v, vs[i]? = some v ∧ VR H h v d
  | _, _, _, _, .nil, e => by simp at e
  | _, _, 0, _, .cons V _, e => by simp at e; subst e; exact ⟨_, rfl, V⟩
  | _, _, i + 1, _, .cons _ r, e => by simp at e; obtain ⟨v, e', V⟩ := VRs.get r e; exact ⟨v, by simpa using e', V⟩
noncomputable def PV.plain : PV → Bool
  | .k _ => false
  | .flt _ => true
  | _ => true
theorem VR.handed {H : PH} {h : Heap} {v : Value} {d : PV} (V : VR H h v d) (hp : d.plain = true) : handedIn v = true := by cases V <;> first | rfl | cases hp
theorem ET.attr {o : Expr} {name : Str} {pos : Pos} (hG : g.Ok) (hs : ∀ env, eval (.Attribute o name pos) env = (do
      let x ← eval o env
      standAt pos.atName
      let r ← holding [x] (getAttr x name true)
      letTemporaryGo o x r
      pure r))
    (h : ET g A env l H o fun v H₁ => ∃ C vs i d, v = .inst C vs ∧ SlotAt g.K C name i ∧ vs[i]? = some d ∧ d.plain = true ∧ Q d H₁) : ET g A env l H (.Attribute o name pos) Q := by
  intro s Q' R P
  refine Attribute_any_ (h s _ R ?_) (hs env)
  rintro v pv H₁ h₁ t₁ B₁ S₁ V₁ ⟨C, vs, i, d, rfl, ⟨a1, a2, p, a3, a4, a5, a6⟩, e, hp, q⟩
  cases V₁ with
  | @inst _ _ dx _ _ ho hdx W =>
    obtain ⟨od, hd⟩ := B₁.obj hdx
    have I := fun s' : Shared => fun (e : s'.heap = h₁) => (show PySem.W.InstAt s'.heap _ _ C (some od) from ⟨by rw [e]; exact ho, rfl, rfl, by dsimp only; rw [e]; exact hd⟩)
    obtain ⟨u, e', U⟩ := W.get e
    have X : g.K.In h₁ := hG.kin.keeps B₁.keep
    refine get_bind (s := { s with heap := h₁, toks := t₁ }) X (I _ rfl) (plainGet_of a1).1 (findObj_data a2 a3 a4 a5) (plainGet_of a1).2
      (wpAny_call (slot_get (s := { s with heap := h₁, toks := t₁ + 1 }) X (I _ rfl) a6 (by simp [e']) (handed_on (U.handed hp) (P _ _ H₁ h₁ _ B₁ S₁ U q))))
end
end Mine
end
section
open PySem PySem.W PyProof.Rows PySem.Calls PySem.Spec
set_option maxRecDepth 100000

namespace Mine

section pure
variable {K α : Type} [DecidableEq K]
noncomputable def dset (es : List (K × α)) (k : K) (v : α) : List (K × α) := if es.any (fun e => e.1 = k) then es.map (fun e => if e.1 = k then (e.1, v) else e) else es ++ [(k, v)]
noncomputable def dget (es : List (K × α)) (k : K) : Option α := (es.find? fun e => e.1 = k).map (·.2)
noncomputable def ddel (es : List (K × α)) (k : K) : List (K × α) := es.filter fun e => decide (e.1 ≠ k)
end pure

section
variable {K : Type} [DecidableEq K] {H : PH} {h : Heap}
omit [DecidableEq K] in
theorem KV.keys : ∀ {l : List (K × Value)} {r : List (K × PV)}, KV H h l r → l.map (·.1) = r.map (·.1)
  | [], [], _ => rfl
  | (_, _) :: _, (_, _) :: _, x => by
    obtain ⟨⟨rfl, _⟩, y⟩ := x
    rw [List.map_cons, List.map_cons, KV.keys y]
  | [], _ :: _, x => x.elim
  | _ :: _, [], x => x.elim
omit [DecidableEq K] in
theorem KV.length {l : List (K × Value)} {r : List (K × PV)} (x : KV H h l r) : l.length = r.length := by
  have := congrArg List.length x.keys; simpa using this
theorem KV.valueAt (k : K) : ∀ {l : List (K × Value)} {r : List (K × PV)}, KV H h l r → (∃ v d, PySem.valueAt l k = some v ∧ dget r k = some d ∧ VR H h v d) ∨ (PySem.valueAt l k = none ∧ dget r k = none)
  | [], [], _ => .inr ⟨rfl, rfl⟩
  | (a, v) :: l, (b, d) :: r, x => by
    obtain ⟨⟨rfl, V⟩, y⟩ := x
    have ih := KV.valueAt k y
    unfold PySem.valueAt dget at ih ⊢
    by_cases z : a = k
    · left; refine ⟨v, d, ?_, ?_, V⟩ <;> simp [z]
    · simp only [List.find?_cons, z, decide_false]; exact ih
  | [], _ :: _, x => x.elim
  | _ :: _, [], x => x.elim
theorem KV.any (k : K) {l : List (K × Value)} {r : List (K × PV)} (x : KV H h l r) : l.any (fun kv => kv.1 = k) = r.any (fun kv => kv.1 = k) := by
  have := congrArg (fun z => z.any fun y => decide (y = k)) x.keys
  simpa [List.any_map, Function.comp_def] using this
theorem KV.store {k : K} {v : Value} {d : PV} (V : VR H h v d) : ∀ {l : List (K × Value)} {r : List (K × PV)}, KV H h l r → KV H h (l.map fun kv => if kv.1 = k then (kv.1, v) else kv) (r.map fun kv => if kv.1 = k then (kv.1, d) else kv)
  | [], [], _ => trivial
  | (a, u) :: l, (b, e) :: r, x => by
    obtain ⟨⟨rfl, U⟩, y⟩ := x
    refine ⟨?_, KV.store V y⟩
    show (if a = k then (a, v) else (a, u)).1 = (if a = k then (a, d) else (a, e)).1 ∧ VR H h (if a = k then (a, v) else (a, u)).2 (if a = k then (a, d) else (a, e)).2
    by_cases z : a = k
    · rw [if_pos z, if_pos z]; exact ⟨rfl, V⟩
    · rw [if_neg z, if_neg z]; exact ⟨rfl, U⟩
  | [], _ :: _, x => x.elim
  | _ :: _, [], x => x.elim
omit [DecidableEq K] in
theorem KV.snoc {k : K} {v : Value} {d : PV} (V : VR H h v d) : ∀ {l : List (K × Value)} {r : List (K × PV)}, KV H h l r → KV H h (l ++ [(k, v)]) (r ++ [(k, d)])
  | [], [], _ => ⟨⟨rfl, V⟩, trivial⟩
  | (_, _) :: _, (_, _) :: _, x => ⟨x.1, KV.snoc V x.2⟩
  | [], _ :: _, x => x.elim
  | _ :: _, [], x => x.elim
theorem KV.stored {k : K} {v : Value} {d : PV} (V : VR H h v d) {l : List (K × Value)} {r : List (K × PV)} (x : KV H h l r) : KV H h (PySem.stored l k v) (dset r k d) := by
  unfold PySem.stored dset
  rw [x.any k]
  split
  · exact x.store V
  · exact x.snoc V
theorem KV.without (k : K) : ∀ {l : List (K × Value)} {r : List (K × PV)}, KV H h l r → KV H h (PySem.without l k) (ddel r k)
  | [], [], _ => trivial
  | (a, v) :: l, (b, d) :: r, x => by
    obtain ⟨⟨rfl, V⟩, y⟩ := x
    have ih := KV.without k y
    unfold PySem.without ddel at ih ⊢
    by_cases z : a = k
    · simp only [List.filter_cons, z, ne_eq, not_true_eq_false, decide_false, Bool.false_eq_true, if_false]; exact ih
    · simp only [List.filter_cons, ne_eq, z, not_false_eq_true, decide_true, if_true]; exact ⟨⟨rfl, V⟩, ih⟩
  | [], _ :: _, x => x.elim
  | _ :: _, [], x => x.elim
end

/-- a kind of dict -/
structure DK (g : Gd) (K : Type) [DecidableEq K] where
  knd : PySem.KeyKind g.prog g.w K
  pack : List (K × PV) → Nat → PO
  val : K → PV
  orr : ∀ H h a es ep, OR g H h a (pack es ep) ↔ ∃ kvs, h.DictAt knd a kvs ep ∧ KV H h kvs es
  is : ∀ H h v k, VR H h v (val k) → knd.is k v = true
  part : ∀ H h v k, VR H h v (val k) → (keyPart v).isSome = true
  back : ∀ k v H h, knd.is k v = true → VR H h v (val k)
  nidle : ∀ es ep, pack es ep ≠ .idle
  ty : ∀ es ep, (match pack es ep with | .list _ => "list" | _ => "dict") = "dict"
noncomputable def ik (g : Gd) : DK g Int where
  knd := intKind g.prog g.w
  pack := .idict
  val := .int
  orr := fun _ _ _ _ _ => Iff.rfl
  is := fun H h v k V => by cases V; show (k == k) = true; simp
  part := fun H h v k V => by cases V; rfl
  back := fun k v H h e => by
    cases v <;> first | cases e | skip
    rename_i i t
    obtain rfl : i = k := by simpa [intKind, Value.isInt] using e
    exact .int i t
  nidle := fun _ _ z => by cases z
  ty := fun _ _ => rfl
noncomputable def sk (g : Gd) : DK g Str where
  knd := PySem.strKind g.prog g.w
  pack := .sdict
  val := .str
  orr := fun _ _ _ _ _ => Iff.rfl
  is := fun H h v k V => by cases V; show (k == k) = true; simp
  part := fun H h v k V => by cases V; rfl
  back := fun k v H h e => by
    cases v <;> first | cases e | skip
    rename_i i t
    obtain rfl : i = k := by simpa [PySem.strKind, Value.isStrOf] using e
    exact .str i t
  nidle := fun _ _ z => by cases z
  ty := fun _ _ => rfl

theorem low2 {a : Addr} (h : 2 < a) : (a == sysModules) = false := beq_eq_false_iff_ne.mpr fun e => by rw [e] at h; exact absurd h (by decide)
section
variable {g : Gd} {A : Around} {env : Env} {l : PL} {H : PH} {Q : PV → PH → Prop} {K : Type} [DecidableEq K] {a : Addr} {es : List (K × PV)} {ep : Nat} {k : K}

theorem DK.at (D : DK g K) {h : Heap} (B : BR g H h) (e : H a = some (D.pack es ep)) : ∃ kvs, h.DictAt D.knd a kvs ep ∧ KV H h kvs es ∧ (a == sysModules) = false := by
  obtain ⟨O, _, h2⟩ := B.hr a _ e
  obtain ⟨kvs, d, V⟩ := (D.orr _ _ _ _ _).mp O
  exact ⟨kvs, d, V, low2 h2⟩
/-- the dict has turned -/
theorem DK.turn (D : DK g K) {s : Shared} {h' : Heap} (B : BR g H s.heap) (e : H a = some (D.pack es ep)) {kvs' : List (K × Value)} {es' : List (K × PV)} (d : h'.DictOf D.knd a kvs') (hs : Heap.SameBut a s.heap h') (V : KV H s.heap kvs' es') :
    ∃ ep', BR g (hup H a (D.pack es' ep')) h' ∧ Stp H s.heap (hup H a (D.pack es' ep')) h' := by
  obtain ⟨ep', d'⟩ := d.dictAt
  obtain ⟨o, _, ho, _⟩ := id d'
  have S : Stp H s.heap (hup H a (D.pack es' ep')) h' := Stp.turn hs e ho (D.nidle _ _)
  exact ⟨ep', B.turn hs e ho (D.nidle _ _) ((D.orr _ _ _ _ _).mpr ⟨kvs', d', V.step B S.kp (noOwnOk _)⟩), S⟩

theorem CT.dictOf (D : DK g K) (hG : g.Ok) (e : H a = some (D.pack es ep)) (hsz : es.length ≤ sizeLine) (h : ∀ r ep', H r = none → Q (.ref r) (hup H r (D.pack es ep'))) : CT g A H (.type "dict") [.ref a] Q := by
  intro vs s Q' V B P
  cases V with
  | cons V1 V2 =>
    cases V1; cases V2
    obtain ⟨kvs, d, W, lo⟩ := D.at B e
    refine kt_call_dict lo d.dictOf (by rw [W.length]; exact hsz) fun h' d' hs => ?_
    obtain ⟨ep', d''⟩ := d'.dictAt
    have keep : ∀ b o, s.heap.get? b = some o → h'.get? b = some o := fun b o q => (hs.2 b fun z => by rw [show b = s.heap.objs.size from z] at q; exact absurd (Heap.lt_size q) (Nat.lt_irrefl _)).trans (Heap.get?_push_of_some _ q)
    have hn : s.heap.get? s.heap.objs.size = none := by
      cases q : s.heap.get? s.heap.objs.size with
      | none => rfl
      | some o => exact absurd (Heap.lt_size q) (Nat.lt_irrefl _)
    exact P _ _ _ h' s.toks (B.born keep hn ⟨B.gfresh, low hG B⟩ ((D.orr _ _ _ _ _).mpr ⟨kvs, d'', W.step B (Stp.born (own := noOwn) B keep hn).kp (noOwnOk _)⟩)) (Stp.born B keep hn) (.ref _) (h _ ep' B.fresh)
theorem CT.popThere (D : DK g K) {d x : PV} (e : H a = some (D.pack es ep)) (hsz : es.length ≤ sizeLine) (hd : dget es k = some d) (h : ∀ ep', Q d (hup H a (D.pack (ddel es k) ep'))) : CT g A H (.builtin "dict.pop") [.ref a, D.val k, x] Q := by
  intro vs s Q' V B P
  cases V with
  | cons V1 V2 => cases V2 with
    | cons V2 V3 => cases V3 with
      | cons V3 V4 =>
        cases V1; cases V4
        rename_i u w
        obtain ⟨kvs, dd, W, lo⟩ := D.at B e
        rcases W.valueAt k with ⟨v, d', e1, e2, U⟩ | ⟨_, e2⟩
        · rw [hd] at e2; obtain rfl := Option.some.inj e2
          refine call_meetsIn PySem.F.slot_dict_pop dd.dictOf.typeIs PySem.F.entry_dict_pop (PySem.F.args_dict_pop_3 _ _ _) (meets_dict_pop_there D.knd a (D.is _ _ _ _ V2) [w] (.inr ⟨w, rfl⟩) (D.part _ _ _ _ V2)) ⟨kvs, v, dd.dictOf, by rw [W.length]; exact hsz, e1, fun h' dm hs => ?_⟩
          obtain ⟨ep', B', S⟩ := D.turn B e dm hs (W.without k)
          exact P _ _ _ h' _ B' S (U.after B S) (h ep')
        · rw [hd] at e2; cases e2
theorem CT.popMiss (D : DK g K) {x : PV} (e : H a = some (D.pack es ep)) (hd : dget es k = none) (h : Q x H) : CT g A H (.builtin "dict.pop") [.ref a, D.val k, x] Q := by
  intro vs s Q' V B P
  cases V with
  | cons V1 V2 => cases V2 with
    | cons V2 V3 => cases V3 with
      | cons V3 V4 =>
        cases V1; cases V4
        rename_i u w
        obtain ⟨kvs, dd, W, lo⟩ := D.at B e
        rcases W.valueAt k with ⟨v, d', e1, e2, U⟩ | ⟨e1, e2⟩
        · rw [hd] at e2; cases e2
        · exact call_meetsIn PySem.F.slot_dict_pop dd.dictOf.typeIs PySem.F.entry_dict_pop (PySem.F.args_dict_pop_3 _ _ _) (meets_dict_pop_default D.knd a (D.is _ _ _ _ V2) lo (D.part _ _ _ _ V2) w) ⟨kvs, dd.dictOf, e1, P _ _ _ _ _ B (Stp.refl _ _) V3 h⟩
theorem CT.dget (D : DK g K) {x d : PV} (e : H a = some (D.pack es ep)) (hd : (dget es k).getD x = d) (h : Q d H) : CT g A H (.builtin "dict.get") [.ref a, D.val k, x] Q := by
  intro vs s Q' V B P
  cases V with
  | cons V1 V2 => cases V2 with
    | cons V2 V3 => cases V3 with
      | cons V3 V4 =>
        cases V1; cases V4
        rename_i u w
        obtain ⟨kvs, dd, W, lo⟩ := D.at B e
        refine call_meetsIn PySem.F.slot_dict_get dd.dictOf.typeIs PySem.F.entry_dict_get (PySem.F.args_dict_get_3 _ _ _) (meets_dict_get_default D.knd a (D.is _ _ _ _ V2) lo w) ⟨_, dd.dictOf.mapOf, P _ _ _ _ _ B (Stp.refl _ _) ?_ h⟩
        subst hd
        rcases W.valueAt k with ⟨v, d', e1, e2, U⟩ | ⟨e1, e2⟩
        · rw [e1, e2]; exact U
        · rw [e1, e2]; exact V3
theorem CmpT.inD (D : DK g K) (e : H a = some (D.pack es ep)) (h : Q (.bool (Mine.dget es k).isSome) H) : CmpT g A H .In (D.val k) (.ref a) Q := by
  intro v w s Q' V W B P
  cases W
  obtain ⟨kvs, dd, W, lo⟩ := D.at B e
  refine wpAny_in_of (D.is _ _ _ _ V) lo dd.dictOf.mapOf ?_
  have z : (PySem.valueAt kvs k).isSome = (Mine.dget es k).isSome := by rcases W.valueAt k with ⟨v, d', e1, e2, U⟩ | ⟨e1, e2⟩ <;> rw [e1, e2] <;> rfl
  rw [z]
  exact P.here B (.bool _) h _
theorem CmpT.notInD (D : DK g K) (e : H a = some (D.pack es ep)) (h : Q (.bool (!(Mine.dget es k).isSome)) H) : CmpT g A H .NotIn (D.val k) (.ref a) Q := by
  intro v w s Q' V W B P
  cases W
  obtain ⟨kvs, dd, W, lo⟩ := D.at B e
  refine wpAny_notIn_of (D.is _ _ _ _ V) lo dd.dictOf.mapOf ?_
  have z : (PySem.valueAt kvs k).isSome = (Mine.dget es k).isSome := by rcases W.valueAt k with ⟨v, d', e1, e2, U⟩ | ⟨e1, e2⟩ <;> rw [e1, e2] <;> rfl
  rw [z]
  exact P.here B (.bool _) h _
end

/-! items -/
section
variable {g : Gd} {A : Around} {env : Env} {l : PL} {H : PH} {Q : PV → PH → Prop}
noncomputable def SubT (g : Gd) (A : Around) (H : PH) (o i : PV) (Q : PV → PH → Prop) : Prop := ∀ (value slice : Expr) v w s Q', VR H s.heap v o → VR H s.heap w i → BR g H s.heap → (∀ (lo up : Option Expr) (p : Pos), slice ≠ .Slice lo up none p) → Post g H s Q Q' → wpAny g.m A (subscriptTail value slice v w) Q' noE s
theorem ET.sub {o i : Expr} {pos : Pos} (hi : ∀ (lo up : Option Expr) (p : Pos), i ≠ .Slice lo up Option.none p) (h : ET g A env l H o fun u H₁ => ET g A env l H₁ i fun v H₂ => SubT g A H₂ u v Q) : ET g A env l H (.Subscript o i pos) Q := by
  intro s Q' R P
  refine Subscript_ (h s _ R ?_)
  intro v₁ p₁ H₁ h₁ t₁ B₁ S₁ V₁ q₁
  refine q₁ _ _ (R.after B₁ S₁) ?_
  intro v₂ p₂ H₂ h₂ t₂ B₂ S₂ V₂ q₂
  exact q₂ _ _ _ _ _ _ (V₁.after B₁ S₂) V₂ B₂ hi ((P.after S₁).after S₂)
theorem sub_plain {slice : Expr} (hi : ∀ (lo up : Option Expr) (p : Pos), slice ≠ .Slice lo up none p) (o i : Value) : subscripted slice false o i = operate [o, i] (getItem o i) := by
  unfold subscripted
  split
  · exact absurd rfl (hi _ _ _)
  · contradiction
  · rfl
theorem SubT.dict {K : Type} [DecidableEq K] (D : DK g K) {a : Addr} {es : List (K × PV)} {ep : Nat} {k : K} {d : PV} (e : H a = some (D.pack es ep)) (hd : dget es k = some d) (h : Q d H) : SubT g A H (.ref a) (D.val k) Q := by
  intro value slice v w s Q' V W B hi P
  cases V
  obtain ⟨kvs, dd, U, lo⟩ := D.at B e
  rcases U.valueAt k with ⟨u, d', e1, e2, V⟩ | ⟨_, e2⟩
  · rw [hd] at e2; obtain rfl := Option.some.inj e2
    exact tail_any dd.dictOf.typeIs PySem.F.slot_dict_getitem.lookup (wpAny_getItem_of (D.is _ _ _ _ W) dd.dictOf.mapOf e1 (P.here B V h _)) (sub_plain hi _ _)
  · rw [hd] at e2; cases e2
theorem SubT.list {a : Addr} {ds : List PV} {k : Int} {d : PV} (e : H a = some (.list ds)) (h0 : 0 ≤ k) (h1 : k < 2 ^ 63) (hd : ds[k.toNat]? = some d) (h : Q d H) : SubT g A H (.ref a) (.int k) Q := by
  intro value slice v w s Q' V W B hi P
  cases V; cases W
  obtain ⟨⟨vs, n, o, U⟩, _⟩ := B.hr a _ e
  obtain ⟨u, e', V⟩ := U.get hd
  have hl : s.heap.IsList a vs.toArray := ⟨_, o, rfl, n, rfl⟩
  exact tail_any hl.typeIs slot_list_getitem.lookup (wpAny_getItem_list hl h0 h1 (by simpa using e') (P.now B V h)) (sub_plain hi _ _)
theorem SubT.tuple {ds : List PV} {k : Int} {d : PV} {j : Nat} (h0 : -2 ^ 63 ≤ k) (h1 : k < 2 ^ 63) (hj : seqIndex? k ds.length = some j) (hd : ds[j]? = some d) (h : Q d H) : SubT g A H (.tuple ds) (.int k) Q := by
  intro value slice v w s Q' V W B hi P
  cases V with
  | tuple ht U =>
    cases W
    obtain ⟨u, e', V⟩ := U.get hd
    exact item_tupleT ht h0 h1 (by rw [U.length]; exact hj) e' (P.now B V h) (sub_plain hi _ _)

/-- an item is stored -/
noncomputable def SetT (g : Gd) (A : Around) (H : PH) (o i v : PV) (Q : PH → Prop) : Prop := ∀ a b c s (Q' : Unit → Shared → Prop), VR H s.heap a o → VR H s.heap b i → VR H s.heap c v → BR g H s.heap → (∀ H' h' tk, BR g H' h' → Stp H s.heap H' h' → Q H' → Q' () { s with heap := h', toks := tk }) → wpAny g.m A (setItem a b c) Q' noE s
theorem ST.setItem {o i e : Expr} {p pos : Pos} {Q : PF → PL → PH → Prop} (hs : ∀ env, swapsWith e (some (.Subscript o i p)) pos.line env = pure false) (h : ET g A env l H e fun v H₁ => ET g A env l H₁ o fun a H₂ => ET g A env l H₂ i fun b H₃ => SetT g A H₃ a b v fun H₄ => Q .next l H₄) : ST g A env l H (.Assign [.Subscript o i p] e pos) Q := by
  intro s Q' R P
  refine wpAny_Assign_Subscript (h s _ R ?_) (hs _)
  intro v₁ p₁ H₁ h₁ t₁ B₁ S₁ V₁ q₁
  refine q₁ _ _ (R.after B₁ S₁) ?_
  intro v₂ p₂ H₂ h₂ t₂ B₂ S₂ V₂ q₂
  refine q₂ _ _ ((R.after B₁ S₁).after B₂ S₂) ?_
  intro v₃ p₃ H₃ h₃ t₃ B₃ S₃ V₃ q₃
  refine q₃ _ _ _ _ _ (V₂.after B₂ S₃) V₃ ((V₁.after B₁ S₂).after B₂ S₃) B₃ ?_
  intro H₄ h₄ t₄ B₄ S₄ q₄
  exact P .next .next l H₄ h₄ t₄ ((((R.after B₁ S₁).after B₂ S₂).after B₃ S₃).after B₄ S₄) (Stp.own (S₁.trans (S₂.trans (S₃.trans S₄)))) trivial q₄
theorem SetT.dict {K : Type} [DecidableEq K] (D : DK g K) {a : Addr} {es : List (K × PV)} {ep : Nat} {k : K} {d : PV} {Q : PH → Prop} (e : H a = some (D.pack es ep)) (hsz : es.length ≤ sizeLine) (h : ∀ ep', Q (hup H a (D.pack (dset es k d) ep'))) : SetT g A H (.ref a) (D.val k) d Q := by
  intro x y z s Q' V W U B P
  cases V
  obtain ⟨kvs, dd, T, lo⟩ := D.at B e
  refine wpAny_setItem_pairs (D.is _ _ _ _ W) dd.dictOf (fun h' d' hs => ?_) (by rw [T.length]; exact hsz)
  obtain ⟨ep', B', S⟩ := D.turn B e d' hs (T.stored U)
  exact P _ h' _ B' S (h ep')
end
end Mine
end
section
open PySem PySem.W PyProof.Rows PySem.Calls PySem.Spec
set_option maxRecDepth 100000

namespace Mine

/-- a source of turns: St tells what is left -/
structure Src (g : Gd) (A : Around) (tgt : Expr) (I : Addr) (C : PH → Prop) (St : List PV → PH → Heap → Prop) : Prop where
  fld : ∀ r H h, St r H h → ∃ o vs, h.get? I = some o ∧ o.data = .fields vs ∧ o.cls ≠ .type "range"
  frame : ∀ r H h H' h', St r H h → (∀ o, h.get? I = some o → h'.get? I = some o) → (∀ ws ds, VRs H h ws ds → VRs H' h' ws ds) → (∀ b o, h.get? b = some o → o.cls = .type "tuple" → (∃ xs n, o.data = .seq xs n) → h'.get? b = some o) → St r H' h'
  self : ∀ r H (s : Shared) (Q' : Value → Shared → Prop), St r H s.heap → Q' (.ref I) s → wpAny g.m A (pyIter (.ref I)) Q' noE s
  item : ∀ v r H (s : Shared) (Q' : Value → Shared → Prop), St (v :: r) H s.heap → BR g H s.heap → C H → H I = none →
    (∀ u h' tk, (∀ b o, b ≠ I → s.heap.get? b = some o → h'.get? b = some o) → VR H h' u v → St r H h' → Q' u { s with heap := h', toks := tk }) →
    wpAny g.m A (pyNext (.ref I)) (fun x s₁ => match x with | none => False | some u => wpAny g.m A (letOwnedTupleGo tgt (.ref I) u) (fun _ s₂ => Q' u s₂) noE s₁) noE s
  done : ∀ H (s : Shared) (Q' : Shared → Prop), St [] H s.heap → BR g H s.heap → C H →
    (∀ h' tk, (∀ b o, b ≠ I → s.heap.get? b = some o → h'.get? b = some o) → Q' { s with heap := h', toks := tk }) →
    wpAny g.m A (pyNext (.ref I)) (fun x s₁ => match x with | none => Q' s₁ | some _ => False) noE s

theorem BR.touch {g : Gd} {H : PH} {h h' : Heap} {I : Addr} (B : BR g H h) (k : ∀ b o, b ≠ I → h.get? b = some o → h'.get? b = some o) (f : ∃ o vs, h.get? I = some o ∧ o.data = .fields vs ∧ o.cls ≠ .type "range") (hI : H I = none) (gI : g.G.get? I = none) :
    BR g H h' ∧ Kp (fun b => b = I) H h H h' ∧ OwnOk (fun b => b = I) h := by
  have S : Kp (fun b => b = I) H h H h' := ⟨fun b o q _ n => k b o n q, fun _ e => e⟩
  have W : OwnOk (fun b => b = I) h := by
    rintro b o rfl q
    obtain ⟨o', vs, q', d, c⟩ := f
    rw [q] at q'; obtain rfl := Option.some.inj q'
    exact .inr (.inr (.inl ⟨vs, d, c⟩))
  exact ⟨⟨fun b o q => k b o (fun z => by rw [z, gI] at q; cases q) (B.keep b o q), fun a po q => ⟨OR.step B S W (fun o w => k a o (fun z => by rw [z, hI] at q; cases q) w) (B.hr a po q).1, (B.hr a po q).2⟩⟩, S, W⟩

theorem ER.touch {g : Gd} {env : Env} {l : PL} {H : PH} {h h' : Heap} {I : Addr} (R : ER g env l H h) (k : ∀ b o, b ≠ I → h.get? b = some o → h'.get? b = some o) (f : ∃ o vs, h.get? I = some o ∧ o.data = .fields vs ∧ o.cls ≠ .type "range") (hI : H I = none) (gI : g.G.get? I = none) :
    ER g env l H h' := by
  obtain ⟨B, S, W⟩ := R.br.touch k f hI gI
  obtain ⟨oI, vs, eI, dI, _⟩ := f
  have nL : env.locals ≠ I := fun z => by
    obtain ⟨m, ⟨o', es, ep, e', d', _⟩, _⟩ := R.ns
    rw [z, eI] at e'; obtain rfl := Option.some.inj e'; rw [dI] at d'; cases d'
  have nc : ∀ c w, h.IsCell c w → h'.IsCell c w := fun c w ⟨o, e, d⟩ => ⟨o, k c o (fun z => by rw [z, eI] at e; obtain rfl := Option.some.inj e; rw [dI] at d; cases d) e, d⟩
  refine ⟨B, ?_, fun x pv e kd => ?_, R.hl, R.gl, fun x c e => ?_, R.inj, R.has⟩
  · obtain ⟨m, hn, q⟩ := R.ns
    refine ⟨m, hn.at' fun o e => k _ o nL e, fun x pv e kd => ?_⟩
    obtain ⟨v, V, hm⟩ := q x pv e kd
    exact ⟨v, V.step R.br S W, hm⟩
  · obtain ⟨a, v, c, V, hc, hcell⟩ := R.nc x pv e kd
    exact ⟨a, v, c, V.step R.br S W, hc, nc _ _ hcell⟩
  · obtain ⟨a, w, hw⟩ := R.cells x c e
    exact ⟨a, w, nc _ _ hw⟩

noncomputable def IT (g : Gd) (A : Around) (env : Env) (l : PL) (H : PH) (tgt iter : Expr) (Q : List PV → (PH → Prop) → PH → Prop) : Prop :=
  ∀ s (Q' : Value → Shared → Prop), ER g env l H s.heap → (∀ I items C St H' h' tk, Src g A tgt I C St → BR g H' h' → Stp H s.heap H' h' → St items H' h' → H' I = none → s.heap.get? I = none → C H' → Q items C H' → Q' (.ref I) { s with heap := h', toks := tk }) →
    wpAny g.m A (eval iter env) (fun x s₁ => wpAny g.m A (pyIter x) Q' noE s₁) noE s

/-- what is wanted of the turns that are left -/
noncomputable def LoopT (g : Gd) (A : Around) (env : Env) (tgt : Expr) (body : List Stmt) (C : PH → Prop) (Q : PF → PL → PH → Prop) : List PV → PL → PH → Prop
  | [], l, H => Q .next l H
  | v :: r, l, H => AT g A env l H tgt v fun l₁ H₁ => SS g A env l₁ H₁ body fun f l₂ H₂ => match f with
    | .next | .cont => C H₂ ∧ LoopT g A env tgt body C Q r l₂ H₂
    | .brk => Q .next l₂ H₂
    | .ret v => Q (.ret v) l₂ H₂

section
variable {g : Gd} {A : Around} {env : Env} {l : PL} {H : PH}
theorem past {own : Addr → Prop} {H' : PH} {h h' h₂ : Heap} {I : Addr} (S : StpO own H h H' h') (nI : h.get? I = none) (k : ∀ b o, b ≠ I → h'.get? b = some o → h₂.get? b = some o) : StpO own H h H' h₂ := by
  have ne : ∀ b o, h.get? b = some o → b ≠ I := fun b o e z => by rw [z, nI] at e; cases e
  exact ⟨fun b o e n w => k b o (ne b o e) (S.keep b o e n w), S.dom, fun b o e => let ⟨o', e'⟩ := S.alive b o e; ⟨o', k b o' (ne b o e) e'⟩, S.idle⟩
theorem ST.for {tgt iter : Expr} {body : List Stmt} {pos : Pos} {Q : PF → PL → PH → Prop} (hs : ∀ env x, foldedSetIterable iter env x = pure x)
    (h : IT g A env l H tgt iter fun items C H₁ => LoopT g A env tgt body C Q items l H₁) : ST g A env l H (.For tgt iter body [] pos) Q := by
  intro s Q' R P
  refine wpAny_For (h s _ R ?_) (hs env)
  intro I items C St H₁ h₁ tk₁ W B₁ S₁ st hI nI hC q
  have gI : g.G.get? I = none := by
    cases z : g.G.get? I with
    | none => rfl
    | some o => have := R.br.keep _ o z; rw [nI] at this; cases this
  have notOwn : ∀ b, ownOf env b → b ≠ I := fun b w z => by
    rw [z] at w
    rcases w with w | ⟨_, x, w⟩
    · obtain ⟨_, hn, _⟩ := R.ns; obtain ⟨o, e⟩ := Ns.obj hn; rw [← w, nI] at e; cases e
    · obtain ⟨_, _, o, e, _⟩ := R.cells x I w; rw [nI] at e; cases e
  refine codeAny_forLoop_any (fun n s' => ∃ r l' H' h' tk, s' = { s with heap := h', toks := tk } ∧ ER g env l' H' h' ∧ StpO (ownOf env) H s.heap H' h' ∧ St r H' h' ∧ H' I = none ∧ C H' ∧ LoopT g A env tgt body C Q r l' H' ∧ n = r.length) ?_ items.length
    ⟨items, l, H₁, h₁, tk₁, rfl, R.after B₁ S₁, S₁.own, st, hI, hC, q, rfl⟩
  rintro n s' ⟨r, l', H', h', tk, rfl, R', S', st', hI', hC', q', rfl⟩
  cases r with
  | nil =>
    refine wpAny_mono (W.done H' { s with heap := h', toks := tk } (fun s₁ => wpAny g.m A (execs [] env) (fun f s₃ => (match (Except.ok f : Result) with | .ok f => Q' f s₃ | .error e => cameBackBy g.m A env noE e s₃)) noE s₁) st' R'.br hC' ?_) (fun x s₁ w => ?_) noted_noE
    · intro h₂ tk₂ k₂
      refine wpAny_execs_nil ?_
      have R₂ := R'.touch k₂ (W.fld _ _ _ st') hI' gI
      have S₃ := past S' nI k₂
      exact P .next .next l' H' h₂ tk₂ R₂ S₃ trivial q'
    · cases x with
      | none => exact wpAny_mono w (fun _ _ z => z) noted_noE
      | some u => exact w.elim
  | cons v r =>
    refine wpAny_mono (W.item v r H' { s with heap := h', toks := tk } (fun u s₂ => wpAny g.m A (PySem.assign tgt env u) (fun _ s₃ => wpAny g.m A (execs body env) (fun f s₄ => match f with
        | .next | .cont => ∃ m, m < (v :: r).length ∧ ∃ r l' H' h' tk, s₄ = { s with heap := h', toks := tk } ∧ ER g env l' H' h' ∧ StpO (ownOf env) H s.heap H' h' ∧ St r H' h' ∧ H' I = none ∧ C H' ∧ LoopT g A env tgt body C Q r l' H' ∧ m = r.length
        | .brk => Q' .next s₄
        | .ret v => Q' (.ret v) s₄) noE s₃) noE s₂) st' R'.br hC' hI' ?_) (fun x s₁ w => ?_) noted_noE
    · intro u h₂ tk₂ k₂ V₂ st₂
      have R₂ := R'.touch k₂ (W.fld _ _ _ st') hI' gI
      have S₃ := past S' nI k₂
      refine q' u { s with heap := h₂, toks := tk₂ } _ R₂ V₂ ?_
      intro l₃ H₃ h₃ tk₃ R₃ S₄ q₃
      refine q₃ _ _ R₃ ?_
      intro f pf l₄ H₄ h₄ tk₄ R₄ S₅ V₄ q₄
      have S₆ := S₄.trans S₅
      have fin : C H₄ ∧ LoopT g A env tgt body C Q r l₄ H₄ → ∃ m, m < (v :: r).length ∧ ∃ r l' H' h' tk, ({ s with heap := h₄, toks := tk₄ } : Shared) = { s with heap := h', toks := tk } ∧ ER g env l' H' h' ∧ StpO (ownOf env) H s.heap H' h' ∧ St r H' h' ∧ H' I = none ∧ C H' ∧ LoopT g A env tgt body C Q r l' H' ∧ m = r.length := by
        rintro ⟨c, q⟩
        obtain ⟨oI, _, eI, _⟩ := W.fld _ _ _ st₂
        refine ⟨r.length, Nat.lt_succ_self _, r, l₄, H₄, h₄, tk₄, rfl, R₄, S₃.trans S₆, W.frame r H' h₂ H₄ h₄ st₂ (fun o e => S₆.keep _ o e hI' (fun w => notOwn _ w rfl)) (fun ws ds z => z.step R₂.br S₆.kp R₂.ownOk) (fun b o e c d => ?_), S₆.dom _ oI eI hI', c, q, rfl⟩
        obtain ⟨xs, n, d⟩ := d
        exact S₆.keep b o e (R₂.br.fixed e (.inl ⟨c, xs, n, d⟩)) (R₂.ownOk.seq e c d)
      cases f <;> cases pf <;> first | exact V₄.elim | exact fin q₄ | exact P .next .next _ _ h₄ tk₄ R₄ (S₃.trans S₆) trivial q₄ | exact P (.ret _) (.ret _) _ _ h₄ tk₄ R₄ (S₃.trans S₆) V₄ q₄
    · cases x with
      | none => exact w.elim
      | some u => exact wpAny_mono w (fun _ s₂ z => wpAny_mono z (fun _ s₃ y => wpAny_mono y (fun f s₄ x => by cases f <;> exact x) noted_noE) noted_noE) noted_noE

theorem grew {h : Heap} {o : Obj} : ∀ b o', h.get? b = some o' → (h.push o).get? b = some o' := fun _ _ e => Heap.get?_push_of_some _ e
theorem drop_head {α : Type} {v : α} {r items : List α} {i : Nat} (e : v :: r = items.drop i) : items[i]? = some v ∧ r = items.drop (i + 1) := by
  have h1 : (items.drop i)[0]? = some v := by rw [← e]; rfl
  have h2 : (items.drop i).tail = r := by rw [← e]; rfl
  rw [List.getElem?_drop] at h1
  exact ⟨h1, by rw [← h2, List.tail_drop]⟩
theorem drop_nil {α : Type} {items : List α} {i : Nat} (e : [] = items.drop i) : items[i]? = none := by
  have : items.length ≤ i := List.drop_eq_nil_iff.mp e.symm
  exact List.getElem?_eq_none this

theorem Src.list (hh : A.handled = none) {tgt : Expr} (I a : Addr) (items : List PV) (gI : g.G.get? I = none) : Src g A tgt I (fun H => H a = some (.list items)) (fun r H h => ∃ i, h.IsListIter I a i ∧ r = items.drop i) := by
  have fld : ∀ (r : List PV) (H : PH) (h : Heap), (∃ i, h.IsListIter I a i ∧ r = items.drop i) → ∃ o vs, h.get? I = some o ∧ o.data = .fields vs ∧ o.cls ≠ .type "range" := by
    rintro r H h ⟨i, ⟨o, e, c, d⟩, _⟩
    exact ⟨o, _, e, d, by rw [c]; decide⟩
  refine ⟨fld, ?_, ?_, ?_, ?_⟩
  · rintro r H h H' h' ⟨i, ⟨o, e, c, d⟩, q⟩ k _ _
    exact ⟨i, ⟨o, k o e, c, d⟩, q⟩
  · rintro r H s Q' ⟨i, hit, _⟩ q; exact wpAny_pyIter_listiter hit q
  · rintro v r H s Q' st B hC hI P
    obtain ⟨i, hit, q⟩ := id st
    obtain ⟨hv, hr⟩ := drop_head q
    obtain ⟨⟨ws, n, o, U⟩, _⟩ := B.hr a _ hC
    obtain ⟨u, hu, V⟩ := U.get hv
    have hl : s.heap.IsList a ws.toArray := ⟨_, o, rfl, n, rfl⟩
    refine wpAny_pyNext_list_item hit hl (by simpa using hu) (fun h' hit' hs => ?_)
    refine letGo_listiter hit' ?_
    have k : ∀ b o, b ≠ I → s.heap.get? b = some o → h'.get? b = some o := fun b o n e => (hs.2 b n).trans e
    obtain ⟨_, S, W⟩ := B.touch k (fld _ H _ st) hI gI
    exact P u h' s.toks k (V.step B S W) ⟨i + 1, hit', hr⟩
  · rintro H s Q' ⟨i, hit, q⟩ B hC P
    obtain ⟨⟨ws, n, o, U⟩, _⟩ := B.hr a _ hC
    have hl : s.heap.IsList a ws.toArray := ⟨_, o, rfl, n, rfl⟩
    have hnone : ws.toArray[i]? = none := by
      have := drop_nil q
      have e : ws.length = items.length := U.length
      have h2 : items.length ≤ i := by simpa using this
      simp; omega
    exact wpAny_pyNext_list_end hh hit hl hnone (fun h' he => P h' s.toks fun b o n e => he b o n e)
theorem IT.list (hh : A.handled = none) {tgt iter : Expr} {Q : List PV → (PH → Prop) → PH → Prop}
    (h : ET g A env l H iter fun v H₁ => ∃ a items, v = .ref a ∧ H₁ a = some (.list items) ∧ Q items (fun H => H a = some (.list items)) H₁) : IT g A env l H tgt iter Q := by
  intro s Q' R P
  refine h s _ R ?_
  rintro v pv H₁ h₁ t₁ B₁ S₁ V₁ ⟨a, items, rfl, ha, q⟩
  cases V₁
  obtain ⟨⟨ws, n, o, U⟩, _⟩ := B₁.hr a _ ha
  have hl : h₁.IsList a ws.toArray := ⟨_, o, rfl, n, rfl⟩
  refine wpAny_pyIter_list (s := { s with heap := h₁, toks := t₁ }) hl ?_
  have k : ∀ b o, h₁.get? b = some o → (h₁.push { cls := Value.type "list_iterator", data := Data.fields #[Value.ref a, Value.int 0 0] }).get? b = some o := fun b o e => Heap.get?_push_of_some _ e
  have nI : s.heap.get? h₁.objs.size = none := by
    cases z : s.heap.get? h₁.objs.size with
    | none => rfl
    | some o => obtain ⟨o', e'⟩ := S₁.alive _ o z; exact absurd (Heap.lt_size e') (Nat.lt_irrefl _)
  exact P h₁.objs.size items _ _ H₁ _ t₁ (Src.list hh _ a items B₁.gfresh) (B₁.grown k) (S₁.trans (Stp.grown k)) ⟨0, ⟨_, Heap.get?_push_size _ rfl, rfl, rfl⟩, rfl⟩ B₁.fresh nI ha q

theorem freshI {s : Shared} {H₁ : PH} {h₁ : Heap} (S₁ : Stp H s.heap H₁ h₁) : s.heap.get? h₁.objs.size = none := by
  cases z : s.heap.get? h₁.objs.size with
  | none => rfl
  | some o => obtain ⟨o', e'⟩ := S₁.alive _ o z; exact absurd (Heap.lt_size e') (Nat.lt_irrefl _)
theorem Src.tuple (hh : A.handled = none) {tgt : Expr} (I a : Addr) (ws : List Value) (items : List PV) (gI : g.G.get? I = none) : Src g A tgt I (fun _ => True) (fun r H h => ∃ i, h.IsTupleIter I a i ∧ r = items.drop i ∧ h.IsTuple a ws.toArray ∧ VRs H h ws items ∧ a ≠ I) := by
  have fld : ∀ (r : List PV) (H : PH) (h : Heap), (∃ i, h.IsTupleIter I a i ∧ r = items.drop i ∧ h.IsTuple a ws.toArray ∧ VRs H h ws items ∧ a ≠ I) → ∃ o vs, h.get? I = some o ∧ o.data = .fields vs ∧ o.cls ≠ .type "range" := by
    rintro r H h ⟨i, ⟨o, e, c, d⟩, _⟩
    exact ⟨o, _, e, d, by rw [c]; decide⟩
  refine ⟨fld, ?_, ?_, ?_, ?_⟩
  · rintro r H h H' h' ⟨i, ⟨o, e, c, d⟩, q, ⟨ot, et, ct, n, dt⟩, U, ne⟩ k kv kt
    exact ⟨i, ⟨o, k o e, c, d⟩, q, ⟨ot, kt _ ot et ct ⟨_, n, dt⟩, ct, n, dt⟩, kv _ _ U, ne⟩
  · rintro r H s Q' ⟨i, hit, _⟩ q; exact wpAny_pyIter_tupleiter hit q
  · rintro v r H s Q' st B hC hI P
    obtain ⟨i, hit, q, ht, U, ne⟩ := id st
    obtain ⟨hv, hr⟩ := drop_head q
    obtain ⟨u, hu, V⟩ := U.get hv
    refine wpAny_pyNext_tuple_item hit ht (by simpa using hu) (fun h' hit' hs => ?_)
    refine letGo_tupleiter hit' ?_
    have k : ∀ b o, b ≠ I → s.heap.get? b = some o → h'.get? b = some o := fun b o n e => (hs.2 b n).trans e
    obtain ⟨_, S, W⟩ := B.touch k (fld _ H _ st) hI gI
    exact P u h' s.toks k (V.step B S W) ⟨i + 1, hit', hr, ht.at fun o e => k a o ne e, U.step B S W, ne⟩
  · rintro H s Q' ⟨i, hit, q, ht, U, ne⟩ B hC P
    have hnone : ws.toArray[i]? = none := by
      have := drop_nil q
      have e : ws.length = items.length := U.length
      have h2 : items.length ≤ i := by simpa using this
      simp; omega
    exact wpAny_pyNext_tuple_end hh hit ht hnone (fun h' he => P h' s.toks fun b o n e => he b o n e)
theorem IT.tuple (hh : A.handled = none) {tgt iter : Expr} {Q : List PV → (PH → Prop) → PH → Prop}
    (h : ET g A env l H iter fun v H₁ => ∃ items, v = .tuple items ∧ Q items (fun _ => True) H₁) : IT g A env l H tgt iter Q := by
  intro s Q' R P
  refine h s _ R ?_
  rintro v pv H₁ h₁ t₁ B₁ S₁ V₁ ⟨items, rfl, q⟩
  cases V₁ with
  | @tuple a ws _ ht U =>
    refine wpAny_pyIter_tuple (s := { s with heap := h₁, toks := t₁ }) ht ?_
    have k : ∀ b o, h₁.get? b = some o → (h₁.push { cls := Value.type "tuple_iterator", data := Data.fields #[Value.ref a, Value.int 0 0] }).get? b = some o := fun b o e => Heap.get?_push_of_some _ e
    have ne : a ≠ h₁.objs.size := by obtain ⟨o, e, _⟩ := ht; exact Nat.ne_of_lt (Heap.lt_size e)
    exact P h₁.objs.size items _ _ H₁ _ t₁ (Src.tuple hh _ a ws items B₁.gfresh) (B₁.grown k) (S₁.trans (Stp.grown k)) ⟨0, ⟨_, Heap.get?_push_size _ rfl, rfl, rfl⟩, rfl, ht.at fun o e => k a o e, U.after B₁ (Stp.grown k), ne⟩ B₁.fresh (freshI S₁) trivial q

noncomputable def rangeL (a c : Int) (n : Nat) : List PV := (List.range n).map fun (j : Nat) => PV.int (a + (j : Int) * c)
theorem rangeL_succ (a c : Int) (n : Nat) : rangeL a c (n + 1) = .int a :: rangeL (a + c) c n := by
  unfold rangeL
  rw [List.range_succ_eq_map, List.map_cons, List.map_map]
  congr 1
  · simp
  · refine List.map_congr_left fun j _ => ?_
    simp only [Function.comp, Nat.succ_eq_add_one, Int.natCast_add, Int.add_mul]
    congr 1; omega
theorem rangeL_length (a c : Int) (n : Nat) : (rangeL a c n).length = n := by simp [rangeL]
theorem Src.range (hh : A.handled = none) {tgt : Expr} (htgt : ∀ it v, letOwnedTupleGo tgt it v = pure ()) (I : Addr) (c : Int) (gI : g.G.get? I = none) : Src g A tgt I (fun _ => True) (fun r H h => ∃ x n, IsRangeIter h I x n c ∧ r = rangeL x c n.toNat) := by
  have fld : ∀ (r : List PV) (H : PH) (h : Heap), (∃ x n, IsRangeIter h I x n c ∧ r = rangeL x c n.toNat) → ∃ o vs, h.get? I = some o ∧ o.data = .fields vs ∧ o.cls ≠ .type "range" := by
    rintro r H h ⟨x, n, e, _⟩
    exact ⟨_, _, e, rfl, fun z => absurd (show Value.type _ = Value.type "range" from z) (by decide)⟩
  refine ⟨fld, ?_, ?_, ?_, ?_⟩
  · rintro r H h H' h' ⟨x, n, e, q⟩ k _ _
    exact ⟨x, n, k _ e, q⟩
  · rintro r H s Q' ⟨x, n, hit, _⟩ q; exact wpAny_pyIter_rangeiter hit q
  · rintro v r H s Q' st B hC hI P
    obtain ⟨x, n, hit, q⟩ := id st
    have hpos : 0 < n := by
      have h1 : (rangeL x c n.toNat).length = r.length + 1 := by rw [← q]; rfl
      rw [rangeL_length] at h1; omega
    obtain ⟨m, hm⟩ : ∃ m, n.toNat = m + 1 := ⟨n.toNat - 1, by omega⟩
    rw [hm, rangeL_succ] at q
    injection q with q1 q2
    refine wpAny_pyNext_range_item hit hpos (fun h' hit' hs => ?_)
    refine wpAny_of_eq (htgt _ _) ?_
    have k : ∀ b o, b ≠ I → s.heap.get? b = some o → h'.get? b = some o := fun b o n e => (hs.2 b n).trans e
    exact P _ h' _ k (q1 ▸ .int x s.toks) ⟨x + c, n - 1, hit', by rw [q2]; congr 1; omega⟩
  · rintro H s Q' ⟨x, n, hit, q⟩ B hC P
    have h0 : n ≤ 0 := by
      have h1 : (rangeL x c n.toNat).length = 0 := by rw [← q]; rfl
      rw [rangeL_length] at h1; omega
    exact wpAny_pyNext_range_end hh hit h0 (fun h' he => P h' s.toks fun b o n e => he b o n e)
theorem IT.range (hh : A.handled = none) {tgt iter : Expr} {Q : List PV → (PH → Prop) → PH → Prop} (htgt : ∀ it v, letOwnedTupleGo tgt it v = pure ())
    (h : ET g A env l H iter fun v H₁ => ∃ a b c, v = .rng a b c ∧ Builtin.Range.small a b c = true ∧ Q (rangeL a c (Builtin.Range.rangeSize a b c).toNat) (fun _ => True) H₁) : IT g A env l H tgt iter Q := by
  intro s Q' R P
  refine h s _ R ?_
  rintro v pv H₁ h₁ t₁ B₁ S₁ V₁ ⟨a, b, c, rfl, hsm, q⟩
  cases V₁ with
  | rng hr =>
    refine wpAny_pyIter_range (s := { s with heap := h₁, toks := t₁ }) hr hsm ?_
    have k : ∀ b' o, h₁.get? b' = some o → (h₁.push { cls := Value.type "range_iterator", data := Data.fields #[rawInt a, rawInt (Builtin.Range.rangeSize a b c), rawInt c] }).get? b' = some o := fun b o e => Heap.get?_push_of_some _ e
    exact P h₁.objs.size _ _ _ H₁ _ t₁ (Src.range hh htgt _ c B₁.gfresh) (B₁.grown k) (S₁.trans (Stp.grown k)) ⟨a, _, Heap.get?_push_size _ rfl, rfl⟩ B₁.fresh (freshI S₁) trivial q
theorem CT.range1 {n : Int} {Q : PV → PH → Prop} (h : Q (.rng 0 n 1) H) : CT g A H (.type "range") [.int n] Q := by
  intro vs s Q' V B P
  cases V with
  | cons V1 V2 =>
    cases V1; cases V2
    refine call_range_1 ?_
    exact P _ _ H _ _ (B.grown grew) (Stp.grown grew) (.rng (IsRange.new _ _ _ _ _ _ _)) h
theorem CT.range2 {a b : Int} {Q : PV → PH → Prop} (h : Q (.rng a b 1) H) : CT g A H (.type "range") [.int a, .int b] Q := by
  intro vs s Q' V B P
  cases V with
  | cons V1 V2 => cases V2 with
    | cons V2 V3 =>
    cases V1; cases V2; cases V3
    refine call_range_2 ?_
    exact P _ _ H _ _ (B.grown grew) (Stp.grown grew) (.rng (IsRange.new _ _ _ _ _ _ _)) h
theorem range_items {a b : Int} : rangeL a 1 (Builtin.Range.rangeSize a b 1).toNat = rangeL a 1 (b - a).toNat := by
  rw [rangeSize_one]; split
  · rfl
  · congr 1; omega

theorem KV.get {K : Type} {H : PH} {h : Heap} : ∀ {kvs : List (K × Value)} {es : List (K × PV)} {i : Nat} {k : K} {d : PV}, KV H h kvs es → es[i]? = some (k, d) → ∃ v, kvs[i]? = some (k, v) ∧ VR H h v d
  | [], [], _, _, _, _, e => by simp at e
  | (_, _) :: _, (_, _) :: _, 0, _, _, x, e => by
    simp at e; obtain ⟨rfl, rfl⟩ := e; obtain ⟨⟨rfl, V⟩, _⟩ := x; exact ⟨_, rfl, V⟩
  | (_, _) :: _, (_, _) :: _, i + 1, _, _, x, e => by
    simp at e; obtain ⟨v, e', V⟩ := KV.get x.2 e; exact ⟨v, by simpa using e', V⟩
  | [], _ :: _, _, _, _, x, _ => x.elim
  | _ :: _, [], _, _, _, x, _ => x.elim

theorem Src.keys {K : Type} [DecidableEq K] (D : DK g K) (hh : A.handled = none) {tgt : Expr} (I a : Addr) (es : List (K × PV)) (ep : Nat) (gI : g.G.get? I = none) : Src g A tgt I (fun H => H a = some (D.pack es ep)) (fun r H h => ∃ i, h.IsKeyIter I a i es.length ep ∧ r = (es.map fun e => D.val e.1).drop i) := by
  have fld : ∀ (r : List PV) (H : PH) (h : Heap), (∃ i, h.IsKeyIter I a i es.length ep ∧ r = (es.map fun e => D.val e.1).drop i) → ∃ o vs, h.get? I = some o ∧ o.data = .fields vs ∧ o.cls ≠ .type "range" := by
    rintro r H h ⟨i, ⟨o, e, c, d⟩, _⟩
    exact ⟨o, _, e, d, by rw [c]; decide⟩
  refine ⟨fld, ?_, ?_, ?_, ?_⟩
  · rintro r H h H' h' ⟨i, ⟨o, e, c, d⟩, q⟩ k _ _
    exact ⟨i, ⟨o, k o e, c, d⟩, q⟩
  · rintro r H s Q' ⟨i, hit, _⟩ q; exact wpAny_pyIter_keyiter hit q
  · rintro v r H s Q' st B hC hI P
    obtain ⟨i, hit, q⟩ := id st
    obtain ⟨hv, hr⟩ := drop_head q
    rw [List.getElem?_map, Option.map_eq_some_iff] at hv
    obtain ⟨⟨k, d⟩, hkd, rfl⟩ := hv
    obtain ⟨kvs, dd, U, lo⟩ := D.at B hC
    obtain ⟨x, hx, V⟩ := U.get hkd
    rw [← U.length] at hit
    refine wpAny_pyNext_dict_item hit dd hx (fun key h' hkey hit' hs => ?_)
    refine letGo_keyiter hit' ?_
    have k : ∀ b o, b ≠ I → s.heap.get? b = some o → h'.get? b = some o := fun b o n e => (hs.2 b n).trans e
    exact P key h' s.toks k (D.back _ _ _ _ hkey) ⟨i + 1, U.length ▸ hit', hr⟩
  · rintro H s Q' ⟨i, hit, q⟩ B hC P
    obtain ⟨kvs, dd, U, lo⟩ := D.at B hC
    have hn := drop_nil q
    rw [← U.length] at hit
    have hnone : kvs[i]? = none := by
      have h2 : es.length ≤ i := by simpa using hn
      have := U.length
      simp; omega
    exact wpAny_pyNext_dict_end hh hit dd hnone (fun h' he => P h' s.toks fun b o n e => he b o n e)
theorem IT.keys {K : Type} [DecidableEq K] (D : DK g K) (hh : A.handled = none) {tgt iter : Expr} {Q : List PV → (PH → Prop) → PH → Prop}
    (h : ET g A env l H iter fun v H₁ => ∃ a es ep, v = .ref a ∧ H₁ a = some (D.pack es ep) ∧ Q (es.map fun e => D.val e.1) (fun H => H a = some (D.pack es ep)) H₁) : IT g A env l H tgt iter Q := by
  intro s Q' R P
  refine h s _ R ?_
  rintro v pv H₁ h₁ t₁ B₁ S₁ V₁ ⟨a, es, ep, rfl, ha, q⟩
  cases V₁
  obtain ⟨kvs, dd, U, lo⟩ := D.at B₁ ha
  refine wpAny_pyIter_dict (s := { s with heap := h₁, toks := t₁ }) lo dd ?_
  exact P h₁.objs.size _ _ _ H₁ _ t₁ (Src.keys D hh _ a es ep B₁.gfresh) (B₁.grown grew) (S₁.trans (Stp.grown grew)) ⟨0, ⟨_, Heap.get?_push_size _ rfl, rfl, by rw [← U.length]; rfl⟩, rfl⟩ B₁.fresh (freshI S₁) ha q

theorem Src.items {K : Type} [DecidableEq K] (D : DK g K) (hh : A.handled = none) {elts : List Expr} {kk : Nat} {pos : Pos} (I a : Addr) (es : List (K × PV)) (ep : Nat) (gI : g.G.get? I = none) : Src g A (.Tuple elts kk pos) I (fun H => H a = some (D.pack es ep)) (fun r H h => ∃ i ok ov, IsItemIter h I a i es.length ep ok ov ∧ r = (es.map fun e => PV.tuple [D.val e.1, e.2]).drop i) := by
  have fld : ∀ (r : List PV) (H : PH) (h : Heap), (∃ i ok ov, IsItemIter h I a i es.length ep ok ov ∧ r = (es.map fun e => PV.tuple [D.val e.1, e.2]).drop i) → ∃ o vs, h.get? I = some o ∧ o.data = .fields vs ∧ o.cls ≠ .type "range" := by
    rintro r H h ⟨i, ok, ov, e, _⟩
    exact ⟨_, _, e, rfl, fun z => absurd (show Value.type _ = Value.type "range" from z) (by decide)⟩
  refine ⟨fld, ?_, ?_, ?_, ?_⟩
  · rintro r H h H' h' ⟨i, ok, ov, e, q⟩ k _ _
    exact ⟨i, ok, ov, k _ e, q⟩
  · rintro r H s Q' ⟨i, ok, ov, hit, _⟩ q; exact kcp_self hit q
  · rintro v r H s Q' st B hC hI P
    obtain ⟨i, ok, ov, hit, q⟩ := id st
    obtain ⟨hv, hr⟩ := drop_head q
    rw [List.getElem?_map, Option.map_eq_some_iff] at hv
    obtain ⟨⟨k, d⟩, hkd, rfl⟩ := hv
    obtain ⟨kvs, dd, U, lo⟩ := D.at B hC
    obtain ⟨x, hx, V⟩ := U.get hkd
    rw [← U.length] at hit
    refine wpAny_pyNext_items_item hit dd hx (fun key h₁ hkey ho hT hsz hk => ?_)
    have nI : s.heap.objs.size ≠ I := fun z => by
      obtain ⟨o, vs, e, _⟩ := fld _ H _ st; exact absurd (Heap.lt_size e) (z ▸ Nat.lt_irrefl _)
    refine wpAny_letOwnedTupleGo_items ho fun h₂ he hs => ?_
    have k : ∀ b o, b ≠ I → s.heap.get? b = some o → h₂.get? b = some o := fun b o n e => (hs.2 b n).trans (hk b o n e)
    obtain ⟨_, S, W⟩ := B.touch k (fld _ H _ st) hI gI
    exact P _ h₂ s.toks k (.tuple (vs := [key, x]) ⟨_, (hs.2 _ nI).trans hT, rfl, 0, rfl⟩ (.cons (D.back _ _ _ _ hkey) (.cons (V.step B S W) .nil))) ⟨i + 1, _, _, U.length ▸ he, hr⟩
  · rintro H s Q' ⟨i, ok, ov, hit, q⟩ B hC P
    obtain ⟨kvs, dd, U, lo⟩ := D.at B hC
    have hn := drop_nil q
    rw [← U.length] at hit
    have hnone : kvs[i]? = none := by
      have h2 : es.length ≤ i := by simpa using hn
      have := U.length
      simp; omega
    exact wpAny_pyNext_items_end hh hit dd hnone (fun h' he => P h' s.toks fun b o n e => he b o n e)
theorem IT.items {K : Type} [DecidableEq K] (D : DK g K) (hh : A.handled = none) {elts : List Expr} {kk : Nat} {tp apos cpos : Pos} {o : Expr} {Q : List PV → (PH → Prop) → PH → Prop}
    (hb : attributeBase o "items" env (eval o env) = eval o env) (hline : (apos.endLine == cpos.line) = true)
    (h : ET g A env l H o fun v H₁ => ∃ a es ep, v = .ref a ∧ H₁ a = some (D.pack es ep) ∧ Q (es.map fun e => PV.tuple [D.val e.1, e.2]) (fun H => H a = some (D.pack es ep)) H₁) : IT g A env l H (.Tuple elts kk tp) (.Call (.Attribute o "items" apos) [] [] cpos) Q := by
  intro s Q' R P
  refine wpAny_Call_method (T := "dict") (id := "dict.items") hb rfl hline PySem.F.plainAttrs_dict PySem.F.slot_dict_items PySem.F.type_dict_items (h s _ R ?_)
  rintro v pv H₁ h₁ t₁ B₁ S₁ V₁ ⟨a, es, ep, rfl, ha, q⟩
  cases V₁
  obtain ⟨kvs, dd, U, lo⟩ := D.at B₁ ha
  refine ⟨dd.dictOf.typeIs, dd.dictOf.mapOf.noDict, ?_⟩
  show wpAny _ _ (callWith cpos (.builtin "dict.items") [.ref a] [] []) _ _ _
  refine method_meetsIn PySem.F.slot_dict_items PySem.F.entry_dict_items rfl (PySem.evalArgs_none ⟨rfl, dd.dictOf.typeIs, PySem.F.args_dict_items_1 _, _, meets_dict_items D.knd a lo, ⟨kvs, dd.dictOf⟩, ?_⟩)
  have k₀ : ∀ b o, h₁.get? b = some o → (h₁.push { cls := .type "dict_items", data := .fields #[.ref a] }).get? b = some o := fun b o e => Heap.get?_push_of_some _ e
  refine wpAny_pyIter_items (s := { s with heap := h₁.push { cls := .type "dict_items", data := .fields #[.ref a] }, toks := t₁ }) ⟨_, Heap.get?_push_size _ rfl, rfl, rfl⟩ (dd.push _) ?_
  have B₂ := (B₁.grown k₀)
  have S₂ : Stp H s.heap H₁ _ := S₁.trans (Stp.grown k₀)
  exact P _ _ _ _ H₁ _ t₁ (Src.items D hh _ a es ep B₂.gfresh) (B₂.grown grew) (S₂.trans (Stp.grown grew)) ⟨0, .none, .none, by rw [← U.length]; exact Heap.get?_push_size _ rfl, rfl⟩ B₂.fresh (freshI S₂) ha q
end
end Mine
end
section
open PySem PySem.W PyProof.Rows PySem.Calls PySem.Spec
set_option maxRecDepth 100000

namespace Mine

section
variable {g : Gd} {A : Around} {env : Env} {l : PL} {H : PH}

/-! a tuple of targets -/
noncomputable def ATs (g : Gd) (A : Around) (env : Env) : PL → PH → List Expr → List PV → (PL → PH → Prop) → Prop
  | l, H, [], [], Q => Q l H
  | l, H, t :: ts, v :: vs, Q => AT g A env l H t v fun l₁ H₁ => ATs g A env l₁ H₁ ts vs Q
  | _, _, _, _, _ => False
theorem assignEach_plain : ∀ {ts : List Expr}, ts.all plainArg = true → ∀ env, assignEach ts env = ts.map fun t => (false, PySem.assign t env)
  | [], _, _ => rfl
  | t :: ts, h, env => by
    obtain ⟨h1, h2⟩ := Bool.and_eq_true_iff.mp h
    have e : assignEach (t :: ts) env = (false, PySem.assign t env) :: assignEach ts env := by cases t <;> first | rfl | cases h1
    rw [e, assignEach_plain h2 env]; rfl
theorem ER.grown {h h' : Heap} (R : ER g env l H h) (k : ∀ b o, h.get? b = some o → h'.get? b = some o) : ER g env l H h' := R.after (R.br.grown k) (Stp.grown k)
theorem ATs.run : ∀ {ts : List Expr} {us : List Value} {vs : List PV} {l : PL} {H : PH} {Q : PL → PH → Prop} {s : Shared} {Q' : Unit → Shared → Prop}, ATs g A env l H ts vs Q → ER g env l H s.heap → VRs H s.heap us vs → PostU g env H s Q Q' →
    wpAny g.m A (assignInOrder (ts.map fun t => PySem.assign t env) us) Q' noE s
  | [], us, vs, l, H, Q, s, Q', h, R, V, P => by
    cases vs with
    | nil => cases V; exact wpAny_pure (P l H s.heap s.toks R (Stp.refl _ _) h)
    | cons v vs => exact h.elim
  | t :: ts, us, vs, l, H, Q, s, Q', h, R, V, P => by
    cases vs with
    | nil => exact h.elim
    | cons v vs =>
      cases V with
      | @cons u _ us _ V V' =>
      show wpAny g.m A (do holding us (PySem.assign t env u); assignInOrder (ts.map fun t => PySem.assign t env) us) Q' noE s
      refine wpAny_bind (wpAny_holding (h u s _ R V ?_))
      intro l₁ H₁ h₁ t₁ R₁ S₁ q₁
      exact ATs.run q₁ R₁ (V'.step R.br S₁.kp R.ownOk) (P.after S₁)
theorem AT.tuple {ts : List Expr} {k : Nat} {pos : Pos} {vs : List PV} {Q : PL → PH → Prop} (hh : A.handled = none) (hp : ts.all plainArg = true) (hlen : ts.length = vs.length) (h : ATs g A env l H ts vs Q) : AT g A env l H (.Tuple ts k pos) (.tuple vs) Q := by
  intro u s Q' R V P
  cases V with
  | @tuple a ws _ ht U =>
    have e := assignEach_plain hp env
    refine wpAny_assign_Tuple hh ht (by rw [e, List.length_map, List.size_toArray, hlen, U.length]) (by rw [e]; exact List.findIdx?_eq_none_iff.mpr fun x hx => by obtain ⟨t, _, rfl⟩ := List.mem_map.mp hx; rfl) fun h' hx => ?_
    rw [e, List.map_map]
    have k : ∀ b o, s.heap.get? b = some o → h'.get? b = some o := fun b o q => hx b o (Nat.ne_of_lt (Heap.lt_size q)) q
    exact ATs.run (s := { s with heap := h' }) h (R.grown k) (U.after R.br (Stp.grown k)) (fun l' H' h'' tk R' S q => P l' H' h'' tk R' ((Stp.grown k).trans S) q)
theorem ATs.nil {Q : PL → PH → Prop} (h : Q l H) : ATs g A env l H [] [] Q := h
theorem ATs.cons {t : Expr} {ts : List Expr} {v : PV} {vs : List PV} {Q : PL → PH → Prop} (h : AT g A env l H t v fun l₁ H₁ => ATs g A env l₁ H₁ ts vs Q) : ATs g A env l H (t :: ts) (v :: vs) Q := h

/-- an assignment to a tuple of names (no display on the right) -/
theorem ST.assignT {ts : List Expr} {k : Nat} {tp pos : Pos} {e : Expr} {Q : PF → PL → PH → Prop} (hs : ∀ env, swapsWith e (some (.Tuple ts k tp)) pos.line env = pure false) (hsw : ∀ env, swappedStores [.Tuple ts k tp] e env = pure none)
    (h : ET g A env l H e fun v H₁ => AT g A env l H₁ (.Tuple ts k tp) v fun l₂ H₂ => Q .next l₂ H₂) : ST g A env l H (.Assign [.Tuple ts k tp] e pos) Q := by
  intro s Q' R P
  show wpAny g.m A (do
    standAt pos
    if ← swapsWithSole [.Tuple ts k tp] e pos.line env then do
      evalThenUse e env fun v => assignAll v ((assignEach [.Tuple ts k tp] env).map (·.2))
      pure .next
    else do
      let v ← eval e env
      assignStores env v (← swappedStores [.Tuple ts k tp] e env) ((assignEach [.Tuple ts k tp] env).map (·.2))) Q' noE s
  refine wpAny_bind (wpAny_standAt (wpAny_bind (wpAny_of_eq (hs env) ?_)))
  simp only [Bool.false_eq_true, if_false]
  refine wpAny_bind (h s _ R ?_)
  intro v pv H₁ h₁ t₁ B₁ S₁ V₁ q₁
  refine wpAny_bind (wpAny_of_eq (hsw env) ?_)
  show wpAny g.m A (do PySem.assign (.Tuple ts k tp) env v; pure Flow.next) Q' noE _
  refine wpAny_bind (q₁ v _ _ (R.after B₁ S₁) V₁ ?_)
  intro l₂ H₂ h₂ t₂ R₂ S₂ q₂
  exact wpAny_pure (P .next .next l₂ H₂ h₂ t₂ R₂ (S₁.own.trans S₂) trivial q₂)
end

/-! comprehensions -/
theorem forIn_pure {α β : Type} {l : List α} {f : α → β → Sem (ForInStep β)} (step : α → β → β) : ∀ (c : β), (∀ x ∈ l, ∀ c, f x c = pure (.yield (step x c))) → forIn l c f = pure (l.foldl (fun c x => step x c) c) := by
  induction l with
  | nil => intro c _; rfl
  | cons x l ih =>
    intro c h
    rw [List.forIn_cons, h x List.mem_cons_self, pure_bind]
    exact ih _ fun y hy => h y (List.mem_cons_of_mem _ hy)
noncomputable def clStep (env : Env) (x : Str × NameKind) (cs : List (Str × Addr)) : List (Str × Addr) := if x.2 == .free then (match env.cells.lookup x.1 with | some a => (x.1, a) :: cs | none => cs) else cs
noncomputable def clOf (scope : Scope) (env : Env) : List (Str × Addr) := scope.names.foldl (fun c x => clStep env x c) []
theorem closure_ok {scope : Scope} {env : Env} (h : ∀ p ∈ scope.names, p.2 = .free → (env.cells.lookup p.1).isSome = true) : closureFor scope env = pure (clOf scope env) := by
  simp only [closureFor]
  rw [forIn_pure (clStep env) [] (fun x hx c => ?_)]
  · rfl
  · obtain ⟨n, kind⟩ := x
    by_cases hk : (kind == NameKind.free) = true
    · obtain ⟨a, ha⟩ := Option.isSome_iff_exists.mp (h _ hx (by simpa using hk))
      simp only [hk, if_true, clStep, cellOf, ha]
      rfl
    · simp only [Bool.not_eq_true] at hk
      simp only [hk, Bool.false_eq_true, if_false, clStep]
theorem cl_sound {env : Env} : ∀ (ns : List (Str × NameKind)) (cs : List (Str × Addr)), (∀ n c, cs.lookup n = some c → env.cells.lookup n = some c) → ∀ n c, (ns.foldl (fun c x => clStep env x c) cs).lookup n = some c → env.cells.lookup n = some c
  | [], _, h => h
  | x :: ns, cs, h => by
    refine cl_sound ns (clStep env x cs) fun n c e => ?_
    unfold clStep at e
    split at e
    · split at e
      · rename_i a ha
        rw [List.lookup_cons] at e
        by_cases z : n = x.1
        · subst z; rw [show (x.1 == x.1) = true from beq_iff_eq.mpr rfl] at e; rw [← Option.some.inj e]; exact ha
        · rw [show (n == x.1) = false from beq_eq_false_iff_ne.mpr z] at e; exact h n c e
      · exact h n c e
    · exact h n c e
theorem cl_keep {env : Env} {n : Str} : ∀ (ns : List (Str × NameKind)) (cs : List (Str × Addr)), (cs.lookup n).isSome = true → ((ns.foldl (fun c x => clStep env x c) cs).lookup n).isSome = true
  | [], _, h => h
  | x :: ns, cs, h => by
    refine cl_keep ns (clStep env x cs) ?_
    unfold clStep
    split
    · split
      · rw [List.lookup_cons]; split <;> first | rfl | exact h
      · exact h
    · exact h
theorem cl_has {env : Env} {n : Str} : ∀ (ns : List (Str × NameKind)) (cs : List (Str × Addr)), (n, NameKind.free) ∈ ns → (env.cells.lookup n).isSome = true → ((ns.foldl (fun c x => clStep env x c) cs).lookup n).isSome = true
  | x :: ns, cs, hm, h => by
    rcases List.mem_cons.mp hm with e | hm
    · subst e
      refine cl_keep ns _ ?_
      unfold clStep
      obtain ⟨a, ha⟩ := Option.isSome_iff_exists.mp h
      simp only [beq_self_eq_true, if_true, ha]
      rw [List.lookup_cons, show (n == n) = true from beq_iff_eq.mpr rfl]; rfl
    · exact cl_has ns _ hm h
theorem lookup_map_snd {f : Str → NameKind → NameKind} {y : Str} : ∀ (ns : List (Str × NameKind)), (ns.map fun p => (p.1, f p.1 p.2)).lookup y = (ns.lookup y).map (f y)
  | [] => rfl
  | (n, k) :: ns => by
    rw [List.map_cons, List.lookup_cons, List.lookup_cons]
    by_cases z : y = n
    · subst z; rw [show (y == y) = true from beq_iff_eq.mpr rfl]; rfl
    · rw [show (y == n) = false from beq_eq_false_iff_ne.mpr z]; exact lookup_map_snd ns
theorem relabel_names (scope : Scope) (env : Env) : (relabel scope env).names = scope.names.map fun p => (p.1, if (p.2 == .free && env.scope.kind == .function && env.kindOf p.1 == some .cell) then .cell else p.2) := by
  unfold relabel
  dsimp only
  refine List.map_congr_left fun p _ => ?_
  obtain ⟨n, k⟩ := p
  dsimp only
  split <;> rfl

/-- the scope of a comprehension, as the text has it -/
structure CompOk (scope : Scope) (env : Env) : Prop where
  kind : scope.kind = .function
  cell : ∀ p ∈ scope.names, p.2 ≠ .cell
  loc : ∀ p ∈ scope.names, p.2 = .local → scope.names.lookup p.1 = some .local
  free : ∀ p ∈ scope.names, p.2 = .free → env.kindOf p.1 = some .cell
noncomputable def lcap (scope : Scope) (l : PL) : PL := fun y => if scope.names.lookup y = some .free then l y else none

section
variable {g : Gd} {A : Around} {env : Env} {l : PL} {H : PH}
theorem CompOk.closure {scope : Scope} {h : Heap} (O : CompOk scope env) (R : ER g env l H h) : closureFor scope env = pure (clOf scope env) := closure_ok fun p hp e => R.has _ (O.free p hp e)
/-- the comprehension's own environment -/
theorem ER.comp {scope : Scope} {h h' : Heap} {C : Addr} {m : Str → Option Value} (O : CompOk scope env) (E : EnvOk env) (R : ER g env l H h) (k : ∀ b o, h.get? b = some o → h'.get? b = some o) (hC : h'.Ns C m) (nC : H C = none) (gC : g.G.get? C = none) :
    ER g (compEnvC scope (clOf scope env) C env) (lcap scope l) H h' := by
  have kd : ∀ y, (compEnvC scope (clOf scope env) C env).kindOf y = (scope.names.lookup y).map fun q => if (q == .free && env.scope.kind == .function && env.kindOf y == some .cell) then .cell else q := fun y => by
    show (relabel scope env).names.lookup y = _
    rw [relabel_names]
    exact lookup_map_snd (f := fun n q => if (q == .free && env.scope.kind == .function && env.kindOf n == some .cell) then .cell else q) scope.names
  have free : ∀ y, scope.names.lookup y = some .free → env.kindOf y = some .cell ∧ (compEnvC scope (clOf scope env) C env).kindOf y = some .cell := fun y e => by
    have c := O.free _ (lookup_mem _ e) rfl
    refine ⟨c, ?_⟩
    rw [kd, e, Option.map_some, c, E.kind]; rfl
  have R' := R.grown k
  refine ⟨R'.br, ⟨m, hC, fun x pv e kk => ?_⟩, fun x pv e kk => ?_, nC, gC, fun x c e => R'.cells x c (cl_sound _ _ (fun _ _ q => by cases q) _ _ e), fun x y c e e' => R'.inj x y c (cl_sound _ _ (fun _ _ q => by cases q) _ _ e) (cl_sound _ _ (fun _ _ q => by cases q) _ _ e'), fun x e => ?_⟩
  · unfold lcap at e
    split at e
    · rename_i f; rw [(free x f).2] at kk; cases kk
    · cases e
  · unfold lcap at e
    split at e
    · rename_i f
      obtain ⟨c, c'⟩ := free x f
      obtain ⟨_, v, a, V, hc, hcell⟩ := R'.nc x pv e (by rw [c]; decide)
      obtain ⟨a', ha'⟩ := Option.isSome_iff_exists.mp (cl_has (env := env) scope.names [] (lookup_mem _ f) (by rw [hc]; rfl))
      have := cl_sound scope.names [] (fun _ _ q => by cases q) _ _ ha'
      rw [hc] at this; obtain rfl := Option.some.inj this
      exact ⟨.inl c', v, a, V, ha', hcell⟩
    · cases e
  · rw [kd] at e
    obtain ⟨q, hq, e'⟩ := Option.map_eq_some_iff.mp e
    have hm := lookup_mem _ hq
    have qf : q = .free := by
      by_cases z : q = .free
      · exact z
      · have : (q == NameKind.free) = false := beq_eq_false_iff_ne.mpr z
        rw [this] at e'
        simp only [Bool.false_and, Bool.false_eq_true, if_false] at e'
        exact absurd e' (O.cell _ hm)
    subst qf
    exact cl_has scope.names [] hm (R.has x (O.free _ hm rfl))
theorem compEnvOk {scope : Scope} {C : Addr} {cl : List (Str × Addr)} (O : CompOk scope env) (E : EnvOk env) : EnvOk (compEnvC scope cl C env) := ⟨O.kind, E.globals, E.builtins⟩

/-- one address of our own has turned -/
theorem ER.same {b₀ : Addr} {h h' : Heap} {o₀ : Obj} (R : ER g env l H h) (hs : Heap.SameBut b₀ h h') (e₀ : h.get? b₀ = some o₀) (hb : H b₀ = none) (gb : g.G.get? b₀ = none) (W : OwnOk (fun b => b = b₀) h) (nL : env.locals ≠ b₀) (nc : ∀ v, o₀.data ≠ .cell v) : ER g env l H h' := by
  have S : Kp (fun b => b = b₀) H h H h' := Kp.same hs
  have B := R.br.same S W hs hb gb
  have cl : ∀ c w, h.IsCell c w → h'.IsCell c w := fun c w ⟨o, e, d⟩ => ⟨o, (hs.2 c fun z => by rw [show c = b₀ from z, e₀] at e; obtain rfl := Option.some.inj e; exact nc _ d).trans e, d⟩
  refine ⟨B, ?_, fun x pv e kd => ?_, R.hl, R.gl, fun x c e => ?_, R.inj, R.has⟩
  · obtain ⟨m, hn, q⟩ := R.ns
    refine ⟨m, hn.sameBut hs nL, fun x pv e kd => ?_⟩
    obtain ⟨v, V, hm⟩ := q x pv e kd
    exact ⟨v, V.step R.br S W, hm⟩
  · obtain ⟨a, v, c, V, hc, hcell⟩ := R.nc x pv e kd
    exact ⟨a, v, c, V.step R.br S W, hc, cl _ _ hcell⟩
  · obtain ⟨a, w, hw⟩ := R.cells x c e
    exact ⟨a, w, cl _ _ hw⟩
theorem BR.add {h : Heap} (B : BR g H h) {a : Addr} {po : PO} (n : H a = none) (hg : g.G.get? a = none ∧ 2 < a) (O : OR g H h a po) : BR g (hup H a po) h := by
  have S : Kp noOwn H h (hup H a po) h := ⟨fun _ _ e _ _ => e, fun b e => by rw [hup_ne (fun z => by rw [show b = a from z, n] at e; cases e)]; exact e⟩
  refine ⟨B.keep, fun b q e => ?_⟩
  by_cases z : b = a
  · subst z; rw [hup_at] at e; obtain rfl := Option.some.inj e; exact ⟨OR.step B S (noOwnOk h) (fun _ e => e) O, hg⟩
  · rw [hup_ne z] at e; exact ⟨OR.step B S (noOwnOk h) (fun _ e => e) (B.hr b q e).1, (B.hr b q e).2⟩
theorem StpO.add {own : Addr → Prop} {H' : PH} {h h' : Heap} (S : StpO own H h H' h') {a : Addr} {po : PO} (n : h.get? a = none) (n' : H' a = none) : StpO own H h (hup H' a po) h' :=
  ⟨S.keep, fun b o e q => by rw [hup_ne (fun z => by rw [show b = a from z, n] at e; cases e)]; exact S.dom b o e q, S.alive, fun b e => by
    have := S.idle b e
    rw [hup_ne (fun z => by rw [show b = a from z, n'] at this; cases this)]; exact this⟩

/-- what the tests of a comprehension say -/
noncomputable def TestsT (g : Gd) (A : Around) (env : Env) (l : PL) (H : PH) : List Expr → (Bool → PH → Prop) → Prop
  | [], K => K true H
  | [c], K => BT g A env l H c K
  | _, _ => False
theorem TestsT.run {ifs : List Expr} {K : Bool → PH → Prop} {s : Shared} {Q' : Bool → Shared → Prop} (h : TestsT g A env l H ifs K) (R : ER g env l H s.heap) (P : PostB g H s K Q') :
    wpAny g.m A (forIn ifs true fun c r => if r = true then do let ok ← isTrue c env (eval c env); pure (ForInStep.yield ok) else pure (ForInStep.yield r)) Q' noE s := by
  match ifs, h with
  | [], h => exact wpAny_tests_nil (P true H s.heap s.toks R.br (Stp.refl _ _) h)
  | [c], h =>
    rw [List.forIn_cons]
    simp only [if_true]
    refine wpAny_bind (wpAny_bind (h s _ R ?_))
    intro b H' h' tk B S q
    refine wpAny_pure ?_
    show wpAny g.m A (forIn [] b _) Q' noE _
    rw [List.forIn_nil]
    exact wpAny_pure (P b H' h' tk B S q)
end
end Mine
end
section
open PySem PySem.W PyProof.Rows PySem.Calls PySem.Spec
set_option maxRecDepth 100000

namespace Mine
section
variable {g : Gd} {A : Around} {env : Env} {l : PL} {H : PH}

/-- what is wanted of a list comprehension's turns -/
noncomputable def CompL (g : Gd) (A : Around) (env : Env) (scope : Scope) (l : PL) (tgt : Expr) (ifs : List Expr) (elt : Expr) (C : PH → Prop) (Q : List PV → PH → Prop) : List PV → List PV → PH → Prop
  | [], acc, H => acc.length ≤ sizeLine ∧ Q acc H
  | v :: r, acc, H => ∀ cl L, EnvOk (compEnvC scope cl L env) → AT g A (compEnvC scope cl L env) (lcap scope l) H tgt v fun l₁ H₁ =>
      TestsT g A (compEnvC scope cl L env) l₁ H₁ ifs fun b H₂ => if b = true then
        ET g A (compEnvC scope cl L env) l₁ H₂ elt fun d H₃ => C H₃ ∧ acc.length ≤ sizeLine ∧ CompL g A env scope l tgt ifs elt C Q r (acc ++ [d]) H₃
      else C H₂ ∧ CompL g A env scope l tgt ifs elt C Q r acc H₂

theorem of_pure_any {α β : Type} {M : Model} {a : α} {t : α → Sem β} {Q' : β → Shared → Prop} {E E' : Value → Shared → Prop} {s : Shared} (w : wpAny M A (pure a) (fun x s => wpAny M A (t x) Q' E s) E' s) : wpAny M A (t a) Q' E s := fun Γ p hΓ => by
  have := w Γ p hΓ
  rw [Sem.wp_pure'] at this
  exact this Γ p hΓ
theorem ownC {scope : Scope} {cl : List (Str × Addr)} {L b : Addr} (w : ownOf (compEnvC scope cl L env) b) : b = L := by
  rcases w with w | ⟨w, _⟩
  · exact w
  · cases w

theorem lcap_kind {scope : Scope} {cl : List (Str × Addr)} {L : Addr} (O : CompOk scope env) (E : EnvOk env) : ∀ x pv, lcap scope l x = some pv → (compEnvC scope cl L env).kindOf x ≠ some .local := by
  intro x pv e
  unfold lcap at e
  split at e
  · rename_i f
    have kd : (compEnvC scope cl L env).kindOf x = (scope.names.lookup x).map fun q => if (q == .free && env.scope.kind == .function && env.kindOf x == some .cell) then .cell else q := by
      show (relabel scope env).names.lookup x = _
      rw [relabel_names]
      exact lookup_map_snd (f := fun n q => if (q == .free && env.scope.kind == .function && env.kindOf n == some .cell) then .cell else q) scope.names
    rw [kd, f, Option.map_some, O.free _ (lookup_mem _ f) rfl, E.kind]
    decide
  · cases e
theorem ER.again {own : Addr → Prop} {lx : PL} {H' : PH} {h h' : Heap} (R₂ : ER g env l H h) (R₃ : ER g env lx H' h') (S : StpO own H h H' h') (hown : ∀ b, own b → b = env.locals) (hl : ∀ x pv, l x = some pv → env.kindOf x ≠ some .local) : ER g env l H' h' := by
  obtain ⟨m, ⟨oL, es, ep, eL, dL, _⟩, _⟩ := R₂.ns
  have W : OwnOk own h := by
    intro b o w e
    rw [hown b w, eL] at e; obtain rfl := Option.some.inj e; exact .inl ⟨es, ep, dL⟩
  refine ⟨R₃.br, ?_, fun x pv e kd => ?_, R₃.hl, R₃.gl, R₃.cells, R₃.inj, R₃.has⟩
  · obtain ⟨m', hn', _⟩ := R₃.ns
    exact ⟨m', hn', fun x pv e k => absurd k (hl x pv e)⟩
  · obtain ⟨a, v, c, V, hc, o, ho, hd⟩ := R₂.nc x pv e kd
    refine ⟨a, v, c, V.step R₂.br S.kp W, hc, o, S.keep c o ho (R₂.br.fixed ho (.inr (.inr (.inl ⟨_, hd⟩)))) (fun w => ?_), hd⟩
    rw [hown c w, eL] at ho; obtain rfl := Option.some.inj ho; rw [dL] at hd; cases hd

/-- the state of a list comprehension between two turns -/
inductive CLst (g : Gd) (A : Around) (env cenv : Env) (scope : Scope) (l : PL) (tgt : Expr) (ifs : List Expr) (elt : Expr) (C : PH → Prop) (Q : List PV → PH → Prop) (s : Shared) (H : PH) (St : List PV → PH → Heap → Prop) (I D : Addr) (n : Nat) (s' : Shared) : Prop where
  | mk (r : List PV) (H' : PH) (h' : Heap) (tk : Nat) (ws : List Value) (k : Nat) (acc : List PV) (_ : s' = { s with heap := h', toks := tk }) (_ : ER g cenv (lcap scope l) H' h') (_ : Stp H s.heap H' h') (_ : St r H' h') (_ : H' I = none) (_ : H' D = none) (_ : h'.get? D = some (listOf ws.toArray k)) (_ : VRs H' h' ws acc) (_ : C H') (_ : CompL g A env scope l tgt ifs elt C Q r acc H') (_ : n = r.length) : CLst g A env cenv scope l tgt ifs elt C Q s H St I D n s'
/-- what a turn's end has kept -/
structure CFin (g : Gd) (cenv : Env) (lx : PL) (s : Shared) (H : PH) (St : List PV → PH → Heap → Prop) (I D : Addr) (r : List PV) (H₃ : PH) (h₃ : Heap) : Prop where
  a1 : ER g cenv lx H₃ h₃
  a2 : Stp H s.heap H₃ h₃
  a3 : St r H₃ h₃
  a4 : H₃ I = none
  a5 : H₃ D = none
theorem cfin {cenv : Env} {lx l₃ : PL} {s : Shared} {H H' H₃ : PH} {h₂ h₃ : Heap} {St : List PV → PH → Heap → Prop} {I D L : Addr} {r : List PV} (sL' : s.heap.get? L = none) (hown : ∀ b, ownOf cenv b → b = L) (R₂ : ER g cenv lx H' h₂) (S₂ : Stp H s.heap H' h₂) (hcl : cenv.locals = L)
    (hI : ∃ o vs, h₂.get? I = some o ∧ o.data = .fields vs) (hI' : H' I = none) (hD : ∃ o, h₂.get? D = some o) (hD' : H' D = none)
    (frame : ∀ (H₃ : PH) (h₃ : Heap), (∀ o, h₂.get? I = some o → h₃.get? I = some o) → (∀ ws ds, VRs H' h₂ ws ds → VRs H₃ h₃ ws ds) → (∀ b o, h₂.get? b = some o → o.cls = .type "tuple" → (∃ xs n, o.data = .seq xs n) → h₃.get? b = some o) → St r H₃ h₃)
    (hl : ∀ x pv, lx x = some pv → cenv.kindOf x ≠ some .local) (R₃ : ER g cenv l₃ H₃ h₃) (S₃ : StpO (ownOf cenv) H' h₂ H₃ h₃) : CFin g cenv lx s H St I D r H₃ h₃ := by
  obtain ⟨oI, vsI, eI, dI⟩ := hI
  obtain ⟨oD, eD⟩ := hD
  have W₃ := R₂.ownOk
  have notI : ¬ ownOf cenv I := fun w => by
    obtain ⟨m, ⟨o', es, ep, e', d', _⟩, _⟩ := R₂.ns
    rw [hcl, ← hown I w, eI] at e'
    obtain rfl := Option.some.inj e'; rw [dI] at d'; cases d'
  refine ⟨R₂.again R₃ S₃ (fun b w => (hown b w).trans hcl.symm) hl, ?_, ?_, S₃.dom I _ eI hI', S₃.dom D _ eD hD'⟩
  · refine ⟨fun b o e n _ => S₃.keep b o (S₂.keep b o e n id) (S₂.dom b o e n) (fun w => by rw [hown b w, sL'] at e; cases e), fun b o e n => ?_, fun b o e => ?_, fun b e => S₃.idle b (S₂.idle b e)⟩
    · obtain ⟨o', e'⟩ := S₂.alive b o e; exact S₃.dom b o' e' (S₂.dom b o e n)
    · obtain ⟨o', e'⟩ := S₂.alive b o e; exact S₃.alive b o' e'
  · refine frame H₃ h₃ (fun o e => S₃.keep _ o e hI' notI) (fun ws ds z => z.step R₂.br S₃.kp W₃) fun b o e c d => ?_
    obtain ⟨xs, n, d⟩ := d
    exact S₃.keep b o e (R₂.br.fixed e (.inl ⟨c, xs, n, d⟩)) (W₃.seq e c d)

theorem comp_list {scope : Scope} {x : Str} {xp : Pos} {iter elt : Expr} {ifs : List Expr} {pos : Pos} {Q : List PV → PH → Prop} {s : Shared} {RR : Value → Addr → Result → Shared → Prop} (hG : g.Ok) (O : CompOk scope env) (E : EnvOk env) (R : ER g env l H s.heap)
    (h : IT g A env l H (.Name x xp) iter fun items C H₁ => CompL g A env scope l (.Name x xp) ifs elt C Q items [] H₁)
    (hRR : ∀ D C h' tk H' acc, BR g (hup H' D (.list acc)) h' → Stp H s.heap (hup H' D (.list acc)) h' → (∃ m, h'.Ns C m) → s.heap.get? C = none → H' C = none → C ≠ D → g.G.get? C = none → H' D = none → Q acc H' → RR (.ref D) C (.ok .next) { s with heap := h', toks := tk }) :
    wpAny g.m A (eval iter env) (fun xv s₁ => wpAny g.m A (pyIter xv) (fun it s₂ => wpAny g.m A (newList []) (fun acc s₃ => wpAny g.m A (newFunctionEnv scope env.globals (clOf scope env) [] env.qual none .none (some env)) (fun cenv s₄ =>
      codeAny g.m A (.compStart (.ListComp elt [⟨.Name x xp, iter, ifs, 0⟩] scope pos) 0 it acc { cenv with scope := relabel scope env }) (RR acc cenv.locals) s₄) noE s₃) noE s₂) noE s₁) noE s := by
  refine h s _ R ?_
  intro I items C St H₁ h₁ tk₁ W B₁ S₁ st hI nI hC q
  have gI : g.G.get? I = none := by
    cases z : g.G.get? I with
    | none => rfl
    | some o => have := R.br.keep _ o z; rw [nI] at this; cases this
  refine wpAny_newObj_type ?_
  generalize hD0 : h₁.push { cls := Value.type "list", dict := none, data := Data.seq ([] : List Value).toArray } = hD
  have kD : ∀ b o, h₁.get? b = some o → hD.get? b = some o := fun b o e => hD0 ▸ Heap.get?_push_of_some _ e
  have eD : hD.get? h₁.objs.size = some (listOf ([] : List Value).toArray 0) := hD0 ▸ Heap.get?_push_size _ rfl
  have sD : hD.objs.size = h₁.objs.size + 1 := by rw [← hD0, Heap.size_push]
  refine wpAny_newFunctionEnv O.cell (by intro y hy; simp at hy) (fun hE hns hsb => ?_) O.kind
  dsimp only at hns hsb ⊢
  have kE : ∀ b o, hD.get? b = some o → hE.get? b = some o := fun b o e => hsb.extBut b o (Nat.ne_of_lt (Heap.lt_size e)) (Heap.get?_push_of_some _ e)
  have kDE : ∀ b o, h₁.get? b = some o → hE.get? b = some o := fun b o e => kE b o (kD b o e)
  generalize hL : hD.objs.size = L at hns hsb ⊢
  generalize hDD : h₁.objs.size = D at eD sD ⊢
  have LD : L ≠ D := by rw [← hL, sD]; exact Nat.succ_ne_self _
  have BD : BR g H₁ hD := B₁.grown kD
  have nL : H₁ L = none := hL ▸ BD.fresh
  have gL : g.G.get? L = none := hL ▸ BD.gfresh
  have nD : H₁ D = none := hDD ▸ B₁.fresh
  have gD : g.G.get? D = none := hDD ▸ B₁.gfresh
  have lowD : 2 < D := hDD ▸ low (s := { s with heap := h₁, toks := tk₁ }) hG B₁
  have sfresh : ∀ b, h₁.objs.size ≤ b → s.heap.get? b = none := fun b hb => by
    cases z : s.heap.get? b with
    | none => rfl
    | some o => obtain ⟨o', e'⟩ := S₁.alive _ o z; exact absurd (Heap.lt_size e') (Nat.not_lt.mpr hb)
  have sD' : s.heap.get? D = none := sfresh D (hDD ▸ Nat.le_refl _)
  have sL' : s.heap.get? L = none := sfresh L (by rw [← hL, sD, hDD]; exact Nat.le_succ _)
  have RE : ER g (compEnvC scope (clOf scope env) L env) (lcap scope l) H₁ hE := (R.after B₁ S₁).comp O E kDE hns nL gL
  have SE : Stp H s.heap H₁ hE := S₁.trans (Stp.grown kDE)
  have stE : St items H₁ hE := W.frame _ _ _ _ _ st (fun o e => kDE _ o e) (fun ws ds z => z.step B₁ (Stp.grown (own := noOwn) kDE).kp (noOwnOk _)) (fun b o e _ _ => kDE b o e)
  have O' : EnvOk (compEnvC scope (clOf scope env) L env) := compEnvOk O E
  show codeAny g.m A (.compStart (.ListComp elt [⟨.Name x xp, iter, ifs, 0⟩] scope pos) 0 (.ref I) (.ref D) (compEnvC scope (clOf scope env) L env)) (RR (.ref D) L) _
  have loop : codeAny g.m A (.compLoop (.ListComp elt [⟨.Name x xp, iter, ifs, 0⟩] scope pos) 0 (.ref I) (.ref D) (compEnvC scope (clOf scope env) L env)) (RR (.ref D) L) { s with heap := hE, toks := tk₁ + ([] : List (Str × Value)).length } := by
    refine codeAny_compLoop_tests (CLst g A env (compEnvC scope (clOf scope env) L env) scope l (.Name x xp) ifs elt C Q s H St I D) ?_ items.length
      ⟨items, H₁, hE, _, [], 0, [], rfl, RE, SE, stE, hI, nD, kE _ _ eD, .nil, hC, q, rfl⟩
    rintro n s' ⟨r, H', h', tk, ws, k, acc, rfl, R', S', st', hI', hD', eD', U, hC', q', rfl⟩
    have IneD : I ≠ D := fun z => by
      obtain ⟨o, vs, e, d, _⟩ := W.fld _ _ _ st'
      rw [z, eD'] at e; obtain rfl := Option.some.inj e; cases d
    cases r with
    | nil =>
      refine wpAny_mono (W.done H' { s with heap := h', toks := tk } (fun s₁ => RR (.ref D) L (.ok .next) s₁) st' R'.br hC' ?_) (fun x s₁ w => ?_) noted_noE
      · intro h₂ tk₂ k₂
        obtain ⟨B₂, K₂, W₂⟩ := R'.br.touch k₂ (W.fld _ _ _ st') hI' gI
        have S₃ := past S' nI k₂
        have R₂ := R'.touch k₂ (W.fld _ _ _ st') hI' gI
        exact hRR D L h₂ tk₂ H' acc (B₂.add hD' ⟨gD, lowD⟩ (show OR g _ h₂ D (.list acc) from ⟨ws, k, k₂ D _ (Ne.symm IneD) eD', U.step R'.br K₂ W₂⟩)) (S₃.add sD' hD') (let ⟨m, hn, _⟩ := R₂.ns; ⟨m, hn⟩) sL' R₂.hl LD gL hD' q'.2
      · cases x with
        | none => exact w
        | some u => exact w.elim
    | cons v r =>
      let J : Shared → Prop := fun s₅ => ∃ m, m < (v :: r).length ∧ CLst g A env (compEnvC scope (clOf scope env) L env) scope l (.Name x xp) ifs elt C Q s H St I D m s₅
      refine wpAny_mono (W.item v r H' { s with heap := h', toks := tk } (fun u s₂ => wpAny g.m A (PySem.assign (.Name x xp) (compEnvC scope (clOf scope env) L env) u) (fun _ s₃ => wpAny g.m A (forIn ifs true fun c r => if r = true then do let ok ← isTrue c (compEnvC scope (clOf scope env) L env) (eval c (compEnvC scope (clOf scope env) L env)); pure (ForInStep.yield ok) else pure (ForInStep.yield r))
        (fun ok s₄ => if ok = true then wpAny g.m A (eval elt (compEnvC scope (clOf scope env) L env)) (fun y s₅ => wpAny g.m A (call (.builtin "list.append") [.ref D, y]) (fun _ s₆ => J s₆) noE s₅) noE s₄ else J s₄) noE s₃) noE s₂) st' R'.br hC' hI' ?_) (fun x s₁ w => ?_) noted_noE
      · intro u h₂ tk₂ k₂ V₂ st₂
        obtain ⟨_, K₂, W₂⟩ := R'.br.touch k₂ (W.fld _ _ _ st') hI' gI
        have R₂ := R'.touch k₂ (W.fld _ _ _ st') hI' gI
        have S₂ := past S' nI k₂
        have e₂ := k₂ D _ (Ne.symm IneD) eD'
        have U₂ := U.step R'.br K₂ W₂
        obtain ⟨oI, vsI, eI, dI, _⟩ := W.fld _ _ _ st₂
        have hown : ∀ b, ownOf (compEnvC scope (clOf scope env) L env) b → b = L := fun b w => ownC w
        -- the end of a turn, from a heap that has kept what is ours
        have fin : ∀ {lx : PL} {H₃ : PH} {h₃ : Heap}, ER g (compEnvC scope (clOf scope env) L env) lx H₃ h₃ → StpO (ownOf (compEnvC scope (clOf scope env) L env)) H' h₂ H₃ h₃ → CFin g (compEnvC scope (clOf scope env) L env) (lcap scope l) s H St I D r H₃ h₃ := fun R₃ S₃ =>
          cfin sL' hown R₂ S₂ rfl ⟨oI, vsI, eI, dI⟩ hI' ⟨_, e₂⟩ hD' (fun H₃ h₃ f1 f2 f3 => W.frame r H' h₂ H₃ h₃ st₂ f1 f2 f3) (lcap_kind O E) R₃ S₃
        have notD : ¬ ownOf (compEnvC scope (clOf scope env) L env) D := fun w => LD (hown D w).symm
        refine q' (clOf scope env) L O' u { s with heap := h₂, toks := tk₂ } _ R₂ V₂ ?_
        intro l₃ H₃ h₃ tk₃ R₃ S₃ q₃
        refine q₃.run R₃ ?_
        intro b H₄ h₄ tk₄ B₄ S₄ q₄
        have R₄ := R₃.after B₄ S₄
        have S₃₄ := S₃.trans S₄.own
        cases b with
        | false =>
          simp only [Bool.false_eq_true, if_false] at q₄ ⊢
          obtain ⟨a1, a2, a3, a4, a5⟩ := fin R₄ S₃₄
          have a6 := S₃₄.keep D _ e₂ hD' notD
          have a7 := U₂.step R₂.br S₃₄.kp R₂.ownOk
          exact ⟨r.length, Nat.lt_succ_self _, r, H₄, h₄, tk₄, ws, k, acc, rfl, a1, a2, a3, a4, a5, a6, a7, q₄.1, q₄.2, rfl⟩
        | true =>
          simp only [if_true] at q₄ ⊢
          refine q₄ _ _ R₄ ?_
          intro y d H₅ h₅ tk₅ B₅ S₅ V₅ q₅
          obtain ⟨c₅, hsz, q₅⟩ := q₅
          obtain ⟨a1, a2, a3, a4, a5⟩ := fin (R₄.after B₅ S₅) (S₃₄.trans (Stp.own S₅))
          have a6 := (S₃₄.trans (Stp.own S₅)).keep D _ e₂ hD' notD
          have a7 := U₂.step R₂.br (S₃₄.trans (Stp.own S₅)).kp R₂.ownOk
          refine append_at a6 (fun h₆ hs₆ e₆ => ?_) (by rw [List.size_toArray, a7.length]; exact hsz)
          have W₆ : OwnOk (fun b => b = D) h₅ := by
            rintro b o rfl e; rw [a6] at e; obtain rfl := Option.some.inj e; exact .inr (.inr (.inr ⟨_, _, rfl, rfl⟩))
          have R₆ := a1.same hs₆ a6 a5 gD W₆ LD (fun v z => by cases z)
          have S₆ : StpO (fun b => b = D) H₅ h₅ H₅ h₆ := Stp.same hs₆ e₆ rfl
          obtain ⟨oI₅, vI₅, eI₅, _, _⟩ := W.fld _ _ _ a3
          refine ⟨r.length, Nat.lt_succ_self _, r, H₅, h₆, _, ws ++ [y], k + 1, acc ++ [d], rfl, R₆, ?_, ?_, a4, a5, by rw [e₆]; simp [PySem.W.listOf], (a7.append (.cons V₅ .nil)).step a1.br S₆.kp W₆, c₅, q₅, rfl⟩
          · exact ⟨fun b o e n _ => S₆.keep b o (a2.keep b o e n id) (a2.dom b o e n) (fun w => by rw [show b = D from w, sD'] at e; cases e), a2.dom, fun b o e => by
              obtain ⟨o', e'⟩ := a2.alive b o e
              exact S₆.alive b o' e', a2.idle⟩
          · refine W.frame r H₅ h₅ H₅ h₆ a3 (fun o e => (hs₆.2 I IneD).trans e) (fun ws ds z => z.step a1.br S₆.kp W₆) fun b o e c dd => ?_
            refine (hs₆.2 b fun z => ?_).trans e
            rw [show b = D from z, a6] at e; obtain rfl := Option.some.inj e
            exact absurd (show Value.type "list" = Value.type "tuple" from c) (by decide)
      · cases x with
        | none => exact w.elim
        | some u =>
          have w' := of_pure_any (show wpAny g.m A (pure ()) _ noE s₁ from w)
          refine wpAny_mono w' (fun _ s₂ z => wpAny_mono z (fun ok s₃ y => ?_) noted_noE) noted_noE
          cases ok with
          | false => exact y
          | true => exact wpAny_mono y (fun _ s₄ z => wpAny_mono z (fun _ _ z => z) noted_noE) noted_noE
  exact codeAny_compStart_list loop (wpAny_mono (W.self _ _ _ _ stE loop) (fun _ _ z => z) noted_noE)

/-- what is wanted of a dict comprehension's turns -/
noncomputable def CompD {K : Type} [DecidableEq K] (DD : DK g K) (A : Around) (env : Env) (scope : Scope) (l : PL) (tgt : Expr) (ifs : List Expr) (kx vx : Expr) (C : PH → Prop) (Q : List (K × PV) → PH → Prop) : List PV → List (K × PV) → PH → Prop
  | [], acc, H => Q acc H
  | v :: r, acc, H => ∀ cl L, EnvOk (compEnvC scope cl L env) → AT g A (compEnvC scope cl L env) (lcap scope l) H tgt v fun l₁ H₁ =>
      TestsT g A (compEnvC scope cl L env) l₁ H₁ ifs fun b H₂ => if b = true then
        ET g A (compEnvC scope cl L env) l₁ H₂ kx fun kd H₃ => ET g A (compEnvC scope cl L env) l₁ H₃ vx fun d H₄ => C H₄ ∧ ∃ key, kd = DD.val key ∧ acc.length ≤ sizeLine ∧ CompD DD A env scope l tgt ifs kx vx C Q r (dset acc key d) H₄
      else C H₂ ∧ CompD DD A env scope l tgt ifs kx vx C Q r acc H₂

/-- the state of a dict comprehension between two turns -/
inductive CDst {K : Type} [DecidableEq K] (g : Gd) (DD : DK g K) (A : Around) (env cenv : Env) (scope : Scope) (l : PL) (tgt : Expr) (ifs : List Expr) (kx vx : Expr) (C : PH → Prop) (Q : List (K × PV) → PH → Prop) (s : Shared) (H : PH) (St : List PV → PH → Heap → Prop) (I D : Addr) (n : Nat) (s' : Shared) : Prop where
  | mk (r : List PV) (H' : PH) (h' : Heap) (tk : Nat) (ws : List (K × Value)) (acc : List (K × PV)) (_ : s' = { s with heap := h', toks := tk }) (_ : ER g cenv (lcap scope l) H' h') (_ : Stp H s.heap H' h') (_ : St r H' h') (_ : H' I = none) (_ : H' D = none) (_ : h'.DictOf DD.knd D ws) (_ : KV H' h' ws acc) (_ : C H') (_ : CompD DD A env scope l tgt ifs kx vx C Q r acc H') (_ : n = r.length) : CDst g DD A env cenv scope l tgt ifs kx vx C Q s H St I D n s'
theorem comp_dict {K : Type} [DecidableEq K] (DD : DK g K) {scope : Scope} {x : Str} {xp : Pos} {iter kx vx : Expr} {ifs : List Expr} {pos : Pos} {Q : List (K × PV) → PH → Prop} {s : Shared} {RR : Value → Addr → Result → Shared → Prop} (hG : g.Ok) (O : CompOk scope env) (E : EnvOk env) (R : ER g env l H s.heap)
    (h : IT g A env l H (.Name x xp) iter fun items C H₁ => CompD DD A env scope l (.Name x xp) ifs kx vx C Q items [] H₁)
    (hRR : ∀ D C h' tk H' acc ep, BR g (hup H' D (DD.pack acc ep)) h' → Stp H s.heap (hup H' D (DD.pack acc ep)) h' → (∃ m, h'.Ns C m) → s.heap.get? C = none → H' C = none → C ≠ D → g.G.get? C = none → H' D = none → Q acc H' → RR (.ref D) C (.ok .next) { s with heap := h', toks := tk }) :
    wpAny g.m A (eval iter env) (fun xv s₁ => wpAny g.m A (pyIter xv) (fun it s₂ => wpAny g.m A newDict (fun acc s₃ => wpAny g.m A (newFunctionEnv scope env.globals (clOf scope env) [] env.qual none .none (some env)) (fun cenv s₄ =>
      codeAny g.m A (.compStart (.DictComp kx vx [⟨.Name x xp, iter, ifs, 0⟩] scope pos) 0 it acc { cenv with scope := relabel scope env }) (RR acc cenv.locals) s₄) noE s₃) noE s₂) noE s₁) noE s := by
  refine h s _ R ?_
  intro I items C St H₁ h₁ tk₁ W B₁ S₁ st hI nI hC q
  have gI : g.G.get? I = none := by
    cases z : g.G.get? I with
    | none => rfl
    | some o => have := R.br.keep _ o z; rw [nI] at this; cases this
  refine wpAny_newObj_type ?_
  generalize hD0 : h₁.push { cls := Value.type "dict", dict := none, data := Data.dict #[] } = hD
  have kD : ∀ b o, h₁.get? b = some o → hD.get? b = some o := fun b o e => hD0 ▸ Heap.get?_push_of_some _ e
  have eD : hD.DictOf DD.knd h₁.objs.size [] := hD0 ▸ Heap.DictOf.new h₁
  have sD : hD.objs.size = h₁.objs.size + 1 := by rw [← hD0, Heap.size_push]
  refine wpAny_newFunctionEnv O.cell (by intro y hy; simp at hy) (fun hE hns hsb => ?_) O.kind
  dsimp only at hns hsb ⊢
  have kE : ∀ b o, hD.get? b = some o → hE.get? b = some o := fun b o e => hsb.extBut b o (Nat.ne_of_lt (Heap.lt_size e)) (Heap.get?_push_of_some _ e)
  have kDE : ∀ b o, h₁.get? b = some o → hE.get? b = some o := fun b o e => kE b o (kD b o e)
  generalize hL : hD.objs.size = L at hns hsb ⊢
  generalize hDD : h₁.objs.size = D at eD sD ⊢
  have LD : L ≠ D := by rw [← hL, sD]; exact Nat.succ_ne_self _
  have BD : BR g H₁ hD := B₁.grown kD
  have nL : H₁ L = none := hL ▸ BD.fresh
  have gL : g.G.get? L = none := hL ▸ BD.gfresh
  have nD : H₁ D = none := hDD ▸ B₁.fresh
  have gD : g.G.get? D = none := hDD ▸ B₁.gfresh
  have lowD : 2 < D := hDD ▸ low (s := { s with heap := h₁, toks := tk₁ }) hG B₁
  have sfresh : ∀ b, h₁.objs.size ≤ b → s.heap.get? b = none := fun b hb => by
    cases z : s.heap.get? b with
    | none => rfl
    | some o => obtain ⟨o', e'⟩ := S₁.alive _ o z; exact absurd (Heap.lt_size e') (Nat.not_lt.mpr hb)
  have sD' : s.heap.get? D = none := sfresh D (hDD ▸ Nat.le_refl _)
  have sL' : s.heap.get? L = none := sfresh L (by rw [← hL, sD, hDD]; exact Nat.le_succ _)
  have RE : ER g (compEnvC scope (clOf scope env) L env) (lcap scope l) H₁ hE := (R.after B₁ S₁).comp O E kDE hns nL gL
  have SE : Stp H s.heap H₁ hE := S₁.trans (Stp.grown kDE)
  have stE : St items H₁ hE := W.frame _ _ _ _ _ st (fun o e => kDE _ o e) (fun ws ds z => z.step B₁ (Stp.grown (own := noOwn) kDE).kp (noOwnOk _)) (fun b o e _ _ => kDE b o e)
  have O' : EnvOk (compEnvC scope (clOf scope env) L env) := compEnvOk O E
  show codeAny g.m A (.compStart (.DictComp kx vx [⟨.Name x xp, iter, ifs, 0⟩] scope pos) 0 (.ref I) (.ref D) (compEnvC scope (clOf scope env) L env)) (RR (.ref D) L) _
  have loop : codeAny g.m A (.compLoop (.DictComp kx vx [⟨.Name x xp, iter, ifs, 0⟩] scope pos) 0 (.ref I) (.ref D) (compEnvC scope (clOf scope env) L env)) (RR (.ref D) L) { s with heap := hE, toks := tk₁ + ([] : List (Str × Value)).length } := by
    refine codeAny_compLoop_testsD (CDst g DD A env (compEnvC scope (clOf scope env) L env) scope l (.Name x xp) ifs kx vx C Q s H St I D) ?_ items.length
      ⟨items, H₁, hE, _, [], [], rfl, RE, SE, stE, hI, nD, eD.at fun o e => kE _ o e, trivial, hC, q, rfl⟩
    rintro n s' ⟨r, H', h', tk, ws, acc, rfl, R', S', st', hI', hD', eD', U, hC', q', rfl⟩
    have IneD : I ≠ D := fun z => by
      obtain ⟨o, vs, e, d, _⟩ := W.fld _ _ _ st'
      obtain ⟨oD, esD, epD, eo, _, dD, _⟩ := eD'
      rw [z, eo] at e; obtain rfl := Option.some.inj e; rw [dD] at d; cases d
    cases r with
    | nil =>
      refine wpAny_mono (W.done H' { s with heap := h', toks := tk } (fun s₁ => RR (.ref D) L (.ok .next) s₁) st' R'.br hC' ?_) (fun x s₁ w => ?_) noted_noE
      · intro h₂ tk₂ k₂
        obtain ⟨B₂, K₂, W₂⟩ := R'.br.touch k₂ (W.fld _ _ _ st') hI' gI
        have S₃ := past S' nI k₂
        have R₂ := R'.touch k₂ (W.fld _ _ _ st') hI' gI
        obtain ⟨ep, dat⟩ := (eD'.at fun o e => k₂ D o (Ne.symm IneD) e).dictAt
        exact hRR D L h₂ tk₂ H' acc ep (B₂.add hD' ⟨gD, lowD⟩ ((DD.orr _ _ _ _ _).mpr ⟨ws, dat, U.step R'.br K₂ W₂⟩)) (S₃.add sD' hD') (let ⟨m, hn, _⟩ := R₂.ns; ⟨m, hn⟩) sL' R₂.hl LD gL hD' q'
      · cases x with
        | none => exact w
        | some u => exact w.elim
    | cons v r =>
      let J : Shared → Prop := fun s₅ => ∃ m, m < (v :: r).length ∧ CDst g DD A env (compEnvC scope (clOf scope env) L env) scope l (.Name x xp) ifs kx vx C Q s H St I D m s₅
      refine wpAny_mono (W.item v r H' { s with heap := h', toks := tk } (fun u s₂ => wpAny g.m A (PySem.assign (.Name x xp) (compEnvC scope (clOf scope env) L env) u) (fun _ s₃ => wpAny g.m A (forIn ifs true fun c r => if r = true then do let ok ← isTrue c (compEnvC scope (clOf scope env) L env) (eval c (compEnvC scope (clOf scope env) L env)); pure (ForInStep.yield ok) else pure (ForInStep.yield r))
        (fun ok s₄ => if ok = true then wpAny g.m A (eval kx (compEnvC scope (clOf scope env) L env)) (fun ky s₅ => wpAny g.m A (eval vx (compEnvC scope (clOf scope env) L env)) (fun y s₆ => wpAny g.m A (dictSet D ky y) (fun _ s₇ => J s₇) noE s₆) noE s₅) noE s₄ else J s₄) noE s₃) noE s₂) st' R'.br hC' hI' ?_) (fun x s₁ w => ?_) noted_noE
      · intro u h₂ tk₂ k₂ V₂ st₂
        obtain ⟨_, K₂, W₂⟩ := R'.br.touch k₂ (W.fld _ _ _ st') hI' gI
        have R₂ := R'.touch k₂ (W.fld _ _ _ st') hI' gI
        have S₂ := past S' nI k₂
        have e₂ := eD'.at fun o e => k₂ D o (Ne.symm IneD) e
        obtain ⟨oD₂, eoD₂⟩ : ∃ o, h₂.get? D = some o := let ⟨o, _, _, e, _⟩ := e₂; ⟨o, e⟩
        have U₂ := U.step R'.br K₂ W₂
        obtain ⟨oI, vsI, eI, dI, _⟩ := W.fld _ _ _ st₂
        have hown : ∀ b, ownOf (compEnvC scope (clOf scope env) L env) b → b = L := fun b w => ownC w
        -- the end of a turn, from a heap that has kept what is ours
        have fin : ∀ {lx : PL} {H₃ : PH} {h₃ : Heap}, ER g (compEnvC scope (clOf scope env) L env) lx H₃ h₃ → StpO (ownOf (compEnvC scope (clOf scope env) L env)) H' h₂ H₃ h₃ → CFin g (compEnvC scope (clOf scope env) L env) (lcap scope l) s H St I D r H₃ h₃ := fun R₃ S₃ =>
          cfin sL' hown R₂ S₂ rfl ⟨oI, vsI, eI, dI⟩ hI' ⟨_, eoD₂⟩ hD' (fun H₃ h₃ f1 f2 f3 => W.frame r H' h₂ H₃ h₃ st₂ f1 f2 f3) (lcap_kind O E) R₃ S₃
        have notD : ¬ ownOf (compEnvC scope (clOf scope env) L env) D := fun w => LD (hown D w).symm
        refine q' (clOf scope env) L O' u { s with heap := h₂, toks := tk₂ } _ R₂ V₂ ?_
        intro l₃ H₃ h₃ tk₃ R₃ S₃ q₃
        refine q₃.run R₃ ?_
        intro b H₄ h₄ tk₄ B₄ S₄ q₄
        have R₄ := R₃.after B₄ S₄
        have S₃₄ := S₃.trans S₄.own
        cases b with
        | false =>
          simp only [Bool.false_eq_true, if_false] at q₄ ⊢
          obtain ⟨a1, a2, a3, a4, a5⟩ := fin R₄ S₃₄
          have a6 := e₂.at fun o e => S₃₄.keep D o e hD' notD
          have a7 := U₂.step R₂.br S₃₄.kp R₂.ownOk
          exact ⟨r.length, Nat.lt_succ_self _, r, H₄, h₄, tk₄, ws, acc, rfl, a1, a2, a3, a4, a5, a6, a7, q₄.1, q₄.2, rfl⟩
        | true =>
          simp only [if_true] at q₄ ⊢
          refine q₄ _ _ R₄ ?_
          intro ky kd H₄' h₄' tk₄' B₄' S₄' V₄' q₄'
          refine q₄' _ _ (R₄.after B₄' S₄') ?_
          rintro y d H₅ h₅ tk₅ B₅ S₅' V₅ ⟨c₅, key, rfl, hsz, q₅⟩
          have S₅ := S₄'.trans S₅'
          obtain ⟨a1, a2, a3, a4, a5⟩ := fin (R₄.after B₅ S₅) (S₃₄.trans (Stp.own S₅))
          have a6 := e₂.at fun o e => (S₃₄.trans (Stp.own S₅)).keep D o e hD' notD
          have a7 := U₂.step R₂.br (S₃₄.trans (Stp.own S₅)).kp R₂.ownOk
          refine wpAny_dictSet_pairs (DD.is _ _ _ _ V₄') a6 (fun h₆ e₆ hs₆ => ?_) (by rw [a7.length]; exact hsz)
          obtain ⟨oD, esD, epD, eoD, hxD, dD, _⟩ := id a6
          obtain ⟨oD₆, _, _, eoD₆, _, dD₆, _⟩ := id e₆
          have W₆ : OwnOk (fun b => b = D) h₅ := by
            rintro b o rfl e; rw [eoD] at e; obtain rfl := Option.some.inj e; exact .inl ⟨_, _, dD⟩
          have R₆ := a1.same hs₆ eoD a5 gD W₆ LD (fun v z => by rw [dD] at z; cases z)
          have S₆ : StpO (fun b => b = D) H₅ h₅ H₅ h₆ := Stp.same hs₆ eoD₆ rfl
          obtain ⟨oI₅, vI₅, eI₅, _, _⟩ := W.fld _ _ _ a3
          refine ⟨r.length, Nat.lt_succ_self _, r, H₅, h₆, _, PySem.stored ws key y, dset acc key d, rfl, R₆, ?_, ?_, a4, a5, e₆, (a7.stored V₅).step a1.br S₆.kp W₆, c₅, q₅, rfl⟩
          · exact ⟨fun b o e n _ => S₆.keep b o (a2.keep b o e n id) (a2.dom b o e n) (fun w => by rw [show b = D from w, sD'] at e; cases e), a2.dom, fun b o e => by
              obtain ⟨o', e'⟩ := a2.alive b o e
              exact S₆.alive b o' e', a2.idle⟩
          · refine W.frame r H₅ h₅ H₅ h₆ a3 (fun o e => (hs₆.2 I IneD).trans e) (fun ws ds z => z.step a1.br S₆.kp W₆) fun b o e c dd => ?_
            refine (hs₆.2 b fun z => ?_).trans e
            rw [show b = D from z, eoD] at e; obtain rfl := Option.some.inj e
            rw [hxD.1] at c; exact absurd c (by decide)
      · cases x with
        | none => exact w.elim
        | some u =>
          have w' := of_pure_any (show wpAny g.m A (pure ()) _ noE s₁ from w)
          refine wpAny_mono w' (fun _ s₂ z => wpAny_mono z (fun ok s₃ y => ?_) noted_noE) noted_noE
          cases ok with
          | false => exact y
          | true => exact wpAny_mono y (fun _ s₄ z => wpAny_mono z (fun _ _ z => wpAny_mono z (fun _ _ z => z) noted_noE) noted_noE) noted_noE
  exact codeAny_compStart_dict loop (wpAny_mono (W.self _ _ _ _ stE loop) (fun _ _ z => z) noted_noE)
end
end Mine
end
section
open PySem PySem.W PyProof.Rows PySem.Calls PySem.Spec
set_option maxRecDepth 100000

namespace Mine
section
variable {g : Gd} {A : Around} {env : Env} {l : PL} {H : PH}

theorem ns_own {h : Heap} {C : Addr} {m : Str → Option Value} (hn : h.Ns C m) : OwnOk (fun b => b = C) h := by
  rintro b o rfl e
  obtain ⟨o', es, ep, e', d, _⟩ := hn
  rw [e] at e'; obtain rfl := Option.some.inj e'; exact .inl ⟨es, ep, d⟩
/-- letting the comprehension's variables go -/
theorem letgo_step {H' : PH} {h h' h'' : Heap} {C : Addr} {m : Str → Option Value} (B : BR g H' h') (S : Stp H h H' h') (hn : h'.Ns C m) (nC : h.get? C = none) (hC : H' C = none) (gC : g.G.get? C = none) (hs : Heap.SameBut C h' h'') :
    BR g H' h'' ∧ Stp H h H' h'' ∧ Kp (fun b => b = C) H' h' H' h'' := by
  have K : Kp (fun b => b = C) H' h' H' h'' := Kp.same hs
  have ne : ∀ b o, h.get? b = some o → b ≠ C := fun b o e z => by rw [z, nC] at e; cases e
  exact ⟨B.same K (ns_own hn) hs hC gC, ⟨fun b o e n w => (hs.2 b (ne b o e)).trans (S.keep b o e n w), S.dom, fun b o e => let ⟨o', e'⟩ := S.alive b o e; ⟨o', (hs.2 b (ne b o e)).trans e'⟩, S.idle⟩, K⟩

theorem ET.listcomp {scope : Scope} {x : Str} {xp : Pos} {iter elt : Expr} {ifs : List Expr} {pos : Pos} {Q : PV → PH → Prop} (hG : g.Ok) (O : CompOk scope env) (E : EnvOk env) (hs : ∀ env x, foldedSetIterable iter env x = pure x)
    (h : IT g A env l H (.Name x xp) iter fun items C H₁ => CompL g A env scope l (.Name x xp) ifs elt C (fun acc H' => ∀ D, H' D = none → Q (.ref D) (hup H' D (.list acc))) items [] H₁) : ET g A env l H (.ListComp elt [⟨.Name x xp, iter, ifs, 0⟩] scope pos) Q := by
  intro s Q' R P
  show wpAny g.m A (comprehension (.ListComp elt [⟨.Name x xp, iter, ifs, 0⟩] scope pos) scope env (firstIterPos [⟨.Name x xp, iter, ifs, 0⟩] pos) (newList []) false (eval iter env) none) Q' noE s
  refine wpAny_comprehension_free (use := none) rfl (hs env) (O.closure R) O.kind O.loc (comp_list (RR := fun acc C => compPost g.m A noE none Q' acc C) hG O E R h ?_)
  intro D C h' tk H' acc B S ⟨m, hn⟩ nC hC CD gC hD q
  refine ⟨m, hn, fun h'' hs'' => ?_⟩
  obtain ⟨B', S', _⟩ := letgo_step B S hn nC (by rw [hup_ne CD]; exact hC) gC hs''
  exact P _ _ _ h'' tk B' S' (.ref D) (q D hD)

theorem ET.dictcomp {K : Type} [DecidableEq K] (DD : DK g K) {scope : Scope} {x : Str} {xp : Pos} {iter kx vx : Expr} {ifs : List Expr} {pos : Pos} {Q : PV → PH → Prop} (hG : g.Ok) (O : CompOk scope env) (E : EnvOk env) (hs : ∀ env x, foldedSetIterable iter env x = pure x)
    (h : IT g A env l H (.Name x xp) iter fun items C H₁ => CompD DD A env scope l (.Name x xp) ifs kx vx C (fun acc H' => ∀ D ep, H' D = none → Q (.ref D) (hup H' D (DD.pack acc ep))) items [] H₁) : ET g A env l H (.DictComp kx vx [⟨.Name x xp, iter, ifs, 0⟩] scope pos) Q := by
  intro s Q' R P
  show wpAny g.m A (comprehension (.DictComp kx vx [⟨.Name x xp, iter, ifs, 0⟩] scope pos) scope env (firstIterPos [⟨.Name x xp, iter, ifs, 0⟩] pos) newDict false (eval iter env) none) Q' noE s
  refine wpAny_comprehension_free (use := none) rfl (hs env) (O.closure R) O.kind O.loc (comp_dict DD (RR := fun acc C => compPost g.m A noE none Q' acc C) hG O E R h ?_)
  intro D C h' tk H' acc ep B S ⟨m, hn⟩ nC hC CD gC hD q
  refine ⟨m, hn, fun h'' hs'' => ?_⟩
  obtain ⟨B', S', _⟩ := letgo_step B S hn nC (by rw [hup_ne CD]; exact hC) gC hs''
  exact P _ _ _ h'' tk B' S' (.ref D) (q D ep hD)



end
end Mine
end
section
open PySem PySem.W PyProof.Rows PySem.Calls PySem.Spec
set_option maxRecDepth 100000

namespace Mine

/-! instances with slots, made by their own __init__ -/
structure InstK (K : Frag) (C fI : Addr) : Prop where
  makes : makesIn K C = true
  init : findIn K (.ref C) "__init__" = some (some (.ref fI))
  fn : typeIn K (.ref fI) = some (.type "function")
  seta : findIn K (.ref C) "__setattr__" = some (some (.builtin "object.__setattr__"))
  over : plainOver K C = true
structure FieldK (K : Frag) (C : Addr) (name : Str) (i : Nat) : Prop where
  at_ : ∃ p, takerIn K C name = some (some (.ref p)) ∧ typeIn K (.ref p) = some (.type "member_descriptor") ∧ slotIn K p C = some i
  lt : i < 1000
inductive InitB (K : Frag) (C : Addr) : List Str → List Nat → List Stmt → Prop
  | nil : InitB K C [] [] []
  | cons {x f : Str} {xs : List Str} {i : Nat} {js : List Nat} {p1 p2 p3 pos : Pos} {rest : List Stmt} : FieldK K C f i → (x == ("__debug__" : Str)) = false → InitB K C xs js rest →
      InitB K C (x :: xs) (i :: js) (.Assign [.Attribute (.Name "self" p1) f p2] (.Name x p3) pos :: rest)

abbrev slotsObj (C dx : Addr) (sl : List (Option Value)) : Obj := ⟨.ref C, some dx, .plain, sl.toArray⟩
noncomputable def slotSet (sl : List (Option Value)) (i : Nat) (v : Value) : List (Option Value) := (sl ++ List.replicate (i + 1 - sl.length) none).set i (some v)
noncomputable def slotsAll : List Nat → List Value → List (Option Value) → List (Option Value)
  | i :: is, v :: vs, sl => slotsAll is vs (slotSet sl i v)
  | _, _, sl => sl

section
variable {prog : Program} {w : World} {A : Around} {E : Value → Shared → Prop}
theorem init_run {K : Frag} {C x dx L a : Addr} {h₁ : Heap} {m : Str → Option Value} {fd : FuncData} {Q : Flow → Shared → Prop} (hk : fd.scope.kind = .function) (X : K.In h₁) (hs : findIn K (.ref C) "__setattr__" = some (some (.builtin "object.__setattr__"))) (hp : plainOver K C = true)
    (hself : m "self" = some (.ref x)) (lself : fd.scope.names.lookup (Str.ofString "self") = some NameKind.local) (ne : x ≠ dx) :
    ∀ {xs : List Str} {js : List Nat} {body : List Stmt}, InitB K C xs js body → ∀ {ws : List Value} {sl : List (Option Value)} {s : Shared}, ws.length = xs.length → (∀ (j : Nat) (x : Str) (w : Value), xs[j]? = some x → ws[j]? = some w → m x = some w) → (∀ x ∈ xs, fd.scope.names.lookup x = some .local) →
      Fr h₁ L s.heap m → News h₁ L s.heap [(x, slotsObj C dx sl), (dx, emptyDict)] →
      (∀ h' tk, Fr h₁ L h' m → News h₁ L h' [(x, slotsObj C dx (slotsAll js ws sl)), (dx, emptyDict)] → Q .next { s with heap := h', toks := tk }) → wpAny (model prog w) A (execs body (callEnv fd L a)) Q E s := by
  intro xs js body hI
  induction hI with
  | nil =>
    intro ws sl s hl _ _ F N q
    obtain rfl : ws = [] := List.length_eq_zero_iff.mp hl
    exact wpAny_execs_nil (q s.heap s.toks F N)
  | @cons y f xs i js p1 p2 p3 pos rest hf hd _ ih =>
    intro ws sl s hl hm hloc F N q
    cases ws with
    | nil => cases hl
    | cons u ws =>
    obtain ⟨⟨p, a1, a2, a3⟩, lt⟩ := hf
    refine wpAny_execs_cons (plainObj_wpAny_Assign_Attribute (ldc hk (hloc y List.mem_cons_self) F.ns (hm 0 y u (by simp) (by simp)) (ldc hk lself F.ns hself ?_) hd) rfl)
    refine set_slot (ox := slotsObj C dx sl) (ox' := slotsObj C dx (slotSet sl i u)) (od := emptyDict) F X N ⟨N.get List.mem_cons_self, rfl, rfl, N.get (List.mem_cons_of_mem _ List.mem_cons_self)⟩ hs hp a1 a2 a3 lt ?_ rfl (Upd.head (fun p hp => ?_)) fun h' F' N' => ?_
    · show Obj.mk _ _ _ _ = Obj.mk _ _ _ _
      congr 1
      apply Array.ext'
      simp [slotSet]
    · obtain rfl := List.mem_singleton.mp hp; exact ne.symm
    · exact ih (ws := ws) (sl := slotSet sl i u) (by simpa using hl) (fun j x w e e' => hm (j + 1) x w (by simpa using e) (by simpa using e')) (fun x hx => hloc x (List.mem_cons_of_mem _ hx)) F' N' fun h'' tk F'' N'' => q h'' tk F'' N''
end

theorem lookup_of_mem {β : Type} {x : Str} {v : β} : ∀ {l : List (Str × β)}, (l.map (·.1)).Nodup → (x, v) ∈ l → l.lookup x = some v
  | (a, b) :: r, hn, hm => by
    rw [List.map_cons, List.nodup_cons] at hn
    rw [List.lookup_cons]
    rcases List.mem_cons.mp hm with e | hm
    · injection e with e1 e2; subst e1 e2; rw [show (x == x) = true from beq_iff_eq.mpr rfl]
    · have : x ≠ a := fun z => hn.1 (z ▸ List.mem_map_of_mem (f := (·.1)) hm)
      rw [show (x == a) = false from beq_eq_false_iff_ne.mpr this]; exact lookup_of_mem hn.2 hm

section
variable {g : Gd} {A : Around} {H : PH} {Q : PV → PH → Prop}
theorem CT.inst {C fI : Addr} {fo : Obj} {fd : FuncData} {body : List Stmt} {ns : List Str} {args : List PV} (hG : g.Ok) (hR : Room A 3) (IK : InstK g.K C fI)
    (ho : g.K.lookup fI = some fo) (hfd : fo.data = .func fd) (hb : fd.body = .stmts body) (hcode : codeIn g.K fd.code fd.qualname = true)
    (hco : fd.scope.isCoroutine = false) (hgen : fd.scope.isGenerator = false) (hk : fd.scope.kind = .function)
    (hcell : ∀ x ∈ fd.scope.names, x.2 ≠ .cell) (hloc : ∀ x ∈ (Str.ofString "self") :: ns, fd.scope.names.lookup x = some .local) (hbind : ∀ s vs, vs.length = ns.length + 1 → BindsTo s fd ⟨vs, []⟩ (((Str.ofString "self") :: ns).zip vs))
    (hnd : ((Str.ofString "self") :: ns).Nodup) {js : List Nat} {sg : ∀ {α : Type}, List α → List α} (hI : InitB g.K C ns js body) (hlen : args.length = ns.length)
    (hsl : ∀ ws, ws.length = ns.length → slotsAll js ws [] = (sg ws).map some) (hsg : ∀ H h ws ds, VRs H h ws ds → ws.length = ns.length → VRs H h (sg ws) (sg ds))
    (h : ∀ dx, H dx = none → Q (.inst C (sg args)) (hup H dx .idle)) : CT g A H (.ref C) args Q := by
  intro vs s Q' V B P
  have X : g.K.In s.heap := hG.kin.keeps B.keep
  have lim : s.heap.NoLimit := hG.top.nolimit.keeps B.keep
  have hz : vs.length = ns.length := V.length.trans hlen
  obtain ⟨h₁, gs, dr, t, os⟩ := s
  refine wpAny_call (make_core (makes_of X IK.makes) (looks_findIn X IK.init) (fun self => bind_fn X self IK.fn) (.inl rfl) ?_)
  have k2 : ∀ b o, h₁.get? b = some o → ((h₁.push emptyDict).push (instObj C h₁.objs.size)).get? b = some o := fun b o e => Heap.get?_push_of_some _ (Heap.get?_push_of_some _ e)
  refine codeAny_call_def (by have := hR.d; show A.depth + 1 < 1000; omega) (X.keeps k2 _ _ ho) hfd (lim.keeps k2) (codeRec_of (X.keeps k2) hcode) hb (hbind _ _ (by simp [hz])) hcell (fun p hp => hloc p.1 (List.of_mem_zip hp).1) (fun h₀ hns hk0 => ?_) hco hgen hk
  generalize hm : (fun x => (((Str.ofString "self") :: ns).zip (Value.ref (h₁.objs.size + 1) :: vs)).reverse.lookup x) = m at hns
  have hsz : ((h₁.push emptyDict).push (instObj C h₁.objs.size)).objs.size = h₁.objs.size + 2 := by rw [Heap.size_push, Heap.size_push]
  rw [hsz] at hns
  have F : Fr h₁ (h₁.objs.size + 2) h₀ m := ⟨hns, fun b o e => hk0 b o (k2 b o e), by omega⟩
  have hx : ((h₁.push emptyDict).push (instObj C h₁.objs.size)).get? (h₁.objs.size + 1) = some (instObj C h₁.objs.size) := by heap_get
  have hd : ((h₁.push emptyDict).push (instObj C h₁.objs.size)).get? h₁.objs.size = some emptyDict := by heap_get
  have none1 : ∀ c, h₁.objs.size ≤ c → h₁.get? c = none := fun c hc => by
    cases q : h₁.get? c with
    | none => rfl
    | some o => exact absurd (Heap.lt_size q) (Nat.not_lt.mpr hc)
  have N : News h₁ (h₁.objs.size + 2) h₀ [(h₁.objs.size + 1, slotsObj C h₁.objs.size []), (h₁.objs.size, emptyDict)] := by
    intro p hp
    rcases List.mem_cons.mp hp with rfl | hp
    · exact ⟨hk0 _ _ hx, by show h₁.objs.size + 1 ≠ _; omega, none1 _ (by show h₁.objs.size ≤ h₁.objs.size + 1; omega)⟩
    · obtain rfl := List.mem_singleton.mp hp
      exact ⟨hk0 _ _ hd, by show h₁.objs.size ≠ _; omega, none1 _ (Nat.le_refl _)⟩
  have keyz : ((((Str.ofString "self") :: ns).zip (Value.ref (h₁.objs.size + 1) :: vs)).reverse.map (·.1)).Nodup := by
    rw [List.map_reverse, List.map_fst_zip (by simp [hz])]; exact List.pairwise_reverse.mpr (List.Pairwise.imp Ne.symm hnd)
  have hget : ∀ p ∈ ((Str.ofString "self") :: ns).zip (Value.ref (h₁.objs.size + 1) :: vs), m p.1 = some p.2 := fun p hp => by
    rw [← hm]; exact lookup_of_mem keyz (List.mem_reverse.mpr hp)
  rw [hsz]
  refine init_run (x := h₁.objs.size + 1) (dx := h₁.objs.size) (h₁ := h₁) hk X IK.seta IK.over ?_ (hloc _ List.mem_cons_self) (Nat.succ_ne_self _) hI (ws := vs) (sl := []) hz (fun j x w e e' => ?_) (fun x hx => hloc x (List.mem_cons_of_mem _ hx)) F N fun h' tk F' N' => ?_
  · exact hget (Str.ofString "self", _) (by rw [List.zip_cons_cons]; exact List.mem_cons_self)
  · refine hget (x, w) ?_
    rw [List.zip_cons_cons]
    refine List.mem_cons_of_mem _ ?_
    refine List.mem_iff_getElem?.mpr ⟨j, ?_⟩
    rw [List.getElem?_zip_eq_some]; exact ⟨e, e'⟩
  · refine ⟨rfl, ?_⟩
    have nd : h₁.get? h₁.objs.size = none := none1 _ (Nat.le_refl _)
    have S : Stp H h₁ (hup H h₁.objs.size .idle) h' := Stp.born B F'.keep nd
    rw [hsl vs hz] at N'
    exact P _ _ _ h' tk (B.born (po := .idle) F'.keep nd ⟨B.gfresh, low (s := ⟨h₁, gs, dr, t, os⟩) hG B⟩ ⟨_, N'.get (List.mem_cons_of_mem _ List.mem_cons_self), rfl, _, _, rfl⟩) S
      (.inst (N'.get List.mem_cons_self) (hup_at _ _ _) (hsg _ _ _ _ (V.after B S) hz)) (h _ B.fresh)
end
end Mine
end
section
open PySem PySem.W PyProof.Rows PySem.Calls PySem.Spec
set_option maxRecDepth 100000

namespace Mine
theorem parms_at {x : Str} {ns : List Str} {v : PV} {ds : List PV} : parms (x :: ns) (v :: ds) x = some v := by
  unfold parms; rw [List.zip_cons_cons, List.lookup_cons, show (x == x) = true from beq_iff_eq.mpr rfl]
theorem parms_ne {x y : Str} {ns : List Str} {v : PV} {ds : List PV} (h : y ≠ x) : parms (x :: ns) (v :: ds) y = parms ns ds y := by
  unfold parms; rw [List.zip_cons_cons, List.lookup_cons, show (y == x) = false from beq_eq_false_iff_ne.mpr h]

/-- what was there is there still -/
noncomputable def Ext (H H' : PH) : Prop := ∀ a po, H a = some po → H' a = some po
theorem Ext.refl (H : PH) : Ext H H := fun _ _ e => e
theorem Ext.trans {H H₁ H₂ : PH} (x : Ext H H₁) (y : Ext H₁ H₂) : Ext H H₂ := fun a po e => y a po (x a po e)
theorem Ext.hup {H H₁ : PH} (x : Ext H H₁) {a : Addr} {o : PO} (n : H₁ a = none) : Ext H (hup H₁ a o) := fun b po e => by
  rw [hup_ne (fun z => by have := x b po e; rw [z, n] at this; cases this)]; exact x b po e
/-- all but one object -/
noncomputable def ExtB (a : Addr) (H H' : PH) : Prop := ∀ b po, b ≠ a → H b = some po → H' b = some po
theorem Ext.but {H H' : PH} (x : Ext H H') (a : Addr) : ExtB a H H' := fun b po _ e => x b po e

/-! the comparing of tables, as numbers -/
section
variable {K : Type} [DecidableEq K]
abbrev Tab (K : Type) := List (K × (Int × Int))
noncomputable def dgetT (t : Tab K) (k : K) : Option (Int × Int) := (t.find? fun e => e.1 = k).map (·.2)
noncomputable def ddelT (t : Tab K) (k : K) : Tab K := t.filter fun e => decide (e.1 ≠ k)
/-- (key, size, size_diff, count, count_diff) -/
abbrev Dif (K : Type) := K × Int × Int × Int × Int
noncomputable def dif1 (k : K) (s c : Int) : Option (Int × Int) → Dif K
  | some (ps, pc) => (k, s, s - ps, c, c - pc)
  | none => (k, s, s, c, c)
noncomputable def cmpNew : Tab K → Tab K → List (Dif K)
  | (k, s, c) :: r, o => dif1 k s c (dgetT o k) :: cmpNew r (ddelT o k)
  | [], _ => []
noncomputable def cmpLeft : Tab K → Tab K → Tab K
  | (k, _, _) :: r, o => cmpLeft r (ddelT o k)
  | [], o => o
noncomputable def cmpOld : Tab K → List (Dif K)
  | (k, s, c) :: r => (k, 0, -s, 0, -c) :: cmpOld r
  | [] => []
noncomputable def cmpAll (o n : Tab K) : List (Dif K) := cmpNew n o ++ cmpOld (cmpLeft n o)
theorem ddelT_none {t : Tab K} {k : K} (h : dgetT t k = none) : ddelT t k = t := by
  unfold dgetT at h; unfold ddelT
  rw [Option.map_eq_none_iff, List.find?_eq_none] at h
  rw [List.filter_eq_self]
  intro e he; simpa using h e he
theorem ddelT_len (t : Tab K) (k : K) : (ddelT t k).length ≤ t.length := List.length_filter_le _ _
theorem cmpLeft_len (n : Tab K) : ∀ o : Tab K, (cmpLeft n o).length ≤ o.length := by
  induction n with
  | nil => exact fun o => Nat.le_refl _
  | cons e r ih => obtain ⟨k, s, c⟩ := e; exact fun o => Nat.le_trans (ih _) (ddelT_len _ _)
theorem cmpNew_len (n : Tab K) : ∀ o : Tab K, (cmpNew n o).length = n.length := by
  induction n with
  | nil => exact fun o => rfl
  | cons e r ih => obtain ⟨k, s, c⟩ := e; exact fun o => congrArg (· + 1) (ih _)
/-- a table of Statistics as values of a dict -/
noncomputable def tabP (val : K → PV) (CS : Addr) (t : Tab K) : List (K × PV) := t.map fun e => (e.1, .inst CS [.int e.2.2, .int e.2.1, val e.1])
theorem tabP_get (val : K → PV) (CS : Addr) (k : K) : ∀ (t : Tab K), dget (tabP val CS t) k = (dgetT t k).map fun e => .inst CS [.int e.2, .int e.1, val k]
  | [] => rfl
  | (k', s, c) :: r => by
    have ih := tabP_get val CS k r
    unfold dget dgetT tabP at *
    rw [List.map_cons, List.find?_cons, List.find?_cons]
    by_cases z : k' = k
    · subst z; simp
    · simp only [z, decide_false]
      exact ih
theorem tabP_del (val : K → PV) (CS : Addr) (k : K) (t : Tab K) : ddel (tabP val CS t) k = tabP val CS (ddelT t k) := by
  unfold ddel ddelT tabP
  rw [List.filter_map]; rfl
theorem tabP_len (val : K → PV) (CS : Addr) (t : Tab K) : (tabP val CS t).length = t.length := by simp [tabP]
abbrev difP (val : K → PV) (CD : Addr) (d : Dif K) : PV := .inst CD [.int d.2.2.2.1, .int d.2.2.2.2, .int d.2.1, .int d.2.2.1, val d.1]
end
section
variable {g : Gd} {A : Around} {env : Env}
theorem LoopT.inv {tgt : Expr} {body : List Stmt} {C : PH → Prop} {Q : PF → PL → PH → Prop} (Inv : List PV → PL → PH → Prop)
    (turn : ∀ v r l H, Inv (v :: r) l H → AT g A env l H tgt v fun l₁ H₁ => SS g A env l₁ H₁ body fun f l₂ H₂ => match f with
      | .next | .cont => C H₂ ∧ Inv r l₂ H₂
      | .brk => Q .next l₂ H₂
      | .ret v => Q (.ret v) l₂ H₂)
    (done : ∀ l H, Inv [] l H → Q .next l H) : ∀ {items : List PV} {l : PL} {H : PH}, Inv items l H → LoopT g A env tgt body C Q items l H
  | [], l, H, h => done l H h
  | v :: r, l, H, h => by
    intro u s Q' R V P
    refine turn v r l H h u s Q' R V fun l₁ H₁ h₁ t₁ R₁ S₁ q₁ => P l₁ H₁ h₁ t₁ R₁ S₁ (q₁.mono fun f l₂ H₂ q => ?_)
    cases f with
    | next => exact ⟨q.1, LoopT.inv Inv turn done q.2⟩
    | cont => exact ⟨q.1, LoopT.inv Inv turn done q.2⟩
    | brk => exact q
    | ret v => exact q
theorem AT.mono {l : PL} {H : PH} {t : Expr} {v : PV} {Q₁ Q : PL → PH → Prop} (h : AT g A env l H t v Q₁) (k : ∀ l' H', Q₁ l' H' → Q l' H') : AT g A env l H t v Q :=
  fun u s Q' R V P => h u s Q' R V fun l' H' h' tk R' S q => P l' H' h' tk R' S (k _ _ q)
theorem BT.mono {l : PL} {H : PH} {t : Expr} {Q₁ Q : Bool → PH → Prop} (h : BT g A env l H t Q₁) (k : ∀ b H', Q₁ b H' → Q b H') : BT g A env l H t Q :=
  fun s Q' R P => h s Q' R fun b H' h' tk B S q => P b H' h' tk B S (k _ _ q)
theorem TestsT.mono {l : PL} {H : PH} {ifs : List Expr} {K₁ K : Bool → PH → Prop} (h : TestsT g A env l H ifs K₁) (k : ∀ b H', K₁ b H' → K b H') : TestsT g A env l H ifs K := by
  match ifs, h with
  | [], h => exact k _ _ h
  | [c], h => exact BT.mono h k
theorem CompL.inv {scope : Scope} {l : PL} {tgt : Expr} {ifs : List Expr} {elt : Expr} {C : PH → Prop} {Q : List PV → PH → Prop} (Inv : List PV → List PV → PH → Prop)
    (turn : ∀ v r acc H, Inv (v :: r) acc H → ∀ cl L, EnvOk (compEnvC scope cl L env) → AT g A (compEnvC scope cl L env) (lcap scope l) H tgt v fun l₁ H₁ =>
      TestsT g A (compEnvC scope cl L env) l₁ H₁ ifs fun b H₂ => if b = true then
        ET g A (compEnvC scope cl L env) l₁ H₂ elt fun d H₃ => C H₃ ∧ acc.length ≤ sizeLine ∧ Inv r (acc ++ [d]) H₃
      else C H₂ ∧ Inv r acc H₂)
    (done : ∀ acc H, Inv [] acc H → acc.length ≤ sizeLine ∧ Q acc H) : ∀ {items acc : List PV} {H : PH}, Inv items acc H → CompL g A env scope l tgt ifs elt C Q items acc H
  | [], acc, H, h => done acc H h
  | v :: r, acc, H, h => fun cl L E => (turn v r acc H h cl L E).mono fun l₁ H₁ q => q.mono fun b H₂ q => by
    cases b with
    | true => simp only [if_true] at q ⊢; exact ET.mono q fun d H₃ q => ⟨q.1, q.2.1, CompL.inv Inv turn done q.2.2⟩
    | false => simp only [Bool.false_eq_true, if_false] at q ⊢; exact ⟨q.1, CompL.inv Inv turn done q.2⟩
theorem CompD.inv {K : Type} [DecidableEq K] {DD : DK g K} {scope : Scope} {l : PL} {tgt : Expr} {ifs : List Expr} {kx vx : Expr} {C : PH → Prop} {Q : List (K × PV) → PH → Prop} (Inv : List PV → List (K × PV) → PH → Prop)
    (turn : ∀ v r acc H, Inv (v :: r) acc H → ∀ cl L, EnvOk (compEnvC scope cl L env) → AT g A (compEnvC scope cl L env) (lcap scope l) H tgt v fun l₁ H₁ =>
      TestsT g A (compEnvC scope cl L env) l₁ H₁ ifs fun b H₂ => if b = true then
        ET g A (compEnvC scope cl L env) l₁ H₂ kx fun kd H₃ => ET g A (compEnvC scope cl L env) l₁ H₃ vx fun d H₄ => C H₄ ∧ ∃ key, kd = DD.val key ∧ acc.length ≤ sizeLine ∧ Inv r (dset acc key d) H₄
      else C H₂ ∧ Inv r acc H₂)
    (done : ∀ acc H, Inv [] acc H → Q acc H) : ∀ {items : List PV} {acc : List (K × PV)} {H : PH}, Inv items acc H → CompD DD A env scope l tgt ifs kx vx C Q items acc H
  | [], acc, H, h => done acc H h
  | v :: r, acc, H, h => fun cl L E => (turn v r acc H h cl L E).mono fun l₁ H₁ q => q.mono fun b H₂ q => by
    cases b with
    | true => simp only [if_true] at q ⊢; exact ET.mono q fun kd H₃ q => ET.mono q fun d H₄ ⟨q1, key, e, q2, q3⟩ => ⟨q1, key, e, q2, CompD.inv Inv turn done q3⟩
    | false => simp only [Bool.false_eq_true, if_false] at q ⊢; exact ⟨q.1, CompD.inv Inv turn done q.2⟩

theorem ExtB.hupN {a D : Addr} {H H' : PH} {o : PO} (x : ExtB a H H') (n : H D = none) : ExtB a H (hup H' D o) := fun b po ne e => by
  rw [hup_ne (fun z => by rw [z, n] at e; cases e)]; exact x b po ne e
theorem ExtB.hupA {a : Addr} {H H' : PH} {o : PO} (x : ExtB a H H') : ExtB a H (hup H' a o) := fun b po ne e => by
  rw [hup_ne ne]; exact x b po ne e
theorem ExtB.hupF {a d : Addr} {H H' : PH} {o : PO} (x : ExtB a H H') (n : H' d = none) : ExtB a H (hup H' d o) := fun b po ne e => by
  have := x b po ne e
  rw [hup_ne (fun z => by rw [z, n] at this; cases this)]; exact this
theorem ne_of {H : PH} {a b : Addr} {po : PO} (e : H a = some po) (n : H b = none) : a ≠ b := fun z => by rw [z, n] at e; cases e
end
section
variable {g : Gd} {A : Around} {H : PH} {Q : PV → PH → Prop}
noncomputable def KO (env : Env) (names : List (Str × NameKind)) : Prop := ∀ x, env.kindOf x = names.lookup x
theorem CT.def {f : Addr} {fo : Obj} {fd : FuncData} {body : List Stmt} {ns : List Str} {args : List PV} {n : Nat} {names : List (Str × NameKind)} (hG : g.Ok) (hR : Room A (n + 1))
    (ho : g.K.lookup f = some fo) (hfd : fo.data = .func fd) (hb : fd.body = .stmts body) (hcode : codeIn g.K fd.code fd.qualname = true)
    (hnames : fd.scope.names = names)
    (hco : fd.scope.isCoroutine = false) (hgen : fd.scope.isGenerator = false) (hk : fd.scope.kind = .function) (hcl : fd.closure = []) (hgl : fd.globals = mainGlobals) (hbi : fd.builtins = builtinsNs)
    (hbind : ∀ s vs, vs.length = ns.length → BindsTo s fd ⟨vs, []⟩ (ns.zip vs)) (hnd : ns.Nodup)
    (hns : (ns.all fun x => names.lookup x == some .local || names.lookup x == some .cell) = true) (hlen : args.length = ns.length)
    (h : ∀ (e : Env) (A' : Around), EnvOk e → KO e names → e.func.isSome = true → Room A' n → SS g A' e (parms ns args) H body fun fl _ H' => match fl with | .ret v => Q v H' | .next => Q .none H' | _ => False) : CT g A H (.ref f) args Q := by
  subst hnames
  exact CT.fn hG hR ho hfd hb hcode hco hgen hk hcl hgl hbi hbind hnd hns hlen fun e A' hE hF hR' => h { e with scope := fd.scope } A' hE (fun x => rfl) hF hR'
end
theorem lcap_free {scope : Scope} {l : PL} {y : Str} (h : scope.names.lookup y = some .free) : lcap scope l y = l y := if_pos h
theorem KO.at {env : Env} {names : List (Str × NameKind)} {x : Str} {v : Option NameKind} (h : KO env names) (e : names.lookup x = v) : env.kindOf x = v := (h x).trans e
section
variable {g : Gd} {A : Around} {env : Env} {l : PL} {H : PH}
theorem ST.mono {st : Stmt} {Q₁ Q : PF → PL → PH → Prop} (h : ST g A env l H st Q₁) (k : ∀ f l' H', Q₁ f l' H' → Q f l' H') : ST g A env l H st Q :=
  fun s Q' R P => h s Q' R fun f pf l' H' h' tk R' S V q => P f pf l' H' h' tk R' S V (k _ _ _ q)
/-- a cut between two statements -/
theorem SS.seq {st : Stmt} {rest : List Stmt} {Q : PF → PL → PH → Prop} (M : PL → PH → Prop) (h : ST g A env l H st fun f l₁ H₁ => match f with | .next => M l₁ H₁ | f => Q f l₁ H₁) (k : ∀ l₁ H₁, M l₁ H₁ → SS g A env l₁ H₁ rest Q) : SS g A env l H (st :: rest) Q :=
  SS.cons (h.mono fun f l₁ H₁ q => by cases f <;> first | exact k _ _ q | exact q)
/-- a for whose body goes round, with a word that holds between the turns -/
theorem ST.forI {tgt iter : Expr} {body : List Stmt} {pos : Pos} {Q : PF → PL → PH → Prop} (hs : ∀ env x, foldedSetIterable iter env x = pure x) (Inv : List PV → PL → PH → Prop) (C : PH → Prop)
    (h : IT g A env l H tgt iter fun items C' H₁ => C' = C ∧ Inv items l H₁)
    (turn : ∀ v r l H, Inv (v :: r) l H → AT g A env l H tgt v fun l₁ H₁ => SS g A env l₁ H₁ body fun f l₂ H₂ => match f with
      | .next | .cont => C H₂ ∧ Inv r l₂ H₂
      | .brk => Q .next l₂ H₂
      | .ret v => Q (.ret v) l₂ H₂)
    (done : ∀ l H, Inv [] l H → Q .next l H) : ST g A env l H (.For tgt iter body [] pos) Q := by
  refine ST.for hs ?_
  intro s Q' R P
  refine h s Q' R ?_
  rintro I items C' St H' h' tk W B S st hI nI hC ⟨rfl, q⟩
  exact P I items C' St H' h' tk W B S st hI nI hC (LoopT.inv Inv turn done q)
end
theorem iteT {P R : Prop} (h : P) : if (true = true) then P else R := by rwa [if_pos rfl]
theorem iteF {P R : Prop} (h : R) : if (false = true) then P else R := by rwa [if_neg (by decide)]
theorem attrK {K : Frag} {C : Addr} {name : Str} {vs : List PV} {i : Nat} {d : PV} {Q : PV → Prop} (hs : SlotAt K C name i) (e : vs[i]? = some d) (hp : d.plain = true) (q : Q d) :
    ∃ C' vs' i d, PV.inst C vs = PV.inst C' vs' ∧ SlotAt K C' name i ∧ vs'[i]? = some d ∧ d.plain = true ∧ Q d := ⟨C, vs, i, d, rfl, hs, e, hp, q⟩
theorem methL {H : PH} {a : Addr} {ds : List PV} {P : Prop} (e : H a = some (.list ds)) (q : P) : (∃ a' po, PV.ref a = .ref a' ∧ H a' = some po ∧ po ≠ .idle ∧ ("list" = match po with | .list _ => "list" | _ => "dict")) ∧ P := ⟨⟨a, _, rfl, e, nofun, rfl⟩, q⟩
theorem methD {g : Gd} {K : Type} [DecidableEq K] {D : DK g K} {H : PH} {a : Addr} {es : List (K × PV)} {ep : Nat} {P : Prop} (e : H a = some (D.pack es ep)) (q : P) : (∃ a' po, PV.ref a = .ref a' ∧ H a' = some po ∧ po ≠ .idle ∧ ("dict" = match po with | .list _ => "list" | _ => "dict")) ∧ P := ⟨⟨a, _, rfl, e, D.nidle _ _, (D.ty _ _).symm⟩, q⟩
end Mine
end
section
open PySem PySem.W PyProof.Rows PySem.Calls PySem.Spec
set_option maxRecDepth 100000

namespace Mine

/-! values read as data -/
mutual
inductive RD (H : PH) : PV → PyData → Prop
  | none : RD H .none .none
  | bool (b : Bool) : RD H (.bool b) (.bool b)
  | int (i : Int) : RD H (.int i) (.int i)
  | str (x : Str) : RD H (.str x) (.str x)
  | tuple {ds : List PV} {xs : List PyData} : RDs H ds xs → RD H (.tuple ds) (.tuple xs)
  | list {a : Addr} {ds : List PV} {xs : List PyData} : H a = some (.list ds) → RDs H ds xs → RD H (.ref a) (.list xs)
inductive RDs (H : PH) : List PV → List PyData → Prop
  | nil : RDs H [] []
  | cons {d : PV} {x : PyData} {ds : List PV} {xs : List PyData} : RD H d x → RDs H ds xs → RDs H (d :: ds) (x :: xs)
end
section
variable {g : Gd} {A : Around} {H : PH}
mutual
theorem RD.reads {h : Heap} (B : BR g H h) : ∀ {d : PV} {x : PyData}, RD H d x → ∀ {v : Value}, VR H h v d → ∃ as, Reads h v x as
  | _, _, .none, _, V => by cases V; exact ⟨_, .none⟩
  | _, _, .bool b, _, V => by cases V; exact ⟨_, .bool b⟩
  | _, _, .int i, _, V => by cases V; exact ⟨_, .int i _⟩
  | _, _, .str x, _, V => by cases V; exact ⟨_, .str x _⟩
  | _, _, .tuple r, _, V => by
    cases V with
    | tuple ht U =>
      obtain ⟨o, e, c, n, dd⟩ := ht
      obtain ⟨as, ra⟩ := RDs.reads B r U
      exact ⟨as, .tuple e c dd ra⟩
  | _, _, .list e r, _, V => by
    cases V
    obtain ⟨vs, n, eo, U⟩ := (B.hr _ _ e).1
    obtain ⟨as, ra⟩ := RDs.reads B r U
    exact ⟨_, .list eo rfl rfl ra⟩
theorem RDs.reads {h : Heap} (B : BR g H h) : ∀ {ds : List PV} {xs : List PyData}, RDs H ds xs → ∀ {vs : List Value}, VRs H h vs ds → ∃ as, ReadsAll h vs xs as
  | _, _, .nil, _, V => by cases V; exact ⟨_, .nil⟩
  | _, _, .cons a r, _, V => by
    cases V with
    | cons V U =>
      obtain ⟨as, ra⟩ := RD.reads B a V
      obtain ⟨bs, rb⟩ := RDs.reads B r U
      exact ⟨_, .cons ra rb⟩
end
theorem Room.cline {n : Nat} (R : Room A n) : A.units + 64 < cLine := by have := R.u; show A.units + 64 < 9900; omega

theorem CmpT.eqD {n : Nat} {a b : PV} {da db : PyData} {Q : PV → PH → Prop} (R : Room A n) (ra : RD H a da) (rb : RD H b db) (ha : SeqAt.shaped da = true) (hb : SeqAt.shaped db = true) (h : Q (.bool (PyData.eqv da db)) H) : CmpT g A H .Eq a b Q := by
  intro v w s Q' V W B P
  obtain ⟨as, ra⟩ := ra.reads B V
  obtain ⟨bs, rb⟩ := rb.reads B W
  exact SeqAt.compareEq_shaped ra rb ha hb R.cline (P.now B (.bool _) h)
theorem CmpT.neD {n : Nat} {a b : PV} {da db : PyData} {Q : PV → PH → Prop} (R : Room A n) (ra : RD H a da) (rb : RD H b db) (ha : SeqAt.shaped da = true) (hb : SeqAt.shaped db = true) (h : Q (.bool (!PyData.eqv da db)) H) : CmpT g A H .NotEq a b Q := by
  intro v w s Q' V W B P
  obtain ⟨as, ra⟩ := ra.reads B V
  obtain ⟨bs, rb⟩ := rb.reads B W
  exact SeqAt.compareNe_shaped ra rb ha hb R.cline (P.now B (.bool _) h)
/-- a pair of ints held against another one -/
theorem CmpT.nePair {n : Nat} {a b c d : Int} {Q : PV → PH → Prop} (R : Room A n) (h : Q (.bool (!(a == c && b == d))) H) : CmpT g A H .NotEq (.tuple [.int a, .int b]) (.tuple [.int c, .int d]) Q := by
  refine CmpT.neD R (.tuple (.cons (.int a) (.cons (.int b) .nil))) (.tuple (.cons (.int c) (.cons (.int d) .nil))) rfl rfl ?_
  simp only [PyData.eqv, PyData.eqvAll, Bool.and_true]
  exact h

theorem listAt {h : Heap} {a : Addr} {ds : List PV} (B : BR g H h) (e : H a = some (.list ds)) : ∃ vs, h.IsList a vs.toArray ∧ VRs H h vs ds := by
  obtain ⟨vs, n, eo, U⟩ := (B.hr _ _ e).1
  exact ⟨vs, ⟨_, eo, rfl, n, rfl⟩, U⟩


/-- a new list in the heap -/
theorem newL {s : Shared} {h' : Heap} {tk : Nat} {Q : PV → PH → Prop} {Q' : Value → Shared → Prop} {vs : List Value} {ds : List PV} {n : Nat} {a : Addr} (hG : g.Ok) (B : BR g H s.heap) (P : Post g H s Q Q') (ha : s.heap.objs.size ≤ a) (hx : ∀ b o, s.heap.get? b = some o → h'.get? b = some o) (eo : h'.get? a = some (listOf vs.toArray n))
    (U : VRs H s.heap vs ds) (h : ∀ D, H D = none → Q (.ref D) (hup H D (.list ds))) : Q' (.ref a) { s with heap := h', toks := tk } := by
  have nn : ∀ {hh : Heap}, (∀ b o, hh.get? b = some o → s.heap.get? b = some o) → hh.get? a = none := fun k => by
    rename_i hh
    cases q : hh.get? a with
    | none => rfl
    | some o => exact absurd (Heap.lt_size (k _ o q)) (Nat.not_lt.mpr ha)
  have na : s.heap.get? a = none := nn fun _ _ e => e
  have ng : g.G.get? a = none := nn B.keep
  have S := Stp.born (own := noOwn) (po := .list ds) B hx na
  have l2 : 2 < a := Nat.lt_of_lt_of_le (low hG B) ha
  exact P _ _ _ h' tk (B.born hx na ⟨ng, l2⟩ (show OR g _ _ a (.list ds) from ⟨vs, n, eo, U.after B S⟩)) S (.ref _) (h _ (B.off na))

theorem BinT.addL {a b : Addr} {xs ys : List PV} {Q : PV → PH → Prop} (hG : g.Ok) (ea : H a = some (.list xs)) (eb : H b = some (.list ys)) (hsz : xs.length + ys.length ≤ sizeLine) (h : ∀ D, H D = none → Q (.ref D) (hup H D (.list (xs ++ ys)))) : BinT g A H .Add (.ref a) (.ref b) Q := by
  intro v w s Q' V W B P
  cases V; cases W
  obtain ⟨vs, n, eo, U⟩ := (B.hr _ _ ea).1
  obtain ⟨ws, n', eo', U'⟩ := (B.hr _ _ eb).1
  have e : vs.toArray ++ ws.toArray = (vs ++ ws).toArray := by simp
  refine concat_meets ⟨_, eo, rfl⟩ ⟨_, eo', rfl⟩ noFill_list_add seq_list_add PySem.F.slot_list_add PySem.F.entry_list_add (PySem.F.args_list_add_2 _ _) (list_addW a b vs.toArray ws.toArray n n' _ _ _ _ (by rw [List.size_toArray, List.size_toArray, U.length, U'.length]; exact hsz)) ⟨eo, eo', ?_⟩
  rw [e]
  exact newL (n := 0) (tk := s.toks) hG B P (Nat.le_refl _) (fun b o e => Heap.get?_push_of_some _ e) (Heap.get?_push_size _ rfl) (U.append U') h

theorem CT.len {a : Addr} {ds : List PV} {Q : PV → PH → Prop} (e : H a = some (.list ds)) (hsz : ds.length < 2 ^ 62) (h : Q (.int ds.length) H) : CT g A H (.builtin "len") [.ref a] Q := by
  intro vs s Q' V B P
  cases V with
  | cons V V2 =>
    cases V; cases V2
    obtain ⟨vs, hl, U⟩ := listAt B e
    have el : vs.toArray.size = ds.length := by rw [List.size_toArray, U.length]
    refine call_len_list hl (by rw [el]; omega) ?_
    rw [el]
    exact P _ _ H s.heap _ B (Stp.refl _ _) (.int _ _) h
theorem CT.abs {a : Int} {Q : PV → PH → Prop} (h : Q (.int (if a < 0 then -a else a)) H) : CT g A H (.builtin "abs") [.int a] Q := by
  intro vs s Q' V B P
  cases V with
  | cons V V2 =>
    cases V; cases V2
    exact call_abs_int fun u tk => P _ _ H s.heap tk B (Stp.refl _ _) (.int _ _) h
theorem InpT.add {a b : Int} {Q : PV → PH → Prop} (h : Q (.int (a + b)) H) : InpT g A H .Add (.int a) (.int b) Q := by
  intro v w s Q' V W B P; cases V; cases W; exact iadd_int (P.here B (.int _ s.toks) h (s.toks + 1))
theorem InpT.sub {a b : Int} {Q : PV → PH → Prop} (h : Q (.int (a - b)) H) : InpT g A H .Sub (.int a) (.int b) Q := by
  intro v w s Q' V W B P; cases V; cases W; exact isub_int (P.here B (.int _ s.toks) h (s.toks + 1))
theorem BinT.pow {a n : Int} {Q : PV → PH → Prop} (hn : 0 ≤ n) (hn2 : n ≤ 1000000) (ha : a.natAbs < 2 ^ 64) (h : Q (.int (a ^ n.toNat)) H) : BinT g A H .Pow (.int a) (.int n) Q := by
  intro v w s Q' V W B P; cases V; cases W; exact pow_int_small hn hn2 ha (P.here B (.int _ s.toks) h (s.toks + 1))
end
end Mine
end
section
open PySem PySem.W PyProof.Rows PySem.Calls PySem.Spec
set_option maxRecDepth 100000

namespace Mine
section
variable {g : Gd} {A : Around} {env : Env} {l : PL} {H : PH}

theorem intAt {h : Heap} {vs : List Value} {ns : List Int} (U : VRs H h vs (ns.map PV.int)) {i : Nat} {v : Value} (e : vs.toArray[i]? = some v) : ∃ t, v = .int (ns.getD i 0) t := by
  have hi : i < vs.length := by
    rw [List.getElem?_toArray] at e; exact (List.getElem?_eq_some_iff.mp e).1
  have hl : vs.length = ns.length := by have := U.length; simpa using this
  obtain ⟨u, e', V⟩ := U.get (i := i) (d := .int (ns.getD i 0)) (by
    rw [List.getElem?_map, List.getElem?_eq_getElem (by omega)]; simp [List.getD_eq_getElem?_getD, List.getElem?_eq_getElem (show i < ns.length by omega)])
  rw [List.getElem?_toArray] at e
  rw [e] at e'; obtain rfl := Option.some.inj e'
  cases V; exact ⟨_, rfl⟩

theorem CT.maxI {n : Nat} {a : Addr} {ns : List Int} {Q : PV → PH → Prop} (R : Room A n) (e : H a = some (.list (ns.map PV.int))) (h0 : ns ≠ []) (h : ∀ m, m ∈ ns → (∀ x ∈ ns, x ≤ m) → Q (.int m) H) : CT g A H (.builtin "max") [.ref a] Q := by
  intro vs s Q' V B P
  cases V with
  | cons V V2 =>
    cases V; cases V2
    obtain ⟨vs, hl, U⟩ := listAt B e
    have hlen : vs.length = ns.length := by have := U.length; simpa using this
    have hpos : 0 < ns.length := List.length_pos_iff.mpr h0
    refine call_max_walk (wpAny_pyIter_list hl ?_)
    have ne : a ≠ s.heap.objs.size := by obtain ⟨o, e, _⟩ := hl; exact Nat.ne_of_lt (Heap.lt_size e)
    refine ⟨s.heap.objs.size, _, _, _, _, _, fun i j => decide (ns.getD i 0 > ns.getD j 0), rfl, Walks.list (A := A.in1) R.hh _ a ne vs.toArray, ⟨⟨_, Heap.get?_push_size _ rfl, rfl, rfl⟩, hl.at fun o e => Heap.get?_push_of_some _ e⟩, ?_, by rw [List.size_toArray]; omega, ?_, ?_⟩
    · intro b hb
      rw [Heap.size_push]
      rcases List.mem_cons.mp hb with rfl | hb
      · exact Nat.lt_succ_self _
      · obtain rfl := List.mem_singleton.mp hb; obtain ⟨o, e, _⟩ := hl; exact Nat.lt_succ_of_lt (Heap.lt_size e)
    · intro i j vi vj s Q E hi hj q
      obtain ⟨t, rfl⟩ := intAt U hi
      obtain ⟨u, rfl⟩ := intAt U hj
      exact gt_int (prog := g.prog) (w := g.w) q
    · intro v h' tk hv k
      have kk : ∀ b o, s.heap.get? b = some o → h'.get? b = some o := fun b o e => k b o (fun z => by rw [List.mem_singleton.mp z] at e; exact absurd (Heap.lt_size e) (Nat.lt_irrefl _)) (Heap.get?_push_of_some _ e)
      obtain ⟨t, rfl⟩ := intAt U hv
      obtain ⟨b1, b2⟩ := argBest_gt (fun i => ns.getD i 0) (vs.toArray.size - 1)
      have hb : argBest (fun i j => decide (ns.getD i 0 > ns.getD j 0)) (vs.toArray.size - 1) < ns.length := by
        rw [List.size_toArray] at b1 ⊢; omega
      refine P _ _ H h' tk (B.grown kk) (Stp.grown kk) (.int _ _) (h _ ?_ fun x hx => ?_)
      · rw [List.getD_eq_getElem?_getD, List.getElem?_eq_getElem hb]; exact List.getElem_mem _
      · obtain ⟨j, hj, rfl⟩ := List.mem_iff_getElem.mp hx
        have := b2 j (by rw [List.size_toArray]; omega)
        rwa [show ns.getD j 0 = ns[j] by rw [List.getD_eq_getElem?_getD, List.getElem?_eq_getElem hj]; rfl] at this



theorem ET.and {x y : Expr} {pos : Pos} {Q : PV → PH → Prop} (h : ET g A env l H x fun v H₁ => TrT g A H₁ v fun b H₂ => if b = true then ET g A env l H₂ y Q else Q v H₂) : ET g A env l H (.BoolOp .And [x, y] pos) Q := by
  intro s Q' R P
  refine BoolOp_and (h s _ R ?_)
  intro v pv H₁ h₁ t₁ B₁ S₁ V₁ q₁
  refine q₁ v _ _ V₁ B₁ ?_
  intro b H₂ h₂ t₂ B₂ S₂ q₂
  cases b with
  | true => exact BoolOp_one (q₂ _ _ ((R.after B₁ S₁).after B₂ S₂) (P.after (S₁.trans S₂)))
  | false =>
    simp only [Bool.false_eq_true, if_false] at q₂ ⊢
    exact P v pv H₂ h₂ t₂ B₂ (S₁.trans S₂) (V₁.after B₁ S₂) q₂
end
end Mine
end
section
open PySem PySem.W PyProof.Rows PySem.Calls PySem.Spec
set_option maxRecDepth 100000

namespace Mine
section
variable {g : Gd} {A : Around} {env : Env} {l : PL} {H : PH}

/-! a display of a dict -/
noncomputable def DPs {K : Type} [DecidableEq K] (D : DK g K) (A : Around) (env : Env) (l : PL) : List (Option Expr) → List Expr → PH → (List (K × PV) → PH → Prop) → Prop
  | [], [], H, Q => Q [] H
  | some k :: ks, v :: vs, H, Q => ET g A env l H k fun kd H₁ => ET g A env l H₁ v fun d H₂ => ∃ key, kd = D.val key ∧ DPs D A env l ks vs H₂ fun r H₃ => Q ((key, d) :: r) H₃
  | _, _, _, _ => False
theorem DPs.run {K : Type} [DecidableEq K] {D : DK g K} {pos : Pos} : ∀ {ks : List (Option Expr)} {vs : List Expr} {H : PH} {Q : List (K × PV) → PH → Prop} {s : Shared} {Q' : List (Value × Value) → Shared → Prop}, DPs D A env l ks vs H Q → ER g env l H s.heap →
    (∀ kvs es ps H' h' tk, BR g H' h' → Stp H s.heap H' h' → Carries D.knd ps kvs → KV H' h' kvs es → Q es H' → Q' ps { s with heap := h', toks := tk }) → wpAny g.m A (evalPairs (pairTrees ks vs env pos)) Q' noE s
  | [], [], H, Q, s, Q', h, R, P => pairTrees_nil_walk (P [] [] [] H s.heap s.toks R.br (Stp.refl _ _) trivial trivial h)
  | some k :: ks, v :: vs, H, Q, s, Q', h, R, P => by
    refine pairTrees_cons_walk (h s _ R ?_)
    intro kv kd H₁ h₁ t₁ B₁ S₁ V₁ q₁
    refine q₁ _ _ (R.after B₁ S₁) ?_
    rintro vv d H₂ h₂ t₂ B₂ S₂ V₂ ⟨key, rfl, q₂⟩
    refine DPs.run q₂ ((R.after B₁ S₁).after B₂ S₂) ?_
    intro kvs es ps H₃ h₃ t₃ B₃ S₃ C₃ W₃ q₃
    exact P ((key, vv) :: kvs) ((key, d) :: es) ((kv, vv) :: ps) H₃ h₃ t₃ B₃ ((S₁.trans S₂).trans S₃) ⟨D.is _ _ _ _ V₁, rfl, C₃⟩ ⟨⟨rfl, V₂.after B₂ S₃⟩, W₃⟩ q₃
  | [], _ :: _, _, _, _, _, h, _, _ => h.elim
  | some _ :: _, [], _, _, _, _, h, _, _ => h.elim
  | none :: _, [], _, _, _, _, h, _, _ => h.elim
  | none :: _, _ :: _, _, _, _, _, h, _, _ => h.elim
theorem KV.merged {K : Type} [DecidableEq K] {h : Heap} : ∀ {kvs : List (K × Value)} {es : List (K × PV)} {kvs₀ : List (K × Value)} {es₀ : List (K × PV)}, KV H h kvs es → KV H h kvs₀ es₀ → KV H h (PySem.merged kvs₀ kvs) (es.foldl (fun acc e => dset acc e.1 e.2) es₀)
  | [], [], _, _, _, x => x
  | (k, v) :: _, (k', d) :: _, _, _, ⟨⟨e, V⟩, r⟩, x => by
    subst e
    have y := KV.stored (k := k) V x
    have z := KV.merged r y
    exact z
  | [], _ :: _, _, _, x, _ => x.elim
  | _ :: _, [], _, _, x, _ => x.elim
theorem ET.dict {K : Type} [DecidableEq K] (D : DK g K) {ks : List (Option Expr)} {vs : List Expr} {pos : Pos} {Q : PV → PH → Prop} (hG : g.Ok) (hall : ks.all (·.isSome) = true) (hl : ks.length = vs.length) (h0 : ks ≠ []) (hlen : ks.length ≤ 15)
    (h : DPs D A env l ks vs H fun es H₁ => ∀ a ep, H₁ a = none → Q (.ref a) (hup H₁ a (D.pack (es.foldl (fun acc e => dset acc e.1 e.2) []) ep))) : ET g A env l H (.Dict ks vs pos) Q := by
  intro s Q' R P
  refine wpAny_Dict_walk (knd := D.knd) hall hl h0 hlen ?_
  have k0 : ∀ b o, s.heap.get? b = some o → (s.heap.push { cls := .type "dict", data := .dict #[] }).get? b = some o := fun b o e => Heap.get?_push_of_some _ e
  have B0 := R.br.grown k0
  refine DPs.run (s := { s with heap := s.heap.push { cls := .type "dict", data := .dict #[] } }) h (R.grown k0) ?_
  intro kvs es ps H₁ h₁ t₁ B₁ S₁ C₁ W₁ q₁
  have hD : (s.heap.push { cls := .type "dict", data := .dict #[] }).get? s.heap.objs.size = some { cls := .type "dict", data := .dict #[] } := Heap.get?_push_size _ rfl
  have nD : H s.heap.objs.size = none := R.br.fresh
  have nH : s.heap.get? s.heap.objs.size = none := by
    cases q : s.heap.get? s.heap.objs.size with
    | none => rfl
    | some o => exact absurd (Heap.lt_size q) (Nat.lt_irrefl _)
  have eD : h₁.get? s.heap.objs.size = some { cls := .type "dict", data := .dict #[] } := S₁.keep _ _ hD nD id
  have nD₁ : H₁ s.heap.objs.size = none := S₁.dom _ _ hD nD
  refine ⟨kvs, C₁, (Heap.DictOf.new (knd := D.knd) s.heap).at fun o e => S₁.keep _ o e nD id, fun h' d' hs => ?_⟩
  obtain ⟨oD, esD, epD, eoD, _, _, _⟩ := id d'
  obtain ⟨ep', d''⟩ := d'.dictAt
  have gD : g.G.get? s.heap.objs.size = none := R.br.gfresh
  have W : OwnOk (fun b => b = s.heap.objs.size) h₁ := by
    rintro b o rfl e; rw [eD] at e; obtain rfl := Option.some.inj e; exact .inl ⟨_, _, rfl⟩
  have Sx : StpO (fun b => b = s.heap.objs.size) H₁ h₁ H₁ h' := Stp.same hs eoD rfl
  have B₂ := B₁.same Sx.kp W hs nD₁ gD
  have S₂ : Stp H s.heap H₁ h' := by
    have S := (Stp.grown (own := noOwn) (H := H) k0).trans S₁
    have ne : ∀ b o, s.heap.get? b = some o → b ≠ s.heap.objs.size := fun b o e z => by rw [z, nH] at e; cases e
    exact ⟨fun b o e n w => (hs.2 b (ne b o e)).trans (S.keep b o e n w), S.dom, fun b o e => let ⟨o', e'⟩ := S.alive b o e; ⟨o', (hs.2 b (ne b o e)).trans e'⟩, S.idle⟩
  have KVm : KV H₁ h₁ (PySem.merged [] kvs) (es.foldl (fun acc e => dset acc e.1 e.2) []) := KV.merged W₁ trivial
  exact P _ _ _ h' _ (B₂.add nD₁ ⟨gD, low (s := s) hG R.br⟩ ((D.orr _ _ _ _ _).mpr ⟨_, d'', KVm.step B₁ Sx.kp W⟩)) (S₂.add nH nD₁) (.ref _) (q₁ _ ep' nD₁)
theorem ET.dict0 {K : Type} [DecidableEq K] (D : DK g K) {pos : Pos} {Q : PV → PH → Prop} (hG : g.Ok) (h : ∀ a ep, H a = none → Q (.ref a) (hup H a (D.pack [] ep))) : ET g A env l H (.Dict [] [] pos) Q := by
  intro s Q' R P
  refine wpAny_Dict_empty ?_
  have k0 : ∀ b o, s.heap.get? b = some o → (s.heap.push { cls := .type "dict", data := .dict #[] }).get? b = some o := fun b o e => Heap.get?_push_of_some _ e
  have nH : s.heap.get? s.heap.objs.size = none := by
    cases q : s.heap.get? s.heap.objs.size with
    | none => rfl
    | some o => exact absurd (Heap.lt_size q) (Nat.lt_irrefl _)
  obtain ⟨ep', d''⟩ := (Heap.DictOf.new (knd := D.knd) s.heap).dictAt
  exact P _ _ _ _ _ (R.br.born k0 nH ⟨R.br.gfresh, low (s := s) hG R.br⟩ ((D.orr _ _ _ [] _).mpr ⟨[], d'', trivial⟩)) (Stp.born R.br k0 nH) (.ref _) (h _ ep' R.br.fresh)

/-! what a heap tells of a dict's keys -/

/-! slices of a list -/
theorem VRs.take {h : Heap} (n : Nat) {vs : List Value} {ds : List PV} (U : VRs H h vs ds) : VRs H h (vs.take n) (ds.take n) := by
  induction n generalizing vs ds with
  | zero => exact .nil
  | succ n ih => cases U with
    | nil => exact .nil
    | cons V U => exact .cons V (ih U)


end
theorem CompOk.of {scope : Scope} {env : Env} {names : List (Str × NameKind)} (hk : KO env names) (kind : scope.kind = .function)
    (h : (scope.names.all fun p => decide (p.2 ≠ .cell) && (decide (p.2 ≠ .local) || decide (scope.names.lookup p.1 = some .local)) && (decide (p.2 ≠ .free) || decide (names.lookup p.1 = some .cell))) = true) : CompOk scope env := by
  have key := fun p hp => List.all_eq_true.mp h p hp
  refine ⟨kind, fun p hp => ?_, fun p hp e => ?_, fun p hp e => ?_⟩
  · have := key p hp
    simp only [Bool.and_eq_true, decide_eq_true_eq] at this
    exact this.1.1
  · have := key p hp
    simp only [Bool.and_eq_true, Bool.or_eq_true, decide_eq_true_eq] at this
    exact this.1.2.resolve_left fun z => z e
  · have := key p hp
    simp only [Bool.and_eq_true, Bool.or_eq_true, decide_eq_true_eq] at this
    rw [hk]; exact this.2.resolve_left fun z => z e
section
variable {K : Type} [DecidableEq K]
noncomputable def dsetT (t : Tab K) (k : K) (v : Int × Int) : Tab K := if t.any (fun e => e.1 = k) then t.map (fun e => if e.1 = k then (e.1, v) else e) else t ++ [(k, v)]
theorem tabP_any (val : K → PV) (CS : Addr) (k : K) (t : Tab K) : (tabP val CS t).any (fun e => e.1 = k) = t.any (fun e => e.1 = k) := by
  unfold tabP; rw [List.any_map]; rfl
theorem tabP_set (val : K → PV) (CS : Addr) (k : K) (s c : Int) (t : Tab K) : dset (tabP val CS t) k (.inst CS [.int c, .int s, val k]) = tabP val CS (dsetT t k (s, c)) := by
  unfold dset dsetT
  rw [tabP_any]
  by_cases h : (t.any fun e => e.1 = k) = true
  · rw [if_pos h, if_pos h]
    unfold tabP
    rw [List.map_map, List.map_map]
    refine List.map_congr_left fun e _ => ?_
    simp only [Function.comp]
    by_cases z : e.1 = k
    · rw [if_pos z, if_pos z]; simp only [z]
    · rw [if_neg z, if_neg z]
  · rw [if_neg h, if_neg h]
    unfold tabP; rw [List.map_append]; rfl
theorem dsetT_len (t : Tab K) (k : K) (v : Int × Int) : (dsetT t k v).length ≤ t.length + 1 := by
  unfold dsetT; split
  · rw [List.length_map]; exact Nat.le_succ _
  · simp
noncomputable def keepD (d : Dif K) : Bool := !(d.2.2.1 == 0 && d.2.2.2.2 == 0)
noncomputable def takenGo (ds : List (Dif K)) (t : Tab K) : Tab K := ds.foldl (fun t d => if keepD d then dsetT t d.1 (d.2.2.1, d.2.2.2.2) else t) t
noncomputable def takenT (o n : Tab K) : Tab K := takenGo (cmpAll o n) []
end
noncomputable def GB (g : Gd) (x : Str) (v : Value) : Prop := nsIn g.K mainGlobals x = some none ∧ x ≠ "__name__" ∧ bootBuiltins x = some v
theorem ET.bi {g : Gd} {A : Around} {env : Env} {l : PL} {H : PH} {Q : PV → PH → Prop} {x : Str} {pos : Pos} {v : Value} (O : EnvOk env) (hG : g.Ok) (hx : env.kindOf x = some .globalImplicit) (hd : (x == ("__debug__" : Str)) = false) (e : GB g x v) (h : Q (.k v) H) : ET g A env l H (.Name x pos) Q :=
  ET.builtin O hG hx hd e.2.1 e.1 e.2.2 h
theorem TestsT.one {g : Gd} {A : Around} {env : Env} {l : PL} {H : PH} {c : Expr} {K : Bool → PH → Prop} (h : BT g A env l H c K) : TestsT g A env l H [c] K := h
theorem TestsT.no {g : Gd} {A : Around} {env : Env} {l : PL} {H : PH} {K : Bool → PH → Prop} (h : K true H) : TestsT g A env l H [] K := h
theorem szl {n : Nat} (h : Nat.ble n 1000 = true) : n ≤ sizeLine := Nat.le_trans (Nat.le_of_ble_eq_true h) (by unfold sizeLine; decide)
theorem szAnd {n : Nat} {P : Prop} (h : Nat.ble n 1000 = true) (q : P) : n ≤ sizeLine ∧ P := ⟨szl h, q⟩
theorem iteC {c : Bool} {P R : Prop} (t : c = true → P) (f : c = false → R) : if c = true then P else R := by
  cases c with
  | true => rw [if_pos rfl]; exact t rfl
  | false => rw [if_neg (by decide)]; exact f rfl
section
variable {K : Type} [DecidableEq K]
theorem dgetT_mem {t : Tab K} {k : K} {v : Int × Int} (hn : (t.map (·.1)).Nodup) (hm : (k, v) ∈ t) : dgetT t k = some v := by
  induction t with
  | nil => cases hm
  | cons e r ih =>
    rw [List.map_cons, List.nodup_cons] at hn
    unfold dgetT
    rw [List.find?_cons]
    rcases List.mem_cons.mp hm with z | z
    · subst z; simp
    · have hne : e.1 ≠ k := fun q => hn.1 (q ▸ List.mem_map_of_mem (f := (·.1)) z)
      simp only [hne, decide_false]
      exact ih hn.2 z
theorem dgetT_some {t : Tab K} {k : K} {v : Int × Int} (h : dgetT t k = some v) : (k, v) ∈ t := by
  unfold dgetT at h
  obtain ⟨e, he, rfl⟩ := Option.map_eq_some_iff.mp h
  have h1 := List.mem_of_find?_eq_some he
  have h2 := List.find?_some he
  simp at h2; subst h2; exact h1
theorem dgetT_none {t : Tab K} {k : K} : dgetT t k = none ↔ k ∉ t.map (·.1) := by
  unfold dgetT
  rw [Option.map_eq_none_iff, List.find?_eq_none]
  constructor
  · intro h hm
    obtain ⟨e, he, rfl⟩ := List.mem_map.mp hm
    exact h e he (by simp)
  · intro h e he
    simp only [decide_eq_true_eq]
    exact fun z => h (z ▸ List.mem_map_of_mem (f := (·.1)) he)
theorem dsetT_new {t : Tab K} {k : K} {v : Int × Int} (h : k ∉ t.map (·.1)) : dsetT t k v = t ++ [(k, v)] := by
  unfold dsetT
  rw [if_neg]
  rw [List.any_eq_true]
  rintro ⟨e, he, z⟩
  simp only [decide_eq_true_eq] at z
  exact h (z ▸ List.mem_map_of_mem (f := (·.1)) he)
end
noncomputable def timesT (t : Tab Int) (f u : Int) : Tab Int := t.map fun e => (e.1 + u, f * e.2.1, f * e.2.2)
theorem DPs.cons {g : Gd} {K : Type} [DecidableEq K] {D : DK g K} {A : Around} {env : Env} {l : PL} {k v : Expr} {ks : List (Option Expr)} {vs : List Expr} {H : PH} {Q : List (K × PV) → PH → Prop} (h : ET g A env l H k fun kd H₁ => ET g A env l H₁ v fun d H₂ => ∃ key, kd = D.val key ∧ DPs D A env l ks vs H₂ fun r H₃ => Q ((key, d) :: r) H₃) : DPs D A env l (some k :: ks) (v :: vs) H Q := h
theorem DPs.nil {g : Gd} {K : Type} [DecidableEq K] {D : DK g K} {A : Around} {env : Env} {l : PL} {H : PH} {Q : List (K × PV) → PH → Prop} (h : Q [] H) : DPs D A env l [] [] H Q := h
/-- a cut behind a statement that neither returns nor breaks -/
theorem ST.cut {g : Gd} {A : Around} {env : Env} {l : PL} {H : PH} {st : Stmt} {Q : PF → PL → PH → Prop} (M : PL → PH → Prop) (h : ST g A env l H st fun f l₁ H₁ => match f with | .next => M l₁ H₁ | _ => False) (k : ∀ l₁ H₁, M l₁ H₁ → Q .next l₁ H₁) : ST g A env l H st Q :=
  h.mono fun f l₁ H₁ q => by cases f <;> first | exact k _ _ q | exact q.elim
theorem ET.cut {g : Gd} {A : Around} {env : Env} {l : PL} {H : PH} {e : Expr} {Q : PV → PH → Prop} (M : PV → PH → Prop) (h : ET g A env l H e M) (k : ∀ v H₁, M v H₁ → Q v H₁) : ET g A env l H e Q := h.mono k
theorem BT.cut {g : Gd} {A : Around} {env : Env} {l : PL} {H : PH} {e : Expr} {Q : Bool → PH → Prop} (M : Bool → PH → Prop) (h : BT g A env l H e M) (k : ∀ v H₁, M v H₁ → Q v H₁) : BT g A env l H e Q := h.mono k
noncomputable def mulRoot (t : Tab Int) (r : Int) : Tab Int := takenT (timesT t r 0) (timesT t 1 1)
noncomputable def rootsT (rs : List Int) : Tab Int := rs.foldl mulRoot [(0, 1, 0)]
noncomputable def prodT (rs : List Int) (m h : Int) : Tab Int := takenT (takenT (timesT (rootsT rs) (m * m + h) 0) (timesT (rootsT rs) (2 * m) 1)) (timesT (rootsT rs) 1 2)
end Mine
end
section
open PySem PySem.W PyProof.Rows PySem.Calls PySem.Spec
set_option maxRecDepth 100000

namespace Mine
section
variable {prog : Program} {w : World} {A : Around} {E : Value → Shared → Prop} {s : Shared} {K : Type} [DecidableEq K] {knd : KeyKind prog w K}

theorem call_list_dict {Q : Value → Shared → Prop} {r : Addr} {kvs : List (K × Value)} {ep : Nat} (hh : A.handled = none) (hd : (r == sysModules) = false) (hr : s.heap.DictAt knd r kvs ep) (hlen : kvs.length ≤ 2 ^ 20)
    (hQ : ∀ h' tk acc' c', (∀ b o, s.heap.get? b = some o → h'.get? b = some o) →
      h'.get? s.heap.objs.size = some { cls := .type "list", dict := none, data := .seq acc' c', slots := #[] } → ItemsOf (fun i v => ∃ k x, kvs[i]? = some (k, x) ∧ knd.is k v = true) acc' kvs.length → Q (.ref s.heap.objs.size) { s with heap := h', toks := tk }) :
    wpAny (model prog w) A (call (.type "list") [.ref r]) Q E s :=
  kdl_call (kdl_dict (knd := knd) (kvs := kvs) (ep := ep) hd) hh hr (kdl_size (by omega)) hQ
end

section
variable {g : Gd} {A : Around} {H : PH} {K : Type} [DecidableEq K] {Q : PV → PH → Prop}
theorem items_vals (D : DK g K) {H : PH} {h : Heap} : ∀ {acc : List Value} {kvs : List (K × Value)}, acc.length = kvs.length → (∀ (j : Nat) v, acc[j]? = some v → ∃ k x, kvs[j]? = some (k, x) ∧ D.knd.is k v = true) → VRs H h acc (kvs.map fun e => D.val e.1)
  | [], [], _, _ => .nil
  | v :: acc, (k, x) :: kvs, hl, hi => by
    refine .cons ?_ (items_vals D (by simpa using hl) fun j v e => ?_)
    · obtain ⟨k', x', e, is⟩ := hi 0 v (by simp)
      simp at e
      obtain ⟨rfl, rfl⟩ := e
      exact D.back _ _ _ _ is
    · obtain ⟨k', x', e', is⟩ := hi (j + 1) v (by simpa using e)
      exact ⟨k', x', by simpa using e', is⟩
  | [], _ :: _, hl, _ => by simp at hl
  | _ :: _, [], hl, _ => by simp at hl
theorem CT.listK (D : DK g K) {n : Nat} (hG : g.Ok) (R : Room A n) {a : Addr} {es : List (K × PV)} {ep : Nat} (e : H a = some (D.pack es ep)) (hsz : es.length ≤ 1000) (h : ∀ r, H r = none → Q (.ref r) (hup H r (.list (es.map fun e => D.val e.1)))) : CT g A H (.type "list") [.ref a] Q := by
  intro vs s Q' V B P
  cases V with
  | cons V1 V2 =>
    cases V1; cases V2
    obtain ⟨kvs, d, W, lo⟩ := D.at B e
    refine call_list_dict (knd := D.knd) R.hh lo d (by rw [W.length]; omega) fun h' tk acc' c' k eo hi => ?_
    have hv : VRs H s.heap acc'.toList (es.map fun e => D.val e.1) := by
      have z := items_vals D (H := H) (h := s.heap) (acc := acc'.toList) (kvs := kvs) (by have := hi.1; simpa using this) (fun j v e => hi.2 j v (by simpa using e))
      have ek : kvs.map (fun e => D.val e.1) = es.map fun e => D.val e.1 := by
        have := congrArg (List.map D.val) W.keys
        rwa [List.map_map, List.map_map] at this
      rw [ek] at z; exact z
    refine newL (vs := acc'.toList) (n := c') hG B P (Nat.le_refl _) k ?_ hv h
    rw [eo]
end
noncomputable def valT (t : Tab Int) (k : Int) : Int × Int := (dgetT t k).getD (0, 0)
noncomputable def numAt (t : Tab Int) (c : Bool) (k : Int) : Int := if c then (valT t k).2 else (valT t k).1
noncomputable def numsDown (t : Tab Int) (c : Bool) : Nat → List Int
  | 0 => []
  | n + 1 => numAt t c n :: numsDown t c n
noncomputable def IsTop (t : Tab Int) (m : Nat) : Prop := (m = 0 ∨ (m : Int) ∈ t.map (·.1)) ∧ ∀ k ∈ t.map (·.1), k ≤ (m : Int)
theorem iteT' {c : Bool} {P R : Prop} (hc : c = true) (h : P) : if c = true then P else R := by rwa [if_pos hc]
theorem iteF' {c : Bool} {P R : Prop} (hc : c = false) (h : R) : if c = true then P else R := by subst hc; rwa [if_neg (by decide)]
section
variable {env : Env}
end
noncomputable def Refs (H : PH) : List Addr → List (List Int) → Prop
  | [], [] => True
  | a :: as, n :: ns => H a = some (.list (n.map .int)) ∧ Refs H as ns
  | _, _ => False
noncomputable def signsOf (ws : List Int) : List Bool := (ws.filter fun w => w != 0).map fun w => decide (0 < w)
noncomputable def changesAt (ss : List Bool) : Nat → Nat
  | 0 => 0
  | j + 1 => changesAt ss j + (if ss.getD (j + 1) false != ss.getD j false then 1 else 0)
noncomputable def changesN (ss : List Bool) : Nat := changesAt ss (ss.length - 1)
theorem small_up (a b : Int) (h : -1000 ≤ a) (h' : a ≤ 1000) (h2 : -1000 ≤ b) (h3 : b ≤ 1000) : Builtin.Range.small a b 1 = true := by
  unfold Builtin.Range.small
  rw [rangeSize_one]
  split <;> simp [Builtin.Range.rangeFitsLong] <;> omega
end Mine
end
section
open PySem PySem.W PyProof.Rows PySem.Calls PySem.Spec
set_option maxRecDepth 100000

namespace Mine
section
variable {g : Gd} {A : Around} {env : Env} {l : PL} {H : PH}

noncomputable def ZipElt (g : Gd) (A : Around) (env : Env) (l : PL) (scope : Scope) (a b : Str) (elt : Expr) (f : Int → Int → Int) (H₁ : PH) : Prop :=
  ∀ (L : Addr) (s : Shared) (m : Str → Option Value) (h₁ : Heap) (x y : Int) (t u : Tok) (Q' : Value → Shared → Prop), H₁ L = none → g.G.get? L = none → BR g H₁ h₁ → ER g env l H₁ h₁ → (∀ b o, h₁.get? b = some o → s.heap.get? b = some o) → s.heap.Ns L m → m a = some (.int x t) → m b = some (.int y u) →
    (∀ tk t', Q' (.int (f x y) t') { s with toks := tk }) → wpAny g.m A (eval elt (compEnvC scope (clOf scope env) L env)) Q' noE s


end
end Mine
end
section
open PySem PySem.W PyProof.Rows PySem.Calls PySem.Spec
set_option maxRecDepth 100000

namespace Mine
section
variable {g : Gd} {A : Around} {env : Env} {l : PL} {H : PH}
/-- a list of ints in the ground -/
structure GList (g : Gd) (a : Addr) (ns : List Int) : Prop where
  at_ : ∃ vs, g.G.IsList a vs.toArray ∧ IntsAre vs ns
theorem ints_VRs {H : PH} {h : Heap} : ∀ {vs : List Value} {ns : List Int}, IntsAre vs ns → VRs H h vs (ns.map .int)
  | _, _, .nil => .nil
  | _, _, .cons n t r => .cons (.int n t) (ints_VRs r)
theorem ET.sliceToG {x u : Expr} {p pos : Pos} {Q : PV → PH → Prop} (hG : g.Ok) (ht : ∀ o r, letTemporaryGo x o r = pure ())
    (h : ET g A env l H x fun v H₁ => ET g A env l H₁ u fun w H₂ => ∃ (a : Addr) (ns : List Int) (k : Nat), v = .k (.ref a) ∧ w = .int k ∧ GList g a ns ∧ ns.length ≤ sizeLine ∧ ∀ D, H₂ D = none → Q (.ref D) (hup H₂ D (.list ((ns.take k).map .int)))) :
    ET g A env l H (.Subscript x (.Slice none (some u) none p) pos) Q := by
  intro s Q' R P
  refine wpAny_Subscript_list_slice (h s _ R ?_) ht
  intro v pv H₁ h₁ t₁ B₁ S₁ V₁ q₁
  refine wpAny_evalPart_none (wpAny_evalPart_some (q₁ _ _ (R.after B₁ S₁) ?_))
  rintro w wv H₂ h₂ t₂ B₂ S₂ V₂ ⟨a, ns, k, rfl, rfl, ⟨vs, eg, hi⟩, hsz, q⟩
  cases V₁; cases V₂; rename_i tk0
  have eo := eg.at fun o e => B₂.keep _ o e
  have U : VRs H₂ h₂ vs (ns.map .int) := ints_VRs hi
  have hlen : vs.length = ns.length := by have := U.length; simpa using this
  refine ⟨a, vs.toArray, none, some (k : Int), rfl, eo, by rw [List.size_toArray, hlen]; exact hsz, .none, .int _ _, ?_⟩
  rw [slicePick_upto']
  have hx : ∀ b o, h₂.get? b = some o → ((h₂.push { cls := .type "slice", data := .fields #[.none, Value.int (k : Int) tk0, .none] }).push { cls := .type "list", data := .seq (vs.toArray.toList.take k).toArray }).get? b = some o := fun b o e => Heap.get?_push_of_some _ (Heap.get?_push_of_some _ e)
  have eN := Heap.get?_push_size (h₂.push { cls := .type "slice", data := .fields #[.none, Value.int (k : Int) tk0, .none] }) (o := { cls := .type "list", data := .seq (vs.toArray.toList.take k).toArray }) rfl
  rw [Heap.size_push] at eN
  have Ut : VRs H₂ h₂ (vs.take k) ((ns.take k).map .int) := by rw [List.map_take]; exact U.take k
  exact newL (s := { s with heap := h₂, toks := t₂ }) (n := 0) (tk := t₂) hG B₂ (P.after (S₁.trans S₂)) (Nat.le_succ _) hx eN Ut q
end
end Mine
end
section
open PySem PySem.W PyProof.Rows PySem.Calls PySem.Spec
set_option maxRecDepth 100000
namespace Mine
open Builtin Builtin.Str
/-- decimal figures -/
noncomputable def dg (m : Nat) : List Nat := (Nat.toDigits 10 m).map Char.toNat
noncomputable def sgnL (plus neg : Bool) (ds : List Nat) : List Nat := (if neg then [45] else if plus then [43] else []) ++ ds
noncomputable def sOf (l : List Nat) : Str := ⟨l.toArray⟩
theorem dg_ok {m c : Nat} (h : c ∈ dg m) : 48 ≤ c ∧ c ≤ 57 := by
  obtain ⟨d, hd, rfl⟩ := List.mem_map.mp h
  have := Nat.isDigit_of_mem_toDigits (b := 10) (by decide) (by decide) hd
  unfold Char.isDigit at this
  simp only [Bool.and_eq_true, decide_eq_true_eq, ge_iff_le] at this
  exact ⟨this.1, this.2⟩
theorem str_digits (m : Nat) : (Str.ofString (toString ((m : Nat) : Int))).cps.toList = dg m := by
  rw [Str.ofString_eq_toList]
  show (toString ((m : Nat) : Int)).toList.map Char.toNat = _
  have e : toString ((m : Nat) : Int) = Nat.repr m := rfl
  rw [e, Nat.toList_repr]
  rfl
theorem pf_num {f : Percent} {neg : Bool} {ds : List Nat} (hw : f.width = none) (hb : f.blank = false) (ha : f.alt = false) (hl : f.ljust = false) (hz : f.zero = false) (ht : f.type = 100 ∨ f.type = 105 ∨ f.type = 102)
    (hd : ∀ c ∈ ds, c ≠ 45 ∧ c ≠ 43) : (percentField f true ((if neg = true then [45] else []) ++ ds)).getD ((if neg = true then [45] else []) ++ ds) = sgnL f.sign neg ds := by
  unfold percentField
  have ht' : (f.type == 115 || f.type == 114 || f.type == 97) = false := by rcases ht with h | h | h <;> rw [h] <;> rfl
  have ho : (f.type == 120 || f.type == 88 || f.type == 111) = false := by rcases ht with h | h | h <;> rw [h] <;> rfl
  rw [hw, hb, ha, hl, hz, ht']
  have key : ∀ tx : List Nat, (match tx with | 45 :: r => ([45], r) | 43 :: r => ([43], r) | _ => (if f.sign = true then [43] else [], tx)) = (([45], ds) : List Nat × List Nat) ∧ tx = 45 :: ds ∧ neg = true ∨ (match tx with | 45 :: r => ([45], r) | 43 :: r => ([43], r) | _ => (if f.sign = true then [43] else [], tx)) = ((if f.sign = true then [43] else [], ds) : List Nat × List Nat) ∧ tx = ds ∧ neg = false → 
      (if f.prec.all (· ≥ tx.length) && !f.sign then none else some ((match tx with | 45 :: r => ([45], r) | 43 :: r => ([43], r) | _ => (if f.sign = true then [43] else [], tx)).1 ++ (match tx with | 45 :: r => ([45], r) | 43 :: r => ([43], r) | _ => (if f.sign = true then [43] else [], tx)).2)).getD tx = sgnL f.sign neg ds := by
    intro tx h
    rcases h with ⟨e, e2, e3⟩ | ⟨e, e2, e3⟩ <;> rw [e, e3] <;> split
    · rw [e2]; rfl
    · rfl
    · rename_i q
      simp only [Bool.and_eq_true, Bool.not_eq_true'] at q
      rw [e2, q.2]; rfl
    · cases f.sign <;> rfl
  cases neg with
  | true =>
    have := key (45 :: ds) (Or.inl ⟨rfl, rfl, rfl⟩)
    simpa using this
  | false =>
    have h2 : (match ds with | 45 :: r => ([45], r) | 43 :: r => ([43], r) | _ => (if f.sign = true then [43] else [], ds)) = ((if f.sign = true then [43] else [], ds) : List Nat × List Nat) := by
      cases ds with
      | nil => rfl
      | cons c r =>
        have := hd c (by simp)
        split
        · rename_i e; exact absurd (List.cons.inj e).1 this.1
        · rename_i e; exact absurd (List.cons.inj e).1 this.2
        · rfl
    have := key ds (Or.inr ⟨h2, rfl, rfl⟩)
    simp at this ⊢
    exact this
theorem pi_dec {f : Percent} {neg : Bool} {ds : List Nat} (ha : f.alt = false) (hp : f.prec = none) (ht : f.type = 100 ∨ f.type = 105) : percentInt f neg ds = (if neg = true then [45] else []) ++ ds := by
  unfold percentInt
  rw [ha, hp]
  rcases ht with h | h <;> rw [h] <;> simp
end Mine
end
section
open PySem PySem.W PyProof.Rows PySem.Calls PySem.Spec
set_option maxRecDepth 100000
set_option maxHeartbeats 2000000
namespace Mine
open Builtin Builtin.Str
abbrev PSt := List Value × Writer × List Nat
abbrev PfT (Q : ForInStep PSt → Shared → Prop) (s : Shared) (more : List Value) (t : List Nat) (T y : Str) (N : Nat) : Prop :=
  ∀ w' k, KPc.Good w' (T ++ y) (N + y.length) → Q (.yield (more, w', t)) { s with toks := k }
theorem span_go {t : List Nat} (ht : t = [] ∨ ∃ t', t = 37 :: t') : ∀ (cs acc : List Nat), (∀ c ∈ cs, (c != 37) = true) → List.span.loop (· != 37) (cs ++ t) acc = (acc.reverse ++ cs, t)
  | [], acc, _ => by
    rcases ht with rfl | ⟨t', rfl⟩
    · simp [List.span.loop]
    · simp [List.span.loop]
  | c :: cs, acc, h => by
    have h1 := h c (by simp)
    rw [List.cons_append, List.span.loop, h1]
    show List.span.loop _ (cs ++ t) (c :: acc) = _
    rw [span_go ht cs (c :: acc) fun x hx => h x (by simp [hx])]
    simp
theorem span_lit {cs t : List Nat} (h : ∀ c ∈ cs, (c != 37) = true) (ht : t = [] ∨ ∃ t', t = 37 :: t') : (cs ++ t).span (· != 37) = (cs, t) := by
  show List.span.loop _ (cs ++ t) [] = _
  rw [span_go ht cs [] h]
  rfl
theorem dg_nc {m : Nat} : ∀ c ∈ dg m, c ≠ 45 ∧ c ≠ 43 := fun c h => by have := dg_ok h; omega
theorem fin_turn {M : Model} {A : Around} {E : Value → Shared → Prop} {s : Shared} {more : List Value} {w : Writer} {T : Str} {N : Nat} {Q : ForInStep PSt → Shared → Prop} {t text y : List Nat} {k : Nat} {X : Option (List Nat)} {b : Bool} (g : KPc.Good w T N) (e : X.getD text = y) (q : PfT Q s more t T (sOf y) N) :
    wpAny M A (match X with | none => pure (ForInStep.yield (more, w.add ⟨text.toArray⟩ (if b = true then (none : Option Value) else none), t)) | some laid => pure (ForInStep.yield (more, w.add ⟨laid.toArray⟩, t))) Q E { s with toks := k } := by
  cases X with
  | none => subst e; exact wpAny_pure (q _ _ (KPc.good_add g (KPc.obj_none (ite_self _))))
  | some v => subst e; exact wpAny_pure (q _ _ (KPc.good_add g (KPc.obj_none rfl)))
theorem pfo_int {prog : Program} {W : World} {A : Around} {E : Value → Shared → Prop} {s : Shared} {n : Int} {u : Tok} {Q : UInt64 → Shared → Prop} (hfit : ¬ Float64.isInf (Float64.ofInt n) = true) (h : Q (Float64.ofInt n) { s with toks := s.toks + 1 }) : wpAny (model prog W) A (percentFloatOf (.int n u)) Q E s := by
  unfold percentFloatOf
  refine wpAny_bind (wpAny_of_eq (a := none) rfl ?_)
  refine wpAny_bind (wpAny_callSpecial?_slot (T := "int") (name := Str.ofString "__float__") (typeIs_int _ _ _) F.slot_int_float (call_gives F.slot_int_float (typeIs_int _ _ _) F.entry_int_float (F.args_int_float_1 _) (AutoIntG0.int___float___int_1 n u hfit) ?_))
  refine wpAny_bind (wpAny_of_eq (a := some _) rfl ?_)
  exact wpAny_pure h
theorem pf_none {f : Percent} {text : List Nat} (h1 : f.width = none) (h2 : f.prec = none) (h3 : f.sign = false) (h4 : f.blank = false) {num : Bool} : percentField f num text = none := by
  unfold percentField
  rw [h1, h2, h3, h4]; rfl

/-- what a turn of the formatting loop does, case by case -/
structure PStep (fo : Value) (fmt : Str) (f : Nat → PSt → Sem (ForInStep PSt)) : Prop where
  stop : ∀ {M : Model} {A : Around} {E : Value → Shared → Prop} {s : Shared} {x : Nat} {p : List Value} {w : Writer} {T : Str} {N : Nat} {Q : ForInStep PSt → Shared → Prop}, KPc.Good w T N → N ≤ 16777216 → Q (.done (p, w, [])) s → wpAny M A (f x (p, w, [])) Q E s
  lit : ∀ {M : Model} {A : Around} {E : Value → Shared → Prop} {s : Shared} {x : Nat} {p : List Value} {w : Writer} {T : Str} {N : Nat} {Q : ForInStep PSt → Shared → Prop} {cs t : List Nat}, KPc.Good w T N → N ≤ 16777216 → cs ≠ [] → (∀ c ∈ cs, (c != 37) = true) → (t = [] ∨ ∃ t', t = 37 :: t') →
    Q (.yield (p, w.add ⟨cs.toArray⟩ (if cs.length == fmt.length then some fo else none), t)) s → wpAny M A (f x (p, w, cs ++ t)) Q E s
  str : ∀ {M : Model} {A : Around} {E : Value → Shared → Prop} {s : Shared} {x : Nat} {y : Str} {u : Tok} {more : List Value} {w : Writer} {T : Str} {N : Nat} {Q : ForInStep PSt → Shared → Prop} {t : List Nat}, KPc.Good w T N → N ≤ 16777216 →
    PfT Q s more t T y N → wpAny M A (f x (.str y u :: more, w, 37 :: 115 :: t)) Q E s
  sint : ∀ {prog : Program} {W : World} {A : Around} {E : Value → Shared → Prop} {s : Shared} {x : Nat} {n : Int} {u : Tok} {more : List Value} {w : Writer} {T : Str} {N : Nat} {Q : ForInStep PSt → Shared → Prop} {t : List Nat}, KPc.Good w T N → N ≤ 16777216 → n.natAbs.log2 < 1920 →
    PfT Q s more t T (Str.ofString (toString n)) N → wpAny (model prog W) A (f x (.int n u :: more, w, 37 :: 115 :: t)) Q E s
  int : ∀ {prog : Program} {W : World} {A : Around} {E : Value → Shared → Prop} {s : Shared} {x : Nat} {n : Int} {u : Tok} {more : List Value} {w : Writer} {T : Str} {N : Nat} {Q : ForInStep PSt → Shared → Prop} {t : List Nat} {c : Nat}, KPc.Good w T N → N ≤ 16777216 → n.natAbs.log2 < 1920 → c = 100 ∨ c = 105 →
    PfT Q s more t T (sOf (sgnL false (decide (n < 0)) (dg n.natAbs))) N → wpAny (model prog W) A (f x (.int n u :: more, w, 37 :: c :: t)) Q E s
  intp : ∀ {prog : Program} {W : World} {A : Around} {E : Value → Shared → Prop} {s : Shared} {x : Nat} {n : Int} {u : Tok} {more : List Value} {w : Writer} {T : Str} {N : Nat} {Q : ForInStep PSt → Shared → Prop} {t : List Nat}, KPc.Good w T N → N ≤ 16777216 → n.natAbs.log2 < 1920 →
    PfT Q s more t T (sOf (sgnL true (decide (n < 0)) (dg n.natAbs))) N → wpAny (model prog W) A (f x (.int n u :: more, w, 37 :: 43 :: 105 :: t)) Q E s
  flt : ∀ {prog : Program} {W : World} {A : Around} {E : Value → Shared → Prop} {s : Shared} {x : Nat} {b : UInt64} {u : Tok} {more : List Value} {w : Writer} {T : Str} {N : Nat} {Q : ForInStep PSt → Shared → Prop} {t : List Nat} {c p : Nat} {neg : Bool} {body : List Char}, KPc.Good w T N → N ≤ 16777216 → c = 48 ∧ p = 0 ∨ c = 49 ∧ p = 1 →
    Float64.text b 'f' p false false false = (neg, body) → (∀ c ∈ body.map Char.toNat, c ≠ 45 ∧ c ≠ 43) → PfT Q s more t T (sOf (sgnL false neg (body.map Char.toNat))) N → wpAny (model prog W) A (f x (.float b u :: more, w, 37 :: 46 :: c :: 102 :: t)) Q E s
  fltp : ∀ {prog : Program} {W : World} {A : Around} {E : Value → Shared → Prop} {s : Shared} {x : Nat} {b : UInt64} {u : Tok} {more : List Value} {w : Writer} {T : Str} {N : Nat} {Q : ForInStep PSt → Shared → Prop} {t : List Nat} {c p : Nat} {neg : Bool} {body : List Char}, KPc.Good w T N → N ≤ 16777216 → c = 48 ∧ p = 0 ∨ c = 49 ∧ p = 1 →
    Float64.text b 'f' p false false false = (neg, body) → (∀ c ∈ body.map Char.toNat, c ≠ 45 ∧ c ≠ 43) → PfT Q s more t T (sOf (sgnL true neg (body.map Char.toNat))) N → wpAny (model prog W) A (f x (.float b u :: more, w, 37 :: 43 :: 46 :: c :: 102 :: t)) Q E s
  fint : ∀ {prog : Program} {W : World} {A : Around} {E : Value → Shared → Prop} {s : Shared} {x : Nat} {n : Int} {u : Tok} {more : List Value} {w : Writer} {T : Str} {N : Nat} {Q : ForInStep PSt → Shared → Prop} {t : List Nat} {c p : Nat} {neg : Bool} {body : List Char}, KPc.Good w T N → N ≤ 16777216 → ¬ Float64.isInf (Float64.ofInt n) = true → c = 48 ∧ p = 0 ∨ c = 49 ∧ p = 1 →
    Float64.text (Float64.ofInt n) 'f' p false false false = (neg, body) → (∀ c ∈ body.map Char.toNat, c ≠ 45 ∧ c ≠ 43) → PfT Q s more t T (sOf (sgnL false neg (body.map Char.toNat))) N → wpAny (model prog W) A (f x (.int n u :: more, w, 37 :: 46 :: c :: 102 :: t)) Q E s
  fintp : ∀ {prog : Program} {W : World} {A : Around} {E : Value → Shared → Prop} {s : Shared} {x : Nat} {n : Int} {u : Tok} {more : List Value} {w : Writer} {T : Str} {N : Nat} {Q : ForInStep PSt → Shared → Prop} {t : List Nat} {c p : Nat} {neg : Bool} {body : List Char}, KPc.Good w T N → N ≤ 16777216 → ¬ Float64.isInf (Float64.ofInt n) = true → c = 48 ∧ p = 0 ∨ c = 49 ∧ p = 1 →
    Float64.text (Float64.ofInt n) 'f' p false false false = (neg, body) → (∀ c ∈ body.map Char.toNat, c ≠ 45 ∧ c ≠ 43) → PfT Q s more t T (sOf (sgnL true neg (body.map Char.toNat))) N → wpAny (model prog W) A (f x (.int n u :: more, w, 37 :: 43 :: 46 :: c :: 102 :: t)) Q E s

theorem pend_of {M : Model} {A : Around} {s : Shared} {E : Value → Shared → Prop} {args : Value} {vs : List Value} {Q : Fin → Shared → Prop} {isT : Bool} {why : String} {K : List Value → Sem Fin}
    (hT : isT = true ∧ (∀ {Q : Option (Array Value) → Shared → Prop}, Q (some vs.toArray) s → wpAny M A (seqItems? args) Q E s) ∨ isT = false ∧ vs = [args])
    (h : wpAny M A (K vs) Q E s) : wpAny M A (if isT = true then (seqItems? args >>= fun o => match o with | some xs => (pure xs.toList >>= K) | none => ((unsupported why : Sem (List Value)) >>= K)) else (pure [args] >>= K)) Q E s := by
  rcases hT with ⟨rfl, h1⟩ | ⟨rfl, rfl⟩
  · refine wpAny_ite (KPc.ite_yes rfl ?_)
    refine wpAny_bind (h1 ?_)
    exact wpAny_bind (wpAny_pure h)
  · refine wpAny_ite (KPc.ite_no Bool.false_ne_true ?_)
    exact wpAny_bind (wpAny_pure h)
theorem ite_no_wp {M : Model} {A : Around} {E : Value → Shared → Prop} {s : Shared} {α : Type} {c : Prop} [Decidable c] {X Y : Sem α} {Q : α → Shared → Prop} (hc : ¬ c) (h : wpAny M A Y Q E s) : wpAny M A (if c then X else Y) Q E s := by rwa [if_neg hc]
theorem ite_yes_wp {M : Model} {A : Around} {E : Value → Shared → Prop} {s : Shared} {α : Type} {c : Prop} [Decidable c] {X Y : Sem α} {Q : α → Shared → Prop} (hc : c) (h : wpAny M A X Q E s) : wpAny M A (if c then X else Y) Q E s := by rwa [if_pos hc]
/-- what comes behind a conversion -/
noncomputable def ptail (more : List Value) (w : Writer) (t : List Nat) (F : Percent) (x : List Nat × Option Value × Bool) : Sem (ForInStep PSt) :=
  match percentField F x.2.2 x.1 with
  | none => pure (.yield (more, w.add ⟨x.1.toArray⟩ (if t.isEmpty = true then x.2.1 else none), t))
  | some laid => pure (.yield (more, w.add ⟨laid.toArray⟩, t))
noncomputable def pfq (plus : Bool) (prec : Option Nat) (ty : Nat) : Percent := { sign := plus, prec := prec, type := ty }
noncomputable def convS (v : Value) : Sem (List Nat × Option Value × Bool) := do
  let o ← Str.strOf v
  let m ← asStr? o
  match m with
  | some y => pure (y.cps.toList, some o, false)
  | _ => unsupported "internal:str.__mod__"
noncomputable def convD (F : Percent) (v : Value) : Sem (List Nat × Option Value × Bool) := do
  let i ← percentIntOf F.type v
  let a ← mkInt ((i.natAbs : Nat) : Int)
  let b ← call (.builtin "int.__repr__") [a]
  let m ← asStr? b
  match m with
  | some d => do
    let ds ← pure d.cps.toList
    pure (percentInt F (decide (i < 0)) ds, none, true)
  | _ => do
    let ds ← unsupported "internal:str.__mod__"
    pure (percentInt F (decide (i < 0)) ds, none, true)
noncomputable def convF (p : Nat) (v : Value) : Sem (List Nat × Option Value × Bool) := do
  let x ← percentFloatOf v
  pure ((if (Float64.text x 'f' p false false false).1 = true then [45] else []) ++ (Float64.text x 'f' p false false false).2.map Char.toNat, none, true)
section
variable {prog : Program} {W : World} {A : Around} {E : Value → Shared → Prop} {s : Shared} {Q : ForInStep PSt → Shared → Prop} {more : List Value} {w : Writer} {T : Str} {N : Nat} {t : List Nat}
theorem tail_str {y : Str} {v : Value} {c : Nat} (hv : ∃ u, v = .str y u) (g : KPc.Good w T N) (q : PfT Q s more t T y N) {k : Nat} {M : Model} : wpAny M A (ptail more w t (pfq false none c) (y.cps.toList, some v, false)) Q E { s with toks := k } := by
  unfold ptail
  rw [pf_none rfl rfl rfl rfl]
  refine wpAny_pure ?_
  have eb : (⟨y.cps.toList.toArray⟩ : PySem.Str) = y := congrArg PySem.Str.mk (Array.toArray_toList ..)
  show Q (.yield (more, w.add ⟨y.cps.toList.toArray⟩ (if t.isEmpty = true then some v else none), t)) _
  rw [eb]
  obtain ⟨u, rfl⟩ := hv
  exact q _ _ (KPc.good_add g (by intro v hv; split at hv <;> cases hv; exact ⟨_, rfl⟩))
theorem tail_num {F : Percent} {neg : Bool} {ds : List Nat} (hw : F.width = none) (hb : F.blank = false) (ha : F.alt = false) (hl : F.ljust = false) (hz : F.zero = false) (ht : F.type = 100 ∨ F.type = 105 ∨ F.type = 102) (hd : ∀ c ∈ ds, c ≠ 45 ∧ c ≠ 43)
    (g : KPc.Good w T N) (q : PfT Q s more t T (sOf (sgnL F.sign neg ds)) N) {k : Nat} {M : Model} : wpAny M A (ptail more w t F ((if neg = true then [45] else []) ++ ds, none, true)) Q E { s with toks := k } := by
  have e := pf_num (f := F) (neg := neg) hw hb ha hl hz ht hd
  unfold ptail
  exact fin_turn g e q
theorem conv_int {F₀ : Percent} {n : Int} {u : Tok} (ha : F₀.alt = false) (hp : F₀.prec = none) (ht : F₀.type = 100 ∨ F₀.type = 105) (hw : F₀.width = none) (hb : F₀.blank = false) (hl : F₀.ljust = false) (hz : F₀.zero = false) (hn : n.natAbs.log2 < 1920)
    (g : KPc.Good w T N) (q : PfT Q s more t T (sOf (sgnL F₀.sign (decide (n < 0)) (dg n.natAbs))) N) : wpAny (model prog W) A (holding [.int n u] (convD F₀ (.int n u)) >>= ptail more w t F₀) Q E s := by
  refine wpAny_bind (wpAny_holding ?_)
  unfold convD
  refine wpAny_bind (wpAny_of_eq (a := n) rfl ?_)
  refine wpAny_bind (wpAny_mkInt ?_)
  refine wpAny_bind (call_gives F.slot_int_repr (typeIs_int _ _ _) F.entry_int_repr (F.args_int_repr_1 _) (gives_int_repr _ _ (KPt.hd2 hn)) ⟨int_text_fits (KPt.hd2 hn), ?_⟩)
  refine wpAny_bind (wpAny_of_eq (a := some _) rfl ?_)
  refine wpAny_bind (wpAny_pure ?_)
  refine wpAny_pure ?_
  rw [str_digits, pi_dec ha hp ht]
  exact tail_num (F := F₀) hw hb ha hl hz (ht.imp id Or.inl) dg_nc g q
theorem conv_flt {F : Percent} {v : Value} {x : UInt64} {p : Nat} {neg : Bool} {body : List Char} (hv : ∀ {Q : UInt64 → Shared → Prop}, (∀ k, Q x { s with toks := k }) → wpAny (model prog W) A (percentFloatOf v) Q E s) (hx : Float64.text x 'f' p false false false = (neg, body))
    (ha : F.alt = false) (ht : F.type = 102) (hw : F.width = none) (hb : F.blank = false) (hl : F.ljust = false) (hz : F.zero = false) (hd : ∀ c ∈ body.map Char.toNat, c ≠ 45 ∧ c ≠ 43)
    (g : KPc.Good w T N) (q : PfT Q s more t T (sOf (sgnL F.sign neg (body.map Char.toNat))) N) : wpAny (model prog W) A (holding [v] (convF p v) >>= ptail more w t F) Q E s := by
  refine wpAny_bind (wpAny_holding ?_)
  unfold convF
  refine wpAny_bind (hv fun k => ?_)
  refine wpAny_pure ?_
  rw [hx]
  exact tail_num (F := F) hw hb ha hl hz (.inr (.inr ht)) hd g q
end
theorem percent_any {M : Model} {A : Around} {s : Shared} {E : Value → Shared → Prop} {X₀ : Str} {t : Tok} {args : Value} {vs : List Value} {Q : Fin → Shared → Prop} {isT : Bool} {os : Option Str}
    (hI : ∀ {Q : Bool → Shared → Prop}, Q isT s → wpAny M A (isInstance args (.type "tuple")) Q E s)
    (hS : ∀ {Q : Option Str → Shared → Prop}, Q os s → wpAny M A (asStr? args) Q E s)
    (hF : ∀ {Q : Bool → Shared → Prop}, (∀ b, Q b s) → wpAny M A (fillsMappingSlot args) Q E s)
    (hT : isT = true ∧ (∀ {Q : Option (Array Value) → Shared → Prop}, Q (some vs.toArray) s → wpAny M A (seqItems? args) Q E s) ∨ isT = false ∧ vs = [args])
    (h : ∀ f, PStep (.str X₀ t) X₀ f → wpAny M A (forIn (List.range' 0 X₀.length 1) ((vs, ({} : Writer), X₀.cps.toList) : PSt) f) (fun st s' => st.1 = [] ∧ ∃ T N, KPc.Good st.2.1 T N ∧ N ≤ 16777216 ∧ ∀ t' k, Q (.done (.ret (.str T t'))) { s' with toks := k }) E s) :
    wpAny M A (percentFormat (.str X₀ t) X₀ args) Q E s := by
  unfold percentFormat
  refine wpAny_bind (hI ?_)
  refine wpAny_bind (hS ?_)
  refine wpAny_bind (hF ?_)
  intro b
  refine pend_of hT ?_
  refine wpAny_bind ?_
  rw [KPc.range_list]
  refine wpAny_mono (h _ ⟨?_, ?_, ?_, ?_, ?_, ?_, ?_, ?_, ?_, ?_⟩) (fun st s' q => ?_) fun _ _ x => x
  · intro M A E s x p w T N Q g hN q
    refine ite_no_wp (KPc.short_good g hN) ?_
    exact wpAny_pure q
  · intro M A E s x p w T N Q cs t g hN hc h1 h2 q
    refine ite_no_wp (KPc.short_good g hN) ?_
    have e1 : ¬ (cs ++ t).isEmpty = true := by cases cs with
      | nil => exact absurd rfl hc
      | cons => exact Bool.false_ne_true
    have e2 : (!cs.isEmpty) = true := by cases cs with
      | nil => exact absurd rfl hc
      | cons => rfl
    refine ite_no_wp e1 ?_
    rw [show List.span (fun x => x != 37) (p, w, cs ++ t).snd.snd = (cs, t) from span_lit h1 h2]
    refine ite_yes_wp e2 ?_
    exact wpAny_pure q
  · intro M A E s x y u more w T N Q t g hN q
    refine ite_no_wp (Y := holding [.str y u] (convS (.str y u)) >>= ptail more w t (pfq false none 115)) (KPc.short_good g hN) ?_
    refine wpAny_bind (wpAny_holding ?_)
    unfold convS
    refine wpAny_bind (wpAny_of_eq (KPc.strOf_str _ _) ?_)
    refine wpAny_bind (wpAny_of_eq (a := some _) rfl ?_)
    exact wpAny_pure (tail_str (k := s.toks) ⟨_, rfl⟩ g q)
  · intro prog W A E s x n u more w T N Q t g hN hn q
    refine ite_no_wp (Y := holding [.int n u] (convS (.int n u)) >>= ptail more w t (pfq false none 115)) (KPc.short_good g hN) ?_
    refine wpAny_bind (wpAny_holding ?_)
    unfold convS
    refine wpAny_bind (KPc.strOf_int hn ?_)
    refine wpAny_bind (wpAny_of_eq (a := some _) rfl ?_)
    exact wpAny_pure (tail_str ⟨_, rfl⟩ g q)
  · intro prog W A E s x n u more w T N Q t c g hN hn hc q
    rcases hc with rfl | rfl
    · refine ite_no_wp (Y := holding [.int n u] (convD (pfq false none 100) (.int n u)) >>= ptail more w t (pfq false none 100)) (KPc.short_good g hN) ?_
      exact conv_int rfl rfl (.inl rfl) rfl rfl rfl rfl hn g q
    · refine ite_no_wp (Y := holding [.int n u] (convD (pfq false none 105) (.int n u)) >>= ptail more w t (pfq false none 105)) (KPc.short_good g hN) ?_
      exact conv_int rfl rfl (.inr rfl) rfl rfl rfl rfl hn g q
  · intro prog W A E s x n u more w T N Q t g hN hn q
    refine ite_no_wp (Y := holding [.int n u] (convD (pfq true none 105) (.int n u)) >>= ptail more w t (pfq true none 105)) (KPc.short_good g hN) ?_
    exact conv_int rfl rfl (.inr rfl) rfl rfl rfl rfl hn g q
  · intro prog W A E s x b u more w T N Q t c p neg body g hN hc hx hd q
    rcases hc with ⟨rfl, rfl⟩ | ⟨rfl, rfl⟩
    · refine ite_no_wp (Y := holding [.float b u] (convF 0 (.float b u)) >>= ptail more w t (pfq false (some 0) 102)) (KPc.short_good g hN) ?_
      exact conv_flt (fun h => wpAny_of_eq (a := b) rfl (h s.toks)) hx rfl rfl rfl rfl rfl rfl hd g q
    · refine ite_no_wp (Y := holding [.float b u] (convF 1 (.float b u)) >>= ptail more w t (pfq false (some 1) 102)) (KPc.short_good g hN) ?_
      exact conv_flt (fun h => wpAny_of_eq (a := b) rfl (h s.toks)) hx rfl rfl rfl rfl rfl rfl hd g q
  · intro prog W A E s x b u more w T N Q t c p neg body g hN hc hx hd q
    rcases hc with ⟨rfl, rfl⟩ | ⟨rfl, rfl⟩
    · refine ite_no_wp (Y := holding [.float b u] (convF 0 (.float b u)) >>= ptail more w t (pfq true (some 0) 102)) (KPc.short_good g hN) ?_
      exact conv_flt (fun h => wpAny_of_eq (a := b) rfl (h s.toks)) hx rfl rfl rfl rfl rfl rfl hd g q
    · refine ite_no_wp (Y := holding [.float b u] (convF 1 (.float b u)) >>= ptail more w t (pfq true (some 1) 102)) (KPc.short_good g hN) ?_
      exact conv_flt (fun h => wpAny_of_eq (a := b) rfl (h s.toks)) hx rfl rfl rfl rfl rfl rfl hd g q
  · intro prog W A E s x n u more w T N Q t c p neg body g hN hinf hc hx hd q
    rcases hc with ⟨rfl, rfl⟩ | ⟨rfl, rfl⟩
    · refine ite_no_wp (Y := holding [.int n u] (convF 0 (.int n u)) >>= ptail more w t (pfq false (some 0) 102)) (KPc.short_good g hN) ?_
      exact conv_flt (fun h => pfo_int hinf (h _)) hx rfl rfl rfl rfl rfl rfl hd g q
    · refine ite_no_wp (Y := holding [.int n u] (convF 1 (.int n u)) >>= ptail more w t (pfq false (some 1) 102)) (KPc.short_good g hN) ?_
      exact conv_flt (fun h => pfo_int hinf (h _)) hx rfl rfl rfl rfl rfl rfl hd g q
  · intro prog W A E s x n u more w T N Q t c p neg body g hN hinf hc hx hd q
    rcases hc with ⟨rfl, rfl⟩ | ⟨rfl, rfl⟩
    · refine ite_no_wp (Y := holding [.int n u] (convF 0 (.int n u)) >>= ptail more w t (pfq true (some 0) 102)) (KPc.short_good g hN) ?_
      exact conv_flt (fun h => pfo_int hinf (h _)) hx rfl rfl rfl rfl rfl rfl hd g q
    · refine ite_no_wp (Y := holding [.int n u] (convF 1 (.int n u)) >>= ptail more w t (pfq true (some 1) 102)) (KPc.short_good g hN) ?_
      exact conv_flt (fun h => pfo_int hinf (h _)) hx rfl rfl rfl rfl rfl rfl hd g q
  · obtain ⟨p, w, r⟩ := st
    obtain ⟨rfl, T, N, g, hN, hQ⟩ := q
    refine ite_no_wp (Bool.false_ne_true) ?_
    exact KPc.finish_ok g hN rfl hQ
theorem percent_tuple {M : Model} {A : Around} {s : Shared} {E : Value → Shared → Prop} {X₀ : Str} {t : Tok} {a : Addr} {vs : List Value} {Q : Fin → Shared → Prop} (hT : s.heap.IsTuple a vs.toArray)
    (h : ∀ f, PStep (.str X₀ t) X₀ f → wpAny M A (forIn (List.range' 0 X₀.length 1) ((vs, ({} : Writer), X₀.cps.toList) : PSt) f) (fun st s' => st.1 = [] ∧ ∃ T N, KPc.Good st.2.1 T N ∧ N ≤ 16777216 ∧ ∀ t' k, Q (.done (.ret (.str T t'))) { s' with toks := k }) E s) :
    wpAny M A (percentFormat (.str X₀ t) X₀ (.ref a)) Q E s := by
  obtain ⟨o, ho, hc, n, hd⟩ := hT
  exact percent_any (isT := true) (os := none) (fun q => wpAny_isInstance (T := "tuple") ⟨o, ho, hc⟩ KPt.sub_tt q) (fun q => KPt.asStr_ref ho hd q) (fun q => KPt.fills_ref ⟨o, ho, hc⟩ q) (Or.inl ⟨rfl, fun q => wpAny_seqItems ho hd q⟩) h
theorem percent_int {M : Model} {A : Around} {s : Shared} {E : Value → Shared → Prop} {X₀ : Str} {t u : Tok} {n : Int} {Q : Fin → Shared → Prop}
    (h : ∀ f, PStep (.str X₀ t) X₀ f → wpAny M A (forIn (List.range' 0 X₀.length 1) (([.int n u], ({} : Writer), X₀.cps.toList) : PSt) f) (fun st s' => st.1 = [] ∧ ∃ T N, KPc.Good st.2.1 T N ∧ N ≤ 16777216 ∧ ∀ t' k, Q (.done (.ret (.str T t'))) { s' with toks := k }) E s) :
    wpAny M A (percentFormat (.str X₀ t) X₀ (.int n u)) Q E s :=
  percent_any (isT := false) (os := none) (fun q => wpAny_isInstance (typeIs_int _ _ _) F.sub_int_tuple q) (fun q => wpAny_of_eq (a := none) rfl q) (fun q => wpAny_of_eq (KPc.fills _ _) (q _)) (Or.inr ⟨rfl, rfl⟩) h
end Mine
end
section
open PySem PySem.W PyProof.Rows PySem.Calls PySem.Spec
set_option maxRecDepth 100000
namespace Mine
open Builtin Builtin.Str
/-- a piece of a format -/
inductive Pc where
  | lit (cs : List Nat)
  | s
  | d (c : Nat)
  | ip
  | f (plus : Bool) (p : Nat)
noncomputable def Pc.src : Pc → List Nat
  | .lit cs => cs
  | .s => [37, 115]
  | .d c => [37, c]
  | .ip => [37, 43, 105]
  | .f false p => [37, 46, 48 + p, 102]
  | .f true p => [37, 43, 46, 48 + p, 102]
noncomputable def srcs : List Pc → List Nat
  | [] => []
  | p :: ps => p.src ++ srcs ps
noncomputable def litOk : List Pc → Bool
  | [] => true
  | .lit cs :: ps => !cs.isEmpty && cs.all (· != 37) && (match ps with | .lit _ :: _ => false | _ => true) && litOk ps
  | .d c :: ps => (c == 100 || c == 105) && litOk ps
  | .f _ p :: ps => (p == 0 || p == 1) && litOk ps
  | _ :: ps => litOk ps
/-- a float's text as %.pf writes it -/
noncomputable def FltTx (b : UInt64) (p : Nat) (neg : Bool) (ds : List Nat) : Prop := ∃ body, Float64.text b 'f' p false false false = (neg, body) ∧ body.map Char.toNat = ds ∧ ∀ c ∈ ds, c ≠ 45 ∧ c ≠ 43
inductive Rd : List Pc → List PV → List Nat → Prop
  | nil : Rd [] [] []
  | lit {cs ps ds o} : Rd ps ds o → Rd (.lit cs :: ps) ds (cs ++ o)
  | str {y ps ds o} : Rd ps ds o → Rd (.s :: ps) (.str y :: ds) (y.cps.toList ++ o)
  | sint {n ps ds o} : n.natAbs.log2 < 1920 → Rd ps ds o → Rd (.s :: ps) (.int n :: ds) ((Str.ofString (toString n)).cps.toList ++ o)
  | int {n c ps ds o} : n.natAbs.log2 < 1920 → Rd ps ds o → Rd (.d c :: ps) (.int n :: ds) (sgnL false (decide (n < 0)) (dg n.natAbs) ++ o)
  | intp {n ps ds o} : n.natAbs.log2 < 1920 → Rd ps ds o → Rd (.ip :: ps) (.int n :: ds) (sgnL true (decide (n < 0)) (dg n.natAbs) ++ o)
  | flt {b plus p neg fs ps ds o} : FltTx b p neg fs → Rd ps ds o → Rd (.f plus p :: ps) (.flt b :: ds) (sgnL plus neg fs ++ o)
  | fint {n plus p neg fs ps ds o} : ¬ Float64.isInf (Float64.ofInt n) = true → FltTx (Float64.ofInt n) p neg fs → Rd ps ds o → Rd (.f plus p :: ps) (.int n :: ds) (sgnL plus neg fs ++ o)
theorem sOf_app (a b : List Nat) : sOf a ++ sOf b = sOf (a ++ b) := by
  have e : (sOf a ++ sOf b).cps = (sOf (a ++ b)).cps := by
    rw [PySem.Str.cps_append]
    simp [sOf]
  exact congrArg PySem.Str.mk e
theorem sOf_cps (y : Str) : sOf y.cps.toList = y := congrArg PySem.Str.mk (Array.toArray_toList ..)
theorem sOf_len (a : List Nat) : (sOf a).length = a.length := by simp [sOf, PySem.Str.length]
theorem src_pos {p : Pc} {ps : List Pc} (h : litOk (p :: ps) = true) : 1 ≤ p.src.length := by
  cases p with
  | lit cs =>
    cases cs with
    | nil => cases h
    | cons c r => simp [Pc.src]
  | f plus p => cases plus <;> simp [Pc.src]
  | _ => simp [Pc.src]
theorem litOk_tail {p : Pc} {ps : List Pc} (h : litOk (p :: ps) = true) : litOk ps = true := by
  cases p <;> simp [litOk] at h ⊢ <;> first | exact h.2 | exact h
theorem spec_next {f : Nat → PSt → Sem (ForInStep PSt)} {M : Model} {A : Around} {E : Value → Shared → Prop} {Q : PSt → Shared → Prop} {s : Shared} {vs : List Value} {l r : List Nat} {pre x o : List Nat}
    (ih : ∀ w' k, KPc.Good w' (sOf (pre ++ x)) (pre ++ x).length → (∀ w'' k', KPc.Good w'' (sOf (pre ++ x ++ o)) (pre ++ x ++ o).length → Q ([], w'', []) { s with toks := k' }) → wpAny M A (forIn l ((vs, w', r) : PSt) f) Q E { s with toks := k })
    (q : ∀ w' k, KPc.Good w' (sOf (pre ++ (x ++ o))) (pre ++ (x ++ o)).length → Q ([], w', []) { s with toks := k }) :
    PfT (fun r s' => match r with | .done b' => Q b' s' | .yield b' => wpAny M A (forIn l b' f) Q E s') s vs r (sOf pre) (sOf x) pre.length := by
  intro w' k g
  rw [sOf_app, sOf_len, ← List.length_append] at g
  exact ih w' k g fun w'' k' g' => q w'' k' (by rw [← List.append_assoc]; exact g')
theorem rd_run {fo : Value} {fmt : Str} {f : Nat → PSt → Sem (ForInStep PSt)} (F : PStep fo fmt f) (hfo : ∃ t, fo = .str fmt t) {prog : Program} {W : World} {A : Around} {E : Value → Shared → Prop} {H : PH} {h : Heap} {Q : PSt → Shared → Prop} :
    ∀ {ps : List Pc} {ds : List PV} {out : List Nat}, Rd ps ds out → litOk ps = true → ∀ {vs : List Value} {l : List Nat} {w : Writer} {pre : List Nat} {s : Shared}, VRs H h vs ds → (srcs ps).length ≤ l.length → KPc.Good w (sOf pre) pre.length → (pre ++ out).length ≤ 16777216 → (∃ q, fmt = sOf (q ++ srcs ps) ∧ (q = [] → pre = [])) →
      (∀ w' k, KPc.Good w' (sOf (pre ++ out)) (pre ++ out).length → Q ([], w', []) { s with toks := k }) → wpAny (model prog W) A (forIn l ((vs, w, srcs ps) : PSt) f) Q E s := by
  intro ps ds out R
  induction R with
  | nil =>
    intro _ vs l w pre s V hl g hN hfm q
    cases V
    have q0 := q w s.toks (by simpa using g)
    cases l with
    | nil => exact wpAny_pure q0
    | cons x l =>
      refine KPc.turn ?_
      exact F.stop g (by simp at hN; omega) q0
  | @lit cs ps ds o R ih =>
    intro ok vs l w pre s V hl g hN hfm q
    have ok' := litOk_tail ok
    have hp := src_pos ok
    simp [litOk] at ok
    cases l with
    | nil => simp [srcs, Pc.src] at hl; simp [hl.1, Pc.src] at hp
    | cons x l =>
      refine KPc.turn ?_
      obtain ⟨q0, hq, hq0⟩ := hfm
      refine F.lit (cs := cs) (t := srcs ps) g (by rw [List.length_append] at hN; omega) (by simpa using ok.1.1.1) (by simpa using ok.1.1.2) ?_ ?_
      · cases ps with
        | nil => exact Or.inl rfl
        | cons p ps =>
          refine Or.inr ?_
          cases p with
          | lit => simp at ok
          | f plus p => cases plus <;> exact ⟨_, rfl⟩
          | _ => exact ⟨_, rfl⟩
      · have hg : KPc.Good (w.add (sOf cs) (if cs.length == fmt.length then some fo else none)) (sOf (pre ++ cs)) (pre ++ cs).length := by
          have := KPc.good_add (x := sOf cs) (o := if cs.length == fmt.length then some fo else none) g (by
            intro v hv
            split at hv
            · rename_i hc
              cases hv
              obtain ⟨t, rfl⟩ := hfo
              refine ⟨t, ?_⟩
              rw [hq, sOf_len, List.length_append] at hc
              have e2 : (srcs (.lit cs :: ps)).length = cs.length + (srcs ps).length := by simp [srcs, Pc.src]
              have hc' := of_decide_eq_true hc
              rw [e2] at hc'
              have e3 : q0 = [] := List.length_eq_zero_iff.mp (by omega)
              have e4 : srcs ps = [] := List.length_eq_zero_iff.mp (by omega)
              rw [hq, e3]
              show Value.str (sOf (cs ++ srcs ps)) t = _
              rw [e4, List.append_nil]
            · cases hv)
          rw [sOf_app, sOf_len] at this
          rw [List.length_append]
          exact this
        exact ih ok' V (by simp [srcs, Pc.src] at hl; have : 1 ≤ cs.length := hp; omega) hg (by simpa [Nat.add_assoc] using hN) ⟨q0 ++ cs, by rw [hq]; simp [srcs, Pc.src], fun e => by
          have : cs = [] := (List.append_eq_nil_iff.mp e).2
          rw [this] at hp; simp [Pc.src] at hp⟩ (fun w' k g' => by
            rw [List.append_assoc] at g'
            exact q w' k g')
  | @str y ps ds o R ih =>
    intro ok vs l w pre s V hl g hN hfm q
    cases l with
    | nil => simp [srcs, Pc.src] at hl
    | cons x l =>
      obtain ⟨q0, hq, hq0⟩ := hfm
      cases V with
      | cons V1 V =>
        cases V1
        refine KPc.turn (F.str g (by simp at hN; omega) ?_)
        rw [← sOf_cps y]
        exact spec_next (fun w' k g' q' => ih (litOk_tail ok) (s := { s with toks := k }) V (by simp [srcs, Pc.src] at hl; omega) g' (by simpa [Nat.add_assoc] using hN) ⟨q0 ++ [37, 115], by rw [hq]; simp [srcs, Pc.src], fun e => by simp at e⟩ q') q
  | @sint n ps ds o hn R ih =>
    intro ok vs l w pre s V hl g hN hfm q
    cases l with
    | nil => simp [srcs, Pc.src] at hl
    | cons x l =>
      obtain ⟨q0, hq, hq0⟩ := hfm
      cases V with
      | cons V1 V =>
        cases V1
        refine KPc.turn (F.sint g (by simp at hN; omega) hn ?_)
        rw [← sOf_cps (Str.ofString (toString n))]
        exact spec_next (fun w' k g' q' => ih (litOk_tail ok) (s := { s with toks := k }) V (by simp [srcs, Pc.src] at hl; omega) g' (by simpa [Nat.add_assoc] using hN) ⟨q0 ++ [37, 115], by rw [hq]; simp [srcs, Pc.src], fun e => by simp at e⟩ q') q
  | @int n c ps ds o hn R ih =>
    intro ok vs l w pre s V hl g hN hfm q
    cases l with
    | nil => simp [srcs, Pc.src] at hl
    | cons x l =>
      obtain ⟨q0, hq, hq0⟩ := hfm
      cases V with
      | cons V1 V =>
        cases V1
        have hc : c = 100 ∨ c = 105 := by simp [litOk] at ok; exact ok.1
        refine KPc.turn (F.int g (by simp at hN; omega) hn hc ?_)
        exact spec_next (fun w' k g' q' => ih (litOk_tail ok) (s := { s with toks := k }) V (by simp [srcs, Pc.src] at hl; omega) g' (by simpa [Nat.add_assoc] using hN) ⟨q0 ++ [37, c], by rw [hq]; simp [srcs, Pc.src], fun e => by simp at e⟩ q') q
  | @intp n ps ds o hn R ih =>
    intro ok vs l w pre s V hl g hN hfm q
    cases l with
    | nil => simp [srcs, Pc.src] at hl
    | cons x l =>
      obtain ⟨q0, hq, hq0⟩ := hfm
      cases V with
      | cons V1 V =>
        cases V1
        refine KPc.turn (F.intp g (by simp at hN; omega) hn ?_)
        exact spec_next (fun w' k g' q' => ih (litOk_tail ok) (s := { s with toks := k }) V (by simp [srcs, Pc.src] at hl; omega) g' (by simpa [Nat.add_assoc] using hN) ⟨q0 ++ [37, 43, 105], by rw [hq]; simp [srcs, Pc.src], fun e => by simp at e⟩ q') q
  | @flt b plus p neg fs ps ds o hx R ih =>
    intro ok vs l w pre s V hl g hN hfm q
    have hc : 48 + p = 48 ∧ p = 0 ∨ 48 + p = 49 ∧ p = 1 := by simp [litOk] at ok; omega
    obtain ⟨body, h1, rfl, h3⟩ := hx
    obtain ⟨q0, hq, hq0⟩ := hfm
    cases V with
    | cons V1 V =>
      cases V1
      cases plus with
      | false =>
        cases l with
        | nil => simp [srcs, Pc.src] at hl
        | cons x l =>
          refine KPc.turn (F.flt g (by simp at hN; omega) hc h1 h3 ?_)
          exact spec_next (fun w' k g' q' => ih (litOk_tail ok) (s := { s with toks := k }) V (by simp [srcs, Pc.src] at hl; omega) g' (by simpa [Nat.add_assoc] using hN) ⟨q0 ++ [37, 46, 48 + p, 102], by rw [hq]; simp [srcs, Pc.src], fun e => by simp at e⟩ q') q
      | true =>
        cases l with
        | nil => simp [srcs, Pc.src] at hl
        | cons x l =>
          refine KPc.turn (F.fltp g (by simp at hN; omega) hc h1 h3 ?_)
          exact spec_next (fun w' k g' q' => ih (litOk_tail ok) (s := { s with toks := k }) V (by simp [srcs, Pc.src] at hl; omega) g' (by simpa [Nat.add_assoc] using hN) ⟨q0 ++ [37, 43, 46, 48 + p, 102], by rw [hq]; simp [srcs, Pc.src], fun e => by simp at e⟩ q') q
  | @fint n plus p neg fs ps ds o hinf hx R ih =>
    intro ok vs l w pre s V hl g hN hfm q
    have hc : 48 + p = 48 ∧ p = 0 ∨ 48 + p = 49 ∧ p = 1 := by simp [litOk] at ok; omega
    obtain ⟨body, h1, rfl, h3⟩ := hx
    obtain ⟨q0, hq, hq0⟩ := hfm
    cases V with
    | cons V1 V =>
      cases V1
      cases plus with
      | false =>
        cases l with
        | nil => simp [srcs, Pc.src] at hl
        | cons x l =>
          refine KPc.turn (F.fint g (by simp at hN; omega) hinf hc h1 h3 ?_)
          exact spec_next (fun w' k g' q' => ih (litOk_tail ok) (s := { s with toks := k }) V (by simp [srcs, Pc.src] at hl; omega) g' (by simpa [Nat.add_assoc] using hN) ⟨q0 ++ [37, 46, 48 + p, 102], by rw [hq]; simp [srcs, Pc.src], fun e => by simp at e⟩ q') q
      | true =>
        cases l with
        | nil => simp [srcs, Pc.src] at hl
        | cons x l =>
          refine KPc.turn (F.fintp g (by simp at hN; omega) hinf hc h1 h3 ?_)
          exact spec_next (fun w' k g' q' => ih (litOk_tail ok) (s := { s with toks := k }) V (by simp [srcs, Pc.src] at hl; omega) g' (by simpa [Nat.add_assoc] using hN) ⟨q0 ++ [37, 43, 46, 48 + p, 102], by rw [hq]; simp [srcs, Pc.src], fun e => by simp at e⟩ q') q
theorem rd_all {ps : List Pc} {X₀ : Str} {t : Tok} {ds : List PV} {out : List Nat} (hX : X₀ = sOf (srcs ps)) (ok : litOk ps = true) (R : Rd ps ds out) (hN : out.length ≤ 16777216)
    {f : Nat → PSt → Sem (ForInStep PSt)} (F : PStep (.str X₀ t) X₀ f) {prog : Program} {W : World} {A : Around} {E : Value → Shared → Prop} {H : PH} {h : Heap} {s : Shared} {vs : List Value} {Q : Fin → Shared → Prop} (V : VRs H h vs ds)
    (k : ∀ t' k, Q (.done (.ret (.str (sOf out) t'))) { s with toks := k }) :
    wpAny (model prog W) A (forIn (List.range' 0 X₀.length 1) ((vs, ({} : Writer), X₀.cps.toList) : PSt) f) (fun st s' => st.1 = [] ∧ ∃ T N, KPc.Good st.2.1 T N ∧ N ≤ 16777216 ∧ ∀ t' k, Q (.done (.ret (.str T t'))) { s' with toks := k }) E s := by
  have e : X₀.cps.toList = srcs ps := by rw [hX]; simp [sOf]
  rw [e]
  refine rd_run F ⟨t, rfl⟩ R ok (pre := []) V (by simp [hX, sOf_len]) KPc.good0 (by simpa using hN) ⟨[], by simpa using hX, fun _ => rfl⟩ ?_
  intro w' k' g
  exact ⟨rfl, _, _, g, by simpa using hN, fun t' k'' => by simpa using k t' k''⟩
section
variable {g : Gd} {A : Around} {H : PH} {Q : PV → PH → Prop}
/-- text % values -/
theorem BinT.pct (ps : List Pc) {X₀ : Str} {ds : List PV} {out : List Nat} (hX : X₀ = sOf (srcs ps)) (ok : litOk ps = true) (R : Rd ps ds out) (hN : out.length ≤ 16777216) (h : Q (.str (sOf out)) H) : BinT g A H .Mod (.str X₀) (.tuple ds) Q := by
  intro v w s Q' V W B P
  cases V; rename_i t
  cases W with
  | tuple hT U =>
    rename_i b vs
    have hT' : IsTup s.heap b vs.toArray := hT
    have hTy : s.TypeIs (.ref b) "tuple" := by
      obtain ⟨o, ho, hc, _⟩ := hT
      exact ⟨o, ho, hc⟩
    refine KPt.bin_left (T := "str") (U := "tuple") (op := .Mod) (by decide) (typeIs_str s X₀ t) hTy F.fills_str_mod KPt.fills_tuple F.slot_str_mod
      (call_meets F.slot_str_mod (typeIs_str s X₀ t) F.entry_str_mod (F.args_str_mod_2 _ _) (KPt.meets_tup (T := sOf out) (b := b) (its := vs.toArray) fun prog w A' s' Q'' E hT'' hQ => ?_) ⟨hT', fun t' k => ⟨(fun e => nomatch e), P.here B (.str _ _) h k⟩⟩)
    rw [KPt.entry_is_r]
    exact percent_tuple hT'' fun f F => rd_all hX ok R hN F U hQ
theorem BinT.pctI (ps : List Pc) {X₀ : Str} {n : Int} {out : List Nat} (hX : X₀ = sOf (srcs ps)) (ok : litOk ps = true) (hn : n.natAbs.log2 < 1920) (R : Rd ps [.int n] out) (hN : out.length ≤ 16777216) (h : Q (.str (sOf out)) H) : BinT g A H .Mod (.str X₀) (.int n) Q := by
  intro v w s Q' V W B P
  cases V; cases W; rename_i t u
  refine KPc.mod_lit (X' := X₀) (T := sOf out) rfl hn (fun _ _ => KPc.meets_of fun prog w A' s' Q'' E hQ => ?_) fun t' k => P.here B (.str _ _) h k
  rw [KPc.entry_is]
  exact percent_int fun f F => rd_all (H := H) (h := s.heap) hX ok R hN F (.cons (.int n u) .nil) hQ
end
end Mine
end
section
open PySem PySem.W PySem.Float64
set_option maxRecDepth 100000
namespace Mine
/-- the float is n / 1024 ^ u -/
noncomputable def Fl (x : UInt64) (n : Int) (u : Nat) : Prop := ∃ t, x = pack (decide (n < 0)) t ∧ t < infMag ∧ V t = n.natAbs * 2 ^ (1074 - 10 * u)
theorem rep_ok {a k : Nat} (ha : a < 2 ^ 53) (hk : 52 ≤ k) (hk2 : k ≤ 1074) : ∃ t, V t = a * 2 ^ k := by
  by_cases h0 : a = 0
  · subst h0; exact ⟨0, by rw [V_zero]; simp⟩
  have hl : a.log2 < 53 := (Nat.log2_lt h0).mpr ha
  refine ⟨(k - (52 - a.log2)) * 2 ^ 52 + a * 2 ^ (52 - a.log2), ?_⟩
  have lo := Nat.log2_self_le h0
  have hi := Nat.lt_log2_self (n := a)
  have e1 : 2 ^ 52 = 2 ^ a.log2 * 2 ^ (52 - a.log2) := by rw [← Nat.pow_add]; congr 1; omega
  have e2 : 2 ^ 53 = 2 ^ (a.log2 + 1) * 2 ^ (52 - a.log2) := by rw [← Nat.pow_add]; congr 1; omega
  rw [V_at (k := k - (52 - a.log2)) (q := a * 2 ^ (52 - a.log2))]
  · rw [Nat.mul_assoc, ← Nat.pow_add]; congr 2; omega
  · rw [e2]; exact Nat.mul_le_mul_right _ (Nat.le_of_lt hi)
  · left; rw [e1]; exact Nat.mul_le_mul_right _ lo
theorem fl_of {r : UInt64} {neg : Bool} {W D : Nat} {n : Int} {u : Nat} (h : Right r neg W D) (hD : 0 < D) (hW : W = D * (n.natAbs * 2 ^ (1074 - 10 * u))) (hn : n.natAbs < 2 ^ 53) (hu : u ≤ 4) (hneg : neg = decide (n < 0)) : Fl r n u := by
  obtain ⟨t, rfl, ht, hov, hd⟩ := h
  obtain ⟨t0, h0⟩ := rep_ok hn (k := 1074 - 10 * u) (by omega) (by omega)
  have hlt : t < infMag := by
    refine Nat.lt_of_le_of_ne ht fun e => ?_
    have := hov.mp e
    rw [hW, Nat.mul_left_comm 2] at this
    have h1 := Nat.le_of_mul_le_mul_left this hD
    have h2 : 2 * (n.natAbs * 2 ^ (1074 - 10 * u)) ≤ 2 * (2 ^ 53 * 2 ^ 1074) := Nat.mul_le_mul_left _ (Nat.mul_le_mul (Nat.le_of_lt hn) (Nat.pow_le_pow_right (by decide) (by omega)))
    have h3 : 2 * (2 ^ 53 * 2 ^ 1074) < (2 ^ 54 - 1) * 2 ^ 2045 := by decide +kernel
    omega
  refine ⟨t, by rw [hneg], hlt, ?_⟩
  have := (hd hlt t0).1
  rw [h0, hW] at this
  have e0 : dist (D * (n.natAbs * 2 ^ (1074 - 10 * u))) (D * (n.natAbs * 2 ^ (1074 - 10 * u))) = 0 := by simp [dist]
  rw [e0] at this
  unfold dist at this
  exact Nat.eq_of_mul_eq_mul_left hD (by omega)
theorem Fl.int {n : Int} (hn : n.natAbs < 2 ^ 53) : Fl (ofInt n) n 0 :=
  fl_of (ofInt_right n) (by decide) (by simp) hn (by decide) rfl
theorem Fl.first {n : Int} {neg : Bool} (hneg : neg = decide (n < 0)) (hn : n.natAbs < 2 ^ 53) : Fl (ofFrac neg n.natAbs 1024) n 1 := by
  refine fl_of (ofFrac_right (W := n.natAbs * 2 ^ 1064) (D := 1) (by decide) ?_ (by decide)) (by decide) (by simp) hn (by decide) hneg
  rw [Nat.mul_one, Nat.mul_assoc, show (1024 : Nat) = 2 ^ 10 from rfl, ← Nat.pow_add]
theorem Fl.dec {x : UInt64} {n : Int} {u : Nat} (h : Fl x n u) : ∃ m e, decode x = .fin (decide (n < 0)) m e ∧ m * 2 ^ (e + 1074).toNat = n.natAbs * 2 ^ (1074 - 10 * u) := by
  obtain ⟨t, rfl, ht, hv⟩ := h
  obtain ⟨m, e, hd, h2⟩ := decode_pack (decide (n < 0)) ht
  exact ⟨m, e, hd, h2.trans hv⟩
theorem Fl.next {x : UInt64} {n : Int} {u : Nat} (h : Fl x n u) (hn : n.natAbs < 2 ^ 53) (hu : u + 1 ≤ 4) : Fl (div x (ofInt 1024)) n (u + 1) := by
  obtain ⟨m, e, hd, hv⟩ := h.dec
  obtain ⟨k, f, hd', hv'⟩ := (Fl.int (n := 1024) (by decide)).dec
  have hk : k ≠ 0 := by
    intro z
    subst z
    rw [Nat.zero_mul] at hv'
    have : 0 < (1024 : Int).natAbs * 2 ^ (1074 - 10 * 0) := Nat.mul_pos (by decide) (Nat.two_pow_pos _)
    omega
  have R := div_right hd hd' hk
  rw [val_natAbs hd, val_natAbs hd', hv, hv'] at R
  refine fl_of R (Nat.mul_pos (by decide) (Nat.two_pow_pos _)) ?_ hn hu (by cases decide (n < 0) <;> rfl)
  show n.natAbs * 2 ^ (1074 - 10 * u) * 2 ^ 1074 = 1024 * 2 ^ 1074 * (n.natAbs * 2 ^ (1074 - 10 * (u + 1)))
  have e1 : 1074 - 10 * u = 10 + (1074 - 10 * (u + 1)) := by omega
  rw [e1, Nat.pow_add, show (2 : Nat) ^ 10 = 1024 from rfl]
  generalize (2 : Nat) ^ 1074 = K
  generalize (2 : Nat) ^ (1074 - 10 * (u + 1)) = J
  ac_rfl
theorem Fl.abs {x : UInt64} {n : Int} {u : Nat} (h : Fl x n u) : Fl (Float64.abs x) (n.natAbs : Int) u := by
  have hfin : Float64.isNaN x = false := by
    obtain ⟨m, e, hd, _⟩ := h.dec
    unfold Float64.isNaN; rw [hd]
  obtain ⟨t, rfl, ht, hv⟩ := h
  refine ⟨t, ?_, ht, by simpa using hv⟩
  unfold Float64.abs
  rw [hfin]
  have hi : infMag = 2047 * 2 ^ 52 := rfl
  have hn := pack_toNat (decide (n < 0)) (t := t) (by omega)
  rw [hn]
  have e1 : ((if decide (n < 0) = true then 2 ^ 63 else 0) + t) % 2 ^ 63 = t := by split <;> omega
  rw [e1]
  have e2 : decide ((n.natAbs : Int) < 0) = false := decide_eq_false (by omega)
  rw [e2]; rfl
/-- a float below a whole number -/
theorem Fl.lt {x : UInt64} {a : Nat} {u : Nat} (h : Fl x (a : Int) u) (hu : u ≤ 4) (i : Nat) : (cmpInt x (i : Int) == some .lt) = decide (a < i * 1024 ^ u) := by
  obtain ⟨m, e, hd, hv⟩ := h.dec
  rw [cmpInt_right hd]
  have e0 : decide ((a : Int) < 0) = false := decide_eq_false (by omega)
  rw [e0] at hd
  have hval : val x = ((a * 2 ^ (1074 - 10 * u) : Nat) : Int) := by rw [val_eq hd, hv]; rfl
  rw [hval]
  have e1 : (i : Int) * 2 ^ 1074 = ((i * 1024 ^ u * 2 ^ (1074 - 10 * u) : Nat) : Int) := by
    have : i * 2 ^ 1074 = i * 1024 ^ u * 2 ^ (1074 - 10 * u) := by
      rw [Nat.mul_assoc, show (1024 : Nat) = 2 ^ 10 from rfl, ← Nat.pow_mul, ← Nat.pow_add]
      congr 2; omega
    rw [← this]
    simp
  rw [e1]
  have hp : 0 < 2 ^ (1074 - 10 * u) := Nat.two_pow_pos _
  generalize 2 ^ (1074 - 10 * u) = K at *
  by_cases hl : a < i * 1024 ^ u
  · rw [Int.compare_eq_lt.mpr (by exact_mod_cast Nat.mul_lt_mul_of_pos_right hl hp)]
    simp [hl]
  · have hle : i * 1024 ^ u * K ≤ a * K := Nat.mul_le_mul_right _ (Nat.le_of_not_lt hl)
    have : compare ((a * K : Nat) : Int) ((i * 1024 ^ u * K : Nat) : Int) ≠ .lt := fun e => by
      have := Int.compare_eq_lt.mp e
      omega
    rw [decide_eq_false hl]
    cases hc : compare ((a * K : Nat) : Int) ((i * 1024 ^ u * K : Nat) : Int) with
    | lt => exact absurd hc this
    | eq => rfl
    | gt => rfl
/-! the text of such a float -/
theorem strip_zeros (D : List Char) : ∃ k, D = (D.reverse.dropWhile (· == '0')).reverse ++ List.replicate k '0' := by
  have h := List.takeWhile_append_dropWhile (p := (· == '0')) (l := D.reverse)
  have h2 : D.reverse.takeWhile (· == '0') = List.replicate (D.reverse.takeWhile (· == '0')).length '0' := by
    refine List.eq_replicate_iff.mpr ⟨rfl, fun b hb => ?_⟩
    have := List.all_eq_true.mp (List.all_takeWhile (p := (· == '0')) (l := D.reverse)) b hb
    simpa using this
  refine ⟨(D.reverse.takeWhile (· == '0')).length, ?_⟩
  have h3 : D = (D.reverse.takeWhile (· == '0') ++ D.reverse.dropWhile (· == '0')).reverse := by rw [h, List.reverse_reverse]
  rw [List.reverse_append] at h3
  rw [h2, List.reverse_replicate] at h3
  simpa using h3
theorem pad_take {S : List Char} {z k : Nat} (h : k ≤ S.length + z) : padRight (S.take k) k = (S ++ List.replicate z '0').take k := by
  unfold padRight zeros
  rw [List.take_append, List.take_replicate]
  congr 2
  simp; omega
theorem pad_drop {S : List Char} {z k : Nat} (h : S.length + z = k + 1) : padRight (S.drop k) 1 = (S ++ List.replicate z '0').drop k := by
  unfold padRight zeros
  rw [List.drop_append, List.drop_replicate]
  congr 2
  simp; omega
theorem pointed_pos {S : List Char} {pt : Int} {k frac : Nat} (h : pt = (k : Int)) (hk : 0 < k) : pointed ⟨S, pt⟩ frac false = padRight (S.take k) k ++ (if frac > 0 then '.' :: padRight (S.drop k) frac else []) := by
  subst h
  unfold pointed
  dsimp only
  have e3 : (-(k : Int)).toNat = 0 := by omega
  rw [if_neg (by omega), Int.toNat_natCast, e3]
  simp [zeros]
theorem pointed0 (c : Nat) : pointed (Digits.of c (-((0 : Nat) : Int))) 0 false = Nat.toDigits 10 c := by
  unfold Digits.of
  rw [Nat.toList_repr]
  dsimp only
  obtain ⟨z, hz⟩ := strip_zeros (Nat.toDigits 10 c)
  have hp : 0 < (Nat.toDigits 10 c).length := Nat.length_toDigits_pos
  generalize ((Nat.toDigits 10 c).reverse.dropWhile (· == '0')).reverse = S at *
  have hl : (Nat.toDigits 10 c).length = S.length + z := (congrArg List.length hz).trans (by simp)
  rw [pointed_pos (k := (Nat.toDigits 10 c).length) (by omega) hp, pad_take (z := z) (by omega), ← hz, List.take_length]
  simp
theorem pointed1 {c : Nat} (hc : 10 ≤ c) : pointed (Digits.of c (-((1 : Nat) : Int))) 1 false = Nat.toDigits 10 (c / 10) ++ '.' :: Nat.toDigits 10 (c % 10) := by
  unfold Digits.of
  rw [Nat.toList_repr]
  dsimp only
  obtain ⟨z, hz⟩ := strip_zeros (Nat.toDigits 10 c)
  have hD : Nat.toDigits 10 c = Nat.toDigits 10 (c / 10) ++ Nat.toDigits 10 (c % 10) := by
    rw [Nat.toDigits_append_toDigits (by decide) (by omega) (Nat.mod_lt _ (by decide)), Nat.div_add_mod]
  have h1 : (Nat.toDigits 10 (c % 10)).length = 1 := by rw [Nat.toDigits_of_lt_base (Nat.mod_lt _ (by decide))]; rfl
  have hp : 0 < (Nat.toDigits 10 (c / 10)).length := Nat.length_toDigits_pos
  have hl0 : (Nat.toDigits 10 c).length = (Nat.toDigits 10 (c / 10)).length + 1 := by rw [hD, List.length_append, h1]
  generalize ((Nat.toDigits 10 c).reverse.dropWhile (· == '0')).reverse = S at *
  have hl : (Nat.toDigits 10 c).length = S.length + z := (congrArg List.length hz).trans (by simp)
  rw [pointed_pos (k := (Nat.toDigits 10 (c / 10)).length) (by omega) hp, if_pos (by decide), pad_take (z := z) (by omega), pad_drop (z := z) (by omega), ← hz, hD, List.take_left' rfl, List.drop_left' rfl]
theorem half_scale {a b c d : Nat} (hb : 0 < b) (hd : 0 < d) (h : a * d = c * b) : halfEven a b = halfEven c d := by
  have key : ∀ {x y k : Nat}, 0 < k → halfEven (x * k) (y * k) = halfEven x y := by
    intro x y k hk
    unfold halfEven
    rw [Nat.mul_div_mul_right _ _ hk, Nat.mul_mod_mul_right]
    have e1 : (2 * (x % y * k) > y * k) ↔ (2 * (x % y) > y) := by
      rw [← Nat.mul_assoc]; exact Nat.mul_lt_mul_right hk
    have e2 : (2 * (x % y * k) == y * k) = (2 * (x % y) == y) := by
      rw [← Nat.mul_assoc]
      by_cases z : 2 * (x % y) = y
      · simp [z]
      · have : ¬ 2 * (x % y) * k = y * k := fun e => z (Nat.eq_of_mul_eq_mul_right hk e)
        rw [beq_eq_false_iff_ne.mpr z, beq_eq_false_iff_ne.mpr this]
    simp only [e1, e2]
  rw [← key hd, ← key (x := c) (y := d) hb, h, Nat.mul_comm b d]
theorem Fl.text {x : UInt64} {n : Int} {u p : Nat} (h : Fl x n u) (hn : n ≠ 0) (hu : u ≤ 4) : Float64.text x 'f' p false false false = (decide (n < 0), pointed (Digits.of (halfEven (n.natAbs * 10 ^ p) (1024 ^ u)) (-(p : Int))) p false) := by
  obtain ⟨m, e, hd, hv⟩ := h.dec
  unfold Float64.text
  rw [hd]
  dsimp only
  have hm : m ≠ 0 := by
    rintro rfl
    rw [Nat.zero_mul] at hv
    have : 0 < n.natAbs * 2 ^ (1074 - 10 * u) := Nat.mul_pos (by omega) (Nat.two_pow_pos _)
    omega
  have hs := shift_one m e 1074 (decode_ge hd)
  have hpos := shift_pos m 1 e (by decide)
  have hm' : (m == 0) = false := by simpa using hm
  rw [hm']
  simp only [Bool.false_eq_true, if_false, show ('f' == 'e') = false from rfl, show ('f' == 'f') = true from rfl, if_true, Bool.false_and, Bool.not_false, Bool.and_true]
  congr 2
  unfold fixed shift10
  have hp : ((p : Nat) : Int) ≥ 0 := Int.natCast_nonneg p
  simp only [hp, if_true, Int.toNat_natCast]
  congr 1
  refine half_scale hpos (Nat.pow_pos (by decide)) ?_
  have e2 : ((e : Int) + ((1074 : Nat) : Int)).toNat = (e + 1074).toNat := rfl
  rw [e2, hv] at hs
  have e3 : (2 : Nat) ^ 1074 = 1024 ^ u * 2 ^ (1074 - 10 * u) := by
    rw [show (1024 : Nat) = 2 ^ 10 from rfl, ← Nat.pow_mul, ← Nat.pow_add]; congr 1; omega
  rw [e3] at hs
  have hk : 0 < 2 ^ (1074 - 10 * u) := Nat.two_pow_pos _
  generalize 2 ^ (1074 - 10 * u) = K at *
  generalize (shift m 1 e).fst = a at *
  generalize (shift m 1 e).snd = b at *
  generalize 10 ^ p = T
  generalize 1024 ^ u = U at *
  have h5 : a * U = n.natAbs * b := by
    refine Nat.eq_of_mul_eq_mul_right hk ?_
    calc a * U * K = a * (U * K) := Nat.mul_assoc ..
      _ = n.natAbs * K * b := hs
      _ = n.natAbs * b * K := by ac_rfl
  calc a * T * U = a * U * T := by ac_rfl
    _ = n.natAbs * b * T := by rw [h5]
    _ = n.natAbs * T * b := by ac_rfl
end Mine
end
section
open PySem PySem.W PyProof.Rows PySem.Calls PySem.Spec
set_option maxRecDepth 100000

namespace Mine
section
variable {g : Gd} {A : Around} {env : Env} {l : PL} {H : PH} {Q : PV → PH → Prop}
theorem CT.absF {x : UInt64} (h : Q (.flt (Float64.abs x)) H) : CT g A H (.builtin "abs") [.flt x] Q := by
  intro vs s Q' V B P
  cases V with
  | cons V V2 =>
    cases V; cases V2
    exact Flt.call_abs_float (P.here B (.flt _ s.toks) h (s.toks + 1))
theorem CmpT.ltF {x : UInt64} {i : Int} (h : Q (.bool (Float64.cmpInt x i == some .lt)) H) : CmpT g A H .Lt (.flt x) (.int i) Q := by
  intro v w s Q' V W B P
  cases V; cases W
  exact Flt.lt_num (.float _ _) (.int _ _) (P.now B (.bool _) h)
theorem CmpT.eqS {x y : Str} (h : Q (.bool (x == y)) H) : CmpT g A H .Eq (.str x) (.str y) Q := by
  intro v w s Q' V W B P
  cases V; cases W
  exact eq_str (P.now B (.bool _) h)
theorem CmpT.neS {x y : Str} (h : Q (.bool (x != y)) H) : CmpT g A H .NotEq (.str x) (.str y) Q := by
  intro v w s Q' V W B P
  cases V; cases W
  exact ne_str (P.now B (.bool _) h)
theorem InpT.divI {n : Nat} {a b : Int} (R : Room A n) (hfit : a.natAbs < 2 ^ 1023) (hb : b ≠ 0) (h : Q (.flt (Float64.ofFrac (decide (a < 0) != decide (b < 0)) a.natAbs b.natAbs)) H) : InpT g A H .Div (.int a) (.int b) Q := by
  intro v w s Q' V W B P
  cases V; cases W
  exact Flt.idiv_ii_fits R.hh hfit (fun e => absurd e hb) fun _ _ => P.here B (.flt _ s.toks) h (s.toks + 1)
theorem InpT.divF {n : Nat} {x : UInt64} {b : Int} (R : Room A n) (ho : ¬ Flt.Over b) (hb : b ≠ 0) (h : Q (.flt (Float64.div x (Float64.ofInt b))) H) : InpT g A H .Div (.flt x) (.int b) Q := by
  intro v w s Q' V W B P
  cases V; cases W
  exact Flt.itruediv_fi R.hh (fun e => absurd e ho) (fun e => absurd e hb) fun _ _ => P.here B (.flt _ s.toks) h (s.toks + 1)
theorem BinT.addS {x y : Str} (hsz : x.length + y.length ≤ sizeLine) (h : Q (.str (x ++ y)) H) : BinT g A H .Add (.str x) (.str y) Q := by
  intro v w s Q' V W B P
  cases V; cases W
  exact SB.add (fun t k => P.here B (.str _ t) h k) hsz
theorem CT.max2 {n : Nat} {a b : Int} (R : Room A n) (h : Q (.int (if b > a then b else a)) H) : CT g A H (.builtin "max") [.int a, .int b] Q := by
  intro vs s Q' V B P
  cases V with
  | cons V V2 => cases V2 with
    | cons V2 V3 =>
      cases V; cases V2; cases V3
      refine max_two_ints R.hh fun h' tk k => ?_
      split
      · rename_i hl; rw [if_pos hl] at h; exact P _ _ H h' tk (B.grown k) (Stp.grown k) (.int _ _) h
      · rename_i hl; rw [if_neg hl] at h; exact P _ _ H h' tk (B.grown k) (Stp.grown k) (.int _ _) h
theorem CT.isInt {a : Int} (h : Q (.bool true) H) : CT g A H (.builtin "isinstance") [.int a, .k (.type "int")] Q := by
  intro vs s Q' V B P
  cases V with
  | cons V V2 => cases V2 with
    | cons V2 V3 =>
      cases V; cases V2; cases V3
      exact call_isinstance_yes (Tx := "int") (typeIs_int _ _ _) (by kernel_rfl) (by rw [isSubtype_type]; kernel_rfl) (P.now B (.bool true) h)
theorem CT.divmod {a b : Int} (hb : b ≠ 0) (hp : Builtin.divisionGoesByPylong a b = false) (h : Q (.tuple [.int (a.fdiv b), .int (a.fmod b)]) H) : CT g A H (.builtin "divmod") [.int a, .int b] Q := by
  intro vs s Q' V B P
  cases V with
  | cons V V2 => cases V2 with
    | cons V2 V3 =>
      cases V; cases V2; cases V3
      refine divmod_int hb ?_ (.inl hp)
      have k : ∀ c o, s.heap.get? c = some o → (s.heap.push { cls := .type "tuple", data := .seq #[.int (a.fdiv b) s.toks, .int (a.fmod b) (s.toks + 1)] }).get? c = some o := fun c o e => Heap.get?_push_of_some _ e
      exact P _ _ H _ _ (B.grown k) (Stp.grown k) (.tuple (vs := [.int (a.fdiv b) s.toks, .int (a.fmod b) (s.toks + 1)]) ⟨_, Heap.get?_push_size _ rfl, rfl, _, rfl⟩ (.cons (.int _ _) (.cons (.int _ _) .nil))) h
/-- str(x) of an object whose class has its own __str__ -/
theorem CT.strI {n : Nat} {C f : Addr} {ds : List PV} (hG : g.Ok) (R : Room A (n + 2)) (hs : findIn g.K (.ref C) "__str__" = some (some (.ref f))) (hf : isFn g.K (.ref f) = true) (hno : ∀ o : Obj, o.data = .plain → o.cls = .ref C → notCls o = true)
    (h : CT g A.in1.in1 H (.ref f) [.inst C ds] fun v H' => ∃ y, v = .str y ∧ Q (.str y) H') : CT g A H (.type "str") [.inst C ds] Q := by
  intro vs s Q' V B P
  cases V with
  | cons V V2 =>
    cases V2
    cases V with
    | inst e ed U =>
      rename_i a dx ws
      obtain ⟨⟨od, hd, _, _⟩, _⟩ := B.hr _ _ ed
      have I : PySem.W.InstAt s.heap a ⟨.ref C, some dx, .plain, (ws.map some).toArray⟩ C (some od) := ⟨e, rfl, hno _ rfl rfl, hd⟩
      have R2 : Room A.in1.in1 n := R.in1.in1
      refine kso_call (by have := R2.u; unfold cLine; omega) (hG.kin.keeps B.keep) I hs hf ?_
      refine h [.ref a] s _ (.cons (.inst e ed U) .nil) B ?_
      rintro v pv H' h' tk B' S' V' ⟨y, rfl, q⟩
      cases V'
      exact P _ _ H' h' tk B' S' (.str _ _) q
theorem CT.minK {n : Nat} {a : Addr} {es : List (Int × PV)} {ep : Nat} (R : Room A n) (e : H a = some (.idict es ep)) (h0 : es ≠ []) (h : ∀ m, m ∈ es.map (·.1) → (∀ x ∈ es.map (·.1), m ≤ x) → Q (.int m) H) : CT g A H (.builtin "min") [.ref a] Q := by
  intro vs s Q' V B P
  cases V with
  | cons V V2 =>
    cases V; cases V2
    obtain ⟨kvs, d, W, lo⟩ := (ik g).at B (es := es) (ep := ep) e
    have hk : kvs.map (·.1) = es.map (·.1) := W.keys
    have hlen : kvs.length = es.length := W.length
    have hpos : 0 < kvs.length := by rw [hlen]; exact List.length_pos_iff.mpr h0
    have keyAt : ∀ {i : Nat} {v : Value}, (∃ k x, kvs[i]? = some (k, x) ∧ (ik g).knd.is k v = true) → ∃ t, v = .int ((es.map (·.1)).getD i 0) t := by
      rintro i v ⟨k, x, h1, h2⟩
      have V1 := (ik g).back k v H s.heap h2
      have ek : (es.map (·.1)).getD i 0 = k := by rw [← hk, List.getD_eq_getElem?_getD, List.getElem?_map, h1]; rfl
      rw [ek]
      change VR H s.heap v (.int k) at V1
      cases V1
      exact ⟨_, rfl⟩
    refine call_min_walk (wpAny_pyIter_dict lo d ?_)
    have ne : a ≠ s.heap.objs.size := by obtain ⟨o, _, e, _⟩ := d; exact Nat.ne_of_lt (Heap.lt_size e)
    refine ⟨s.heap.objs.size, _, _, _, _, _, fun i j => decide ((es.map (·.1)).getD i 0 < (es.map (·.1)).getD j 0), rfl, Walks.dictKeys (A := A.in1) R.hh _ a ne kvs ep, ⟨⟨_, Heap.get?_push_size _ rfl, rfl, rfl⟩, d.at' fun o e => Heap.get?_push_of_some _ e⟩, ?_, hpos, ?_, ?_⟩
    · intro b hb
      rw [Heap.size_push]
      rcases List.mem_cons.mp hb with rfl | hb
      · exact Nat.lt_succ_self _
      · obtain rfl := List.mem_singleton.mp hb; obtain ⟨o, _, e, _⟩ := d; exact Nat.lt_succ_of_lt (Heap.lt_size e)
    · intro i j vi vj s Q E hi hj q
      obtain ⟨t, rfl⟩ := keyAt hi
      obtain ⟨u, rfl⟩ := keyAt hj
      exact lt_int (prog := g.prog) (w := g.w) q
    · intro v h' tk hv k
      have kk : ∀ b o, s.heap.get? b = some o → h'.get? b = some o := fun b o e => k b o (fun z => by rw [List.mem_singleton.mp z] at e; exact absurd (Heap.lt_size e) (Nat.lt_irrefl _)) (Heap.get?_push_of_some _ e)
      obtain ⟨t, rfl⟩ := keyAt hv
      obtain ⟨b1, b2⟩ := argBest_lt (fun i => (es.map (·.1)).getD i 0) (kvs.length - 1)
      have hl2 : (es.map (·.1)).length = kvs.length := by simp [hlen]
      have hb : argBest (fun i j => decide ((es.map (·.1)).getD i 0 < (es.map (·.1)).getD j 0)) (kvs.length - 1) < (es.map (·.1)).length := by omega
      refine P _ _ H h' tk (B.grown kk) (Stp.grown kk) (.int _ _) (h _ ?_ fun x hx => ?_)
      · rw [List.getD_eq_getElem?_getD, List.getElem?_eq_getElem hb]; exact List.getElem_mem _
      · obtain ⟨j, hj, rfl⟩ := List.mem_iff_getElem.mp hx
        have := b2 j (by omega)
        rwa [show (es.map (·.1)).getD j 0 = (es.map (·.1))[j] by rw [List.getD_eq_getElem?_getD, List.getElem?_eq_getElem hj]; rfl] at this
end
end Mine
end
section
open PySem PySem.W PyProof.Rows PySem.Calls PySem.Spec
set_option maxRecDepth 100000
namespace Mine
noncomputable def units : List Str := [Str.ofString "B", Str.ofString "KiB", Str.ofString "MiB", Str.ofString "GiB", Str.ofString "TiB"]
noncomputable def unitS (u : Nat) : Str := units.getD u (Str.ofString "TiB")
noncomputable def unitOf (a : Nat) : Nat := if a < 10240 then 0 else if a < 10240 * 1024 then 1 else if a < 10240 * 1024 ^ 2 then 2 else if a < 10240 * 1024 ^ 3 then 3 else 4
noncomputable def figs (a : Nat) : List Nat :=
  if unitOf a ≠ 0 ∧ a < 100 * 1024 ^ unitOf a then dg (Float64.halfEven (a * 10) (1024 ^ unitOf a) / 10) ++ 46 :: dg (Float64.halfEven (a * 10) (1024 ^ unitOf a) % 10)
  else dg (Float64.halfEven a (1024 ^ unitOf a))
/-- what _format_size writes -/
noncomputable def fsz (n : Int) (plus : Bool) : List Nat := sgnL plus (decide (n < 0)) (figs n.natAbs) ++ 32 :: (unitS (unitOf n.natAbs)).cps.toList
theorem unitOf_eq {a u : Nat} (hu : u ≤ 4) (lo : u = 0 ∨ 10240 * 1024 ^ (u - 1) ≤ a) (hi : u = 4 ∨ a < 10240 * 1024 ^ u) : unitOf a = u := by
  have : u = 0 ∨ u = 1 ∨ u = 2 ∨ u = 3 ∨ u = 4 := by omega
  unfold unitOf
  rcases this with rfl | rfl | rfl | rfl | rfl <;> simp at lo hi <;> (repeat (first | rw [if_pos (by omega)] | rw [if_neg (by omega)]))
/-- size as the loop holds it -/
inductive Sz : PV → Int → Nat → Prop
  | int {n : Int} : Sz (.int n) n 0
  | flt {x : UInt64} {n : Int} {u : Nat} : Fl x n u → n ≠ 0 → Sz (.flt x) n u
section
variable {g : Gd} {A : Around} {H : PH} {Q : PV → PH → Prop}
theorem Sz.abs {v : PV} {n : Int} {u : Nat} (S : Sz v n u) (h : ∀ w, Sz w (n.natAbs : Int) u → Q w H) : CT g A H (.builtin "abs") [v] Q := by
  cases S with
  | int => exact CT.abs (h _ (by rw [show (if n < 0 then -n else n) = (n.natAbs : Int) by omega]; exact .int))
  | flt F h0 => exact CT.absF (h _ (.flt F.abs (by omega)))
theorem Sz.lt {v : PV} {a : Nat} {u : Nat} {k : Int} {m : Nat} (S : Sz v (a : Int) u) (hu : u ≤ 4) (hk : k = (m : Int)) (h : Q (.bool (decide (a < m * 1024 ^ u))) H) : CmpT g A H .Lt v (.int k) Q := by
  subst hk
  cases S with
  | int => exact CmpT.ltI (by rw [show decide ((a : Int) < (m : Int)) = decide (a < m * 1024 ^ 0) by simp]; exact h)
  | flt F h0 => exact CmpT.ltF (by rw [F.lt hu m]; exact h)
theorem over1024 : ¬ Flt.Over 1024 := by decide +kernel
theorem Sz.div {n' : Nat} {v : PV} {n : Int} {u : Nat} (R : Room A n') (S : Sz v n u) (hn : n.natAbs < 2 ^ 53) (h0 : n ≠ 0) (hu : u + 1 ≤ 4) (h : ∀ w, Sz w n (u + 1) → Q w H) : InpT g A H .Div v (.int 1024) Q := by
  cases S with
  | int => exact InpT.divI R (by omega) (by decide) (h _ (.flt (Fl.first (by simp) hn) h0))
  | flt F _ => exact InpT.divF R over1024 (by decide) (h _ (.flt (F.next hn hu) h0))
end
theorem nc_dg {m : Nat} : ∀ c ∈ dg m, c ≠ 45 ∧ c ≠ 43 := dg_nc
theorem zero_tx : FltTx (Float64.ofInt 0) 0 false (dg 0) := ⟨['0'], by decide +kernel, by decide +kernel, nc_dg⟩
theorem Fl.tx0 {x : UInt64} {n : Int} {u : Nat} (F : Fl x n u) (h0 : n ≠ 0) (hu : u ≤ 4) : FltTx x 0 (decide (n < 0)) (dg (Float64.halfEven n.natAbs (1024 ^ u))) :=
  ⟨_, F.text h0 hu, by rw [pointed0, Nat.pow_zero, Nat.mul_one]; rfl, nc_dg⟩
theorem Fl.tx1 {x : UInt64} {n : Int} {u : Nat} (F : Fl x n u) (h0 : n ≠ 0) (hu : u ≤ 4) (hc : 10 ≤ Float64.halfEven (n.natAbs * 10) (1024 ^ u)) :
    FltTx x 1 (decide (n < 0)) (dg (Float64.halfEven (n.natAbs * 10) (1024 ^ u) / 10) ++ 46 :: dg (Float64.halfEven (n.natAbs * 10) (1024 ^ u) % 10)) := by
  refine ⟨_, F.text h0 hu, ?_, ?_⟩
  · rw [Nat.pow_one, pointed1 hc, List.map_append, List.map_cons]; rfl
  · intro c hm
    rcases List.mem_append.mp hm with z | z
    · exact nc_dg c z
    · rcases List.mem_cons.mp z with rfl | z
      · decide
      · exact nc_dg c z
theorem fin_int {n : Int} (hn : n.natAbs < 2 ^ 53) : ¬ Float64.isInf (Float64.ofInt n) = true := by
  obtain ⟨m, e, hd, _⟩ := (Fl.int hn).dec
  unfold Float64.isInf
  rw [hd]
  exact Bool.false_ne_true
theorem Sz.rd0 {v : PV} {n : Int} {u : Nat} {plus : Bool} {ps : List Pc} {ds : List PV} {o : List Nat} (S : Sz v n u) (hn : n.natAbs < 2 ^ 53) (hu : u ≤ 4) (R : Rd ps ds o) : Rd (.f plus 0 :: ps) (v :: ds) (sgnL plus (decide (n < 0)) (dg (Float64.halfEven n.natAbs (1024 ^ u))) ++ o) := by
  cases S with
  | int =>
    refine .fint (fin_int hn) ?_ R
    by_cases h0 : n = 0
    · subst h0; exact zero_tx
    · exact (Fl.int hn).tx0 h0 (by decide)
  | flt F h0 => exact .flt (F.tx0 h0 hu) R
theorem Sz.rd1 {v : PV} {n : Int} {u : Nat} {plus : Bool} {ps : List Pc} {ds : List PV} {o : List Nat} (S : Sz v n u) (h1 : 1 ≤ u) (hu : u ≤ 4) (hc : 10 ≤ Float64.halfEven (n.natAbs * 10) (1024 ^ u)) (R : Rd ps ds o) :
    Rd (.f plus 1 :: ps) (v :: ds) (sgnL plus (decide (n < 0)) (dg (Float64.halfEven (n.natAbs * 10) (1024 ^ u) / 10) ++ 46 :: dg (Float64.halfEven (n.natAbs * 10) (1024 ^ u) % 10)) ++ o) := by
  cases S with
  | int => omega
  | flt F h0 => exact .flt (F.tx1 h0 hu hc) R
theorem he_ge {a b k : Nat} (hb : 0 < b) (h : k * b ≤ a) : k ≤ Float64.halfEven a b := by
  have h1 : k ≤ a / b := (Nat.le_div_iff_mul_le hb).mpr h
  unfold Float64.halfEven
  dsimp only
  split <;> omega
theorem dg_len2 {m k : Nat} (hk : 1 ≤ k) (h : m < 10 ^ k) : (dg m).length ≤ k := by
  unfold dg
  rw [List.length_map]
  exact (Nat.length_toDigits_le_iff (by decide) hk).mpr h
theorem he_le {a b : Nat} (hb : 0 < b) : Float64.halfEven a b ≤ a + 1 := by
  have h1 : a / b ≤ a := Nat.div_le_self a b
  unfold Float64.halfEven
  dsimp only
  split <;> omega
theorem unitS_len {u : Nat} : (unitS u).cps.toList.length ≤ 3 := by
  by_cases h : u < 5
  · have : u = 0 ∨ u = 1 ∨ u = 2 ∨ u = 3 ∨ u = 4 := by omega
    rcases this with rfl | rfl | rfl | rfl | rfl <;> decide
  · have e : unitS u = Str.ofString "TiB" := by
      unfold unitS
      rw [List.getD_eq_getElem?_getD, List.getElem?_eq_none (by simp [units]; omega)]; rfl
    rw [e]; decide
theorem fsz_len {n : Int} {plus : Bool} (hn : n.natAbs < 2 ^ 53) : (fsz n plus).length ≤ 60 := by
  have hs : ∀ ds, (sgnL plus (decide (n < 0)) ds).length ≤ 1 + ds.length := fun ds => by
    unfold sgnL; split <;> (try split) <;> simp <;> omega
  have hp : ∀ u, 0 < 1024 ^ u := fun u => Nat.pow_pos (by decide)
  have hf : (figs n.natAbs).length ≤ 50 := by
    unfold figs
    split
    · have h1 := he_le (a := n.natAbs * 10) (hp (unitOf n.natAbs))
      have h2 := dg_len2 (m := Float64.halfEven (n.natAbs * 10) (1024 ^ unitOf n.natAbs) / 10) (k := 20) (by decide) (by omega)
      have h3 := dg_len2 (m := Float64.halfEven (n.natAbs * 10) (1024 ^ unitOf n.natAbs) % 10) (k := 20) (by decide) (by omega)
      rw [List.length_append, List.length_cons]; omega
    · have h1 := he_le (a := n.natAbs) (hp (unitOf n.natAbs))
      have h2 := dg_len2 (m := Float64.halfEven n.natAbs (1024 ^ unitOf n.natAbs)) (k := 20) (by decide) (by omega)
      omega
  have h3 := unitS_len (u := unitOf n.natAbs)
  have := hs (figs n.natAbs)
  unfold fsz
  rw [List.length_append, List.length_cons]
  omega
theorem units_drop {u : Nat} {v : PV} {r : List PV} (h : v :: r = (units.drop u).map .str) : u ≤ 4 ∧ v = .str (unitS u) ∧ r = (units.drop (u + 1)).map .str := by
  by_cases hu : u < 5
  · have hl : u < units.length := hu
    rw [List.drop_eq_getElem_cons hl, List.map_cons] at h
    injection h with h1 h2
    refine ⟨by omega, ?_, h2⟩
    rw [h1]
    unfold unitS
    rw [List.getD_eq_getElem?_getD, List.getElem?_eq_getElem hl]; rfl
  · rw [List.drop_eq_nil_of_le (show units.length ≤ u from by show 5 ≤ u; omega)] at h
    cases h
theorem unit_B {u : Nat} (hu : u ≤ 4) : (unitS u != Str.ofString "B") = decide (u ≠ 0) := by
  have : u = 0 ∨ u = 1 ∨ u = 2 ∨ u = 3 ∨ u = 4 := by omega
  rcases this with rfl | rfl | rfl | rfl | rfl <;> decide
theorem unit_T {u : Nat} (hu : u ≤ 4) : (unitS u == Str.ofString "TiB") = decide (u = 4) := by
  have : u = 0 ∨ u = 1 ∨ u = 2 ∨ u = 3 ∨ u = 4 := by omega
  rcases this with rfl | rfl | rfl | rfl | rfl <;> decide
theorem pow_up {u : Nat} (h : 1 ≤ u) : 1024 ^ u = 1024 ^ (u - 1) * 1024 := by
  obtain ⟨k, rfl⟩ : ∃ k, u = k + 1 := ⟨u - 1, by omega⟩
  rw [Nat.pow_succ]; rfl
theorem fsz1 {n : Int} {u : Nat} {plus : Bool} (hu : u ≤ 4) (h1 : u ≠ 0) (lo : u = 0 ∨ 10240 * 1024 ^ (u - 1) ≤ n.natAbs) (hi : n.natAbs < 100 * 1024 ^ u) :
    10 ≤ Float64.halfEven (n.natAbs * 10) (1024 ^ u) ∧ sgnL plus (decide (n < 0)) (dg (Float64.halfEven (n.natAbs * 10) (1024 ^ u) / 10) ++ 46 :: dg (Float64.halfEven (n.natAbs * 10) (1024 ^ u) % 10)) ++ ([32] ++ ((unitS u).cps.toList ++ [])) = fsz n plus := by
  have e := unitOf_eq (a := n.natAbs) hu lo (Or.inr (by omega))
  have hp := pow_up (u := u) (by omega)
  refine ⟨he_ge (Nat.pow_pos (by decide)) ?_, ?_⟩
  · rcases lo with lo | lo
    · omega
    · rw [hp]; omega
  · unfold fsz figs
    rw [e, if_pos ⟨h1, hi⟩, List.append_nil]; rfl
theorem fsz0 {n : Int} {u : Nat} {plus : Bool} (hu : u ≤ 4) (lo : u = 0 ∨ 10240 * 1024 ^ (u - 1) ≤ n.natAbs) (hno : ¬ (n.natAbs < 100 * 1024 ^ u ∧ u ≠ 0)) (hi : u = 4 ∨ n.natAbs < 10240 * 1024 ^ u) :
    sgnL plus (decide (n < 0)) (dg (Float64.halfEven n.natAbs (1024 ^ u))) ++ ([32] ++ ((unitS u).cps.toList ++ [])) = fsz n plus := by
  have e := unitOf_eq (a := n.natAbs) hu lo hi
  unfold fsz figs
  rw [e, if_neg (fun z => hno ⟨z.2, z.1⟩), List.append_nil]; rfl
end Mine
end
section
open PySem PySem.W PyProof.Rows PySem.Calls PySem.Spec
set_option maxRecDepth 100000

namespace Mine
abbrev Nk (t : Tab Int) : Prop := (t.map (·.1)).Nodup

theorem valT_mem {t : Tab Int} {k : Int} {v : Int × Int} (hn : Nk t) (h : (k, v) ∈ t) : valT t k = v := by
  unfold valT; rw [dgetT_mem hn h]; rfl
theorem valT_not {t : Tab Int} {k : Int} (h : k ∉ t.map (·.1)) : valT t k = (0, 0) := by
  unfold valT; rw [dgetT_none.mpr h]; rfl
theorem valT_ne {t : Tab Int} {k : Int} (h : valT t k ≠ (0, 0)) : (k, valT t k) ∈ t := by
  unfold valT at h ⊢
  cases q : dgetT t k with
  | none => rw [q] at h; exact absurd rfl h
  | some v => exact dgetT_some q
theorem dgetT_valT {t : Tab Int} {k : Int} {v : Int × Int} (h : dgetT t k = some v) : valT t k = v := by unfold valT; rw [h]; rfl

theorem dgetT_del {t : Tab Int} {k k' : Int} (h : k' ≠ k) : dgetT (ddelT t k) k' = dgetT t k' := by
  unfold dgetT ddelT
  rw [List.find?_filter]
  congr 2
  funext e
  by_cases z : e.1 = k'
  · have : e.1 ≠ k := fun q => h (z.symm.trans q)
    simp [z, h]
  · simp [z]
theorem cmpNew_eq : ∀ {n : Tab Int}, Nk n → ∀ (o : Tab Int), cmpNew n o = n.map fun e => dif1 e.1 e.2.1 e.2.2 (dgetT o e.1)
  | [], _, _ => rfl
  | (k, s, c) :: r, hn, o => by
    have hn' := List.nodup_cons.mp hn
    rw [cmpNew, cmpNew_eq hn'.2, List.map_cons]
    congr 1
    refine List.map_congr_left fun e he => ?_
    have hne : e.1 ≠ k := fun z => hn'.1 (by show k ∈ _; rw [← z]; exact List.mem_map_of_mem (f := (·.1)) he)
    rw [dgetT_del hne]
theorem cmpLeft_eq : ∀ (n o : Tab Int), cmpLeft n o = o.filter fun e => decide (e.1 ∉ n.map (·.1))
  | [], o => by rw [cmpLeft]; exact (List.filter_eq_self.mpr fun _ _ => by simp).symm
  | (k, s, c) :: r, o => by
    rw [cmpLeft, cmpLeft_eq r, ddelT, List.filter_filter]
    refine List.filter_congr fun e _ => ?_
    by_cases h1 : e.1 = k <;> simp [h1]
theorem cmpOld_eq : ∀ t : Tab Int, cmpOld t = t.map fun e => (e.1, 0, -e.2.1, 0, -e.2.2)
  | [] => rfl
  | (k, s, c) :: r => by rw [cmpOld, cmpOld_eq r]; rfl
theorem dif1_key (k s c : Int) (p : Option (Int × Int)) : (dif1 k s c p).1 = k := by cases p <;> rfl
theorem cmpAll_keys {o n : Tab Int} (ho : Nk o) (hn : Nk n) : ((cmpAll o n).map (·.1)).Nodup := by
  unfold cmpAll
  rw [cmpNew_eq hn, cmpOld_eq, cmpLeft_eq, List.map_append, List.map_map, List.map_map]
  have e1 : (n.map ((fun x : Dif Int => x.1) ∘ fun e => dif1 e.1 e.2.1 e.2.2 (dgetT o e.1))) = n.map (·.1) := List.map_congr_left fun e _ => dif1_key _ _ _ _
  have e2 : ∀ l : Tab Int, (l.map ((fun x : Dif Int => x.1) ∘ fun e => (e.1, 0, -e.2.1, 0, -e.2.2))) = l.map (·.1) := fun l => List.map_congr_left fun e _ => rfl
  rw [e1, e2]
  refine List.nodup_append.mpr ⟨hn, ?_, fun a ha b hb z => ?_⟩
  · exact List.Pairwise.sublist (List.Sublist.map _ List.filter_sublist) ho
  · subst z
    obtain ⟨e, he, rfl⟩ := List.mem_map.mp hb
    have := (List.mem_filter.mp he).2
    simp only [decide_eq_true_eq] at this
    exact this ha
noncomputable def keepE (d : Dif Int) : Option (Int × (Int × Int)) := if keepD d then some (d.1, d.2.2.1, d.2.2.2.2) else none
theorem takenGo_eq : ∀ (ds : List (Dif Int)) (t : Tab Int), (t.map (·.1) ++ ds.map (·.1)).Nodup → takenGo ds t = t ++ ds.filterMap keepE
  | [], t, _ => by simp [takenGo]
  | d :: ds, t, h => by
    show takenGo ds (if keepD d then dsetT t d.1 (d.2.2.1, d.2.2.2.2) else t) = _
    rw [List.map_cons] at h
    obtain ⟨h1, h2, h3⟩ := List.nodup_append.mp h
    by_cases hk : keepD d = true
    · rw [if_pos hk, dsetT_new fun z => h3 _ z _ List.mem_cons_self rfl, takenGo_eq ds]
      · rw [List.filterMap_cons, keepE, if_pos hk]; simp
      · rw [List.map_append, List.append_assoc]; exact h
    · rw [if_neg hk, takenGo_eq ds]
      · rw [List.filterMap_cons, keepE, if_neg hk]
      · refine List.nodup_append.mpr ⟨h1, (List.nodup_cons.mp h2).2, fun a ha b hb => h3 a ha b (List.mem_cons_of_mem _ hb)⟩
theorem takenT_eq {o n : Tab Int} (ho : Nk o) (hn : Nk n) : takenT o n = (cmpAll o n).filterMap keepE := by
  unfold takenT; rw [takenGo_eq _ _ (by simpa using cmpAll_keys ho hn), List.nil_append]
theorem filterMap_keys {ds : List (Dif Int)} (h : (ds.map (·.1)).Nodup) : Nk (ds.filterMap keepE) := by
  induction ds with
  | nil => exact List.nodup_nil
  | cons d ds ih =>
    rw [List.map_cons, List.nodup_cons] at h
    rw [List.filterMap_cons]
    unfold keepE
    by_cases hk : keepD d = true
    · rw [if_pos hk]
      refine List.nodup_cons.mpr ⟨fun z => h.1 ?_, ih h.2⟩
      obtain ⟨e, he, z⟩ := List.mem_map.mp z
      obtain ⟨d', hd', e'⟩ := List.mem_filterMap.mp he
      have : d'.1 = d.1 := by
        split at e'
        · have := Option.some.inj e'; rw [← this] at z; exact z
        · cases e'
      exact this ▸ List.mem_map_of_mem (f := (·.1)) hd'
    · rw [if_neg hk]; exact ih h.2
theorem takenT_nk {o n : Tab Int} (ho : Nk o) (hn : Nk n) : Nk (takenT o n) := by
  rw [takenT_eq ho hn]; exact filterMap_keys (cmpAll_keys ho hn)
theorem takenT_mem {o n : Tab Int} (ho : Nk o) (hn : Nk n) {k s c : Int} (h : (k, s, c) ∈ takenT o n) : s = (valT n k).1 - (valT o k).1 ∧ c = (valT n k).2 - (valT o k).2 ∧ ¬ (s = 0 ∧ c = 0) ∧ (k ∈ n.map (·.1) ∨ k ∈ o.map (·.1)) := by
  rw [takenT_eq ho hn] at h
  obtain ⟨d, hd, e⟩ := List.mem_filterMap.mp h
  unfold keepE at e
  split at e
  · rename_i hk
    have e := Option.some.inj e
    injection e with e1 e2
    injection e2 with e2 e3
    have hne : ¬ (s = 0 ∧ c = 0) := by
      intro ⟨z1, z2⟩
      unfold keepD at hk
      rw [e2, e3, z1, z2] at hk
      exact absurd hk (by decide)
    unfold cmpAll at hd
    rw [cmpNew_eq hn, cmpOld_eq, cmpLeft_eq] at hd
    rcases List.mem_append.mp hd with z | z
    · obtain ⟨x, hx, rfl⟩ := List.mem_map.mp z
      rw [dif1_key] at e1
      have hv : valT n k = x.2 := by rw [← e1]; exact valT_mem hn hx
      have hkey : k ∈ n.map (·.1) := by rw [← e1]; exact List.mem_map_of_mem (f := (·.1)) hx
      subst e1
      cases q : dgetT o x.1 with
      | none =>
        have hv2 : valT o x.1 = (0, 0) := by unfold valT; rw [q]; rfl
        rw [q] at e2 e3
        rw [hv, hv2]
        have e2' : x.2.1 = s := e2
        have e3' : x.2.2 = c := e3
        exact ⟨by simp; omega, by simp; omega, hne, .inl hkey⟩
      | some v =>
        have hv2 := dgetT_valT q
        rw [q] at e2 e3
        rw [hv, hv2]
        have e2' : x.2.1 - v.1 = s := e2
        have e3' : x.2.2 - v.2 = c := e3
        exact ⟨by omega, by omega, hne, .inl hkey⟩
    · obtain ⟨x, hx, rfl⟩ := List.mem_map.mp z
      have h1 := (List.mem_filter.mp hx).1
      have h2 := (List.mem_filter.mp hx).2
      simp only [decide_eq_true_eq] at h2
      have e1' : x.1 = k := e1
      subst e1'
      rw [valT_not h2, valT_mem ho h1]
      have e2' : -x.2.1 = s := e2
      have e3' : -x.2.2 = c := e3
      exact ⟨by simp; omega, by simp; omega, hne, .inr (List.mem_map_of_mem (f := (·.1)) h1)⟩
  · cases e
theorem valT_taken {o n : Tab Int} (ho : Nk o) (hn : Nk n) (k : Int) : (valT (takenT o n) k).1 = (valT n k).1 - (valT o k).1 ∧ (valT (takenT o n) k).2 = (valT n k).2 - (valT o k).2 := by
  by_cases hk : k ∈ (takenT o n).map (·.1)
  · obtain ⟨⟨k', s, c⟩, he, rfl⟩ := List.mem_map.mp hk
    obtain ⟨a, b, _⟩ := takenT_mem ho hn he
    rw [valT_mem (takenT_nk ho hn) he]
    exact ⟨a, b⟩
  · rw [valT_not hk]
    -- the difference is nought
    have hz : (valT n k).1 - (valT o k).1 = 0 ∧ (valT n k).2 - (valT o k).2 = 0 := by
      refine Classical.byContradiction fun hne => hk ?_
      rw [takenT_eq ho hn]
      have hmem : ∃ d ∈ cmpAll o n, d.1 = k ∧ d.2.2.1 = (valT n k).1 - (valT o k).1 ∧ d.2.2.2.2 = (valT n k).2 - (valT o k).2 := by
        unfold cmpAll
        rw [cmpNew_eq hn, cmpOld_eq, cmpLeft_eq]
        by_cases h1 : k ∈ n.map (·.1)
        · obtain ⟨x, hx, rfl⟩ := List.mem_map.mp h1
          refine ⟨_, List.mem_append_left _ (List.mem_map_of_mem hx), dif1_key _ _ _ _, ?_⟩
          have hv : valT n x.1 = x.2 := valT_mem hn hx
          cases q : dgetT o x.1 with
          | none =>
            have hv2 : valT o x.1 = (0, 0) := by unfold valT; rw [q]; rfl
            rw [hv, hv2]
            exact ⟨show x.2.1 = x.2.1 - 0 by omega, show x.2.2 = x.2.2 - 0 by omega⟩
          | some v => rw [hv, dgetT_valT q]; exact ⟨rfl, rfl⟩
        · by_cases h2 : k ∈ o.map (·.1)
          · obtain ⟨x, hx, rfl⟩ := List.mem_map.mp h2
            refine ⟨_, List.mem_append_right _ (List.mem_map_of_mem (List.mem_filter.mpr ⟨hx, by simpa using h1⟩)), rfl, ?_⟩
            rw [valT_not h1, valT_mem ho hx]
            exact ⟨show -x.2.1 = 0 - x.2.1 by omega, show -x.2.2 = 0 - x.2.2 by omega⟩
          · exact absurd ⟨by rw [valT_not h1, valT_not h2]; rfl, by rw [valT_not h1, valT_not h2]; rfl⟩ hne
      obtain ⟨d, hd, rfl, d1, d2⟩ := hmem
      have hkeep : keepD d = true := by
        unfold keepD
        rw [d1, d2]
        simp only [Bool.not_eq_true', Bool.and_eq_false_iff, beq_eq_false_iff_ne]
        by_cases z : (valT n d.1).1 - (valT o d.1).1 = 0
        · exact .inr fun z2 => hne ⟨z, z2⟩
        · exact .inl z
      exact List.mem_map.mpr ⟨(d.1, d.2.2.1, d.2.2.2.2), List.mem_filterMap.mpr ⟨d, hd, by unfold keepE; rw [if_pos hkeep]⟩, rfl⟩
    exact ⟨hz.1.symm, hz.2.symm⟩

end Mine
end
section
open PySem PySem.W PyProof.Rows PySem.Calls PySem.Spec
namespace Mine
/-- (below, above, size, count) -/
abbrev Claim := Int × Int × Int × Int
noncomputable def claimOf (n : Int) : Claim :=
  (n.fmod 6 + 1, (n.fdiv 6).fmod 6 + 1,
   (if ((n.fdiv 36).fmod 4).fmod 2 = 1 then 700 * (((n.fdiv 6).fmod 6 + 1) * ((n.fdiv 6).fmod 6 + 1) - (n.fmod 6 + 1) * (n.fmod 6 + 1)) + ((n.fdiv 144).fmod 20000000000001 - 10000000000000) else 700 * (((n.fdiv 6).fmod 6 + 1) * ((n.fdiv 6).fmod 6 + 1) - (n.fmod 6 + 1) * (n.fmod 6 + 1))),
   (if ((n.fdiv 36).fmod 4).fdiv 2 = 1 then (n.fdiv 6).fmod 6 + 1 - (n.fmod 6 + 1) + ((n.fdiv 144).fmod 19 - 9) else (n.fdiv 6).fmod 6 + 1 - (n.fmod 6 + 1)))
noncomputable def numsOf (sc : List Int) : List Int := [25, 16] ++ sc.take 5 ++ [13, 1440000001777724, 30, 23, 9, 84]
noncomputable def claimsOf (sc : List Int) : List Claim := (numsOf sc).map claimOf
/-! walking -/
noncomputable def wstep (f : Tab Int) (c : Claim) : Tab Int :=
  match dgetT f c.1, dgetT f c.2.1 with
  | some b, none => f ++ [(c.2.1, b.1 + c.2.2.1, b.2 + c.2.2.2)]
  | none, some a => f ++ [(c.1, a.1 - c.2.2.1, a.2 - c.2.2.2)]
  | _, _ => f
noncomputable def wround (ties : List Claim) (f : Tab Int) : Tab Int := ties.foldl wstep f
noncomputable def wgo (ties : List Claim) : Nat → Tab Int → Tab Int
  | 0, f => f
  | n + 1, f => wgo ties n (wround ties f)
noncomputable def walkT (ties : List Claim) (s : Int) : Tab Int := wgo ties ties.length [(s, 0, 0)]
noncomputable def minOf : List Int → Int
  | [] => 0
  | x :: r => r.foldl min x
noncomputable def keysT (t : Tab Int) : List Int := t.map (·.1)
inductive Ans where
  | pt (k : Int)
  | told (l : List (Int × Int))
noncomputable def wAns (ties : List Claim) (c : Claim) : List Claim × Ans :=
  match dgetT (walkT ties c.1) c.2.1 with
  | some a => (ties, .told (if (c.2.2.1 - a.1 == 0 && c.2.2.2 - a.2 == 0) = true then [] else [(-(c.2.2.1 - a.1), -(c.2.2.2 - a.2))]))
  | none => (ties ++ [c], .pt (max (minOf (keysT (walkT ties c.1))) (minOf (keysT (walkT ties c.2.1)))))
noncomputable def wAll : List Claim → List Claim → List Claim × List Ans
  | ties, [] => (ties, [])
  | ties, c :: r => ((wAll (wAns ties c).1 r).1, (wAns ties c).2 :: (wAll (wAns ties c).1 r).2)
noncomputable def wHeight (ties : List Claim) (p : Int) : Int × Int × Int :=
  (minOf (keysT (walkT ties p)), -(valT (walkT ties p) (minOf (keysT (walkT ties p)))).1, -(valT (walkT ties p) (minOf (keysT (walkT ties p)))).2)
/-! by tables -/
abbrev Lead := Int × (Tab Int × Tab Int)
noncomputable def leadOf (L : List Lead) (p : Int) : Option (Tab Int × Tab Int) := (L.find? fun e => e.1 = p).map (·.2)
noncomputable def topOf (t : Tab Int) : Int := (keysT t).foldl max 0
noncomputable def table0 (c : Claim) : Tab Int := takenT [(c.1, 1, 1)] [(c.2.1, 1, 1), (0, c.2.2.1, c.2.2.2)]
inductive Redn (L : List Lead) : Nat → Tab Int → Tab Int → Prop
  | done {t : Tab Int} : leadOf L (topOf t) = none → t.length ≤ 100 → Nk t → Redn L 0 t t
  | step {n : Nat} {t a b r : Tab Int} : leadOf L (topOf t) = some (a, b) → topOf t ∈ keysT t → t.length ≤ 100 → Nk t → a.length ≤ 100 → b.length ≤ 100 → Redn L n (takenT (if 0 < (valT t (topOf t)).1 then a else b) t) r → Redn L (n + 1) t r
noncomputable def leadFor (t : Tab Int) : Tab Int × Tab Int := if 0 < (valT t (topOf t)).1 then (t, takenT t []) else (takenT t [], t)
inductive RunT : List Lead → List Claim → List Lead → List Ans → Prop
  | nil {L : List Lead} : RunT L [] L []
  | line {L L' : List Lead} {c : Claim} {cs : List Claim} {as : List Ans} {n : Nat} {t : Tab Int} : Redn L n (table0 c) t → topOf t = 0 → (∀ e ∈ t, e.1 = 0 ∧ e.2.1.natAbs < 2 ^ 53 ∧ e.2.2.natAbs < 2 ^ 53) → L.length ≤ 100 → RunT L cs L' as → RunT L (c :: cs) L' (.told (t.map fun e => (-e.2.1, -e.2.2)) :: as)
  | lead {L L' : List Lead} {c : Claim} {cs : List Claim} {as : List Ans} {n : Nat} {t : Tab Int} : Redn L n (table0 c) t → topOf t ≠ 0 → topOf t ∈ keysT t → L.length ≤ 100 → RunT (L ++ [(topOf t, leadFor t)]) cs L' as → RunT L (c :: cs) L' (.pt (topOf t) :: as)
/-- the other point of a kept table -/
noncomputable def otherOf (p : Int) (t : Tab Int) : Int := ((keysT t).filter fun k => k != 0 && k != p).headD 0
noncomputable def hAt (hs : List (Int × Int × Int × Int)) (p : Int) : Int × Int × Int := ((hs.find? fun e => e.1 = p).map (·.2)).getD (0, 0, 0)
noncomputable def hNew (L : List Lead) (hs : List (Int × Int × Int × Int)) (p : Int) : Int × Int × Int :=
  match leadOf L p with
  | none => (p, 0, 0)
  | some (t, t') => ((hAt hs (otherOf p t)).1, (hAt hs (otherOf p t)).2.1 + (valT t 0).1, (hAt hs (otherOf p t)).2.2 - (valT t' 0).2)
noncomputable def hGo (L : List Lead) : List (Int × Int × Int × Int) → List Int → List (Int × Int × Int × Int)
  | hs, [] => hs
  | hs, p :: r => hGo L (hs ++ [(p, hNew L hs p)]) r
noncomputable def six : List Int := [1, 2, 3, 4, 5, 6]
structure LeadOk (p : Int) (t t' : Tab Int) : Prop where
  len : t.length ≤ 100
  len' : t'.length ≤ 100
  nk : Nk t
  nk' : Nk t'
  one : ∃ q, ((keysT t).filter fun k => k != 0 && k != p) = [q] ∧ 1 ≤ q ∧ q < p
structure PlainLaw (sc : List Int) : Prop where
  run : ∃ L, RunT [] (claimsOf sc) L (wAll [] (claimsOf sc)).2 ∧ (∀ p t t', leadOf L p = some (t, t') → LeadOk p t t') ∧ (six.map fun p => hAt (hGo L [] six) p) = six.map fun p => wHeight (wAll [] (claimsOf sc)).1 p
  tell : ∀ a ∈ (wAll [] (claimsOf sc)).2, ∀ l, a = .told l → ∀ e ∈ l, e.1.natAbs < 2 ^ 53 ∧ e.2.natAbs < 2 ^ 53
end Mine
end
section
open PySem PySem.W PyProof.Rows PySem.Calls PySem.Spec
set_option maxRecDepth 100000

namespace Mine
structure Is (g : Gd) : Prop where
  ok : g.Ok
  K : g.K = hd.heap_1 g.w.params

example (P : Params) : PySem.Challenge.rw_wa0013_01.row.prog = PySem.Challenge.rw_wa0013_01.row.prog ∧ hd.heap_1 P = hd.heap_1 P := by
  k_fill
  exact ⟨rfl, rfl⟩

section
variable {g : Gd} {A : Around} {H : PH} {Q : PV → PH → Prop}
abbrev CS : Addr := 82
abbrev CD : Addr := 141
/-- a Statistic, a StatisticDiff, as their slots lie -/
abbrev st3 (t s c : PV) : PV := .inst CS [c, s, t]
abbrev sd5 (t s sd c cd : PV) : PV := .inst CD [c, cd, s, sd, t]

theorem stat_ct (I : Is g) (R : Room A 3) {t s c : PV} (h : ∀ dx, H dx = none → Q (st3 t s c) (hup H dx .idle)) : CT g A H (.ref CS) [t, s, c] Q := by
  refine' CT.inst (ns := [Str.ofString "traceback", Str.ofString "size", Str.ofString "count"]) (js := [2, 1, 0]) (fI := 43) (sg := fun l => l.reverse) I.ok R (IK := ?IK) (ho := ?ho) (hfd := ?hfd) (hb := ?hb) (hcode := ?hc) ?h1 ?h2 ?h3 ?h4 ?h5 ?h6 ?h7 ?h8 ?h9 ?h10 ?h11 h
  case ho => rw [I.K]; k_is
  case hfd => exact rfl
  case hb => exact rfl
  case hc => rw [I.K]; k_is
  case IK => rw [I.K]; exact ⟨by k_is, by k_is, by k_is, by k_is, by k_is⟩
  case h1 => exact rfl
  case h2 => exact rfl
  case h3 => exact rfl
  case h4 => decide
  case h5 => decide
  case h6 => (intro s vs hv; obtain ⟨x, y, z, w, rfl⟩ := len4 hv; exact BindsTo.of_eq rfl)
  case h7 => decide
  case h8 => rw [I.K]; exact .cons ⟨⟨85, by k_is, by k_is, by k_is⟩, by decide⟩ rfl (.cons ⟨⟨84, by k_is, by k_is, by k_is⟩, by decide⟩ rfl (.cons ⟨⟨83, by k_is, by k_is, by k_is⟩, by decide⟩ rfl .nil))
  case h9 => rfl
  case h10 => (intro ws hw; obtain ⟨x, y, z, rfl⟩ := len3 hw; rfl)
  case h11 =>
    intro H h ws ds V hw
    obtain ⟨x, y, z, rfl⟩ := len3 hw
    obtain ⟨x', y', z', rfl⟩ := len3 (V.length.symm.trans hw)
    obtain ⟨_, _, e1, a, V⟩ := V.inv
    obtain ⟨_, _, e2, b, V⟩ := V.inv
    obtain ⟨_, _, e3, c, V⟩ := V.inv
    injection e1 with e1 e1'; subst e1 e1'
    injection e2 with e2 e2'; subst e2 e2'
    injection e3 with e3 e3'; subst e3
    exact .cons c (.cons b (.cons a .nil))

theorem diff_ct (I : Is g) (R : Room A 3) {t s sd c cd : PV} (h : ∀ dx, H dx = none → Q (sd5 t s sd c cd) (hup H dx .idle)) : CT g A H (.ref CD) [t, s, sd, c, cd] Q := by
  refine' CT.inst (ns := [Str.ofString "traceback", Str.ofString "size", Str.ofString "size_diff", Str.ofString "count", Str.ofString "count_diff"]) (js := [4, 2, 3, 0, 1]) (fI := 102) (sg := fun l => match l with | [a, b, c, d, e] => [d, e, b, c, a] | l => l) I.ok R (IK := ?IK) (ho := ?ho) (hfd := ?hfd) (hb := ?hb) (hcode := ?hc) ?h1 ?h2 ?h3 ?h4 ?h5 ?h6 ?h7 ?h8 ?h9 ?h10 ?h11 h
  case ho => rw [I.K]; k_is
  case hfd => exact rfl
  case hb => exact rfl
  case hc => rw [I.K]; k_is
  case IK => rw [I.K]; exact ⟨by k_is, by k_is, by k_is, by k_is, by k_is⟩
  case h1 => exact rfl
  case h2 => exact rfl
  case h3 => exact rfl
  case h4 => decide
  case h5 => decide
  case h6 => (intro s vs hv; obtain ⟨x, y, z, w, u, v, rfl⟩ := len6 hv; exact BindsTo.of_eq rfl)
  case h7 => decide
  case h8 => rw [I.K]; exact .cons ⟨⟨146, by k_is, by k_is, by k_is⟩, by decide⟩ rfl (.cons ⟨⟨144, by k_is, by k_is, by k_is⟩, by decide⟩ rfl (.cons ⟨⟨145, by k_is, by k_is, by k_is⟩, by decide⟩ rfl (.cons ⟨⟨142, by k_is, by k_is, by k_is⟩, by decide⟩ rfl (.cons ⟨⟨143, by k_is, by k_is, by k_is⟩, by decide⟩ rfl .nil))))
  case h9 => rfl
  case h10 => (intro ws hw; obtain ⟨x, y, z, u, v, rfl⟩ := len5 hw; rfl)
  case h11 =>
    intro H h ws ds V hw
    obtain ⟨x, y, z, u, v, rfl⟩ := len5 hw
    obtain ⟨x', y', z', u', v', rfl⟩ := len5 (V.length.symm.trans hw)
    obtain ⟨_, _, e1, a, V⟩ := V.inv
    obtain ⟨_, _, e2, b, V⟩ := V.inv
    obtain ⟨_, _, e3, c, V⟩ := V.inv
    obtain ⟨_, _, e4, d, V⟩ := V.inv
    obtain ⟨_, _, e5, e, V⟩ := V.inv
    injection e1 with e1 e1'; subst e1 e1'
    injection e2 with e2 e2'; subst e2 e2'
    injection e3 with e3 e3'; subst e3 e3'
    injection e4 with e4 e4'; subst e4 e4'
    injection e5 with e5 e5'; subst e5
    exact .cons d (.cons e (.cons b (.cons c (.cons a .nil))))
end
end Mine
end
section
open PySem PySem.W PyProof.Rows PySem.Calls PySem.Spec
set_option maxRecDepth 100000
set_option maxHeartbeats 1000000
namespace Mine
section
variable {g : Gd} {A : Around} {H : PH} {Q : PV → PH → Prop}
theorem gl_StatisticDiff (I : Is g) : nsIn g.K mainGlobals "StatisticDiff" = some (some (.ref 141)) := by rw [I.K]; k_is
theorem gl_Statistic (I : Is g) : nsIn g.K mainGlobals "Statistic" = some (some (.ref 82)) := by rw [I.K]; k_is
theorem ck_141 (I : Is g) : CallK g (.ref 141) := .inr (.inr (by rw [I.K]; k_is))
theorem ck_82 (I : Is g) : CallK g (.ref 82) := .inr (.inr (by rw [I.K]; k_is))
theorem sl_st_size (I : Is g) : SlotAt g.K CS "size" 1 := ⟨by rw [I.K]; k_is, by rw [I.K]; k_is, 84, by rw [I.K]; k_is, by rw [I.K]; k_is, by rw [I.K]; k_is, by rw [I.K]; k_is⟩
theorem sl_st_count (I : Is g) : SlotAt g.K CS "count" 0 := ⟨by rw [I.K]; k_is, by rw [I.K]; k_is, 83, by rw [I.K]; k_is, by rw [I.K]; k_is, by rw [I.K]; k_is, by rw [I.K]; k_is⟩
theorem sl_sd_tb (I : Is g) : SlotAt g.K CD "traceback" 4 := ⟨by rw [I.K]; k_is, by rw [I.K]; k_is, 146, by rw [I.K]; k_is, by rw [I.K]; k_is, by rw [I.K]; k_is, by rw [I.K]; k_is⟩
theorem sl_sd_sized (I : Is g) : SlotAt g.K CD "size_diff" 3 := ⟨by rw [I.K]; k_is, by rw [I.K]; k_is, 145, by rw [I.K]; k_is, by rw [I.K]; k_is, by rw [I.K]; k_is, by rw [I.K]; k_is⟩
theorem sl_sd_countd (I : Is g) : SlotAt g.K CD "count_diff" 1 := ⟨by rw [I.K]; k_is, by rw [I.K]; k_is, 143, by rw [I.K]; k_is, by rw [I.K]; k_is, by rw [I.K]; k_is, by rw [I.K]; k_is⟩

inductive CmpM1 (g : Gd) (H : PH) (a D : Addr) (o n : Tab Int) (l : PL) (H' : PH) : Prop where
  | mk (ep : Nat) (_ : l (Str.ofString "old_group") = some (.ref a)) (_ : l (Str.ofString "statistics") = some (.ref D)) (_ : H' a = some ((ik g).pack (tabP .int CS (cmpLeft n o)) ep)) (_ : H' D = some (.list ((cmpNew n o).map (difP .int CD)))) (_ : ExtB a H H') : CmpM1 g H a D o n l H'
inductive CmpI1 (g : Gd) (H : PH) (a D : Addr) (o n : Tab Int) (r : List PV) (l : PL) (H' : PH) : Prop where
  | mk (er eo : Tab Int) (ep : Nat) (acc : List (Dif Int)) (_ : r = er.map (fun e => PV.tuple [.int e.1, st3 (.int e.1) (.int e.2.1) (.int e.2.2)])) (_ : l (Str.ofString "old_group") = some (.ref a)) (_ : l (Str.ofString "statistics") = some (.ref D)) (_ : H' a = some ((ik g).pack (tabP .int CS eo) ep)) (_ : H' D = some (.list (acc.map (difP .int CD)))) (_ : ExtB a H H') (_ : acc ++ cmpNew er eo = cmpNew n o) (_ : cmpLeft er eo = cmpLeft n o) (_ : eo.length ≤ 1000) (_ : acc.length + er.length = n.length) : CmpI1 g H a D o n r l H'
inductive CmpM2 (H : PH) (a D : Addr) (o n : Tab Int) (l : PL) (H' : PH) : Prop where
  | mk  (_ : l (Str.ofString "statistics") = some (.ref D)) (_ : H' D = some (.list ((cmpAll o n).map (difP .int CD)))) (_ : ExtB a H H') : CmpM2 H a D o n l H'
inductive CmpI2 (g : Gd) (H : PH) (a D : Addr) (o n : Tab Int) (ep : Nat) (r : List PV) (l : PL) (H' : PH) : Prop where
  | mk (er : Tab Int) (acc : List (Dif Int)) (_ : r = er.map (fun e => PV.tuple [.int e.1, st3 (.int e.1) (.int e.2.1) (.int e.2.2)])) (_ : l (Str.ofString "statistics") = some (.ref D)) (_ : H' a = some ((ik g).pack (tabP .int CS (cmpLeft n o)) ep)) (_ : H' D = some (.list (acc.map (difP .int CD)))) (_ : ExtB a H H') (_ : acc ++ cmpOld er = cmpAll o n) (_ : acc.length + er.length ≤ 2000) : CmpI2 g H a D o n ep r l H'
theorem cmp_ct (I : Is g) (R : Room A 6) {a b : Addr} {o n : Tab Int} {ep ep' : Nat} (ha : H a = some ((ik g).pack (tabP .int CS o) ep)) (hb : H b = some ((ik g).pack (tabP .int CS n) ep')) (hab : a ≠ b) (ho : o.length ≤ 1000) (hn : n.length ≤ 1000)
    (h : ∀ r H', H r = none → ExtB a H H' → H' r = some (.list ((cmpAll o n).map (difP .int CD))) → Q (.ref r) H') : CT g A H (.ref 155) [.ref a, .ref b] Q := by
  refine' CT.def (n := 5) (ns := [Str.ofString "old_group", Str.ofString "new_group"]) I.ok R (ho := ?ho) (hfd := ?hfd) (hb := ?hb) (hcode := ?hc) (hnames := ?hnm) ?h1 ?h2 ?h3 ?h4 ?h5 ?h6 ?h7 ?h8 ?h9 rfl ?_
  case ho => rw [I.K]; k_is
  case hfd => exact rfl
  case hb => exact rfl
  case hc => rw [I.K]; k_is
  case hnm => exact rfl
  case h1 => exact rfl
  case h2 => exact rfl
  case h3 => exact rfl
  case h4 => exact rfl
  case h5 => exact rfl
  case h6 => exact rfl
  case h7 => (intro s vs hv; obtain ⟨x0, x1, rfl⟩ := len2 hv; exact BindsTo.of_eq rfl)
  case h8 => decide
  case h9 => exact rfl
  intro env A' hE hk hF hR
  dsimp only at hk
  with_reducible refine SS.cons (ST.gen fun _ _ => ?_)
  with_reducible refine ST.assign (by assumption) ?_ ?_ ?_
  focus refine Or.inl ?_; (with_reducible refine KO.at (by assumption) ?_); exact rfl
  focus exact rfl
  with_reducible refine ET.list (Is.ok (by assumption)) ?_
  with_reducible refine ETs.nil ?_
  refine ⟨by decide, fun D hD => ?_⟩
  with_reducible refine GK.use (by assumption) ?_
  have hDa : D ≠ a := fun z => by rw [z, ha] at hD; cases hD
  have hDb : D ≠ b := fun z => by rw [z, hb] at hD; cases hD
  refine SS.seq (CmpM1 g H a D o n) ?_ ?_
  · refine ST.forI (fun _ _ => rfl) (CmpI1 g H a D o n)
      (fun H' => H' b = some ((ik g).pack (tabP .int CS n) ep')) (IT.items (ik g) hR.hh rfl rfl ?_) ?_ ?_
    · with_reducible apply ET.var (by assumption)
      focus (with_reducible refine (upd_ne ?_).trans ?_); (focus (first | assumption | exact (by decide))); (with_reducible refine (parms_ne ?_).trans ?_); (focus (exact (by decide))); with_reducible exact parms_at
      focus exact rfl
      refine ⟨b, _, _, rfl, (hup_ne hDb.symm).trans hb, rfl, n, o, ep, [], ?_, ?_, ?_, (hup_ne hDa.symm).trans ha, hup_at _ _ _, ((Ext.refl H).hup hD).but a, rfl, rfl, ho, by simp⟩
      · simp [tabP, ik, Function.comp_def]
      · with_reducible refine (upd_ne ?_).trans ?_
        focus (first | assumption | exact (by decide))
        with_reducible exact parms_at
      · with_reducible exact upd_at _ _ _
    · rintro v r l H' ⟨er, eo, ep, acc, hr, l1, l2, H1, H2, X, e1, e2, e3, e4⟩
      cases er with
      | nil => cases hr
      | cons en er =>
      obtain ⟨k, sz, ct⟩ := en
      injection hr with hv hr
      subst hv hr
      with_reducible refine AT.tuple (Room.hh (by assumption)) ?_ ?_ ?_
      focus exact rfl
      focus exact rfl
      with_reducible refine ATs.cons ?_
      with_reducible refine AT.name (by assumption) ?_ ?_
      focus refine Or.inl ?_; (with_reducible refine KO.at (by assumption) ?_); exact rfl
      with_reducible refine ATs.cons ?_
      with_reducible refine AT.name (by assumption) ?_ ?_
      focus refine Or.inl ?_; (with_reducible refine KO.at (by assumption) ?_); exact rfl
      with_reducible refine ATs.nil ?_
      with_reducible refine SS.cons (ST.gen fun _ _ => ?_)
      with_reducible refine ST.assign (by assumption) ?_ ?_ ?_
      focus refine Or.inl ?_; (with_reducible refine KO.at (by assumption) ?_); exact rfl
      focus exact rfl
      refine ET.meth (T := "dict") (id := "dict.pop") I.ok rfl rfl (by decide) rfl PySem.F.plainAttrs_dict PySem.F.slot_dict_pop PySem.F.type_dict_pop ?_
      with_reducible apply ET.var (by assumption)
      focus (with_reducible refine (upd_ne ?_).trans ?_); (focus (first | assumption | exact (by decide))); (with_reducible refine (upd_ne ?_).trans ?_); (focus (first | assumption | exact (by decide))); with_reducible assumption
      focus exact rfl
      refine methD H1 ?_
      with_reducible refine ETs.cons ?_ ?_
      focus (intro _; exact rfl)
      with_reducible apply ET.var (by assumption)
      focus (with_reducible refine (upd_ne ?_).trans ?_); (focus (first | assumption | exact (by decide))); with_reducible exact upd_at _ _ _
      focus exact rfl
      with_reducible refine ETs.cons ?_ ?_
      focus (intro _; exact rfl)
      with_reducible refine ET.pnone ?_
      with_reducible refine ETs.nil ?_
      rw [cmpNew] at e1
      rw [cmpLeft] at e2
      have hg := tabP_get PV.int CS k eo
      rcases hq : dgetT eo k with _ | ⟨ps, pc⟩
      · rw [hq] at hg e1
        refine CT.popMiss (ik g) (k := k) H1 hg ?_
        with_reducible refine GK.use (by assumption) ?_
        with_reducible refine SS.cons (ST.gen fun _ _ => ?_)
        with_reducible refine ST.ite ?_
        with_reducible refine BT.cmp ?_ ?_
        focus exact rfl
        with_reducible apply ET.var (by assumption)
        focus with_reducible exact upd_at _ _ _
        focus exact rfl
        with_reducible refine ET.pnone ?_
        with_reducible refine CmpT.isNone' ?_
        with_reducible refine TrT.bool ?_
        with_reducible refine iteF ?_
        with_reducible refine SS.cons (ST.gen fun _ _ => ?_)
        with_reducible refine ST.assign (by assumption) ?_ ?_ ?_
        focus refine Or.inl ?_; (with_reducible refine KO.at (by assumption) ?_); exact rfl
        focus exact rfl
        with_reducible refine ET.call (Is.ok (by assumption)) ?_ ?_
        focus exact rfl
        with_reducible apply ET.glob (by assumption) (Is.ok (by assumption))
        focus (with_reducible refine KO.at (by assumption) ?_); exact rfl
        focus exact rfl
        focus with_reducible exact gl_StatisticDiff (by assumption)
        with_reducible refine ⟨_, rfl, ?_, ?_⟩
        focus with_reducible exact ck_141 (by assumption)
        with_reducible refine ETs.cons ?_ ?_
        focus (intro _; exact rfl)
        with_reducible apply ET.var (by assumption)
        focus (with_reducible refine (upd_ne ?_).trans ?_); (focus (first | assumption | exact (by decide))); (with_reducible refine (upd_ne ?_).trans ?_); (focus (first | assumption | exact (by decide))); with_reducible exact upd_at _ _ _
        focus exact rfl
        with_reducible refine ETs.cons ?_ ?_
        focus (intro _; exact rfl)
        with_reducible refine ET.attr (Is.ok (by assumption)) ?_ ?_
        focus (intro _; exact rfl)
        with_reducible apply ET.var (by assumption)
        focus (with_reducible refine (upd_ne ?_).trans ?_); (focus (first | assumption | exact (by decide))); with_reducible exact upd_at _ _ _
        focus exact rfl
        with_reducible apply attrK
        focus with_reducible exact sl_st_size (by assumption)
        focus exact rfl
        focus exact rfl
        with_reducible refine ETs.cons ?_ ?_
        focus (intro _; exact rfl)
        with_reducible refine ET.attr (Is.ok (by assumption)) ?_ ?_
        focus (intro _; exact rfl)
        with_reducible apply ET.var (by assumption)
        focus (with_reducible refine (upd_ne ?_).trans ?_); (focus (first | assumption | exact (by decide))); with_reducible exact upd_at _ _ _
        focus exact rfl
        with_reducible apply attrK
        focus with_reducible exact sl_st_size (by assumption)
        focus exact rfl
        focus exact rfl
        with_reducible refine ETs.cons ?_ ?_
        focus (intro _; exact rfl)
        with_reducible refine ET.attr (Is.ok (by assumption)) ?_ ?_
        focus (intro _; exact rfl)
        with_reducible apply ET.var (by assumption)
        focus (with_reducible refine (upd_ne ?_).trans ?_); (focus (first | assumption | exact (by decide))); with_reducible exact upd_at _ _ _
        focus exact rfl
        with_reducible apply attrK
        focus with_reducible exact sl_st_count (by assumption)
        focus exact rfl
        focus exact rfl
        with_reducible refine ETs.cons ?_ ?_
        focus (intro _; exact rfl)
        with_reducible refine ET.attr (Is.ok (by assumption)) ?_ ?_
        focus (intro _; exact rfl)
        with_reducible apply ET.var (by assumption)
        focus (with_reducible refine (upd_ne ?_).trans ?_); (focus (first | assumption | exact (by decide))); with_reducible exact upd_at _ _ _
        focus exact rfl
        with_reducible apply attrK
        focus with_reducible exact sl_st_count (by assumption)
        focus exact rfl
        focus exact rfl
        with_reducible refine ETs.nil ?_
        refine diff_ct I (hR.le (by decide)) fun dx hdx => ?_
        have nDx := ne_of H2 hdx
        with_reducible refine GK.use (by assumption) ?_
        with_reducible refine SS.nil ?_
        with_reducible refine GK.use (by assumption) ?_
        with_reducible refine SS.cons (ST.gen fun _ _ => ?_)
        with_reducible refine ST.expr (by assumption) ?_ ?_
        focus (intro _; exact rfl)
        refine ET.meth (T := "list") (id := "list.append") (Is.ok (by assumption)) ?_ ?_ ?_ ?_ PySem.F.plainAttrs_list PySem.F.slot_list_append PySem.F.type_list_append ?_
        focus exact rfl
        focus exact rfl
        focus exact (by decide)
        focus exact rfl
        (with_reducible apply ET.var (by assumption)); (focus (with_reducible refine (upd_ne ?_).trans ?_); (focus (first | assumption | exact (by decide))); (with_reducible refine (upd_ne ?_).trans ?_); (focus (first | assumption | exact (by decide))); (with_reducible refine (upd_ne ?_).trans ?_); (focus (first | assumption | exact (by decide))); (with_reducible refine (upd_ne ?_).trans ?_); (focus (first | assumption | exact (by decide))); with_reducible assumption); (focus exact rfl)
        apply methL
        focus (with_reducible refine (hup_ne ?_).trans ?_); (focus with_reducible assumption); with_reducible assumption
        (with_reducible refine ETs.cons ?_ ?_); (focus (intro _; exact rfl)); (with_reducible apply ET.var (by assumption)); (focus with_reducible exact upd_at _ _ _); (focus exact rfl); with_reducible refine ETs.nil ?_
        apply CT.append
        focus (with_reducible refine (hup_ne ?_).trans ?_); (focus with_reducible assumption); with_reducible assumption
        · simp at e4 ⊢; unfold sizeLine; omega
        skip
        refine ⟨rfl, ?_⟩
        with_reducible refine GK.use (by assumption) ?_
        with_reducible refine SS.nil ?_
        have X2 := (X.hupF (o := .idle) hdx).hupN (o := .list (acc.map (difP .int CD) ++ [difP .int CD (dif1 k sz ct none)])) hD
        refine ⟨X2 _ _ hab.symm hb, er, ddelT eo k, ep, acc ++ [dif1 k sz ct none], rfl, by (((with_reducible refine (upd_ne ?_).trans ?_); (focus (first | assumption | exact (by decide))); (with_reducible refine (upd_ne ?_).trans ?_); (focus (first | assumption | exact (by decide))); (with_reducible refine (upd_ne ?_).trans ?_); (focus (first | assumption | exact (by decide))); (with_reducible refine (upd_ne ?_).trans ?_); (focus (first | assumption | exact (by decide))); with_reducible assumption)), by (((with_reducible refine (upd_ne ?_).trans ?_); (focus (first | assumption | exact (by decide))); (with_reducible refine (upd_ne ?_).trans ?_); (focus (first | assumption | exact (by decide))); (with_reducible refine (upd_ne ?_).trans ?_); (focus (first | assumption | exact (by decide))); (with_reducible refine (upd_ne ?_).trans ?_); (focus (first | assumption | exact (by decide))); with_reducible assumption)), ?_, ?_, X2, ?_, e2, Nat.le_trans (ddelT_len _ _) e3, ?_⟩
        · rw [ddelT_none hq]; exact (hup_ne hDa.symm).trans ((hup_ne (ne_of H1 hdx)).trans H1)
        · rw [List.map_append]; exact hup_at _ _ _
        · rw [List.append_assoc]; exact e1
        · simp at e4 ⊢; omega
      · rw [hq] at hg e1
        refine CT.popThere (ik g) (k := k) H1 (by rw [tabP_len]; unfold sizeLine; omega) hg fun ep2 => ?_
        have H2' : ∀ po, (hup H' a po) D = some (.list (acc.map (difP .int CD))) := fun po => (hup_ne hDa).trans H2
        with_reducible refine GK.use (by assumption) ?_
        with_reducible refine SS.cons (ST.gen fun _ _ => ?_)
        with_reducible refine ST.ite ?_
        with_reducible refine BT.cmp ?_ ?_
        focus exact rfl
        with_reducible apply ET.var (by assumption)
        focus with_reducible exact upd_at _ _ _
        focus exact rfl
        with_reducible refine ET.pnone ?_
        with_reducible refine CmpT.isNone ?_ ?_ ?_
        focus nofun
        focus nofun
        with_reducible refine TrT.bool ?_
        with_reducible refine iteT ?_
        with_reducible refine SS.cons (ST.gen fun _ _ => ?_)
        with_reducible refine ST.assign (by assumption) ?_ ?_ ?_
        focus refine Or.inl ?_; (with_reducible refine KO.at (by assumption) ?_); exact rfl
        focus exact rfl
        with_reducible refine ET.call (Is.ok (by assumption)) ?_ ?_
        focus exact rfl
        with_reducible apply ET.glob (by assumption) (Is.ok (by assumption))
        focus (with_reducible refine KO.at (by assumption) ?_); exact rfl
        focus exact rfl
        focus with_reducible exact gl_StatisticDiff (by assumption)
        with_reducible refine ⟨_, rfl, ?_, ?_⟩
        focus with_reducible exact ck_141 (by assumption)
        with_reducible refine ETs.cons ?_ ?_
        focus (intro _; exact rfl)
        with_reducible apply ET.var (by assumption)
        focus (with_reducible refine (upd_ne ?_).trans ?_); (focus (first | assumption | exact (by decide))); (with_reducible refine (upd_ne ?_).trans ?_); (focus (first | assumption | exact (by decide))); with_reducible exact upd_at _ _ _
        focus exact rfl
        with_reducible refine ETs.cons ?_ ?_
        focus (intro _; exact rfl)
        with_reducible refine ET.attr (Is.ok (by assumption)) ?_ ?_
        focus (intro _; exact rfl)
        with_reducible apply ET.var (by assumption)
        focus (with_reducible refine (upd_ne ?_).trans ?_); (focus (first | assumption | exact (by decide))); with_reducible exact upd_at _ _ _
        focus exact rfl
        with_reducible apply attrK
        focus with_reducible exact sl_st_size (by assumption)
        focus exact rfl
        focus exact rfl
        with_reducible refine ETs.cons ?_ ?_
        focus (intro _; exact rfl)
        with_reducible refine ET.binop ?_
        with_reducible refine ET.attr (Is.ok (by assumption)) ?_ ?_
        focus (intro _; exact rfl)
        with_reducible apply ET.var (by assumption)
        focus (with_reducible refine (upd_ne ?_).trans ?_); (focus (first | assumption | exact (by decide))); with_reducible exact upd_at _ _ _
        focus exact rfl
        with_reducible apply attrK
        focus with_reducible exact sl_st_size (by assumption)
        focus exact rfl
        focus exact rfl
        with_reducible refine ET.attr (Is.ok (by assumption)) ?_ ?_
        focus (intro _; exact rfl)
        with_reducible apply ET.var (by assumption)
        focus with_reducible exact upd_at _ _ _
        focus exact rfl
        with_reducible apply attrK
        focus with_reducible exact sl_st_size (by assumption)
        focus exact rfl
        focus exact rfl
        with_reducible refine BinT.sub ?_
        with_reducible refine ETs.cons ?_ ?_
        focus (intro _; exact rfl)
        with_reducible refine ET.attr (Is.ok (by assumption)) ?_ ?_
        focus (intro _; exact rfl)
        with_reducible apply ET.var (by assumption)
        focus (with_reducible refine (upd_ne ?_).trans ?_); (focus (first | assumption | exact (by decide))); with_reducible exact upd_at _ _ _
        focus exact rfl
        with_reducible apply attrK
        focus with_reducible exact sl_st_count (by assumption)
        focus exact rfl
        focus exact rfl
        with_reducible refine ETs.cons ?_ ?_
        focus (intro _; exact rfl)
        with_reducible refine ET.binop ?_
        with_reducible refine ET.attr (Is.ok (by assumption)) ?_ ?_
        focus (intro _; exact rfl)
        with_reducible apply ET.var (by assumption)
        focus (with_reducible refine (upd_ne ?_).trans ?_); (focus (first | assumption | exact (by decide))); with_reducible exact upd_at _ _ _
        focus exact rfl
        with_reducible apply attrK
        focus with_reducible exact sl_st_count (by assumption)
        focus exact rfl
        focus exact rfl
        with_reducible refine ET.attr (Is.ok (by assumption)) ?_ ?_
        focus (intro _; exact rfl)
        with_reducible apply ET.var (by assumption)
        focus with_reducible exact upd_at _ _ _
        focus exact rfl
        with_reducible apply attrK
        focus with_reducible exact sl_st_count (by assumption)
        focus exact rfl
        focus exact rfl
        with_reducible refine BinT.sub ?_
        with_reducible refine ETs.nil ?_
        refine diff_ct I (hR.le (by decide)) fun dx hdx => ?_
        have nDx := ne_of (H2' _) hdx
        with_reducible refine GK.use (by assumption) ?_
        with_reducible refine SS.nil ?_
        with_reducible refine GK.use (by assumption) ?_
        with_reducible refine SS.cons (ST.gen fun _ _ => ?_)
        with_reducible refine ST.expr (by assumption) ?_ ?_
        focus (intro _; exact rfl)
        refine ET.meth (T := "list") (id := "list.append") (Is.ok (by assumption)) ?_ ?_ ?_ ?_ PySem.F.plainAttrs_list PySem.F.slot_list_append PySem.F.type_list_append ?_
        focus exact rfl
        focus exact rfl
        focus exact (by decide)
        focus exact rfl
        (with_reducible apply ET.var (by assumption)); (focus (with_reducible refine (upd_ne ?_).trans ?_); (focus (first | assumption | exact (by decide))); (with_reducible refine (upd_ne ?_).trans ?_); (focus (first | assumption | exact (by decide))); (with_reducible refine (upd_ne ?_).trans ?_); (focus (first | assumption | exact (by decide))); (with_reducible refine (upd_ne ?_).trans ?_); (focus (first | assumption | exact (by decide))); with_reducible assumption); (focus exact rfl)
        apply methL
        focus (with_reducible refine (hup_ne ?_).trans ?_); (focus with_reducible assumption); (with_reducible refine (hup_ne ?_).trans ?_); (focus with_reducible assumption); with_reducible assumption
        (with_reducible refine ETs.cons ?_ ?_); (focus (intro _; exact rfl)); (with_reducible apply ET.var (by assumption)); (focus with_reducible exact upd_at _ _ _); (focus exact rfl); with_reducible refine ETs.nil ?_
        apply CT.append
        focus (with_reducible refine (hup_ne ?_).trans ?_); (focus with_reducible assumption); (with_reducible refine (hup_ne ?_).trans ?_); (focus with_reducible assumption); with_reducible assumption
        · simp at e4 ⊢; unfold sizeLine; omega
        skip
        refine ⟨rfl, ?_⟩
        with_reducible refine GK.use (by assumption) ?_
        with_reducible refine SS.nil ?_
        have X2 := ((X.hupA (o := (ik g).pack (ddel (tabP .int CS eo) k) ep2)).hupF (o := .idle) hdx).hupN (o := .list (acc.map (difP .int CD) ++ [difP .int CD (dif1 k sz ct (some (ps, pc)))])) hD
        refine ⟨X2 _ _ hab.symm hb, er, ddelT eo k, ep2, acc ++ [dif1 k sz ct (some (ps, pc))], rfl, by (((with_reducible refine (upd_ne ?_).trans ?_); (focus (first | assumption | exact (by decide))); (with_reducible refine (upd_ne ?_).trans ?_); (focus (first | assumption | exact (by decide))); (with_reducible refine (upd_ne ?_).trans ?_); (focus (first | assumption | exact (by decide))); (with_reducible refine (upd_ne ?_).trans ?_); (focus (first | assumption | exact (by decide))); with_reducible assumption)), by (((with_reducible refine (upd_ne ?_).trans ?_); (focus (first | assumption | exact (by decide))); (with_reducible refine (upd_ne ?_).trans ?_); (focus (first | assumption | exact (by decide))); (with_reducible refine (upd_ne ?_).trans ?_); (focus (first | assumption | exact (by decide))); (with_reducible refine (upd_ne ?_).trans ?_); (focus (first | assumption | exact (by decide))); with_reducible assumption)), ?_, ?_, X2, ?_, e2, Nat.le_trans (ddelT_len _ _) e3, ?_⟩
        · rw [← tabP_del]; exact (hup_ne hDa.symm).trans ((hup_ne (ne_of (hup_at _ _ _) hdx)).trans (hup_at _ _ _))
        · rw [List.map_append]; exact hup_at _ _ _
        · rw [List.append_assoc]; exact e1
        · simp at e4 ⊢; omega
    · rintro l H' ⟨er, eo, ep, acc, hr, l1, l2, H1, H2, X, e1, e2, e3, e4⟩
      obtain rfl : er = [] := by cases er with | nil => rfl | cons _ _ => cases hr
      rw [cmpNew, List.append_nil] at e1
      rw [cmpLeft] at e2
      subst e1 e2
      exact ⟨ep, l1, l2, H1, H2, X⟩
  · rintro l H' ⟨ep, l1, l2, H1, H2, X⟩
    have hlen := cmpLeft_len n o
    have hl2 := cmpNew_len n o
    refine SS.seq (CmpM2 H a D o n) ?_ ?_
    · refine ST.forI (fun _ _ => rfl) (CmpI2 g H a D o n ep)
        (fun H' => H' a = some ((ik g).pack (tabP .int CS (cmpLeft n o)) ep)) (IT.items (ik g) hR.hh rfl rfl ?_) ?_ ?_
      · with_reducible apply ET.var (by assumption)
        focus with_reducible assumption
        focus exact rfl
        refine ⟨a, _, _, rfl, H1, rfl, cmpLeft n o, cmpNew n o, ?_, l2, H1, H2, X, rfl, by omega⟩
        simp [tabP, ik, Function.comp_def]
      · rintro v r l H' ⟨er, acc, hr, l1, H1, H2, X, e1, e4⟩
        cases er with
        | nil => cases hr
        | cons en er =>
        obtain ⟨k, sz, ct⟩ := en
        injection hr with hv hr
        subst hv hr
        with_reducible refine AT.tuple (Room.hh (by assumption)) ?_ ?_ ?_
        focus exact rfl
        focus exact rfl
        with_reducible refine ATs.cons ?_
        with_reducible refine AT.name (by assumption) ?_ ?_
        focus refine Or.inl ?_; (with_reducible refine KO.at (by assumption) ?_); exact rfl
        with_reducible refine ATs.cons ?_
        with_reducible refine AT.name (by assumption) ?_ ?_
        focus refine Or.inl ?_; (with_reducible refine KO.at (by assumption) ?_); exact rfl
        with_reducible refine ATs.nil ?_
        with_reducible refine SS.cons (ST.gen fun _ _ => ?_)
        with_reducible refine ST.assign (by assumption) ?_ ?_ ?_
        focus refine Or.inl ?_; (with_reducible refine KO.at (by assumption) ?_); exact rfl
        focus exact rfl
        with_reducible refine ET.call (Is.ok (by assumption)) ?_ ?_
        focus exact rfl
        with_reducible apply ET.glob (by assumption) (Is.ok (by assumption))
        focus (with_reducible refine KO.at (by assumption) ?_); exact rfl
        focus exact rfl
        focus with_reducible exact gl_StatisticDiff (by assumption)
        with_reducible refine ⟨_, rfl, ?_, ?_⟩
        focus with_reducible exact ck_141 (by assumption)
        with_reducible refine ETs.cons ?_ ?_
        focus (intro _; exact rfl)
        with_reducible apply ET.var (by assumption)
        focus (with_reducible refine (upd_ne ?_).trans ?_); (focus (first | assumption | exact (by decide))); with_reducible exact upd_at _ _ _
        focus exact rfl
        with_reducible refine ETs.cons ?_ ?_
        focus (intro _; exact rfl)
        with_reducible refine ET.int ?_
        with_reducible refine ETs.cons ?_ ?_
        focus (intro _; exact rfl)
        with_reducible refine ET.unop ?_
        with_reducible refine ET.attr (Is.ok (by assumption)) ?_ ?_
        focus (intro _; exact rfl)
        with_reducible apply ET.var (by assumption)
        focus with_reducible exact upd_at _ _ _
        focus exact rfl
        with_reducible apply attrK
        focus with_reducible exact sl_st_size (by assumption)
        focus exact rfl
        focus exact rfl
        with_reducible refine UnT.neg ?_
        with_reducible refine ETs.cons ?_ ?_
        focus (intro _; exact rfl)
        with_reducible refine ET.int ?_
        with_reducible refine ETs.cons ?_ ?_
        focus (intro _; exact rfl)
        with_reducible refine ET.unop ?_
        with_reducible refine ET.attr (Is.ok (by assumption)) ?_ ?_
        focus (intro _; exact rfl)
        with_reducible apply ET.var (by assumption)
        focus with_reducible exact upd_at _ _ _
        focus exact rfl
        with_reducible apply attrK
        focus with_reducible exact sl_st_count (by assumption)
        focus exact rfl
        focus exact rfl
        with_reducible refine UnT.neg ?_
        with_reducible refine ETs.nil ?_
        refine diff_ct I (hR.le (by decide)) fun dx hdx => ?_
        have nDx := ne_of H2 hdx
        with_reducible refine GK.use (by assumption) ?_
        with_reducible refine SS.cons (ST.gen fun _ _ => ?_)
        with_reducible refine ST.expr (by assumption) ?_ ?_
        focus (intro _; exact rfl)
        refine ET.meth (T := "list") (id := "list.append") (Is.ok (by assumption)) ?_ ?_ ?_ ?_ PySem.F.plainAttrs_list PySem.F.slot_list_append PySem.F.type_list_append ?_
        focus exact rfl
        focus exact rfl
        focus exact (by decide)
        focus exact rfl
        (with_reducible apply ET.var (by assumption)); (focus (with_reducible refine (upd_ne ?_).trans ?_); (focus (first | assumption | exact (by decide))); (with_reducible refine (upd_ne ?_).trans ?_); (focus (first | assumption | exact (by decide))); (with_reducible refine (upd_ne ?_).trans ?_); (focus (first | assumption | exact (by decide))); with_reducible assumption); (focus exact rfl)
        apply methL
        focus (with_reducible refine (hup_ne ?_).trans ?_); (focus with_reducible assumption); with_reducible assumption
        (with_reducible refine ETs.cons ?_ ?_); (focus (intro _; exact rfl)); (with_reducible apply ET.var (by assumption)); (focus with_reducible exact upd_at _ _ _); (focus exact rfl); with_reducible refine ETs.nil ?_
        apply CT.append
        focus (with_reducible refine (hup_ne ?_).trans ?_); (focus with_reducible assumption); with_reducible assumption
        · simp at e4 ⊢; unfold sizeLine; omega
        skip
        refine ⟨rfl, ?_⟩
        with_reducible refine GK.use (by assumption) ?_
        with_reducible refine SS.nil ?_
        have H1' := (hup_ne (o := PO.list (acc.map (difP .int CD) ++ [difP .int CD (k, 0, -sz, 0, -ct)])) hDa.symm).trans ((hup_ne (o := .idle) (ne_of H1 hdx)).trans H1)
        refine ⟨H1', er, acc ++ [(k, 0, -sz, 0, -ct)], rfl, by (((with_reducible refine (upd_ne ?_).trans ?_); (focus (first | assumption | exact (by decide))); (with_reducible refine (upd_ne ?_).trans ?_); (focus (first | assumption | exact (by decide))); (with_reducible refine (upd_ne ?_).trans ?_); (focus (first | assumption | exact (by decide))); with_reducible assumption)), H1', ?_, (X.hupF hdx).hupN hD, ?_, ?_⟩
        · rw [List.map_append]; exact hup_at _ _ _
        · rw [List.append_assoc]; exact e1
        · simp at e4 ⊢; omega
      · rintro l H' ⟨er, acc, hr, l1, H1, H2, X, e1, e4⟩
        obtain rfl : er = [] := by cases er with | nil => rfl | cons _ _ => cases hr
        rw [cmpOld, List.append_nil] at e1
        subst e1
        exact ⟨l1, H2, X⟩
    · rintro l H' ⟨l1, H2, X⟩
      with_reducible refine SS.cons (ST.gen fun _ _ => ?_)
      with_reducible refine ST.ret ?_
      with_reducible apply ET.var (by assumption)
      focus with_reducible assumption
      focus exact rfl
      with_reducible refine GK.use (by assumption) ?_
      exact h D H' hD X H2
end
end Mine
end
section
open PySem PySem.W PyProof.Rows PySem.Calls PySem.Spec
set_option maxRecDepth 100000
set_option maxHeartbeats 1000000
namespace Mine
section
variable {g : Gd} {A : Around} {H : PH} {Q : PV → PH → Prop}
theorem gl_cmp (I : Is g) : nsIn g.K mainGlobals "_compare_grouped_stats" = some (some (.ref 155)) := by rw [I.K]; k_is
theorem ck_155 (I : Is g) : CallK g (.ref 155) := .inr (.inr (by rw [I.K]; k_is))
theorem gb_dict (I : Is g) : GB g "dict" (.type "dict") := ⟨by rw [I.K]; k_is, by decide, rfl⟩
theorem ck_tdict : CallK g (.type "dict") := .inr (.inl ⟨_, rfl⟩)

inductive TakenI (H1 : PH) (o n : Tab Int) (r : List PV) (acc : List (Int × PV)) (H' : PH) : Prop where
  | mk (dr : List (Dif Int)) (t : Tab Int) (_ : r = dr.map (difP .int CD)) (_ : acc = tabP .int CS t) (_ : takenGo dr t = takenT o n) (_ : Ext H1 H') (_ : t.length + dr.length ≤ 2000) : TakenI H1 o n r acc H'
theorem taken_ct (I : Is g) (R : Room A 8) {a b : Addr} {o n : Tab Int} {ep ep' : Nat} (ha : H a = some ((ik g).pack (tabP .int CS o) ep)) (hb : H b = some ((ik g).pack (tabP .int CS n) ep')) (ho : o.length ≤ 1000) (hn : n.length ≤ 1000)
    (h : ∀ r ep'' H', H r = none → Ext H H' → H' r = some ((ik g).pack (tabP .int CS (takenT o n)) ep'') → Q (.ref r) H') : CT g A H (.ref 181) [.ref a, .ref b] Q := by
  refine' CT.def (n := 7) (ns := [Str.ofString "old", Str.ofString "new"]) I.ok R (ho := ?ho) (hfd := ?hfd) (hb := ?hb) (hcode := ?hc) (hnames := ?hnm) ?h1 ?h2 ?h3 ?h4 ?h5 ?h6 ?h7 ?h8 ?h9 rfl ?_
  case ho => rw [I.K]; k_is
  case hfd => exact rfl
  case hb => exact rfl
  case hc => rw [I.K]; k_is
  case hnm => exact rfl
  case h1 => exact rfl
  case h2 => exact rfl
  case h3 => exact rfl
  case h4 => exact rfl
  case h5 => exact rfl
  case h6 => exact rfl
  case h7 => (intro s vs hv; obtain ⟨x0, x1, rfl⟩ := len2 hv; exact BindsTo.of_eq rfl)
  case h8 => decide
  case h9 => exact rfl
  intro env A' hE hk hF hR
  dsimp only at hk
  with_reducible refine SS.cons (ST.gen fun _ _ => ?_)
  with_reducible refine ST.assign (by assumption) ?_ ?_ ?_
  focus refine Or.inl ?_; (with_reducible refine KO.at (by assumption) ?_); exact rfl
  focus exact rfl
  with_reducible refine ET.call (Is.ok (by assumption)) ?_ ?_
  focus exact rfl
  with_reducible apply ET.glob (by assumption) (Is.ok (by assumption))
  focus (with_reducible refine KO.at (by assumption) ?_); exact rfl
  focus exact rfl
  focus with_reducible exact gl_cmp (by assumption)
  with_reducible refine ⟨_, rfl, ?_, ?_⟩
  focus with_reducible exact ck_155 (by assumption)
  with_reducible refine ETs.cons ?_ ?_
  focus (intro _; exact rfl)
  with_reducible refine ET.call (Is.ok (by assumption)) ?_ ?_
  focus exact rfl
  with_reducible apply ET.bi (by assumption) (Is.ok (by assumption))
  focus (with_reducible refine KO.at (by assumption) ?_); exact rfl
  focus exact rfl
  focus with_reducible exact gb_dict (by assumption)
  with_reducible refine ⟨_, rfl, ?_, ?_⟩
  focus with_reducible exact ck_tdict
  with_reducible refine ETs.cons ?_ ?_
  focus (intro _; exact rfl)
  with_reducible apply ET.var (by assumption)
  focus with_reducible exact parms_at
  focus exact rfl
  with_reducible refine ETs.nil ?_
  refine CT.dictOf (ik g) I.ok ha (by rw [tabP_len]; unfold sizeLine; omega) fun c ep1 hc => ?_
  have hcb : c ≠ b := fun z => by rw [z, hb] at hc; cases hc
  with_reducible refine ETs.cons ?_ ?_
  focus (intro _; exact rfl)
  with_reducible apply ET.var (by assumption)
  focus (with_reducible refine (parms_ne ?_).trans ?_); (focus (exact (by decide))); with_reducible exact parms_at
  focus exact rfl
  with_reducible refine ETs.nil ?_
  refine cmp_ct I (hR.le (by decide)) (hup_at _ _ _) ((hup_ne hcb.symm).trans hb) hcb ho hn fun D H1 hD X hl => ?_
  have X0 : Ext H H1 := fun x po e => X x po (fun z => by rw [z, hc] at e; cases e) (((Ext.refl H).hup hc) x po e)
  have hD0 : H D = none := by
    by_cases z : D = c
    · rw [z, hup_at] at hD; cases hD
    · rwa [hup_ne z] at hD
  with_reducible refine GK.use (by assumption) ?_
  with_reducible refine SS.cons (ST.gen fun _ _ => ?_)
  with_reducible refine ST.ret ?_
  with_reducible refine ET.dictcomp (ik _) (Is.ok (by assumption)) (CompOk.of (by assumption) ?_ ?_) (by assumption) ?_ ?_
  focus exact rfl
  focus exact (by decide)
  focus (intro _ _; exact rfl)
  refine IT.list hR.hh ?_
  with_reducible apply ET.var (by assumption)
  focus with_reducible exact upd_at _ _ _
  focus exact rfl
  refine ⟨D, _, rfl, hl, ?_⟩
  refine CompD.inv (TakenI H1 o n) ?_ ?_ ⟨cmpAll o n, [], rfl, rfl, rfl, Ext.refl _, ?_⟩
  · rintro v r acc H' ⟨dr, t, hr, rfl, e1, X1, e2⟩ cl L hE'
    cases dr with
    | nil => cases hr
    | cons d dr =>
    obtain ⟨k, s, sd, c', cd⟩ := d
    injection hr with hv hr
    subst hv hr
    with_reducible refine AT.name (by assumption) ?_ ?_
    focus refine Or.inl ?_; exact rfl
    with_reducible refine TestsT.one ?_
    with_reducible refine BT.cmp ?_ ?_
    focus exact rfl
    with_reducible refine ET.tuple ?_
    with_reducible refine ETs.cons ?_ ?_
    focus (intro _; exact rfl)
    with_reducible refine ET.attr (Is.ok (by assumption)) ?_ ?_
    focus (intro _; exact rfl)
    with_reducible apply ET.var (by assumption)
    focus with_reducible exact upd_at _ _ _
    focus exact rfl
    with_reducible apply attrK
    focus with_reducible exact sl_sd_sized (by assumption)
    focus exact rfl
    focus exact rfl
    with_reducible refine ETs.cons ?_ ?_
    focus (intro _; exact rfl)
    with_reducible refine ET.attr (Is.ok (by assumption)) ?_ ?_
    focus (intro _; exact rfl)
    with_reducible apply ET.var (by assumption)
    focus with_reducible exact upd_at _ _ _
    focus exact rfl
    with_reducible apply attrK
    focus with_reducible exact sl_sd_countd (by assumption)
    focus exact rfl
    focus exact rfl
    with_reducible refine ETs.nil ?_
    with_reducible refine szAnd ?_ ?_
    focus exact rfl
    with_reducible refine ET.tuple ?_
    with_reducible refine ETs.cons ?_ ?_
    focus (intro _; exact rfl)
    with_reducible refine ET.int ?_
    with_reducible refine ETs.cons ?_ ?_
    focus (intro _; exact rfl)
    with_reducible refine ET.int ?_
    with_reducible refine ETs.nil ?_
    with_reducible refine szAnd ?_ ?_
    focus exact rfl
    with_reducible refine CmpT.nePair (by assumption) ?_
    with_reducible refine TrT.bool ?_
    have e1' : takenGo dr (if keepD (k, s, sd, c', cd) then dsetT t k (sd, cd) else t) = takenT o n := e1
    have hD1 := X1 _ _ hl
    refine iteC (fun hkeep => ?_) (fun hkeep => ?_)
    · rw [show keepD (k, s, sd, c', cd) = true from hkeep, if_pos rfl] at e1'
      with_reducible refine ET.attr (Is.ok (by assumption)) ?_ ?_
      focus (intro _; exact rfl)
      with_reducible apply ET.var (by assumption)
      focus with_reducible exact upd_at _ _ _
      focus exact rfl
      with_reducible apply attrK
      focus with_reducible exact sl_sd_tb (by assumption)
      focus exact rfl
      focus exact rfl
      with_reducible refine ET.call (Is.ok (by assumption)) ?_ ?_
      focus exact rfl
      with_reducible apply ET.glob (by assumption) (Is.ok (by assumption))
      focus exact rfl
      focus exact rfl
      focus with_reducible exact gl_Statistic (by assumption)
      with_reducible refine ⟨_, rfl, ?_, ?_⟩
      focus with_reducible exact ck_82 (by assumption)
      with_reducible refine ETs.cons ?_ ?_
      focus (intro _; exact rfl)
      with_reducible refine ET.attr (Is.ok (by assumption)) ?_ ?_
      focus (intro _; exact rfl)
      with_reducible apply ET.var (by assumption)
      focus with_reducible exact upd_at _ _ _
      focus exact rfl
      with_reducible apply attrK
      focus with_reducible exact sl_sd_tb (by assumption)
      focus exact rfl
      focus exact rfl
      with_reducible refine ETs.cons ?_ ?_
      focus (intro _; exact rfl)
      with_reducible refine ET.attr (Is.ok (by assumption)) ?_ ?_
      focus (intro _; exact rfl)
      with_reducible apply ET.var (by assumption)
      focus with_reducible exact upd_at _ _ _
      focus exact rfl
      with_reducible apply attrK
      focus with_reducible exact sl_sd_sized (by assumption)
      focus exact rfl
      focus exact rfl
      with_reducible refine ETs.cons ?_ ?_
      focus (intro _; exact rfl)
      with_reducible refine ET.attr (Is.ok (by assumption)) ?_ ?_
      focus (intro _; exact rfl)
      with_reducible apply ET.var (by assumption)
      focus with_reducible exact upd_at _ _ _
      focus exact rfl
      with_reducible apply attrK
      focus with_reducible exact sl_sd_countd (by assumption)
      focus exact rfl
      focus exact rfl
      with_reducible refine ETs.nil ?_
      refine stat_ct I (hR.le (by decide)) fun dx hdx => ?_
      have hlen : t.length + (dr.length + 1) ≤ 2000 := by simpa using e2
      have hs := dsetT_len t k (sd, cd)
      exact ⟨(hup_ne (ne_of hD1 hdx)).trans hD1, k, rfl, by rw [tabP_len]; unfold sizeLine; omega, dr, dsetT t k (sd, cd), rfl, tabP_set _ _ _ _ _ _, e1', X1.hup hdx, by omega⟩
    · rw [show keepD (k, s, sd, c', cd) = false from hkeep, if_neg (by decide)] at e1'
      exact ⟨hD1, dr, t, rfl, rfl, e1', X1, by simp at e2; omega⟩
  · rintro acc H' ⟨dr, t, hr, rfl, e1, X1, e2⟩
    obtain rfl : dr = [] := by cases dr with | nil => rfl | cons _ _ => cases hr
    intro E ep2 hE2
    have e1' : t = takenT o n := e1
    subst e1'
    with_reducible refine GK.use (by assumption) ?_
    refine h E ep2 _ ?_ ((X0.trans X1).hup hE2) (hup_at _ _ _)
    cases q : H E with
    | none => rfl
    | some po => have := X1 _ _ (X0 _ _ q); rw [hE2] at this; cases this
  · have h1 := cmpNew_len n o
    have h2 := cmpLeft_len n o
    have h3 : ∀ t : Tab Int, (cmpOld t).length = t.length := fun t => by induction t with | nil => rfl | cons e r ih => obtain ⟨_, _, _⟩ := e; exact congrArg (· + 1) ih
    simp only [cmpAll, List.length_append, h1, h3, List.length_nil]
    omega
end
end Mine
end
section
open PySem PySem.W PyProof.Rows PySem.Calls PySem.Spec
set_option maxRecDepth 100000
set_option maxHeartbeats 1000000
namespace Mine
section
variable {g : Gd} {A : Around} {H : PH} {Q : PV → PH → Prop}
theorem gb_abs (I : Is g) : GB g "abs" (.builtin "abs") := ⟨by rw [I.K]; k_is, by decide, rfl⟩
theorem ck_abs : CallK g (.builtin "abs") := .inl ⟨_, rfl⟩
inductive FmtI (H : PH) (n : Int) (plus : Bool) (r : List PV) (l : PL) (H1 : PH) : Prop where
  | mk (u : Nat) (w : PV) (_ : r = (units.drop u).map .str) (_ : l (Str.ofString "size") = some w) (_ : l (Str.ofString "sign") = some (.bool plus)) (_ : Sz w n u) (_ : u ≤ 4) (_ : u = 0 ∨ 10240 * 1024 ^ (u - 1) ≤ n.natAbs) (_ : H1 = H) : FmtI H n plus r l H1
theorem fs_ct (I : Is g) (R : Room A 6) {v : PV} {n : Int} {plus : Bool} (S0 : Sz v n 0) (hn : n.natAbs < 2 ^ 53) (h : Q (.str (sOf (fsz n plus))) H) : CT g A H (.ref 28) [v, .bool plus] Q := by
  refine' CT.def (n := 5) (ns := [Str.ofString "size", Str.ofString "sign"]) I.ok R (ho := ?ho) (hfd := ?hfd) (hb := ?hb) (hcode := ?hc) (hnames := ?hnm) ?h1 ?h2 ?h3 ?h4 ?h5 ?h6 ?h7 ?h8 ?h9 rfl ?_
  case ho => rw [I.K]; k_is
  case hfd => exact rfl
  case hb => exact rfl
  case hc => rw [I.K]; k_is
  case hnm => exact rfl
  case h1 => exact rfl
  case h2 => exact rfl
  case h3 => exact rfl
  case h4 => exact rfl
  case h5 => exact rfl
  case h6 => exact rfl
  case h7 => (intro s vs hv; obtain ⟨x0, x1, rfl⟩ := len2 hv; exact BindsTo.of_eq rfl)
  case h8 => decide
  case h9 => exact rfl
  intro env A' hE hk hF hR
  dsimp only at hk
  have flen := fsz_len (n := n) (plus := plus) hn
  refine SS.cons (ST.gen fun _ _ => ?_)
  refine ST.forI (fun _ _ => rfl) (FmtI H n plus) (fun _ => True) (IT.tuple hR.hh ?_) ?_ ?_
  · with_reducible refine ET.tuple ?_
    with_reducible refine ETs.cons ?_ ?_
    focus (intro _; exact rfl)
    with_reducible refine ET.str ?_
    with_reducible refine ETs.cons ?_ ?_
    focus (intro _; exact rfl)
    with_reducible refine ET.str ?_
    with_reducible refine ETs.cons ?_ ?_
    focus (intro _; exact rfl)
    with_reducible refine ET.str ?_
    with_reducible refine ETs.cons ?_ ?_
    focus (intro _; exact rfl)
    with_reducible refine ET.str ?_
    with_reducible refine ETs.cons ?_ ?_
    focus (intro _; exact rfl)
    with_reducible refine ET.str ?_
    with_reducible refine ETs.nil ?_
    with_reducible refine szAnd ?_ ?_
    focus exact rfl
    exact ⟨_, rfl, rfl, 0, v, rfl, by ((with_reducible exact parms_at)), by (((with_reducible refine (parms_ne ?_).trans ?_); (focus (exact (by decide))); with_reducible exact parms_at)), S0, by decide, Or.inl rfl, rfl⟩
  · rintro v r l H1 ⟨u, w, hr', l1, l2, S, hu, lo, rfl⟩
    obtain ⟨hu, rfl, rfl⟩ := units_drop hr'
    with_reducible refine AT.name (by assumption) ?_ ?_
    focus refine Or.inl ?_; (with_reducible refine KO.at (by assumption) ?_); exact rfl
    with_reducible refine SS.cons (ST.gen fun _ _ => ?_)
    with_reducible refine ST.ite ?_
    refine BT.cut (fun b H' => b = decide (n.natAbs < 100 * 1024 ^ u ∧ u ≠ 0) ∧ H' = H1) ?_ ?_
    · with_reducible refine BT.and ?_
      with_reducible refine BT.cmp ?_ ?_
      focus exact rfl
      with_reducible refine ET.call (Is.ok (by assumption)) ?_ ?_
      focus exact rfl
      with_reducible apply ET.bi (by assumption) (Is.ok (by assumption))
      focus (with_reducible refine KO.at (by assumption) ?_); exact rfl
      focus exact rfl
      focus with_reducible exact gb_abs (by assumption)
      with_reducible refine ⟨_, rfl, ?_, ?_⟩
      focus with_reducible exact ck_abs
      with_reducible refine ETs.cons ?_ ?_
      focus (intro _; exact rfl)
      with_reducible apply ET.var (by assumption)
      focus (with_reducible refine (upd_ne ?_).trans ?_); (focus (first | assumption | exact (by decide))); with_reducible assumption
      focus exact rfl
      with_reducible refine ETs.nil ?_
      refine S.abs fun w1 S1 => ?_
      with_reducible refine ET.int ?_
      refine S1.lt hu (m := 100) rfl ?_
      with_reducible refine TrT.bool ?_
      refine iteC (fun hc => ?_) (fun hc => ?_)
      · with_reducible refine BT.cmp ?_ ?_
        focus exact rfl
        with_reducible apply ET.var (by assumption)
        focus with_reducible exact upd_at _ _ _
        focus exact rfl
        with_reducible refine ET.str ?_
        refine CmpT.neS ?_
        with_reducible refine TrT.bool ?_
        have hc := of_decide_eq_true hc
        exact ⟨by rw [unit_B hu]; simp [hc], rfl⟩
      · have hc := of_decide_eq_false hc
        exact ⟨by simp [hc], rfl⟩
    rintro b H2 ⟨rfl, rfl⟩
    refine iteC (fun hc => ?_) (fun hc => ?_)
    · have hc := of_decide_eq_true hc
      have hf := fsz1 (plus := plus) hu hc.2 lo hc.1
      with_reducible refine SS.cons (ST.gen fun _ _ => ?_)
      with_reducible refine ST.ite ?_
      with_reducible refine BT.val ?_ ?_
      focus (intro _ _; exact rfl)
      with_reducible apply ET.var (by assumption)
      focus (with_reducible refine (upd_ne ?_).trans ?_); (focus (first | assumption | exact (by decide))); with_reducible assumption
      focus exact rfl
      with_reducible refine TrT.bool ?_
      refine iteC (fun hp => ?_) (fun hp => ?_)
      · subst hp
        with_reducible refine SS.cons (ST.gen fun _ _ => ?_)
        with_reducible refine ST.ret ?_
        with_reducible refine ET.binop ?_
        with_reducible refine ET.str ?_
        with_reducible refine ET.tuple ?_
        with_reducible refine ETs.cons ?_ ?_
        focus (intro _; exact rfl)
        with_reducible apply ET.var (by assumption)
        focus (with_reducible refine (upd_ne ?_).trans ?_); (focus (first | assumption | exact (by decide))); with_reducible assumption
        focus exact rfl
        with_reducible refine ETs.cons ?_ ?_
        focus (intro _; exact rfl)
        with_reducible apply ET.var (by assumption)
        focus with_reducible exact upd_at _ _ _
        focus exact rfl
        with_reducible refine ETs.nil ?_
        with_reducible refine szAnd ?_ ?_
        focus exact rfl
        refine BinT.pct [.f true 1, .lit [32], .s] (by decide +kernel) (by decide) (S.rd1 (by omega) hu hf.1 (.lit (.str .nil))) (by rw [hf.2]; omega) ?_
        rw [hf.2]
        with_reducible refine GK.use (by assumption) ?_
        with_reducible refine GK.use (by assumption) ?_
        with_reducible refine GK.use (by assumption) ?_
        with_reducible refine GK.use (by assumption) ?_
        exact h
      · subst hp
        with_reducible refine SS.cons (ST.gen fun _ _ => ?_)
        with_reducible refine ST.ret ?_
        with_reducible refine ET.binop ?_
        with_reducible refine ET.str ?_
        with_reducible refine ET.tuple ?_
        with_reducible refine ETs.cons ?_ ?_
        focus (intro _; exact rfl)
        with_reducible apply ET.var (by assumption)
        focus (with_reducible refine (upd_ne ?_).trans ?_); (focus (first | assumption | exact (by decide))); with_reducible assumption
        focus exact rfl
        with_reducible refine ETs.cons ?_ ?_
        focus (intro _; exact rfl)
        with_reducible apply ET.var (by assumption)
        focus with_reducible exact upd_at _ _ _
        focus exact rfl
        with_reducible refine ETs.nil ?_
        with_reducible refine szAnd ?_ ?_
        focus exact rfl
        refine BinT.pct [.f false 1, .lit [32], .s] (by decide +kernel) (by decide) (S.rd1 (by omega) hu hf.1 (.lit (.str .nil))) (by rw [hf.2]; omega) ?_
        rw [hf.2]
        with_reducible refine GK.use (by assumption) ?_
        with_reducible refine GK.use (by assumption) ?_
        with_reducible refine GK.use (by assumption) ?_
        with_reducible refine GK.use (by assumption) ?_
        exact h
    · have hc := of_decide_eq_false hc
      with_reducible refine SS.nil ?_
      with_reducible refine GK.use (by assumption) ?_
      with_reducible refine SS.cons (ST.gen fun _ _ => ?_)
      with_reducible refine ST.ite ?_
      refine BT.cut (fun b H' => b = decide (u = 4 ∨ n.natAbs < 10240 * 1024 ^ u) ∧ H' = H2) ?_ ?_
      · with_reducible refine BT.or ?_
        with_reducible refine BT.cmp ?_ ?_
        focus exact rfl
        with_reducible refine ET.call (Is.ok (by assumption)) ?_ ?_
        focus exact rfl
        with_reducible apply ET.bi (by assumption) (Is.ok (by assumption))
        focus (with_reducible refine KO.at (by assumption) ?_); exact rfl
        focus exact rfl
        focus with_reducible exact gb_abs (by assumption)
        with_reducible refine ⟨_, rfl, ?_, ?_⟩
        focus with_reducible exact ck_abs
        with_reducible refine ETs.cons ?_ ?_
        focus (intro _; exact rfl)
        with_reducible apply ET.var (by assumption)
        focus (with_reducible refine (upd_ne ?_).trans ?_); (focus (first | assumption | exact (by decide))); with_reducible assumption
        focus exact rfl
        with_reducible refine ETs.nil ?_
        refine S.abs fun w1 S1 => ?_
        with_reducible refine ET.binop ?_
        with_reducible refine ET.int ?_
        with_reducible refine ET.int ?_
        refine BinT.mul (.of_right (by decide)) ?_
        refine S1.lt hu (m := 10240) rfl ?_
        with_reducible refine TrT.bool ?_
        refine iteC (fun hc => ?_) (fun hc => ?_)
        · have hc := of_decide_eq_true hc
          exact ⟨by simp [hc], rfl⟩
        · with_reducible refine BT.cmp ?_ ?_
          focus exact rfl
          with_reducible apply ET.var (by assumption)
          focus with_reducible exact upd_at _ _ _
          focus exact rfl
          with_reducible refine ET.str ?_
          refine CmpT.eqS ?_
          with_reducible refine TrT.bool ?_
          have hc := of_decide_eq_false hc
          exact ⟨by rw [unit_T hu]; simp [hc], rfl⟩
      rintro b H3 ⟨rfl, rfl⟩
      refine iteC (fun hi => ?_) (fun hi => ?_)
      · have hi := of_decide_eq_true hi
        have hf := fsz0 (plus := plus) hu lo hc hi
        with_reducible refine SS.cons (ST.gen fun _ _ => ?_)
        with_reducible refine ST.ite ?_
        with_reducible refine BT.val ?_ ?_
        focus (intro _ _; exact rfl)
        with_reducible apply ET.var (by assumption)
        focus (with_reducible refine (upd_ne ?_).trans ?_); (focus (first | assumption | exact (by decide))); with_reducible assumption
        focus exact rfl
        with_reducible refine TrT.bool ?_
        refine iteC (fun hp => ?_) (fun hp => ?_)
        · subst hp
          with_reducible refine SS.cons (ST.gen fun _ _ => ?_)
          with_reducible refine ST.ret ?_
          with_reducible refine ET.binop ?_
          with_reducible refine ET.str ?_
          with_reducible refine ET.tuple ?_
          with_reducible refine ETs.cons ?_ ?_
          focus (intro _; exact rfl)
          with_reducible apply ET.var (by assumption)
          focus (with_reducible refine (upd_ne ?_).trans ?_); (focus (first | assumption | exact (by decide))); with_reducible assumption
          focus exact rfl
          with_reducible refine ETs.cons ?_ ?_
          focus (intro _; exact rfl)
          with_reducible apply ET.var (by assumption)
          focus with_reducible exact upd_at _ _ _
          focus exact rfl
          with_reducible refine ETs.nil ?_
          with_reducible refine szAnd ?_ ?_
          focus exact rfl
          refine BinT.pct [.f true 0, .lit [32], .s] (by decide +kernel) (by decide) (S.rd0 hn hu (.lit (.str .nil))) (by rw [hf]; omega) ?_
          rw [hf]
          with_reducible refine GK.use (by assumption) ?_
          with_reducible refine GK.use (by assumption) ?_
          with_reducible refine GK.use (by assumption) ?_
          with_reducible refine GK.use (by assumption) ?_
          exact h
        · subst hp
          with_reducible refine SS.cons (ST.gen fun _ _ => ?_)
          with_reducible refine ST.ret ?_
          with_reducible refine ET.binop ?_
          with_reducible refine ET.str ?_
          with_reducible refine ET.tuple ?_
          with_reducible refine ETs.cons ?_ ?_
          focus (intro _; exact rfl)
          with_reducible apply ET.var (by assumption)
          focus (with_reducible refine (upd_ne ?_).trans ?_); (focus (first | assumption | exact (by decide))); with_reducible assumption
          focus exact rfl
          with_reducible refine ETs.cons ?_ ?_
          focus (intro _; exact rfl)
          with_reducible apply ET.var (by assumption)
          focus with_reducible exact upd_at _ _ _
          focus exact rfl
          with_reducible refine ETs.nil ?_
          with_reducible refine szAnd ?_ ?_
          focus exact rfl
          refine BinT.pct [.f false 0, .lit [32], .s] (by decide +kernel) (by decide) (S.rd0 hn hu (.lit (.str .nil))) (by rw [hf]; omega) ?_
          rw [hf]
          with_reducible refine GK.use (by assumption) ?_
          with_reducible refine GK.use (by assumption) ?_
          with_reducible refine GK.use (by assumption) ?_
          with_reducible refine GK.use (by assumption) ?_
          exact h
      · have hi := of_decide_eq_false hi
        have hn0 : n ≠ 0 := fun z => by
          subst z
          have : 0 < 10240 * 1024 ^ u := Nat.mul_pos (by decide) (Nat.pow_pos (by decide))
          simp at hi
        with_reducible refine SS.nil ?_
        with_reducible refine GK.use (by assumption) ?_
        with_reducible refine SS.cons (ST.gen fun _ _ => ?_)
        with_reducible apply ST.aug (by assumption)
        focus refine Or.inl ?_; (with_reducible refine KO.at (by assumption) ?_); exact rfl
        focus (with_reducible refine (upd_ne ?_).trans ?_); (focus (first | assumption | exact (by decide))); with_reducible assumption
        with_reducible refine ET.int ?_
        refine S.div hR hn hn0 (by omega) fun w' S' => ?_
        with_reducible refine GK.use (by assumption) ?_
        with_reducible refine SS.nil ?_
        exact ⟨trivial, u + 1, w', rfl, by ((with_reducible exact upd_at _ _ _)), by (((with_reducible refine (upd_ne ?_).trans ?_); (focus (first | assumption | exact (by decide))); (with_reducible refine (upd_ne ?_).trans ?_); (focus (first | assumption | exact (by decide))); with_reducible assumption)), S', by omega, Or.inr (by simp; omega), rfl⟩
  · rintro l H1 ⟨u, w, hr', l1, l2, S, hu, lo, rfl⟩
    have := congrArg List.length hr'
    simp [units] at this
    omega
end
end Mine
end
section
open PySem PySem.W PyProof.Rows PySem.Calls PySem.Spec
set_option maxRecDepth 100000
set_option maxHeartbeats 1000000
namespace Mine
section
variable {g : Gd} {A : Around} {H : PH} {Q : PV → PH → Prop}
theorem gl_fs (I : Is g) : nsIn g.K mainGlobals "_format_size" = some (some (.ref 28)) := by rw [I.K]; k_is
theorem ck_28 (I : Is g) : CallK g (.ref 28) := .inr (.inr (by rw [I.K]; k_is))
theorem sl_sd_size (I : Is g) : SlotAt g.K CD "size" 2 := ⟨by rw [I.K]; k_is, by rw [I.K]; k_is, 144, by rw [I.K]; k_is, by rw [I.K]; k_is, by rw [I.K]; k_is, by rw [I.K]; k_is⟩
theorem sl_sd_count (I : Is g) : SlotAt g.K CD "count" 0 := ⟨by rw [I.K]; k_is, by rw [I.K]; k_is, 142, by rw [I.K]; k_is, by rw [I.K]; k_is, by rw [I.K]; k_is, by rw [I.K]; k_is⟩
/-- the line that is told of what is left under 0 -/
noncomputable def lineL (n m : Int) : List Nat := (Str.ofString "0: size=0 B (").cps.toList ++ (fsz n true ++ ((Str.ofString "), count=0 (").cps.toList ++ (sgnL true (decide (m < 0)) (dg m.natAbs) ++ [41])))
theorem sgnL_len {p b : Bool} {ds : List Nat} : (sgnL p b ds).length ≤ ds.length + 1 := by unfold sgnL; cases b <;> cases p <;> simp <;> omega
theorem lineL_len {n m : Int} (hn : n.natAbs < 2 ^ 53) (hm : m.natAbs < 2 ^ 53) : (lineL n m).length ≤ 200 := by
  have h1 := fsz_len (plus := true) hn
  have h2 := sgnL_len (p := true) (b := decide (m < 0)) (ds := dg m.natAbs)
  have h3 := dg_len2 (m := m.natAbs) (k := 20) (by decide) (by omega)
  have h4 : (Str.ofString "0: size=0 B (").cps.toList.length = 13 := by decide +kernel
  have h5 : (Str.ofString "), count=0 (").cps.toList.length = 12 := by decide +kernel
  unfold lineL
  simp only [List.length_append, h4, h5]
  simp
  omega
theorem str_ct (I : Is g) (R : Room A 9) {n m : Int} (hn : n.natAbs < 2 ^ 53) (hm : m.natAbs < 2 ^ 53) (h : Q (.str (sOf (lineL n m))) H) : CT g A H (.ref 123) [sd5 (.int 0) (.int 0) (.int n) (.int 0) (.int m)] Q := by
  have hm2 : m.natAbs.log2 < 1920 := by
    by_cases h0 : m.natAbs = 0
    · rw [h0]; decide
    · exact (Nat.log2_lt h0).mpr (Nat.lt_of_lt_of_le hm (Nat.pow_le_pow_right (by decide) (by decide)))
  refine' CT.def (n := 8) (ns := [Str.ofString "self"]) I.ok R (ho := ?ho) (hfd := ?hfd) (hb := ?hb) (hcode := ?hc) (hnames := ?hnm) ?h1 ?h2 ?h3 ?h4 ?h5 ?h6 ?h7 ?h8 ?h9 rfl ?_
  case ho => rw [I.K]; k_is
  case hfd => exact rfl
  case hb => exact rfl
  case hc => rw [I.K]; k_is
  case hnm => exact rfl
  case h1 => exact rfl
  case h2 => exact rfl
  case h3 => exact rfl
  case h4 => exact rfl
  case h5 => exact rfl
  case h6 => exact rfl
  case h7 => (intro s vs hv; obtain ⟨x0, rfl⟩ := len1 hv; exact BindsTo.of_eq rfl)
  case h8 => decide
  case h9 => exact rfl
  intro env A' hE hk hF hR
  dsimp only at hk
  with_reducible refine SS.cons (ST.gen fun _ _ => ?_)
  with_reducible refine ST.assign (by assumption) ?_ ?_ ?_
  focus refine Or.inl ?_; (with_reducible refine KO.at (by assumption) ?_); exact rfl
  focus exact rfl
  with_reducible refine ET.binop ?_
  with_reducible refine ET.str ?_
  with_reducible refine ET.tuple ?_
  with_reducible refine ETs.cons ?_ ?_
  focus (intro _; exact rfl)
  with_reducible refine ET.attr (Is.ok (by assumption)) ?_ ?_
  focus (intro _; exact rfl)
  with_reducible apply ET.var (by assumption)
  focus with_reducible exact parms_at
  focus exact rfl
  with_reducible apply attrK
  focus with_reducible exact sl_sd_tb (by assumption)
  focus exact rfl
  focus exact rfl
  with_reducible refine ETs.cons ?_ ?_
  focus (intro _; exact rfl)
  with_reducible refine ET.call (Is.ok (by assumption)) ?_ ?_
  focus exact rfl
  with_reducible apply ET.glob (by assumption) (Is.ok (by assumption))
  focus (with_reducible refine KO.at (by assumption) ?_); exact rfl
  focus exact rfl
  focus with_reducible exact gl_fs (by assumption)
  with_reducible refine ⟨_, rfl, ?_, ?_⟩
  focus with_reducible exact ck_28 (by assumption)
  with_reducible refine ETs.cons ?_ ?_
  focus (intro _; exact rfl)
  with_reducible refine ET.attr (Is.ok (by assumption)) ?_ ?_
  focus (intro _; exact rfl)
  with_reducible apply ET.var (by assumption)
  focus with_reducible exact parms_at
  focus exact rfl
  with_reducible apply attrK
  focus with_reducible exact sl_sd_size (by assumption)
  focus exact rfl
  focus exact rfl
  with_reducible refine ETs.cons ?_ ?_
  focus (intro _; exact rfl)
  with_reducible refine ET.bool ?_
  with_reducible refine ETs.nil ?_
  refine fs_ct I (hR.le (by decide)) .int (by decide) ?_
  with_reducible refine ETs.cons ?_ ?_
  focus (intro _; exact rfl)
  with_reducible refine ET.call (Is.ok (by assumption)) ?_ ?_
  focus exact rfl
  with_reducible apply ET.glob (by assumption) (Is.ok (by assumption))
  focus (with_reducible refine KO.at (by assumption) ?_); exact rfl
  focus exact rfl
  focus with_reducible exact gl_fs (by assumption)
  with_reducible refine ⟨_, rfl, ?_, ?_⟩
  focus with_reducible exact ck_28 (by assumption)
  with_reducible refine ETs.cons ?_ ?_
  focus (intro _; exact rfl)
  with_reducible refine ET.attr (Is.ok (by assumption)) ?_ ?_
  focus (intro _; exact rfl)
  with_reducible apply ET.var (by assumption)
  focus with_reducible exact parms_at
  focus exact rfl
  with_reducible apply attrK
  focus with_reducible exact sl_sd_sized (by assumption)
  focus exact rfl
  focus exact rfl
  with_reducible refine ETs.cons ?_ ?_
  focus (intro _; exact rfl)
  with_reducible refine ET.bool ?_
  with_reducible refine ETs.nil ?_
  refine fs_ct I (hR.le (by decide)) .int hn ?_
  with_reducible refine ETs.cons ?_ ?_
  focus (intro _; exact rfl)
  with_reducible refine ET.attr (Is.ok (by assumption)) ?_ ?_
  focus (intro _; exact rfl)
  with_reducible apply ET.var (by assumption)
  focus with_reducible exact parms_at
  focus exact rfl
  with_reducible apply attrK
  focus with_reducible exact sl_sd_count (by assumption)
  focus exact rfl
  focus exact rfl
  with_reducible refine ETs.cons ?_ ?_
  focus (intro _; exact rfl)
  with_reducible refine ET.attr (Is.ok (by assumption)) ?_ ?_
  focus (intro _; exact rfl)
  with_reducible apply ET.var (by assumption)
  focus with_reducible exact parms_at
  focus exact rfl
  with_reducible apply attrK
  focus with_reducible exact sl_sd_countd (by assumption)
  focus exact rfl
  focus exact rfl
  with_reducible refine ETs.nil ?_
  with_reducible refine szAnd ?_ ?_
  focus exact rfl
  have hl := lineL_len hn hm
  have hout : (Str.ofString (toString (0 : Int))).cps.toList ++ ((Str.ofString ": size=").cps.toList ++ ((sOf (fsz 0 false)).cps.toList ++ ((Str.ofString " (").cps.toList ++ ((sOf (fsz n true)).cps.toList ++ ((Str.ofString "), count=").cps.toList ++ (sgnL false (decide ((0 : Int) < 0)) (dg (0 : Int).natAbs) ++ ((Str.ofString " (").cps.toList ++ (sgnL true (decide (m < 0)) (dg m.natAbs) ++ ([41] ++ []))))))))) = lineL n m := by
    have e1 : ∀ l : List Nat, (sOf l).cps.toList = l := fun l => by simp [sOf]
    have e2 : (Str.ofString (toString (0 : Int))).cps.toList ++ ((Str.ofString ": size=").cps.toList ++ (fsz 0 false ++ (Str.ofString " (").cps.toList)) = (Str.ofString "0: size=0 B (").cps.toList := by decide +kernel
    have e3 : (Str.ofString "), count=").cps.toList ++ (sgnL false (decide ((0 : Int) < 0)) (dg (0 : Int).natAbs) ++ (Str.ofString " (").cps.toList) = (Str.ofString "), count=0 (").cps.toList := by decide +kernel
    unfold lineL
    rw [e1, e1, ← e2, ← e3]
    simp only [List.append_assoc, List.append_nil]
  refine BinT.pct [.s, .lit (Str.ofString ": size=").cps.toList, .s, .lit (Str.ofString " (").cps.toList, .s, .lit (Str.ofString "), count=").cps.toList, .d 105, .lit (Str.ofString " (").cps.toList, .ip, .lit [41]] (by decide +kernel) (by decide +kernel)
    (.sint (by decide) (.lit (.str (.lit (.str (.lit (.int (by decide) (.lit (.intp hm2 (.lit .nil)))))))))) (by rw [hout]; omega) ?_
  rw [hout]
  with_reducible refine GK.use (by assumption) ?_
  with_reducible refine SS.cons (ST.gen fun _ _ => ?_)
  with_reducible refine ST.ite ?_
  with_reducible refine BT.val ?_ ?_
  focus (intro _ _; exact rfl)
  with_reducible refine ET.attr (Is.ok (by assumption)) ?_ ?_
  focus (intro _; exact rfl)
  with_reducible apply ET.var (by assumption)
  focus (with_reducible refine (upd_ne ?_).trans ?_); (focus (first | assumption | exact (by decide))); with_reducible exact parms_at
  focus exact rfl
  with_reducible apply attrK
  focus with_reducible exact sl_sd_count (by assumption)
  focus exact rfl
  focus exact rfl
  with_reducible refine TrT.int ?_
  refine iteC (fun hc => absurd hc (by decide)) (fun _ => ?_)
  with_reducible refine SS.nil ?_
  with_reducible refine GK.use (by assumption) ?_
  with_reducible refine SS.cons (ST.gen fun _ _ => ?_)
  with_reducible refine ST.ret ?_
  with_reducible apply ET.var (by assumption)
  focus with_reducible exact upd_at _ _ _
  focus exact rfl
  with_reducible refine GK.use (by assumption) ?_
  exact h
theorem strI_ct (I : Is g) (R : Room A 11) {n m : Int} (hn : n.natAbs < 2 ^ 53) (hm : m.natAbs < 2 ^ 53) (h : Q (.str (sOf (lineL n m))) H) : CT g A H (.type "str") [sd5 (.int 0) (.int 0) (.int n) (.int 0) (.int m)] Q :=
  CT.strI (n := 9) (f := 123) I.ok R (by rw [I.K]; k_is) (by rw [I.K]; k_is) (fun o h1 h2 => by unfold notCls; rw [h1]) (str_ct I R.in1.in1 hn hm ⟨_, rfl, h⟩)
end
end Mine
end
section
open PySem PySem.W PyProof.Rows PySem.Calls PySem.Spec
set_option maxRecDepth 100000
set_option maxHeartbeats 1000000
namespace Mine
section
variable {g : Gd} {A : Around} {H : PH} {Q : PV → PH → Prop}
theorem gb_divmod (I : Is g) : GB g "divmod" (.builtin "divmod") := ⟨by rw [I.K]; k_is, by decide, rfl⟩
theorem ck_divmod : CallK g (.builtin "divmod") := .inl ⟨_, rfl⟩
theorem absN (n : Int) : (if n < 0 then -n else n) = (n.natAbs : Int) := by omega
theorem fdivN (a b : Nat) : Int.fdiv (a : Int) (b : Int) = ((a / b : Nat) : Int) := by rw [Int.fdiv_eq_ediv_of_nonneg _ (by omega)]; simp
theorem fmodN (a b : Nat) : Int.fmod (a : Int) (b : Int) = ((a % b : Nat) : Int) := by rw [Int.fmod_eq_emod_of_nonneg _ (by omega)]; simp
theorem fdiv10 (a : Nat) : Int.fdiv (a : Int) 10 = ((a / 10 : Nat) : Int) := fdivN a 10
theorem fmod10 (a : Nat) : Int.fmod (a : Int) 10 = ((a % 10 : Nat) : Int) := fmodN a 10
theorem fmod2 (a : Nat) : Int.fmod (a : Int) 2 = ((a % 2 : Nat) : Int) := fmodN a 2
theorem powN (u : Nat) : (1024 : Int) ^ ((u : Int).toNat) = ((1024 ^ u : Nat) : Int) := by simp
inductive LszW (H : PH) (n : Int) (k : Nat) (l : PL) (H1 : PH) : Prop where
  | mk (u : Nat) (_ : k = 4 - u) (_ : l (Str.ofString "size") = some (.int n)) (_ : l (Str.ofString "unit") = some (.int u)) (_ : u ≤ 4) (_ : u = 0 ∨ 10240 * 1024 ^ (u - 1) ≤ n.natAbs) (_ : H1 = H) : LszW H n k l H1
inductive LszM (H : PH) (n : Int) (l : PL) (H1 : PH) : Prop where
  | mk (u : Nat) (_ : l (Str.ofString "size") = some (.int n)) (_ : l (Str.ofString "unit") = some (.int u)) (_ : u = unitOf n.natAbs) (_ : u ≤ 4) (_ : H1 = H) : LszM H n l H1
inductive LszF (H : PH) (n : Int) (u : Nat) (p : Bool) (c : Nat) (l : PL) (H1 : PH) : Prop where
  | mk (_ : l (Str.ofString "size") = some (.int n)) (_ : l (Str.ofString "unit") = some (.int u)) (_ : l (Str.ofString "point") = some (.bool p)) (_ : l (Str.ofString "figures") = some (.int c)) (_ : H1 = H) : LszF H n u p c l H1
theorem addL_sOf {a b : List Nat} (ha : a.length ≤ 1000) (hb : b.length ≤ 1000) (h : Q (.str (sOf (a ++ b))) H) : BinT g A H .Add (.str (sOf a)) (.str (sOf b)) Q :=
  BinT.addS (by rw [sOf_len, sOf_len]; unfold sizeLine; omega) (by rw [sOf_app]; exact h)
theorem sgnN (m : Nat) : sgnL false (decide ((m : Int) < 0)) (dg (m : Int).natAbs) = dg m := by rw [show decide ((m : Int) < 0) = false from decide_eq_false (by omega), Int.natAbs_natCast]; rfl
theorem lsz_ct (I : Is g) (R : Room A 6) {n : Int} (hn : n.natAbs < 2 ^ 53) (h : ∀ H', Ext H H' → Q (.str (sOf (fsz n true))) H') : CT g A H (.ref 200) [.int n] Q := by
  refine' CT.def (n := 5) (ns := [Str.ofString "size"]) I.ok R (ho := ?ho) (hfd := ?hfd) (hb := ?hb) (hcode := ?hc) (hnames := ?hnm) ?h1 ?h2 ?h3 ?h4 ?h5 ?h6 ?h7 ?h8 ?h9 rfl ?_
  case ho => rw [I.K]; k_is
  case hfd => exact rfl
  case hb => exact rfl
  case hc => rw [I.K]; k_is
  case hnm => exact rfl
  case h1 => exact rfl
  case h2 => exact rfl
  case h3 => exact rfl
  case h4 => exact rfl
  case h5 => exact rfl
  case h6 => exact rfl
  case h7 => (intro s vs hv; obtain ⟨x0, rfl⟩ := len1 hv; exact BindsTo.of_eq rfl)
  case h8 => decide
  case h9 => exact rfl
  intro env A' hE hk hF hR
  dsimp only at hk
  with_reducible refine SS.cons (ST.gen fun _ _ => ?_)
  with_reducible refine ST.assign (by assumption) ?_ ?_ ?_
  focus refine Or.inl ?_; (with_reducible refine KO.at (by assumption) ?_); exact rfl
  focus exact rfl
  with_reducible refine ET.int ?_
  with_reducible refine GK.use (by assumption) ?_
  with_reducible refine SS.cons (ST.gen fun _ _ => ?_)
  refine ST.cut (LszM H n) ?_ ?_
  · refine ST.while (LszW H n) ?_ 4 ⟨0, rfl, by (((with_reducible refine (upd_ne ?_).trans ?_); (focus (first | assumption | exact (by decide))); with_reducible exact parms_at)), (by rw [show ((0 : Nat) : Int) = 0 from rfl]; ((with_reducible exact upd_at _ _ _))), by decide, Or.inl rfl, rfl⟩
    rintro k l H1 ⟨u, rfl, l1, l2, hu, lo, rfl⟩
    refine BT.cut (fun b H' => b = decide (u < 4 ∧ 10240 * 1024 ^ u ≤ n.natAbs) ∧ H' = H1) ?_ ?_
    · with_reducible refine BT.and ?_
      with_reducible refine BT.cmp ?_ ?_
      focus exact rfl
      with_reducible apply ET.var (by assumption)
      focus with_reducible assumption
      focus exact rfl
      with_reducible refine ET.int ?_
      with_reducible refine CmpT.ltI ?_
      with_reducible refine TrT.bool ?_
      refine iteC (fun hc => ?_) (fun hc => ?_)
      · have hc := of_decide_eq_true hc
        with_reducible refine BT.cmp ?_ ?_
        focus exact rfl
        with_reducible refine ET.call (Is.ok (by assumption)) ?_ ?_
        focus exact rfl
        with_reducible apply ET.bi (by assumption) (Is.ok (by assumption))
        focus (with_reducible refine KO.at (by assumption) ?_); exact rfl
        focus exact rfl
        focus with_reducible exact gb_abs (by assumption)
        with_reducible refine ⟨_, rfl, ?_, ?_⟩
        focus with_reducible exact ck_abs
        with_reducible refine ETs.cons ?_ ?_
        focus (intro _; exact rfl)
        with_reducible apply ET.var (by assumption)
        focus with_reducible assumption
        focus exact rfl
        with_reducible refine ETs.nil ?_
        refine CT.abs ?_
        rw [absN]
        with_reducible refine ET.binop ?_
        with_reducible refine ET.int ?_
        with_reducible refine ET.binop ?_
        with_reducible refine ET.int ?_
        with_reducible apply ET.var (by assumption)
        focus with_reducible assumption
        focus exact rfl
        refine BinT.pow (by omega) (by omega) (by decide) ?_
        rw [powN]
        refine BinT.mul (.of_left (by decide)) ?_
        with_reducible refine CmpT.geI ?_
        with_reducible refine TrT.bool ?_
        refine ⟨?_, rfl⟩
        have : u < 4 := by omega
        simp only [this, true_and]
        have e : (10240 : Int) * ((1024 ^ u : Nat) : Int) = ((10240 * 1024 ^ u : Nat) : Int) := by rw [Int.natCast_mul]; rfl
        rw [e]
        exact decide_eq_decide.mpr (by omega)
      · have hc := of_decide_eq_false hc
        exact ⟨by have : ¬ u < 4 := by omega
                  simp [this], rfl⟩
    rintro b H2 ⟨rfl, rfl⟩
    refine iteC (fun hc => ?_) (fun hc => ?_)
    · have hc := of_decide_eq_true hc
      with_reducible refine SS.cons (ST.gen fun _ _ => ?_)
      with_reducible apply ST.aug (by assumption)
      focus refine Or.inl ?_; (with_reducible refine KO.at (by assumption) ?_); exact rfl
      focus with_reducible assumption
      with_reducible refine ET.int ?_
      with_reducible refine InpT.add ?_
      with_reducible refine GK.use (by assumption) ?_
      with_reducible refine SS.nil ?_
      exact ⟨4 - (u + 1), by omega, u + 1, rfl, by (((with_reducible refine (upd_ne ?_).trans ?_); (focus (first | assumption | exact (by decide))); with_reducible assumption)), (by rw [show ((u + 1 : Nat) : Int) = (u : Int) + 1 by omega]; ((with_reducible exact upd_at _ _ _))), by omega, Or.inr hc.2, rfl⟩
    · have hc := of_decide_eq_false hc
      with_reducible refine SS.nil ?_
      exact ⟨u, l1, l2, (unitOf_eq hu lo (by omega)).symm, hu, rfl⟩
  rintro l H1 ⟨u, l1, l2, hu, hu4, rfl⟩
  have hW : 0 < 1024 ^ u := Nat.pow_pos (by decide)
  with_reducible refine GK.use (by assumption) ?_
  with_reducible refine SS.cons (ST.gen fun _ _ => ?_)
  with_reducible refine ST.assign (by assumption) ?_ ?_ ?_
  focus refine Or.inl ?_; (with_reducible refine KO.at (by assumption) ?_); exact rfl
  focus exact rfl
  with_reducible refine ET.binop ?_
  with_reducible refine ET.int ?_
  with_reducible apply ET.var (by assumption)
  focus with_reducible assumption
  focus exact rfl
  refine BinT.pow (by omega) (by omega) (by decide) ?_
  rw [powN]
  generalize hWW : 1024 ^ u = W at *
  with_reducible refine GK.use (by assumption) ?_
  with_reducible refine SS.cons (ST.gen fun _ _ => ?_)
  with_reducible refine ST.assign (by assumption) ?_ ?_ ?_
  focus refine Or.inl ?_; (with_reducible refine KO.at (by assumption) ?_); exact rfl
  focus exact rfl
  refine ET.cut (fun v H' => v = .bool (decide (u ≠ 0 ∧ n.natAbs < 100 * W)) ∧ H' = H1) ?_ ?_
  · refine ET.and ?_
    with_reducible refine ET.cmp ?_ ?_
    focus exact rfl
    with_reducible apply ET.var (by assumption)
    focus (with_reducible refine (upd_ne ?_).trans ?_); (focus (first | assumption | exact (by decide))); with_reducible assumption
    focus exact rfl
    with_reducible refine ET.int ?_
    with_reducible refine CmpT.gtI ?_
    with_reducible refine TrT.bool ?_
    refine iteC (fun hc => ?_) (fun hc => ?_)
    · have hc := of_decide_eq_true hc
      with_reducible refine ET.cmp ?_ ?_
      focus exact rfl
      with_reducible refine ET.call (Is.ok (by assumption)) ?_ ?_
      focus exact rfl
      with_reducible apply ET.bi (by assumption) (Is.ok (by assumption))
      focus (with_reducible refine KO.at (by assumption) ?_); exact rfl
      focus exact rfl
      focus with_reducible exact gb_abs (by assumption)
      with_reducible refine ⟨_, rfl, ?_, ?_⟩
      focus with_reducible exact ck_abs
      with_reducible refine ETs.cons ?_ ?_
      focus (intro _; exact rfl)
      with_reducible apply ET.var (by assumption)
      focus (with_reducible refine (upd_ne ?_).trans ?_); (focus (first | assumption | exact (by decide))); with_reducible assumption
      focus exact rfl
      with_reducible refine ETs.nil ?_
      refine CT.abs ?_
      rw [absN]
      with_reducible refine ET.binop ?_
      with_reducible refine ET.int ?_
      with_reducible apply ET.var (by assumption)
      focus with_reducible exact upd_at _ _ _
      focus exact rfl
      refine BinT.mul (.of_left (by decide)) ?_
      with_reducible refine CmpT.ltI ?_
      refine ⟨?_, rfl⟩
      have : u ≠ 0 := by omega
      simp only [ne_eq, this, not_false_eq_true, true_and]
      exact congrArg PV.bool (decide_eq_decide.mpr (by omega))
    · have hc := of_decide_eq_false hc
      exact ⟨by rw [show (decide ((u : Int) > 0)) = false from decide_eq_false hc, show decide (u ≠ 0 ∧ n.natAbs < 100 * W) = false from decide_eq_false (by omega)], rfl⟩
  rintro v H2 ⟨rfl, rfl⟩
  generalize hp : decide (u ≠ 0 ∧ n.natAbs < 100 * W) = p at *
  with_reducible refine GK.use (by assumption) ?_
  with_reducible refine SS.cons (ST.gen fun _ _ => ?_)
  refine ST.assignT (fun _ => rfl) (fun _ => rfl) ?_
  with_reducible refine ET.call (Is.ok (by assumption)) ?_ ?_
  focus exact rfl
  with_reducible apply ET.bi (by assumption) (Is.ok (by assumption))
  focus (with_reducible refine KO.at (by assumption) ?_); exact rfl
  focus exact rfl
  focus with_reducible exact gb_divmod (by assumption)
  with_reducible refine ⟨_, rfl, ?_, ?_⟩
  focus with_reducible exact ck_divmod
  with_reducible refine ETs.cons ?_ ?_
  focus (intro _; exact rfl)
  with_reducible refine ET.binop ?_
  with_reducible refine ET.call (Is.ok (by assumption)) ?_ ?_
  focus exact rfl
  with_reducible apply ET.bi (by assumption) (Is.ok (by assumption))
  focus (with_reducible refine KO.at (by assumption) ?_); exact rfl
  focus exact rfl
  focus with_reducible exact gb_abs (by assumption)
  with_reducible refine ⟨_, rfl, ?_, ?_⟩
  focus with_reducible exact ck_abs
  with_reducible refine ETs.cons ?_ ?_
  focus (intro _; exact rfl)
  with_reducible apply ET.var (by assumption)
  focus (with_reducible refine (upd_ne ?_).trans ?_); (focus (first | assumption | exact (by decide))); (with_reducible refine (upd_ne ?_).trans ?_); (focus (first | assumption | exact (by decide))); with_reducible assumption
  focus exact rfl
  with_reducible refine ETs.nil ?_
  refine CT.abs ?_
  rw [absN]
  refine ET.cut (fun v H' => v = .int ((if p then 10 else 1 : Nat) : Int) ∧ H' = H2) ?_ ?_
  · refine ET.ite ?_
    with_reducible refine BT.val ?_ ?_
    focus (intro _ _; exact rfl)
    with_reducible apply ET.var (by assumption)
    focus with_reducible exact upd_at _ _ _
    focus exact rfl
    with_reducible refine TrT.bool ?_
    refine iteC (fun hc => ?_) (fun hc => ?_)
    · subst hc
      with_reducible refine ET.int ?_
      exact ⟨rfl, rfl⟩
    · subst hc
      with_reducible refine ET.int ?_
      exact ⟨rfl, rfl⟩
  rintro v H3 ⟨rfl, rfl⟩
  generalize hm : (if p then 10 else 1 : Nat) = m at *
  have hm10 : m ≤ 10 := by rw [← hm]; split <;> omega
  refine BinT.mul (.of_right (intBits_le (by omega))) ?_
  rw [← Int.natCast_mul]
  with_reducible refine ETs.cons ?_ ?_
  focus (intro _; exact rfl)
  with_reducible apply ET.var (by assumption)
  focus (with_reducible refine (upd_ne ?_).trans ?_); (focus (first | assumption | exact (by decide))); with_reducible exact upd_at _ _ _
  focus exact rfl
  with_reducible refine ETs.nil ?_
  have hW30 : W ≤ 1024 ^ 4 := by rw [← hWW]; exact Nat.pow_le_pow_right (by decide) hu4
  refine CT.divmod (by omega) (PyProof.noPylong_of_log2 (by
    have : ((W : Int).natAbs).log2 < 64 := (Nat.log2_lt (by omega)).mpr (by omega)
    omega)) ?_
  rw [fdivN, fmodN]
  have hhe : Float64.halfEven (n.natAbs * m) W = if (decide (2 * (n.natAbs * m % W) > W) || (2 * (n.natAbs * m % W) == W && n.natAbs * m / W % 2 == 1)) = true then n.natAbs * m / W + 1 else n.natAbs * m / W := by
    unfold Float64.halfEven
    simp
  generalize n.natAbs * m / W = qq at *
  generalize n.natAbs * m % W = rr at *
  with_reducible refine AT.tuple (Room.hh (by assumption)) ?_ ?_ ?_
  focus exact rfl
  focus exact rfl
  with_reducible refine ATs.cons ?_
  with_reducible refine AT.name (by assumption) ?_ ?_
  focus refine Or.inl ?_; (with_reducible refine KO.at (by assumption) ?_); exact rfl
  with_reducible refine ATs.cons ?_
  with_reducible refine AT.name (by assumption) ?_ ?_
  focus refine Or.inl ?_; (with_reducible refine KO.at (by assumption) ?_); exact rfl
  with_reducible refine ATs.nil ?_
  with_reducible refine GK.use (by assumption) ?_
  with_reducible refine SS.cons (ST.gen fun _ _ => ?_)
  refine ST.cut (LszF H3 n u p (Float64.halfEven (n.natAbs * m) W)) ?_ ?_
  · refine ST.ite ?_
    refine BT.cut (fun b H' => b = (decide (2 * rr > W) || (2 * rr == W && qq % 2 == 1)) ∧ H' = H3) ?_ ?_
    · with_reducible refine BT.or ?_
      with_reducible refine BT.cmp ?_ ?_
      focus exact rfl
      with_reducible refine ET.binop ?_
      with_reducible refine ET.int ?_
      with_reducible apply ET.var (by assumption)
      focus with_reducible exact upd_at _ _ _
      focus exact rfl
      refine BinT.mul (.of_left (by decide)) ?_
      with_reducible apply ET.var (by assumption)
      focus (with_reducible refine (upd_ne ?_).trans ?_); (focus (first | assumption | exact (by decide))); (with_reducible refine (upd_ne ?_).trans ?_); (focus (first | assumption | exact (by decide))); (with_reducible refine (upd_ne ?_).trans ?_); (focus (first | assumption | exact (by decide))); with_reducible exact upd_at _ _ _
      focus exact rfl
      with_reducible refine CmpT.gtI ?_
      with_reducible refine TrT.bool ?_
      refine iteC (fun hc => ?_) (fun hc => ?_)
      · have hc := of_decide_eq_true hc
        exact ⟨by rw [show decide (2 * rr > W) = true from decide_eq_true (by omega)]; rfl, rfl⟩
      · have hc := of_decide_eq_false hc
        rw [show decide (2 * rr > W) = false from decide_eq_false (by omega), Bool.false_or]
        with_reducible refine BT.and ?_
        with_reducible refine BT.cmp ?_ ?_
        focus exact rfl
        with_reducible refine ET.binop ?_
        with_reducible refine ET.int ?_
        with_reducible apply ET.var (by assumption)
        focus with_reducible exact upd_at _ _ _
        focus exact rfl
        refine BinT.mul (.of_left (by decide)) ?_
        with_reducible apply ET.var (by assumption)
        focus (with_reducible refine (upd_ne ?_).trans ?_); (focus (first | assumption | exact (by decide))); (with_reducible refine (upd_ne ?_).trans ?_); (focus (first | assumption | exact (by decide))); (with_reducible refine (upd_ne ?_).trans ?_); (focus (first | assumption | exact (by decide))); with_reducible exact upd_at _ _ _
        focus exact rfl
        with_reducible refine CmpT.eqI ?_
        with_reducible refine TrT.bool ?_
        refine iteC (fun hd => ?_) (fun hd => ?_)
        · have hd : (2 * rr == W) = true := by simp at hd ⊢; omega
          rw [hd, Bool.true_and]
          with_reducible refine BT.cmp ?_ ?_
          focus exact rfl
          with_reducible refine ET.binop ?_
          with_reducible apply ET.var (by assumption)
          focus (with_reducible refine (upd_ne ?_).trans ?_); (focus (first | assumption | exact (by decide))); with_reducible exact upd_at _ _ _
          focus exact rfl
          with_reducible refine ET.int ?_
          refine BinT.mod (by decide) ?_
          rw [fmod2]
          with_reducible refine ET.int ?_
          with_reducible refine CmpT.eqI ?_
          with_reducible refine TrT.bool ?_
          refine ⟨?_, rfl⟩
          rw [Bool.eq_iff_iff]
          simp
          omega
        · have hd : (2 * rr == W) = false := by simp at hd ⊢; omega
          rw [hd, Bool.false_and]
          exact ⟨rfl, rfl⟩
    rintro b H4 ⟨rfl, rfl⟩
    refine iteC (fun hc => ?_) (fun hc => ?_)
    · rw [if_pos hc] at hhe
      with_reducible refine SS.cons (ST.gen fun _ _ => ?_)
      with_reducible apply ST.aug (by assumption)
      focus refine Or.inl ?_; (with_reducible refine KO.at (by assumption) ?_); exact rfl
      focus (with_reducible refine (upd_ne ?_).trans ?_); (focus (first | assumption | exact (by decide))); with_reducible exact upd_at _ _ _
      with_reducible refine ET.int ?_
      with_reducible refine InpT.add ?_
      with_reducible refine GK.use (by assumption) ?_
      with_reducible refine SS.nil ?_
      exact ⟨by (((with_reducible refine (upd_ne ?_).trans ?_); (focus (first | assumption | exact (by decide))); (with_reducible refine (upd_ne ?_).trans ?_); (focus (first | assumption | exact (by decide))); (with_reducible refine (upd_ne ?_).trans ?_); (focus (first | assumption | exact (by decide))); (with_reducible refine (upd_ne ?_).trans ?_); (focus (first | assumption | exact (by decide))); (with_reducible refine (upd_ne ?_).trans ?_); (focus (first | assumption | exact (by decide))); with_reducible assumption)), by (((with_reducible refine (upd_ne ?_).trans ?_); (focus (first | assumption | exact (by decide))); (with_reducible refine (upd_ne ?_).trans ?_); (focus (first | assumption | exact (by decide))); (with_reducible refine (upd_ne ?_).trans ?_); (focus (first | assumption | exact (by decide))); (with_reducible refine (upd_ne ?_).trans ?_); (focus (first | assumption | exact (by decide))); (with_reducible refine (upd_ne ?_).trans ?_); (focus (first | assumption | exact (by decide))); with_reducible assumption)), by (((with_reducible refine (upd_ne ?_).trans ?_); (focus (first | assumption | exact (by decide))); (with_reducible refine (upd_ne ?_).trans ?_); (focus (first | assumption | exact (by decide))); (with_reducible refine (upd_ne ?_).trans ?_); (focus (first | assumption | exact (by decide))); with_reducible exact upd_at _ _ _)), (by rw [hhe, show ((qq + 1 : Nat) : Int) = (qq : Int) + 1 by omega]; ((with_reducible exact upd_at _ _ _))), rfl⟩
    · rw [hc, if_neg (by decide)] at hhe
      with_reducible refine SS.nil ?_
      exact ⟨by (((with_reducible refine (upd_ne ?_).trans ?_); (focus (first | assumption | exact (by decide))); (with_reducible refine (upd_ne ?_).trans ?_); (focus (first | assumption | exact (by decide))); (with_reducible refine (upd_ne ?_).trans ?_); (focus (first | assumption | exact (by decide))); (with_reducible refine (upd_ne ?_).trans ?_); (focus (first | assumption | exact (by decide))); with_reducible assumption)), by (((with_reducible refine (upd_ne ?_).trans ?_); (focus (first | assumption | exact (by decide))); (with_reducible refine (upd_ne ?_).trans ?_); (focus (first | assumption | exact (by decide))); (with_reducible refine (upd_ne ?_).trans ?_); (focus (first | assumption | exact (by decide))); (with_reducible refine (upd_ne ?_).trans ?_); (focus (first | assumption | exact (by decide))); with_reducible assumption)), by (((with_reducible refine (upd_ne ?_).trans ?_); (focus (first | assumption | exact (by decide))); (with_reducible refine (upd_ne ?_).trans ?_); (focus (first | assumption | exact (by decide))); with_reducible exact upd_at _ _ _)), (by rw [hhe]; (((with_reducible refine (upd_ne ?_).trans ?_); (focus (first | assumption | exact (by decide))); with_reducible exact upd_at _ _ _))), rfl⟩
  rintro l2 H4 ⟨l3, l4, l5, l6, rfl⟩
  generalize hcc : Float64.halfEven (n.natAbs * m) W = c at *
  have hcb : c ≤ n.natAbs * 10 + 1 := by
    have h1 := he_le (a := n.natAbs * m) (b := W) (by omega)
    have h2 : n.natAbs * m ≤ n.natAbs * 10 := Nat.mul_le_mul_left _ hm10
    omega
  have hl1 := dg_len2 (m := c) (k := 20) (by decide) (by omega)
  have hl2 := dg_len2 (m := c / 10) (k := 20) (by decide) (by omega)
  have hl3 := dg_len2 (m := c % 10) (k := 20) (by decide) (by omega)
  have lg : ∀ x : Nat, x ≤ c → ((x : Int)).natAbs.log2 < 1920 := fun x hx => by
    by_cases h0 : x = 0
    · subst h0; decide
    · refine (Nat.log2_lt (by omega)).mpr (Nat.lt_of_lt_of_le (show ((x : Int)).natAbs < 2 ^ 60 by omega) (Nat.pow_le_pow_right (by decide) (by decide)))
  with_reducible refine GK.use (by assumption) ?_
  with_reducible refine SS.cons (ST.gen fun _ _ => ?_)
  with_reducible refine ST.assign (by assumption) ?_ ?_ ?_
  focus refine Or.inl ?_; (with_reducible refine KO.at (by assumption) ?_); exact rfl
  focus exact rfl
  refine ET.cut (fun v H' => v = .str (sOf (if p then dg (c / 10) ++ 46 :: dg (c % 10) else dg c)) ∧ H' = H4) ?_ ?_
  · refine ET.ite ?_
    with_reducible refine BT.val ?_ ?_
    focus (intro _ _; exact rfl)
    with_reducible apply ET.var (by assumption)
    focus with_reducible assumption
    focus exact rfl
    with_reducible refine TrT.bool ?_
    refine iteC (fun hc => ?_) (fun hc => ?_)
    · subst hc
      with_reducible refine ET.binop ?_
      with_reducible refine ET.str ?_
      with_reducible refine ET.tuple ?_
      with_reducible refine ETs.cons ?_ ?_
      focus (intro _; exact rfl)
      with_reducible refine ET.binop ?_
      with_reducible apply ET.var (by assumption)
      focus with_reducible assumption
      focus exact rfl
      with_reducible refine ET.int ?_
      refine BinT.fdiv (by decide) (PyProof.noPylong_of_log2 (by decide +kernel)) ?_
      rw [fdiv10]
      with_reducible refine ETs.cons ?_ ?_
      focus (intro _; exact rfl)
      with_reducible refine ET.binop ?_
      with_reducible apply ET.var (by assumption)
      focus with_reducible assumption
      focus exact rfl
      with_reducible refine ET.int ?_
      refine BinT.mod (by decide) ?_
      rw [fmod10]
      with_reducible refine ETs.nil ?_
      with_reducible refine szAnd ?_ ?_
      focus exact rfl
      have ho : sgnL false (decide (((c / 10 : Nat) : Int) < 0)) (dg ((c / 10 : Nat) : Int).natAbs) ++ ([46] ++ (sgnL false (decide (((c % 10 : Nat) : Int) < 0)) (dg ((c % 10 : Nat) : Int).natAbs) ++ [])) = dg (c / 10) ++ 46 :: dg (c % 10) := by
        rw [sgnN, sgnN, List.append_nil]; rfl
      refine BinT.pct [.d 100, .lit [46], .d 100] (by decide +kernel) (by decide) (.int (lg _ (Nat.div_le_self _ _)) (.lit (.int (lg _ (Nat.mod_le _ _)) .nil))) (by rw [ho]; simp; omega) ?_
      rw [ho]
      exact ⟨rfl, rfl⟩
    · subst hc
      with_reducible refine ET.binop ?_
      with_reducible refine ET.str ?_
      with_reducible apply ET.var (by assumption)
      focus with_reducible assumption
      focus exact rfl
      have ho : sgnL false (decide ((c : Int) < 0)) (dg (c : Int).natAbs) ++ [] = dg c := by rw [sgnN, List.append_nil]
      refine BinT.pctI [.d 100] (by decide +kernel) (by decide) (lg _ (Nat.le_refl _)) (.int (lg _ (Nat.le_refl _)) .nil) (by rw [ho]; omega) ?_
      rw [ho]
      exact ⟨rfl, rfl⟩
  rintro v H5 ⟨rfl, rfl⟩
  have ht : (if p then dg (c / 10) ++ 46 :: dg (c % 10) else dg c : List Nat).length ≤ 50 := by
    split
    · simp; omega
    · omega
  generalize htx : (if p then dg (c / 10) ++ 46 :: dg (c % 10) else dg c : List Nat) = tx at *
  with_reducible refine GK.use (by assumption) ?_
  with_reducible refine SS.cons (ST.gen fun _ _ => ?_)
  with_reducible refine ST.ret ?_
  with_reducible refine ET.binop ?_
  with_reducible refine ET.binop ?_
  with_reducible refine ET.binop ?_
  refine ET.cut (fun v H' => v = .str (sOf (if n < 0 then [45] else [43])) ∧ H' = H5) ?_ ?_
  · refine ET.ite ?_
    with_reducible refine BT.cmp ?_ ?_
    focus exact rfl
    with_reducible apply ET.var (by assumption)
    focus (with_reducible refine (upd_ne ?_).trans ?_); (focus (first | assumption | exact (by decide))); with_reducible assumption
    focus exact rfl
    with_reducible refine ET.int ?_
    with_reducible refine CmpT.ltI ?_
    with_reducible refine TrT.bool ?_
    refine iteC (fun hc => ?_) (fun hc => ?_)
    · with_reducible refine ET.str ?_
      exact ⟨by rw [if_pos (of_decide_eq_true hc), show sOf [45] = Str.ofString "-" from by decide +kernel], rfl⟩
    · with_reducible refine ET.str ?_
      exact ⟨by rw [if_neg (of_decide_eq_false hc), show sOf [43] = Str.ofString "+" from by decide +kernel], rfl⟩
  rintro v H6 ⟨rfl, rfl⟩
  have hsg : (if n < 0 then [45] else [43] : List Nat).length ≤ 1 := by split <;> simp
  with_reducible apply ET.var (by assumption)
  focus with_reducible exact upd_at _ _ _
  focus exact rfl
  refine addL_sOf (by omega) (by omega) ?_
  with_reducible refine ET.str ?_
  rw [show Str.ofString " " = sOf [32] from by decide +kernel]
  refine addL_sOf (by rw [List.length_append]; omega) (by decide) ?_
  with_reducible refine ET.sub ?_ ?_
  focus nofun
  with_reducible refine ET.list (Is.ok (by assumption)) ?_
  with_reducible refine ETs.cons ?_ ?_
  focus (intro _; exact rfl)
  with_reducible refine ET.str ?_
  with_reducible refine ETs.cons ?_ ?_
  focus (intro _; exact rfl)
  with_reducible refine ET.str ?_
  with_reducible refine ETs.cons ?_ ?_
  focus (intro _; exact rfl)
  with_reducible refine ET.str ?_
  with_reducible refine ETs.cons ?_ ?_
  focus (intro _; exact rfl)
  with_reducible refine ET.str ?_
  with_reducible refine ETs.cons ?_ ?_
  focus (intro _; exact rfl)
  with_reducible refine ET.str ?_
  with_reducible refine ETs.nil ?_
  with_reducible refine szAnd ?_ ?_
  focus exact rfl
  intro D hD
  with_reducible apply ET.var (by assumption)
  focus (with_reducible refine (upd_ne ?_).trans ?_); (focus (first | assumption | exact (by decide))); with_reducible assumption
  focus exact rfl
  refine SubT.list (d := .str (unitS u)) (hup_at _ _ _) (by omega) (by omega) ?_ ?_
  · rw [Int.toNat_natCast]
    have : u = 0 ∨ u = 1 ∨ u = 2 ∨ u = 3 ∨ u = 4 := by omega
    rcases this with z | z | z | z | z <;> rw [z] <;> rfl
  rw [← sOf_cps (unitS u)]
  refine addL_sOf (by simp only [List.length_append, List.length_cons, List.length_nil]; omega) (by have := unitS_len (u := u); omega) ?_
  with_reducible refine GK.use (by assumption) ?_
  have hfig : figs n.natAbs = tx := by
    unfold figs
    rw [← hu, hWW, ← htx]
    cases p with
    | true =>
      have h1 := of_decide_eq_true hp
      have hm' : m = 10 := hm.symm
      rw [hm'] at hcc
      rw [if_pos h1, if_pos rfl, hcc]
    | false =>
      have h1 := of_decide_eq_false hp
      have hm' : m = 1 := hm.symm
      rw [hm', Nat.mul_one] at hcc
      rw [if_neg h1, if_neg (by decide), hcc]
  have hfin : (if n < 0 then [45] else [43] : List Nat) ++ tx ++ [32] ++ (unitS u).cps.toList = fsz n true := by
    unfold fsz sgnL
    rw [hfig, ← hu]
    by_cases hneg : n < 0
    · rw [if_pos hneg, if_pos (decide_eq_true hneg)]; simp
    · rw [if_neg hneg, if_neg (by simp [hneg]), if_pos rfl]; simp
  rw [hfin]
  exact h _ ((Ext.refl _).hup hD)
end
end Mine
end
section
open PySem PySem.W PyProof.Rows PySem.Calls PySem.Spec
set_option maxRecDepth 100000
set_option maxHeartbeats 1000000
namespace Mine
theorem Ext.own {H H1 : PH} {D : Addr} {o : PO} (x : Ext H H1) (hD : H D = none) : Ext H (Mine.hup H1 D o) := fun b po e => by rw [hup_ne (ne_of e hD)]; exact x _ _ e
theorem hup_keep {H : PH} {a D : Addr} {po o : PO} (e : H a = some po) (hD : H D = none) : Mine.hup H D o a = some po := (hup_ne (ne_of e hD)).trans e
section
variable {g : Gd} {A : Around} {H : PH} {Q : PV → PH → Prop}
noncomputable def claimP (c : Claim) : PV := .tuple [.int c.1, .int c.2.1, .int c.2.2.1, .int c.2.2.2]
inductive ClI (H : PH) (C D5 : Addr) (ns : List Int) (r : List PV) (l : PL) (H1 : PH) : Prop where
  | mk (n1 n2 : List Int) (_ : ns = n1 ++ n2) (_ : r = n2.map PV.int) (_ : l (Str.ofString "claims") = some (.ref C)) (_ : H1 C = some (.list ((n1.map claimOf).map claimP))) (_ : Ext H H1) (_ : H1 D5 = some (.list (ns.map PV.int))) (_ : C ≠ D5) : ClI H C D5 ns r l H1
inductive ClS (C : Addr) (b a k p s c : Int) (H0 : PH) (l : PL) (H1 : PH) : Prop where
  | mk (_ : l (Str.ofString "claims") = some (.ref C)) (_ : l (Str.ofString "below") = some (.int b)) (_ : l (Str.ofString "above") = some (.int a)) (_ : l (Str.ofString "kind") = some (.int k)) (_ : l (Str.ofString "part") = some (.int p)) (_ : l (Str.ofString "size") = some (.int s)) (_ : l (Str.ofString "count") = some (.int c)) (_ : H1 = H0) : ClS C b a k p s c H0 l H1
inductive ClM (H : PH) (C : Addr) (ns : List Int) (l : PL) (H1 : PH) : Prop where
  | mk (_ : l (Str.ofString "claims") = some (.ref C)) (_ : H1 C = some (.list ((ns.map claimOf).map claimP))) (_ : Ext H H1) : ClM H C ns l H1
theorem claims_ct (I : Is g) (R : Room A 6) {a : Addr} {sc : List Int} (ha : GList g a sc) (hlen : sc.length ≤ 63)
    (h : ∀ C H', Ext H H' → H' C = some (.list ((claimsOf sc).map claimP)) → Q (.ref C) H') : CT g A H (.ref 176) [.k (.ref a)] Q := by
  refine' CT.def (n := 5) (ns := [Str.ofString "script"]) I.ok R (ho := ?ho) (hfd := ?hfd) (hb := ?hb) (hcode := ?hc) (hnames := ?hnm) ?h1 ?h2 ?h3 ?h4 ?h5 ?h6 ?h7 ?h8 ?h9 rfl ?_
  case ho => rw [I.K]; k_is
  case hfd => exact rfl
  case hb => exact rfl
  case hc => rw [I.K]; k_is
  case hnm => exact rfl
  case h1 => exact rfl
  case h2 => exact rfl
  case h3 => exact rfl
  case h4 => exact rfl
  case h5 => exact rfl
  case h6 => exact rfl
  case h7 => (intro s vs hv; obtain ⟨x0, rfl⟩ := len1 hv; exact BindsTo.of_eq rfl)
  case h8 => decide
  case h9 => exact rfl
  intro env A' hE hk hF hR
  dsimp only at hk
  with_reducible refine SS.cons (ST.gen fun _ _ => ?_)
  with_reducible refine ST.assign (by assumption) ?_ ?_ ?_
  focus refine Or.inl ?_; (with_reducible refine KO.at (by assumption) ?_); exact rfl
  focus exact rfl
  with_reducible refine ET.list (Is.ok (by assumption)) ?_
  with_reducible refine ETs.nil ?_
  with_reducible refine szAnd ?_ ?_
  focus exact rfl
  intro C hC
  with_reducible refine GK.use (by assumption) ?_
  with_reducible refine SS.cons (ST.gen fun _ _ => ?_)
  refine ST.cut (ClM H C (numsOf sc)) ?_ ?_
  · refine ST.for (fun _ _ => rfl) (IT.list hR.hh ?_)
    with_reducible refine ET.binop ?_
    with_reducible refine ET.binop ?_
    with_reducible refine ET.list (Is.ok (by assumption)) ?_
    with_reducible refine ETs.cons ?_ ?_
    focus (intro _; exact rfl)
    with_reducible refine ET.int ?_
    with_reducible refine ETs.cons ?_ ?_
    focus (intro _; exact rfl)
    with_reducible refine ET.int ?_
    with_reducible refine ETs.nil ?_
    with_reducible refine szAnd ?_ ?_
    focus exact rfl
    intro D1 hD1
    refine ET.sliceToG I.ok (fun _ _ => rfl) ?_
    with_reducible apply ET.var (by assumption)
    focus (with_reducible refine (upd_ne ?_).trans ?_); (focus (first | assumption | exact (by decide))); with_reducible exact parms_at
    focus exact rfl
    with_reducible refine ET.int ?_
    refine ⟨a, sc, 5, rfl, rfl, ha, by unfold sizeLine; omega, fun D2 hD2 => ?_⟩
    refine BinT.addL I.ok (hup_keep (hup_at _ _ _) hD2) (hup_at _ _ _) (by simp; unfold sizeLine; omega) fun D3 hD3 => ?_
    with_reducible refine ET.list (Is.ok (by assumption)) ?_
    with_reducible refine ETs.cons ?_ ?_
    focus (intro _; exact rfl)
    with_reducible refine ET.int ?_
    with_reducible refine ETs.cons ?_ ?_
    focus (intro _; exact rfl)
    with_reducible refine ET.int ?_
    with_reducible refine ETs.cons ?_ ?_
    focus (intro _; exact rfl)
    with_reducible refine ET.int ?_
    with_reducible refine ETs.cons ?_ ?_
    focus (intro _; exact rfl)
    with_reducible refine ET.int ?_
    with_reducible refine ETs.cons ?_ ?_
    focus (intro _; exact rfl)
    with_reducible refine ET.int ?_
    with_reducible refine ETs.cons ?_ ?_
    focus (intro _; exact rfl)
    with_reducible refine ET.int ?_
    with_reducible refine ETs.nil ?_
    with_reducible refine szAnd ?_ ?_
    focus exact rfl
    intro D4 hD4
    refine BinT.addL I.ok (hup_keep (hup_at _ _ _) hD4) (hup_at _ _ _) (by simp; unfold sizeLine; omega) fun D5 hD5 => ?_
    have X0 : Ext H (hup H C (.list [])) := (Ext.refl H).hup hC
    have X1 : Ext (hup H C (.list [])) (hup (hup (hup (hup (hup (hup H C (.list [])) D1 (.list [.int 25, .int 16])) D2 (.list ((sc.take 5).map .int))) D3 (.list ([.int 25, .int 16] ++ (sc.take 5).map .int))) D4 (.list [.int 13, .int 1440000001777724, .int 30, .int 23, .int 9, .int 84])) D5 (.list (([.int 25, .int 16] ++ (sc.take 5).map .int) ++ [.int 13, .int 1440000001777724, .int 30, .int 23, .int 9, .int 84]))) :=
      ((((((Ext.refl _).hup hD1).hup hD2).hup hD3).hup hD4).hup hD5)
    have HC0 := X1 _ _ (hup_at H C (.list []))
    have eN : (([PV.int 25, .int 16] ++ (sc.take 5).map PV.int) ++ [.int 13, .int 1440000001777724, .int 30, .int 23, .int 9, .int 84]) = (numsOf sc).map PV.int := by simp [numsOf]
    rw [eN] at HC0 X1 ⊢
    have hCD : C ≠ D5 := fun z => by
      rw [← z] at hD5
      have := hup_keep (hD := hD4) (o := .list [.int 13, .int 1440000001777724, .int 30, .int 23, .int 9, .int 84]) (hup_keep (hD := hD3) (o := .list ([.int 25, .int 16] ++ (sc.take 5).map .int)) (hup_keep (hD := hD2) (o := PO.list ((sc.take 5).map .int)) (hup_keep (hD := hD1) (o := .list [.int 25, .int 16]) (hup_at H C (.list [])))))
      rw [hD5] at this; cases this
    refine ⟨D5, _, rfl, hup_at _ _ _, LoopT.inv (ClI H C D5 (numsOf sc)) ?_ ?_ ⟨[], numsOf sc, rfl, rfl, by ((with_reducible exact upd_at _ _ _)), HC0, X0.trans X1, hup_at _ _ _, hCD⟩⟩
    · rintro v r l H1 ⟨n1, n2, e0, hr', l1, HC, X1, H5, hCD⟩
      cases n2 with
      | nil => cases hr'
      | cons n n2 =>
      injection hr' with hv hr2
      subst hv hr2
      have hl1 : n1.length ≤ 100 := by have := congrArg List.length e0; simp [numsOf] at this; omega
      with_reducible refine AT.name (by assumption) ?_ ?_
      focus refine Or.inl ?_; (with_reducible refine KO.at (by assumption) ?_); exact rfl
      with_reducible refine SS.cons (ST.gen fun _ _ => ?_)
      with_reducible refine ST.assign (by assumption) ?_ ?_ ?_
      focus refine Or.inl ?_; (with_reducible refine KO.at (by assumption) ?_); exact rfl
      focus exact rfl
      with_reducible refine ET.binop ?_
      with_reducible refine ET.binop ?_
      with_reducible apply ET.var (by assumption)
      focus with_reducible exact upd_at _ _ _
      focus exact rfl
      with_reducible refine ET.int ?_
      refine BinT.mod (by decide) ?_
      with_reducible refine ET.int ?_
      with_reducible refine BinT.add ?_
      with_reducible refine GK.use (by assumption) ?_
      with_reducible refine SS.cons (ST.gen fun _ _ => ?_)
      with_reducible refine ST.assign (by assumption) ?_ ?_ ?_
      focus refine Or.inl ?_; (with_reducible refine KO.at (by assumption) ?_); exact rfl
      focus exact rfl
      with_reducible refine ET.binop ?_
      with_reducible refine ET.binop ?_
      with_reducible refine ET.binop ?_
      with_reducible apply ET.var (by assumption)
      focus (with_reducible refine (upd_ne ?_).trans ?_); (focus (first | assumption | exact (by decide))); with_reducible exact upd_at _ _ _
      focus exact rfl
      with_reducible refine ET.int ?_
      refine BinT.fdiv (by decide) (PyProof.noPylong_of_log2 (by decide +kernel)) ?_
      with_reducible refine ET.int ?_
      refine BinT.mod (by decide) ?_
      with_reducible refine ET.int ?_
      with_reducible refine BinT.add ?_
      with_reducible refine GK.use (by assumption) ?_
      with_reducible refine SS.cons (ST.gen fun _ _ => ?_)
      with_reducible refine ST.assign (by assumption) ?_ ?_ ?_
      focus refine Or.inl ?_; (with_reducible refine KO.at (by assumption) ?_); exact rfl
      focus exact rfl
      with_reducible refine ET.binop ?_
      with_reducible refine ET.binop ?_
      with_reducible apply ET.var (by assumption)
      focus (with_reducible refine (upd_ne ?_).trans ?_); (focus (first | assumption | exact (by decide))); (with_reducible refine (upd_ne ?_).trans ?_); (focus (first | assumption | exact (by decide))); with_reducible exact upd_at _ _ _
      focus exact rfl
      with_reducible refine ET.int ?_
      refine BinT.fdiv (by decide) (PyProof.noPylong_of_log2 (by decide +kernel)) ?_
      with_reducible refine ET.int ?_
      refine BinT.mod (by decide) ?_
      with_reducible refine GK.use (by assumption) ?_
      with_reducible refine SS.cons (ST.gen fun _ _ => ?_)
      with_reducible refine ST.assign (by assumption) ?_ ?_ ?_
      focus refine Or.inl ?_; (with_reducible refine KO.at (by assumption) ?_); exact rfl
      focus exact rfl
      with_reducible refine ET.binop ?_
      with_reducible apply ET.var (by assumption)
      focus (with_reducible refine (upd_ne ?_).trans ?_); (focus (first | assumption | exact (by decide))); (with_reducible refine (upd_ne ?_).trans ?_); (focus (first | assumption | exact (by decide))); (with_reducible refine (upd_ne ?_).trans ?_); (focus (first | assumption | exact (by decide))); with_reducible exact upd_at _ _ _
      focus exact rfl
      with_reducible refine ET.int ?_
      refine BinT.fdiv (by decide) (PyProof.noPylong_of_log2 (by decide +kernel)) ?_
      have b1 : 0 ≤ n.fmod 6 := fmod_lo _ (by decide)
      have b2 : n.fmod 6 < 6 := fmod_hi _ (by decide)
      have b3 : 0 ≤ (n.fdiv 6).fmod 6 := fmod_lo _ (by decide)
      have b4 : (n.fdiv 6).fmod 6 < 6 := fmod_hi _ (by decide)
      have hb64 : Builtin.Int.intBits (n.fmod 6 + 1) ≤ 64 := intBits_le (by omega)
      have ha64 : Builtin.Int.intBits ((n.fdiv 6).fmod 6 + 1) ≤ 64 := intBits_le (by omega)
      obtain ⟨cv, hcl⟩ : ∃ cv, claimOf n = cv := ⟨_, rfl⟩
      have hcv := hcl
      unfold claimOf at hcl
      generalize n.fmod 6 + 1 = b at *
      generalize (n.fdiv 6).fmod 6 + 1 = a' at *
      with_reducible refine GK.use (by assumption) ?_
      with_reducible refine SS.cons (ST.gen fun _ _ => ?_)
      with_reducible refine ST.assign (by assumption) ?_ ?_ ?_
      focus refine Or.inl ?_; (with_reducible refine KO.at (by assumption) ?_); exact rfl
      focus exact rfl
      with_reducible refine ET.binop ?_
      with_reducible refine ET.int ?_
      with_reducible refine ET.binop ?_
      with_reducible refine ET.binop ?_
      with_reducible apply ET.var (by assumption)
      focus (with_reducible refine (upd_ne ?_).trans ?_); (focus (first | assumption | exact (by decide))); (with_reducible refine (upd_ne ?_).trans ?_); (focus (first | assumption | exact (by decide))); with_reducible exact upd_at _ _ _
      focus exact rfl
      with_reducible apply ET.var (by assumption)
      focus (with_reducible refine (upd_ne ?_).trans ?_); (focus (first | assumption | exact (by decide))); (with_reducible refine (upd_ne ?_).trans ?_); (focus (first | assumption | exact (by decide))); with_reducible exact upd_at _ _ _
      focus exact rfl
      refine BinT.mul (.of_right ha64) ?_
      with_reducible refine ET.binop ?_
      with_reducible apply ET.var (by assumption)
      focus (with_reducible refine (upd_ne ?_).trans ?_); (focus (first | assumption | exact (by decide))); (with_reducible refine (upd_ne ?_).trans ?_); (focus (first | assumption | exact (by decide))); (with_reducible refine (upd_ne ?_).trans ?_); (focus (first | assumption | exact (by decide))); with_reducible exact upd_at _ _ _
      focus exact rfl
      with_reducible apply ET.var (by assumption)
      focus (with_reducible refine (upd_ne ?_).trans ?_); (focus (first | assumption | exact (by decide))); (with_reducible refine (upd_ne ?_).trans ?_); (focus (first | assumption | exact (by decide))); (with_reducible refine (upd_ne ?_).trans ?_); (focus (first | assumption | exact (by decide))); with_reducible exact upd_at _ _ _
      focus exact rfl
      refine BinT.mul (.of_right hb64) ?_
      with_reducible refine BinT.sub ?_
      refine BinT.mul (.of_left (by decide)) ?_
      with_reducible refine GK.use (by assumption) ?_
      with_reducible refine SS.cons (ST.gen fun _ _ => ?_)
      with_reducible refine ST.assign (by assumption) ?_ ?_ ?_
      focus refine Or.inl ?_; (with_reducible refine KO.at (by assumption) ?_); exact rfl
      focus exact rfl
      with_reducible refine ET.binop ?_
      with_reducible apply ET.var (by assumption)
      focus (with_reducible refine (upd_ne ?_).trans ?_); (focus (first | assumption | exact (by decide))); (with_reducible refine (upd_ne ?_).trans ?_); (focus (first | assumption | exact (by decide))); (with_reducible refine (upd_ne ?_).trans ?_); (focus (first | assumption | exact (by decide))); with_reducible exact upd_at _ _ _
      focus exact rfl
      with_reducible apply ET.var (by assumption)
      focus (with_reducible refine (upd_ne ?_).trans ?_); (focus (first | assumption | exact (by decide))); (with_reducible refine (upd_ne ?_).trans ?_); (focus (first | assumption | exact (by decide))); (with_reducible refine (upd_ne ?_).trans ?_); (focus (first | assumption | exact (by decide))); (with_reducible refine (upd_ne ?_).trans ?_); (focus (first | assumption | exact (by decide))); with_reducible exact upd_at _ _ _
      focus exact rfl
      with_reducible refine BinT.sub ?_
      with_reducible refine GK.use (by assumption) ?_
      with_reducible refine SS.cons (ST.gen fun _ _ => ?_)
      generalize hkk : (n.fdiv 36).fmod 4 = k at *
      generalize hpp : n.fdiv 144 = p at *
      generalize hss : 700 * (a' * a' - b * b) = sz at *
      refine ST.cut (ClS C b a' k p (if k.fmod 2 = 1 then sz + (p.fmod 20000000000001 - 10000000000000) else sz) (a' - b) H1) ?_ ?_
      · with_reducible refine ST.ite ?_
        with_reducible refine BT.cmp ?_ ?_
        focus exact rfl
        with_reducible refine ET.binop ?_
        with_reducible apply ET.var (by assumption)
        focus (with_reducible refine (upd_ne ?_).trans ?_); (focus (first | assumption | exact (by decide))); (with_reducible refine (upd_ne ?_).trans ?_); (focus (first | assumption | exact (by decide))); (with_reducible refine (upd_ne ?_).trans ?_); (focus (first | assumption | exact (by decide))); with_reducible exact upd_at _ _ _
        focus exact rfl
        with_reducible refine ET.int ?_
        refine BinT.mod (by decide) ?_
        with_reducible refine ET.int ?_
        with_reducible refine CmpT.eqI ?_
        with_reducible refine TrT.bool ?_
        refine iteC (fun hc => ?_) (fun hc => ?_)
        · have hc : k.fmod 2 = 1 := by simpa using hc
          with_reducible refine SS.cons (ST.gen fun _ _ => ?_)
          with_reducible apply ST.aug (by assumption)
          focus refine Or.inl ?_; (with_reducible refine KO.at (by assumption) ?_); exact rfl
          focus (with_reducible refine (upd_ne ?_).trans ?_); (focus (first | assumption | exact (by decide))); with_reducible exact upd_at _ _ _
          with_reducible refine ET.binop ?_
          with_reducible refine ET.binop ?_
          with_reducible apply ET.var (by assumption)
          focus (with_reducible refine (upd_ne ?_).trans ?_); (focus (first | assumption | exact (by decide))); (with_reducible refine (upd_ne ?_).trans ?_); (focus (first | assumption | exact (by decide))); with_reducible exact upd_at _ _ _
          focus exact rfl
          with_reducible refine ET.int ?_
          refine BinT.mod (by decide) ?_
          with_reducible refine ET.int ?_
          with_reducible refine BinT.sub ?_
          with_reducible refine InpT.add ?_
          with_reducible refine GK.use (by assumption) ?_
          with_reducible refine SS.nil ?_
          rw [if_pos hc]
          exact ⟨by (((with_reducible refine (upd_ne ?_).trans ?_); (focus (first | assumption | exact (by decide))); (with_reducible refine (upd_ne ?_).trans ?_); (focus (first | assumption | exact (by decide))); (with_reducible refine (upd_ne ?_).trans ?_); (focus (first | assumption | exact (by decide))); (with_reducible refine (upd_ne ?_).trans ?_); (focus (first | assumption | exact (by decide))); (with_reducible refine (upd_ne ?_).trans ?_); (focus (first | assumption | exact (by decide))); (with_reducible refine (upd_ne ?_).trans ?_); (focus (first | assumption | exact (by decide))); (with_reducible refine (upd_ne ?_).trans ?_); (focus (first | assumption | exact (by decide))); (with_reducible refine (upd_ne ?_).trans ?_); (focus (first | assumption | exact (by decide))); with_reducible assumption)), by (((with_reducible refine (upd_ne ?_).trans ?_); (focus (first | assumption | exact (by decide))); (with_reducible refine (upd_ne ?_).trans ?_); (focus (first | assumption | exact (by decide))); (with_reducible refine (upd_ne ?_).trans ?_); (focus (first | assumption | exact (by decide))); (with_reducible refine (upd_ne ?_).trans ?_); (focus (first | assumption | exact (by decide))); (with_reducible refine (upd_ne ?_).trans ?_); (focus (first | assumption | exact (by decide))); (with_reducible refine (upd_ne ?_).trans ?_); (focus (first | assumption | exact (by decide))); with_reducible exact upd_at _ _ _)), by (((with_reducible refine (upd_ne ?_).trans ?_); (focus (first | assumption | exact (by decide))); (with_reducible refine (upd_ne ?_).trans ?_); (focus (first | assumption | exact (by decide))); (with_reducible refine (upd_ne ?_).trans ?_); (focus (first | assumption | exact (by decide))); (with_reducible refine (upd_ne ?_).trans ?_); (focus (first | assumption | exact (by decide))); (with_reducible refine (upd_ne ?_).trans ?_); (focus (first | assumption | exact (by decide))); with_reducible exact upd_at _ _ _)), by (((with_reducible refine (upd_ne ?_).trans ?_); (focus (first | assumption | exact (by decide))); (with_reducible refine (upd_ne ?_).trans ?_); (focus (first | assumption | exact (by decide))); (with_reducible refine (upd_ne ?_).trans ?_); (focus (first | assumption | exact (by decide))); (with_reducible refine (upd_ne ?_).trans ?_); (focus (first | assumption | exact (by decide))); with_reducible exact upd_at _ _ _)), by (((with_reducible refine (upd_ne ?_).trans ?_); (focus (first | assumption | exact (by decide))); (with_reducible refine (upd_ne ?_).trans ?_); (focus (first | assumption | exact (by decide))); (with_reducible refine (upd_ne ?_).trans ?_); (focus (first | assumption | exact (by decide))); with_reducible exact upd_at _ _ _)), by ((with_reducible exact upd_at _ _ _)), by (((with_reducible refine (upd_ne ?_).trans ?_); (focus (first | assumption | exact (by decide))); with_reducible exact upd_at _ _ _)), rfl⟩
        · have hc : ¬ k.fmod 2 = 1 := by simpa using hc
          with_reducible refine SS.nil ?_
          rw [if_neg hc]
          exact ⟨by (((with_reducible refine (upd_ne ?_).trans ?_); (focus (first | assumption | exact (by decide))); (with_reducible refine (upd_ne ?_).trans ?_); (focus (first | assumption | exact (by decide))); (with_reducible refine (upd_ne ?_).trans ?_); (focus (first | assumption | exact (by decide))); (with_reducible refine (upd_ne ?_).trans ?_); (focus (first | assumption | exact (by decide))); (with_reducible refine (upd_ne ?_).trans ?_); (focus (first | assumption | exact (by decide))); (with_reducible refine (upd_ne ?_).trans ?_); (focus (first | assumption | exact (by decide))); (with_reducible refine (upd_ne ?_).trans ?_); (focus (first | assumption | exact (by decide))); with_reducible assumption)), by (((with_reducible refine (upd_ne ?_).trans ?_); (focus (first | assumption | exact (by decide))); (with_reducible refine (upd_ne ?_).trans ?_); (focus (first | assumption | exact (by decide))); (with_reducible refine (upd_ne ?_).trans ?_); (focus (first | assumption | exact (by decide))); (with_reducible refine (upd_ne ?_).trans ?_); (focus (first | assumption | exact (by decide))); (with_reducible refine (upd_ne ?_).trans ?_); (focus (first | assumption | exact (by decide))); with_reducible exact upd_at _ _ _)), by (((with_reducible refine (upd_ne ?_).trans ?_); (focus (first | assumption | exact (by decide))); (with_reducible refine (upd_ne ?_).trans ?_); (focus (first | assumption | exact (by decide))); (with_reducible refine (upd_ne ?_).trans ?_); (focus (first | assumption | exact (by decide))); (with_reducible refine (upd_ne ?_).trans ?_); (focus (first | assumption | exact (by decide))); with_reducible exact upd_at _ _ _)), by (((with_reducible refine (upd_ne ?_).trans ?_); (focus (first | assumption | exact (by decide))); (with_reducible refine (upd_ne ?_).trans ?_); (focus (first | assumption | exact (by decide))); (with_reducible refine (upd_ne ?_).trans ?_); (focus (first | assumption | exact (by decide))); with_reducible exact upd_at _ _ _)), by (((with_reducible refine (upd_ne ?_).trans ?_); (focus (first | assumption | exact (by decide))); (with_reducible refine (upd_ne ?_).trans ?_); (focus (first | assumption | exact (by decide))); with_reducible exact upd_at _ _ _)), by (((with_reducible refine (upd_ne ?_).trans ?_); (focus (first | assumption | exact (by decide))); with_reducible exact upd_at _ _ _)), by ((with_reducible exact upd_at _ _ _)), rfl⟩
      rintro l2 H2 ⟨m1, m2, m3, m4, m5, m6, m7, rfl⟩
      generalize hs2 : (if k.fmod 2 = 1 then sz + (p.fmod 20000000000001 - 10000000000000) else sz) = s2 at *
      with_reducible refine GK.use (by assumption) ?_
      with_reducible refine SS.cons (ST.gen fun _ _ => ?_)
      refine ST.cut (ClS C b a' k p s2 (if k.fdiv 2 = 1 then a' - b + (p.fmod 19 - 9) else a' - b) H2) ?_ ?_
      · with_reducible refine ST.ite ?_
        with_reducible refine BT.cmp ?_ ?_
        focus exact rfl
        with_reducible refine ET.binop ?_
        with_reducible apply ET.var (by assumption)
        focus with_reducible assumption
        focus exact rfl
        with_reducible refine ET.int ?_
        refine BinT.fdiv (by decide) (PyProof.noPylong_of_log2 (by decide +kernel)) ?_
        with_reducible refine ET.int ?_
        with_reducible refine CmpT.eqI ?_
        with_reducible refine TrT.bool ?_
        refine iteC (fun hc => ?_) (fun hc => ?_)
        · have hc : k.fdiv 2 = 1 := by simpa using hc
          with_reducible refine SS.cons (ST.gen fun _ _ => ?_)
          with_reducible apply ST.aug (by assumption)
          focus refine Or.inl ?_; (with_reducible refine KO.at (by assumption) ?_); exact rfl
          focus with_reducible assumption
          with_reducible refine ET.binop ?_
          with_reducible refine ET.binop ?_
          with_reducible apply ET.var (by assumption)
          focus with_reducible assumption
          focus exact rfl
          with_reducible refine ET.int ?_
          refine BinT.mod (by decide) ?_
          with_reducible refine ET.int ?_
          with_reducible refine BinT.sub ?_
          with_reducible refine InpT.add ?_
          with_reducible refine GK.use (by assumption) ?_
          with_reducible refine SS.nil ?_
          rw [if_pos hc]
          exact ⟨by (((with_reducible refine (upd_ne ?_).trans ?_); (focus (first | assumption | exact (by decide))); with_reducible assumption)), by (((with_reducible refine (upd_ne ?_).trans ?_); (focus (first | assumption | exact (by decide))); with_reducible assumption)), by (((with_reducible refine (upd_ne ?_).trans ?_); (focus (first | assumption | exact (by decide))); with_reducible assumption)), by (((with_reducible refine (upd_ne ?_).trans ?_); (focus (first | assumption | exact (by decide))); with_reducible assumption)), by (((with_reducible refine (upd_ne ?_).trans ?_); (focus (first | assumption | exact (by decide))); with_reducible assumption)), by (((with_reducible refine (upd_ne ?_).trans ?_); (focus (first | assumption | exact (by decide))); with_reducible assumption)), by ((with_reducible exact upd_at _ _ _)), rfl⟩
        · have hc : ¬ k.fdiv 2 = 1 := by simpa using hc
          with_reducible refine SS.nil ?_
          rw [if_neg hc]
          exact ⟨by ((with_reducible assumption)), by ((with_reducible assumption)), by ((with_reducible assumption)), by ((with_reducible assumption)), by ((with_reducible assumption)), by ((with_reducible assumption)), by ((with_reducible assumption)), rfl⟩
      rintro l3 H3 ⟨m1, m2, m3, m4, m5, m6, m7, rfl⟩
      generalize hs3 : (if k.fdiv 2 = 1 then a' - b + (p.fmod 19 - 9) else a' - b) = s3 at *
      have ecl : claimP (claimOf n) = .tuple [.int b, .int a', .int s2, .int s3] := by rw [hcv, ← hcl]; rfl
      with_reducible refine GK.use (by assumption) ?_
      with_reducible refine SS.cons (ST.gen fun _ _ => ?_)
      with_reducible refine ST.expr (by assumption) ?_ ?_
      focus (intro _; exact rfl)
      refine ET.meth (T := "list") (id := "list.append") (Is.ok (by assumption)) ?_ ?_ ?_ ?_ PySem.F.plainAttrs_list PySem.F.slot_list_append PySem.F.type_list_append ?_
      focus exact rfl
      focus exact rfl
      focus exact (by decide)
      focus exact rfl
      (with_reducible apply ET.var (by assumption)); (focus with_reducible assumption); (focus exact rfl)
      apply methL
      focus with_reducible assumption
      (with_reducible refine ETs.cons ?_ ?_); (focus (intro _; exact rfl)); (with_reducible refine ET.tuple ?_); (with_reducible refine ETs.cons ?_ ?_); (focus (intro _; exact rfl)); (with_reducible apply ET.var (by assumption)); (focus with_reducible assumption); (focus exact rfl); (with_reducible refine ETs.cons ?_ ?_); (focus (intro _; exact rfl)); (with_reducible apply ET.var (by assumption)); (focus with_reducible assumption); (focus exact rfl); (with_reducible refine ETs.cons ?_ ?_); (focus (intro _; exact rfl)); (with_reducible apply ET.var (by assumption)); (focus with_reducible assumption); (focus exact rfl); (with_reducible refine ETs.cons ?_ ?_); (focus (intro _; exact rfl)); (with_reducible apply ET.var (by assumption)); (focus with_reducible assumption); (focus exact rfl); (with_reducible refine ETs.nil ?_); (with_reducible refine szAnd ?_ ?_); (focus exact rfl); (with_reducible refine ETs.nil ?_)
      apply CT.append
      focus with_reducible assumption
      · simp; unfold sizeLine; omega
      refine ⟨rfl, ?_⟩
      with_reducible refine GK.use (by assumption) ?_
      with_reducible refine SS.nil ?_
      have HD := (hup_ne (o := .list (List.map claimP (List.map claimOf n1) ++ [.tuple [.int b, .int a', .int s2, .int s3]])) hCD.symm).trans H5
      refine ⟨HD, n1 ++ [n], n2, by rw [e0]; simp, rfl, by ((with_reducible assumption)), ?_, X1.own hC, HD, hCD⟩
      rw [hup_at, ← ecl]; simp
    · rintro l H1 ⟨n1, n2, e0, hr', l1, HC, X1, H5, hCD⟩
      obtain rfl : n2 = [] := by cases n2 with | nil => rfl | cons _ _ => cases hr'
      rw [List.append_nil] at e0
      subst e0
      exact ⟨l1, HC, X1⟩
  rintro l H1 ⟨l1, HC, X1⟩
  with_reducible refine GK.use (by assumption) ?_
  with_reducible refine SS.cons (ST.gen fun _ _ => ?_)
  with_reducible refine ST.ret ?_
  with_reducible apply ET.var (by assumption)
  focus with_reducible assumption
  focus exact rfl
  with_reducible refine GK.use (by assumption) ?_
  exact h C _ X1 HC
end
end Mine
end
section
open PySem PySem.W PyProof.Rows PySem.Calls PySem.Spec
set_option maxRecDepth 100000
set_option maxHeartbeats 1000000
namespace Mine
section
variable {g : Gd} {A : Around} {H : PH} {Q : PV → PH → Prop}
theorem gb_range (I : Is g) : GB g "range" (.type "range") := ⟨by rw [I.K]; k_is, by decide, rfl⟩
theorem gb_len (I : Is g) : GB g "len" (.builtin "len") := ⟨by rw [I.K]; k_is, by decide, rfl⟩
theorem ck_range : CallK g (.type "range") := .inr (.inl ⟨_, rfl⟩)
theorem ck_len : CallK g (.builtin "len") := .inl ⟨_, rfl⟩
noncomputable def walkP (t : Tab Int) : List (Int × PV) := t.map fun e => (e.1, .tuple [.int e.2.1, .int e.2.2])
theorem walkP_get (k : Int) : ∀ (t : Tab Int), dget (walkP t) k = (dgetT t k).map fun v => PV.tuple [.int v.1, .int v.2]
  | [] => rfl
  | (k', s, c) :: r => by
    have ih := walkP_get k r
    unfold dget dgetT walkP at *
    rw [List.map_cons, List.find?_cons, List.find?_cons]
    by_cases h : k' = k
    · simp [h]
    · simp only [h, decide_false, Bool.false_eq_true, if_false]; exact ih
theorem walkP_set {k s c : Int} {t : Tab Int} (h : dgetT t k = none) : dset (walkP t) k (.tuple [.int s, .int c]) = walkP (t ++ [(k, s, c)]) := by
  unfold dset
  have e : (walkP t).any (fun e => e.1 = k) = false := by
    rw [List.any_eq_false]
    intro x hx
    obtain ⟨y, hy, rfl⟩ := List.mem_map.mp hx
    unfold dgetT at h
    rw [Option.map_eq_none_iff, List.find?_eq_none] at h
    exact h y hy
  rw [e]
  simp [walkP]
theorem walkP_len (t : Tab Int) : (walkP t).length = t.length := by simp [walkP]
theorem wstep_len (f : Tab Int) (c : Claim) : (wstep f c).length ≤ f.length + 1 := by
  unfold wstep
  split <;> simp
theorem wround_len : ∀ (ties : List Claim) (f : Tab Int), (wround ties f).length ≤ f.length + ties.length
  | [], f => by simp [wround]
  | c :: r, f => by
    have h1 := wround_len r (wstep f c)
    have h2 := wstep_len f c
    unfold wround at h1 ⊢
    rw [List.foldl_cons, List.length_cons]
    omega
inductive WkI (g : Gd) (H : PH) (a D : Addr) (ties : List Claim) (s : Int) (r : List PV) (l : PL) (H1 : PH) : Prop where
  | mk (k : Nat) (f : Tab Int) (ep : Nat) (_ : r = rangeL ((ties.length : Int) - k) 1 k) (_ : k ≤ ties.length) (_ : l (Str.ofString "ties") = some (.ref a)) (_ : l (Str.ofString "found") = some (.ref D)) (_ : H1 D = some ((ik g).pack (walkP f) ep)) (_ : wgo ties k f = walkT ties s) (_ : f.length ≤ 1 + (ties.length - k) * ties.length) (_ : Ext H H1) : WkI g H a D ties s r l H1
inductive WkJ (g : Gd) (H : PH) (a D : Addr) (ties : List Claim) (f0 : Tab Int) (r : List PV) (l : PL) (H1 : PH) : Prop where
  | mk (t1 t2 : List Claim) (f : Tab Int) (ep : Nat) (_ : r = t2.map claimP) (_ : ties = t1 ++ t2) (_ : l (Str.ofString "ties") = some (.ref a)) (_ : l (Str.ofString "found") = some (.ref D)) (_ : H1 D = some ((ik g).pack (walkP f) ep)) (_ : t2.foldl wstep f = wround ties f0) (_ : f.length ≤ f0.length + t1.length) (_ : Ext H H1) : WkJ g H a D ties f0 r l H1
inductive WkM (g : Gd) (H : PH) (a D : Addr) (f : Tab Int) (l : PL) (H1 : PH) : Prop where
  | mk (ep : Nat) (_ : l (Str.ofString "ties") = some (.ref a)) (_ : l (Str.ofString "found") = some (.ref D)) (_ : H1 D = some ((ik g).pack (walkP f) ep)) (_ : Ext H H1) : WkM g H a D f l H1
theorem walk_ct (I : Is g) (R : Room A 6) {a : Addr} {ties : List Claim} {s : Int} (ha : H a = some (.list (ties.map claimP))) (hl : ties.length ≤ 100)
    (h : ∀ D ep H', Ext H H' → H D = none → H' D = some ((ik g).pack (walkP (walkT ties s)) ep) → Q (.ref D) H') : CT g A H (.ref 193) [.ref a, .int s] Q := by
  refine' CT.def (n := 5) (ns := [Str.ofString "ties", Str.ofString "start"]) I.ok R (ho := ?ho) (hfd := ?hfd) (hb := ?hb) (hcode := ?hc) (hnames := ?hnm) ?h1 ?h2 ?h3 ?h4 ?h5 ?h6 ?h7 ?h8 ?h9 rfl ?_
  case ho => rw [I.K]; k_is
  case hfd => exact rfl
  case hb => exact rfl
  case hc => rw [I.K]; k_is
  case hnm => exact rfl
  case h1 => exact rfl
  case h2 => exact rfl
  case h3 => exact rfl
  case h4 => exact rfl
  case h5 => exact rfl
  case h6 => exact rfl
  case h7 => (intro s vs hv; obtain ⟨x0, x1, rfl⟩ := len2 hv; exact BindsTo.of_eq rfl)
  case h8 => decide
  case h9 => exact rfl
  intro env A' hE hk hF hR
  dsimp only at hk
  with_reducible refine SS.cons (ST.gen fun _ _ => ?_)
  with_reducible refine ST.assign (by assumption) ?_ ?_ ?_
  focus refine Or.inl ?_; (with_reducible refine KO.at (by assumption) ?_); exact rfl
  focus exact rfl
  with_reducible refine ET.dict (ik _) (Is.ok (by assumption)) ?_ ?_ ?_ ?_ ?_
  focus exact rfl
  focus exact rfl
  focus exact List.cons_ne_nil _ _
  focus exact (by decide)
  refine ?_
  with_reducible refine DPs.cons ?_
  with_reducible apply ET.var (by assumption)
  focus (with_reducible refine (parms_ne ?_).trans ?_); (focus (exact (by decide))); with_reducible exact parms_at
  focus exact rfl
  with_reducible refine ET.tuple ?_
  with_reducible refine ETs.cons ?_ ?_
  focus (intro _; exact rfl)
  with_reducible refine ET.int ?_
  with_reducible refine ETs.cons ?_ ?_
  focus (intro _; exact rfl)
  with_reducible refine ET.int ?_
  with_reducible refine ETs.nil ?_
  with_reducible refine szAnd ?_ ?_
  focus exact rfl
  refine ⟨s, rfl, ?_⟩
  with_reducible refine DPs.nil ?_
  intro D ep0 hD
  have HD0 : hup H D ((ik g).pack (List.foldl (fun acc e => dset acc e.1 e.2) [] ((s, PV.tuple [.int 0, .int 0]) :: [])) ep0) D = some ((ik g).pack (walkP [(s, 0, 0)]) ep0) := hup_at _ _ _
  have X0 : Ext H (hup H D ((ik g).pack (List.foldl (fun acc e => dset acc e.1 e.2) [] ((s, PV.tuple [.int 0, .int 0]) :: [])) ep0)) := (Ext.refl H).hup hD
  have haD : a ≠ D := ne_of ha hD
  generalize hup H D ((ik g).pack (List.foldl (fun acc e => dset acc e.1 e.2) [] ((s, PV.tuple [.int 0, .int 0]) :: [])) ep0) = H0 at HD0 X0
  with_reducible refine GK.use (by assumption) ?_
  with_reducible refine SS.cons (ST.gen fun _ _ => ?_)
  refine ST.cut (WkM g H a D (walkT ties s)) ?_ ?_
  · refine ST.forI (fun _ _ => rfl) (WkI g H a D ties s) (fun _ => True) (IT.range hR.hh (fun _ _ => rfl) ?_) ?_ ?_
    · with_reducible refine ET.call (Is.ok (by assumption)) ?_ ?_
      focus exact rfl
      with_reducible apply ET.bi (by assumption) (Is.ok (by assumption))
      focus (with_reducible refine KO.at (by assumption) ?_); exact rfl
      focus exact rfl
      focus with_reducible exact gb_range (by assumption)
      with_reducible refine ⟨_, rfl, ?_, ?_⟩
      focus with_reducible exact ck_range
      with_reducible refine ETs.cons ?_ ?_
      focus (intro _; exact rfl)
      with_reducible refine ET.call (Is.ok (by assumption)) ?_ ?_
      focus exact rfl
      with_reducible apply ET.bi (by assumption) (Is.ok (by assumption))
      focus (with_reducible refine KO.at (by assumption) ?_); exact rfl
      focus exact rfl
      focus with_reducible exact gb_len (by assumption)
      with_reducible refine ⟨_, rfl, ?_, ?_⟩
      focus with_reducible exact ck_len
      with_reducible refine ETs.cons ?_ ?_
      focus (intro _; exact rfl)
      with_reducible apply ET.var (by assumption)
      focus (with_reducible refine (upd_ne ?_).trans ?_); (focus (first | assumption | exact (by decide))); with_reducible exact parms_at
      focus exact rfl
      with_reducible refine ETs.nil ?_
      refine CT.len (X0 _ _ ha) (by simp; omega) ?_
      with_reducible refine ETs.nil ?_
      refine CT.range1 ?_
      refine ⟨_, _, _, rfl, ?_, rfl, ties.length, [(s, 0, 0)], ep0, ?_, Nat.le_refl _, by (((with_reducible refine (upd_ne ?_).trans ?_); (focus (first | assumption | exact (by decide))); with_reducible exact parms_at)), by ((with_reducible exact upd_at _ _ _)), HD0, rfl, by simp, X0⟩
      · rw [List.length_map]; exact small_up _ _ (by decide) (by decide) (by omega) (by omega)
      · rw [List.length_map, range_items]
        rw [show ((ties.length : Int) - 0).toNat = ties.length by omega, show ((ties.length : Int) - ties.length) = 0 by omega]
    · rintro v r l H1 ⟨k, f, ep, hr', hk, l1, l2, HD, e1, hlf, X1⟩
      cases k with
      | zero => simp [rangeL] at hr'
      | succ k =>
      rw [rangeL_succ] at hr'
      injection hr' with hv hr2
      subst hv hr2
      with_reducible refine AT.name (by assumption) ?_ ?_
      focus refine Or.inl ?_; (with_reducible refine KO.at (by assumption) ?_); exact rfl
      with_reducible refine SS.cons (ST.gen fun _ _ => ?_)
      refine ST.cut (WkM g H a D (wround ties f)) ?_ ?_
      · refine ST.forI (fun _ _ => rfl) (WkJ g H a D ties f) (fun H1 => H1 a = some (.list (ties.map claimP))) (IT.list hR.hh ?_) ?_ ?_
        · with_reducible apply ET.var (by assumption)
          focus (with_reducible refine (upd_ne ?_).trans ?_); (focus (first | assumption | exact (by decide))); with_reducible assumption
          focus exact rfl
          exact ⟨a, _, rfl, X1 _ _ ha, rfl, [], ties, f, ep, rfl, rfl, by (((with_reducible refine (upd_ne ?_).trans ?_); (focus (first | assumption | exact (by decide))); with_reducible assumption)), by (((with_reducible refine (upd_ne ?_).trans ?_); (focus (first | assumption | exact (by decide))); with_reducible assumption)), HD, rfl, by simp, X1⟩
        · rintro v r l H1 ⟨t1, t2, f, ep, hr', e0, l1, l2, HD, e1, hlf2, X1⟩
          cases t2 with
          | nil => cases hr'
          | cons c t2 =>
          obtain ⟨b, a', sz, ct⟩ := c
          injection hr' with hv hr2
          subst hv hr2
          rw [show claimP (b, a', sz, ct) = .tuple [.int b, .int a', .int sz, .int ct] from rfl]
          have hlt : t1.length ≤ 100 := by rw [e0] at hl; simp at hl; omega
          have hkk : (ties.length - (k + 1)) * ties.length ≤ 100 * 100 := Nat.mul_le_mul (by omega) hl
          rw [List.foldl_cons] at e1
          rcases hgb : dgetT f b with _ | vb <;> rcases hga : dgetT f a' with _ | va
          · have es : wstep f (b, a', sz, ct) = f := by unfold wstep; rw [hgb, hga]
            rw [es] at e1
            with_reducible refine AT.tuple (Room.hh (by assumption)) ?_ ?_ ?_
            focus exact rfl
            focus exact rfl
            with_reducible refine ATs.cons ?_
            with_reducible refine AT.name (by assumption) ?_ ?_
            focus refine Or.inl ?_; (with_reducible refine KO.at (by assumption) ?_); exact rfl
            with_reducible refine ATs.cons ?_
            with_reducible refine AT.name (by assumption) ?_ ?_
            focus refine Or.inl ?_; (with_reducible refine KO.at (by assumption) ?_); exact rfl
            with_reducible refine ATs.cons ?_
            with_reducible refine AT.name (by assumption) ?_ ?_
            focus refine Or.inl ?_; (with_reducible refine KO.at (by assumption) ?_); exact rfl
            with_reducible refine ATs.cons ?_
            with_reducible refine AT.name (by assumption) ?_ ?_
            focus refine Or.inl ?_; (with_reducible refine KO.at (by assumption) ?_); exact rfl
            with_reducible refine ATs.nil ?_
            with_reducible refine SS.cons (ST.gen fun _ _ => ?_)
            with_reducible refine ST.ite ?_
            with_reducible refine BT.and ?_
            with_reducible refine BT.cmp ?_ ?_
            focus exact rfl
            with_reducible apply ET.var (by assumption)
            focus (with_reducible refine (upd_ne ?_).trans ?_); (focus (first | assumption | exact (by decide))); (with_reducible refine (upd_ne ?_).trans ?_); (focus (first | assumption | exact (by decide))); (with_reducible refine (upd_ne ?_).trans ?_); (focus (first | assumption | exact (by decide))); with_reducible exact upd_at _ _ _
            focus exact rfl
            with_reducible apply ET.var (by assumption)
            focus (with_reducible refine (upd_ne ?_).trans ?_); (focus (first | assumption | exact (by decide))); (with_reducible refine (upd_ne ?_).trans ?_); (focus (first | assumption | exact (by decide))); (with_reducible refine (upd_ne ?_).trans ?_); (focus (first | assumption | exact (by decide))); (with_reducible refine (upd_ne ?_).trans ?_); (focus (first | assumption | exact (by decide))); with_reducible assumption
            focus exact rfl
            refine CmpT.inD (ik g) (k := b) HD ?_
            rw [walkP_get, hgb]
            with_reducible refine TrT.bool ?_
            refine iteF' rfl ?_
            with_reducible refine iteF ?_
            with_reducible refine SS.cons (ST.gen fun _ _ => ?_)
            with_reducible refine ST.ite ?_
            with_reducible refine BT.and ?_
            with_reducible refine BT.cmp ?_ ?_
            focus exact rfl
            with_reducible apply ET.var (by assumption)
            focus (with_reducible refine (upd_ne ?_).trans ?_); (focus (first | assumption | exact (by decide))); (with_reducible refine (upd_ne ?_).trans ?_); (focus (first | assumption | exact (by decide))); with_reducible exact upd_at _ _ _
            focus exact rfl
            with_reducible apply ET.var (by assumption)
            focus (with_reducible refine (upd_ne ?_).trans ?_); (focus (first | assumption | exact (by decide))); (with_reducible refine (upd_ne ?_).trans ?_); (focus (first | assumption | exact (by decide))); (with_reducible refine (upd_ne ?_).trans ?_); (focus (first | assumption | exact (by decide))); (with_reducible refine (upd_ne ?_).trans ?_); (focus (first | assumption | exact (by decide))); with_reducible assumption
            focus exact rfl
            refine CmpT.inD (ik g) (k := a') HD ?_
            rw [walkP_get, hga]
            with_reducible refine TrT.bool ?_
            refine iteF' rfl ?_
            with_reducible refine iteF ?_
            with_reducible refine SS.nil ?_
            with_reducible refine GK.use (by assumption) ?_
            with_reducible refine SS.nil ?_
            with_reducible refine GK.use (by assumption) ?_
            with_reducible refine SS.nil ?_
            exact ⟨X1 _ _ ha, t1 ++ [(b, a', sz, ct)], t2, f, ep, rfl, by rw [e0]; simp, by (((with_reducible refine (upd_ne ?_).trans ?_); (focus (first | assumption | exact (by decide))); (with_reducible refine (upd_ne ?_).trans ?_); (focus (first | assumption | exact (by decide))); (with_reducible refine (upd_ne ?_).trans ?_); (focus (first | assumption | exact (by decide))); (with_reducible refine (upd_ne ?_).trans ?_); (focus (first | assumption | exact (by decide))); with_reducible assumption)), by (((with_reducible refine (upd_ne ?_).trans ?_); (focus (first | assumption | exact (by decide))); (with_reducible refine (upd_ne ?_).trans ?_); (focus (first | assumption | exact (by decide))); (with_reducible refine (upd_ne ?_).trans ?_); (focus (first | assumption | exact (by decide))); (with_reducible refine (upd_ne ?_).trans ?_); (focus (first | assumption | exact (by decide))); with_reducible assumption)), HD, e1, by simp; omega, X1⟩
          · have es : wstep f (b, a', sz, ct) = f ++ [(b, va.1 - sz, va.2 - ct)] := by unfold wstep; rw [hgb, hga]
            rw [es] at e1
            have hga2 : dget (walkP f) a' = some (.tuple [.int va.1, .int va.2]) := by rw [walkP_get, hga]; rfl
            with_reducible refine AT.tuple (Room.hh (by assumption)) ?_ ?_ ?_
            focus exact rfl
            focus exact rfl
            with_reducible refine ATs.cons ?_
            with_reducible refine AT.name (by assumption) ?_ ?_
            focus refine Or.inl ?_; (with_reducible refine KO.at (by assumption) ?_); exact rfl
            with_reducible refine ATs.cons ?_
            with_reducible refine AT.name (by assumption) ?_ ?_
            focus refine Or.inl ?_; (with_reducible refine KO.at (by assumption) ?_); exact rfl
            with_reducible refine ATs.cons ?_
            with_reducible refine AT.name (by assumption) ?_ ?_
            focus refine Or.inl ?_; (with_reducible refine KO.at (by assumption) ?_); exact rfl
            with_reducible refine ATs.cons ?_
            with_reducible refine AT.name (by assumption) ?_ ?_
            focus refine Or.inl ?_; (with_reducible refine KO.at (by assumption) ?_); exact rfl
            with_reducible refine ATs.nil ?_
            with_reducible refine SS.cons (ST.gen fun _ _ => ?_)
            with_reducible refine ST.ite ?_
            with_reducible refine BT.and ?_
            with_reducible refine BT.cmp ?_ ?_
            focus exact rfl
            with_reducible apply ET.var (by assumption)
            focus (with_reducible refine (upd_ne ?_).trans ?_); (focus (first | assumption | exact (by decide))); (with_reducible refine (upd_ne ?_).trans ?_); (focus (first | assumption | exact (by decide))); (with_reducible refine (upd_ne ?_).trans ?_); (focus (first | assumption | exact (by decide))); with_reducible exact upd_at _ _ _
            focus exact rfl
            with_reducible apply ET.var (by assumption)
            focus (with_reducible refine (upd_ne ?_).trans ?_); (focus (first | assumption | exact (by decide))); (with_reducible refine (upd_ne ?_).trans ?_); (focus (first | assumption | exact (by decide))); (with_reducible refine (upd_ne ?_).trans ?_); (focus (first | assumption | exact (by decide))); (with_reducible refine (upd_ne ?_).trans ?_); (focus (first | assumption | exact (by decide))); with_reducible assumption
            focus exact rfl
            refine CmpT.inD (ik g) (k := b) HD ?_
            rw [walkP_get, hgb]
            with_reducible refine TrT.bool ?_
            refine iteF' rfl ?_
            with_reducible refine iteF ?_
            with_reducible refine SS.cons (ST.gen fun _ _ => ?_)
            with_reducible refine ST.ite ?_
            with_reducible refine BT.and ?_
            with_reducible refine BT.cmp ?_ ?_
            focus exact rfl
            with_reducible apply ET.var (by assumption)
            focus (with_reducible refine (upd_ne ?_).trans ?_); (focus (first | assumption | exact (by decide))); (with_reducible refine (upd_ne ?_).trans ?_); (focus (first | assumption | exact (by decide))); with_reducible exact upd_at _ _ _
            focus exact rfl
            with_reducible apply ET.var (by assumption)
            focus (with_reducible refine (upd_ne ?_).trans ?_); (focus (first | assumption | exact (by decide))); (with_reducible refine (upd_ne ?_).trans ?_); (focus (first | assumption | exact (by decide))); (with_reducible refine (upd_ne ?_).trans ?_); (focus (first | assumption | exact (by decide))); (with_reducible refine (upd_ne ?_).trans ?_); (focus (first | assumption | exact (by decide))); with_reducible assumption
            focus exact rfl
            refine CmpT.inD (ik g) (k := a') HD ?_
            rw [hga2]
            with_reducible refine TrT.bool ?_
            refine iteT' rfl ?_
            with_reducible refine BT.cmp ?_ ?_
            focus exact rfl
            with_reducible apply ET.var (by assumption)
            focus (with_reducible refine (upd_ne ?_).trans ?_); (focus (first | assumption | exact (by decide))); (with_reducible refine (upd_ne ?_).trans ?_); (focus (first | assumption | exact (by decide))); (with_reducible refine (upd_ne ?_).trans ?_); (focus (first | assumption | exact (by decide))); with_reducible exact upd_at _ _ _
            focus exact rfl
            with_reducible apply ET.var (by assumption)
            focus (with_reducible refine (upd_ne ?_).trans ?_); (focus (first | assumption | exact (by decide))); (with_reducible refine (upd_ne ?_).trans ?_); (focus (first | assumption | exact (by decide))); (with_reducible refine (upd_ne ?_).trans ?_); (focus (first | assumption | exact (by decide))); (with_reducible refine (upd_ne ?_).trans ?_); (focus (first | assumption | exact (by decide))); with_reducible assumption
            focus exact rfl
            refine CmpT.notInD (ik g) (k := b) HD ?_
            rw [walkP_get, hgb]
            with_reducible refine TrT.bool ?_
            refine iteT' rfl ?_
            with_reducible refine SS.cons (ST.gen fun _ _ => ?_)
            refine ST.setItem (fun _ => rfl) ?_
            with_reducible refine ET.tuple ?_
            with_reducible refine ETs.cons ?_ ?_
            focus (intro _; exact rfl)
            with_reducible refine ET.binop ?_
            with_reducible refine ET.sub ?_ ?_
            focus nofun
            with_reducible refine ET.sub ?_ ?_
            focus nofun
            with_reducible apply ET.var (by assumption)
            focus (with_reducible refine (upd_ne ?_).trans ?_); (focus (first | assumption | exact (by decide))); (with_reducible refine (upd_ne ?_).trans ?_); (focus (first | assumption | exact (by decide))); (with_reducible refine (upd_ne ?_).trans ?_); (focus (first | assumption | exact (by decide))); (with_reducible refine (upd_ne ?_).trans ?_); (focus (first | assumption | exact (by decide))); with_reducible assumption
            focus exact rfl
            with_reducible apply ET.var (by assumption)
            focus (with_reducible refine (upd_ne ?_).trans ?_); (focus (first | assumption | exact (by decide))); (with_reducible refine (upd_ne ?_).trans ?_); (focus (first | assumption | exact (by decide))); with_reducible exact upd_at _ _ _
            focus exact rfl
            refine SubT.dict (ik g) (k := a') HD hga2 ?_
            with_reducible refine ET.int ?_
            refine SubT.tuple (j := 0) (by decide) (by decide) rfl rfl ?_
            with_reducible apply ET.var (by assumption)
            focus (with_reducible refine (upd_ne ?_).trans ?_); (focus (first | assumption | exact (by decide))); with_reducible exact upd_at _ _ _
            focus exact rfl
            with_reducible refine BinT.sub ?_
            with_reducible refine ETs.cons ?_ ?_
            focus (intro _; exact rfl)
            with_reducible refine ET.binop ?_
            with_reducible refine ET.sub ?_ ?_
            focus nofun
            with_reducible refine ET.sub ?_ ?_
            focus nofun
            with_reducible apply ET.var (by assumption)
            focus (with_reducible refine (upd_ne ?_).trans ?_); (focus (first | assumption | exact (by decide))); (with_reducible refine (upd_ne ?_).trans ?_); (focus (first | assumption | exact (by decide))); (with_reducible refine (upd_ne ?_).trans ?_); (focus (first | assumption | exact (by decide))); (with_reducible refine (upd_ne ?_).trans ?_); (focus (first | assumption | exact (by decide))); with_reducible assumption
            focus exact rfl
            with_reducible apply ET.var (by assumption)
            focus (with_reducible refine (upd_ne ?_).trans ?_); (focus (first | assumption | exact (by decide))); (with_reducible refine (upd_ne ?_).trans ?_); (focus (first | assumption | exact (by decide))); with_reducible exact upd_at _ _ _
            focus exact rfl
            refine SubT.dict (ik g) (k := a') HD hga2 ?_
            with_reducible refine ET.int ?_
            refine SubT.tuple (j := 1) (by decide) (by decide) rfl rfl ?_
            with_reducible apply ET.var (by assumption)
            focus with_reducible exact upd_at _ _ _
            focus exact rfl
            with_reducible refine BinT.sub ?_
            with_reducible refine ETs.nil ?_
            with_reducible refine szAnd ?_ ?_
            focus exact rfl
            with_reducible apply ET.var (by assumption)
            focus (with_reducible refine (upd_ne ?_).trans ?_); (focus (first | assumption | exact (by decide))); (with_reducible refine (upd_ne ?_).trans ?_); (focus (first | assumption | exact (by decide))); (with_reducible refine (upd_ne ?_).trans ?_); (focus (first | assumption | exact (by decide))); (with_reducible refine (upd_ne ?_).trans ?_); (focus (first | assumption | exact (by decide))); with_reducible assumption
            focus exact rfl
            with_reducible apply ET.var (by assumption)
            focus (with_reducible refine (upd_ne ?_).trans ?_); (focus (first | assumption | exact (by decide))); (with_reducible refine (upd_ne ?_).trans ?_); (focus (first | assumption | exact (by decide))); (with_reducible refine (upd_ne ?_).trans ?_); (focus (first | assumption | exact (by decide))); with_reducible exact upd_at _ _ _
            focus exact rfl
            refine SetT.dict (ik g) (k := b) HD (by rw [walkP_len]; unfold sizeLine; omega) fun ep' => ?_
            rw [walkP_set hgb]
            with_reducible refine GK.use (by assumption) ?_
            with_reducible refine SS.nil ?_
            with_reducible refine GK.use (by assumption) ?_
            with_reducible refine SS.nil ?_
            with_reducible refine GK.use (by assumption) ?_
            with_reducible refine SS.nil ?_
            exact ⟨(hup_ne haD).trans (X1 _ _ ha), t1 ++ [(b, a', sz, ct)], t2, _, ep', rfl, by rw [e0]; simp, by (((with_reducible refine (upd_ne ?_).trans ?_); (focus (first | assumption | exact (by decide))); (with_reducible refine (upd_ne ?_).trans ?_); (focus (first | assumption | exact (by decide))); (with_reducible refine (upd_ne ?_).trans ?_); (focus (first | assumption | exact (by decide))); (with_reducible refine (upd_ne ?_).trans ?_); (focus (first | assumption | exact (by decide))); with_reducible assumption)), by (((with_reducible refine (upd_ne ?_).trans ?_); (focus (first | assumption | exact (by decide))); (with_reducible refine (upd_ne ?_).trans ?_); (focus (first | assumption | exact (by decide))); (with_reducible refine (upd_ne ?_).trans ?_); (focus (first | assumption | exact (by decide))); (with_reducible refine (upd_ne ?_).trans ?_); (focus (first | assumption | exact (by decide))); with_reducible assumption)), hup_at _ _ _, e1, by simp; omega, X1.own hD⟩
          · have es : wstep f (b, a', sz, ct) = f ++ [(a', vb.1 + sz, vb.2 + ct)] := by unfold wstep; rw [hgb, hga]
            rw [es] at e1
            have hgb2 : dget (walkP f) b = some (.tuple [.int vb.1, .int vb.2]) := by rw [walkP_get, hgb]; rfl
            with_reducible refine AT.tuple (Room.hh (by assumption)) ?_ ?_ ?_
            focus exact rfl
            focus exact rfl
            with_reducible refine ATs.cons ?_
            with_reducible refine AT.name (by assumption) ?_ ?_
            focus refine Or.inl ?_; (with_reducible refine KO.at (by assumption) ?_); exact rfl
            with_reducible refine ATs.cons ?_
            with_reducible refine AT.name (by assumption) ?_ ?_
            focus refine Or.inl ?_; (with_reducible refine KO.at (by assumption) ?_); exact rfl
            with_reducible refine ATs.cons ?_
            with_reducible refine AT.name (by assumption) ?_ ?_
            focus refine Or.inl ?_; (with_reducible refine KO.at (by assumption) ?_); exact rfl
            with_reducible refine ATs.cons ?_
            with_reducible refine AT.name (by assumption) ?_ ?_
            focus refine Or.inl ?_; (with_reducible refine KO.at (by assumption) ?_); exact rfl
            with_reducible refine ATs.nil ?_
            with_reducible refine SS.cons (ST.gen fun _ _ => ?_)
            with_reducible refine ST.ite ?_
            with_reducible refine BT.and ?_
            with_reducible refine BT.cmp ?_ ?_
            focus exact rfl
            with_reducible apply ET.var (by assumption)
            focus (with_reducible refine (upd_ne ?_).trans ?_); (focus (first | assumption | exact (by decide))); (with_reducible refine (upd_ne ?_).trans ?_); (focus (first | assumption | exact (by decide))); (with_reducible refine (upd_ne ?_).trans ?_); (focus (first | assumption | exact (by decide))); with_reducible exact upd_at _ _ _
            focus exact rfl
            with_reducible apply ET.var (by assumption)
            focus (with_reducible refine (upd_ne ?_).trans ?_); (focus (first | assumption | exact (by decide))); (with_reducible refine (upd_ne ?_).trans ?_); (focus (first | assumption | exact (by decide))); (with_reducible refine (upd_ne ?_).trans ?_); (focus (first | assumption | exact (by decide))); (with_reducible refine (upd_ne ?_).trans ?_); (focus (first | assumption | exact (by decide))); with_reducible assumption
            focus exact rfl
            refine CmpT.inD (ik g) (k := b) HD ?_
            rw [hgb2]
            with_reducible refine TrT.bool ?_
            refine iteT' rfl ?_
            with_reducible refine BT.cmp ?_ ?_
            focus exact rfl
            with_reducible apply ET.var (by assumption)
            focus (with_reducible refine (upd_ne ?_).trans ?_); (focus (first | assumption | exact (by decide))); (with_reducible refine (upd_ne ?_).trans ?_); (focus (first | assumption | exact (by decide))); with_reducible exact upd_at _ _ _
            focus exact rfl
            with_reducible apply ET.var (by assumption)
            focus (with_reducible refine (upd_ne ?_).trans ?_); (focus (first | assumption | exact (by decide))); (with_reducible refine (upd_ne ?_).trans ?_); (focus (first | assumption | exact (by decide))); (with_reducible refine (upd_ne ?_).trans ?_); (focus (first | assumption | exact (by decide))); (with_reducible refine (upd_ne ?_).trans ?_); (focus (first | assumption | exact (by decide))); with_reducible assumption
            focus exact rfl
            refine CmpT.notInD (ik g) (k := a') HD ?_
            rw [walkP_get, hga]
            with_reducible refine TrT.bool ?_
            refine iteT' rfl ?_
            with_reducible refine SS.cons (ST.gen fun _ _ => ?_)
            refine ST.setItem (fun _ => rfl) ?_
            with_reducible refine ET.tuple ?_
            with_reducible refine ETs.cons ?_ ?_
            focus (intro _; exact rfl)
            with_reducible refine ET.binop ?_
            with_reducible refine ET.sub ?_ ?_
            focus nofun
            with_reducible refine ET.sub ?_ ?_
            focus nofun
            with_reducible apply ET.var (by assumption)
            focus (with_reducible refine (upd_ne ?_).trans ?_); (focus (first | assumption | exact (by decide))); (with_reducible refine (upd_ne ?_).trans ?_); (focus (first | assumption | exact (by decide))); (with_reducible refine (upd_ne ?_).trans ?_); (focus (first | assumption | exact (by decide))); (with_reducible refine (upd_ne ?_).trans ?_); (focus (first | assumption | exact (by decide))); with_reducible assumption
            focus exact rfl
            with_reducible apply ET.var (by assumption)
            focus (with_reducible refine (upd_ne ?_).trans ?_); (focus (first | assumption | exact (by decide))); (with_reducible refine (upd_ne ?_).trans ?_); (focus (first | assumption | exact (by decide))); (with_reducible refine (upd_ne ?_).trans ?_); (focus (first | assumption | exact (by decide))); with_reducible exact upd_at _ _ _
            focus exact rfl
            refine SubT.dict (ik g) (k := b) HD hgb2 ?_
            with_reducible refine ET.int ?_
            refine SubT.tuple (j := 0) (by decide) (by decide) rfl rfl ?_
            with_reducible apply ET.var (by assumption)
            focus (with_reducible refine (upd_ne ?_).trans ?_); (focus (first | assumption | exact (by decide))); with_reducible exact upd_at _ _ _
            focus exact rfl
            with_reducible refine BinT.add ?_
            with_reducible refine ETs.cons ?_ ?_
            focus (intro _; exact rfl)
            with_reducible refine ET.binop ?_
            with_reducible refine ET.sub ?_ ?_
            focus nofun
            with_reducible refine ET.sub ?_ ?_
            focus nofun
            with_reducible apply ET.var (by assumption)
            focus (with_reducible refine (upd_ne ?_).trans ?_); (focus (first | assumption | exact (by decide))); (with_reducible refine (upd_ne ?_).trans ?_); (focus (first | assumption | exact (by decide))); (with_reducible refine (upd_ne ?_).trans ?_); (focus (first | assumption | exact (by decide))); (with_reducible refine (upd_ne ?_).trans ?_); (focus (first | assumption | exact (by decide))); with_reducible assumption
            focus exact rfl
            with_reducible apply ET.var (by assumption)
            focus (with_reducible refine (upd_ne ?_).trans ?_); (focus (first | assumption | exact (by decide))); (with_reducible refine (upd_ne ?_).trans ?_); (focus (first | assumption | exact (by decide))); (with_reducible refine (upd_ne ?_).trans ?_); (focus (first | assumption | exact (by decide))); with_reducible exact upd_at _ _ _
            focus exact rfl
            refine SubT.dict (ik g) (k := b) HD hgb2 ?_
            with_reducible refine ET.int ?_
            refine SubT.tuple (j := 1) (by decide) (by decide) rfl rfl ?_
            with_reducible apply ET.var (by assumption)
            focus with_reducible exact upd_at _ _ _
            focus exact rfl
            with_reducible refine BinT.add ?_
            with_reducible refine ETs.nil ?_
            with_reducible refine szAnd ?_ ?_
            focus exact rfl
            with_reducible apply ET.var (by assumption)
            focus (with_reducible refine (upd_ne ?_).trans ?_); (focus (first | assumption | exact (by decide))); (with_reducible refine (upd_ne ?_).trans ?_); (focus (first | assumption | exact (by decide))); (with_reducible refine (upd_ne ?_).trans ?_); (focus (first | assumption | exact (by decide))); (with_reducible refine (upd_ne ?_).trans ?_); (focus (first | assumption | exact (by decide))); with_reducible assumption
            focus exact rfl
            with_reducible apply ET.var (by assumption)
            focus (with_reducible refine (upd_ne ?_).trans ?_); (focus (first | assumption | exact (by decide))); (with_reducible refine (upd_ne ?_).trans ?_); (focus (first | assumption | exact (by decide))); with_reducible exact upd_at _ _ _
            focus exact rfl
            refine SetT.dict (ik g) (k := a') HD (by rw [walkP_len]; unfold sizeLine; omega) fun ep' => ?_
            rw [walkP_set hga]
            with_reducible refine GK.use (by assumption) ?_
            with_reducible refine SS.nil ?_
            with_reducible refine GK.use (by assumption) ?_
            with_reducible refine SS.nil ?_
            exact ⟨(hup_ne haD).trans (X1 _ _ ha), t1 ++ [(b, a', sz, ct)], t2, _, ep', rfl, by rw [e0]; simp, by (((with_reducible refine (upd_ne ?_).trans ?_); (focus (first | assumption | exact (by decide))); (with_reducible refine (upd_ne ?_).trans ?_); (focus (first | assumption | exact (by decide))); (with_reducible refine (upd_ne ?_).trans ?_); (focus (first | assumption | exact (by decide))); (with_reducible refine (upd_ne ?_).trans ?_); (focus (first | assumption | exact (by decide))); with_reducible assumption)), by (((with_reducible refine (upd_ne ?_).trans ?_); (focus (first | assumption | exact (by decide))); (with_reducible refine (upd_ne ?_).trans ?_); (focus (first | assumption | exact (by decide))); (with_reducible refine (upd_ne ?_).trans ?_); (focus (first | assumption | exact (by decide))); (with_reducible refine (upd_ne ?_).trans ?_); (focus (first | assumption | exact (by decide))); with_reducible assumption)), hup_at _ _ _, e1, by simp; omega, X1.own hD⟩
          · have es : wstep f (b, a', sz, ct) = f := by unfold wstep; rw [hgb, hga]
            rw [es] at e1
            with_reducible refine AT.tuple (Room.hh (by assumption)) ?_ ?_ ?_
            focus exact rfl
            focus exact rfl
            with_reducible refine ATs.cons ?_
            with_reducible refine AT.name (by assumption) ?_ ?_
            focus refine Or.inl ?_; (with_reducible refine KO.at (by assumption) ?_); exact rfl
            with_reducible refine ATs.cons ?_
            with_reducible refine AT.name (by assumption) ?_ ?_
            focus refine Or.inl ?_; (with_reducible refine KO.at (by assumption) ?_); exact rfl
            with_reducible refine ATs.cons ?_
            with_reducible refine AT.name (by assumption) ?_ ?_
            focus refine Or.inl ?_; (with_reducible refine KO.at (by assumption) ?_); exact rfl
            with_reducible refine ATs.cons ?_
            with_reducible refine AT.name (by assumption) ?_ ?_
            focus refine Or.inl ?_; (with_reducible refine KO.at (by assumption) ?_); exact rfl
            with_reducible refine ATs.nil ?_
            with_reducible refine SS.cons (ST.gen fun _ _ => ?_)
            with_reducible refine ST.ite ?_
            with_reducible refine BT.and ?_
            with_reducible refine BT.cmp ?_ ?_
            focus exact rfl
            with_reducible apply ET.var (by assumption)
            focus (with_reducible refine (upd_ne ?_).trans ?_); (focus (first | assumption | exact (by decide))); (with_reducible refine (upd_ne ?_).trans ?_); (focus (first | assumption | exact (by decide))); (with_reducible refine (upd_ne ?_).trans ?_); (focus (first | assumption | exact (by decide))); with_reducible exact upd_at _ _ _
            focus exact rfl
            with_reducible apply ET.var (by assumption)
            focus (with_reducible refine (upd_ne ?_).trans ?_); (focus (first | assumption | exact (by decide))); (with_reducible refine (upd_ne ?_).trans ?_); (focus (first | assumption | exact (by decide))); (with_reducible refine (upd_ne ?_).trans ?_); (focus (first | assumption | exact (by decide))); (with_reducible refine (upd_ne ?_).trans ?_); (focus (first | assumption | exact (by decide))); with_reducible assumption
            focus exact rfl
            refine CmpT.inD (ik g) (k := b) HD ?_
            rw [walkP_get, hgb]
            with_reducible refine TrT.bool ?_
            refine iteT' rfl ?_
            with_reducible refine BT.cmp ?_ ?_
            focus exact rfl
            with_reducible apply ET.var (by assumption)
            focus (with_reducible refine (upd_ne ?_).trans ?_); (focus (first | assumption | exact (by decide))); (with_reducible refine (upd_ne ?_).trans ?_); (focus (first | assumption | exact (by decide))); with_reducible exact upd_at _ _ _
            focus exact rfl
            with_reducible apply ET.var (by assumption)
            focus (with_reducible refine (upd_ne ?_).trans ?_); (focus (first | assumption | exact (by decide))); (with_reducible refine (upd_ne ?_).trans ?_); (focus (first | assumption | exact (by decide))); (with_reducible refine (upd_ne ?_).trans ?_); (focus (first | assumption | exact (by decide))); (with_reducible refine (upd_ne ?_).trans ?_); (focus (first | assumption | exact (by decide))); with_reducible assumption
            focus exact rfl
            refine CmpT.notInD (ik g) (k := a') HD ?_
            rw [walkP_get, hga]
            with_reducible refine TrT.bool ?_
            refine iteF' rfl ?_
            with_reducible refine SS.cons (ST.gen fun _ _ => ?_)
            with_reducible refine ST.ite ?_
            with_reducible refine BT.and ?_
            with_reducible refine BT.cmp ?_ ?_
            focus exact rfl
            with_reducible apply ET.var (by assumption)
            focus (with_reducible refine (upd_ne ?_).trans ?_); (focus (first | assumption | exact (by decide))); (with_reducible refine (upd_ne ?_).trans ?_); (focus (first | assumption | exact (by decide))); with_reducible exact upd_at _ _ _
            focus exact rfl
            with_reducible apply ET.var (by assumption)
            focus (with_reducible refine (upd_ne ?_).trans ?_); (focus (first | assumption | exact (by decide))); (with_reducible refine (upd_ne ?_).trans ?_); (focus (first | assumption | exact (by decide))); (with_reducible refine (upd_ne ?_).trans ?_); (focus (first | assumption | exact (by decide))); (with_reducible refine (upd_ne ?_).trans ?_); (focus (first | assumption | exact (by decide))); with_reducible assumption
            focus exact rfl
            refine CmpT.inD (ik g) (k := a') HD ?_
            rw [walkP_get, hga]
            with_reducible refine TrT.bool ?_
            refine iteT' rfl ?_
            with_reducible refine BT.cmp ?_ ?_
            focus exact rfl
            with_reducible apply ET.var (by assumption)
            focus (with_reducible refine (upd_ne ?_).trans ?_); (focus (first | assumption | exact (by decide))); (with_reducible refine (upd_ne ?_).trans ?_); (focus (first | assumption | exact (by decide))); (with_reducible refine (upd_ne ?_).trans ?_); (focus (first | assumption | exact (by decide))); with_reducible exact upd_at _ _ _
            focus exact rfl
            with_reducible apply ET.var (by assumption)
            focus (with_reducible refine (upd_ne ?_).trans ?_); (focus (first | assumption | exact (by decide))); (with_reducible refine (upd_ne ?_).trans ?_); (focus (first | assumption | exact (by decide))); (with_reducible refine (upd_ne ?_).trans ?_); (focus (first | assumption | exact (by decide))); (with_reducible refine (upd_ne ?_).trans ?_); (focus (first | assumption | exact (by decide))); with_reducible assumption
            focus exact rfl
            refine CmpT.notInD (ik g) (k := b) HD ?_
            rw [walkP_get, hgb]
            with_reducible refine TrT.bool ?_
            refine iteF' rfl ?_
            with_reducible refine SS.nil ?_
            with_reducible refine GK.use (by assumption) ?_
            with_reducible refine SS.nil ?_
            with_reducible refine GK.use (by assumption) ?_
            with_reducible refine SS.nil ?_
            exact ⟨X1 _ _ ha, t1 ++ [(b, a', sz, ct)], t2, f, ep, rfl, by rw [e0]; simp, by (((with_reducible refine (upd_ne ?_).trans ?_); (focus (first | assumption | exact (by decide))); (with_reducible refine (upd_ne ?_).trans ?_); (focus (first | assumption | exact (by decide))); (with_reducible refine (upd_ne ?_).trans ?_); (focus (first | assumption | exact (by decide))); (with_reducible refine (upd_ne ?_).trans ?_); (focus (first | assumption | exact (by decide))); with_reducible assumption)), by (((with_reducible refine (upd_ne ?_).trans ?_); (focus (first | assumption | exact (by decide))); (with_reducible refine (upd_ne ?_).trans ?_); (focus (first | assumption | exact (by decide))); (with_reducible refine (upd_ne ?_).trans ?_); (focus (first | assumption | exact (by decide))); (with_reducible refine (upd_ne ?_).trans ?_); (focus (first | assumption | exact (by decide))); with_reducible assumption)), HD, e1, by simp; omega, X1⟩
        · rintro l H1 ⟨t1, t2, f, ep, hr', e0, l1, l2, HD, e1, hlf2, X1⟩
          obtain rfl : t2 = [] := by cases t2 with | nil => rfl | cons _ _ => cases hr'
          rw [List.foldl_nil] at e1
          subst e1
          exact ⟨ep, l1, l2, HD, X1⟩
      · rintro l H1 ⟨ep, l1, l2, HD, X1⟩
        with_reducible refine GK.use (by assumption) ?_
        with_reducible refine SS.nil ?_
        have hlw : (wround ties f).length ≤ f.length + ties.length := wround_len ties f
        refine ⟨trivial, k, _, ep, ?_, by omega, by ((with_reducible assumption)), by ((with_reducible assumption)), HD, e1, ?_, X1⟩
        · rw [show ((ties.length : Int) - (k + 1 : Nat) + 1) = (ties.length : Int) - k by omega]
        · have e2 : ties.length - k = ties.length - (k + 1) + 1 := by omega
          rw [e2, Nat.add_mul, Nat.one_mul]
          omega
    · rintro l H1 ⟨k, f, ep, hr', hk, l1, l2, HD, e1, hlf, X1⟩
      have hk0 : k = 0 := by have := congrArg List.length hr'; simpa [rangeL_length] using this.symm
      subst hk0
      have e1' : f = walkT ties s := e1
      subst e1'
      exact ⟨ep, l1, l2, HD, X1⟩
  rintro l H1 ⟨ep, l1, l2, HD, X1⟩
  with_reducible refine GK.use (by assumption) ?_
  with_reducible refine SS.cons (ST.gen fun _ _ => ?_)
  with_reducible refine ST.ret ?_
  with_reducible apply ET.var (by assumption)
  focus with_reducible assumption
  focus exact rfl
  with_reducible refine GK.use (by assumption) ?_
  exact h D ep _ X1 hD HD
end
end Mine
end
section
open PySem PySem.W PyProof.Rows PySem.Calls PySem.Spec
set_option maxRecDepth 100000
set_option maxHeartbeats 1000000
namespace Mine
mutual
theorem RD.ext {H H' : PH} (X : Ext H H') : ∀ {v : PV} {d : PyData}, RD H v d → RD H' v d
  | _, _, .none => .none
  | _, _, .bool b => .bool b
  | _, _, .int i => .int i
  | _, _, .str x => .str x
  | _, _, .tuple r => .tuple (RDs.ext X r)
  | _, _, .list e r => .list (X _ _ e) (RDs.ext X r)
theorem RDs.ext {H H' : PH} (X : Ext H H') : ∀ {v : List PV} {d : List PyData}, RDs H v d → RDs H' v d
  | _, _, .nil => .nil
  | _, _, .cons x r => .cons (RD.ext X x) (RDs.ext X r)
end
theorem RDs.snoc {H : PH} {v : PV} {d : PyData} (x : RD H v d) : ∀ {vs : List PV} {ds : List PyData}, RDs H vs ds → RDs H (vs ++ [v]) (ds ++ [d])
  | _, _, .nil => .cons x .nil
  | _, _, .cons y r => .cons y (RDs.snoc x r)
theorem RDs.length {H : PH} : ∀ {vs : List PV} {ds : List PyData}, RDs H vs ds → vs.length = ds.length
  | _, _, .nil => rfl
  | _, _, .cons _ r => congrArg (· + 1) (RDs.length r)
theorem dgetT_key {t : Tab Int} {k : Int} (h : k ∈ keysT t) : dgetT t k = some (valT t k) := by
  unfold valT
  rcases hq : dgetT t k with _ | v
  · exact absurd h (dgetT_none.mp hq)
  · rfl
theorem foldl_min : ∀ (l : List Int) (x : Int), l.foldl min x ≤ x ∧ (∀ y ∈ l, l.foldl min x ≤ y) ∧ (l.foldl min x = x ∨ l.foldl min x ∈ l)
  | [], x => ⟨Int.le_refl _, by simp, .inl rfl⟩
  | y :: l, x => by
    obtain ⟨h1, h2, h3⟩ := foldl_min l (min x y)
    rw [List.foldl_cons]
    refine ⟨by omega, fun z hz => ?_, ?_⟩
    · rcases List.mem_cons.mp hz with rfl | hz
      · omega
      · exact h2 z hz
    · rcases h3 with h3 | h3
      · rw [h3]
        by_cases q : x ≤ y
        · left; omega
        · right; rw [show min x y = y by omega]; simp
      · right; simp [h3]
theorem minOf_mem {l : List Int} (h : l ≠ []) : minOf l ∈ l ∧ ∀ x ∈ l, minOf l ≤ x := by
  cases l with
  | nil => exact absurd rfl h
  | cons x r =>
    obtain ⟨h1, h2, h3⟩ := foldl_min r x
    refine ⟨?_, fun z hz => ?_⟩
    · rcases h3 with h3 | h3
      · show List.foldl min x r ∈ x :: r; rw [h3]; simp
      · exact List.mem_cons_of_mem _ h3
    · rcases List.mem_cons.mp hz with rfl | hz
      · exact h1
      · exact h2 z hz
theorem minOf_eq {l : List Int} {m : Int} (h1 : m ∈ l) (h2 : ∀ x ∈ l, m ≤ x) : m = minOf l := by
  obtain ⟨a, b⟩ := minOf_mem (l := l) (fun z => by rw [z] at h1; cases h1)
  have := h2 _ a
  have := b _ h1
  omega
theorem wstep_ne {f : Tab Int} {c : Claim} (h : f ≠ []) : wstep f c ≠ [] := by
  unfold wstep; split <;> simp [h]
theorem wround_ne : ∀ (ties : List Claim) {f : Tab Int}, f ≠ [] → wround ties f ≠ []
  | [], _, h => h
  | c :: r, f, h => wround_ne r (wstep_ne h)
theorem wgo_ne (ties : List Claim) : ∀ (n : Nat) {f : Tab Int}, f ≠ [] → wgo ties n f ≠ []
  | 0, _, h => h
  | n + 1, f, h => wgo_ne ties n (wround_ne ties h)
theorem walkT_ne (ties : List Claim) (s : Int) : walkT ties s ≠ [] := wgo_ne ties _ (by simp)
theorem keysT_ne {t : Tab Int} (h : t ≠ []) : keysT t ≠ [] := by unfold keysT; simpa using h
theorem walkP_keys (t : Tab Int) : (walkP t).map (·.1) = keysT t := by simp [walkP, keysT]
noncomputable def ansD : Ans → PyData
  | .pt k => .int k
  | .told l => .list (l.map fun e => .str (sOf (lineL e.1 e.2)))
noncomputable def rowD (r : Int × Int × Int) : PyData := .tuple [.int r.1, .int r.2.1, .int r.2.2]
noncomputable def rowP (r : Int × Int × Int) : PV := .tuple [.int r.1, .int r.2.1, .int r.2.2]
theorem rows_rd (H : PH) : ∀ (l : List (Int × Int × Int)), RDs H (l.map rowP) (l.map rowD)
  | [] => .nil
  | r :: l => .cons (.tuple (.cons (.int _) (.cons (.int _) (.cons (.int _) .nil)))) (rows_rd H l)
section
variable {g : Gd} {A : Around} {H : PH} {Q : PV → PH → Prop}
theorem gb_min (I : Is g) : GB g "min" (.builtin "min") := ⟨by rw [I.K]; k_is, by decide, rfl⟩
theorem gb_max (I : Is g) : GB g "max" (.builtin "max") := ⟨by rw [I.K]; k_is, by decide, rfl⟩
theorem ck_min : CallK g (.builtin "min") := .inl ⟨_, rfl⟩
theorem ck_max : CallK g (.builtin "max") := .inl ⟨_, rfl⟩
theorem gl_walk (I : Is g) : nsIn g.K mainGlobals "_law_walk" = some (some (.ref 193)) := by rw [I.K]; k_is
theorem gl_size (I : Is g) : nsIn g.K mainGlobals "_law_size" = some (some (.ref 200)) := by rw [I.K]; k_is
theorem ck_193 (I : Is g) : CallK g (.ref 193) := .inr (.inr (by rw [I.K]; k_is))
theorem ck_200 (I : Is g) : CallK g (.ref 200) := .inr (.inr (by rw [I.K]; k_is))
theorem min_walk {n : Nat} {D : Addr} {t : Tab Int} {ep : Nat} (R : Room A n) (e : H D = some ((ik g).pack (walkP t) ep)) (h0 : t ≠ []) (h : Q (.int (minOf (keysT t))) H) : CT g A H (.builtin "min") [.ref D] Q :=
  CT.minK (es := walkP t) (ep := ep) R e (by simpa [walkP] using h0) fun m h1 h2 => by
    rw [walkP_keys] at h1 h2
    rw [minOf_eq h1 h2]; exact h
theorem max_if (a b : Int) : (if b > a then b else a) = max a b := by split <;> omega
theorem ext_none {H H' : PH} {a : Addr} (X : Ext H H') (h : H' a = none) : H a = none := by
  cases q : H a with
  | none => rfl
  | some po => have := X _ _ q; rw [h] at this; cases this
theorem hup_both {H H' : PH} {a : Addr} {o : PO} (X : Ext H H') : Ext (Mine.hup H a o) (Mine.hup H' a o) := fun b po e => by
  by_cases z : b = a
  · subst z; rw [hup_at] at e ⊢; exact e
  · rw [hup_ne z] at e ⊢; exact X _ _ e
theorem strs_rd (H : PH) : ∀ (l : List (Int × Int)), RDs H (l.map fun e => .str (sOf (lineL e.1 e.2))) (l.map fun e => .str (sOf (lineL e.1 e.2)))
  | [] => .nil
  | _ :: l => .cons (.str _) (strs_rd H l)
inductive BwI (H : PH) (a T An : Addr) (claims : List Claim) (r : List PV) (l : PL) (H1 : PH) : Prop where
  | mk (c1 c2 ties : List Claim) (as : List Ans) (vs : List PV) (Hs : PH) (_ : claims = c1 ++ c2) (_ : r = c2.map claimP) (_ : l (Str.ofString "claims") = some (.ref a)) (_ : l (Str.ofString "ties") = some (.ref T)) (_ : l (Str.ofString "answers") = some (.ref An)) (_ : H1 T = some (.list (ties.map claimP))) (_ : H1 An = some (.list vs)) (_ : RDs Hs vs (as.map ansD)) (_ : Hs T = none) (_ : Hs An = none) (_ : Ext H Hs) (_ : Ext Hs H1)
      (_ : ties.length ≤ c1.length) (_ : as.length = c1.length) (_ : (wAll [] claims).1 = (wAll ties c2).1) (_ : (wAll [] claims).2 = as ++ (wAll ties c2).2) : BwI H a T An claims r l H1
inductive BwM (H : PH) (T An : Addr) (claims : List Claim) (l : PL) (H1 : PH) : Prop where
  | mk (vs : List PV) (Hs : PH) (_ : l (Str.ofString "ties") = some (.ref T)) (_ : l (Str.ofString "answers") = some (.ref An)) (_ : H1 T = some (.list ((wAll [] claims).1.map claimP))) (_ : H1 An = some (.list vs)) (_ : RDs Hs vs ((wAll [] claims).2.map ansD)) (_ : Hs T = none) (_ : Hs An = none) (_ : Ext H Hs) (_ : Ext Hs H1) (_ : (wAll [] claims).1.length ≤ claims.length) : BwM H T An claims l H1
inductive HgI (H1 : PH) (T An G : Addr) (ties : List Claim) (r : List PV) (l : PL) (H3 : PH) : Prop where
  | mk (k n : Nat) (_ : k + n = 6) (_ : r = rangeL (1 + (k : Int)) 1 n) (_ : l (Str.ofString "ties") = some (.ref T)) (_ : l (Str.ofString "answers") = some (.ref An)) (_ : l (Str.ofString "heights") = some (.ref G)) (_ : H3 G = some (.list (((List.range k).map fun i : Nat => wHeight ties ((i : Int) + 1)).map rowP))) (_ : Ext H1 H3) : HgI H1 T An G ties r l H3
inductive HgM (H1 : PH) (T An G : Addr) (ties : List Claim) (l : PL) (H3 : PH) : Prop where
  | mk (_ : l (Str.ofString "answers") = some (.ref An)) (_ : l (Str.ofString "heights") = some (.ref G)) (_ : H3 G = some (.list ((six.map (wHeight ties)).map rowP))) (_ : Ext H1 H3) : HgM H1 T An G ties l H3
theorem bywalk_ct (I : Is g) (R : Room A 10) {a : Addr} {claims : List Claim} (ha : H a = some (.list (claims.map claimP))) (hl : claims.length ≤ 100)
    (tell : ∀ x ∈ (wAll [] claims).2, ∀ l, x = .told l → ∀ e ∈ l, e.1.natAbs < 2 ^ 53 ∧ e.2.natAbs < 2 ^ 53)
    (h : ∀ v H', Ext H H' → RD H' v (.tuple [.list ((wAll [] claims).2.map ansD), .list ((six.map (wHeight (wAll [] claims).1)).map rowD)]) → Q v H') : CT g A H (.ref 207) [.ref a] Q := by
  refine' CT.def (n := 9) (ns := [Str.ofString "claims"]) I.ok R (ho := ?ho) (hfd := ?hfd) (hb := ?hb) (hcode := ?hc) (hnames := ?hnm) ?h1 ?h2 ?h3 ?h4 ?h5 ?h6 ?h7 ?h8 ?h9 rfl ?_
  case ho => rw [I.K]; k_is
  case hfd => exact rfl
  case hb => exact rfl
  case hc => rw [I.K]; k_is
  case hnm => exact rfl
  case h1 => exact rfl
  case h2 => exact rfl
  case h3 => exact rfl
  case h4 => exact rfl
  case h5 => exact rfl
  case h6 => exact rfl
  case h7 => (intro s vs hv; obtain ⟨x0, rfl⟩ := len1 hv; exact BindsTo.of_eq rfl)
  case h8 => decide
  case h9 => exact rfl
  intro env A' hE hk hF hR
  dsimp only at hk
  with_reducible refine SS.cons (ST.gen fun _ _ => ?_)
  with_reducible refine ST.assign (by assumption) ?_ ?_ ?_
  focus refine Or.inl ?_; (with_reducible refine KO.at (by assumption) ?_); exact rfl
  focus exact rfl
  with_reducible refine ET.list (Is.ok (by assumption)) ?_
  with_reducible refine ETs.nil ?_
  with_reducible refine szAnd ?_ ?_
  focus exact rfl
  intro T hT
  with_reducible refine GK.use (by assumption) ?_
  with_reducible refine SS.cons (ST.gen fun _ _ => ?_)
  with_reducible refine ST.assign (by assumption) ?_ ?_ ?_
  focus refine Or.inl ?_; (with_reducible refine KO.at (by assumption) ?_); exact rfl
  focus exact rfl
  with_reducible refine ET.list (Is.ok (by assumption)) ?_
  with_reducible refine ETs.nil ?_
  with_reducible refine szAnd ?_ ?_
  focus exact rfl
  intro An hAn
  have hTA : T ≠ An := fun z => by rw [z] at hAn; rw [hup_at] at hAn; cases hAn
  have hAn0 : H An = none := by rwa [hup_ne hTA.symm] at hAn
  have haT : a ≠ T := ne_of ha hT
  have haA : a ≠ An := ne_of ha hAn0
  have XH := (((Ext.refl H).hup (o := .list []) hT).hup (o := .list []) hAn)
  have HT0 := hup_keep (o := .list []) (hup_at H T (.list [])) hAn
  have HA0 := hup_at (hup H T (.list [])) An (.list [])
  generalize hup (hup H T (.list [])) An (.list []) = H0 at XH HT0 HA0
  with_reducible refine GK.use (by assumption) ?_
  with_reducible refine SS.cons (ST.gen fun _ _ => ?_)
  refine ST.cut (BwM H T An claims) ?_ ?_
  · refine ST.forI (fun _ _ => rfl) (BwI H a T An claims) (fun H1 => H1 a = some (.list (claims.map claimP))) (IT.list hR.hh ?_) ?_ ?_
    · with_reducible apply ET.var (by assumption)
      focus (with_reducible refine (upd_ne ?_).trans ?_); (focus (first | assumption | exact (by decide))); (with_reducible refine (upd_ne ?_).trans ?_); (focus (first | assumption | exact (by decide))); with_reducible exact parms_at
      focus exact rfl
      exact ⟨a, _, rfl, XH _ _ ha, rfl, [], claims, [], [], [], H, rfl, rfl, by (((with_reducible refine (upd_ne ?_).trans ?_); (focus (first | assumption | exact (by decide))); (with_reducible refine (upd_ne ?_).trans ?_); (focus (first | assumption | exact (by decide))); with_reducible exact parms_at)), by (((with_reducible refine (upd_ne ?_).trans ?_); (focus (first | assumption | exact (by decide))); with_reducible exact upd_at _ _ _)), by ((with_reducible exact upd_at _ _ _)), HT0, HA0, .nil, hT, hAn0, Ext.refl _, XH, Nat.le_refl _, rfl, rfl, rfl⟩
    · rintro v r l H1 ⟨c1, c2, ties, as, vs, Hs, e0, hr', l1, l2, l3, HT, HA, rd, sT, sA, XS, X1, htl, hasl, w1, w2⟩
      cases c2 with
      | nil => cases hr'
      | cons c c2 =>
      injection hr' with hv hr2
      subst hv hr2
      have hcl : c1.length + (c2.length + 1) ≤ 100 := by rw [e0] at hl; simpa using hl
      obtain ⟨b, a', sz, ct⟩ := c
      rw [show claimP (b, a', sz, ct) = .tuple [.int b, .int a', .int sz, .int ct] from rfl]
      with_reducible refine AT.tuple (Room.hh (by assumption)) ?_ ?_ ?_
      focus exact rfl
      focus exact rfl
      with_reducible refine ATs.cons ?_
      with_reducible refine AT.name (by assumption) ?_ ?_
      focus refine Or.inl ?_; (with_reducible refine KO.at (by assumption) ?_); exact rfl
      with_reducible refine ATs.cons ?_
      with_reducible refine AT.name (by assumption) ?_ ?_
      focus refine Or.inl ?_; (with_reducible refine KO.at (by assumption) ?_); exact rfl
      with_reducible refine ATs.cons ?_
      with_reducible refine AT.name (by assumption) ?_ ?_
      focus refine Or.inl ?_; (with_reducible refine KO.at (by assumption) ?_); exact rfl
      with_reducible refine ATs.cons ?_
      with_reducible refine AT.name (by assumption) ?_ ?_
      focus refine Or.inl ?_; (with_reducible refine KO.at (by assumption) ?_); exact rfl
      with_reducible refine ATs.nil ?_
      with_reducible refine SS.cons (ST.gen fun _ _ => ?_)
      with_reducible refine ST.assign (by assumption) ?_ ?_ ?_
      focus refine Or.inl ?_; (with_reducible refine KO.at (by assumption) ?_); exact rfl
      focus exact rfl
      with_reducible refine ET.call (Is.ok (by assumption)) ?_ ?_
      focus exact rfl
      with_reducible apply ET.glob (by assumption) (Is.ok (by assumption))
      focus (with_reducible refine KO.at (by assumption) ?_); exact rfl
      focus exact rfl
      focus with_reducible exact gl_walk (by assumption)
      with_reducible refine ⟨_, rfl, ?_, ?_⟩
      focus with_reducible exact ck_193 (by assumption)
      with_reducible refine ETs.cons ?_ ?_
      focus (intro _; exact rfl)
      with_reducible apply ET.var (by assumption)
      focus (with_reducible refine (upd_ne ?_).trans ?_); (focus (first | assumption | exact (by decide))); (with_reducible refine (upd_ne ?_).trans ?_); (focus (first | assumption | exact (by decide))); (with_reducible refine (upd_ne ?_).trans ?_); (focus (first | assumption | exact (by decide))); (with_reducible refine (upd_ne ?_).trans ?_); (focus (first | assumption | exact (by decide))); with_reducible assumption
      focus exact rfl
      with_reducible refine ETs.cons ?_ ?_
      focus (intro _; exact rfl)
      with_reducible apply ET.var (by assumption)
      focus (with_reducible refine (upd_ne ?_).trans ?_); (focus (first | assumption | exact (by decide))); (with_reducible refine (upd_ne ?_).trans ?_); (focus (first | assumption | exact (by decide))); (with_reducible refine (upd_ne ?_).trans ?_); (focus (first | assumption | exact (by decide))); with_reducible exact upd_at _ _ _
      focus exact rfl
      with_reducible refine ETs.nil ?_
      refine walk_ct I (hR.le (by decide)) HT (by omega) fun D ep H2 X2 hD HD => ?_
      with_reducible refine GK.use (by assumption) ?_
      with_reducible refine SS.cons (ST.gen fun _ _ => ?_)
      with_reducible refine ST.ite ?_
      with_reducible refine BT.cmp ?_ ?_
      focus exact rfl
      with_reducible apply ET.var (by assumption)
      focus (with_reducible refine (upd_ne ?_).trans ?_); (focus (first | assumption | exact (by decide))); (with_reducible refine (upd_ne ?_).trans ?_); (focus (first | assumption | exact (by decide))); (with_reducible refine (upd_ne ?_).trans ?_); (focus (first | assumption | exact (by decide))); with_reducible exact upd_at _ _ _
      focus exact rfl
      with_reducible apply ET.var (by assumption)
      focus with_reducible exact upd_at _ _ _
      focus exact rfl
      refine CmpT.inD (ik g) (k := a') HD ?_
      rw [walkP_get]
      with_reducible refine TrT.bool ?_
      rcases hg : dgetT (walkT ties b) a' with _ | va
      · have ew : wAns ties (b, a', sz, ct) = (ties ++ [(b, a', sz, ct)], .pt (max (minOf (keysT (walkT ties b))) (minOf (keysT (walkT ties a'))))) := by unfold wAns; rw [hg]
        rw [wAll, ew] at w1 w2
        refine iteF' rfl ?_
        have HA2 := X2 _ _ HA
        with_reducible refine SS.cons (ST.gen fun _ _ => ?_)
        with_reducible refine ST.expr (by assumption) ?_ ?_
        focus (intro _; exact rfl)
        refine ET.meth (T := "list") (id := "list.append") (Is.ok (by assumption)) ?_ ?_ ?_ ?_ PySem.F.plainAttrs_list PySem.F.slot_list_append PySem.F.type_list_append ?_
        focus exact rfl
        focus exact rfl
        focus exact (by decide)
        focus exact rfl
        (with_reducible apply ET.var (by assumption)); (focus (with_reducible refine (upd_ne ?_).trans ?_); (focus (first | assumption | exact (by decide))); (with_reducible refine (upd_ne ?_).trans ?_); (focus (first | assumption | exact (by decide))); (with_reducible refine (upd_ne ?_).trans ?_); (focus (first | assumption | exact (by decide))); (with_reducible refine (upd_ne ?_).trans ?_); (focus (first | assumption | exact (by decide))); (with_reducible refine (upd_ne ?_).trans ?_); (focus (first | assumption | exact (by decide))); with_reducible assumption); (focus exact rfl)
        apply methL
        focus with_reducible assumption
        with_reducible refine ETs.cons ?_ ?_
        focus (intro _; exact rfl)
        with_reducible refine ET.call (Is.ok (by assumption)) ?_ ?_
        focus exact rfl
        with_reducible apply ET.bi (by assumption) (Is.ok (by assumption))
        focus (with_reducible refine KO.at (by assumption) ?_); exact rfl
        focus exact rfl
        focus with_reducible exact gb_max (by assumption)
        with_reducible refine ⟨_, rfl, ?_, ?_⟩
        focus with_reducible exact ck_max
        with_reducible refine ETs.cons ?_ ?_
        focus (intro _; exact rfl)
        with_reducible refine ET.call (Is.ok (by assumption)) ?_ ?_
        focus exact rfl
        with_reducible apply ET.bi (by assumption) (Is.ok (by assumption))
        focus (with_reducible refine KO.at (by assumption) ?_); exact rfl
        focus exact rfl
        focus with_reducible exact gb_min (by assumption)
        with_reducible refine ⟨_, rfl, ?_, ?_⟩
        focus with_reducible exact ck_min
        with_reducible refine ETs.cons ?_ ?_
        focus (intro _; exact rfl)
        with_reducible apply ET.var (by assumption)
        focus with_reducible exact upd_at _ _ _
        focus exact rfl
        with_reducible refine ETs.nil ?_
        refine min_walk hR HD (walkT_ne _ _) ?_
        with_reducible refine ETs.cons ?_ ?_
        focus (intro _; exact rfl)
        with_reducible refine ET.call (Is.ok (by assumption)) ?_ ?_
        focus exact rfl
        with_reducible apply ET.bi (by assumption) (Is.ok (by assumption))
        focus (with_reducible refine KO.at (by assumption) ?_); exact rfl
        focus exact rfl
        focus with_reducible exact gb_min (by assumption)
        with_reducible refine ⟨_, rfl, ?_, ?_⟩
        focus with_reducible exact ck_min
        with_reducible refine ETs.cons ?_ ?_
        focus (intro _; exact rfl)
        with_reducible refine ET.call (Is.ok (by assumption)) ?_ ?_
        focus exact rfl
        with_reducible apply ET.glob (by assumption) (Is.ok (by assumption))
        focus (with_reducible refine KO.at (by assumption) ?_); exact rfl
        focus exact rfl
        focus with_reducible exact gl_walk (by assumption)
        with_reducible refine ⟨_, rfl, ?_, ?_⟩
        focus with_reducible exact ck_193 (by assumption)
        with_reducible refine ETs.cons ?_ ?_
        focus (intro _; exact rfl)
        with_reducible apply ET.var (by assumption)
        focus (with_reducible refine (upd_ne ?_).trans ?_); (focus (first | assumption | exact (by decide))); (with_reducible refine (upd_ne ?_).trans ?_); (focus (first | assumption | exact (by decide))); (with_reducible refine (upd_ne ?_).trans ?_); (focus (first | assumption | exact (by decide))); (with_reducible refine (upd_ne ?_).trans ?_); (focus (first | assumption | exact (by decide))); (with_reducible refine (upd_ne ?_).trans ?_); (focus (first | assumption | exact (by decide))); with_reducible assumption
        focus exact rfl
        with_reducible refine ETs.cons ?_ ?_
        focus (intro _; exact rfl)
        with_reducible apply ET.var (by assumption)
        focus (with_reducible refine (upd_ne ?_).trans ?_); (focus (first | assumption | exact (by decide))); (with_reducible refine (upd_ne ?_).trans ?_); (focus (first | assumption | exact (by decide))); (with_reducible refine (upd_ne ?_).trans ?_); (focus (first | assumption | exact (by decide))); with_reducible exact upd_at _ _ _
        focus exact rfl
        with_reducible refine ETs.nil ?_
        refine walk_ct I (hR.le (by decide)) (X2 _ _ HT) (by omega) fun D2 ep2 H3 X3 hD2 HD2 => ?_
        have HA3 := X3 _ _ HA2
        have HT3 := X3 _ _ (X2 _ _ HT)
        with_reducible refine ETs.nil ?_
        refine min_walk hR HD2 (walkT_ne _ _) ?_
        with_reducible refine ETs.nil ?_
        refine CT.max2 hR ?_
        rw [max_if]
        with_reducible refine ETs.nil ?_
        apply CT.append
        focus with_reducible assumption
        · have := rd.length; simp at this; unfold sizeLine; omega
        refine ⟨rfl, ?_⟩
        with_reducible refine GK.use (by assumption) ?_
        with_reducible refine SS.cons (ST.gen fun _ _ => ?_)
        with_reducible refine ST.expr (by assumption) ?_ ?_
        focus (intro _; exact rfl)
        refine ET.meth (T := "list") (id := "list.append") (Is.ok (by assumption)) ?_ ?_ ?_ ?_ PySem.F.plainAttrs_list PySem.F.slot_list_append PySem.F.type_list_append ?_
        focus exact rfl
        focus exact rfl
        focus exact (by decide)
        focus exact rfl
        (with_reducible apply ET.var (by assumption)); (focus (with_reducible refine (upd_ne ?_).trans ?_); (focus (first | assumption | exact (by decide))); (with_reducible refine (upd_ne ?_).trans ?_); (focus (first | assumption | exact (by decide))); (with_reducible refine (upd_ne ?_).trans ?_); (focus (first | assumption | exact (by decide))); (with_reducible refine (upd_ne ?_).trans ?_); (focus (first | assumption | exact (by decide))); (with_reducible refine (upd_ne ?_).trans ?_); (focus (first | assumption | exact (by decide))); with_reducible assumption); (focus exact rfl)
        apply methL
        focus (with_reducible refine (hup_ne ?_).trans ?_); (focus with_reducible assumption); with_reducible assumption
        (with_reducible refine ETs.cons ?_ ?_); (focus (intro _; exact rfl)); (with_reducible refine ET.tuple ?_); (with_reducible refine ETs.cons ?_ ?_); (focus (intro _; exact rfl)); (with_reducible apply ET.var (by assumption)); (focus (with_reducible refine (upd_ne ?_).trans ?_); (focus (first | assumption | exact (by decide))); (with_reducible refine (upd_ne ?_).trans ?_); (focus (first | assumption | exact (by decide))); (with_reducible refine (upd_ne ?_).trans ?_); (focus (first | assumption | exact (by decide))); (with_reducible refine (upd_ne ?_).trans ?_); (focus (first | assumption | exact (by decide))); with_reducible exact upd_at _ _ _); (focus exact rfl); (with_reducible refine ETs.cons ?_ ?_); (focus (intro _; exact rfl)); (with_reducible apply ET.var (by assumption)); (focus (with_reducible refine (upd_ne ?_).trans ?_); (focus (first | assumption | exact (by decide))); (with_reducible refine (upd_ne ?_).trans ?_); (focus (first | assumption | exact (by decide))); (with_reducible refine (upd_ne ?_).trans ?_); (focus (first | assumption | exact (by decide))); with_reducible exact upd_at _ _ _); (focus exact rfl); (with_reducible refine ETs.cons ?_ ?_); (focus (intro _; exact rfl)); (with_reducible apply ET.var (by assumption)); (focus (with_reducible refine (upd_ne ?_).trans ?_); (focus (first | assumption | exact (by decide))); (with_reducible refine (upd_ne ?_).trans ?_); (focus (first | assumption | exact (by decide))); with_reducible exact upd_at _ _ _); (focus exact rfl); (with_reducible refine ETs.cons ?_ ?_); (focus (intro _; exact rfl)); (with_reducible apply ET.var (by assumption)); (focus (with_reducible refine (upd_ne ?_).trans ?_); (focus (first | assumption | exact (by decide))); with_reducible exact upd_at _ _ _); (focus exact rfl); (with_reducible refine ETs.nil ?_); (with_reducible refine szAnd ?_ ?_); (focus exact rfl); (with_reducible refine ETs.nil ?_)
        apply CT.append
        focus (with_reducible refine (hup_ne ?_).trans ?_); (focus with_reducible assumption); with_reducible assumption
        · simp; unfold sizeLine; omega
        refine ⟨rfl, ?_⟩
        with_reducible refine GK.use (by assumption) ?_
        with_reducible refine SS.nil ?_
        with_reducible refine GK.use (by assumption) ?_
        with_reducible refine SS.nil ?_
        have X5 : Ext Hs (hup (hup H3 An (.list (vs ++ [.int (max (minOf (keysT (walkT ties b))) (minOf (keysT (walkT ties a'))))]))) T (.list (ties.map claimP ++ [.tuple [.int b, .int a', .int sz, .int ct]]))) := ((X1.trans (X2.trans X3)).own sA).own sT
        exact ⟨X5 _ _ (XS _ _ ha), c1 ++ [(b, a', sz, ct)], c2, ties ++ [(b, a', sz, ct)], as ++ [.pt (max (minOf (keysT (walkT ties b))) (minOf (keysT (walkT ties a'))))], _, Hs, by rw [e0]; simp, rfl, by (((with_reducible refine (upd_ne ?_).trans ?_); (focus (first | assumption | exact (by decide))); (with_reducible refine (upd_ne ?_).trans ?_); (focus (first | assumption | exact (by decide))); (with_reducible refine (upd_ne ?_).trans ?_); (focus (first | assumption | exact (by decide))); (with_reducible refine (upd_ne ?_).trans ?_); (focus (first | assumption | exact (by decide))); (with_reducible refine (upd_ne ?_).trans ?_); (focus (first | assumption | exact (by decide))); with_reducible assumption)), by (((with_reducible refine (upd_ne ?_).trans ?_); (focus (first | assumption | exact (by decide))); (with_reducible refine (upd_ne ?_).trans ?_); (focus (first | assumption | exact (by decide))); (with_reducible refine (upd_ne ?_).trans ?_); (focus (first | assumption | exact (by decide))); (with_reducible refine (upd_ne ?_).trans ?_); (focus (first | assumption | exact (by decide))); (with_reducible refine (upd_ne ?_).trans ?_); (focus (first | assumption | exact (by decide))); with_reducible assumption)), by (((with_reducible refine (upd_ne ?_).trans ?_); (focus (first | assumption | exact (by decide))); (with_reducible refine (upd_ne ?_).trans ?_); (focus (first | assumption | exact (by decide))); (with_reducible refine (upd_ne ?_).trans ?_); (focus (first | assumption | exact (by decide))); (with_reducible refine (upd_ne ?_).trans ?_); (focus (first | assumption | exact (by decide))); (with_reducible refine (upd_ne ?_).trans ?_); (focus (first | assumption | exact (by decide))); with_reducible assumption)), by rw [hup_at, List.map_append]; rfl, (hup_ne hTA.symm).trans (hup_at _ _ _), by rw [List.map_append]; exact rd.snoc (.int _), sT, sA, XS, X5, by simp; omega, by simp; omega, w1, by rw [w2]; simp⟩
      · have hg2 : dget (walkP (walkT ties b)) a' = some (.tuple [.int va.1, .int va.2]) := by rw [walkP_get, hg]; rfl
        have ew : wAns ties (b, a', sz, ct) = (ties, .told (if (sz - va.1 == 0 && ct - va.2 == 0) = true then [] else [(-(sz - va.1), -(ct - va.2))])) := by unfold wAns; rw [hg]
        rw [wAll, ew] at w1 w2
        have hb : (-(sz - va.1)).natAbs < 2 ^ 53 ∧ (-(ct - va.2)).natAbs < 2 ^ 53 := by
          by_cases hz : (sz - va.1 == 0 && ct - va.2 == 0) = true
          · simp at hz; omega
          · refine tell (.told [(-(sz - va.1), -(ct - va.2))]) ?_ _ rfl (-(sz - va.1), -(ct - va.2)) (by simp)
            rw [w2, if_neg hz]; exact List.mem_append_right _ (List.mem_cons_self ..)
        refine iteT' rfl ?_
        with_reducible refine SS.cons (ST.gen fun _ _ => ?_)
        with_reducible refine ST.assign (by assumption) ?_ ?_ ?_
        focus refine Or.inl ?_; (with_reducible refine KO.at (by assumption) ?_); exact rfl
        focus exact rfl
        with_reducible refine ET.binop ?_
        with_reducible apply ET.var (by assumption)
        focus (with_reducible refine (upd_ne ?_).trans ?_); (focus (first | assumption | exact (by decide))); (with_reducible refine (upd_ne ?_).trans ?_); (focus (first | assumption | exact (by decide))); with_reducible exact upd_at _ _ _
        focus exact rfl
        with_reducible refine ET.sub ?_ ?_
        focus nofun
        with_reducible refine ET.sub ?_ ?_
        focus nofun
        with_reducible apply ET.var (by assumption)
        focus with_reducible exact upd_at _ _ _
        focus exact rfl
        with_reducible apply ET.var (by assumption)
        focus (with_reducible refine (upd_ne ?_).trans ?_); (focus (first | assumption | exact (by decide))); (with_reducible refine (upd_ne ?_).trans ?_); (focus (first | assumption | exact (by decide))); (with_reducible refine (upd_ne ?_).trans ?_); (focus (first | assumption | exact (by decide))); with_reducible exact upd_at _ _ _
        focus exact rfl
        refine SubT.dict (ik g) (k := a') HD hg2 ?_
        with_reducible refine ET.int ?_
        refine SubT.tuple (j := 0) (by decide) (by decide) rfl rfl ?_
        with_reducible refine BinT.sub ?_
        with_reducible refine GK.use (by assumption) ?_
        with_reducible refine SS.cons (ST.gen fun _ _ => ?_)
        with_reducible refine ST.assign (by assumption) ?_ ?_ ?_
        focus refine Or.inl ?_; (with_reducible refine KO.at (by assumption) ?_); exact rfl
        focus exact rfl
        with_reducible refine ET.binop ?_
        with_reducible apply ET.var (by assumption)
        focus (with_reducible refine (upd_ne ?_).trans ?_); (focus (first | assumption | exact (by decide))); (with_reducible refine (upd_ne ?_).trans ?_); (focus (first | assumption | exact (by decide))); with_reducible exact upd_at _ _ _
        focus exact rfl
        with_reducible refine ET.sub ?_ ?_
        focus nofun
        with_reducible refine ET.sub ?_ ?_
        focus nofun
        with_reducible apply ET.var (by assumption)
        focus (with_reducible refine (upd_ne ?_).trans ?_); (focus (first | assumption | exact (by decide))); with_reducible exact upd_at _ _ _
        focus exact rfl
        with_reducible apply ET.var (by assumption)
        focus (with_reducible refine (upd_ne ?_).trans ?_); (focus (first | assumption | exact (by decide))); (with_reducible refine (upd_ne ?_).trans ?_); (focus (first | assumption | exact (by decide))); (with_reducible refine (upd_ne ?_).trans ?_); (focus (first | assumption | exact (by decide))); (with_reducible refine (upd_ne ?_).trans ?_); (focus (first | assumption | exact (by decide))); with_reducible exact upd_at _ _ _
        focus exact rfl
        refine SubT.dict (ik g) (k := a') HD hg2 ?_
        with_reducible refine ET.int ?_
        refine SubT.tuple (j := 1) (by decide) (by decide) rfl rfl ?_
        with_reducible refine BinT.sub ?_
        with_reducible refine GK.use (by assumption) ?_
        with_reducible refine SS.cons (ST.gen fun _ _ => ?_)
        with_reducible refine ST.assign (by assumption) ?_ ?_ ?_
        focus refine Or.inl ?_; (with_reducible refine KO.at (by assumption) ?_); exact rfl
        focus exact rfl
        with_reducible refine ET.binop ?_
        with_reducible refine ET.binop ?_
        with_reducible refine ET.binop ?_
        with_reducible refine ET.binop ?_
        with_reducible refine ET.str ?_
        with_reducible refine ET.call (Is.ok (by assumption)) ?_ ?_
        focus exact rfl
        with_reducible apply ET.glob (by assumption) (Is.ok (by assumption))
        focus (with_reducible refine KO.at (by assumption) ?_); exact rfl
        focus exact rfl
        focus with_reducible exact gl_size (by assumption)
        with_reducible refine ⟨_, rfl, ?_, ?_⟩
        focus with_reducible exact ck_200 (by assumption)
        with_reducible refine ETs.cons ?_ ?_
        focus (intro _; exact rfl)
        with_reducible refine ET.unop ?_
        with_reducible apply ET.var (by assumption)
        focus (with_reducible refine (upd_ne ?_).trans ?_); (focus (first | assumption | exact (by decide))); with_reducible exact upd_at _ _ _
        focus exact rfl
        with_reducible refine UnT.neg ?_
        with_reducible refine ETs.nil ?_
        refine lsz_ct I (hR.le (by decide)) hb.1 fun H3 X3 => ?_
        have hfl := fsz_len (plus := true) hb.1
        rw [← sOf_cps (Str.ofString "0: size=0 B (")]
        have q1 : (Str.ofString "0: size=0 B (").cps.toList.length = 13 := by decide +kernel
        have q2 : (Str.ofString "), count=0 (").cps.toList.length = 12 := by decide +kernel
        refine addL_sOf (by omega) (by omega) ?_
        with_reducible refine ET.str ?_
        rw [← sOf_cps (Str.ofString "), count=0 (")]
        refine addL_sOf (by rw [List.length_append]; omega) (by omega) ?_
        refine ET.cut (fun v H' => v = .str (sOf (if -(ct - va.2) < 0 then [45] else [43])) ∧ H' = H3) ?_ ?_
        · refine ET.ite ?_
          with_reducible refine BT.cmp ?_ ?_
          focus exact rfl
          with_reducible apply ET.var (by assumption)
          focus with_reducible exact upd_at _ _ _
          focus exact rfl
          with_reducible refine ET.int ?_
          with_reducible refine CmpT.gtI ?_
          with_reducible refine TrT.bool ?_
          refine iteC (fun hc => ?_) (fun hc => ?_)
          · with_reducible refine ET.str ?_
            have hc := of_decide_eq_true hc
            exact ⟨by rw [if_pos (by omega), show sOf [45] = Str.ofString "-" from by decide +kernel], rfl⟩
          · with_reducible refine ET.str ?_
            have hc := of_decide_eq_false hc
            exact ⟨by rw [if_neg (by omega), show sOf [43] = Str.ofString "+" from by decide +kernel], rfl⟩
        rintro v H4 ⟨rfl, rfl⟩
        have hsg : (if -(ct - va.2) < 0 then [45] else [43] : List Nat).length ≤ 1 := by split <;> simp
        refine addL_sOf (by simp only [List.length_append]; omega) (by omega) ?_
        with_reducible refine ET.binop ?_
        with_reducible refine ET.str ?_
        with_reducible refine ET.call (Is.ok (by assumption)) ?_ ?_
        focus exact rfl
        with_reducible apply ET.bi (by assumption) (Is.ok (by assumption))
        focus (with_reducible refine KO.at (by assumption) ?_); exact rfl
        focus exact rfl
        focus with_reducible exact gb_abs (by assumption)
        with_reducible refine ⟨_, rfl, ?_, ?_⟩
        focus with_reducible exact ck_abs
        with_reducible refine ETs.cons ?_ ?_
        focus (intro _; exact rfl)
        with_reducible apply ET.var (by assumption)
        focus with_reducible exact upd_at _ _ _
        focus exact rfl
        with_reducible refine ETs.nil ?_
        refine CT.abs ?_
        rw [absN]
        have lg : (((ct - va.2).natAbs : Int)).natAbs.log2 < 1920 := by
          have hm : (((ct - va.2).natAbs : Int)).natAbs < 2 ^ 53 := by omega
          by_cases h0 : (((ct - va.2).natAbs : Int)).natAbs = 0
          · rw [h0]; decide
          · exact (Nat.log2_lt h0).mpr (Nat.lt_of_lt_of_le hm (Nat.pow_le_pow_right (by decide) (by decide)))
        have hdl := dg_len2 (m := (ct - va.2).natAbs) (k := 20) (by decide) (by omega)
        have ho : sgnL false (decide (((ct - va.2).natAbs : Int) < 0)) (dg (((ct - va.2).natAbs : Int)).natAbs) ++ ([41] ++ []) = dg (ct - va.2).natAbs ++ [41] := by rw [sgnN, List.append_nil]
        refine BinT.pctI [.d 100, .lit [41]] (by decide +kernel) (by decide) lg (.int lg (.lit .nil)) (by rw [ho]; simp; omega) ?_
        rw [ho]
        refine addL_sOf (by simp only [List.length_append]; omega) (by simp; omega) ?_
        have eline : (Str.ofString "0: size=0 B (").cps.toList ++ fsz (-(sz - va.1)) true ++ (Str.ofString "), count=0 (").cps.toList ++ (if -(ct - va.2) < 0 then [45] else [43]) ++ (dg (ct - va.2).natAbs ++ [41]) = lineL (-(sz - va.1)) (-(ct - va.2)) := by
          unfold lineL sgnL
          rw [Int.natAbs_neg]
          by_cases hneg : -(ct - va.2) < 0
          · rw [if_pos hneg, if_pos (decide_eq_true hneg)]; simp only [List.append_assoc]
          · rw [if_neg hneg, if_neg (by simpa using hneg), if_pos rfl]; simp only [List.append_assoc]
        rw [eline]
        have HA4 := X3 _ _ (X2 _ _ HA)
        with_reducible refine GK.use (by assumption) ?_
        with_reducible refine SS.cons (ST.gen fun _ _ => ?_)
        with_reducible refine ST.expr (by assumption) ?_ ?_
        focus (intro _; exact rfl)
        refine ET.meth (T := "list") (id := "list.append") (Is.ok (by assumption)) ?_ ?_ ?_ ?_ PySem.F.plainAttrs_list PySem.F.slot_list_append PySem.F.type_list_append ?_
        focus exact rfl
        focus exact rfl
        focus exact (by decide)
        focus exact rfl
        (with_reducible apply ET.var (by assumption)); (focus (with_reducible refine (upd_ne ?_).trans ?_); (focus (first | assumption | exact (by decide))); (with_reducible refine (upd_ne ?_).trans ?_); (focus (first | assumption | exact (by decide))); (with_reducible refine (upd_ne ?_).trans ?_); (focus (first | assumption | exact (by decide))); (with_reducible refine (upd_ne ?_).trans ?_); (focus (first | assumption | exact (by decide))); (with_reducible refine (upd_ne ?_).trans ?_); (focus (first | assumption | exact (by decide))); (with_reducible refine (upd_ne ?_).trans ?_); (focus (first | assumption | exact (by decide))); (with_reducible refine (upd_ne ?_).trans ?_); (focus (first | assumption | exact (by decide))); (with_reducible refine (upd_ne ?_).trans ?_); (focus (first | assumption | exact (by decide))); with_reducible assumption); (focus exact rfl)
        apply methL
        focus with_reducible assumption
        with_reducible refine ETs.cons ?_ ?_
        focus (intro _; exact rfl)
        refine ET.cut (fun v H' => ∃ L, v = .ref L ∧ H4 L = none ∧ H' = hup H4 L (.list ((if (sz - va.1 == 0 && ct - va.2 == 0) = true then [] else [(-(sz - va.1), -(ct - va.2))]).map fun e : Int × Int => .str (sOf (lineL e.1 e.2))))) ?_ ?_
        · refine ET.ite ?_
          with_reducible refine BT.cmp ?_ ?_
          focus exact rfl
          with_reducible refine ET.tuple ?_
          with_reducible refine ETs.cons ?_ ?_
          focus (intro _; exact rfl)
          with_reducible apply ET.var (by assumption)
          focus (with_reducible refine (upd_ne ?_).trans ?_); (focus (first | assumption | exact (by decide))); (with_reducible refine (upd_ne ?_).trans ?_); (focus (first | assumption | exact (by decide))); with_reducible exact upd_at _ _ _
          focus exact rfl
          with_reducible refine ETs.cons ?_ ?_
          focus (intro _; exact rfl)
          with_reducible apply ET.var (by assumption)
          focus (with_reducible refine (upd_ne ?_).trans ?_); (focus (first | assumption | exact (by decide))); with_reducible exact upd_at _ _ _
          focus exact rfl
          with_reducible refine ETs.nil ?_
          with_reducible refine szAnd ?_ ?_
          focus exact rfl
          with_reducible refine ET.tuple ?_
          with_reducible refine ETs.cons ?_ ?_
          focus (intro _; exact rfl)
          with_reducible refine ET.int ?_
          with_reducible refine ETs.cons ?_ ?_
          focus (intro _; exact rfl)
          with_reducible refine ET.int ?_
          with_reducible refine ETs.nil ?_
          with_reducible refine szAnd ?_ ?_
          focus exact rfl
          with_reducible refine CmpT.nePair (by assumption) ?_
          with_reducible refine TrT.bool ?_
          refine iteC (fun hc => ?_) (fun hc => ?_)
          · have hc : ¬ (sz - va.1 == 0 && ct - va.2 == 0) = true := by intro z; rw [z] at hc; cases hc
            with_reducible refine ET.list (Is.ok (by assumption)) ?_
            with_reducible refine ETs.cons ?_ ?_
            focus (intro _; exact rfl)
            with_reducible apply ET.var (by assumption)
            focus with_reducible exact upd_at _ _ _
            focus exact rfl
            with_reducible refine ETs.nil ?_
            with_reducible refine szAnd ?_ ?_
            focus exact rfl
            intro L hL
            rw [if_neg hc]
            exact ⟨L, rfl, hL, rfl⟩
          · have hc : (sz - va.1 == 0 && ct - va.2 == 0) = true := by
              cases q : (sz - va.1 == 0 && ct - va.2 == 0) with
              | true => rfl
              | false => rw [q] at hc; cases hc
            with_reducible refine ET.list (Is.ok (by assumption)) ?_
            with_reducible refine ETs.nil ?_
            with_reducible refine szAnd ?_ ?_
            focus exact rfl
            intro L hL
            rw [if_pos hc]
            exact ⟨L, rfl, hL, rfl⟩
        rintro v H5 ⟨L, rfl, hL, rfl⟩
        generalize (if (sz - va.1 == 0 && ct - va.2 == 0) = true then [] else [(-(sz - va.1), -(ct - va.2))]) = tl at *
        with_reducible refine ETs.nil ?_
        apply CT.append
        focus (with_reducible refine (hup_ne ?_).trans ?_); (focus with_reducible exact ne_of (by assumption) (by assumption)); with_reducible assumption
        · have := rd.length; simp at this; unfold sizeLine; omega
        refine ⟨rfl, ?_⟩
        with_reducible refine GK.use (by assumption) ?_
        with_reducible refine SS.nil ?_
        with_reducible refine GK.use (by assumption) ?_
        with_reducible refine SS.nil ?_
        have hsL : Hs L = none := ext_none (X1.trans (X2.trans X3)) hL
        have hLA : An ≠ L := ne_of HA4 hL
        have hLT : T ≠ L := ne_of (X3 _ _ (X2 _ _ HT)) hL
        have X5 : Ext (hup Hs L (.list (tl.map fun e : Int × Int => .str (sOf (lineL e.1 e.2))))) (hup (hup H4 L (.list (tl.map fun e : Int × Int => .str (sOf (lineL e.1 e.2))))) An (.list (vs ++ [.ref L]))) := (hup_both (X1.trans (X2.trans X3))).own ((hup_ne hLA).trans sA)
        have XSL : Ext Hs (hup Hs L (.list (tl.map fun e : Int × Int => .str (sOf (lineL e.1 e.2))))) := (Ext.refl Hs).hup hsL
        exact ⟨X5 _ _ (XSL _ _ (XS _ _ ha)), c1 ++ [(b, a', sz, ct)], c2, ties, as ++ [.told tl], _, _, by rw [e0]; simp, rfl, by (((with_reducible refine (upd_ne ?_).trans ?_); (focus (first | assumption | exact (by decide))); (with_reducible refine (upd_ne ?_).trans ?_); (focus (first | assumption | exact (by decide))); (with_reducible refine (upd_ne ?_).trans ?_); (focus (first | assumption | exact (by decide))); (with_reducible refine (upd_ne ?_).trans ?_); (focus (first | assumption | exact (by decide))); (with_reducible refine (upd_ne ?_).trans ?_); (focus (first | assumption | exact (by decide))); (with_reducible refine (upd_ne ?_).trans ?_); (focus (first | assumption | exact (by decide))); (with_reducible refine (upd_ne ?_).trans ?_); (focus (first | assumption | exact (by decide))); (with_reducible refine (upd_ne ?_).trans ?_); (focus (first | assumption | exact (by decide))); with_reducible assumption)), by (((with_reducible refine (upd_ne ?_).trans ?_); (focus (first | assumption | exact (by decide))); (with_reducible refine (upd_ne ?_).trans ?_); (focus (first | assumption | exact (by decide))); (with_reducible refine (upd_ne ?_).trans ?_); (focus (first | assumption | exact (by decide))); (with_reducible refine (upd_ne ?_).trans ?_); (focus (first | assumption | exact (by decide))); (with_reducible refine (upd_ne ?_).trans ?_); (focus (first | assumption | exact (by decide))); (with_reducible refine (upd_ne ?_).trans ?_); (focus (first | assumption | exact (by decide))); (with_reducible refine (upd_ne ?_).trans ?_); (focus (first | assumption | exact (by decide))); (with_reducible refine (upd_ne ?_).trans ?_); (focus (first | assumption | exact (by decide))); with_reducible assumption)), by (((with_reducible refine (upd_ne ?_).trans ?_); (focus (first | assumption | exact (by decide))); (with_reducible refine (upd_ne ?_).trans ?_); (focus (first | assumption | exact (by decide))); (with_reducible refine (upd_ne ?_).trans ?_); (focus (first | assumption | exact (by decide))); (with_reducible refine (upd_ne ?_).trans ?_); (focus (first | assumption | exact (by decide))); (with_reducible refine (upd_ne ?_).trans ?_); (focus (first | assumption | exact (by decide))); (with_reducible refine (upd_ne ?_).trans ?_); (focus (first | assumption | exact (by decide))); (with_reducible refine (upd_ne ?_).trans ?_); (focus (first | assumption | exact (by decide))); (with_reducible refine (upd_ne ?_).trans ?_); (focus (first | assumption | exact (by decide))); with_reducible assumption)),
          (hup_ne hTA).trans ((hup_ne hLT).trans (X3 _ _ (X2 _ _ HT))), hup_at _ _ _, by rw [List.map_append]; exact (rd.ext XSL).snoc (.list (hup_at _ _ _) (strs_rd _ _)), (hup_ne hLT).trans sT, (hup_ne hLA).trans sA, XS.trans XSL, X5, by simp; omega, by simp; omega, w1, by rw [w2]; simp⟩
    · rintro l H1 ⟨c1, c2, ties, as, vs, Hs, e0, hr', l1, l2, l3, HT, HA, rd, sT, sA, XS, X1, htl, hasl, w1, w2⟩
      obtain rfl : c2 = [] := by cases c2 with | nil => rfl | cons _ _ => cases hr'
      have w1' : (wAll [] claims).1 = ties := w1
      have w2' : (wAll [] claims).2 = as := w2.trans (List.append_nil as)
      rw [← w1'] at HT htl
      rw [← w2'] at rd
      exact ⟨vs, Hs, l2, l3, HT, HA, rd, sT, sA, XS, X1, Nat.le_trans htl (by rw [e0]; simp)⟩
  · rintro l H1 ⟨vs, Hs, l1, l2, HT, HA, rd, sT, sA, XS, X1, htl⟩
    generalize (wAll [] claims).1 = ties at *
    generalize (wAll [] claims).2 = as at *
    with_reducible refine GK.use (by assumption) ?_
    with_reducible refine SS.cons (ST.gen fun _ _ => ?_)
    with_reducible refine ST.assign (by assumption) ?_ ?_ ?_
    focus refine Or.inl ?_; (with_reducible refine KO.at (by assumption) ?_); exact rfl
    focus exact rfl
    with_reducible refine ET.list (Is.ok (by assumption)) ?_
    with_reducible refine ETs.nil ?_
    with_reducible refine szAnd ?_ ?_
    focus exact rfl
    intro G hG
    with_reducible refine GK.use (by assumption) ?_
    with_reducible refine SS.cons (ST.gen fun _ _ => ?_)
    refine ST.cut (HgM H1 T An G ties) ?_ ?_
    · refine ST.forI (fun _ _ => rfl) (HgI H1 T An G ties) (fun _ => True) (IT.range hR.hh (fun _ _ => rfl) ?_) ?_ ?_
      · with_reducible refine ET.call (Is.ok (by assumption)) ?_ ?_
        focus exact rfl
        with_reducible apply ET.bi (by assumption) (Is.ok (by assumption))
        focus (with_reducible refine KO.at (by assumption) ?_); exact rfl
        focus exact rfl
        focus with_reducible exact gb_range (by assumption)
        with_reducible refine ⟨_, rfl, ?_, ?_⟩
        focus with_reducible exact ck_range
        with_reducible refine ETs.cons ?_ ?_
        focus (intro _; exact rfl)
        with_reducible refine ET.int ?_
        with_reducible refine ETs.cons ?_ ?_
        focus (intro _; exact rfl)
        with_reducible refine ET.int ?_
        with_reducible refine ETs.nil ?_
        refine CT.range2 ?_
        exact ⟨_, _, _, rfl, by decide, rfl, 0, 6, rfl, by rw [range_items]; rfl, by (((with_reducible refine (upd_ne ?_).trans ?_); (focus (first | assumption | exact (by decide))); with_reducible assumption)), by (((with_reducible refine (upd_ne ?_).trans ?_); (focus (first | assumption | exact (by decide))); with_reducible assumption)), by ((with_reducible exact upd_at _ _ _)), hup_at _ _ _, (Ext.refl H1).hup hG⟩
      · rintro v r l H3 ⟨k, n, hkn, hr', l1, l2, l3, HG, X3⟩
        cases n with
        | zero => simp [rangeL] at hr'
        | succ n =>
        rw [rangeL_succ] at hr'
        injection hr' with hv hr2
        subst hv hr2
        with_reducible refine AT.name (by assumption) ?_ ?_
        focus refine Or.inl ?_; (with_reducible refine KO.at (by assumption) ?_); exact rfl
        with_reducible refine SS.cons (ST.gen fun _ _ => ?_)
        with_reducible refine ST.assign (by assumption) ?_ ?_ ?_
        focus refine Or.inl ?_; (with_reducible refine KO.at (by assumption) ?_); exact rfl
        focus exact rfl
        with_reducible refine ET.call (Is.ok (by assumption)) ?_ ?_
        focus exact rfl
        with_reducible apply ET.glob (by assumption) (Is.ok (by assumption))
        focus (with_reducible refine KO.at (by assumption) ?_); exact rfl
        focus exact rfl
        focus with_reducible exact gl_walk (by assumption)
        with_reducible refine ⟨_, rfl, ?_, ?_⟩
        focus with_reducible exact ck_193 (by assumption)
        with_reducible refine ETs.cons ?_ ?_
        focus (intro _; exact rfl)
        with_reducible apply ET.var (by assumption)
        focus (with_reducible refine (upd_ne ?_).trans ?_); (focus (first | assumption | exact (by decide))); with_reducible assumption
        focus exact rfl
        with_reducible refine ETs.cons ?_ ?_
        focus (intro _; exact rfl)
        with_reducible apply ET.var (by assumption)
        focus with_reducible exact upd_at _ _ _
        focus exact rfl
        with_reducible refine ETs.nil ?_
        refine walk_ct I (hR.le (by decide)) (X3 _ _ HT) (by omega) fun D ep H4 X4 hD HD => ?_
        have HG4 := X4 _ _ HG
        with_reducible refine GK.use (by assumption) ?_
        with_reducible refine SS.cons (ST.gen fun _ _ => ?_)
        with_reducible refine ST.assign (by assumption) ?_ ?_ ?_
        focus refine Or.inl ?_; (with_reducible refine KO.at (by assumption) ?_); exact rfl
        focus exact rfl
        with_reducible refine ET.call (Is.ok (by assumption)) ?_ ?_
        focus exact rfl
        with_reducible apply ET.bi (by assumption) (Is.ok (by assumption))
        focus (with_reducible refine KO.at (by assumption) ?_); exact rfl
        focus exact rfl
        focus with_reducible exact gb_min (by assumption)
        with_reducible refine ⟨_, rfl, ?_, ?_⟩
        focus with_reducible exact ck_min
        with_reducible refine ETs.cons ?_ ?_
        focus (intro _; exact rfl)
        with_reducible apply ET.var (by assumption)
        focus with_reducible exact upd_at _ _ _
        focus exact rfl
        with_reducible refine ETs.nil ?_
        refine min_walk hR HD (walkT_ne _ _) ?_
        have hkey := dgetT_key (minOf_mem (keysT_ne (walkT_ne ties (1 + (k : Int))))).1
        have hdg : dget (walkP (walkT ties (1 + (k : Int)))) (minOf (keysT (walkT ties (1 + (k : Int))))) = some (.tuple [.int (valT (walkT ties (1 + (k : Int))) (minOf (keysT (walkT ties (1 + (k : Int)))))).1, .int (valT (walkT ties (1 + (k : Int))) (minOf (keysT (walkT ties (1 + (k : Int)))))).2]) := by rw [walkP_get, hkey]; rfl
        have hrow : rowP (wHeight ties ((k : Int) + 1)) = .tuple [.int (minOf (keysT (walkT ties (1 + (k : Int))))), .int (-(valT (walkT ties (1 + (k : Int))) (minOf (keysT (walkT ties (1 + (k : Int)))))).1), .int (-(valT (walkT ties (1 + (k : Int))) (minOf (keysT (walkT ties (1 + (k : Int)))))).2)] := by
          rw [Int.add_comm (k : Int) 1]; rfl
        generalize minOf (keysT (walkT ties (1 + (k : Int)))) = m at *
        with_reducible refine GK.use (by assumption) ?_
        with_reducible refine SS.cons (ST.gen fun _ _ => ?_)
        with_reducible refine ST.expr (by assumption) ?_ ?_
        focus (intro _; exact rfl)
        refine ET.meth (T := "list") (id := "list.append") (Is.ok (by assumption)) ?_ ?_ ?_ ?_ PySem.F.plainAttrs_list PySem.F.slot_list_append PySem.F.type_list_append ?_
        focus exact rfl
        focus exact rfl
        focus exact (by decide)
        focus exact rfl
        (with_reducible apply ET.var (by assumption)); (focus (with_reducible refine (upd_ne ?_).trans ?_); (focus (first | assumption | exact (by decide))); (with_reducible refine (upd_ne ?_).trans ?_); (focus (first | assumption | exact (by decide))); (with_reducible refine (upd_ne ?_).trans ?_); (focus (first | assumption | exact (by decide))); with_reducible assumption); (focus exact rfl)
        apply methL
        focus with_reducible assumption
        with_reducible refine ETs.cons ?_ ?_
        focus (intro _; exact rfl)
        with_reducible refine ET.tuple ?_
        with_reducible refine ETs.cons ?_ ?_
        focus (intro _; exact rfl)
        with_reducible apply ET.var (by assumption)
        focus with_reducible exact upd_at _ _ _
        focus exact rfl
        with_reducible refine ETs.cons ?_ ?_
        focus (intro _; exact rfl)
        with_reducible refine ET.unop ?_
        with_reducible refine ET.sub ?_ ?_
        focus nofun
        with_reducible refine ET.sub ?_ ?_
        focus nofun
        with_reducible apply ET.var (by assumption)
        focus (with_reducible refine (upd_ne ?_).trans ?_); (focus (first | assumption | exact (by decide))); with_reducible exact upd_at _ _ _
        focus exact rfl
        with_reducible apply ET.var (by assumption)
        focus with_reducible exact upd_at _ _ _
        focus exact rfl
        refine SubT.dict (ik g) (k := m) HD hdg ?_
        with_reducible refine ET.int ?_
        refine SubT.tuple (j := 0) (by decide) (by decide) rfl rfl ?_
        with_reducible refine UnT.neg ?_
        with_reducible refine ETs.cons ?_ ?_
        focus (intro _; exact rfl)
        with_reducible refine ET.unop ?_
        with_reducible refine ET.sub ?_ ?_
        focus nofun
        with_reducible refine ET.sub ?_ ?_
        focus nofun
        with_reducible apply ET.var (by assumption)
        focus (with_reducible refine (upd_ne ?_).trans ?_); (focus (first | assumption | exact (by decide))); with_reducible exact upd_at _ _ _
        focus exact rfl
        with_reducible apply ET.var (by assumption)
        focus with_reducible exact upd_at _ _ _
        focus exact rfl
        refine SubT.dict (ik g) (k := m) HD hdg ?_
        with_reducible refine ET.int ?_
        refine SubT.tuple (j := 1) (by decide) (by decide) rfl rfl ?_
        with_reducible refine UnT.neg ?_
        with_reducible refine ETs.nil ?_
        with_reducible refine szAnd ?_ ?_
        focus exact rfl
        with_reducible refine ETs.nil ?_
        apply CT.append
        focus with_reducible assumption
        · simp; unfold sizeLine; omega
        refine ⟨rfl, ?_⟩
        with_reducible refine GK.use (by assumption) ?_
        with_reducible refine SS.nil ?_
        refine ⟨trivial, k + 1, n, by omega, by rw [show 1 + ((k + 1 : Nat) : Int) = 1 + (k : Int) + 1 by omega], by (((with_reducible refine (upd_ne ?_).trans ?_); (focus (first | assumption | exact (by decide))); (with_reducible refine (upd_ne ?_).trans ?_); (focus (first | assumption | exact (by decide))); (with_reducible refine (upd_ne ?_).trans ?_); (focus (first | assumption | exact (by decide))); with_reducible assumption)), by (((with_reducible refine (upd_ne ?_).trans ?_); (focus (first | assumption | exact (by decide))); (with_reducible refine (upd_ne ?_).trans ?_); (focus (first | assumption | exact (by decide))); (with_reducible refine (upd_ne ?_).trans ?_); (focus (first | assumption | exact (by decide))); with_reducible assumption)), by (((with_reducible refine (upd_ne ?_).trans ?_); (focus (first | assumption | exact (by decide))); (with_reducible refine (upd_ne ?_).trans ?_); (focus (first | assumption | exact (by decide))); (with_reducible refine (upd_ne ?_).trans ?_); (focus (first | assumption | exact (by decide))); with_reducible assumption)), ?_, (X3.trans X4).own hG⟩
        rw [hup_at, List.range_succ, List.map_append, List.map_append, ← hrow]
        rfl
      · rintro l H3 ⟨k, n, hkn, hr', l1, l2, l3, HG, X3⟩
        have hn : n = 0 := by have := congrArg List.length hr'; simpa [rangeL_length] using this.symm
        obtain rfl : k = 6 := by omega
        exact ⟨l2, l3, HG, X3⟩
    · rintro l H3 ⟨l2, l3, HG, X3⟩
      with_reducible refine GK.use (by assumption) ?_
      with_reducible refine SS.cons (ST.gen fun _ _ => ?_)
      with_reducible refine ST.ret ?_
      with_reducible refine ET.tuple ?_
      with_reducible refine ETs.cons ?_ ?_
      focus (intro _; exact rfl)
      with_reducible apply ET.var (by assumption)
      focus with_reducible assumption
      focus exact rfl
      with_reducible refine ETs.cons ?_ ?_
      focus (intro _; exact rfl)
      with_reducible apply ET.var (by assumption)
      focus with_reducible assumption
      focus exact rfl
      with_reducible refine ETs.nil ?_
      with_reducible refine szAnd ?_ ?_
      focus exact rfl
      with_reducible refine GK.use (by assumption) ?_
      exact h _ H3 (XS.trans (X1.trans X3)) (.tuple (.cons (.list (X3 _ _ HA) (rd.ext (X1.trans X3))) (.cons (.list HG (rows_rd _ _)) .nil)))
end
end Mine
end
section
open PySem PySem.W PyProof.Rows PySem.Calls PySem.Spec
set_option maxRecDepth 100000
set_option maxHeartbeats 1000000
namespace Mine
noncomputable def LdR (g : Gd) (H : PH) : List Lead → List (Int × PV) → Prop
  | [], [] => True
  | (p, t, t') :: L, (q, v) :: es => p = q ∧ (∃ x y e1 e2, v = .tuple [.ref x, .ref y] ∧ H x = some ((ik g).pack (tabP .int CS t) e1) ∧ H y = some ((ik g).pack (tabP .int CS t') e2)) ∧ LdR g H L es
  | _, _ => False
theorem LdR.ext {g : Gd} {H H' : PH} (X : Ext H H') : ∀ {L : List Lead} {es : List (Int × PV)}, LdR g H L es → LdR g H' L es
  | [], [], _ => trivial
  | (_, _, _) :: _, (_, _) :: _, ⟨e, ⟨x, y, e1, e2, h1, h2, h3⟩, r⟩ => ⟨e, ⟨x, y, e1, e2, h1, X _ _ h2, X _ _ h3⟩, LdR.ext X r⟩
  | [], _ :: _, h => h.elim
  | (_, _, _) :: _, [], h => h.elim
theorem LdR.get {g : Gd} {H : PH} (p : Int) : ∀ {L : List Lead} {es : List (Int × PV)}, LdR g H L es → (leadOf L p = none ∧ dget es p = none) ∨ (∃ t t' x y e1 e2, leadOf L p = some (t, t') ∧ dget es p = some (.tuple [.ref x, .ref y]) ∧ H x = some ((ik g).pack (tabP .int CS t) e1) ∧ H y = some ((ik g).pack (tabP .int CS t') e2))
  | [], [], _ => .inl ⟨rfl, rfl⟩
  | (q, t, t') :: L, (q', v) :: es, ⟨e, ⟨x, y, e1, e2, h1, h2, h3⟩, r⟩ => by
    subst e
    have ih := LdR.get p r
    unfold leadOf dget at *
    rw [List.find?_cons, List.find?_cons]
    by_cases hq : q = p
    · right
      refine ⟨t, t', x, y, e1, e2, ?_, ?_, h2, h3⟩ <;> simp [hq, h1]
    · simp only [hq, decide_false, Bool.false_eq_true, if_false]
      exact ih
  | [], _ :: _, h => h.elim
  | (_, _, _) :: _, [], h => h.elim
theorem LdR.length {g : Gd} {H : PH} : ∀ {L : List Lead} {es : List (Int × PV)}, LdR g H L es → es.length = L.length
  | [], [], _ => rfl
  | (_, _, _) :: _, (_, _) :: _, ⟨_, _, r⟩ => congrArg (· + 1) (LdR.length r)
  | [], _ :: _, h => h.elim
  | (_, _, _) :: _, [], h => h.elim
theorem LdR.snoc {g : Gd} {H : PH} {p : Int} {t t' : Tab Int} {x y : Addr} {e1 e2 : Nat} (h2 : H x = some ((ik g).pack (tabP .int CS t) e1)) (h3 : H y = some ((ik g).pack (tabP .int CS t') e2)) :
    ∀ {L : List Lead} {es : List (Int × PV)}, LdR g H L es → LdR g H (L ++ [(p, t, t')]) (es ++ [(p, .tuple [.ref x, .ref y])])
  | [], [], _ => ⟨rfl, ⟨x, y, e1, e2, rfl, h2, h3⟩, trivial⟩
  | (_, _, _) :: _, (_, _) :: _, ⟨e, z, r⟩ => ⟨e, z, LdR.snoc h2 h3 r⟩
  | [], _ :: _, h => h.elim
  | (_, _, _) :: _, [], h => h.elim
theorem dset_new {es : List (Int × PV)} {k : Int} {v : PV} (h : dget es k = none) : dset es k v = es ++ [(k, v)] := by
  unfold dset
  have e : es.any (fun e => e.1 = k) = false := by
    rw [List.any_eq_false]
    intro x hx
    unfold dget at h
    rw [Option.map_eq_none_iff, List.find?_eq_none] at h
    exact h x hx
  rw [e]; rfl
theorem ext_add {H H' : PH} {a : Addr} {o : PO} (X : Ext H H') (e : H' a = some o) : Ext (Mine.hup H a o) H' := fun b po q => by
  by_cases z : b = a
  · subst z; rw [hup_at] at q; rw [e]; exact q
  · rw [hup_ne z] at q; exact X _ _ q
noncomputable def rowsE (hs : List (Int × Int × Int × Int)) : List (Int × PV) := hs.map fun e => (e.1, rowP e.2)
theorem rowsE_len (hs : List (Int × Int × Int × Int)) : (rowsE hs).length = hs.length := by simp [rowsE]
theorem rowsE_snoc (hs : List (Int × Int × Int × Int)) (p a b c : Int) : rowsE (hs ++ [(p, a, b, c)]) = rowsE hs ++ [(p, .tuple [.int a, .int b, .int c])] := by simp [rowsE, rowP]
theorem rowsE_none {hs : List (Int × Int × Int × Int)} {p : Int} (h : p ∉ hs.map (·.1)) : dget (rowsE hs) p = none := by
  unfold dget rowsE
  rw [Option.map_eq_none_iff, List.find?_eq_none]
  intro x hx
  obtain ⟨y, hy, rfl⟩ := List.mem_map.mp hx
  simp only [decide_eq_true_eq]
  intro e
  exact h (e ▸ List.mem_map_of_mem hy)
theorem rowsE_get {q : Int} (ex : List (Int × PV)) : ∀ {hs : List (Int × Int × Int × Int)}, q ∈ hs.map (·.1) → dget (rowsE hs ++ ex) q = some (.tuple [.int (hAt hs q).1, .int (hAt hs q).2.1, .int (hAt hs q).2.2])
  | [], h => by cases h
  | (k, r) :: hs, h => by
    by_cases hk : k = q
    · subst hk
      simp [dget, rowsE, hAt, rowP]
    · have hm : q ∈ hs.map (·.1) := by
        rcases List.mem_cons.mp h with z | z
        · exact absurd z.symm hk
        · exact z
      have ih := rowsE_get ex hm
      have e1 : hAt ((k, r) :: hs) q = hAt hs q := by unfold hAt; rw [List.find?_cons]; simp [hk]
      rw [e1]
      unfold dget rowsE at *
      rw [List.map_cons, List.cons_append, List.find?_cons]
      simp only [hk, decide_false, Bool.false_eq_true, if_false]
      exact ih
theorem six_lt {qs ps : List Int} {p q : Int} (h : six = qs ++ p :: ps) (hq : q ∈ qs) : 1 ≤ q ∧ q < p := by
  have hs : six.Pairwise (· < ·) := by decide
  rw [h, List.pairwise_append] at hs
  refine ⟨?_, hs.2.2 q hq p (by simp)⟩
  have hm : q ∈ six := by rw [h]; simp [hq]
  simp [six] at hm
  omega
theorem six_mem {qs ps : List Int} {p q : Int} (h : six = qs ++ p :: ps) (h1 : 1 ≤ q) (h2 : q < p) : q ∈ qs := by
  have hp : p ∈ six := by rw [h]; simp
  have hq : q ∈ six := by simp [six] at hp ⊢; omega
  have hs : six.Pairwise (· < ·) := by decide
  rw [h] at hq hs
  rcases List.mem_append.mp hq with z | z
  · exact z
  · exfalso
    rcases List.mem_cons.mp z with z | z
    · omega
    · have := (List.pairwise_cons.mp (List.pairwise_append.mp hs).2.1).1 q z; omega
theorem foldl_max : ∀ (l : List Int) (x : Int), x ≤ l.foldl max x ∧ (∀ y ∈ l, y ≤ l.foldl max x) ∧ (l.foldl max x = x ∨ l.foldl max x ∈ l)
  | [], x => ⟨Int.le_refl _, by simp, .inl rfl⟩
  | y :: l, x => by
    obtain ⟨h1, h2, h3⟩ := foldl_max l (max x y)
    rw [List.foldl_cons]
    refine ⟨by omega, fun z hz => ?_, ?_⟩
    · rcases List.mem_cons.mp hz with rfl | hz
      · omega
      · exact h2 z hz
    · rcases h3 with h3 | h3
      · rw [h3]
        by_cases q : y ≤ x
        · left; omega
        · right; rw [show max x y = y by omega]; simp
      · right; simp [h3]
theorem topOf_eq {t : Tab Int} {m : Int} (h1 : m ∈ 0 :: keysT t) (h2 : ∀ x ∈ 0 :: keysT t, x ≤ m) : m = topOf t := by
  obtain ⟨a, b, c⟩ := foldl_max (keysT t) 0
  unfold topOf
  have h3 := h2 0 (by simp)
  rcases List.mem_cons.mp h1 with z | z
  · rcases c with c | c
    · omega
    · have := h2 _ (List.mem_cons_of_mem _ c); omega
  · have := b m z
    rcases c with c | c
    · omega
    · have := h2 _ (List.mem_cons_of_mem _ c); omega
section
variable {g : Gd} {A : Around} {H : PH} {Q : PV → PH → Prop}
theorem gb_list (I : Is g) : GB g "list" (.type "list") := ⟨by rw [I.K]; k_is, by decide, rfl⟩
theorem gb_str (I : Is g) : GB g "str" (.type "str") := ⟨by rw [I.K]; k_is, by decide, rfl⟩
theorem ck_list : CallK g (.type "list") := .inr (.inl ⟨_, rfl⟩)
theorem ck_str : CallK g (.type "str") := .inr (.inl ⟨_, rfl⟩)
theorem gl_taken (I : Is g) : nsIn g.K mainGlobals "_law_taken_off" = some (some (.ref 181)) := by rw [I.K]; k_is
theorem gl_iadd (I : Is g) : nsIn g.K mainGlobals "iadd" = some (some (.ref 162)) := by rw [I.K]; k_is
theorem gl_isub (I : Is g) : nsIn g.K mainGlobals "isub" = some (some (.ref 169)) := by rw [I.K]; k_is
theorem ck_181 (I : Is g) : CallK g (.ref 181) := .inr (.inr (by rw [I.K]; k_is))
theorem ck_162 (I : Is g) : CallK g (.ref 162) := .inr (.inr (by rw [I.K]; k_is))
theorem ck_169 (I : Is g) : CallK g (.ref 169) := .inr (.inr (by rw [I.K]; k_is))
theorem iadd_ct (I : Is g) (R : Room A 3) {a b : Int} (h : Q (.int (a + b)) H) : CT g A H (.ref 162) [.int a, .int b] Q := by
  refine' CT.def (n := 2) (ns := [Str.ofString "a", Str.ofString "b"]) I.ok R (ho := ?ho) (hfd := ?hfd) (hb := ?hb) (hcode := ?hc) (hnames := ?hnm) ?h1 ?h2 ?h3 ?h4 ?h5 ?h6 ?h7 ?h8 ?h9 rfl ?_
  case ho => rw [I.K]; k_is
  case hfd => exact rfl
  case hb => exact rfl
  case hc => rw [I.K]; k_is
  case hnm => exact rfl
  case h1 => exact rfl
  case h2 => exact rfl
  case h3 => exact rfl
  case h4 => exact rfl
  case h5 => exact rfl
  case h6 => exact rfl
  case h7 => (intro s vs hv; obtain ⟨x0, x1, rfl⟩ := len2 hv; exact BindsTo.of_eq rfl)
  case h8 => decide
  case h9 => exact rfl
  intro env A' hE hk hF hR
  dsimp only at hk
  with_reducible refine SS.cons (ST.gen fun _ _ => ?_)
  with_reducible apply ST.aug (by assumption)
  focus refine Or.inl ?_; (with_reducible refine KO.at (by assumption) ?_); exact rfl
  focus with_reducible exact parms_at
  with_reducible apply ET.var (by assumption)
  focus (with_reducible refine (parms_ne ?_).trans ?_); (focus (exact (by decide))); with_reducible exact parms_at
  focus exact rfl
  with_reducible refine InpT.add ?_
  with_reducible refine GK.use (by assumption) ?_
  with_reducible refine SS.cons (ST.gen fun _ _ => ?_)
  with_reducible refine ST.ret ?_
  with_reducible apply ET.var (by assumption)
  focus with_reducible exact upd_at _ _ _
  focus exact rfl
  with_reducible refine GK.use (by assumption) ?_
  exact h
theorem isub_ct (I : Is g) (R : Room A 3) {a b : Int} (h : Q (.int (a - b)) H) : CT g A H (.ref 169) [.int a, .int b] Q := by
  refine' CT.def (n := 2) (ns := [Str.ofString "a", Str.ofString "b"]) I.ok R (ho := ?ho) (hfd := ?hfd) (hb := ?hb) (hcode := ?hc) (hnames := ?hnm) ?h1 ?h2 ?h3 ?h4 ?h5 ?h6 ?h7 ?h8 ?h9 rfl ?_
  case ho => rw [I.K]; k_is
  case hfd => exact rfl
  case hb => exact rfl
  case hc => rw [I.K]; k_is
  case hnm => exact rfl
  case h1 => exact rfl
  case h2 => exact rfl
  case h3 => exact rfl
  case h4 => exact rfl
  case h5 => exact rfl
  case h6 => exact rfl
  case h7 => (intro s vs hv; obtain ⟨x0, x1, rfl⟩ := len2 hv; exact BindsTo.of_eq rfl)
  case h8 => decide
  case h9 => exact rfl
  intro env A' hE hk hF hR
  dsimp only at hk
  with_reducible refine SS.cons (ST.gen fun _ _ => ?_)
  with_reducible apply ST.aug (by assumption)
  focus refine Or.inl ?_; (with_reducible refine KO.at (by assumption) ?_); exact rfl
  focus with_reducible exact parms_at
  with_reducible apply ET.var (by assumption)
  focus (with_reducible refine (parms_ne ?_).trans ?_); (focus (exact (by decide))); with_reducible exact parms_at
  focus exact rfl
  with_reducible refine InpT.sub ?_
  with_reducible refine GK.use (by assumption) ?_
  with_reducible refine SS.cons (ST.gen fun _ _ => ?_)
  with_reducible refine ST.ret ?_
  with_reducible apply ET.var (by assumption)
  focus with_reducible exact upd_at _ _ _
  focus exact rfl
  with_reducible refine GK.use (by assumption) ?_
  exact h
inductive BtI (g : Gd) (H : PH) (a Ld An : Addr) (claims : List Claim) (L' : List Lead) (as' : List Ans) (r : List PV) (l : PL) (H1 : PH) : Prop where
  | mk (c1 c2 : List Claim) (L : List Lead) (es : List (Int × PV)) (ep : Nat) (as as2 : List Ans) (vs : List PV) (Hs : PH) (_ : claims = c1 ++ c2) (_ : r = c2.map claimP) (_ : l (Str.ofString "claims") = some (.ref a)) (_ : l (Str.ofString "leads") = some (.ref Ld)) (_ : l (Str.ofString "answers") = some (.ref An)) (_ : H1 Ld = some ((ik g).pack es ep)) (_ : H1 An = some (.list vs)) (_ : RDs Hs vs (as.map ansD)) (_ : LdR g Hs L es) (_ : Hs Ld = none) (_ : Hs An = none) (_ : Ext H Hs) (_ : Ext Hs H1)
      (_ : as.length = c1.length) (_ : RunT L c2 L' as2) (_ : as' = as ++ as2) : BtI g H a Ld An claims L' as' r l H1
inductive BtM (g : Gd) (H : PH) (Ld An : Addr) (L' : List Lead) (as' : List Ans) (l : PL) (H1 : PH) : Prop where
  | mk (es : List (Int × PV)) (ep : Nat) (vs : List PV) (Hs : PH) (_ : l (Str.ofString "leads") = some (.ref Ld)) (_ : l (Str.ofString "answers") = some (.ref An)) (_ : H1 Ld = some ((ik g).pack es ep)) (_ : H1 An = some (.list vs)) (_ : RDs Hs vs (as'.map ansD)) (_ : LdR g Hs L' es) (_ : Hs Ld = none) (_ : Hs An = none) (_ : Ext H Hs) (_ : Ext Hs H1) : BtM g H Ld An L' as' l H1
inductive RdW (g : Gd) (H2 : PH) (a Ld An : Addr) (L : List Lead) (r : Tab Int) (n : Nat) (l : PL) (H3 : PH) : Prop where
  | mk (t : Tab Int) (X : Addr) (ep : Nat) (_ : Redn L n t r) (_ : l (Str.ofString "claims") = some (.ref a)) (_ : l (Str.ofString "leads") = some (.ref Ld)) (_ : l (Str.ofString "answers") = some (.ref An)) (_ : l (Str.ofString "table") = some (.ref X)) (_ : l (Str.ofString "top") = some (.int (topOf t))) (_ : H3 X = some ((ik g).pack (tabP .int CS t) ep)) (_ : H2 X = none) (_ : Ext H2 H3) : RdW g H2 a Ld An L r n l H3
inductive RdM (g : Gd) (H2 : PH) (a Ld An : Addr) (r : Tab Int) (l : PL) (H3 : PH) : Prop where
  | mk (X : Addr) (ep : Nat) (_ : l (Str.ofString "claims") = some (.ref a)) (_ : l (Str.ofString "leads") = some (.ref Ld)) (_ : l (Str.ofString "answers") = some (.ref An)) (_ : l (Str.ofString "table") = some (.ref X)) (_ : l (Str.ofString "top") = some (.int (topOf r))) (_ : H3 X = some ((ik g).pack (tabP .int CS r) ep)) (_ : H2 X = none) (_ : Ext H2 H3) : RdM g H2 a Ld An r l H3
inductive StI (H7 : PH) (t : Tab Int) (r : List PV) (acc : List PV) (H8 : PH) : Prop where
  | mk (d1 d2 : Tab Int) (_ : t = d1 ++ d2) (_ : r = (cmpOld d2).map (difP .int CD)) (_ : acc = (d1.map fun e => (-e.2.1, -e.2.2)).map fun e : Int × Int => .str (sOf (lineL e.1 e.2))) (_ : H8 = H7) : StI H7 t r acc H8
inductive HtI (g : Gd) (Hs : PH) (Ld An G : Addr) (L' : List Lead) (vs : List PV) (es : List (Int × PV)) (ep : Nat) (r : List PV) (l : PL) (H3 : PH) : Prop where
  | mk (qs ps : List Int) (hs : List (Int × Int × Int × Int)) (epG : Nat) (_ : r = ps.map .int) (_ : six = qs ++ ps) (_ : hs.map (·.1) = qs) (_ : l (Str.ofString "leads") = some (.ref Ld)) (_ : l (Str.ofString "answers") = some (.ref An)) (_ : l (Str.ofString "heights") = some (.ref G)) (_ : l (Str.ofString "none") = some (st3 (.int 0) (.int 0) (.int 0))) (_ : H3 G = some ((ik g).pack (rowsE hs) epG)) (_ : H3 Ld = some ((ik g).pack es ep)) (_ : H3 An = some (.list vs)) (_ : hGo L' hs ps = hGo L' [] six) (_ : Ext Hs H3) : HtI g Hs Ld An G L' vs es ep r l H3
inductive HtM (g : Gd) (Hs : PH) (Ld An G : Addr) (L' : List Lead) (vs : List PV) (es : List (Int × PV)) (ep : Nat) (l : PL) (H3 : PH) : Prop where
  | mk (epG : Nat) (_ : l (Str.ofString "answers") = some (.ref An)) (_ : l (Str.ofString "heights") = some (.ref G)) (_ : H3 G = some ((ik g).pack (rowsE (hGo L' [] six)) epG)) (_ : H3 An = some (.list vs)) (_ : (hGo L' [] six).map (·.1) = six) (_ : Ext Hs H3) : HtM g Hs Ld An G L' vs es ep l H3
inductive KyI (H4 : PH) (tt : Tab Int) (p : Int) (r : List PV) (acc : List PV) (H8 : PH) : Prop where
  | mk (d1 d2 : Tab Int) (_ : tt = d1 ++ d2) (_ : r = d2.map fun e => PV.int e.1) (_ : acc = ((keysT d1).filter fun k => k != 0 && k != p).map .int) (_ : H8 = H4) : KyI H4 tt p r acc H8
inductive FnI (H3 : PH) (hs : List (Int × Int × Int × Int)) (r : List PV) (acc : List PV) (H8 : PH) : Prop where
  | mk (qs ps : List Int) (_ : six = qs ++ ps) (_ : r = ps.map .int) (_ : acc = (qs.map fun p => hAt hs p).map rowP) (_ : H8 = H3) : FnI H3 hs r acc H8
theorem tab_getD (t : Tab Int) (k : Int) : (dget (tabP .int CS t) k).getD (st3 (.int k) (.int 0) (.int 0)) = st3 (.int k) (.int (valT t k).1) (.int (valT t k).2) := by
  rw [tabP_get]
  unfold valT
  cases dgetT t k <;> rfl
theorem dset_last {es : List (Int × PV)} {p : Int} {v w : PV} (h : dget es p = none) : dset (es ++ [(p, v)]) p w = es ++ [(p, w)] := by
  unfold dset
  rw [if_pos (by simp)]
  rw [List.map_append]
  congr 1
  · unfold dget at h
    rw [Option.map_eq_none_iff, List.find?_eq_none] at h
    refine (List.map_congr_left fun x hx => ?_).trans (List.map_id _)
    exact if_neg (by simpa using h x hx)
  · simp
theorem Redn.small {L : List Lead} {n : Nat} {t r : Tab Int} (h : Redn L n t r) : t.length ≤ 100 ∧ Nk t := by
  cases h with
  | done _ h1 h2 => exact ⟨h1, h2⟩
  | step _ _ h1 h2 _ _ _ => exact ⟨h1, h2⟩
theorem Redn.end_ {L : List Lead} {n : Nat} {t r : Tab Int} (h : Redn L n t r) : r.length ≤ 100 ∧ Nk r ∧ leadOf L (topOf r) = none := by
  induction h with
  | done h0 h1 h2 => exact ⟨h1, h2, h0⟩
  | step _ _ _ _ _ _ _ ih => exact ih
theorem bytab_ct (I : Is g) (R : Room A 14) {a : Addr} {claims : List Claim} {L' : List Lead} {as' : List Ans} (ha : H a = some (.list (claims.map claimP))) (hl : claims.length ≤ 100) (hab : ∀ c ∈ claims, c.2.1 ≠ 0)
    (hrun : RunT [] claims L' as') (hok : ∀ p t t', leadOf L' p = some (t, t') → LeadOk p t t')
    (h : ∀ An Hg H', Ext H H' → RD H' (.tuple [.ref An, .ref Hg]) (.tuple [.list (as'.map ansD), .list ((six.map fun p => hAt (hGo L' [] six) p).map rowD)]) → H' Hg = some (.list ((six.map fun p => hAt (hGo L' [] six) p).map rowP)) → Q (.tuple [.ref An, .ref Hg]) H') : CT g A H (.ref 186) [.ref a] Q := by
  refine' CT.def (n := 13) (ns := [Str.ofString "claims"]) I.ok R (ho := ?ho) (hfd := ?hfd) (hb := ?hb) (hcode := ?hc) (hnames := ?hnm) ?h1 ?h2 ?h3 ?h4 ?h5 ?h6 ?h7 ?h8 ?h9 rfl ?_
  case ho => rw [I.K]; k_is
  case hfd => exact rfl
  case hb => exact rfl
  case hc => rw [I.K]; k_is
  case hnm => exact rfl
  case h1 => exact rfl
  case h2 => exact rfl
  case h3 => exact rfl
  case h4 => exact rfl
  case h5 => exact rfl
  case h6 => exact rfl
  case h7 => (intro s vs hv; obtain ⟨x0, rfl⟩ := len1 hv; exact BindsTo.of_eq rfl)
  case h8 => decide
  case h9 => exact rfl
  intro env A' hE hk hF hR
  dsimp only at hk
  with_reducible refine SS.cons (ST.gen fun _ _ => ?_)
  with_reducible refine ST.assign (by assumption) ?_ ?_ ?_
  focus refine Or.inl ?_; (with_reducible refine KO.at (by assumption) ?_); exact rfl
  focus exact rfl
  refine ET.dict0 (ik g) I.ok fun Ld ep0 hLd => ?_
  with_reducible refine GK.use (by assumption) ?_
  with_reducible refine SS.cons (ST.gen fun _ _ => ?_)
  with_reducible refine ST.assign (by assumption) ?_ ?_ ?_
  focus refine Or.inl ?_; (with_reducible refine KO.at (by assumption) ?_); exact rfl
  focus exact rfl
  with_reducible refine ET.list (Is.ok (by assumption)) ?_
  with_reducible refine ETs.nil ?_
  with_reducible refine szAnd ?_ ?_
  focus exact rfl
  intro An hAn
  have hLA : Ld ≠ An := fun z => by rw [z] at hAn; rw [hup_at] at hAn; cases hAn
  have hAn0 : H An = none := by rwa [hup_ne hLA.symm] at hAn
  have XH := (((Ext.refl H).hup (o := (ik g).pack [] ep0) hLd).hup (o := .list []) hAn)
  have HL0 := hup_keep (o := .list []) (hup_at H Ld ((ik g).pack [] ep0)) hAn
  have HA0 := hup_at (hup H Ld ((ik g).pack [] ep0)) An (.list [])
  generalize hup (hup H Ld ((ik g).pack [] ep0)) An (.list []) = H0 at XH HL0 HA0
  with_reducible refine GK.use (by assumption) ?_
  with_reducible refine SS.cons (ST.gen fun _ _ => ?_)
  refine ST.cut (BtM g H Ld An L' as') ?_ ?_
  · refine ST.forI (fun _ _ => rfl) (BtI g H a Ld An claims L' as') (fun H1 => H1 a = some (.list (claims.map claimP))) (IT.list hR.hh ?_) ?_ ?_
    · with_reducible apply ET.var (by assumption)
      focus (with_reducible refine (upd_ne ?_).trans ?_); (focus (first | assumption | exact (by decide))); (with_reducible refine (upd_ne ?_).trans ?_); (focus (first | assumption | exact (by decide))); with_reducible exact parms_at
      focus exact rfl
      exact ⟨a, _, rfl, XH _ _ ha, rfl, [], claims, [], [], ep0, [], as', [], H, rfl, rfl, by (((with_reducible refine (upd_ne ?_).trans ?_); (focus (first | assumption | exact (by decide))); (with_reducible refine (upd_ne ?_).trans ?_); (focus (first | assumption | exact (by decide))); with_reducible exact parms_at)), by (((with_reducible refine (upd_ne ?_).trans ?_); (focus (first | assumption | exact (by decide))); with_reducible exact upd_at _ _ _)), by ((with_reducible exact upd_at _ _ _)), HL0, HA0, .nil, trivial, hLd, hAn0, Ext.refl _, XH, rfl, hrun, rfl⟩
    · rintro v r l H1 ⟨c1, c2, L, es, ep, as, as2, vs, Hs, e0, hr', l1, l2, l3, HL, HA, rd, ldr, sL, sA, XS, X1, hasl, run, eas⟩
      cases c2 with
      | nil => cases hr'
      | cons c c2 =>
      injection hr' with hv hr2
      subst hv hr2
      have hcl : c1.length + (c2.length + 1) ≤ 100 := by rw [e0] at hl; simpa using hl
      have hc0 : c.2.1 ≠ 0 := hab c (by rw [e0]; simp)
      obtain ⟨n, t, hred, hmore⟩ : ∃ n t, Redn L n (table0 c) t ∧ ((topOf t = 0 ∧ (∀ e ∈ t, e.1 = 0 ∧ e.2.1.natAbs < 2 ^ 53 ∧ e.2.2.natAbs < 2 ^ 53) ∧ ∃ as3, as2 = .told (t.map fun e => (-e.2.1, -e.2.2)) :: as3 ∧ RunT L c2 L' as3) ∨ (topOf t ≠ 0 ∧ topOf t ∈ keysT t ∧ ∃ as3, as2 = .pt (topOf t) :: as3 ∧ RunT (L ++ [(topOf t, leadFor t)]) c2 L' as3)) ∧ L.length ≤ 100 := by
        cases run with
        | line h1 h2 h3 h4 h5 => exact ⟨_, _, h1, .inl ⟨h2, h3, _, rfl, h5⟩, h4⟩
        | lead h1 h2 h3 h4 h5 => exact ⟨_, _, h1, .inr ⟨h2, h3, _, rfl, h5⟩, h4⟩
      obtain ⟨hmore, hLl⟩ := hmore
      obtain ⟨b, a', sz, ct⟩ := c
      rw [show claimP (b, a', sz, ct) = .tuple [.int b, .int a', .int sz, .int ct] from rfl]
      with_reducible refine AT.tuple (Room.hh (by assumption)) ?_ ?_ ?_
      focus exact rfl
      focus exact rfl
      with_reducible refine ATs.cons ?_
      with_reducible refine AT.name (by assumption) ?_ ?_
      focus refine Or.inl ?_; (with_reducible refine KO.at (by assumption) ?_); exact rfl
      with_reducible refine ATs.cons ?_
      with_reducible refine AT.name (by assumption) ?_ ?_
      focus refine Or.inl ?_; (with_reducible refine KO.at (by assumption) ?_); exact rfl
      with_reducible refine ATs.cons ?_
      with_reducible refine AT.name (by assumption) ?_ ?_
      focus refine Or.inl ?_; (with_reducible refine KO.at (by assumption) ?_); exact rfl
      with_reducible refine ATs.cons ?_
      with_reducible refine AT.name (by assumption) ?_ ?_
      focus refine Or.inl ?_; (with_reducible refine KO.at (by assumption) ?_); exact rfl
      with_reducible refine ATs.nil ?_
      with_reducible refine SS.cons (ST.gen fun _ _ => ?_)
      with_reducible refine ST.assign (by assumption) ?_ ?_ ?_
      focus refine Or.inl ?_; (with_reducible refine KO.at (by assumption) ?_); exact rfl
      focus exact rfl
      with_reducible refine ET.call (Is.ok (by assumption)) ?_ ?_
      focus exact rfl
      with_reducible apply ET.glob (by assumption) (Is.ok (by assumption))
      focus (with_reducible refine KO.at (by assumption) ?_); exact rfl
      focus exact rfl
      focus with_reducible exact gl_taken (by assumption)
      with_reducible refine ⟨_, rfl, ?_, ?_⟩
      focus with_reducible exact ck_181 (by assumption)
      with_reducible refine ETs.cons ?_ ?_
      focus (intro _; exact rfl)
      with_reducible refine ET.dict (ik _) (Is.ok (by assumption)) ?_ ?_ ?_ ?_ ?_
      focus exact rfl
      focus exact rfl
      focus exact List.cons_ne_nil _ _
      focus exact (by decide)
      refine ?_
      with_reducible refine DPs.cons ?_
      with_reducible apply ET.var (by assumption)
      focus (with_reducible refine (upd_ne ?_).trans ?_); (focus (first | assumption | exact (by decide))); (with_reducible refine (upd_ne ?_).trans ?_); (focus (first | assumption | exact (by decide))); (with_reducible refine (upd_ne ?_).trans ?_); (focus (first | assumption | exact (by decide))); with_reducible exact upd_at _ _ _
      focus exact rfl
      with_reducible refine ET.call (Is.ok (by assumption)) ?_ ?_
      focus exact rfl
      with_reducible apply ET.glob (by assumption) (Is.ok (by assumption))
      focus (with_reducible refine KO.at (by assumption) ?_); exact rfl
      focus exact rfl
      focus with_reducible exact gl_Statistic (by assumption)
      with_reducible refine ⟨_, rfl, ?_, ?_⟩
      focus with_reducible exact ck_82 (by assumption)
      with_reducible refine ETs.cons ?_ ?_
      focus (intro _; exact rfl)
      with_reducible apply ET.var (by assumption)
      focus (with_reducible refine (upd_ne ?_).trans ?_); (focus (first | assumption | exact (by decide))); (with_reducible refine (upd_ne ?_).trans ?_); (focus (first | assumption | exact (by decide))); (with_reducible refine (upd_ne ?_).trans ?_); (focus (first | assumption | exact (by decide))); with_reducible exact upd_at _ _ _
      focus exact rfl
      with_reducible refine ETs.cons ?_ ?_
      focus (intro _; exact rfl)
      with_reducible refine ET.int ?_
      with_reducible refine ETs.cons ?_ ?_
      focus (intro _; exact rfl)
      with_reducible refine ET.int ?_
      with_reducible refine ETs.nil ?_
      refine stat_ct I (hR.le (by decide)) fun dx1 hdx1 => ?_
      refine ⟨b, rfl, ?_⟩
      with_reducible refine DPs.nil ?_
      intro D1 e1 hD1
      with_reducible refine ETs.cons ?_ ?_
      focus (intro _; exact rfl)
      with_reducible refine ET.dict (ik _) (Is.ok (by assumption)) ?_ ?_ ?_ ?_ ?_
      focus exact rfl
      focus exact rfl
      focus exact List.cons_ne_nil _ _
      focus exact (by decide)
      refine ?_
      with_reducible refine DPs.cons ?_
      with_reducible apply ET.var (by assumption)
      focus (with_reducible refine (upd_ne ?_).trans ?_); (focus (first | assumption | exact (by decide))); (with_reducible refine (upd_ne ?_).trans ?_); (focus (first | assumption | exact (by decide))); with_reducible exact upd_at _ _ _
      focus exact rfl
      with_reducible refine ET.call (Is.ok (by assumption)) ?_ ?_
      focus exact rfl
      with_reducible apply ET.glob (by assumption) (Is.ok (by assumption))
      focus (with_reducible refine KO.at (by assumption) ?_); exact rfl
      focus exact rfl
      focus with_reducible exact gl_Statistic (by assumption)
      with_reducible refine ⟨_, rfl, ?_, ?_⟩
      focus with_reducible exact ck_82 (by assumption)
      with_reducible refine ETs.cons ?_ ?_
      focus (intro _; exact rfl)
      with_reducible apply ET.var (by assumption)
      focus (with_reducible refine (upd_ne ?_).trans ?_); (focus (first | assumption | exact (by decide))); (with_reducible refine (upd_ne ?_).trans ?_); (focus (first | assumption | exact (by decide))); with_reducible exact upd_at _ _ _
      focus exact rfl
      with_reducible refine ETs.cons ?_ ?_
      focus (intro _; exact rfl)
      with_reducible refine ET.int ?_
      with_reducible refine ETs.cons ?_ ?_
      focus (intro _; exact rfl)
      with_reducible refine ET.int ?_
      with_reducible refine ETs.nil ?_
      refine stat_ct I (hR.le (by decide)) fun dx2 hdx2 => ?_
      refine ⟨a', rfl, ?_⟩
      with_reducible refine DPs.cons ?_
      with_reducible refine ET.int ?_
      with_reducible refine ET.call (Is.ok (by assumption)) ?_ ?_
      focus exact rfl
      with_reducible apply ET.glob (by assumption) (Is.ok (by assumption))
      focus (with_reducible refine KO.at (by assumption) ?_); exact rfl
      focus exact rfl
      focus with_reducible exact gl_Statistic (by assumption)
      with_reducible refine ⟨_, rfl, ?_, ?_⟩
      focus with_reducible exact ck_82 (by assumption)
      with_reducible refine ETs.cons ?_ ?_
      focus (intro _; exact rfl)
      with_reducible refine ET.int ?_
      with_reducible refine ETs.cons ?_ ?_
      focus (intro _; exact rfl)
      with_reducible apply ET.var (by assumption)
      focus (with_reducible refine (upd_ne ?_).trans ?_); (focus (first | assumption | exact (by decide))); with_reducible exact upd_at _ _ _
      focus exact rfl
      with_reducible refine ETs.cons ?_ ?_
      focus (intro _; exact rfl)
      with_reducible apply ET.var (by assumption)
      focus with_reducible exact upd_at _ _ _
      focus exact rfl
      with_reducible refine ETs.nil ?_
      refine stat_ct I (hR.le (by decide)) fun dx3 hdx3 => ?_
      refine ⟨0, rfl, ?_⟩
      with_reducible refine DPs.nil ?_
      intro D2 e2 hD2
      have ed : List.foldl (fun acc e => dset acc e.1 e.2) [] ((a', st3 (.int a') (.int 1) (.int 1)) :: (0, st3 (.int 0) (.int sz) (.int ct)) :: []) = tabP .int CS [(a', 1, 1), (0, sz, ct)] := by
        show dset [(a', st3 (.int a') (.int 1) (.int 1))] 0 _ = _
        rw [dset_new (by simp [dget, hc0])]; rfl
      rw [ed]
      have XD := ((((Ext.refl H1).hup (o := .idle) hdx1).hup (o := (ik g).pack (List.foldl (fun acc e => dset acc e.1 e.2) [] ((b, st3 (.int b) (.int 1) (.int 1)) :: [])) e1) hD1).hup (o := .idle) hdx2).hup (o := .idle) hdx3 |>.hup (o := (ik g).pack (tabP .int CS [(a', 1, 1), (0, sz, ct)]) e2) hD2
      have HD1 : _ = some ((ik g).pack (tabP .int CS [(b, 1, 1)]) e1) := hup_keep (o := (ik g).pack (tabP .int CS [(a', 1, 1), (0, sz, ct)]) e2) (hup_keep (o := .idle) (hup_keep (o := .idle) (hup_at (hup H1 dx1 .idle) D1 ((ik g).pack (List.foldl (fun acc e => dset acc e.1 e.2) [] ((b, st3 (.int b) (.int 1) (.int 1)) :: [])) e1)) hdx2) hdx3) hD2
      have HD2 := hup_at (hup (hup (hup (hup H1 dx1 .idle) D1 ((ik g).pack (List.foldl (fun acc e => dset acc e.1 e.2) [] ((b, st3 (.int b) (.int 1) (.int 1)) :: [])) e1)) dx2 .idle) dx3 .idle) D2 ((ik g).pack (tabP .int CS [(a', 1, 1), (0, sz, ct)]) e2)
      generalize hup (hup (hup (hup (hup H1 dx1 .idle) D1 ((ik g).pack (List.foldl (fun acc e => dset acc e.1 e.2) [] ((b, st3 (.int b) (.int 1) (.int 1)) :: [])) e1)) dx2 .idle) dx3 .idle) D2 ((ik g).pack (tabP .int CS [(a', 1, 1), (0, sz, ct)]) e2) = H2 at XD HD1 HD2
      with_reducible refine ETs.nil ?_
      refine taken_ct I (hR.le (by decide)) HD1 HD2 (by simp) (by simp) fun X ep2 H3 hX X3 HX => ?_
      have htb : takenT [(b, 1, 1)] [(a', 1, 1), (0, sz, ct)] = table0 (b, a', sz, ct) := rfl
      rw [htb] at HX
      generalize table0 (b, a', sz, ct) = t0 at *
      have X13 := XD.trans X3
      have hX1 : H1 X = none := ext_none XD hX
      obtain ⟨ht0, hn0⟩ := hred.small
      with_reducible refine GK.use (by assumption) ?_
      with_reducible refine SS.cons (ST.gen fun _ _ => ?_)
      with_reducible refine ST.assign (by assumption) ?_ ?_ ?_
      focus refine Or.inl ?_; (with_reducible refine KO.at (by assumption) ?_); exact rfl
      focus exact rfl
      with_reducible refine ET.call (Is.ok (by assumption)) ?_ ?_
      focus exact rfl
      with_reducible apply ET.bi (by assumption) (Is.ok (by assumption))
      focus (with_reducible refine KO.at (by assumption) ?_); exact rfl
      focus exact rfl
      focus with_reducible exact gb_max (by assumption)
      with_reducible refine ⟨_, rfl, ?_, ?_⟩
      focus with_reducible exact ck_max
      with_reducible refine ETs.cons ?_ ?_
      focus (intro _; exact rfl)
      with_reducible refine ET.binop ?_
      with_reducible refine ET.list (Is.ok (by assumption)) ?_
      with_reducible refine ETs.cons ?_ ?_
      focus (intro _; exact rfl)
      with_reducible refine ET.int ?_
      with_reducible refine ETs.nil ?_
      with_reducible refine szAnd ?_ ?_
      focus exact rfl
      intro Z1 hZ1
      with_reducible refine ET.call (Is.ok (by assumption)) ?_ ?_
      focus exact rfl
      with_reducible apply ET.bi (by assumption) (Is.ok (by assumption))
      focus (with_reducible refine KO.at (by assumption) ?_); exact rfl
      focus exact rfl
      focus with_reducible exact gb_list (by assumption)
      with_reducible refine ⟨_, rfl, ?_, ?_⟩
      focus with_reducible exact ck_list
      with_reducible refine ETs.cons ?_ ?_
      focus (intro _; exact rfl)
      with_reducible apply ET.var (by assumption)
      focus with_reducible exact upd_at _ _ _
      focus exact rfl
      with_reducible refine ETs.nil ?_
      refine CT.listK (ik g) I.ok hR (hup_keep HX hZ1) (by rw [tabP_len]; omega) fun Z2 hZ2 => ?_
      skip
      refine BinT.addL I.ok (hup_keep (hup_at _ _ _) hZ2) (hup_at _ _ _) (by simp [tabP_len]; unfold sizeLine; omega) fun Z3 hZ3 => ?_
      have eK : [PV.int 0] ++ (tabP .int CS t0).map (fun e => (ik g).val e.1) = (0 :: keysT t0).map PV.int := by simp [tabP, ik, Function.comp_def, keysT]
      rw [eK]
      with_reducible refine ETs.nil ?_
      refine CT.maxI (ns := 0 :: keysT t0) hR (hup_at _ _ _) (by simp) fun m hm hmax => ?_
      obtain rfl := topOf_eq hm hmax
      have HX4 := hup_keep (hD := hZ3) (o := .list ((0 :: keysT t0).map PV.int)) (hup_keep (hD := hZ2) (o := .list ((tabP .int CS t0).map fun e => (ik g).val e.1)) (hup_keep (hD := hZ1) (o := .list [.int 0]) HX))
      have X4 := ((X13.hup (o := .list [.int 0]) hZ1).hup (o := .list ((tabP .int CS t0).map fun e => (ik g).val e.1)) hZ2).hup (o := .list ((0 :: keysT t0).map PV.int)) hZ3
      generalize hup (hup (hup H3 Z1 (.list [.int 0])) Z2 (.list ((tabP .int CS t0).map fun e => (ik g).val e.1))) Z3 (.list ((0 :: keysT t0).map PV.int)) = H4 at HX4 X4
      with_reducible refine GK.use (by assumption) ?_
      with_reducible refine SS.cons (ST.gen fun _ _ => ?_)
      refine ST.cut (RdM g H1 a Ld An t) ?_ ?_
      · refine ST.while (RdW g H1 a Ld An L t) ?_ n ⟨t0, X, ep2, hred, by (((with_reducible refine (upd_ne ?_).trans ?_); (focus (first | assumption | exact (by decide))); (with_reducible refine (upd_ne ?_).trans ?_); (focus (first | assumption | exact (by decide))); (with_reducible refine (upd_ne ?_).trans ?_); (focus (first | assumption | exact (by decide))); (with_reducible refine (upd_ne ?_).trans ?_); (focus (first | assumption | exact (by decide))); (with_reducible refine (upd_ne ?_).trans ?_); (focus (first | assumption | exact (by decide))); (with_reducible refine (upd_ne ?_).trans ?_); (focus (first | assumption | exact (by decide))); with_reducible assumption)), by (((with_reducible refine (upd_ne ?_).trans ?_); (focus (first | assumption | exact (by decide))); (with_reducible refine (upd_ne ?_).trans ?_); (focus (first | assumption | exact (by decide))); (with_reducible refine (upd_ne ?_).trans ?_); (focus (first | assumption | exact (by decide))); (with_reducible refine (upd_ne ?_).trans ?_); (focus (first | assumption | exact (by decide))); (with_reducible refine (upd_ne ?_).trans ?_); (focus (first | assumption | exact (by decide))); (with_reducible refine (upd_ne ?_).trans ?_); (focus (first | assumption | exact (by decide))); with_reducible assumption)), by (((with_reducible refine (upd_ne ?_).trans ?_); (focus (first | assumption | exact (by decide))); (with_reducible refine (upd_ne ?_).trans ?_); (focus (first | assumption | exact (by decide))); (with_reducible refine (upd_ne ?_).trans ?_); (focus (first | assumption | exact (by decide))); (with_reducible refine (upd_ne ?_).trans ?_); (focus (first | assumption | exact (by decide))); (with_reducible refine (upd_ne ?_).trans ?_); (focus (first | assumption | exact (by decide))); (with_reducible refine (upd_ne ?_).trans ?_); (focus (first | assumption | exact (by decide))); with_reducible assumption)), by (((with_reducible refine (upd_ne ?_).trans ?_); (focus (first | assumption | exact (by decide))); with_reducible exact upd_at _ _ _)), by ((with_reducible exact upd_at _ _ _)), HX4, hX1, X4⟩
        rintro k l5 H5 ⟨tt, Y, epY, red, m1, m2, m3, m4, m5, HY, hY, X5⟩
        have HL5 := X5 _ _ HL
        with_reducible refine BT.cmp ?_ ?_
        focus exact rfl
        with_reducible apply ET.var (by assumption)
        focus with_reducible assumption
        focus exact rfl
        with_reducible apply ET.var (by assumption)
        focus with_reducible assumption
        focus exact rfl
        refine CmpT.inD (ik g) (k := topOf tt) HL5 ?_
        with_reducible refine TrT.bool ?_
        obtain ⟨htt, hntt⟩ := red.small
        rcases ldr.get (topOf tt) with ⟨g1, g2⟩ | ⟨ta, tb, x, y, ex, ey, g1, g2, Hx, Hy⟩
        · rw [g2]
          refine iteF' rfl ?_
          cases red with
          | step h1 => rw [g1] at h1; cases h1
          | done =>
          with_reducible refine SS.nil ?_
          exact ⟨Y, epY, m1, m2, m3, m4, m5, HY, hY, X5⟩
        · rw [g2]
          refine iteT' rfl ?_
          cases red with
          | done h1 => rw [g1] at h1; cases h1
          | step h1 h2 h3 h4 h5 h6 h7 =>
          obtain ⟨rfl, rfl⟩ : ta = _ ∧ tb = _ := by rw [g1] at h1; injection h1 with h1; injection h1 with e1 e2; exact ⟨e1, e2⟩
          have hdt : dget (tabP PV.int CS tt) (topOf tt) = some (st3 (.int (topOf tt)) (.int (valT tt (topOf tt)).1) (.int (valT tt (topOf tt)).2)) := by rw [tabP_get, dgetT_key h2]; rfl
          with_reducible refine SS.cons (ST.gen fun _ _ => ?_)
          with_reducible refine ST.assign (by assumption) ?_ ?_ ?_
          focus refine Or.inl ?_; (with_reducible refine KO.at (by assumption) ?_); exact rfl
          focus exact rfl
          with_reducible refine ET.call (Is.ok (by assumption)) ?_ ?_
          focus exact rfl
          with_reducible apply ET.glob (by assumption) (Is.ok (by assumption))
          focus (with_reducible refine KO.at (by assumption) ?_); exact rfl
          focus exact rfl
          focus with_reducible exact gl_taken (by assumption)
          with_reducible refine ⟨_, rfl, ?_, ?_⟩
          focus with_reducible exact ck_181 (by assumption)
          with_reducible refine ETs.cons ?_ ?_
          focus (intro _; exact rfl)
          refine ET.cut (fun v H' => H' = H5 ∧ ∃ z e, v = .ref z ∧ H5 z = some ((ik g).pack (tabP .int CS (if 0 < (valT tt (topOf tt)).1 then ta else tb)) e)) ?_ ?_
          · refine ET.ite ?_
            with_reducible refine BT.cmp ?_ ?_
            focus exact rfl
            with_reducible refine ET.attr (Is.ok (by assumption)) ?_ ?_
            focus (intro _; exact rfl)
            with_reducible refine ET.sub ?_ ?_
            focus nofun
            with_reducible apply ET.var (by assumption)
            focus with_reducible assumption
            focus exact rfl
            with_reducible apply ET.var (by assumption)
            focus with_reducible assumption
            focus exact rfl
            refine SubT.dict (ik g) (k := topOf tt) HY hdt ?_
            with_reducible apply attrK
            focus with_reducible exact sl_st_size (by assumption)
            focus exact rfl
            focus exact rfl
            with_reducible refine ET.int ?_
            with_reducible refine CmpT.gtI ?_
            with_reducible refine TrT.bool ?_
            refine iteC (fun hc => ?_) (fun hc => ?_)
            · have hc := of_decide_eq_true hc
              with_reducible refine ET.sub ?_ ?_
              focus nofun
              with_reducible refine ET.sub ?_ ?_
              focus nofun
              with_reducible apply ET.var (by assumption)
              focus with_reducible assumption
              focus exact rfl
              with_reducible apply ET.var (by assumption)
              focus with_reducible assumption
              focus exact rfl
              refine SubT.dict (ik g) (k := topOf tt) HL5 g2 ?_
              with_reducible refine ET.int ?_
              refine SubT.tuple (j := 0) (by decide) (by decide) rfl rfl ?_
              exact ⟨rfl, x, ex, rfl, by rw [if_pos hc]; exact X5 _ _ (X1 _ _ Hx)⟩
            · have hc := of_decide_eq_false hc
              with_reducible refine ET.sub ?_ ?_
              focus nofun
              with_reducible refine ET.sub ?_ ?_
              focus nofun
              with_reducible apply ET.var (by assumption)
              focus with_reducible assumption
              focus exact rfl
              with_reducible apply ET.var (by assumption)
              focus with_reducible assumption
              focus exact rfl
              refine SubT.dict (ik g) (k := topOf tt) HL5 g2 ?_
              with_reducible refine ET.int ?_
              refine SubT.tuple (j := 1) (by decide) (by decide) rfl rfl ?_
              exact ⟨rfl, y, ey, rfl, by rw [if_neg hc]; exact X5 _ _ (X1 _ _ Hy)⟩
          rintro v H6 ⟨rfl, z, e, rfl, Hz⟩
          have hzl : (if 0 < (valT tt (topOf tt)).1 then ta else tb).length ≤ 100 := by split <;> assumption
          generalize (if 0 < (valT tt (topOf tt)).1 then ta else tb) = tz at *
          with_reducible refine ETs.cons ?_ ?_
          focus (intro _; exact rfl)
          with_reducible apply ET.var (by assumption)
          focus with_reducible assumption
          focus exact rfl
          with_reducible refine ETs.nil ?_
          refine taken_ct I (hR.le (by decide)) Hz HY (by omega) (by omega) fun X' ep7 H7 hX' X7 HX' => ?_
          obtain ⟨ht7, hn7⟩ := h7.small
          generalize takenT tz tt = t7 at *
          have hX'1 : H1 X' = none := ext_none X5 hX'
          with_reducible refine GK.use (by assumption) ?_
          with_reducible refine SS.cons (ST.gen fun _ _ => ?_)
          with_reducible refine ST.assign (by assumption) ?_ ?_ ?_
          focus refine Or.inl ?_; (with_reducible refine KO.at (by assumption) ?_); exact rfl
          focus exact rfl
          with_reducible refine ET.call (Is.ok (by assumption)) ?_ ?_
          focus exact rfl
          with_reducible apply ET.bi (by assumption) (Is.ok (by assumption))
          focus (with_reducible refine KO.at (by assumption) ?_); exact rfl
          focus exact rfl
          focus with_reducible exact gb_max (by assumption)
          with_reducible refine ⟨_, rfl, ?_, ?_⟩
          focus with_reducible exact ck_max
          with_reducible refine ETs.cons ?_ ?_
          focus (intro _; exact rfl)
          with_reducible refine ET.binop ?_
          with_reducible refine ET.list (Is.ok (by assumption)) ?_
          with_reducible refine ETs.cons ?_ ?_
          focus (intro _; exact rfl)
          with_reducible refine ET.int ?_
          with_reducible refine ETs.nil ?_
          with_reducible refine szAnd ?_ ?_
          focus exact rfl
          intro Z1 hZ1
          with_reducible refine ET.call (Is.ok (by assumption)) ?_ ?_
          focus exact rfl
          with_reducible apply ET.bi (by assumption) (Is.ok (by assumption))
          focus (with_reducible refine KO.at (by assumption) ?_); exact rfl
          focus exact rfl
          focus with_reducible exact gb_list (by assumption)
          with_reducible refine ⟨_, rfl, ?_, ?_⟩
          focus with_reducible exact ck_list
          with_reducible refine ETs.cons ?_ ?_
          focus (intro _; exact rfl)
          with_reducible apply ET.var (by assumption)
          focus with_reducible exact upd_at _ _ _
          focus exact rfl
          with_reducible refine ETs.nil ?_
          refine CT.listK (ik g) I.ok hR (hup_keep HX' hZ1) (by rw [tabP_len]; omega) fun Z2 hZ2 => ?_
          skip
          refine BinT.addL I.ok (hup_keep (hup_at _ _ _) hZ2) (hup_at _ _ _) (by simp [tabP_len]; unfold sizeLine; omega) fun Z3 hZ3 => ?_
          have eK : [PV.int 0] ++ (tabP .int CS t7).map (fun e => (ik g).val e.1) = (0 :: keysT t7).map PV.int := by simp [tabP, ik, Function.comp_def, keysT]
          rw [eK]
          with_reducible refine ETs.nil ?_
          refine CT.maxI (ns := 0 :: keysT t7) hR (hup_at _ _ _) (by simp) fun m hm hmax => ?_
          obtain rfl := topOf_eq hm hmax
          have HX8 := hup_keep (hD := hZ3) (o := .list ((0 :: keysT t7).map PV.int)) (hup_keep (hD := hZ2) (o := .list ((tabP .int CS t7).map fun e => (ik g).val e.1)) (hup_keep (hD := hZ1) (o := .list [.int 0]) HX'))
          have X8 := (((X5.trans X7).hup (o := .list [.int 0]) hZ1).hup (o := .list ((tabP .int CS t7).map fun e => (ik g).val e.1)) hZ2).hup (o := .list ((0 :: keysT t7).map PV.int)) hZ3
          with_reducible refine GK.use (by assumption) ?_
          with_reducible refine SS.nil ?_
          exact ⟨_, Nat.lt_succ_self _, t7, X', ep7, h7, by (((with_reducible refine (upd_ne ?_).trans ?_); (focus (first | assumption | exact (by decide))); (with_reducible refine (upd_ne ?_).trans ?_); (focus (first | assumption | exact (by decide))); with_reducible assumption)), by (((with_reducible refine (upd_ne ?_).trans ?_); (focus (first | assumption | exact (by decide))); (with_reducible refine (upd_ne ?_).trans ?_); (focus (first | assumption | exact (by decide))); with_reducible assumption)), by (((with_reducible refine (upd_ne ?_).trans ?_); (focus (first | assumption | exact (by decide))); (with_reducible refine (upd_ne ?_).trans ?_); (focus (first | assumption | exact (by decide))); with_reducible assumption)), by (((with_reducible refine (upd_ne ?_).trans ?_); (focus (first | assumption | exact (by decide))); with_reducible exact upd_at _ _ _)), by ((with_reducible exact upd_at _ _ _)), HX8, hX'1, X8⟩
      · rintro l5 H5 ⟨Y, epY, m1, m2, m3, m4, m5, HY, hY, X5⟩
        obtain ⟨htl, hnt, hno⟩ := hred.end_
        have hYA : An ≠ Y := ne_of HA hY
        have hYL : Ld ≠ Y := ne_of HL hY
        have hsY : Hs Y = none := ext_none X1 hY
        have HA5 := X5 _ _ HA
        have HL5 := X5 _ _ HL
        have hvl : vs.length ≤ 100 := by have := rd.length; simp at this; omega
        rcases hmore with ⟨htop, htz, as3, rfl, run3⟩ | ⟨htop, htk, as3, rfl, run3⟩
        · rw [htop] at m5
          with_reducible refine GK.use (by assumption) ?_
          with_reducible refine SS.cons (ST.gen fun _ _ => ?_)
          with_reducible refine ST.ite ?_
          with_reducible refine BT.cmp ?_ ?_
          focus exact rfl
          with_reducible apply ET.var (by assumption)
          focus with_reducible assumption
          focus exact rfl
          with_reducible refine ET.int ?_
          with_reducible refine CmpT.eqI ?_
          with_reducible refine TrT.bool ?_
          refine iteT' rfl ?_
          with_reducible refine SS.cons (ST.gen fun _ _ => ?_)
          with_reducible refine ST.expr (by assumption) ?_ ?_
          focus (intro _; exact rfl)
          refine ET.meth (T := "list") (id := "list.append") (Is.ok (by assumption)) ?_ ?_ ?_ ?_ PySem.F.plainAttrs_list PySem.F.slot_list_append PySem.F.type_list_append ?_
          focus exact rfl
          focus exact rfl
          focus exact (by decide)
          focus exact rfl
          (with_reducible apply ET.var (by assumption)); (focus with_reducible assumption); (focus exact rfl)
          apply methL
          focus with_reducible assumption
          with_reducible refine ETs.cons ?_ ?_
          focus (intro _; exact rfl)
          with_reducible refine ET.listcomp (Is.ok (by assumption)) (CompOk.of (by assumption) ?_ ?_) (by assumption) ?_ ?_
          focus exact rfl
          focus exact (by decide)
          focus (intro _ _; exact rfl)
          refine IT.list hR.hh ?_
          with_reducible refine ET.call (Is.ok (by assumption)) ?_ ?_
          focus exact rfl
          with_reducible apply ET.glob (by assumption) (Is.ok (by assumption))
          focus (with_reducible refine KO.at (by assumption) ?_); exact rfl
          focus exact rfl
          focus with_reducible exact gl_cmp (by assumption)
          with_reducible refine ⟨_, rfl, ?_, ?_⟩
          focus with_reducible exact ck_155 (by assumption)
          with_reducible refine ETs.cons ?_ ?_
          focus (intro _; exact rfl)
          with_reducible apply ET.var (by assumption)
          focus with_reducible assumption
          focus exact rfl
          with_reducible refine ETs.cons ?_ ?_
          focus (intro _; exact rfl)
          refine ET.dict0 (ik g) I.ok fun E epE hE0 => ?_
          have hYE : Y ≠ E := ne_of HY hE0
          with_reducible refine ETs.nil ?_
          refine cmp_ct (n := []) (ep' := epE) I (hR.le (by decide)) (hup_keep HY hE0) (hup_at _ _ _) hYE (by omega) (Nat.zero_le _) fun D H7 hD XB HD => ?_
          have HL7 : H7 Ld = some ((ik g).pack es ep) := XB _ _ hYL (hup_keep HL5 hE0)
          have HA7 : H7 An = some (.list vs) := XB _ _ hYA (hup_keep HA5 hE0)
          have X7 : Ext Hs H7 := fun bb po e => XB _ _ (fun z => by rw [z, hsY] at e; cases e) (hup_keep (X5 _ _ (X1 _ _ e)) hE0)
          refine ⟨D, _, rfl, HD, ?_⟩
          refine CompL.inv (StI H7 t) ?_ ?_ ⟨[], t, rfl, rfl, rfl, rfl⟩
          · rintro v r acc H8 ⟨d1, d2, e0', hr', rfl, rfl⟩ cl L hE'
            cases d2 with
            | nil => cases hr'
            | cons e d2 =>
            obtain ⟨k, s, c⟩ := e
            injection hr' with hv hr2
            subst hv hr2
            obtain ⟨z1, z2, z3⟩ := htz (k, s, c) (by rw [e0']; simp)
            have z1 : k = 0 := z1
            have z2 : s.natAbs < 2 ^ 53 := z2
            have z3 : c.natAbs < 2 ^ 53 := z3
            subst z1
            have hdl : d1.length ≤ 100 := by rw [e0'] at htl; simp at htl; omega
            with_reducible refine AT.name (by assumption) ?_ ?_
            focus refine Or.inl ?_; exact rfl
            with_reducible refine TestsT.no ?_
            with_reducible refine iteT ?_
            with_reducible refine ET.call (Is.ok (by assumption)) ?_ ?_
            focus exact rfl
            with_reducible apply ET.bi (by assumption) (Is.ok (by assumption))
            focus exact rfl
            focus exact rfl
            focus with_reducible exact gb_str (by assumption)
            with_reducible refine ⟨_, rfl, ?_, ?_⟩
            focus with_reducible exact ck_str
            with_reducible refine ETs.cons ?_ ?_
            focus (intro _; exact rfl)
            with_reducible apply ET.var (by assumption)
            focus with_reducible exact upd_at _ _ _
            focus exact rfl
            with_reducible refine ETs.nil ?_
            refine strI_ct I (hR.le (by decide)) (n := -s) (m := -c) (by omega) (by omega) ?_
            exact ⟨HD, by simp; unfold sizeLine; omega, d1 ++ [(0, s, c)], d2, by rw [e0']; simp, rfl, by simp, rfl⟩
          · rintro acc H8 ⟨d1, d2, e0', hr', rfl, rfl⟩
            obtain rfl : d2 = [] := by cases d2 with | nil => rfl | cons e _ => obtain ⟨_, _, _⟩ := e; cases hr'
            rw [List.append_nil] at e0'
            subst e0'
            refine ⟨by simp; unfold sizeLine; omega, fun V hV => ?_⟩
            with_reducible refine ETs.nil ?_
            apply CT.append
            focus (with_reducible refine (hup_ne ?_).trans ?_); (focus with_reducible exact ne_of (by assumption) (by assumption)); with_reducible assumption
            · unfold sizeLine; omega
            refine ⟨rfl, ?_⟩
            with_reducible refine GK.use (by assumption) ?_
            with_reducible refine SS.nil ?_
            with_reducible refine GK.use (by assumption) ?_
            with_reducible refine SS.nil ?_
            have hsV : Hs V = none := ext_none X7 hV
            have hVA : An ≠ V := ne_of HA7 hV
            have hVL : Ld ≠ V := ne_of HL7 hV
            generalize (t.map fun e => (-e.2.1, -e.2.2)) = tl at *
            have X8 : Ext (hup Hs V (.list (tl.map fun e : Int × Int => .str (sOf (lineL e.1 e.2))))) (hup (hup H8 V (.list (tl.map fun e : Int × Int => .str (sOf (lineL e.1 e.2))))) An (.list (vs ++ [.ref V]))) := (hup_both X7).own ((hup_ne hVA).trans sA)
            have XSV : Ext Hs (hup Hs V (.list (tl.map fun e : Int × Int => .str (sOf (lineL e.1 e.2))))) := (Ext.refl Hs).hup hsV
            exact ⟨X8 _ _ (XSV _ _ (XS _ _ ha)), c1 ++ [(b, a', sz, ct)], c2, L, es, ep, as ++ [.told tl], as3, _, _, by rw [e0]; simp, rfl, m1, m2, m3,
              (hup_ne hLA).trans ((hup_ne hVL).trans HL7), hup_at _ _ _, by rw [List.map_append]; exact (rd.ext XSV).snoc (.list (hup_at _ _ _) (strs_rd _ _)), ldr.ext XSV, (hup_ne hVL).trans sL, (hup_ne hVA).trans sA, XS.trans XSV, X8, by simp; omega, run3, by rw [eas]; simp⟩
        · with_reducible refine GK.use (by assumption) ?_
          with_reducible refine SS.cons (ST.gen fun _ _ => ?_)
          with_reducible refine ST.ite ?_
          with_reducible refine BT.cmp ?_ ?_
          focus exact rfl
          with_reducible apply ET.var (by assumption)
          focus with_reducible assumption
          focus exact rfl
          with_reducible refine ET.int ?_
          with_reducible refine CmpT.eqI ?_
          with_reducible refine TrT.bool ?_
          refine iteF' (by simpa using htop) ?_
          with_reducible refine SS.cons (ST.gen fun _ _ => ?_)
          with_reducible refine ST.assign (by assumption) ?_ ?_ ?_
          focus refine Or.inl ?_; (with_reducible refine KO.at (by assumption) ?_); exact rfl
          focus exact rfl
          with_reducible refine ET.call (Is.ok (by assumption)) ?_ ?_
          focus exact rfl
          with_reducible apply ET.glob (by assumption) (Is.ok (by assumption))
          focus (with_reducible refine KO.at (by assumption) ?_); exact rfl
          focus exact rfl
          focus with_reducible exact gl_taken (by assumption)
          with_reducible refine ⟨_, rfl, ?_, ?_⟩
          focus with_reducible exact ck_181 (by assumption)
          with_reducible refine ETs.cons ?_ ?_
          focus (intro _; exact rfl)
          with_reducible apply ET.var (by assumption)
          focus with_reducible assumption
          focus exact rfl
          with_reducible refine ETs.cons ?_ ?_
          focus (intro _; exact rfl)
          refine ET.dict0 (ik g) I.ok fun E epE hE0 => ?_
          with_reducible refine ETs.nil ?_
          refine taken_ct (n := []) (ep' := epE) I (hR.le (by decide)) (hup_keep HY hE0) (hup_at _ _ _) (by omega) (Nat.zero_le _) fun V epV H7 hV X7 HV => ?_
          have X57 : Ext H5 H7 := ((Ext.refl H5).hup hE0).trans X7
          have HY7 := X57 _ _ HY
          have HA7 := X57 _ _ HA5
          have HL7 := X57 _ _ HL5
          have hV5 : H5 V = none := ext_none ((Ext.refl H5).hup hE0) hV
          have hdt : dget (tabP PV.int CS t) (topOf t) = some (st3 (.int (topOf t)) (.int (valT t (topOf t)).1) (.int (valT t (topOf t)).2)) := by rw [tabP_get, dgetT_key htk]; rfl
          with_reducible refine GK.use (by assumption) ?_
          with_reducible refine SS.cons (ST.gen fun _ _ => ?_)
          refine ST.setItem (fun _ => rfl) ?_
          refine ET.cut (fun v H' => H' = H7 ∧ v = if 0 < (valT t (topOf t)).1 then .tuple [.ref Y, .ref V] else .tuple [.ref V, .ref Y]) ?_ ?_
          · refine ET.ite ?_
            with_reducible refine BT.cmp ?_ ?_
            focus exact rfl
            with_reducible refine ET.attr (Is.ok (by assumption)) ?_ ?_
            focus (intro _; exact rfl)
            with_reducible refine ET.sub ?_ ?_
            focus nofun
            with_reducible apply ET.var (by assumption)
            focus (with_reducible refine (upd_ne ?_).trans ?_); (focus (first | assumption | exact (by decide))); with_reducible assumption
            focus exact rfl
            with_reducible apply ET.var (by assumption)
            focus (with_reducible refine (upd_ne ?_).trans ?_); (focus (first | assumption | exact (by decide))); with_reducible assumption
            focus exact rfl
            refine SubT.dict (ik g) (k := topOf t) HY7 hdt ?_
            with_reducible apply attrK
            focus with_reducible exact sl_st_size (by assumption)
            focus exact rfl
            focus exact rfl
            with_reducible refine ET.int ?_
            with_reducible refine CmpT.gtI ?_
            with_reducible refine TrT.bool ?_
            refine iteC (fun hc => ?_) (fun hc => ?_)
            · have hc := of_decide_eq_true hc
              with_reducible refine ET.tuple ?_
              with_reducible refine ETs.cons ?_ ?_
              focus (intro _; exact rfl)
              with_reducible apply ET.var (by assumption)
              focus (with_reducible refine (upd_ne ?_).trans ?_); (focus (first | assumption | exact (by decide))); with_reducible assumption
              focus exact rfl
              with_reducible refine ETs.cons ?_ ?_
              focus (intro _; exact rfl)
              with_reducible apply ET.var (by assumption)
              focus with_reducible exact upd_at _ _ _
              focus exact rfl
              with_reducible refine ETs.nil ?_
              with_reducible refine szAnd ?_ ?_
              focus exact rfl
              exact ⟨rfl, by rw [if_pos hc]⟩
            · have hc := of_decide_eq_false hc
              with_reducible refine ET.tuple ?_
              with_reducible refine ETs.cons ?_ ?_
              focus (intro _; exact rfl)
              with_reducible apply ET.var (by assumption)
              focus with_reducible exact upd_at _ _ _
              focus exact rfl
              with_reducible refine ETs.cons ?_ ?_
              focus (intro _; exact rfl)
              with_reducible apply ET.var (by assumption)
              focus (with_reducible refine (upd_ne ?_).trans ?_); (focus (first | assumption | exact (by decide))); with_reducible assumption
              focus exact rfl
              with_reducible refine ETs.nil ?_
              with_reducible refine szAnd ?_ ?_
              focus exact rfl
              exact ⟨rfl, by rw [if_neg hc]⟩
          rintro v H8 ⟨rfl, rfl⟩
          with_reducible apply ET.var (by assumption)
          focus (with_reducible refine (upd_ne ?_).trans ?_); (focus (first | assumption | exact (by decide))); with_reducible assumption
          focus exact rfl
          with_reducible apply ET.var (by assumption)
          focus (with_reducible refine (upd_ne ?_).trans ?_); (focus (first | assumption | exact (by decide))); with_reducible assumption
          focus exact rfl
          have hge : dget es (topOf t) = none := by
            rcases ldr.get (topOf t) with ⟨_, g2⟩ | ⟨_, _, _, _, _, _, g1, _⟩
            · exact g2
            · rw [hno] at g1; cases g1
          refine SetT.dict (ik g) (k := topOf t) HL7 (by rw [ldr.length]; unfold sizeLine; omega) fun ep' => ?_
          rw [dset_new hge]
          with_reducible refine GK.use (by assumption) ?_
          with_reducible refine SS.cons (ST.gen fun _ _ => ?_)
          with_reducible refine ST.expr (by assumption) ?_ ?_
          focus (intro _; exact rfl)
          refine ET.meth (T := "list") (id := "list.append") (Is.ok (by assumption)) ?_ ?_ ?_ ?_ PySem.F.plainAttrs_list PySem.F.slot_list_append PySem.F.type_list_append ?_
          focus exact rfl
          focus exact rfl
          focus exact (by decide)
          focus exact rfl
          (with_reducible apply ET.var (by assumption)); (focus (with_reducible refine (upd_ne ?_).trans ?_); (focus (first | assumption | exact (by decide))); with_reducible assumption); (focus exact rfl)
          apply methL
          focus (with_reducible refine (hup_ne ?_).trans ?_); (focus with_reducible exact Ne.symm (by assumption)); with_reducible assumption
          (with_reducible refine ETs.cons ?_ ?_); (focus (intro _; exact rfl)); (with_reducible apply ET.var (by assumption)); (focus (with_reducible refine (upd_ne ?_).trans ?_); (focus (first | assumption | exact (by decide))); with_reducible assumption); (focus exact rfl); with_reducible refine ETs.nil ?_
          apply CT.append
          focus (with_reducible refine (hup_ne ?_).trans ?_); (focus with_reducible exact Ne.symm (by assumption)); with_reducible assumption
          · unfold sizeLine; omega
          refine ⟨rfl, ?_⟩
          with_reducible refine GK.use (by assumption) ?_
          with_reducible refine SS.nil ?_
          with_reducible refine GK.use (by assumption) ?_
          with_reducible refine SS.nil ?_
          have hYV : Y ≠ V := ne_of HY hV5
          have hsV : Hs V = none := ext_none (X1.trans X5) hV5
          have hVA : An ≠ V := ne_of HA5 hV5
          have hVL : Ld ≠ V := ne_of HL5 hV5
          have XSV : Ext Hs (hup (hup Hs Y ((ik g).pack (tabP .int CS t) epY)) V ((ik g).pack (tabP .int CS (takenT t [])) epV)) := ((Ext.refl Hs).hup hsY).hup ((hup_ne hYV.symm).trans hsV)
          have XV8 : Ext (hup (hup Hs Y ((ik g).pack (tabP .int CS t) epY)) V ((ik g).pack (tabP .int CS (takenT t [])) epV)) H8 := ext_add (ext_add (X1.trans (X5.trans X57)) HY7) HV
          have sL' : hup (hup Hs Y ((ik g).pack (tabP .int CS t) epY)) V ((ik g).pack (tabP .int CS (takenT t [])) epV) Ld = none := (hup_ne hVL).trans ((hup_ne hYL).trans sL)
          have sA' : hup (hup Hs Y ((ik g).pack (tabP .int CS t) epY)) V ((ik g).pack (tabP .int CS (takenT t [])) epV) An = none := (hup_ne hVA).trans ((hup_ne hYA).trans sA)
          have HsY : hup (hup Hs Y ((ik g).pack (tabP .int CS t) epY)) V ((ik g).pack (tabP .int CS (takenT t [])) epV) Y = some ((ik g).pack (tabP .int CS t) epY) := (hup_ne hYV).trans (hup_at _ _ _)
          have HsV : hup (hup Hs Y ((ik g).pack (tabP .int CS t) epY)) V ((ik g).pack (tabP .int CS (takenT t [])) epV) V = some ((ik g).pack (tabP .int CS (takenT t [])) epV) := hup_at _ _ _
          generalize hup (hup Hs Y ((ik g).pack (tabP .int CS t) epY)) V ((ik g).pack (tabP .int CS (takenT t [])) epV) = Hs' at *
          have hld : LdR g Hs' (L ++ [(topOf t, leadFor t)]) (es ++ [(topOf t, if 0 < (valT t (topOf t)).1 then .tuple [.ref Y, .ref V] else .tuple [.ref V, .ref Y])]) := by
            unfold leadFor
            split
            · exact (ldr.ext XSV).snoc HsY HsV
            · exact (ldr.ext XSV).snoc HsV HsY
          have X9 : Ext Hs' (hup (hup H8 Ld ((ik g).pack (es ++ [(topOf t, if 0 < (valT t (topOf t)).1 then .tuple [.ref Y, .ref V] else .tuple [.ref V, .ref Y])]) ep')) An (.list (vs ++ [.int (topOf t)]))) := (XV8.own sL').own sA'
          exact ⟨X9 _ _ (XSV _ _ (XS _ _ ha)), c1 ++ [(b, a', sz, ct)], c2, _, _, ep', as ++ [.pt (topOf t)], as3, _, Hs', by rw [e0]; simp, rfl, by (((with_reducible refine (upd_ne ?_).trans ?_); (focus (first | assumption | exact (by decide))); with_reducible assumption)), by (((with_reducible refine (upd_ne ?_).trans ?_); (focus (first | assumption | exact (by decide))); with_reducible assumption)), by (((with_reducible refine (upd_ne ?_).trans ?_); (focus (first | assumption | exact (by decide))); with_reducible assumption)),
            (hup_ne hLA).trans (hup_at _ _ _), hup_at _ _ _, by rw [List.map_append]; exact (rd.ext XSV).snoc (.int _), hld, sL', sA', XS.trans XSV, X9, by simp; omega, run3, by rw [eas]; simp⟩
    · rintro l H1 ⟨c1, c2, L, es, ep, as, as2, vs, Hs, e0, hr', l1, l2, l3, HL, HA, rd, ldr, sL, sA, XS, X1, hasl, run, eas⟩
      obtain rfl : c2 = [] := by cases c2 with | nil => rfl | cons _ _ => cases hr'
      cases run
      rw [List.append_nil] at eas
      subst eas
      exact ⟨es, ep, vs, Hs, l2, l3, HL, HA, rd, ldr, sL, sA, XS, X1⟩
  · rintro l H1 ⟨es, ep, vs, Hs, l2, l3, HL, HA, rd, ldr, sL, sA, XS, X1⟩
    with_reducible refine GK.use (by assumption) ?_
    with_reducible refine SS.cons (ST.gen fun _ _ => ?_)
    with_reducible refine ST.assign (by assumption) ?_ ?_ ?_
    focus refine Or.inr ⟨?_, by assumption⟩; (with_reducible refine KO.at (by assumption) ?_); exact rfl
    focus exact rfl
    refine ET.dict0 (ik g) I.ok fun G ep1 hG => ?_
    with_reducible refine GK.use (by assumption) ?_
    with_reducible refine SS.cons (ST.gen fun _ _ => ?_)
    with_reducible refine ST.assign (by assumption) ?_ ?_ ?_
    focus refine Or.inl ?_; (with_reducible refine KO.at (by assumption) ?_); exact rfl
    focus exact rfl
    with_reducible refine ET.call (Is.ok (by assumption)) ?_ ?_
    focus exact rfl
    with_reducible apply ET.glob (by assumption) (Is.ok (by assumption))
    focus (with_reducible refine KO.at (by assumption) ?_); exact rfl
    focus exact rfl
    focus with_reducible exact gl_Statistic (by assumption)
    with_reducible refine ⟨_, rfl, ?_, ?_⟩
    focus with_reducible exact ck_82 (by assumption)
    with_reducible refine ETs.cons ?_ ?_
    focus (intro _; exact rfl)
    with_reducible refine ET.int ?_
    with_reducible refine ETs.cons ?_ ?_
    focus (intro _; exact rfl)
    with_reducible refine ET.int ?_
    with_reducible refine ETs.cons ?_ ?_
    focus (intro _; exact rfl)
    with_reducible refine ET.int ?_
    with_reducible refine ETs.nil ?_
    refine stat_ct I (hR.le (by decide)) fun dx hdx => ?_
    have hGdx : G ≠ dx := ne_of (hup_at _ _ _) hdx
    have X2 : Ext H1 (hup (hup H1 G ((ik g).pack [] ep1)) dx .idle) := ((Ext.refl H1).hup hG).hup hdx
    have HG2 := hup_keep (o := .idle) (hup_at H1 G ((ik g).pack [] ep1)) hdx
    generalize hup (hup H1 G ((ik g).pack [] ep1)) dx .idle = H2 at X2 HG2
    have hGL : Ld ≠ G := ne_of HL hG
    have hGA : An ≠ G := ne_of HA hG
    have hGs : Hs G = none := ext_none X1 hG
    with_reducible refine GK.use (by assumption) ?_
    with_reducible refine SS.cons (ST.gen fun _ _ => ?_)
    refine ST.cut (HtM g Hs Ld An G L' vs es ep) ?_ ?_
    · refine ST.forI (fun _ _ => rfl) (HtI g Hs Ld An G L' vs es ep) (fun _ => True) (IT.range hR.hh (fun _ _ => rfl) ?_) ?_ ?_
      · with_reducible refine ET.call (Is.ok (by assumption)) ?_ ?_
        focus exact rfl
        with_reducible apply ET.bi (by assumption) (Is.ok (by assumption))
        focus (with_reducible refine KO.at (by assumption) ?_); exact rfl
        focus exact rfl
        focus with_reducible exact gb_range (by assumption)
        with_reducible refine ⟨_, rfl, ?_, ?_⟩
        focus with_reducible exact ck_range
        with_reducible refine ETs.cons ?_ ?_
        focus (intro _; exact rfl)
        with_reducible refine ET.int ?_
        with_reducible refine ETs.cons ?_ ?_
        focus (intro _; exact rfl)
        with_reducible refine ET.int ?_
        with_reducible refine ETs.nil ?_
        refine CT.range2 ?_
        exact ⟨_, _, _, rfl, by decide, rfl, [], six, [], ep1, by rw [range_items]; rfl, rfl, rfl, by (((with_reducible refine (upd_ne ?_).trans ?_); (focus (first | assumption | exact (by decide))); (with_reducible refine (upd_ne ?_).trans ?_); (focus (first | assumption | exact (by decide))); with_reducible assumption)), by (((with_reducible refine (upd_ne ?_).trans ?_); (focus (first | assumption | exact (by decide))); (with_reducible refine (upd_ne ?_).trans ?_); (focus (first | assumption | exact (by decide))); with_reducible assumption)), by (((with_reducible refine (upd_ne ?_).trans ?_); (focus (first | assumption | exact (by decide))); with_reducible exact upd_at _ _ _)), by ((with_reducible exact upd_at _ _ _)), HG2, X2 _ _ HL, X2 _ _ HA, rfl, X1.trans X2⟩
      · rintro v r l H3 ⟨qs, ps, hs, epG, hr', e6, hkeys, l1, l2, l3, l4, HG, HL3, HA3, hgo, X3⟩
        cases ps with
        | nil => cases hr'
        | cons p ps =>
        injection hr' with hv hr2
        subst hv hr2
        rw [hGo] at hgo
        have hnd : (qs ++ p :: ps).Nodup := by rw [← e6]; decide
        have hpq : p ∉ qs := fun z => (List.nodup_append.mp hnd).2.2 p z p (by simp) rfl
        have hpn : dget (rowsE hs) p = none := rowsE_none (by rw [hkeys]; exact hpq)
        have hpn2 : ∀ q ∈ qs, 1 ≤ q ∧ q < p := fun q hq => six_lt e6 hq
        have hsl : hs.length ≤ 6 := by have := congrArg List.length hkeys; have h6 := congrArg List.length e6; simp [six] at this h6; omega
        with_reducible refine AT.name (by assumption) ?_ ?_
        focus refine Or.inr ⟨?_, by assumption⟩; (with_reducible refine KO.at (by assumption) ?_); exact rfl
        with_reducible refine SS.cons (ST.gen fun _ _ => ?_)
        refine ST.setItem (fun _ => rfl) ?_
        with_reducible refine ET.tuple ?_
        with_reducible refine ETs.cons ?_ ?_
        focus (intro _; exact rfl)
        with_reducible apply ET.var (by assumption)
        focus with_reducible exact upd_at _ _ _
        focus exact rfl
        with_reducible refine ETs.cons ?_ ?_
        focus (intro _; exact rfl)
        with_reducible refine ET.int ?_
        with_reducible refine ETs.cons ?_ ?_
        focus (intro _; exact rfl)
        with_reducible refine ET.int ?_
        with_reducible refine ETs.nil ?_
        with_reducible refine szAnd ?_ ?_
        focus exact rfl
        with_reducible apply ET.var (by assumption)
        focus (with_reducible refine (upd_ne ?_).trans ?_); (focus (first | assumption | exact (by decide))); with_reducible assumption
        focus exact rfl
        with_reducible apply ET.var (by assumption)
        focus with_reducible exact upd_at _ _ _
        focus exact rfl
        refine SetT.dict (ik g) (k := p) HG (by rw [rowsE_len]; unfold sizeLine; omega) fun ep2 => ?_
        rw [dset_new hpn]
        have X4 : Ext Hs (hup H3 G ((ik g).pack (rowsE hs ++ [(p, .tuple [.int p, .int 0, .int 0])]) ep2)) := X3.own hGs
        have HG4 := hup_at H3 G ((ik g).pack (rowsE hs ++ [(p, .tuple [.int p, .int 0, .int 0])]) ep2)
        have HL4 : hup H3 G ((ik g).pack (rowsE hs ++ [(p, .tuple [.int p, .int 0, .int 0])]) ep2) Ld = _ := (hup_ne hGL).trans HL3
        have HA4 : hup H3 G ((ik g).pack (rowsE hs ++ [(p, .tuple [.int p, .int 0, .int 0])]) ep2) An = _ := (hup_ne hGA).trans HA3
        generalize hup H3 G ((ik g).pack (rowsE hs ++ [(p, .tuple [.int p, .int 0, .int 0])]) ep2) = H4 at X4 HG4 HL4 HA4
        with_reducible refine GK.use (by assumption) ?_
        with_reducible refine SS.cons (ST.gen fun _ _ => ?_)
        with_reducible refine ST.ite ?_
        with_reducible refine BT.cmp ?_ ?_
        focus exact rfl
        with_reducible apply ET.var (by assumption)
        focus with_reducible exact upd_at _ _ _
        focus exact rfl
        with_reducible apply ET.var (by assumption)
        focus (with_reducible refine (upd_ne ?_).trans ?_); (focus (first | assumption | exact (by decide))); with_reducible assumption
        focus exact rfl
        refine CmpT.inD (ik g) (k := p) HL4 ?_
        rcases ldr.get p with ⟨g1, g2⟩ | ⟨tt, tt', x, y, ex, ey, g1, g2, Hx, Hy⟩
        · have hn : hNew L' hs p = (p, 0, 0) := by unfold hNew; rw [g1]
          rw [hn] at hgo
          rw [g2]
          with_reducible refine TrT.bool ?_
          refine iteF' rfl ?_
          with_reducible refine SS.nil ?_
          with_reducible refine GK.use (by assumption) ?_
          with_reducible refine SS.nil ?_
          exact ⟨trivial, qs ++ [p], ps, hs ++ [(p, p, 0, 0)], ep2, rfl, by rw [e6]; simp, by simp [hkeys], by (((with_reducible refine (upd_ne ?_).trans ?_); (focus (first | assumption | exact (by decide))); with_reducible assumption)), by (((with_reducible refine (upd_ne ?_).trans ?_); (focus (first | assumption | exact (by decide))); with_reducible assumption)), by (((with_reducible refine (upd_ne ?_).trans ?_); (focus (first | assumption | exact (by decide))); with_reducible assumption)), by (((with_reducible refine (upd_ne ?_).trans ?_); (focus (first | assumption | exact (by decide))); with_reducible assumption)), by rw [rowsE_snoc]; exact HG4, HL4, HA4, hgo, X4⟩
        · have hn : hNew L' hs p = ((hAt hs (otherOf p tt)).1, (hAt hs (otherOf p tt)).2.1 + (valT tt 0).1, (hAt hs (otherOf p tt)).2.2 - (valT tt' 0).2) := by unfold hNew; rw [g1]
          rw [hn] at hgo
          obtain ⟨o1, o2, o3, o4, q, o5, o6, o7⟩ := hok _ _ _ g1
          have hoq : otherOf p tt = q := by unfold otherOf; rw [o5]; rfl
          rw [hoq] at hgo
          have hqm : q ∈ hs.map (·.1) := by rw [hkeys]; exact six_mem e6 o6 o7
          have hgq : dget (rowsE hs ++ [(p, .tuple [.int p, .int 0, .int 0])]) q = some (.tuple [.int (hAt hs q).1, .int (hAt hs q).2.1, .int (hAt hs q).2.2]) := rowsE_get _ hqm
          rw [g2]
          with_reducible refine TrT.bool ?_
          refine iteT' rfl ?_
          with_reducible refine SS.cons (ST.gen fun _ _ => ?_)
          refine ST.assignT (fun _ => rfl) (fun _ => rfl) ?_
          with_reducible refine ET.sub ?_ ?_
          focus nofun
          with_reducible apply ET.var (by assumption)
          focus (with_reducible refine (upd_ne ?_).trans ?_); (focus (first | assumption | exact (by decide))); with_reducible assumption
          focus exact rfl
          with_reducible apply ET.var (by assumption)
          focus with_reducible exact upd_at _ _ _
          focus exact rfl
          refine SubT.dict (ik g) (k := p) HL4 g2 ?_
          with_reducible refine AT.tuple (Room.hh (by assumption)) ?_ ?_ ?_
          focus exact rfl
          focus exact rfl
          with_reducible refine ATs.cons ?_
          with_reducible refine AT.name (by assumption) ?_ ?_
          focus refine Or.inl ?_; (with_reducible refine KO.at (by assumption) ?_); exact rfl
          with_reducible refine ATs.cons ?_
          with_reducible refine AT.name (by assumption) ?_ ?_
          focus refine Or.inl ?_; (with_reducible refine KO.at (by assumption) ?_); exact rfl
          with_reducible refine ATs.nil ?_
          with_reducible refine GK.use (by assumption) ?_
          with_reducible refine SS.cons (ST.gen fun _ _ => ?_)
          refine ST.assignT (fun _ => rfl) (fun _ => rfl) ?_
          with_reducible refine ET.sub ?_ ?_
          focus nofun
          with_reducible apply ET.var (by assumption)
          focus (with_reducible refine (upd_ne ?_).trans ?_); (focus (first | assumption | exact (by decide))); (with_reducible refine (upd_ne ?_).trans ?_); (focus (first | assumption | exact (by decide))); (with_reducible refine (upd_ne ?_).trans ?_); (focus (first | assumption | exact (by decide))); with_reducible assumption
          focus exact rfl
          with_reducible refine ET.sub ?_ ?_
          focus nofun
          with_reducible refine ET.listcomp (Is.ok (by assumption)) (CompOk.of (by assumption) ?_ ?_) (by assumption) ?_ ?_
          focus exact rfl
          focus exact (by decide)
          focus (intro _ _; exact rfl)
          refine IT.keys (ik g) hR.hh ?_
          with_reducible apply ET.var (by assumption)
          focus (with_reducible refine (upd_ne ?_).trans ?_); (focus (first | assumption | exact (by decide))); with_reducible exact upd_at _ _ _
          focus exact rfl
          have Hx4 := X4 _ _ Hx
          have Hy4 := X4 _ _ Hy
          refine ⟨x, _, _, rfl, Hx4, ?_⟩
          refine CompL.inv (KyI H4 tt p) ?_ ?_ ⟨[], tt, rfl, by simp [tabP, ik, Function.comp_def], rfl, rfl⟩
          · rintro v r acc H5 ⟨t1, t2, e0, hr', rfl, rfl⟩ cl K hE'
            cases t2 with
            | nil => cases hr'
            | cons ee t2 =>
            obtain ⟨k, s, c⟩ := ee
            injection hr' with hv hr2
            subst hv hr2
            with_reducible refine AT.name (by assumption) ?_ ?_
            focus refine Or.inl ?_; exact rfl
            with_reducible refine TestsT.one ?_
            refine BT.cut (fun b H' => b = (k != 0 && k != p) ∧ H' = H5) ?_ ?_
            · with_reducible refine BT.and ?_
              with_reducible refine BT.cmp ?_ ?_
              focus exact rfl
              with_reducible apply ET.var (by assumption)
              focus with_reducible exact upd_at _ _ _
              focus exact rfl
              with_reducible refine ET.int ?_
              with_reducible refine CmpT.neI ?_
              with_reducible refine TrT.bool ?_
              refine iteC (fun hc => ?_) (fun hc => ?_)
              · rw [hc, Bool.true_and]
                with_reducible refine BT.cmp ?_ ?_
                focus exact rfl
                with_reducible apply ET.var (by assumption)
                focus with_reducible exact upd_at _ _ _
                focus exact rfl
                with_reducible apply ET.var (by assumption)
                focus (with_reducible refine (upd_ne ?_).trans ?_); (focus (first | assumption | exact (by decide))); (with_reducible refine (lcap_free ?_).trans ?_); (focus exact rfl); (with_reducible refine (upd_ne ?_).trans ?_); (focus (first | assumption | exact (by decide))); (with_reducible refine (upd_ne ?_).trans ?_); (focus (first | assumption | exact (by decide))); with_reducible exact upd_at _ _ _
                focus exact rfl
                with_reducible refine CmpT.neI ?_
                with_reducible refine TrT.bool ?_
                exact ⟨rfl, rfl⟩
              · rw [hc, Bool.false_and]
                exact ⟨rfl, rfl⟩
            rintro b H6 ⟨rfl, rfl⟩
            have hl1 : t1.length ≤ 100 := by rw [e0] at o1; simp at o1; omega
            have hfl : (((keysT t1).filter fun k => k != 0 && k != p).map PV.int).length ≤ 100 := by
              rw [List.length_map]
              exact Nat.le_trans (List.length_filter_le _ _) (by simp [keysT]; omega)
            refine iteC (fun hc => ?_) (fun hc => ?_)
            · with_reducible apply ET.var (by assumption)
              focus with_reducible exact upd_at _ _ _
              focus exact rfl
              exact ⟨Hx4, by unfold sizeLine; omega, t1 ++ [(k, s, c)], t2, by rw [e0]; simp, rfl, by simp [keysT, List.filter_append, hc], rfl⟩
            · exact ⟨Hx4, t1 ++ [(k, s, c)], t2, by rw [e0]; simp, rfl, by simp [keysT, List.filter_append, hc], rfl⟩
          · rintro acc H5 ⟨t1, t2, e0, hr', rfl, rfl⟩
            obtain rfl : t2 = [] := by cases t2 with | nil => rfl | cons _ _ => cases hr'
            rw [List.append_nil] at e0
            subst e0
            rw [o5]
            refine ⟨Nat.le_trans (show ([q].map PV.int).length ≤ 1 from Nat.le_refl 1) (by unfold sizeLine; decide), fun K hK => ?_⟩
            with_reducible refine ET.int ?_
            refine SubT.list (d := .int q) (hup_at _ _ _) (by decide) (by decide) rfl ?_
            refine SubT.dict (ik g) (k := q) (hup_keep HG4 hK) hgq ?_
            have hGK : G ≠ K := ne_of HG4 hK
            with_reducible refine AT.tuple (Room.hh (by assumption)) ?_ ?_ ?_
            focus exact rfl
            focus exact rfl
            with_reducible refine ATs.cons ?_
            with_reducible refine AT.name (by assumption) ?_ ?_
            focus refine Or.inl ?_; (with_reducible refine KO.at (by assumption) ?_); exact rfl
            with_reducible refine ATs.cons ?_
            with_reducible refine AT.name (by assumption) ?_ ?_
            focus refine Or.inl ?_; (with_reducible refine KO.at (by assumption) ?_); exact rfl
            with_reducible refine ATs.cons ?_
            with_reducible refine AT.name (by assumption) ?_ ?_
            focus refine Or.inl ?_; (with_reducible refine KO.at (by assumption) ?_); exact rfl
            with_reducible refine ATs.nil ?_
            with_reducible refine GK.use (by assumption) ?_
            with_reducible refine SS.cons (ST.gen fun _ _ => ?_)
            have Hx5 := hup_keep (o := .list ([q].map PV.int)) Hx4 hK
            have Hy5 := hup_keep (o := .list ([q].map PV.int)) Hy4 hK
            have HG5 := hup_keep (o := .list ([q].map PV.int)) HG4 hK
            have HL5 := hup_keep (o := .list ([q].map PV.int)) HL4 hK
            have HA5 := hup_keep (o := .list ([q].map PV.int)) HA4 hK
            have X5 := X4.hup (o := .list ([q].map PV.int)) hK
            generalize hup H5 K (.list ([q].map PV.int)) = H6 at Hx5 Hy5 HG5 HL5 HA5 X5
            refine ST.setItem (fun _ => rfl) ?_
            with_reducible refine ET.tuple ?_
            with_reducible refine ETs.cons ?_ ?_
            focus (intro _; exact rfl)
            with_reducible apply ET.var (by assumption)
            focus (with_reducible refine (upd_ne ?_).trans ?_); (focus (first | assumption | exact (by decide))); (with_reducible refine (upd_ne ?_).trans ?_); (focus (first | assumption | exact (by decide))); with_reducible exact upd_at _ _ _
            focus exact rfl
            with_reducible refine ETs.cons ?_ ?_
            focus (intro _; exact rfl)
            with_reducible refine ET.call (Is.ok (by assumption)) ?_ ?_
            focus exact rfl
            with_reducible apply ET.glob (by assumption) (Is.ok (by assumption))
            focus (with_reducible refine KO.at (by assumption) ?_); exact rfl
            focus exact rfl
            focus with_reducible exact gl_iadd (by assumption)
            with_reducible refine ⟨_, rfl, ?_, ?_⟩
            focus with_reducible exact ck_162 (by assumption)
            with_reducible refine ETs.cons ?_ ?_
            focus (intro _; exact rfl)
            with_reducible apply ET.var (by assumption)
            focus (with_reducible refine (upd_ne ?_).trans ?_); (focus (first | assumption | exact (by decide))); with_reducible exact upd_at _ _ _
            focus exact rfl
            with_reducible refine ETs.cons ?_ ?_
            focus (intro _; exact rfl)
            with_reducible refine ET.attr (Is.ok (by assumption)) ?_ ?_
            focus (intro _; exact rfl)
            refine ET.meth (T := "dict") (id := "dict.get") I.ok rfl rfl (by decide) rfl PySem.F.plainAttrs_dict PySem.F.slot_dict_get PySem.F.type_dict_get ?_
            with_reducible apply ET.var (by assumption)
            focus (with_reducible refine (upd_ne ?_).trans ?_); (focus (first | assumption | exact (by decide))); (with_reducible refine (upd_ne ?_).trans ?_); (focus (first | assumption | exact (by decide))); (with_reducible refine (upd_ne ?_).trans ?_); (focus (first | assumption | exact (by decide))); (with_reducible refine (upd_ne ?_).trans ?_); (focus (first | assumption | exact (by decide))); with_reducible exact upd_at _ _ _
            focus exact rfl
            refine methD Hx5 ?_
            with_reducible refine ETs.cons ?_ ?_
            focus (intro _; exact rfl)
            with_reducible refine ET.int ?_
            with_reducible refine ETs.cons ?_ ?_
            focus (intro _; exact rfl)
            with_reducible apply ET.var (by assumption)
            focus (with_reducible refine (upd_ne ?_).trans ?_); (focus (first | assumption | exact (by decide))); (with_reducible refine (upd_ne ?_).trans ?_); (focus (first | assumption | exact (by decide))); (with_reducible refine (upd_ne ?_).trans ?_); (focus (first | assumption | exact (by decide))); (with_reducible refine (upd_ne ?_).trans ?_); (focus (first | assumption | exact (by decide))); (with_reducible refine (upd_ne ?_).trans ?_); (focus (first | assumption | exact (by decide))); (with_reducible refine (upd_ne ?_).trans ?_); (focus (first | assumption | exact (by decide))); with_reducible assumption
            focus exact rfl
            with_reducible refine ETs.nil ?_
            refine CT.dget (ik g) (k := 0) Hx5 (tab_getD _ _) ?_
            with_reducible apply attrK
            focus with_reducible exact sl_st_size (by assumption)
            focus exact rfl
            focus exact rfl
            with_reducible refine ETs.nil ?_
            refine iadd_ct I (hR.le (by decide)) ?_
            with_reducible refine ETs.cons ?_ ?_
            focus (intro _; exact rfl)
            with_reducible refine ET.call (Is.ok (by assumption)) ?_ ?_
            focus exact rfl
            with_reducible apply ET.glob (by assumption) (Is.ok (by assumption))
            focus (with_reducible refine KO.at (by assumption) ?_); exact rfl
            focus exact rfl
            focus with_reducible exact gl_isub (by assumption)
            with_reducible refine ⟨_, rfl, ?_, ?_⟩
            focus with_reducible exact ck_169 (by assumption)
            with_reducible refine ETs.cons ?_ ?_
            focus (intro _; exact rfl)
            with_reducible apply ET.var (by assumption)
            focus with_reducible exact upd_at _ _ _
            focus exact rfl
            with_reducible refine ETs.cons ?_ ?_
            focus (intro _; exact rfl)
            with_reducible refine ET.attr (Is.ok (by assumption)) ?_ ?_
            focus (intro _; exact rfl)
            refine ET.meth (T := "dict") (id := "dict.get") I.ok rfl rfl (by decide) rfl PySem.F.plainAttrs_dict PySem.F.slot_dict_get PySem.F.type_dict_get ?_
            with_reducible apply ET.var (by assumption)
            focus (with_reducible refine (upd_ne ?_).trans ?_); (focus (first | assumption | exact (by decide))); (with_reducible refine (upd_ne ?_).trans ?_); (focus (first | assumption | exact (by decide))); (with_reducible refine (upd_ne ?_).trans ?_); (focus (first | assumption | exact (by decide))); with_reducible exact upd_at _ _ _
            focus exact rfl
            refine methD Hy5 ?_
            with_reducible refine ETs.cons ?_ ?_
            focus (intro _; exact rfl)
            with_reducible refine ET.int ?_
            with_reducible refine ETs.cons ?_ ?_
            focus (intro _; exact rfl)
            with_reducible apply ET.var (by assumption)
            focus (with_reducible refine (upd_ne ?_).trans ?_); (focus (first | assumption | exact (by decide))); (with_reducible refine (upd_ne ?_).trans ?_); (focus (first | assumption | exact (by decide))); (with_reducible refine (upd_ne ?_).trans ?_); (focus (first | assumption | exact (by decide))); (with_reducible refine (upd_ne ?_).trans ?_); (focus (first | assumption | exact (by decide))); (with_reducible refine (upd_ne ?_).trans ?_); (focus (first | assumption | exact (by decide))); (with_reducible refine (upd_ne ?_).trans ?_); (focus (first | assumption | exact (by decide))); with_reducible assumption
            focus exact rfl
            with_reducible refine ETs.nil ?_
            refine CT.dget (ik g) (k := 0) Hy5 (tab_getD _ _) ?_
            with_reducible apply attrK
            focus with_reducible exact sl_st_count (by assumption)
            focus exact rfl
            focus exact rfl
            with_reducible refine ETs.nil ?_
            refine isub_ct I (hR.le (by decide)) ?_
            with_reducible refine ETs.nil ?_
            with_reducible refine szAnd ?_ ?_
            focus exact rfl
            with_reducible apply ET.var (by assumption)
            focus (with_reducible refine (upd_ne ?_).trans ?_); (focus (first | assumption | exact (by decide))); (with_reducible refine (upd_ne ?_).trans ?_); (focus (first | assumption | exact (by decide))); (with_reducible refine (upd_ne ?_).trans ?_); (focus (first | assumption | exact (by decide))); (with_reducible refine (upd_ne ?_).trans ?_); (focus (first | assumption | exact (by decide))); (with_reducible refine (upd_ne ?_).trans ?_); (focus (first | assumption | exact (by decide))); (with_reducible refine (upd_ne ?_).trans ?_); (focus (first | assumption | exact (by decide))); with_reducible assumption
            focus exact rfl
            with_reducible apply ET.var (by assumption)
            focus (with_reducible refine (upd_ne ?_).trans ?_); (focus (first | assumption | exact (by decide))); (with_reducible refine (upd_ne ?_).trans ?_); (focus (first | assumption | exact (by decide))); (with_reducible refine (upd_ne ?_).trans ?_); (focus (first | assumption | exact (by decide))); (with_reducible refine (upd_ne ?_).trans ?_); (focus (first | assumption | exact (by decide))); (with_reducible refine (upd_ne ?_).trans ?_); (focus (first | assumption | exact (by decide))); with_reducible exact upd_at _ _ _
            focus exact rfl
            refine SetT.dict (ik g) (k := p) HG5 (by rw [List.length_append, rowsE_len]; unfold sizeLine; simp; omega) fun ep7 => ?_
            rw [dset_last hpn]
            with_reducible refine GK.use (by assumption) ?_
            with_reducible refine SS.nil ?_
            with_reducible refine GK.use (by assumption) ?_
            with_reducible refine SS.nil ?_
            exact ⟨trivial, qs ++ [p], ps, _, ep7, rfl, by rw [e6]; simp, by simp [hkeys], by (((with_reducible refine (upd_ne ?_).trans ?_); (focus (first | assumption | exact (by decide))); (with_reducible refine (upd_ne ?_).trans ?_); (focus (first | assumption | exact (by decide))); (with_reducible refine (upd_ne ?_).trans ?_); (focus (first | assumption | exact (by decide))); (with_reducible refine (upd_ne ?_).trans ?_); (focus (first | assumption | exact (by decide))); (with_reducible refine (upd_ne ?_).trans ?_); (focus (first | assumption | exact (by decide))); (with_reducible refine (upd_ne ?_).trans ?_); (focus (first | assumption | exact (by decide))); with_reducible assumption)), by (((with_reducible refine (upd_ne ?_).trans ?_); (focus (first | assumption | exact (by decide))); (with_reducible refine (upd_ne ?_).trans ?_); (focus (first | assumption | exact (by decide))); (with_reducible refine (upd_ne ?_).trans ?_); (focus (first | assumption | exact (by decide))); (with_reducible refine (upd_ne ?_).trans ?_); (focus (first | assumption | exact (by decide))); (with_reducible refine (upd_ne ?_).trans ?_); (focus (first | assumption | exact (by decide))); (with_reducible refine (upd_ne ?_).trans ?_); (focus (first | assumption | exact (by decide))); with_reducible assumption)), by (((with_reducible refine (upd_ne ?_).trans ?_); (focus (first | assumption | exact (by decide))); (with_reducible refine (upd_ne ?_).trans ?_); (focus (first | assumption | exact (by decide))); (with_reducible refine (upd_ne ?_).trans ?_); (focus (first | assumption | exact (by decide))); (with_reducible refine (upd_ne ?_).trans ?_); (focus (first | assumption | exact (by decide))); (with_reducible refine (upd_ne ?_).trans ?_); (focus (first | assumption | exact (by decide))); (with_reducible refine (upd_ne ?_).trans ?_); (focus (first | assumption | exact (by decide))); with_reducible assumption)), by (((with_reducible refine (upd_ne ?_).trans ?_); (focus (first | assumption | exact (by decide))); (with_reducible refine (upd_ne ?_).trans ?_); (focus (first | assumption | exact (by decide))); (with_reducible refine (upd_ne ?_).trans ?_); (focus (first | assumption | exact (by decide))); (with_reducible refine (upd_ne ?_).trans ?_); (focus (first | assumption | exact (by decide))); (with_reducible refine (upd_ne ?_).trans ?_); (focus (first | assumption | exact (by decide))); (with_reducible refine (upd_ne ?_).trans ?_); (focus (first | assumption | exact (by decide))); with_reducible assumption)), by rw [rowsE_snoc]; exact hup_at _ _ _, (hup_ne hGL).trans HL5, (hup_ne hGA).trans HA5, hgo, X5.own hGs⟩
      · rintro l H3 ⟨qs, ps, hs, epG, hr', e6, hkeys, l1, l2, l3, l4, HG, HL3, HA3, hgo, X3⟩
        obtain rfl : ps = [] := by cases ps with | nil => rfl | cons _ _ => cases hr'
        rw [List.append_nil] at e6
        have hgo' : hs = hGo L' [] six := hgo
        subst hgo'
        exact ⟨epG, l2, l3, HG, HA3, by rw [hkeys, e6], X3⟩
    · rintro l H3 ⟨epG, l1, l2, HG, HA3, hk6, X3⟩
      with_reducible refine GK.use (by assumption) ?_
      with_reducible refine SS.cons (ST.gen fun _ _ => ?_)
      with_reducible refine ST.ret ?_
      with_reducible refine ET.tuple ?_
      with_reducible refine ETs.cons ?_ ?_
      focus (intro _; exact rfl)
      with_reducible apply ET.var (by assumption)
      focus with_reducible assumption
      focus exact rfl
      with_reducible refine ETs.cons ?_ ?_
      focus (intro _; exact rfl)
      with_reducible refine ET.listcomp (Is.ok (by assumption)) (CompOk.of (by assumption) ?_ ?_) (by assumption) ?_ ?_
      focus exact rfl
      focus exact (by decide)
      focus (intro _ _; exact rfl)
      generalize hGo L' [] six = hs at *
      refine IT.range hR.hh (fun _ _ => rfl) ?_
      with_reducible refine ET.call (Is.ok (by assumption)) ?_ ?_
      focus exact rfl
      with_reducible apply ET.bi (by assumption) (Is.ok (by assumption))
      focus (with_reducible refine KO.at (by assumption) ?_); exact rfl
      focus exact rfl
      focus with_reducible exact gb_range (by assumption)
      with_reducible refine ⟨_, rfl, ?_, ?_⟩
      focus with_reducible exact ck_range
      with_reducible refine ETs.cons ?_ ?_
      focus (intro _; exact rfl)
      with_reducible refine ET.int ?_
      with_reducible refine ETs.cons ?_ ?_
      focus (intro _; exact rfl)
      with_reducible refine ET.int ?_
      with_reducible refine ETs.nil ?_
      refine CT.range2 ?_
      refine ⟨_, _, _, rfl, by decide, ?_⟩
      refine CompL.inv (FnI H3 hs) ?_ ?_ ⟨[], six, rfl, by rw [range_items]; rfl, rfl, rfl⟩
      · rintro v r acc H4 ⟨qs, ps, e6, hr', rfl, rfl⟩ cl K hE'
        cases ps with
        | nil => cases hr'
        | cons p ps =>
        injection hr' with hv hr2
        subst hv hr2
        have hpm : p ∈ hs.map (·.1) := by rw [hk6, e6]; simp
        have hgp := rowsE_get [] hpm
        rw [List.append_nil] at hgp
        with_reducible refine AT.name (by assumption) ?_ ?_
        focus refine Or.inl ?_; exact rfl
        with_reducible refine TestsT.no ?_
        with_reducible refine iteT ?_
        with_reducible refine ET.sub ?_ ?_
        focus nofun
        with_reducible apply ET.var (by assumption)
        focus (with_reducible refine (upd_ne ?_).trans ?_); (focus (first | assumption | exact (by decide))); (with_reducible refine (lcap_free ?_).trans ?_); (focus exact rfl); with_reducible assumption
        focus exact rfl
        with_reducible apply ET.var (by assumption)
        focus with_reducible exact upd_at _ _ _
        focus exact rfl
        refine SubT.dict (ik g) (k := p) HG hgp ?_
        have hql : qs.length ≤ 6 := by have := congrArg List.length e6; simp [six] at this; omega
        exact ⟨trivial, by simp; unfold sizeLine; omega, qs ++ [p], ps, by rw [e6]; simp, rfl, by simp [rowP], rfl⟩
      · rintro acc H4 ⟨qs, ps, e6, hr', rfl, rfl⟩
        obtain rfl : ps = [] := by cases ps with | nil => rfl | cons _ _ => cases hr'
        rw [List.append_nil] at e6
        subst e6
        refine ⟨show 6 ≤ sizeLine by unfold sizeLine; decide, fun K hK => ?_⟩
        with_reducible refine ETs.nil ?_
        with_reducible refine szAnd ?_ ?_
        focus exact rfl
        with_reducible refine GK.use (by assumption) ?_
        have hKA : An ≠ K := ne_of HA3 hK
        have X5 := X3.hup (o := .list ((six.map fun p => hAt hs p).map rowP)) hK
        exact h An K _ (XS.trans X5) (.tuple (.cons (.list (hup_keep HA3 hK) (rd.ext X5)) (.cons (.list (hup_at _ _ _) (rows_rd _ _)) .nil))) (hup_at _ _ _)
end
end Mine
end
section
open PySem PySem.W PyProof.Rows PySem.Calls PySem.Spec
set_option maxRecDepth 100000
set_option maxHeartbeats 1000000
namespace Mine
theorem canAll_of {α : Type} {f : α → PyData} (h : ∀ x, PyData.canLay0 (f x) = true) : ∀ l : List α, PyData.canLayAll0 (l.map f) = true
  | [] => rfl
  | x :: l => by
    rw [List.map_cons, PyData.canLayAll0, h x, canAll_of h l]; rfl
theorem depthAll_of {α : Type} {f : α → PyData} {k : Nat} (h : ∀ x, PyData.depth (f x) ≤ k) : ∀ l : List α, PyData.depthAll (l.map f) ≤ k
  | [] => by simp [PyData.depthAll]
  | x :: l => by
    rw [List.map_cons, PyData.depthAll]
    have := h x
    have := depthAll_of h l
    omega
noncomputable def resD (as : List Ans) (rs : List (Int × Int × Int)) : PyData := .tuple [.list (as.map ansD), .list (rs.map rowD)]
theorem sgnL_ok {p b : Bool} {ds : List Nat} (h : ∀ c ∈ ds, c < 128) : ∀ c ∈ sgnL p b ds, c < 128 := fun c hc => by
  unfold sgnL at hc
  rcases List.mem_append.mp hc with z | z
  · cases b <;> cases p <;> simp at z <;> omega
  · exact h c z
theorem dg_lt {m : Nat} : ∀ c ∈ dg m, c < 128 := fun c h => by have := dg_ok h; omega
theorem unitS_ok (u : Nat) : ∀ c ∈ (unitS u).cps.toList, c < 128 := by
  by_cases h : u < 5
  · have : u = 0 ∨ u = 1 ∨ u = 2 ∨ u = 3 ∨ u = 4 := by omega
    rcases this with rfl | rfl | rfl | rfl | rfl <;> decide
  · have e : unitS u = Str.ofString "TiB" := by
      unfold unitS
      rw [List.getD_eq_getElem?_getD, List.getElem?_eq_none (by simp [units]; omega)]; rfl
    rw [e]; decide
theorem fsz_ok (n : Int) (p : Bool) : ∀ c ∈ fsz n p, c < 128 := fun c hc => by
  unfold fsz at hc
  rcases List.mem_append.mp hc with z | z
  · refine sgnL_ok (fun c h => ?_) c z
    unfold figs at h
    split at h
    · rcases List.mem_append.mp h with y | y
      · exact dg_lt c y
      · rcases List.mem_cons.mp y with rfl | y
        · decide
        · exact dg_lt c y
    · exact dg_lt c h
  · rcases List.mem_cons.mp z with rfl | z
    · decide
    · exact unitS_ok _ c z
theorem lineL_ok (n m : Int) : PyData.strOk (sOf (lineL n m)) = true := by
  have q1 : ∀ c ∈ (Str.ofString "0: size=0 B (").cps.toList, c < 128 := by decide +kernel
  have q2 : ∀ c ∈ (Str.ofString "), count=0 (").cps.toList, c < 128 := by decide +kernel
  unfold PyData.strOk sOf
  rw [Array.all_eq_true']
  intro c hc
  have hc' : c ∈ lineL n m := by simpa using hc
  have : c < 128 := by
    unfold lineL at hc'
    rcases List.mem_append.mp hc' with z | z
    · exact q1 c z
    rcases List.mem_append.mp z with z | z
    · exact fsz_ok _ _ c z
    rcases List.mem_append.mp z with z | z
    · exact q2 c z
    rcases List.mem_append.mp z with z | z
    · exact sgnL_ok dg_lt c z
    · obtain rfl := List.mem_singleton.mp z; decide
  exact decide_eq_true (by omega)
theorem ans_can (x : Ans) : PyData.canLay0 (ansD x) = true := by
  cases x with
  | pt k => rfl
  | told l =>
    show PyData.canLay0 (.list _) = true
    rw [PyData.canLay0]
    exact canAll_of (f := fun e : Int × Int => PyData.str (sOf (lineL e.1 e.2))) (fun e => by rw [PyData.canLay0]; exact lineL_ok _ _) l
theorem ans_depth (x : Ans) : PyData.depth (ansD x) ≤ 2 := by
  cases x with
  | pt k => show PyData.depth (.int k) ≤ 2; simp [PyData.depth]
  | told l =>
    show PyData.depth (.list _) ≤ 2
    rw [PyData.depth]
    have := depthAll_of (f := fun e : Int × Int => PyData.str (sOf (lineL e.1 e.2))) (k := 1) (fun _ => by simp [PyData.depth]) l
    omega
theorem row_can (x : Int × Int × Int) : PyData.canLay0 (rowD x) = true := rfl
theorem row_depth (x : Int × Int × Int) : PyData.depth (rowD x) ≤ 2 := by simp [rowD, PyData.depth, PyData.depthAll]
theorem res_can (as : List Ans) (rs : List (Int × Int × Int)) : PyData.canLay0 (resD as rs) = true := by
  unfold resD
  simp only [PyData.canLay0, PyData.canLayAll0, canAll_of ans_can as, canAll_of row_can rs, Bool.and_self]
theorem res_shaped (as : List Ans) (rs : List (Int × Int × Int)) : SeqAt.shaped (resD as rs) = true := by
  unfold SeqAt.shaped
  rw [res_can, Bool.true_and, decide_eq_true_eq]
  unfold resD
  simp only [PyData.depth, PyData.depthAll]
  have h1 := depthAll_of ans_depth as
  have h2 := depthAll_of row_depth rs
  omega
theorem res_eqv (as : List Ans) (rs : List (Int × Int × Int)) : PyData.eqv (resD as rs) (resD as rs) = true := SeqAt.eqv_refl _ (res_can as rs)
section
variable {g : Gd} {A : Around} {H : PH} {Q : PV → PH → Prop}
theorem gb_isinst (I : Is g) : GB g "isinstance" (.builtin "isinstance") := ⟨by rw [I.K]; k_is, by decide, rfl⟩
theorem gb_int (I : Is g) : GB g "int" (.type "int") := ⟨by rw [I.K]; k_is, by decide, rfl⟩
theorem ck_isinst : CallK g (.builtin "isinstance") := .inl ⟨_, rfl⟩
theorem gl_claims (I : Is g) : nsIn g.K mainGlobals "_law_claims" = some (some (.ref 176)) := by rw [I.K]; k_is
theorem gl_bytab (I : Is g) : nsIn g.K mainGlobals "_law_by_tables" = some (some (.ref 186)) := by rw [I.K]; k_is
theorem gl_bywalk (I : Is g) : nsIn g.K mainGlobals "_law_by_walking" = some (some (.ref 207)) := by rw [I.K]; k_is
theorem gl_whole (I : Is g) : nsIn g.K mainGlobals "_law_whole" = some (some (.ref 214)) := by rw [I.K]; k_is
theorem ck_176 (I : Is g) : CallK g (.ref 176) := .inr (.inr (by rw [I.K]; k_is))
theorem ck_186 (I : Is g) : CallK g (.ref 186) := .inr (.inr (by rw [I.K]; k_is))
theorem ck_207 (I : Is g) : CallK g (.ref 207) := .inr (.inr (by rw [I.K]; k_is))
theorem ck_214 (I : Is g) : CallK g (.ref 214) := .inr (.inr (by rw [I.K]; k_is))
inductive WhI (H : PH) (r : List PV) (l : PL) (H1 : PH) : Prop where
  | mk (r2 : List (Int × Int × Int)) (_ : r = r2.map rowP) (_ : H1 = H) : WhI H r l H1
inductive WhJ (H : PH) (r : List PV) (l : PL) (H1 : PH) : Prop where
  | mk (r2 : List Int) (_ : r = r2.map .int) (_ : H1 = H) : WhJ H r l H1
theorem whole_ct (I : Is g) (R : Room A 6) {a : Addr} {rs : List (Int × Int × Int)} (ha : H a = some (.list (rs.map rowP))) (h : Q (.bool true) H) : CT g A H (.ref 214) [.ref a] Q := by
  refine' CT.def (n := 5) (ns := [Str.ofString "rows"]) I.ok R (ho := ?ho) (hfd := ?hfd) (hb := ?hb) (hcode := ?hc) (hnames := ?hnm) ?h1 ?h2 ?h3 ?h4 ?h5 ?h6 ?h7 ?h8 ?h9 rfl ?_
  case ho => rw [I.K]; k_is
  case hfd => exact rfl
  case hb => exact rfl
  case hc => rw [I.K]; k_is
  case hnm => exact rfl
  case h1 => exact rfl
  case h2 => exact rfl
  case h3 => exact rfl
  case h4 => exact rfl
  case h5 => exact rfl
  case h6 => exact rfl
  case h7 => (intro s vs hv; obtain ⟨x0, rfl⟩ := len1 hv; exact BindsTo.of_eq rfl)
  case h8 => decide
  case h9 => exact rfl
  intro env A' hE hk hF hR
  dsimp only at hk
  with_reducible refine SS.cons (ST.gen fun _ _ => ?_)
  refine ST.cut (fun _ H' => H' = H) ?_ ?_
  · refine ST.forI (fun _ _ => rfl) (WhI H) (fun H1 => H1 a = some (.list (rs.map rowP))) (IT.list hR.hh ?_) ?_ ?_
    · with_reducible apply ET.var (by assumption)
      focus with_reducible exact parms_at
      focus exact rfl
      exact ⟨a, _, rfl, ha, rfl, rs, rfl, rfl⟩
    · rintro v r l H1 ⟨r2, hr', rfl⟩
      cases r2 with
      | nil => cases hr'
      | cons row r2 =>
      injection hr' with hv hr2
      subst hv hr2
      with_reducible refine AT.name (by assumption) ?_ ?_
      focus refine Or.inl ?_; (with_reducible refine KO.at (by assumption) ?_); exact rfl
      with_reducible refine SS.cons (ST.gen fun _ _ => ?_)
      refine ST.cut (fun _ H' => H' = H1) ?_ ?_
      · refine ST.forI (fun _ _ => rfl) (WhJ H1) (fun _ => True) (IT.tuple hR.hh ?_) ?_ ?_
        · with_reducible apply ET.var (by assumption)
          focus with_reducible exact upd_at _ _ _
          focus exact rfl
          exact ⟨_, rfl, rfl, [row.1, row.2.1, row.2.2], rfl, rfl⟩
        · rintro v r l H2 ⟨r3, hr3, rfl⟩
          cases r3 with
          | nil => cases hr3
          | cons x r3 =>
          injection hr3 with hv hr4
          subst hv hr4
          with_reducible refine AT.name (by assumption) ?_ ?_
          focus refine Or.inl ?_; (with_reducible refine KO.at (by assumption) ?_); exact rfl
          with_reducible refine SS.cons (ST.gen fun _ _ => ?_)
          with_reducible refine ST.ite ?_
          with_reducible refine BT.not ?_
          with_reducible refine BT.val ?_ ?_
          focus (intro _ _; exact rfl)
          with_reducible refine ET.call (Is.ok (by assumption)) ?_ ?_
          focus exact rfl
          with_reducible apply ET.bi (by assumption) (Is.ok (by assumption))
          focus (with_reducible refine KO.at (by assumption) ?_); exact rfl
          focus exact rfl
          focus with_reducible exact gb_isinst (by assumption)
          with_reducible refine ⟨_, rfl, ?_, ?_⟩
          focus with_reducible exact ck_isinst
          with_reducible refine ETs.cons ?_ ?_
          focus (intro _; exact rfl)
          with_reducible apply ET.var (by assumption)
          focus with_reducible exact upd_at _ _ _
          focus exact rfl
          with_reducible refine ETs.cons ?_ ?_
          focus (intro _; exact rfl)
          with_reducible apply ET.bi (by assumption) (Is.ok (by assumption))
          focus (with_reducible refine KO.at (by assumption) ?_); exact rfl
          focus exact rfl
          focus with_reducible exact gb_int (by assumption)
          with_reducible refine ETs.nil ?_
          refine CT.isInt ?_
          with_reducible refine TrT.bool ?_
          refine iteF' rfl ?_
          with_reducible refine SS.nil ?_
          with_reducible refine GK.use (by assumption) ?_
          with_reducible refine SS.nil ?_
          exact ⟨trivial, r3, rfl, rfl⟩
        · rintro l H2 ⟨r3, hr3, rfl⟩
          rfl
      · rintro l H2 rfl
        with_reducible refine GK.use (by assumption) ?_
        with_reducible refine SS.nil ?_
        exact ⟨ha, r2, rfl, rfl⟩
    · rintro l H1 ⟨r2, hr', rfl⟩
      rfl
  · rintro l H1 rfl
    with_reducible refine GK.use (by assumption) ?_
    with_reducible refine SS.cons (ST.gen fun _ _ => ?_)
    with_reducible refine ST.ret ?_
    with_reducible refine ET.bool ?_
    with_reducible refine GK.use (by assumption) ?_
    exact h
theorem law_ct (I : Is g) (R : Room A 20) {a : Addr} {sc : List Int} (ha : GList g a sc) (hlen : sc.length ≤ 63) (PL : PlainLaw sc) (h : ∀ H', Q (.bool true) H') : CT g A H (.ref 221) [.k (.ref a)] Q := by
  refine' CT.def (n := 19) (ns := [Str.ofString "script"]) I.ok R (ho := ?ho) (hfd := ?hfd) (hb := ?hb) (hcode := ?hc) (hnames := ?hnm) ?h1 ?h2 ?h3 ?h4 ?h5 ?h6 ?h7 ?h8 ?h9 rfl ?_
  case ho => rw [I.K]; k_is
  case hfd => exact rfl
  case hb => exact rfl
  case hc => rw [I.K]; k_is
  case hnm => exact rfl
  case h1 => exact rfl
  case h2 => exact rfl
  case h3 => exact rfl
  case h4 => exact rfl
  case h5 => exact rfl
  case h6 => exact rfl
  case h7 => (intro s vs hv; obtain ⟨x0, rfl⟩ := len1 hv; exact BindsTo.of_eq rfl)
  case h8 => decide
  case h9 => exact rfl
  intro env A' hE hk hF hR
  dsimp only at hk
  with_reducible refine SS.cons (ST.gen fun _ _ => ?_)
  with_reducible refine ST.assign (by assumption) ?_ ?_ ?_
  focus refine Or.inl ?_; (with_reducible refine KO.at (by assumption) ?_); exact rfl
  focus exact rfl
  with_reducible refine ET.call (Is.ok (by assumption)) ?_ ?_
  focus exact rfl
  with_reducible apply ET.glob (by assumption) (Is.ok (by assumption))
  focus (with_reducible refine KO.at (by assumption) ?_); exact rfl
  focus exact rfl
  focus with_reducible exact gl_claims (by assumption)
  with_reducible refine ⟨_, rfl, ?_, ?_⟩
  focus with_reducible exact ck_176 (by assumption)
  with_reducible refine ETs.cons ?_ ?_
  focus (intro _; exact rfl)
  with_reducible apply ET.var (by assumption)
  focus with_reducible exact parms_at
  focus exact rfl
  with_reducible refine ETs.nil ?_
  refine claims_ct I (hR.le (by decide)) ha hlen fun C H1 X1 HC => ?_
  have hcl : (claimsOf sc).length ≤ 100 := by simp [claimsOf, numsOf]; omega
  obtain ⟨⟨L, hrun, hok, hh⟩, htell⟩ := PL
  with_reducible refine GK.use (by assumption) ?_
  with_reducible refine SS.cons (ST.gen fun _ _ => ?_)
  with_reducible refine ST.assign (by assumption) ?_ ?_ ?_
  focus refine Or.inl ?_; (with_reducible refine KO.at (by assumption) ?_); exact rfl
  focus exact rfl
  with_reducible refine ET.call (Is.ok (by assumption)) ?_ ?_
  focus exact rfl
  with_reducible apply ET.glob (by assumption) (Is.ok (by assumption))
  focus (with_reducible refine KO.at (by assumption) ?_); exact rfl
  focus exact rfl
  focus with_reducible exact gl_bytab (by assumption)
  with_reducible refine ⟨_, rfl, ?_, ?_⟩
  focus with_reducible exact ck_186 (by assumption)
  with_reducible refine ETs.cons ?_ ?_
  focus (intro _; exact rfl)
  with_reducible apply ET.var (by assumption)
  focus with_reducible exact upd_at _ _ _
  focus exact rfl
  with_reducible refine ETs.nil ?_
  refine bytab_ct I (hR.le (by decide)) HC hcl (fun c hc => ?_) hrun hok fun An Hg H2 X2 rd2 HG2 => ?_
  · obtain ⟨n, hn, rfl⟩ := List.mem_map.mp hc
    have : 0 ≤ (n.fdiv 6).fmod 6 := fmod_lo _ (by decide)
    show (n.fdiv 6).fmod 6 + 1 ≠ 0
    omega
  rw [hh] at rd2 HG2
  with_reducible refine GK.use (by assumption) ?_
  with_reducible refine SS.cons (ST.gen fun _ _ => ?_)
  with_reducible refine ST.ret ?_
  refine ET.and ?_
  with_reducible refine ET.call (Is.ok (by assumption)) ?_ ?_
  focus exact rfl
  with_reducible apply ET.glob (by assumption) (Is.ok (by assumption))
  focus (with_reducible refine KO.at (by assumption) ?_); exact rfl
  focus exact rfl
  focus with_reducible exact gl_whole (by assumption)
  with_reducible refine ⟨_, rfl, ?_, ?_⟩
  focus with_reducible exact ck_214 (by assumption)
  with_reducible refine ETs.cons ?_ ?_
  focus (intro _; exact rfl)
  with_reducible refine ET.sub ?_ ?_
  focus nofun
  with_reducible apply ET.var (by assumption)
  focus with_reducible exact upd_at _ _ _
  focus exact rfl
  with_reducible refine ET.int ?_
  refine SubT.tuple (j := 1) (by decide) (by decide) rfl rfl ?_
  with_reducible refine ETs.nil ?_
  refine whole_ct I (hR.le (by decide)) HG2 ?_
  with_reducible refine TrT.bool ?_
  with_reducible refine iteT ?_
  with_reducible refine ET.cmp ?_ ?_
  focus exact rfl
  with_reducible apply ET.var (by assumption)
  focus with_reducible exact upd_at _ _ _
  focus exact rfl
  with_reducible refine ET.call (Is.ok (by assumption)) ?_ ?_
  focus exact rfl
  with_reducible apply ET.glob (by assumption) (Is.ok (by assumption))
  focus (with_reducible refine KO.at (by assumption) ?_); exact rfl
  focus exact rfl
  focus with_reducible exact gl_bywalk (by assumption)
  with_reducible refine ⟨_, rfl, ?_, ?_⟩
  focus with_reducible exact ck_207 (by assumption)
  with_reducible refine ETs.cons ?_ ?_
  focus (intro _; exact rfl)
  with_reducible apply ET.var (by assumption)
  focus (with_reducible refine (upd_ne ?_).trans ?_); (focus (first | assumption | exact (by decide))); with_reducible exact upd_at _ _ _
  focus exact rfl
  with_reducible refine ETs.nil ?_
  refine bywalk_ct I (hR.le (by decide)) (X2 _ _ HC) hcl htell fun v H3 X3 rd3 => ?_
  refine CmpT.eqD hR (rd2.ext X3) rd3 (res_shaped _ _) (res_shaped _ _) ?_
  rw [show PyData.eqv (.tuple [.list ((wAll [] (claimsOf sc)).2.map ansD), .list ((six.map fun p => wHeight (wAll [] (claimsOf sc)).1 p).map rowD)]) (.tuple [.list ((wAll [] (claimsOf sc)).2.map ansD), .list ((six.map (wHeight (wAll [] (claimsOf sc)).1)).map rowD)]) = true from res_eqv _ _]
  with_reducible refine GK.use (by assumption) ?_
  exact h _
end
end Mine
end
section
open PySem PySem.W PyProof.Rows PySem.Calls PySem.Spec
set_option maxRecDepth 100000
set_option maxHeartbeats 4000000
namespace Mine
theorem holds_of (PL : ∀ sc : List Int, sc.length ≤ 63 → PlainLaw sc) : PySem.Challenge.rw_wa0013_01.Holds := hd (by
  k_fill
  intro w s₀ s₁ mg mb G Y fa o pm cd doc dV kV ho hd' hcd hD hmg hg args vals as hpre hlay hrd hwl hlo
  have KX := kIn_of Y
  have T := topRead_of G.T
  clear hD hd' hcd Y
  wrow_args hpre hlay hrd hwl hlo
  rename IntsAre _ _ => hI
  rename Heap.IsList _ _ _ => hL
  rename ¬ _ => hlen
  rename_i sc _ _ _ _ _ _ _ a vs _ _ _ _ _ _
  obtain ⟨ol, eol, col, nl, dol⟩ := id hL
  let g : Gd := ⟨PySem.Challenge.rw_wa0013_01.row.prog, w, hd.heap_1 w.params, vw, looseW vw [Str.ofString "Statistic", Str.ofString "StatisticDiff"], mg, mb, s₁.heap⟩
  have I : Is g := ⟨⟨KX, T⟩, rfl⟩
  have hfa : mg (Str.ofString "law") = some (.ref 221) := mg_of KX T.g (by k_is)
  have hfa' : fa = 221 := by
    have e : mg (Str.ofString "law") = some (.ref fa) := hmg
    rw [hfa] at e; injection e with e; injection e with e; exact e.symm
  subst hfa'
  have B : BR g (fun _ => none) s₁.heap := ⟨fun _ _ e => e, fun _ _ e => by cases e⟩
  have R : Room callerA 20 := ⟨rfl, by decide, by decide⟩
  refine wpAny_mono (law_ct (Q := fun v _ => v = .bool true) I R (a := a) (sc := sc) ?_ (by omega) (PL sc (by omega)) (fun _ => rfl) [.ref a] s₁ (fun v s' => GoodWG PySem.Challenge.rw_wa0013_01.row.claim (classAt s₀.heap) (ExcName.means s₀.heap) [ofPy (PyData.list (List.map PyData.int sc))] s₁ (Except.ok (Flow.ret v)) s') (.cons (.k _) .nil) B ?_) (fun _ _ x => x) (fun _ _ x => x.elim)
  · exact ⟨vs, hL, hI⟩
  · intro v pv H' h' tk B' S' V' e
    subst e
    cases V'
    refine GoodW.toG ⟨.inl ⟨_, .bool true, [], rfl, fun _ => rfl, ?_, ?_, ?_⟩, B'.keep, rfl, hg⟩
    · exact .bool true
    · first | rfl | decide | kernel_rfl | simp [PySem.Challenge.rw_wa0013_01]
    · exact fun _ => ⟨List.nodup_nil, fun _ h => by cases h⟩
    )
end Mine
end
section
open PySem PySem.W PyProof.Rows PySem.Calls PySem.Spec
namespace Mine
noncomputable def dl (k p : Int) : Int := if k = p then 1 else 0
noncomputable def zl (k s : Int) : Int := if k = 0 then s else 0
theorem dl_eq (k : Int) : dl k k = 1 := if_pos rfl
theorem dl_ne {k p : Int} (h : k ≠ p) : dl k p = 0 := if_neg h
theorem zl_eq (s : Int) : zl 0 s = s := if_pos rfl
theorem zl_ne {k s : Int} (h : k ≠ 0) : zl k s = 0 := if_neg h
theorem zl_neg (k s : Int) : zl k (-s) = -zl k s := by unfold zl; split <;> rfl
theorem zl_sub (k s s' : Int) : zl k (s - s') = zl k s - zl k s' := by unfold zl; split <;> rfl
/-- what a table holds that says: p stands above q by (s, c) -/
noncomputable def eV (p q s c k : Int) : Int × Int := (dl k p - dl k q + zl k s, dl k p - dl k q + zl k c)
theorem eV_off {p q s c k : Int} (h0 : k ≠ 0) (hp : k ≠ p) (hq : k ≠ q) : eV p q s c k = (0, 0) := by
  unfold eV; rw [dl_ne hp, dl_ne hq, zl_ne h0, zl_ne h0]; rfl
theorem eV_same {p s c k : Int} : eV p p s c k = (zl k s, zl k c) := by
  unfold eV; rw [Int.sub_self, Int.zero_add, Int.zero_add]
theorem eV_hi {p q s c : Int} (h0 : p ≠ 0) (h : p ≠ q) : eV p q s c p = (1, 1) := by
  unfold eV; rw [dl_eq, dl_ne h, zl_ne h0, zl_ne h0]; rfl
theorem eV_lo {p q s c : Int} (h0 : q ≠ 0) (h : p ≠ q) : eV p q s c q = (-1, -1) := by
  unfold eV; rw [dl_eq, dl_ne h.symm, zl_ne h0, zl_ne h0]; rfl
structure IsE (t : Tab Int) (p q s c : Int) : Prop where
  nk : Nk t
  clean : ∀ e ∈ t, ¬ (e.2.1 = 0 ∧ e.2.2 = 0)
  val : ∀ k, valT t k = eV p q s c k
theorem taken_clean {o n : Tab Int} (ho : Nk o) (hn : Nk n) : ∀ e ∈ takenT o n, ¬ (e.2.1 = 0 ∧ e.2.2 = 0) := fun e he => (takenT_mem (k := e.1) (s := e.2.1) (c := e.2.2) ho hn he).2.2.1
theorem valT_taken' {o n : Tab Int} (ho : Nk o) (hn : Nk n) (k : Int) : valT (takenT o n) k = ((valT n k).1 - (valT o k).1, (valT n k).2 - (valT o k).2) := by
  obtain ⟨a, b⟩ := valT_taken ho hn k
  exact Prod.ext a b
theorem nk_nil : Nk [] := List.nodup_nil
theorem valT_nil (k : Int) : valT [] k = (0, 0) := rfl
theorem add_sub_c (x y z : Int) : x + y - z = x - z + y := by omega
theorem neg_lin (x y z : Int) : 0 - (x - y + z) = y - x + -z := by omega
theorem sub_lin (x y z u v : Int) : x - y + u - (x - z + v) = z - y + (u - v) := by omega
theorem sub_lin' (x y z u v : Int) : x - y + u - (z - y + v) = x - z + (u - v) := by omega
theorem table0_e {b a s c : Int} (ha : 1 ≤ a) : IsE (table0 (b, a, s, c)) a b s c := by
  have n1 : Nk [(b, (1 : Int), (1 : Int))] := by simp [Nk]
  have n2 : Nk [(a, (1 : Int), (1 : Int)), (0, s, c)] := by simp [Nk]; omega
  refine ⟨takenT_nk n1 n2, taken_clean n1 n2, fun k => ?_⟩
  unfold table0
  rw [valT_taken' n1 n2]
  have h1 : valT [(b, (1 : Int), (1 : Int))] k = (dl k b, dl k b) := by
    unfold dl
    by_cases hk : k = b
    · subst hk; simp [valT, dgetT]
    · have : ¬ b = k := fun z => hk z.symm
      simp [valT, dgetT, this, hk]
  have h2 : valT [(a, (1 : Int), (1 : Int)), (0, s, c)] k = (dl k a + zl k s, dl k a + zl k c) := by
    by_cases hk : k = a
    · subst hk
      rw [dl_eq, zl_ne (by omega), zl_ne (by omega)]
      simp [valT, dgetT]
    · have h' : ¬ a = k := fun z => hk z.symm
      rw [dl_ne hk]
      by_cases h0 : k = 0
      · subst h0; rw [zl_eq, zl_eq]; simp [valT, dgetT, h']
      · have h0' : ¬ (0 : Int) = k := fun z => h0 z.symm
        rw [zl_ne h0, zl_ne h0]
        simp [valT, dgetT, h', h0']
  rw [h1, h2]
  unfold eV
  exact Prod.ext (add_sub_c _ _ _) (add_sub_c _ _ _)
theorem neg_e {t : Tab Int} {p q s c : Int} (h : IsE t p q s c) : IsE (takenT t []) q p (-s) (-c) := by
  refine ⟨takenT_nk h.nk nk_nil, taken_clean h.nk nk_nil, fun k => ?_⟩
  rw [valT_taken' h.nk nk_nil, h.val, valT_nil]
  unfold eV
  rw [zl_neg, zl_neg]
  exact Prod.ext (neg_lin _ _ _) (neg_lin _ _ _)
theorem sub_e {t u : Tab Int} {p q r s c s' c' : Int} (h : IsE t p q s c) (h' : IsE u p r s' c') : IsE (takenT u t) r q (s - s') (c - c') := by
  refine ⟨takenT_nk h'.nk h.nk, taken_clean h'.nk h.nk, fun k => ?_⟩
  rw [valT_taken' h'.nk h.nk, h.val, h'.val]
  unfold eV
  rw [zl_sub, zl_sub]
  exact Prod.ext (sub_lin _ _ _ _ _) (sub_lin _ _ _ _ _)
theorem sub_e' {t u : Tab Int} {p q r s c s' c' : Int} (h : IsE t p q s c) (h' : IsE u r q s' c') : IsE (takenT u t) p r (s - s') (c - c') := by
  refine ⟨takenT_nk h'.nk h.nk, taken_clean h'.nk h.nk, fun k => ?_⟩
  rw [valT_taken' h'.nk h.nk, h.val, h'.val]
  unfold eV
  rw [zl_sub, zl_sub]
  exact Prod.ext (sub_lin' _ _ _ _ _) (sub_lin' _ _ _ _ _)
theorem IsE.key {t : Tab Int} {p q s c k : Int} (h : IsE t p q s c) : k ∈ keysT t ↔ eV p q s c k ≠ (0, 0) := by
  constructor
  · intro hk
    obtain ⟨e, he, rfl⟩ := List.mem_map.mp hk
    have h1 : valT t e.1 = e.2 := valT_mem h.nk he
    rw [← h.val, h1]
    intro z
    exact h.clean e he ⟨by rw [z], by rw [z]⟩
  · intro hk
    rw [← h.val] at hk
    exact List.mem_map_of_mem (f := (·.1)) (valT_ne hk)
theorem foldmax' : ∀ (l : List Int) (x : Int), x ≤ l.foldl max x ∧ (∀ y ∈ l, y ≤ l.foldl max x) ∧ (l.foldl max x = x ∨ l.foldl max x ∈ l)
  | [], x => ⟨Int.le_refl _, by simp, .inl rfl⟩
  | y :: l, x => by
    obtain ⟨h1, h2, h3⟩ := foldmax' l (max x y)
    rw [List.foldl_cons]
    refine ⟨by omega, fun z hz => ?_, ?_⟩
    · rcases List.mem_cons.mp hz with rfl | hz
      · omega
      · exact h2 z hz
    · rcases h3 with h3 | h3
      · rw [h3]
        by_cases q : y ≤ x
        · left; omega
        · right; rw [show max x y = y by omega]; simp
      · right; simp [h3]
theorem top_is {t : Tab Int} {m : Int} (h0 : 0 ≤ m) (h1 : m = 0 ∨ m ∈ keysT t) (h2 : ∀ k ∈ keysT t, k ≤ m) : topOf t = m := by
  obtain ⟨a, b, c⟩ := foldmax' (keysT t) 0
  unfold topOf
  rcases c with c | c
  · rcases h1 with z | z
    · omega
    · have := b m z; omega
  · have := h2 _ c
    rcases h1 with z | z
    · omega
    · have := b m z; omega
theorem IsE.top {t : Tab Int} {p q s c : Int} (h : IsE t p q s c) (hp : 1 ≤ p) (hq : 1 ≤ q) (hne : p ≠ q) : topOf t = max p q ∧ max p q ∈ keysT t := by
  have hm : max p q ∈ keysT t := by
    rw [h.key]
    by_cases hgt : q < p
    · rw [show max p q = p by omega, eV_hi (by omega) hne]; decide
    · rw [show max p q = q by omega, eV_lo (by omega) hne]; decide
  refine ⟨top_is (by omega) (.inr hm) fun k hk => ?_, hm⟩
  rw [h.key] at hk
  exact Classical.byContradiction fun hlt => hk (eV_off (by omega) (by omega) (by omega))
theorem IsE.same {t : Tab Int} {p s c : Int} (h : IsE t p p s c) : topOf t = 0 ∧ t = if (s == 0 && c == 0) = true then [] else [(0, s, c)] := by
  have hk : ∀ e ∈ t, e.1 = 0 ∧ e.2 = (s, c) := fun e he => by
    have h1 := h.key.mp (List.mem_map_of_mem (f := (·.1)) he)
    have h2 : valT t e.1 = e.2 := valT_mem h.nk he
    rw [h.val, eV_same] at h2
    rw [eV_same] at h1
    by_cases h0 : e.1 = 0
    · rw [h0, zl_eq, zl_eq] at h2
      exact ⟨h0, h2.symm⟩
    · rw [zl_ne h0, zl_ne h0] at h1
      exact absurd rfl h1
  refine ⟨top_is (Int.le_refl _) (.inl rfl) fun k hkk => ?_, ?_⟩
  · obtain ⟨e, he, rfl⟩ := List.mem_map.mp hkk
    have := (hk e he).1; omega
  · cases t with
    | nil =>
      have h1 := h.val 0
      rw [valT_nil, eV_same, zl_eq, zl_eq] at h1
      have h2 : s = 0 := (congrArg Prod.fst h1).symm
      have h3 : c = 0 := (congrArg Prod.snd h1).symm
      subst h2 h3
      rfl
    | cons e r =>
      have he := hk e (by simp)
      have hr : r = [] := by
        cases r with
        | nil => rfl
        | cons e' r' =>
          have he' := hk e' (by simp)
          have hn := h.nk
          simp [Nk] at hn
          exact absurd (he.1.trans he'.1.symm) hn.1.1
      subst hr
      have hc := h.clean e (by simp)
      have ee : e = (0, s, c) := Prod.ext he.1 he.2
      subst ee
      rw [if_neg (by simp at hc ⊢; exact hc)]
theorem nodup_sub_len : ∀ (l m : List Int), l.Nodup → (∀ x ∈ l, x ∈ m) → l.length ≤ m.length
  | [], _, _, _ => Nat.zero_le _
  | x :: l, m, hn, hs => by
    have hn' := List.nodup_cons.mp hn
    have hx : x ∈ m := hs x (by simp)
    have ih := nodup_sub_len l (m.erase x) hn'.2 fun y hy => (List.mem_erase_of_ne (fun z : y = x => hn'.1 (by rw [← z]; exact hy))).mpr (hs y (by simp [hy]))
    rw [List.length_erase_of_mem hx] at ih
    have : 0 < m.length := List.length_pos_of_mem hx
    rw [List.length_cons]; omega
theorem IsE.len {t : Tab Int} {p q s c : Int} (h : IsE t p q s c) (hp : 1 ≤ p ∧ p ≤ 6) (hq : 1 ≤ q ∧ q ≤ 6) : t.length ≤ 7 := by
  have h1 : ∀ k ∈ keysT t, k ∈ [(0 : Int), 1, 2, 3, 4, 5, 6] := fun k hk => by
    rw [h.key] at hk
    have : 0 ≤ k ∧ k ≤ 6 := Classical.byContradiction fun hn => hk (eV_off (by omega) (by omega) (by omega))
    simp
    omega
  have := nodup_sub_len (keysT t) _ h.nk h1
  simpa [keysT] using this
end Mine
end
section
open PySem PySem.W PyProof.Rows PySem.Calls PySem.Spec
namespace Mine
structure LeadE (m : Int) (T T' : Tab Int) (r s c : Int) : Prop where
  lo : 1 ≤ r
  lt : r < m
  hi : m ≤ 6
  e : IsE T m r s c
  e' : IsE T' r m (-s) (-c)
noncomputable def LOk (L : List Lead) : Prop := ∀ m T T', leadOf L m = some (T, T') → ∃ r s c, LeadE m T T' r s c
noncomputable def Sat (L : List Lead) (f : Int → Int × Int) : Prop := ∀ m T T' r s c, leadOf L m = some (T, T') → LeadE m T T' r s c → (f m).1 - (f r).1 = s ∧ (f m).2 - (f r).2 = c
noncomputable def Cl (L : List Lead) (S : Int → Prop) : Prop := ∀ m T T' r s c, leadOf L m = some (T, T') → LeadE m T T' r s c → (S m ↔ S r)
theorem top_pos {t : Tab Int} {p q s c : Int} (h : IsE t p q s c) (hp : 1 ≤ p) (hpq : p ≠ q) : 0 < (valT t p).1 := by
  rw [h.val, eV_hi (by omega) hpq]; decide
theorem top_neg {t : Tab Int} {p q s c : Int} (h : IsE t p q s c) (hq : 1 ≤ q) (hpq : p ≠ q) : ¬ 0 < (valT t q).1 := by
  rw [h.val, eV_lo (by omega) hpq]; decide
theorem reduce {L : List Lead} (hL : LOk L) : ∀ (N : Nat) (t : Tab Int) (p q s c : Int), p + q ≤ N → IsE t p q s c → 1 ≤ p ∧ p ≤ 6 → 1 ≤ q ∧ q ≤ 6 →
    ∃ n t' p' q' s' c', Redn L n t t' ∧ IsE t' p' q' s' c' ∧ (1 ≤ p' ∧ p' ≤ 6) ∧ (1 ≤ q' ∧ q' ≤ 6) ∧ (p' ≠ q' → leadOf L (max p' q') = none) ∧
      (∀ f, Sat L f → (f p').1 - (f q').1 - s' = (f p).1 - (f q).1 - s ∧ (f p').2 - (f q').2 - c' = (f p).2 - (f q).2 - c) ∧ (∀ S, Cl L S → ((S p ↔ S p') ∧ (S q ↔ S q')))
  | 0, t, p, q, s, c, hN, h, hp, hq => by omega
  | N + 1, t, p, q, s, c, hN, h, hp, hq => by
    have hlen := h.len hp hq
    by_cases hpq : p = q
    · subst hpq
      have ht := h.same.1
      refine ⟨0, t, p, p, s, c, .done ?_ (by omega) h.nk, h, hp, hq, fun z => absurd rfl z, fun f _ => ⟨rfl, rfl⟩, fun S _ => ⟨Iff.rfl, Iff.rfl⟩⟩
      rw [ht]
      cases q0 : leadOf L 0 with
      | none => rfl
      | some v =>
        obtain ⟨T, T'⟩ := v
        obtain ⟨r, s1, c1, e⟩ := hL _ _ _ q0
        have := e.lo; have := e.lt; omega
    · obtain ⟨ht, hk⟩ := h.top hp.1 hq.1 hpq
      cases q0 : leadOf L (max p q) with
      | none => exact ⟨0, t, p, q, s, c, .done (by rw [ht]; exact q0) (by omega) h.nk, h, hp, hq, fun _ => q0, fun f _ => ⟨rfl, rfl⟩, fun S _ => ⟨Iff.rfl, Iff.rfl⟩⟩
      | some v =>
        obtain ⟨T, T'⟩ := v
        obtain ⟨r, s1, c1, e⟩ := hL _ _ _ q0
        have hr1 := e.lo
        have hr2 := e.lt
        have lT := e.e.len (by omega) (by omega)
        have lT' := e.e'.len (by omega) (by omega)
        by_cases hgt : q < p
        · have hm : max p q = p := by omega
          rw [hm] at q0 ht e
          have hpos := top_pos h hp.1 hpq
          have h2 := sub_e h e.e
          obtain ⟨n, t', p', q', s', c', a1, a2, a3, a4, a5, a6, a7⟩ := reduce hL N _ r q _ _ (by omega) h2 (by omega) hq
          refine ⟨n + 1, t', p', q', s', c', .step (by rw [ht]; exact q0) (by rw [ht, ← hm]; exact hk) (by omega) h.nk (by omega) (by omega) ?_, a2, a3, a4, a5, fun f hf => ?_, fun S hS => ?_⟩
          · rw [ht, if_pos hpos]; exact a1
          · have := a6 f hf
            have := hf _ _ _ _ _ _ q0 e
            omega
          · have := a7 S hS
            have h3 := hS _ _ _ _ _ _ q0 e
            exact ⟨h3.trans this.1, this.2⟩
        · have hm : max p q = q := by omega
          rw [hm] at q0 ht e
          have hneg := top_neg h hq.1 hpq
          have h2 := sub_e' h e.e'
          obtain ⟨n, t', p', q', s', c', a1, a2, a3, a4, a5, a6, a7⟩ := reduce hL N _ p r _ _ (by omega) h2 hp (by omega)
          refine ⟨n + 1, t', p', q', s', c', .step (by rw [ht]; exact q0) (by rw [ht, ← hm]; exact hk) (by omega) h.nk (by omega) (by omega) ?_, a2, a3, a4, a5, fun f hf => ?_, fun S hS => ?_⟩
          · rw [ht, if_neg hneg]; exact a1
          · have := a6 f hf
            have := hf _ _ _ _ _ _ q0 e
            omega
          · have := a7 S hS
            have h3 := hS _ _ _ _ _ _ q0 e
            exact ⟨this.1, h3.trans this.2⟩
/-! heights -/
noncomputable def hgt (L : List Lead) (p : Int) : Int × Int × Int := hAt (hGo L [] six) p
theorem hAt_snoc {hs : List (Int × Int × Int × Int)} {p k : Int} {v : Int × Int × Int} (h : k ∈ hs.map (·.1)) : hAt (hs ++ [(p, v)]) k = hAt hs k := by
  unfold hAt
  rw [List.find?_append]
  cases q : hs.find? (fun e => e.1 = k) with
  | some x => rfl
  | none =>
    rw [List.find?_eq_none] at q
    obtain ⟨e, he, rfl⟩ := List.mem_map.mp h
    exact absurd (decide_eq_true rfl) (q e he)
theorem hAt_last {hs : List (Int × Int × Int × Int)} {p : Int} {v : Int × Int × Int} (h : p ∉ hs.map (·.1)) : hAt (hs ++ [(p, v)]) p = v := by
  unfold hAt
  rw [List.find?_append, List.find?_eq_none.mpr]
  · simp
  · intro e he
    simp only [decide_eq_true_eq]
    intro z
    exact h (z ▸ List.mem_map_of_mem he)
theorem hGo_keys (L : List Lead) : ∀ (ps : List Int) (hs : List (Int × Int × Int × Int)), (hGo L hs ps).map (·.1) = hs.map (·.1) ++ ps
  | [], hs => by simp [hGo]
  | p :: ps, hs => by rw [hGo, hGo_keys L ps]; simp
theorem hGo_keep (L : List Lead) {k : Int} : ∀ (ps : List Int) (hs : List (Int × Int × Int × Int)), k ∈ hs.map (·.1) → hAt (hGo L hs ps) k = hAt hs k
  | [], hs, _ => rfl
  | p :: ps, hs, h => by rw [hGo, hGo_keep L ps _ (by simp at h ⊢; exact .inl h), hAt_snoc h]
theorem hGo_app (L : List Lead) : ∀ (a b : List Int) (hs : List (Int × Int × Int × Int)), hGo L hs (a ++ b) = hGo L (hGo L hs a) b
  | [], _, _ => rfl
  | p :: a, b, hs => by rw [List.cons_append, hGo, hGo, hGo_app L a b]
theorem six_split {p : Int} (h : 1 ≤ p ∧ p ≤ 6) : ∃ a b, six = a ++ p :: b ∧ p ∉ a ∧ ∀ r, 1 ≤ r → r < p → r ∈ a := by
  have : p = 1 ∨ p = 2 ∨ p = 3 ∨ p = 4 ∨ p = 5 ∨ p = 6 := by omega
  rcases this with rfl | rfl | rfl | rfl | rfl | rfl
  · exact ⟨[], [2, 3, 4, 5, 6], rfl, by simp, fun r h1 h2 => by omega⟩
  · exact ⟨[1], [3, 4, 5, 6], rfl, by simp, fun r h1 h2 => by simp; omega⟩
  · exact ⟨[1, 2], [4, 5, 6], rfl, by simp, fun r h1 h2 => by simp; omega⟩
  · exact ⟨[1, 2, 3], [5, 6], rfl, by simp, fun r h1 h2 => by simp; omega⟩
  · exact ⟨[1, 2, 3, 4], [6], rfl, by simp, fun r h1 h2 => by simp; omega⟩
  · exact ⟨[1, 2, 3, 4, 5], [], rfl, by simp, fun r h1 h2 => by simp; omega⟩
theorem filter_one : ∀ {l : List Int} {f : Int → Bool} {r : Int}, l.Nodup → r ∈ l → f r = true → (∀ x ∈ l, f x = true → x = r) → l.filter f = [r]
  | [], _, _, _, h, _, _ => by cases h
  | x :: l, f, r, hn, hr, hf, hu => by
    have hn' := List.nodup_cons.mp hn
    by_cases hx : x = r
    · subst hx
      rw [List.filter_cons_of_pos hf]
      congr 1
      rw [List.filter_eq_nil_iff]
      intro y hy hfy
      have := hu y (by simp [hy]) hfy
      subst this
      exact hn'.1 hy
    · have hfx : ¬ f x = true := fun z => hx (hu x (by simp) z)
      rw [List.filter_cons_of_neg hfx]
      exact filter_one hn'.2 ((List.mem_cons.mp hr).resolve_left fun z => hx z.symm) hf fun y hy => hu y (by simp [hy])
theorem other_is {T : Tab Int} {p r s c : Int} (h : IsE T p r s c) (h1 : 1 ≤ r) (h2 : r < p) : (keysT T).filter (fun k => k != 0 && k != p) = [r] := by
  refine filter_one h.nk ?_ ?_ fun x hx hf => ?_
  · rw [h.key, eV_lo (by omega) (by omega)]; decide
  · simp; omega
  · rw [h.key] at hx
    simp at hf
    exact Classical.byContradiction fun hne => hx (eV_off hf.1 hf.2 hne)
theorem hgt_none {L : List Lead} {p : Int} (hp : 1 ≤ p ∧ p ≤ 6) (h : leadOf L p = none) : hgt L p = (p, 0, 0) := by
  obtain ⟨a, b, e, hn, _⟩ := six_split hp
  unfold hgt
  rw [e, hGo_app, hGo, hGo_keep L b _ (by simp), hAt_last (by rw [hGo_keys]; simpa using hn)]
  unfold hNew
  rw [h]
theorem hgt_some {L : List Lead} {p : Int} {T T' : Tab Int} {r s c : Int} (h : leadOf L p = some (T, T')) (e : LeadE p T T' r s c) : hgt L p = ((hgt L r).1, (hgt L r).2.1 + s, (hgt L r).2.2 + c) := by
  obtain ⟨a, b, e6, hn, hlt⟩ := six_split (p := p) ⟨by have := e.lo; have := e.lt; omega, e.hi⟩
  have hra := hlt r e.lo e.lt
  have hr : hgt L r = hAt (hGo L [] a) r := by
    unfold hgt
    rw [e6, hGo_app, hGo_keep L _ _ (by rw [hGo_keys]; simpa using hra)]
  have h1 := e.lo
  have h2 := e.lt
  rw [hr]
  unfold hgt
  rw [e6, hGo_app, hGo, hGo_keep L b _ (by simp), hAt_last (by rw [hGo_keys]; simpa using hn)]
  unfold hNew
  rw [h]
  have ho : otherOf p T = r := by unfold otherOf; rw [other_is e.e e.lo e.lt]; rfl
  have v1 : (valT T 0).1 = s := by rw [e.e.val]; unfold eV; rw [zl_eq, dl_ne (by omega), dl_ne (by omega)]; exact Int.zero_add _
  have v2 : (valT T' 0).2 = -c := by rw [e.e'.val]; unfold eV; rw [zl_eq, dl_ne (by omega), dl_ne (by omega)]; exact Int.zero_add _
  dsimp only
  rw [ho, v1, v2, Int.sub_neg]
end Mine
end
section
open PySem PySem.W PyProof.Rows PySem.Calls PySem.Spec
namespace Mine
structure TieOk (R : Int → Int × Int × Int) (t : Claim) : Prop where
  lo : 1 ≤ t.1 ∧ t.1 ≤ 6
  hi : 1 ≤ t.2.1 ∧ t.2.1 ≤ 6
  root : (R t.2.1).1 = (R t.1).1
  sz : (R t.2.1).2.1 - (R t.1).2.1 = t.2.2.1
  ct : (R t.2.1).2.2 - (R t.1).2.2 = t.2.2.2
structure Snd (R : Int → Int × Int × Int) (x : Int) (f : Tab Int) : Prop where
  nk : Nk f
  ent : ∀ e ∈ f, (1 ≤ e.1 ∧ e.1 ≤ 6) ∧ (R e.1).1 = (R x).1 ∧ e.2.1 = (R e.1).2.1 - (R x).2.1 ∧ e.2.2 = (R e.1).2.2 - (R x).2.2
theorem dget_in {t : Tab Int} {k : Int} {v : Int × Int} (h : dgetT t k = some v) : (k, v) ∈ t ∧ k ∈ keysT t := by
  have := dgetT_some h
  exact ⟨this, List.mem_map_of_mem (f := (·.1)) this⟩
theorem dget_not {t : Tab Int} {k : Int} (h : dgetT t k = none) : k ∉ keysT t := dgetT_none.mp h
theorem keys_app (f : Tab Int) (k : Int) (v : Int × Int) : keysT (f ++ [(k, v)]) = keysT f ++ [k] := by simp [keysT]
theorem nk_app {f : Tab Int} {k : Int} {v : Int × Int} (h : Nk f) (hk : k ∉ keysT f) : Nk (f ++ [(k, v)]) := by
  show (keysT (f ++ [(k, v)])).Nodup
  rw [keys_app]
  refine List.nodup_append.mpr ⟨h, by simp, fun a ha b hb => ?_⟩
  obtain rfl := List.mem_singleton.mp hb
  exact fun z => hk (z ▸ ha)
theorem Snd.step {R : Int → Int × Int × Int} {x : Int} {f : Tab Int} {t : Claim} (h : Snd R x f) (ht : TieOk R t) : Snd R x (wstep f t) := by
  unfold wstep
  split
  · rename_i vb h1 h2
    have hb := h.ent _ (dget_in h1).1
    dsimp only at hb
    refine ⟨nk_app h.nk (dget_not h2), fun e he => ?_⟩
    rcases List.mem_append.mp he with z | z
    · exact h.ent e z
    · obtain rfl := List.mem_singleton.mp z
      have := ht.root; have := ht.sz; have := ht.ct
      exact ⟨ht.hi, by dsimp only; omega, by dsimp only; omega, by dsimp only; omega⟩
  · rename_i va h1 h2
    have hb := h.ent _ (dget_in h2).1
    dsimp only at hb
    refine ⟨nk_app h.nk (dget_not h1), fun e he => ?_⟩
    rcases List.mem_append.mp he with z | z
    · exact h.ent e z
    · obtain rfl := List.mem_singleton.mp z
      have := ht.root; have := ht.sz; have := ht.ct
      exact ⟨ht.lo, by dsimp only; omega, by dsimp only; omega, by dsimp only; omega⟩
  · exact h
theorem Snd.round {R : Int → Int × Int × Int} {x : Int} : ∀ {ties : List Claim} {f : Tab Int}, Snd R x f → (∀ t ∈ ties, TieOk R t) → Snd R x (wround ties f)
  | [], _, h, _ => h
  | t :: r, f, h, ht => Snd.round (ties := r) (h.step (ht t (by simp))) fun y hy => ht y (by simp [hy])
theorem Snd.go {R : Int → Int × Int × Int} {x : Int} {ties : List Claim} (ht : ∀ t ∈ ties, TieOk R t) : ∀ (n : Nat) {f : Tab Int}, Snd R x f → Snd R x (wgo ties n f)
  | 0, _, h => h
  | n + 1, _, h => Snd.go ht n (h.round ht)
/-! what walking reaches -/
theorem mono_step {f : Tab Int} {t : Claim} {k : Int} (h : k ∈ keysT f) : k ∈ keysT (wstep f t) := by
  unfold wstep
  split
  · rw [keys_app]; exact List.mem_append_left _ h
  · rw [keys_app]; exact List.mem_append_left _ h
  · exact h
theorem touch_step {f : Tab Int} {t : Claim} (h : t.1 ∈ keysT f ∨ t.2.1 ∈ keysT f) : t.1 ∈ keysT (wstep f t) ∧ t.2.1 ∈ keysT (wstep f t) := by
  unfold wstep
  split
  · rename_i vb h1 h2
    rw [keys_app]
    exact ⟨List.mem_append_left _ (dget_in h1).2, by simp⟩
  · rename_i va h1 h2
    rw [keys_app]
    exact ⟨by simp, List.mem_append_left _ (dget_in h2).2⟩
  · rename_i h1 h2
    cases q1 : dgetT f t.1 with
    | none =>
      cases q2 : dgetT f t.2.1 with
      | none => exact absurd h (by rintro (z | z); exact dget_not q1 z; exact dget_not q2 z)
      | some v => exact absurd q2 (h2 v q1)
    | some v =>
      cases q2 : dgetT f t.2.1 with
      | none => exact absurd q2 (h1 v q1)
      | some w => exact ⟨(dget_in q1).2, (dget_in q2).2⟩
theorem mono_round {k : Int} : ∀ {ties : List Claim} {f : Tab Int}, k ∈ keysT f → k ∈ keysT (wround ties f)
  | [], _, h => h
  | _ :: r, _, h => mono_round (ties := r) (mono_step h)
theorem touch_round : ∀ {ties : List Claim} {f : Tab Int} {t : Claim}, t ∈ ties → (t.1 ∈ keysT f ∨ t.2.1 ∈ keysT f) → t.1 ∈ keysT (wround ties f) ∧ t.2.1 ∈ keysT (wround ties f)
  | u :: r, f, t, hm, h => by
    rcases List.mem_cons.mp hm with rfl | hm
    · have := touch_step h
      exact ⟨mono_round (ties := r) this.1, mono_round (ties := r) this.2⟩
    · exact touch_round (ties := r) hm (h.imp mono_step mono_step)
noncomputable def Clo (ties : List Claim) (f : Tab Int) : Prop := ∀ t ∈ ties, (t.1 ∈ keysT f ↔ t.2.1 ∈ keysT f)
theorem clo_step {f : Tab Int} {t : Claim} (h : t.1 ∈ keysT f ↔ t.2.1 ∈ keysT f) : wstep f t = f := by
  unfold wstep
  split
  · rename_i vb h1 h2
    exact absurd (h.mp (dget_in h1).2) (dget_not h2)
  · rename_i va h1 h2
    exact absurd (h.mpr (dget_in h2).2) (dget_not h1)
  · rfl
theorem clo_round : ∀ {ties : List Claim} {f : Tab Int}, Clo ties f → wround ties f = f
  | [], _, _ => rfl
  | t :: r, f, h => by
    show wround r (wstep f t) = f
    rw [clo_step (h t (by simp))]
    exact clo_round fun u hu => h u (by simp [hu])
theorem clo_go {ties : List Claim} {f : Tab Int} (h : Clo ties f) : ∀ n, wgo ties n f = f
  | 0 => rfl
  | n + 1 => by rw [wgo, clo_round h]; exact clo_go h n
noncomputable def inn (f : Tab Int) (t : Claim) : Bool := decide (t.1 ∈ keysT f) && decide (t.2.1 ∈ keysT f)
theorem count_lt {α : Type} {p q : α → Bool} : ∀ {l : List α}, (∀ x ∈ l, p x = true → q x = true) → (∃ x ∈ l, p x = false ∧ q x = true) → l.countP p < l.countP q
  | [], _, h => by obtain ⟨x, hx, _⟩ := h; cases hx
  | y :: l, hs, h => by
    have hle : l.countP p ≤ l.countP q := List.countP_mono_left fun x hx => hs x (by simp [hx])
    rw [List.countP_cons, List.countP_cons]
    obtain ⟨x, hx, h1, h2⟩ := h
    rcases List.mem_cons.mp hx with rfl | hx
    · rw [h1, h2]; simp; omega
    · have ih := count_lt (l := l) (fun x hx => hs x (by simp [hx])) ⟨x, hx, h1, h2⟩
      have hy := hs y (by simp)
      cases hp : p y with
      | true => rw [hy hp]; simp; omega
      | false => cases q y <;> simp <;> omega
theorem go_clo {ties : List Claim} : ∀ (n : Nat) (f : Tab Int), ties.length ≤ ties.countP (inn f) + n → Clo ties (wgo ties n f)
  | 0, f, h => fun t ht => by
    have hc : ties.countP (inn f) = ties.length := Nat.le_antisymm List.countP_le_length h
    have := List.countP_eq_length.mp hc t ht
    unfold inn at this
    simp at this
    exact ⟨fun _ => this.2, fun _ => this.1⟩
  | n + 1, f, h => by
    by_cases hc : Clo ties f
    · rw [wgo, clo_round hc, clo_go hc]; exact hc
    · rw [wgo]
      refine go_clo n _ ?_
      have hex : ∃ t ∈ ties, ¬ (t.1 ∈ keysT f ↔ t.2.1 ∈ keysT f) := Classical.byContradiction fun hn => hc fun t ht => Classical.byContradiction fun q => hn ⟨t, ht, q⟩
      obtain ⟨t, ht, hne⟩ := hex
      have hlt : ties.countP (inn f) < ties.countP (inn (wround ties f)) := by
        refine count_lt (fun x hx hp => ?_) ⟨t, ht, ?_, ?_⟩
        · unfold inn at hp ⊢
          simp at hp ⊢
          exact ⟨mono_round hp.1, mono_round hp.2⟩
        · unfold inn
          by_cases z1 : t.1 ∈ keysT f <;> by_cases z2 : t.2.1 ∈ keysT f <;> simp [z1, z2] at hne ⊢
        · have hor : t.1 ∈ keysT f ∨ t.2.1 ∈ keysT f := by
            by_cases z1 : t.1 ∈ keysT f
            · exact .inl z1
            · by_cases z2 : t.2.1 ∈ keysT f
              · exact .inr z2
              · exact absurd ⟨fun z => absurd z z1, fun z => absurd z z2⟩ hne
          have := touch_round ht hor
          unfold inn
          simp [this.1, this.2]
      omega
theorem start_go {ties : List Claim} {x : Int} : ∀ (n : Nat) {f : Tab Int}, x ∈ keysT f → x ∈ keysT (wgo ties n f)
  | 0, _, h => h
  | n + 1, _, h => start_go n (mono_round h)
/-- the state of the proof between two claims -/
structure Inv (L : List Lead) (ties : List Claim) : Prop where
  ok : LOk L
  tie : ∀ t ∈ ties, TieOk (hgt L) t
  conn : ∀ S : Int → Prop, (∀ t ∈ ties, (S t.1 ↔ S t.2.1)) → Cl L S
theorem root_le {L : List Lead} (hL : LOk L) : ∀ (n : Nat) (y : Int), y ≤ n → 1 ≤ y ∧ y ≤ 6 → (1 ≤ (hgt L y).1 ∧ (hgt L y).1 ≤ y) ∧ leadOf L (hgt L y).1 = none
  | 0, y, h, hy => by omega
  | n + 1, y, h, hy => by
    cases q : leadOf L y with
    | none => rw [hgt_none hy q]; exact ⟨⟨hy.1, Int.le_refl _⟩, q⟩
    | some v =>
      obtain ⟨T, T'⟩ := v
      obtain ⟨r, s, c, e⟩ := hL _ _ _ q
      have h1 := e.lo; have h2 := e.lt
      obtain ⟨⟨a, b⟩, d⟩ := root_le hL n r (by omega) (by omega)
      rw [hgt_some q e]
      exact ⟨⟨a, by dsimp only; omega⟩, d⟩
theorem root_iff {L : List Lead} (hL : LOk L) {S : Int → Prop} (hS : Cl L S) : ∀ (n : Nat) (y : Int), y ≤ n → 1 ≤ y ∧ y ≤ 6 → (S y ↔ S (hgt L y).1)
  | 0, y, h, hy => by omega
  | n + 1, y, h, hy => by
    cases q : leadOf L y with
    | none => rw [hgt_none hy q]
    | some v =>
      obtain ⟨T, T'⟩ := v
      obtain ⟨r, s, c, e⟩ := hL _ _ _ q
      have h1 := e.lo; have h2 := e.lt
      rw [hgt_some q e]
      exact (hS _ _ _ _ _ _ q e).trans (root_iff hL hS n r (by omega) (by omega))
theorem walk_ok {L : List Lead} {ties : List Claim} (I : Inv L ties) {x : Int} (hx : 1 ≤ x ∧ x ≤ 6) : Snd (hgt L) x (walkT ties x) ∧ ∀ y, 1 ≤ y ∧ y ≤ 6 → (hgt L y).1 = (hgt L x).1 → y ∈ keysT (walkT ties x) := by
  have h0 : Snd (hgt L) x [(x, 0, 0)] := ⟨by simp [Nk], fun e he => by obtain rfl := List.mem_singleton.mp he; exact ⟨hx, rfl, by dsimp only; omega, by dsimp only; omega⟩⟩
  refine ⟨Snd.go I.tie _ h0, fun y hy hr => ?_⟩
  have hc : Clo ties (walkT ties x) := go_clo _ _ (by omega)
  have hS : Cl L fun k => k ∈ keysT (walkT ties x) := I.conn _ fun t ht => hc t ht
  have hs : x ∈ keysT (walkT ties x) := start_go _ (by simp [keysT])
  have h1 := root_iff I.ok hS 6 y (by omega) hy
  have h2 := root_iff I.ok hS 6 x (by omega) hx
  rw [h1, hr]
  exact h2.mp hs
theorem minOf_eq' : ∀ {l : List Int} {m : Int}, m ∈ l → (∀ x ∈ l, m ≤ x) → minOf l = m := by
  have key : ∀ (l : List Int) (x : Int), l.foldl min x ≤ x ∧ (∀ y ∈ l, l.foldl min x ≤ y) ∧ (l.foldl min x = x ∨ l.foldl min x ∈ l) := by
    intro l
    induction l with
    | nil => intro x; exact ⟨Int.le_refl _, by simp, .inl rfl⟩
    | cons y l ih =>
      intro x
      obtain ⟨h1, h2, h3⟩ := ih (min x y)
      rw [List.foldl_cons]
      refine ⟨by omega, fun z hz => ?_, ?_⟩
      · rcases List.mem_cons.mp hz with rfl | hz
        · omega
        · exact h2 z hz
      · rcases h3 with h3 | h3
        · rw [h3]
          by_cases q : x ≤ y
          · left; omega
          · right; rw [show min x y = y by omega]; simp
        · right; simp [h3]
  intro l m h1 h2
  cases l with
  | nil => cases h1
  | cons x r =>
    obtain ⟨a, b, c⟩ := key r x
    show r.foldl min x = m
    have e1 : r.foldl min x ≤ m := by
      rcases List.mem_cons.mp h1 with rfl | z
      · exact a
      · exact b _ z
    have e2 : m ≤ r.foldl min x := by
      rcases c with c | c
      · rw [c]; exact h2 _ (by simp)
      · exact h2 _ (by simp [c])
    omega
theorem min_walk_root {L : List Lead} {ties : List Claim} (I : Inv L ties) {x : Int} (hx : 1 ≤ x ∧ x ≤ 6) : minOf (keysT (walkT ties x)) = (hgt L x).1 := by
  obtain ⟨sn, cm⟩ := walk_ok I hx
  obtain ⟨⟨a, b⟩, d⟩ := root_le I.ok 6 x (by omega) hx
  have hroot := hgt_none (L := L) (p := (hgt L x).1) ⟨a, by omega⟩ d
  refine minOf_eq' (cm _ ⟨a, by omega⟩ (by rw [hroot])) fun y hy => ?_
  obtain ⟨e, he, rfl⟩ := List.mem_map.mp hy
  obtain ⟨h1, h2, _⟩ := sn.ent e he
  have := (root_le I.ok 6 e.1 (by omega) h1).1.2
  rw [h2] at this
  exact this
theorem walk_val {L : List Lead} {ties : List Claim} (I : Inv L ties) {x y : Int} (hx : 1 ≤ x ∧ x ≤ 6) (hy : 1 ≤ y ∧ y ≤ 6) (hr : (hgt L y).1 = (hgt L x).1) : dgetT (walkT ties x) y = some ((hgt L y).2.1 - (hgt L x).2.1, (hgt L y).2.2 - (hgt L x).2.2) := by
  obtain ⟨sn, cm⟩ := walk_ok I hx
  obtain ⟨e, he, e1⟩ := List.mem_map.mp (cm y hy hr)
  obtain ⟨_, _, h3, h4⟩ := sn.ent e he
  have e1 : e.1 = y := e1
  have : e = (y, ((hgt L y).2.1 - (hgt L x).2.1, (hgt L y).2.2 - (hgt L x).2.2)) := by
    rw [e1] at h3 h4
    exact Prod.ext e1 (Prod.ext h3 h4)
  rw [this] at he
  exact dgetT_mem sn.nk he
theorem walk_not {L : List Lead} {ties : List Claim} (I : Inv L ties) {x y : Int} (hx : 1 ≤ x ∧ x ≤ 6) (hr : (hgt L y).1 ≠ (hgt L x).1) : dgetT (walkT ties x) y = none := by
  obtain ⟨sn, cm⟩ := walk_ok I hx
  refine dgetT_none.mpr fun h => hr ?_
  obtain ⟨e, he, e1⟩ := List.mem_map.mp h
  obtain ⟨_, h2, _⟩ := sn.ent e he
  have e1 : e.1 = y := e1
  rw [← e1]; exact h2
end Mine
end
section
open PySem PySem.W PyProof.Rows PySem.Calls PySem.Spec
namespace Mine
theorem leadOf_snoc (L : List Lead) (P : Int) (v : Tab Int × Tab Int) (m : Int) : leadOf (L ++ [(P, v)]) m = match leadOf L m with | some w => some w | none => if m = P then some v else none := by
  unfold leadOf
  rw [List.find?_append]
  cases q : L.find? (fun e => e.1 = m) with
  | some x => rfl
  | none =>
    by_cases h : m = P
    · subst h; simp
    · have : ¬ P = m := fun z => h z.symm
      simp [h, this]
theorem lead_uniq {m : Int} {T T' : Tab Int} {r s c r' s' c' : Int} (h : LeadE m T T' r s c) (h' : LeadE m T T' r' s' c') : r = r' := by
  have h1 := other_is h.e h.lo h.lt
  have h2 := other_is h'.e h'.lo h'.lt
  rw [h1] at h2
  exact (List.cons.inj h2).1
noncomputable def potOf (L : List Lead) (y : Int) : Int × Int := (hgt L y).2
theorem pot_sat (L : List Lead) : Sat L (potOf L) := fun m T T' r s c h e => by
  unfold potOf
  rw [hgt_some h e]
  dsimp only
  omega
theorem root_cl (L : List Lead) (z : Int) : Cl L fun y => (hgt L y).1 = z := fun m T T' r s c h e => by
  dsimp only
  rw [hgt_some h e]
theorem inv_new {L : List Lead} {ties : List Claim} (I : Inv L ties) {P Q w z : Int} {T T' : Tab Int} (E : LeadE P T T' Q w z) (hP : leadOf L P = none) {b a s k : Int}
    (hb : 1 ≤ b ∧ b ≤ 6) (ha : 1 ≤ a ∧ a ≤ 6)
    (h1 : ∀ f, Sat L f → (f P).1 - (f Q).1 = w → (f P).2 - (f Q).2 = z → (f a).1 - (f b).1 = s ∧ (f a).2 - (f b).2 = k)
    (h2 : ((hgt L a).1 = P ∨ (hgt L a).1 = (hgt L Q).1) ∧ ((hgt L b).1 = P ∨ (hgt L b).1 = (hgt L Q).1))
    (h3 : ∀ S, Cl L S → (S b ↔ S a) → (S P ↔ S Q)) : Inv (L ++ [(P, T, T')]) (ties ++ [(b, a, s, k)]) := by
  have e1 := E.lo; have e2 := E.lt; have e3 := E.hi
  have hnew : leadOf (L ++ [(P, T, T')]) P = some (T, T') := by rw [leadOf_snoc, hP]; simp
  have hold : ∀ m v, leadOf L m = some v → leadOf (L ++ [(P, T, T')]) m = some v := fun m v h => by rw [leadOf_snoc, h]
  have hnone : ∀ m, m ≠ P → leadOf L m = none → leadOf (L ++ [(P, T, T')]) m = none := fun m hm h => by rw [leadOf_snoc, h]; simp [hm]
  have hcase : ∀ m v, leadOf (L ++ [(P, T, T')]) m = some v → leadOf L m = some v ∨ (m = P ∧ v = (T, T')) := fun m v h => by
    rw [leadOf_snoc] at h
    cases q : leadOf L m with
    | some x => rw [q] at h; exact .inl h
    | none =>
      rw [q] at h
      by_cases hm : m = P
      · simp [hm] at h; exact .inr ⟨hm, h.symm⟩
      · simp [hm] at h
  have hok : LOk (L ++ [(P, T, T')]) := fun m A B h => by
    rcases hcase m _ h with h' | ⟨rfl, h'⟩
    · exact I.ok m A B h'
    · obtain ⟨rfl, rfl⟩ := Prod.mk.inj h'
      exact ⟨_, _, _, E⟩
  have hQ : (hgt L Q).1 ≠ P := by have := (root_le I.ok 6 Q (by omega) (by omega)).1.2; omega
  have hPP := hgt_none (L := L) (p := P) (by omega) hP
  have form : ∀ (n : Nat) (y : Int), y ≤ n → 1 ≤ y ∧ y ≤ 6 → hgt (L ++ [(P, T, T')]) y = if (hgt L y).1 = P then ((hgt L Q).1, (hgt L y).2.1 + w + (hgt L Q).2.1, (hgt L y).2.2 + z + (hgt L Q).2.2) else hgt L y := by
    intro n
    induction n with
    | zero => intro y h hy; omega
    | succ n ih =>
      intro y h hy
      by_cases hyP : y = P
      · subst hyP
        have hq := ih Q (by omega) (by omega)
        rw [if_neg hQ] at hq
        rw [hgt_some hnew E, hq, hPP, if_pos rfl]
        refine Prod.ext rfl (Prod.ext ?_ ?_) <;> (dsimp only; omega)
      · cases q : leadOf L y with
        | none =>
          rw [hgt_none hy (hnone y hyP q), hgt_none hy q, if_neg hyP]
        | some v =>
          obtain ⟨A, B⟩ := v
          obtain ⟨r, s', c', e⟩ := I.ok _ _ _ q
          have f1 := e.lo; have f2 := e.lt
          have hr := ih r (by omega) (by omega)
          rw [hgt_some (hold y _ q) e, hgt_some q e, hr]
          dsimp only
          by_cases hrP : (hgt L r).1 = P
          · rw [if_pos hrP, if_pos hrP]
            refine Prod.ext rfl (Prod.ext ?_ ?_) <;> (dsimp only; omega)
          · rw [if_neg hrP, if_neg hrP]
  refine ⟨hok, fun t ht => ?_, fun S hS => ?_⟩
  · rcases List.mem_append.mp ht with ht | ht
    · have o := I.tie t ht
      have r1 := o.root; have r2 := o.sz; have r3 := o.ct
      refine ⟨o.lo, o.hi, ?_, ?_, ?_⟩ <;> rw [form 6 _ (by have := o.hi; omega) o.hi, form 6 _ (by have := o.lo; omega) o.lo, r1] <;> split <;> first | rfl | (dsimp only; omega) | assumption
    · obtain rfl := List.mem_singleton.mp ht
      have hsat := pot_sat (L ++ [(P, T, T')])
      have hsatL : Sat L (potOf (L ++ [(P, T, T')])) := fun m A B r s' c' h e => hsat m A B r s' c' (hold m _ h) e
      have hl := hsat _ _ _ _ _ _ hnew E
      have hh := h1 _ hsatL hl.1 hl.2
      unfold potOf at hh
      refine ⟨hb, ha, ?_, hh.1, hh.2⟩
      dsimp only
      rw [form 6 a (by omega) ha, form 6 b (by omega) hb]
      have ca : (if (hgt L a).1 = P then ((hgt L Q).1, (hgt L a).2.1 + w + (hgt L Q).2.1, (hgt L a).2.2 + z + (hgt L Q).2.2) else hgt L a).1 = (hgt L Q).1 := by
        split
        · rfl
        · rename_i hne; exact h2.1.resolve_left hne
      have cb : (if (hgt L b).1 = P then ((hgt L Q).1, (hgt L b).2.1 + w + (hgt L Q).2.1, (hgt L b).2.2 + z + (hgt L Q).2.2) else hgt L b).1 = (hgt L Q).1 := by
        split
        · rfl
        · rename_i hne; exact h2.2.resolve_left hne
      rw [ca, cb]
  · have hSL : Cl L S := I.conn S fun t ht => hS t (List.mem_append_left _ ht)
    have hnewS := h3 S hSL (hS (b, a, s, k) (by simp))
    intro m A B r s' c' h e
    rcases hcase m _ h with h' | ⟨rfl, h'⟩
    · exact hSL m A B r s' c' h' e
    · obtain ⟨rfl, rfl⟩ := Prod.mk.inj h'
      rw [lead_uniq e E]
      exact hnewS
/-! bounds -/
noncomputable def big : Nat := 100000000000000
noncomputable def Bnd (f : Tab Int) : Prop := ∀ e ∈ f, e.2.1.natAbs ≤ big * f.length ∧ e.2.2.natAbs ≤ big * f.length
noncomputable def CBd (t : Claim) : Prop := t.2.2.1.natAbs ≤ big ∧ t.2.2.2.natAbs ≤ big
theorem Bnd.app {f : Tab Int} {k : Int} {v : Int × Int} (h : Bnd f) (hv : v.1.natAbs ≤ big * f.length + big ∧ v.2.natAbs ≤ big * f.length + big) : Bnd (f ++ [(k, v)]) := fun e he => by
  rw [List.length_append, List.length_singleton, Nat.mul_add, Nat.mul_one]
  rcases List.mem_append.mp he with z | z
  · have := h e z; omega
  · obtain rfl := List.mem_singleton.mp z
    exact hv
theorem Bnd.step {f : Tab Int} {t : Claim} (h : Bnd f) (ht : CBd t) : Bnd (wstep f t) := by
  unfold CBd at ht
  unfold wstep
  split
  · rename_i vb h1 h2
    have := h _ (dget_in h1).1
    exact h.app (by dsimp only at this ⊢; omega)
  · rename_i va h1 h2
    have := h _ (dget_in h2).1
    exact h.app (by dsimp only at this ⊢; omega)
  · exact h
theorem Bnd.round : ∀ {ties : List Claim} {f : Tab Int}, Bnd f → (∀ t ∈ ties, CBd t) → Bnd (wround ties f)
  | [], _, h, _ => h
  | t :: r, _, h, ht => Bnd.round (ties := r) (h.step (ht t (by simp))) fun y hy => ht y (by simp [hy])
theorem Bnd.go {ties : List Claim} (ht : ∀ t ∈ ties, CBd t) : ∀ (n : Nat) {f : Tab Int}, Bnd f → Bnd (wgo ties n f)
  | 0, _, h => h
  | n + 1, _, h => Bnd.go ht n (h.round ht)
theorem Snd.len {R : Int → Int × Int × Int} {x : Int} {f : Tab Int} (h : Snd R x f) : f.length ≤ 6 := by
  have := nodup_sub_len (keysT f) six h.nk fun y hy => by
    obtain ⟨e, he, rfl⟩ := List.mem_map.mp hy
    have := (h.ent e he).1
    simp [six]; omega
  simpa [keysT, six] using this
structure COk (c : Claim) : Prop where
  lo : 1 ≤ c.1 ∧ c.1 ≤ 6
  hi : 1 ≤ c.2.1 ∧ c.2.1 ≤ 6
  bd : CBd c
theorem told_bd {L : List Lead} {ties : List Claim} (I : Inv L ties) (hb : ∀ t ∈ ties, CBd t) {x y : Int} {v : Int × Int} (hx : 1 ≤ x ∧ x ≤ 6) (h : dgetT (walkT ties x) y = some v) : v.1.natAbs ≤ 6 * big ∧ v.2.natAbs ≤ 6 * big := by
  have hB : Bnd (walkT ties x) := Bnd.go hb _ fun e he => by obtain rfl := List.mem_singleton.mp he; simp
  have hl := (walk_ok I hx).1.len
  have := hB _ (dget_in h).1
  have h2 : big * (walkT ties x).length ≤ big * 6 := Nat.mul_le_mul_left _ hl
  dsimp only at this
  omega
theorem run_ok : ∀ (cs : List Claim) (L : List Lead) (ties : List Claim), Inv L ties → (∀ c ∈ cs, COk c) → (∀ t ∈ ties, CBd t) → L.length + cs.length ≤ 100 →
    ∃ L', RunT L cs L' (wAll ties cs).2 ∧ Inv L' (wAll ties cs).1 ∧ ∀ x ∈ (wAll ties cs).2, ∀ l, x = .told l → ∀ e ∈ l, e.1.natAbs < 2 ^ 53 ∧ e.2.natAbs < 2 ^ 53
  | [], L, ties, I, _, _, _ => ⟨L, .nil, I, by simp [wAll]⟩
  | c :: cs, L, ties, I, hc, hb, hl => by
    rw [List.length_cons] at hl
    have C := hc c (by simp)
    obtain ⟨b, a, s, k⟩ := c
    obtain ⟨hlo, hhi, hbd⟩ := C
    unfold CBd at hbd
    dsimp only at hlo hhi hbd
    obtain ⟨n, t', p, q, s', k', red, hE, hp, hq, hno, hf, hS⟩ := reduce I.ok 20 (table0 (b, a, s, k)) a b s k (by omega) (table0_e hhi.1) hhi hlo
    have hra : (hgt L a).1 = (hgt L p).1 := (hS _ (root_cl L (hgt L p).1)).1.mpr rfl
    have hrb : (hgt L b).1 = (hgt L q).1 := (hS _ (root_cl L (hgt L q).1)).2.mpr rfl
    have hbig : big = 100000000000000 := rfl
    by_cases hpq : p = q
    · subst hpq
      have hv := walk_val I hlo hhi (hra.trans hrb.symm)
      have hpot := hf _ (pot_sat L)
      unfold potOf at hpot
      have hs' : s' = s - ((hgt L a).2.1 - (hgt L b).2.1) := by omega
      have hk' : k' = k - ((hgt L a).2.2 - (hgt L b).2.2) := by omega
      have hbd2 := told_bd I hb hlo hv
      dsimp only at hbd2
      have ew : wAns ties (b, a, s, k) = (ties, .told (if (s' == 0 && k' == 0) = true then [] else [(-s', -k')])) := by
        unfold wAns
        rw [hv, hs', hk']
      obtain ⟨L', r1, r2, r3⟩ := run_ok cs L ties I (fun x hx => hc x (by simp [hx])) hb (by omega)
      obtain ⟨htop, ht⟩ := hE.same
      have hmap : t'.map (fun e => (-e.2.1, -e.2.2)) = if (s' == 0 && k' == 0) = true then [] else [(-s', -k')] := by
        rw [ht]; split <;> rfl
      rw [wAll, ew]
      refine ⟨L', ?_, r2, ?_⟩
      · rw [← hmap]
        refine .line red htop (fun e he => ?_) (by omega) r1
        rw [ht] at he
        split at he
        · cases he
        · obtain rfl := List.mem_singleton.mp he
          exact ⟨rfl, by dsimp only; omega, by dsimp only; omega⟩
      · intro x hx l hxl e he
        rcases List.mem_cons.mp hx with rfl | hx
        · injection hxl with hxl
          subst hxl
          split at he
          · cases he
          · obtain rfl := List.mem_singleton.mp he
            exact ⟨by dsimp only; omega, by dsimp only; omega⟩
        · exact r3 x hx l hxl e he
    · have hnoP := hno hpq
      obtain ⟨htop, htk⟩ := hE.top hp.1 hq.1 hpq
      have hPP := hgt_none (L := L) (p := max p q) (by omega) hnoP
      have rp := (root_le I.ok 6 p (by omega) hp).1
      have rq := (root_le I.ok 6 q (by omega) hq).1
      have main : ∃ T T' Q w z, leadFor t' = (T, T') ∧ LeadE (max p q) T T' Q w z ∧ Q = min p q ∧ (∀ f, Sat L f → (f (max p q)).1 - (f Q).1 = w → (f (max p q)).2 - (f Q).2 = z → (f a).1 - (f b).1 = s ∧ (f a).2 - (f b).2 = k) := by
        by_cases hgt' : q < p
        · have hm : max p q = p := by omega
          rw [hm] at htop ⊢
          refine ⟨t', takenT t' [], q, s', k', ?_, ⟨hq.1, hgt', hp.2, hE, neg_e hE⟩, by omega, fun f hff h1 h2 => ?_⟩
          · unfold leadFor
            rw [htop, if_pos (top_pos hE hp.1 hpq)]
          · have := hf f hff; omega
        · have hm : max p q = q := by omega
          rw [hm] at htop ⊢
          refine ⟨takenT t' [], t', p, -s', -k', ?_, ⟨hp.1, by omega, hq.2, neg_e hE, by rw [Int.neg_neg, Int.neg_neg]; exact hE⟩, by omega, fun f hff h1 h2 => ?_⟩
          · unfold leadFor
            rw [htop, if_neg (top_neg hE hq.1 hpq)]
          · have := hf f hff; omega
      obtain ⟨T, T', Q, w, z, hlf, E, hQ, h1⟩ := main
      have hroots : ((hgt L a).1 = max p q ∨ (hgt L a).1 = (hgt L Q).1) ∧ ((hgt L b).1 = max p q ∨ (hgt L b).1 = (hgt L Q).1) ∧ max (hgt L b).1 (hgt L a).1 = max p q ∧ (hgt L a).1 ≠ (hgt L b).1 := by
        rw [hra, hrb, hQ]
        by_cases hgt' : q < p
        · have hm : max p q = p := by omega
          have hn : min p q = q := by omega
          rw [hm] at hPP
          rw [hm, hn, hPP]
          exact ⟨.inl rfl, .inr rfl, by dsimp only; omega, by dsimp only; omega⟩
        · have hm : max p q = q := by omega
          have hn : min p q = p := by omega
          rw [hm] at hPP
          rw [hm, hn, hPP]
          exact ⟨.inr rfl, .inl rfl, by dsimp only; omega, by dsimp only; omega⟩
      have hv := walk_not I hlo hroots.2.2.2
      have ew : wAns ties (b, a, s, k) = (ties ++ [(b, a, s, k)], .pt (max p q)) := by
        unfold wAns
        rw [hv]
        dsimp only
        rw [min_walk_root I hlo, min_walk_root I hhi, hroots.2.2.1]
      have I1 : Inv (L ++ [(max p q, T, T')]) (ties ++ [(b, a, s, k)]) := inv_new I E hnoP hlo hhi h1 ⟨hroots.1, hroots.2.1⟩ fun S hSS hab => by
        have h4 := hS S hSS
        have h5 : S p ↔ S q := h4.1.symm.trans (hab.symm.trans h4.2)
        rw [hQ]
        by_cases hgt' : q < p
        · rw [show max p q = p by omega, show min p q = q by omega]; exact h5
        · rw [show max p q = q by omega, show min p q = p by omega]; exact h5.symm
      obtain ⟨L', r1, r2, r3⟩ := run_ok cs _ _ I1 (fun x hx => hc x (by simp [hx])) (fun t ht => by
        rcases List.mem_append.mp ht with ht | ht
        · exact hb t ht
        · obtain rfl := List.mem_singleton.mp ht; exact hbd) (by simp; omega)
      rw [wAll, ew]
      refine ⟨L', ?_, r2, ?_⟩
      · rw [← htop]
        refine .lead red (by omega) (by rw [htop]; exact htk) (by omega) ?_
        rw [htop, hlf]; exact r1
      · intro x hx l hxl e he
        rcases List.mem_cons.mp hx with rfl | hx
        · cases hxl
        · exact r3 x hx l hxl e he
theorem claim_ok (n : Int) : COk (claimOf n) := by
  have a1 : 0 ≤ n.fmod 6 := Int.fmod_nonneg_of_pos _ (by decide)
  have a2 : n.fmod 6 < 6 := Int.fmod_lt_of_pos _ (by decide)
  have a3 : 0 ≤ (n.fdiv 6).fmod 6 := Int.fmod_nonneg_of_pos _ (by decide)
  have a4 : (n.fdiv 6).fmod 6 < 6 := Int.fmod_lt_of_pos _ (by decide)
  have a5 : 0 ≤ (n.fdiv 144).fmod 20000000000001 := Int.fmod_nonneg_of_pos _ (by decide)
  have a6 : (n.fdiv 144).fmod 20000000000001 < 20000000000001 := Int.fmod_lt_of_pos _ (by decide)
  have a7 : 0 ≤ (n.fdiv 144).fmod 19 := Int.fmod_nonneg_of_pos _ (by decide)
  have a8 : (n.fdiv 144).fmod 19 < 19 := Int.fmod_lt_of_pos _ (by decide)
  have sq : ∀ x : Int, 1 ≤ x → x ≤ 6 → 1 ≤ x * x ∧ x * x ≤ 36 := fun x h1 h2 => by
    have : x = 1 ∨ x = 2 ∨ x = 3 ∨ x = 4 ∨ x = 5 ∨ x = 6 := by omega
    rcases this with rfl | rfl | rfl | rfl | rfl | rfl <;> decide
  have s1 := sq (n.fmod 6 + 1) (by omega) (by omega)
  have s2 := sq ((n.fdiv 6).fmod 6 + 1) (by omega) (by omega)
  unfold claimOf
  refine ⟨⟨by dsimp only; omega, by dsimp only; omega⟩, ⟨by dsimp only; omega, by dsimp only; omega⟩, ?_⟩
  unfold CBd big
  dsimp only
  generalize (n.fmod 6 + 1) * (n.fmod 6 + 1) = u at *
  generalize ((n.fdiv 6).fmod 6 + 1) * ((n.fdiv 6).fmod 6 + 1) = v at *
  constructor
  · split <;> omega
  · split <;> omega
theorem plain_law (sc : List Int) : PlainLaw sc := by
  have hl : (claimsOf sc).length ≤ 100 := by simp [claimsOf, numsOf]; omega
  have hc : ∀ c ∈ claimsOf sc, COk c := fun c h => by obtain ⟨n, _, rfl⟩ := List.mem_map.mp h; exact claim_ok n
  have I0 : Inv [] [] := ⟨fun m T T' h => (by cases h), fun t h => (by cases h), fun S _ m T T' r s c h => (by cases h)⟩
  obtain ⟨L, r1, r2, r3⟩ := run_ok (claimsOf sc) [] [] I0 hc (fun t h => by cases h) (by simpa using hl)
  refine ⟨⟨L, r1, fun p t t' h => ?_, ?_⟩, r3⟩
  · obtain ⟨r, s, c, e⟩ := r2.ok _ _ _ h
    have h1 := e.lo; have h2 := e.lt; have h3 := e.hi
    have l1 := e.e.len (by omega) (by omega)
    have l2 := e.e'.len (by omega) (by omega)
    exact ⟨by omega, by omega, e.e.nk, e.e'.nk, r, other_is e.e e.lo e.lt, h1, h2⟩
  · refine List.map_congr_left fun p hp => ?_
    have hp' : 1 ≤ p ∧ p ≤ 6 := by simp [six] at hp; omega
    unfold wHeight
    rw [min_walk_root r2 hp']
    obtain ⟨⟨a, b⟩, d⟩ := root_le r2.ok 6 p (by omega) hp'
    have hroot := hgt_none (L := L) (p := (hgt L p).1) ⟨a, by omega⟩ d
    have hv := dgetT_valT (walk_val r2 hp' ⟨a, by omega⟩ (by rw [hroot]))
    rw [hv, hroot]
    show hgt L p = _
    refine Prod.ext rfl (Prod.ext ?_ ?_) <;> (dsimp only; omega)
end Mine
end
set_option maxRecDepth 100000 in
set_option maxHeartbeats 4000000 in
theorem PySem.Challenge.cw_wa0013_01_holds : PySem.Challenge.rw_wa0013_01.Holds :=
  Mine.holds_of fun sc _ => Mine.plain_law sc

