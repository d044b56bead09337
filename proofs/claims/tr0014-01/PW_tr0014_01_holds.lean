import PyProof.Rows.All
import Wide.All
import OpenK.AllK
import Wide.FinOn
import Flt.Ops
import PySem.Challenge.RW_tr0014_01
set_option Elab.async false
set_option compiler.extract_closed false
section
open PySem PySem.W PyProof.Rows
set_option Elab.async false
namespace Mine
set_option maxRecDepth 100000 in
set_option maxHeartbeats 8000000 in
open_top hd for PySem.Challenge.rw_tr0014_01
end Mine
end
section
open PySem PySem.W PySem.Calls PySem.Spec PyProof.Rows
set_option Elab.async false
namespace Mine
structure Con (D : Type) where
  pre : D → List (Addr × Obj) → List Value → Prop
  cost : D → Nat
  post : D → List (Addr × Obj) → Value → List (Addr × Obj) → Prop

def Sat {D : Type} (w : World) (mean : ExcName → Option Value) (mg mb : Str → Option Value) (f : Addr) (c : Con D) (d : D) : Prop :=
  ∀ (dp un : Nat) (gd : Option (List Code)) (cn : Str) (cs : Scope) (a : Addr) (ccd : Value) (cl : List (Str × Addr)) (outer : List Env) (A₀ : Around) (base h₀ : Heap) (L : Addr) (m : Str → Option Value) (news : List (Addr × Obj)) (s : Shared) (vs : List Value)
    (Q E : Value → Shared → Prop),
    Below A₀ base outer h₀ → Fr h₀ L s.heap m → (Mine.hd.heap_39 w.params).In h₀ → News h₀ L s.heap news → Top Mine.hd.view_39 (looseW Mine.hd.view_39 []) mean mg mb h₀ → cs.kind = .function → c.pre d news vs → dp + c.cost d < recursionLimit → un + 8 * c.cost d < cLine →
    (∀ r news' h' tk', Fr h₀ L h' m → News h₀ L h' news' → c.post d news r news' → Q r { s with heap := h', toks := tk' }) →
    wpAny (model PySem.Challenge.rw_tr0014_01.row.prog w) (ktrTop dp un gd cn cs L a ccd cl outer) (call (.ref f) vs) Q E s
section
variable {D : Type} {w : World} {mean : ExcName → Option Value} {mg mb : Str → Option Value} {f : Addr} {c : Con D} {d : D} {dp un : Nat} {gd : Option (List Code)} {cn : Str} {cs : Scope} {a : Addr} {ccd : Value} {cl : List (Str × Addr)} {outer : List Env} {A₀ : Around} {base h₀ : Heap} {L : Addr} {m : Str → Option Value} {news : List (Addr × Obj)} {s : Shared} {vs : List Value}
    {Q E : Value → Shared → Prop}
theorem sat_use (C : Sat w mean mg mb f c d) (B : Below A₀ base outer h₀) (F : Fr h₀ L s.heap m) (X : (Mine.hd.heap_39 w.params).In h₀) (N : News h₀ L s.heap news) (T : Top Mine.hd.view_39 (looseW Mine.hd.view_39 []) mean mg mb h₀) (hk : cs.kind = .function) (hp : c.pre d news vs)
    (hd : dp + c.cost d < recursionLimit) (hu : un + 8 * c.cost d < cLine)
    (ret : ∀ r news' h' tk', Fr h₀ L h' m → News h₀ L h' news' → c.post d news r news' → Q r { s with heap := h', toks := tk' }) :
    wpAny (model PySem.Challenge.rw_tr0014_01.row.prog w) (ktrTop dp un gd cn cs L a ccd cl outer) (call (.ref f) vs) Q E s := C _ _ _ _ _ _ _ _ _ _ _ _ _ _ _ _ _ _ _ B F X N T hk hp hd hu ret
end
end Mine
end
section
open PySem PySem.W PySem.Calls PySem.Spec PyProof.Rows
set_option Elab.async false
set_option linter.unusedVariables false
namespace Mine
inductive Tr where
  | leaf
  | node (l : Tr) (x : Str) (r : Tr)
namespace Tr
def size : Tr → Nat
  | .leaf => 0
  | .node l _ r => l.size + r.size + 1
def owed : Tr → Nat
  | .leaf => 0
  | .node l _ r => l.owed + r.owed + (if l.size < r.size then 1 else 0)
def meld : Tr → Tr → Tr × Nat
  | .leaf, b => (b, 0)
  | .node l x r, .leaf => (.node l x r, 0)
  | .node l x r, .node l' y r' =>
    if y.cps.toList < x.cps.toList then (.node (meld r' (.node l x r)).1 y l', (meld r' (.node l x r)).2 + 1)
    else (.node (meld r (.node l' y r')).1 x l, (meld r (.node l' y r')).2 + 1)
termination_by a b => a.size + b.size
decreasing_by all_goals (simp only [size]; omega)
theorem meld_leaf (b : Tr) : Tr.leaf.meld b = (b, 0) := by rw [meld]
theorem meld_leaf' (l x r) : (Tr.node l x r).meld .leaf = (.node l x r, 0) := by rw [meld]
theorem meld_lt {l x r l' y r'} (h : y.cps.toList < x.cps.toList) : (Tr.node l x r).meld (.node l' y r') = (.node (meld r' (.node l x r)).1 y l', (meld r' (.node l x r)).2 + 1) := by rw [meld, if_pos h]
theorem meld_ge {l x r l' y r'} (h : ¬ y.cps.toList < x.cps.toList) : (Tr.node l x r).meld (.node l' y r') = (.node (meld r (.node l' y r')).1 x l, (meld r (.node l' y r')).2 + 1) := by rw [meld, if_neg h]
end Tr
def Grow (news news' : List (Addr × Obj)) : Prop := (∀ p ∈ news, p ∈ news') ∧ True
theorem Grow.refl (l : List (Addr × Obj)) : Grow l l := ⟨fun _ h => h, trivial⟩
theorem Grow.trans {a b c : List (Addr × Obj)} (g : Grow a b) (k : Grow b c) : Grow a c := ⟨fun p h => k.1 p (g.1 p h), trivial⟩
theorem Grow.cons {a b : List (Addr × Obj)} {x : Addr} {o : Obj} (g : Grow a b) (h : o.cls = .type "tuple") : Grow a ((x, o) :: b) := ⟨fun p hp => List.mem_cons_of_mem _ (g.1 p hp), trivial⟩
theorem Grow.any {a b : List (Addr × Obj)} {q : Addr × Obj} (g : Grow a b) : Grow a (q :: b) := ⟨fun p hp => List.mem_cons_of_mem _ (g.1 p hp), trivial⟩
theorem Grow.up {a b : List (Addr × Obj)} (g : Grow a b) {p : Addr × Obj} (h : p ∈ a) : p ∈ b := g.1 p h
inductive TrIn (news : List (Addr × Obj)) : Value → Tr → Prop
  | leaf {a : Addr} {t1 t2 : Tok} {n : Nat} : (a, ({ cls := .type "tuple", data := .seq #[.int 0 t1, .int 0 t2] n } : Obj)) ∈ news → TrIn news (.ref a) .leaf
  | node {a : Addr} {t1 t2 t3 : Tok} {n : Nat} {i o : Int} {vl vr : Value} {x : Str} {l r : Tr} :
     (a, ({ cls := .type "tuple", data := .seq #[.int i t1, .int o t2, vl, .str x t3, vr] n } : Obj)) ∈ news → 1 ≤ i → i = (Tr.node l x r).size → o = (Tr.node l x r).owed → TrIn news vl l → TrIn news vr r → TrIn news (.ref a) (.node l x r)
theorem TrIn.mono {news news' : List (Addr × Obj)} {v : Value} {t : Tr} (hs : ∀ p ∈ news, p ∈ news') (h : TrIn news v t) : TrIn news' v t := by
  induction h with
  | leaf hm => exact .leaf (hs _ hm)
  | node hm h1 h2 h3 _ _ ih1 ih2 => exact .node (hs _ hm) h1 h2 h3 ih1 ih2
theorem TrIn.up {a b : List (Addr × Obj)} (g : Grow a b) {v : Value} {t : Tr} (h : TrIn a v t) : TrIn b v t := h.mono g.1
theorem TrIn.cons {a : List (Addr × Obj)} {q : Addr × Obj} {v : Value} {t : Tr} (h : TrIn a v t) : TrIn (q :: a) v t := h.mono fun _ h => List.mem_cons_of_mem _ h
theorem TrIn.read {news : List (Addr × Obj)} {v : Value} {t : Tr} (h : TrIn news v t) : ∃ a t1 t2 rest n, v = .ref a ∧ (a, ({ cls := .type "tuple", data := .seq (Value.int t.size t1 :: Value.int t.owed t2 :: rest).toArray n } : Obj)) ∈ news := by
  cases h with
  | leaf hm => exact ⟨_, _, _, [], _, rfl, hm⟩
  | node hm h1 h2 h3 _ _ => subst h2; subst h3; exact ⟨_, _, _, [_, _, _], _, rfl, hm⟩

theorem TrIn.mk {led : List (Addr × Obj)} {a : Addr} {t1 t2 t3 : Tok} {n : Nat} {o : Int} {vl vr : Value} {x : Str} {l r : Tr}
     (hm : (a, ({ cls := .type "tuple", data := .seq #[.int ((l.size : Int) + r.size + 1) t1, .int o t2, vl, .str x t3, vr] n } : Obj)) ∈ led) (ho : o = (Tr.node l x r).owed) (hl : TrIn led vl l) (hr : TrIn led vr r) : TrIn led (.ref a) (.node l x r) :=
  .node hm (by omega) (by simp only [Tr.size]; omega) ho hl hr
section
variable {prog : Program} {w : World} {A : Around} {E : Value → Shared → Prop} {s : Shared} {news : List (Addr × Obj)} {h₀ : Heap} {L : Addr} {value slice : PySem.Expr} {v : Value} {t : Tr} {u : Tok} {Q : Value → Shared → Prop}
theorem tr_sub0 (N : News h₀ L s.heap news) (R : TrIn news v t) (h : ∀ tk, Q (.int t.size tk) s)
    (hs : ∀ a, subscripted slice false (.ref a) (.int 0 u) = operate [.ref a, .int 0 u] (getItem (.ref a) (.int 0 u)) := by intro a; with_unfolding_all rfl) :
    wpAny (model prog w) A (subscriptTail value slice v (.int 0 u)) Q E s := by
  obtain ⟨a, t1, t2, rest, n, rfl, hm⟩ := R.read
  refine item_tupleT (j := 0) (News.isTup N hm) (by decide) (by decide) ?_ rfl (h _) (hs _)
  simp [seqIndex?]; omega
theorem tr_sub1 (N : News h₀ L s.heap news) (R : TrIn news v t) (h : ∀ tk, Q (.int t.owed tk) s)
    (hs : ∀ a, subscripted slice false (.ref a) (.int 1 u) = operate [.ref a, .int 1 u] (getItem (.ref a) (.int 1 u)) := by intro a; with_unfolding_all rfl) :
    wpAny (model prog w) A (subscriptTail value slice v (.int 1 u)) Q E s := by
  obtain ⟨a, t1, t2, rest, n, rfl, hm⟩ := R.read
  refine item_tupleT (j := 1) (News.isTup N hm) (by decide) (by decide) ?_ rfl (h _) (hs _)
  simp [seqIndex?]; omega
end

def cMeld : Con (Tr × Tr) where
  pre := fun d news vs => (∃ v1 v2, vs = [v1, v2] ∧ TrIn news v1 d.1 ∧ TrIn news v2 d.2)
  cost := fun d => d.1.size + d.2.size + 2
  post := fun d news r news' => Grow news news' ∧ ∃ a n v t, r = .ref a ∧ (a, ({ cls := .type "tuple", data := .seq #[v, .int (d.1.meld d.2).2 t] n } : Obj)) ∈ news' ∧ TrIn news' v (d.1.meld d.2).1
def cStrx : Con Str where
  pre := fun d news vs => ∃ t, vs = [.str d t]
  cost := fun d => 1
  post := fun d news r news' => news' = news ∧ ∃ t, r = .str d t

set_option maxRecDepth 100000 in
set_option maxHeartbeats 8000000 in
theorem strx_ok (w : World) (mean : ExcName → Option Value) (mg mb : Str → Option Value) (d) : Sat w mean mg mb 42 cStrx d := by
  unfold Sat
  w_top off
  k_fill
  intro dp un gd cn cs a ccd cl outer A₀ base h₀ L m news s vs Q E B F X N T hk hpre hd hu hret
  obtain ⟨t, rfl⟩ := hpre
  simp only [cStrx] at hd hu
  refine wpAny_call ?_
  k_dflt ktr_enter
  k_steps
  exact hret _ _ _ _ (by k_asm) (by k_asm) ⟨rfl, _, rfl⟩

theorem strx_use {w : World} {mean : ExcName → Option Value} {mg mb : Str → Option Value} {dp un : Nat} {gd : Option (List Code)} {cn : Str} {cs : Scope} {a : Addr} {ccd : Value} {cl : List (Str × Addr)} {outer : List Env} {A₀ : Around} {base h₀ : Heap} {L : Addr} {m : Str → Option Value} {news : List (Addr × Obj)} {s : Shared} {x : Str} {t : Tok}
    {Q E : Value → Shared → Prop} (B : Below A₀ base outer h₀) (F : Fr h₀ L s.heap m) (X : (Mine.hd.heap_39 w.params).In h₀) (N : News h₀ L s.heap news) (T : Top Mine.hd.view_39 (looseW Mine.hd.view_39 []) mean mg mb h₀) (hk : cs.kind = .function)
    (hd : dp + 1 < recursionLimit) (hu : un + 8 * 1 < cLine)
    (ret : ∀ t h' tk', Fr h₀ L h' m → News h₀ L h' news → Q (.str x t) { s with heap := h', toks := tk' }) :
    wpAny (model PySem.Challenge.rw_tr0014_01.row.prog w) (ktrTop dp un gd cn cs L a ccd cl outer) (call (.ref 42) [.str x t]) Q E s := by
  refine sat_use (strx_ok w mean mg mb x) B F X N T hk ⟨_, rfl⟩ hd hu ?_
  rintro r news' h' tk' F' N' ⟨rfl, t, rfl⟩
  exact ret _ _ _ F' N'

def MeldIH (w : World) (mean : ExcName → Option Value) (mg mb : Str → Option Value) (n : Nat) : Prop := ∀ d' : Tr × Tr, d'.1.size + d'.2.size < n → Sat w mean mg mb 96 cMeld d'
theorem meld_end {t1 t2 : Tr} {news led : List (Addr × Obj)} {a b : Addr} {t t4 t5 t6 : Tok} {n k : Nat} {f g : Tr} {x : Str} {o : Int} {vf vg : Value} {c : Nat} (hm : t1.meld t2 = (.node f x g, k + 1)) (G : Grow news led)
    (h1 : (a, ({ cls := .type "tuple", data := .seq #[.ref b, .int ((k : Int) + 1) t] n } : Obj)) ∈ led) (h2 : (b, ({ cls := .type "tuple", data := .seq #[.int ((f.size : Int) + g.size + 1) t4, .int o t5, vf, .str x t6, vg] c } : Obj)) ∈ led)
    (ho : o = (Tr.node f x g).owed) (hf : TrIn led vf f) (hg : TrIn led vg g) : cMeld.post (t1, t2) news (.ref a) led := by
  refine ⟨G, a, n, .ref b, t, rfl, ?_, ?_⟩
  · rw [hm]; exact h1
  · rw [hm]; exact TrIn.mk h2 ho hf hg
theorem meld_end0 {t1 t2 f : Tr} {news led : List (Addr × Obj)} {a : Addr} {t : Tok} {n : Nat} {vf : Value} (hm : t1.meld t2 = (f, 0)) (G : Grow news led)
    (h1 : (a, ({ cls := .type "tuple", data := .seq #[vf, .int 0 t] n } : Obj)) ∈ led) (hf : TrIn led vf f) : cMeld.post (t1, t2) news (.ref a) led := by
  refine ⟨G, a, n, vf, t, rfl, ?_, ?_⟩
  · rw [hm]; exact h1
  · rw [hm]; exact hf
theorem meld_use {n : Nat} {w : World} {mean : ExcName → Option Value} {mg mb : Str → Option Value} {dp un : Nat} {gd : Option (List Code)} {cn : Str} {cs : Scope} {a : Addr} {ccd : Value} {cl : List (Str × Addr)} {outer : List Env} {A₀ : Around} {base h₀ : Heap} {L : Addr} {m : Str → Option Value} {news : List (Addr × Obj)} {s : Shared} {v1 v2 : Value} {a1 a2 : Tr}
    {Q E : Value → Shared → Prop} (B : Below A₀ base outer h₀) (F : Fr h₀ L s.heap m) (X : (Mine.hd.heap_39 w.params).In h₀) (N : News h₀ L s.heap news) (T : Top Mine.hd.view_39 (looseW Mine.hd.view_39 []) mean mg mb h₀) (hk : cs.kind = .function)
    (R1 : TrIn news v1 a1) (R2 : TrIn news v2 a2) (I : MeldIH w mean mg mb n) (hlt : a1.size + a2.size < n)
    (hd : dp + (a1.size + a2.size + 2) < recursionLimit) (hu : un + 8 * (a1.size + a2.size + 2) < cLine)
    (ret : ∀ (a : Addr) n v t h' tk' news', Fr h₀ L h' m → News h₀ L h' news' → Grow news news' → (a, ({ cls := .type "tuple", data := .seq #[v, .int (a1.meld a2).2 t] n } : Obj)) ∈ news' → TrIn news' v (a1.meld a2).1 → Q (.ref a) { s with heap := h', toks := tk' }) :
    wpAny (model PySem.Challenge.rw_tr0014_01.row.prog w) (ktrTop dp un gd cn cs L a ccd cl outer) (call (.ref 96) [v1, v2]) Q E s := by
  refine sat_use (I (a1, a2) hlt) B F X N T hk ⟨_, _, rfl, R1, R2⟩ hd hu ?_
  rintro r news' h' tk' F' N' ⟨g, a, n, v, t, rfl, h1, h2⟩
  exact ret a n v t h' tk' news' F' N' g h1 h2

end Mine
end
section
open PySem PySem.W PySem.Calls PySem.Spec PyProof.Rows
set_option Elab.async false
set_option linter.unusedVariables false
namespace Mine
local macro_rules | `(tactic| k_mem) => `(tactic| first | assumption | (refine' Grow.up ?g ?_; (case g => assumption); k_mem) | (refine' List.mem_cons_of_mem _ ?_; k_mem))
local macro_rules | `(tactic| walk_at "call ref") => `(tactic| (k_here; (with_reducible show wpAny _ _ (call (Value.ref 42) _ _) _ _ _); k_dflt (refine' strx_use ?k1 ?k2 ?k3 ?k4 ?k5 ?kK ?kd ?ku ?_; (case k1 | k2 | k3 | k4 | k5 => k_asm); (case kK => first | exact rfl | assumption); (case kd => ktr_room); (case ku => ktr_units); intro t9 h9 tk9 F9 N9; (try dsimp only); (try k_fold))))
local macro_rules | `(tactic| ktr_rel) => `(tactic| first | assumption | (refine' TrIn.up ?ha ?hb; (case ha => assumption); (case hb => ktr_rel)) | (refine' TrIn.cons ?hb; (case hb => ktr_rel)))
local macro_rules | `(tactic| walk_at "subscriptTail") => `(tactic| (k_here; (with_reducible show wpAny _ _ (subscriptTail _ _ _ (Value.int 0 _)) _ _ _); k_dflt (refine' tr_sub0 ?k1 ?k2 ?_; (case k1 => k_asm); (case k2 => ktr_rel); intro tk9; (try dsimp only))))
local macro_rules | `(tactic| walk_at "subscriptTail") => `(tactic| (k_here; (with_reducible show wpAny _ _ (subscriptTail _ _ _ (Value.int 1 _)) _ _ _); k_dflt (refine' tr_sub1 ?k1 ?k2 ?_; (case k1 => k_asm); (case k2 => ktr_rel); intro tk9; (try dsimp only))))
local macro_rules | `(tactic| walk_at "call ref") => `(tactic| (k_here; (with_reducible show wpAny _ _ (call (Value.ref 96) _ _) _ _ _); k_dflt (refine' meld_use ?k1 ?k2 ?k3 ?k4 ?k5 ?kK ?kR1 ?kR2 ?ki ?kl ?kd ?ku ?_; (case k1 | k2 | k3 | k4 | k5 => k_asm); (case kK => first | exact rfl | assumption); (case kR1 | kR2 => ktr_rel); (case ki => assumption); (case kl => (simp only [Tr.size]; omega)); (case kd => (simp only [Tr.size] at *; ktr_room)); (case ku => (simp only [Tr.size] at *; ktr_units)); intro a9 n9 v9 t9 h9 tk9 news9 F9 N9 g9 hm9 hr9; (try dsimp only); (try k_fold))))

set_option maxRecDepth 100000 in
set_option maxHeartbeats 8000000 in
theorem meld_step (w : World) (mean : ExcName → Option Value) (mg mb : Str → Option Value) (d) (ih : MeldIH w mean mg mb (d.1.size + d.2.size)) : Sat w mean mg mb 96 cMeld d := by
  unfold Sat
  w_top off
  k_fill
  intro dp un gd cn cs a ccd cl outer A₀ base h₀ L m news s vs Q E B F X N T hk hpre hd hu hret
  obtain ⟨t1, t2⟩ := d
  obtain ⟨v1, v2, rfl, R1, R2⟩ := hpre
  simp only [cMeld] at hd hu
  have R1' := R1
  have R2' := R2
  cases R1
  · refine wpAny_call ?_
    k_dflt ktr_enter
    k_steps
    exact hret _ _ _ _ (by k_asm) (by k_asm) (meld_end0 (Tr.meld_leaf _) (Grow.cons (Grow.refl _) rfl) (List.Mem.head _) (by ktr_rel))
  · cases R2
    · refine wpAny_call ?_
      k_dflt ktr_enter
      k_steps
      · exfalso; simp only [Tr.size] at *; omega
      exact hret _ _ _ _ (by k_asm) (by k_asm) (meld_end0 (Tr.meld_leaf' _ _ _) (Grow.cons (Grow.refl _) rfl) (List.Mem.head _) (by ktr_rel))
    · refine wpAny_call ?_
      k_dflt ktr_enter
      k_steps
      · exfalso; simp only [Tr.size] at *; omega
      · exfalso; simp only [Tr.size] at *; omega
      all_goals (refine hret _ _ _ _ (by k_asm) (by k_asm) (meld_end (by first | exact Tr.meld_lt (by assumption) | exact Tr.meld_ge (by assumption)) ?_ (List.Mem.head _) (List.mem_cons_of_mem _ (List.Mem.head _)) ?_ ?_ ?_))
      all_goals (first
        | exact Grow.cons (Grow.cons (by assumption) rfl) rfl
        | exact Grow.cons (Grow.cons (Grow.trans (Grow.cons (Grow.refl _) rfl) (by assumption)) rfl) rfl
        | ktr_rel
        | (simp only [Tr.owed]; split <;> omega))
theorem meld_ok (w : World) (mean : ExcName → Option Value) (mg mb : Str → Option Value) : ∀ n, MeldIH w mean mg mb n := by
  intro n
  induction n with
  | zero => intro d h; exact absurd h (Nat.not_lt_zero _)
  | succ n ih => exact fun d h => meld_step w mean mg mb d fun d' h' => ih d' (by omega)
end Mine
end
section
open PySem PySem.W PySem.Calls PySem.Spec PyProof.Rows
set_option Elab.async false
set_option linter.unusedVariables false
namespace Mine
def TupKeep (news news' : List (Addr × Obj)) : Prop := ∀ p ∈ news, p.2.cls = .type "tuple" → p ∈ news'
def Keep (fa : Addr) (news news' : List (Addr × Obj)) : Prop := ∀ p ∈ news, p.1 ≠ fa → p ∈ news'
theorem TrIn.upT {a b : List (Addr × Obj)} (g : TupKeep a b) {v : Value} {t : Tr} (h : TrIn a v t) : TrIn b v t := by
  induction h with
  | leaf hm => exact .leaf (g _ hm rfl)
  | node hm h1 h2 h3 _ _ ih1 ih2 => exact .node (g _ hm rfl) h1 h2 h3 ih1 ih2
theorem TupKeep.of_grow {a b : List (Addr × Obj)} (g : Grow a b) : TupKeep a b := fun p h _ => g.1 p h
theorem Keep.of_grow {x : Addr} {a b : List (Addr × Obj)} (g : Grow a b) : Keep x a b := fun p h _ => g.1 p h
theorem TupKeep.trans {a b c : List (Addr × Obj)} (g : TupKeep a b) (k : TupKeep b c) : TupKeep a c := fun p h e => k p (g p h e) e
theorem Keep.trans {x : Addr} {a b c : List (Addr × Obj)} (g : Keep x a b) (k : Keep x b c) : Keep x a c := fun p h e => k p (g p h e) e
theorem TupKeep.refl (a : List (Addr × Obj)) : TupKeep a a := fun _ h _ => h
theorem Keep.refl (x : Addr) (a : List (Addr × Obj)) : Keep x a a := fun _ h _ => h
theorem TupKeep.cons (q) (a : List (Addr × Obj)) : TupKeep a (q :: a) := fun _ h _ => List.mem_cons_of_mem _ h
theorem Keep.cons (x : Addr) (q) (a : List (Addr × Obj)) : Keep x a (q :: a) := fun _ h _ => List.mem_cons_of_mem _ h
section
variable {prog : Program} {w : World} {A : Around} {E : Value → Shared → Prop} {s : Shared} {news : List (Addr × Obj)} {h₀ : Heap} {L D : Addr} {m : Str → Option Value} {o o' : Obj} {h h' : Heap}
theorem upd_any (N : News h₀ L h news) (hm : (D, o) ∈ news) (ho : o.cls = .type "list") (hs : Heap.SameBut D h h') (ho' : h'.get? D = some o') :
    ∃ news', News h₀ L h' news' ∧ (D, o') ∈ news' ∧ Keep D news news' ∧ TupKeep news news' := by
  refine ⟨_, N.update hm hs ho', List.mem_map.mpr ⟨_, hm, by simp⟩, fun p hp he => List.mem_map.mpr ⟨p, hp, by rw [if_neg he]⟩, fun p hp hc => List.mem_map.mpr ⟨p, hp, ?_⟩⟩
  by_cases e : p.1 = D
  · exfalso
    have h1 := (N p hp).1
    rw [e, (N _ hm).1] at h1
    rw [← Option.some.inj h1] at hc
    rw [ho] at hc
    exact absurd hc (by decide)
  · rw [if_neg e]
theorem append_any {its : Array Value} {n : Nat} {x : Value} {Q : Value → Shared → Prop} (F : Fr h₀ L s.heap m) (N : News h₀ L s.heap news) (hm : (D, listOf its n) ∈ news)
    (h : ∀ h' news', Fr h₀ L h' m → News h₀ L h' news' → (D, listOf (its.push x) (n + 1)) ∈ news' → Keep D news news' → TupKeep news news' → Q .none { s with heap := h' }) (hsz : its.size ≤ sizeLine := by size_fits) : wpAny (model prog w) A (call (.builtin "list.append") [.ref D, x]) Q E s := by
  have z := N _ hm
  refine append_at (hsz := hsz) z.1 fun h' hs ho' => ?_
  obtain ⟨news', N', m', k, t⟩ := upd_any N hm rfl hs ho'
  exact h h' news' (F.change hs z.2.1 z.2.2) N' m' k t
end
end Mine
end
section
open PySem PySem.W PySem.Calls PySem.Spec PyProof.Rows
set_option Elab.async false
set_option linter.unusedVariables false
namespace Mine
theorem Tr.meld_rec {P : Tr → Tr → Tr × Nat → Prop} (h1 : ∀ b, P .leaf b (b, 0)) (h2 : ∀ l x r, P (.node l x r) .leaf (.node l x r, 0))
    (h3 : ∀ l x r l' y r', y.cps.toList < x.cps.toList → P r' (.node l x r) (r'.meld (.node l x r)) → P (.node l x r) (.node l' y r') (.node (r'.meld (.node l x r)).1 y l', (r'.meld (.node l x r)).2 + 1))
    (h4 : ∀ l x r l' y r', ¬ y.cps.toList < x.cps.toList → P r (.node l' y r') (r.meld (.node l' y r')) → P (.node l x r) (.node l' y r') (.node (r.meld (.node l' y r')).1 x l, (r.meld (.node l' y r')).2 + 1))
    (t1 t2 : Tr) : P t1 t2 (t1.meld t2) := by
  suffices H : ∀ n t1 t2, t1.size + t2.size ≤ n → P t1 t2 (t1.meld t2) from H _ t1 t2 (Nat.le_refl _)
  intro n
  induction n with
  | zero =>
    intro t1 t2 h
    cases t1 with
    | leaf => rw [Tr.meld_leaf]; exact h1 _
    | node l x r => simp only [Tr.size] at h; omega
  | succ n ih =>
    intro t1 t2 h
    cases t1 with
    | leaf => rw [Tr.meld_leaf]; exact h1 _
    | node l x r =>
      cases t2 with
      | leaf => rw [Tr.meld_leaf']; exact h2 _ _ _
      | node l' y r' =>
        by_cases hc : y.cps.toList < x.cps.toList
        · rw [Tr.meld_lt hc]; exact h3 _ _ _ _ _ _ hc (ih _ _ (by simp only [Tr.size] at h ⊢; omega))
        · rw [Tr.meld_ge hc]; exact h4 _ _ _ _ _ _ hc (ih _ _ (by simp only [Tr.size] at h ⊢; omega))
def riseOf (t1 t2 : Tr) : Int := (t1.meld t2).2 + (t1.meld t2).1.owed - t1.owed - t2.owed
theorem meld_size (t1 t2 : Tr) : (t1.meld t2).1.size = t1.size + t2.size := by
  refine Tr.meld_rec (P := fun a b m => m.1.size = a.size + b.size) ?_ ?_ ?_ ?_ t1 t2
  · intro b; simp [Tr.size]
  · intro l x r; simp [Tr.size]
  · intro l x r l' y r' _ h; simp only [Tr.size] at h ⊢; omega
  · intro l x r l' y r' _ h; simp only [Tr.size] at h ⊢; omega
theorem mul3_le {a b c a' b' c' : Nat} (h1 : a ≤ a') (h2 : b ≤ b') (h3 : c ≤ c') : a * b * c ≤ a' * b' * c' := Nat.mul_le_mul (Nat.mul_le_mul h1 h2) h3
theorem fair_step {l r b k k' : Nat} (hb : 0 < b) (h : 4 * 2 ^ k ≤ (r + 1) * (b + 1) * (r + b + 1))
    (e : k' + (if l < r then 1 else 0) = k + 1 + (if r + b < l then 1 else 0)) : 4 * 2 ^ k' ≤ (l + r + 1 + 1) * (b + 1) * (l + r + 1 + b + 1) := by
  by_cases c1 : r + b < l
  · rw [if_pos c1, if_neg (by clear h e; omega)] at e
    cases (show k' = k + 2 from e)
    have h1 : (2 * (r + 1)) * (b + 1) * (2 * (r + b + 1)) ≤ (l + r + 1 + 1) * (b + 1) * (l + r + 1 + b + 1) := mul3_le (by clear h e; omega) (Nat.le_refl _) (by clear h e; omega)
    refine Nat.le_trans (Nat.le_trans (Nat.mul_le_mul_left 4 h) (Nat.le_of_eq ?_)) h1 |> Nat.le_trans (Nat.le_of_eq ?_)
    · rw [Nat.pow_add, Nat.mul_comm (2 ^ k)]
    · rw [Nat.mul_assoc 2, Nat.mul_assoc 2, Nat.mul_left_comm _ 2, ← Nat.mul_assoc 2 2]
  · rw [if_neg c1] at e
    by_cases c2 : l < r
    · rw [if_pos c2] at e
      cases (show k' = k from Nat.succ.inj e)
      exact Nat.le_trans h (mul3_le (by clear h; omega) (Nat.le_refl _) (by clear h; omega))
    · rw [if_neg c2] at e
      cases (show k' = k + 1 from e)
      have h1 : (2 * (r + 1)) * (b + 1) * (r + b + 1) ≤ (l + r + 1 + 1) * (b + 1) * (l + r + 1 + b + 1) := mul3_le (by clear h e; omega) (Nat.le_refl _) (by clear h e; omega)
      refine Nat.le_trans (Nat.le_trans (Nat.mul_le_mul_left 2 h) (Nat.le_of_eq ?_)) h1 |> Nat.le_trans (Nat.le_of_eq ?_)
      · rw [Nat.pow_succ, Nat.mul_comm (2 ^ k) 2, Nat.mul_left_comm]
      · rw [Nat.mul_assoc 2, Nat.mul_assoc 2]
theorem rise_step {l r b k ol ow ob c om sm : Nat} (hb : 0 < b) (h1 : k + ow + ob = c + om) (h2 : sm = r + b) (h : 4 * 2 ^ k ≤ (r + 1) * (b + 1) * (r + b + 1)) :
    ∃ k' : Nat, k' + (ol + ow + (if l < r then 1 else 0)) + ob = c + 1 + (om + ol + (if sm < l then 1 else 0)) ∧ 4 * 2 ^ k' ≤ (l + r + 1 + 1) * (b + 1) * (l + r + 1 + b + 1) := by
  subst h2
  by_cases c1 : r + b < l
  · rw [if_pos c1, if_neg (by omega : ¬ l < r)]
    exact ⟨k + 2, by clear h hb c1; omega, fair_step hb h (by rw [if_pos c1, if_neg (by omega : ¬ l < r)])⟩
  · by_cases c2 : l < r
    · rw [if_neg c1, if_pos c2]
      exact ⟨k, by clear h hb c1 c2; omega, fair_step hb h (by rw [if_neg c1, if_pos c2])⟩
    · rw [if_neg c1, if_neg c2]
      exact ⟨k + 1, by clear h hb c1 c2; omega, fair_step hb h (by rw [if_neg c1, if_neg c2])⟩
def Rise (a b : Tr) (m : Tr × Nat) : Prop := ∃ k : Nat, k + a.owed + b.owed = m.2 + m.1.owed ∧ m.1.size = a.size + b.size ∧ (a.size + b.size = 0 → k = 0) ∧
    (0 < a.size + b.size → 4 * 2 ^ k ≤ (a.size + 1) * (b.size + 1) * (a.size + b.size + 1))
theorem Rise.base {t : Tr} : Rise .leaf t (t, 0) := by
  refine ⟨0, by simp [Tr.owed], by simp [Tr.size], fun _ => rfl, fun h => ?_⟩
  simp only [Tr.size] at h ⊢
  have : 2 * 2 ≤ (t.size + 1) * (t.size + 1) := Nat.mul_le_mul (by omega) (by omega)
  simpa using this
theorem Rise.swap {a b : Tr} {m : Tr × Nat} (h : Rise a b m) : Rise b a m := by
  obtain ⟨k, h1, h2, h3, h4⟩ := h
  refine ⟨k, by rw [Nat.add_right_comm]; exact h1, by rw [Nat.add_comm]; exact h2, by rw [Nat.add_comm]; exact h3, fun h => ?_⟩
  rw [Nat.mul_comm (b.size + 1), Nat.add_comm b.size a.size]
  exact h4 (by rw [Nat.add_comm]; exact h)
theorem Rise.step {l r n : Tr} {x : Str} {m : Tr × Nat} (hn : 0 < n.size) (h : Rise r n m) : Rise (.node l x r) n (.node m.1 x l, m.2 + 1) := by
  obtain ⟨k, h1, h2, h3, h4⟩ := h
  obtain ⟨k', e1, e2⟩ := rise_step (l := l.size) (ol := l.owed) hn h1 h2 (h4 (Nat.lt_of_lt_of_le hn (Nat.le_add_left _ _)))
  refine ⟨k', e1, ?_, fun h => ?_, fun _ => e2⟩
  · simp only [Tr.size]; omega
  · simp only [Tr.size] at h; omega
theorem Tr.node_pos {l r : Tr} {x : Str} : 0 < (Tr.node l x r).size := Nat.succ_pos _
theorem rise_all (t1 t2 : Tr) : Rise t1 t2 (t1.meld t2) :=
  Tr.meld_rec (P := Rise) (fun _ => .base) (fun _ _ _ => Rise.base.swap) (fun _ _ _ _ _ _ _ h => (h.step Tr.node_pos).swap) (fun _ _ _ _ _ _ _ h => h.step Tr.node_pos) t1 t2
theorem rise_fits (t1 t2 : Tr) (h : t1.size + t2.size ≤ 12) : 0 ≤ riseOf t1 t2 ∧ riseOf t1 t2 ≤ 20 := by
  obtain ⟨k, h1, h2, h3, h4⟩ := rise_all t1 t2
  have e : riseOf t1 t2 = k := by unfold riseOf; omega
  rw [e]
  refine ⟨by omega, ?_⟩
  by_cases h0 : t1.size + t2.size = 0
  · have := h3 h0; omega
  · have h5 := h4 (by omega)
    have h6 : (t1.size + 1) * (t2.size + 1) * (t1.size + t2.size + 1) ≤ 13 * 13 * 13 := mul3_le (by omega) (by omega) (by omega)
    by_cases hk : k < 20
    · omega
    · have : 2 ^ 20 ≤ 2 ^ k := Nat.pow_le_pow_right (by decide) (by omega)
      omega
theorem rise_fair (t1 t2 : Tr) (h : 0 < t1.size) : 4 * 2 ^ (riseOf t1 t2).toNat ≤ ((t1.size : Int) + 1) * (t2.size + 1) * ((t1.meld t2).1.size + 1) := by
  obtain ⟨k, h1, h2, h3, h4⟩ := rise_all t1 t2
  have e : (riseOf t1 t2).toNat = k := by unfold riseOf; omega
  rw [e, h2]
  have := h4 (by omega)
  exact_mod_cast this
end Mine
end
section
open PySem PySem.W PySem.Calls PySem.Spec PyProof.Rows
set_option Elab.async false
set_option linter.unusedVariables false
namespace Mine
def trues (k : Nat) : List Value := List.replicate k (.bool true)
structure JoinD where
  t1 : Tr
  t2 : Tr
  fa : Addr
  k : Nat
def cJoin : Con JoinD where
  pre := fun d news vs => (∃ v1 v2 n, vs = [v1, v2, .ref d.fa] ∧ TrIn news v1 d.t1 ∧ TrIn news v2 d.t2 ∧ (d.fa, listOf (trues d.k).toArray n) ∈ news) ∧ d.t1.size + d.t2.size ≤ 12 ∧ d.k ≤ 100
  cost := fun d => d.t1.size + d.t2.size + 4
  post := fun d news r news' => TupKeep news news' ∧ Keep d.fa news news' ∧ ∃ k' n, k' ≤ d.k + 1 ∧ (d.fa, listOf (trues k').toArray n) ∈ news' ∧ TrIn news' r (d.t1.meld d.t2).1
theorem trues_push (k : Nat) : (trues k).toArray.push (.bool true) = (trues (k + 1)).toArray := by
  apply Array.ext'; simp [trues, List.replicate_succ']
theorem trues_size (k : Nat) (h : k ≤ 100) : (trues k).toArray.size ≤ sizeLine := by simp [trues]; rw [sizeLine_eq]; omega
theorem join_end {d : JoinD} {news led : List (Addr × Obj)} {r : Value} (h1 : TupKeep news led) (h2 : Keep d.fa news led) {k' n : Nat} (h3 : k' ≤ d.k + 1) (h4 : (d.fa, listOf (trues k').toArray n) ∈ led) (h5 : TrIn led r (d.t1.meld d.t2).1) : cJoin.post d news r led :=
  ⟨h1, h2, k', n, h3, h4, h5⟩

-- one more line than the last walking text: the walk keeps its table of lines by their number
local macro_rules | `(tactic| walk_at "pad") => `(tactic| fail)
local macro_rules | `(tactic| k_mem) => `(tactic| first | assumption | (refine' Grow.up ?g ?_; (case g => assumption); k_mem) | (refine' List.mem_cons_of_mem _ ?_; k_mem))
local macro_rules | `(tactic| ktr_rel) => `(tactic| first | assumption | (refine' TrIn.up ?ha ?hb; (case ha => assumption); (case hb => ktr_rel)) | (refine' TrIn.cons ?hb; (case hb => ktr_rel)) | (refine' TrIn.upT ?ha ?hb; (case ha => assumption); (case hb => ktr_rel)))
local macro_rules | `(tactic| walk_at "subscriptTail") => `(tactic| (k_here; (with_reducible show wpAny _ _ (subscriptTail _ _ _ (Value.int 0 _)) _ _ _); k_dflt (refine' tr_sub0 ?k1 ?k2 ?_; (case k1 => k_asm); (case k2 => ktr_rel); intro tk9; (try dsimp only))))
local macro_rules | `(tactic| walk_at "subscriptTail") => `(tactic| (k_here; (with_reducible show wpAny _ _ (subscriptTail _ _ _ (Value.int 1 _)) _ _ _); k_dflt (refine' tr_sub1 ?k1 ?k2 ?_; (case k1 => k_asm); (case k2 => ktr_rel); intro tk9; (try dsimp only))))
local macro_rules | `(tactic| walk_at "call ref") => `(tactic| (k_here; (with_reducible show wpAny _ _ (call (Value.ref 96) _ _) _ _ _); k_dflt (refine' meld_use ?k1 ?k2 ?k3 ?k4 ?k5 ?kK ?kR1 ?kR2 (meld_ok _ _ _ _ _) (Nat.lt_succ_self _) ?kd ?ku ?_; (case k1 | k2 | k3 | k4 | k5 => k_asm); (case kK => first | exact rfl | assumption); (case kR1 | kR2 => ktr_rel); (case kd => ktr_room); (case ku => ktr_units); intro a9 n9 v9 t9 h9 tk9 news9 F9 N9 g9 hm9 hr9; (try dsimp only); (try k_fold))))
local macro_rules | `(tactic| walk_at "call builtin:list.append") => `(tactic| (k_here; (with_reducible show wpAny _ _ (call (Value.builtin _) [Value.ref _, _]) _ _ _); k_dflt (refine' append_any ?k1 ?k2 ?k3 ?_ ?z; (case k1 | k2 => k_asm); (case k3 => k_mem); (case z => first | exact trues_size _ (by assumption) | size_fits); k_whole); intro h9 news9 F9 N9 m9 k9 t9; (try k_sweep)))

set_option maxRecDepth 100000 in
set_option maxHeartbeats 8000000 in
theorem join_ok (w : World) (mean : ExcName → Option Value) (mg mb : Str → Option Value) (d) : Sat w mean mg mb 103 cJoin d := by
  unfold Sat
  w_top off
  k_fill
  intro dp un gd cn cs a ccd cl outer A₀ base h₀ L m news s vs Q E B F X N T hk hpre hd hu hret
  obtain ⟨t1, t2, fa, k⟩ := d
  obtain ⟨⟨v1, v2, n, rfl, R1, R2, hfa⟩, hsz, hk'⟩ := hpre
  dsimp only [cJoin] at hd hu R1 R2 hfa hsz hk'
  have hr := rise_fits t1 t2 hsz
  have hf := rise_fair t1 t2
  unfold riseOf at hr hf
  have hz1 : t1.size ≤ 12 := by omega
  have hz2 : t2.size ≤ 12 := by omega
  have hz3 : (t1.meld t2).1.size ≤ 12 := by rw [meld_size]; exact hsz
  refine wpAny_call ?_
  k_dflt ktr_enter
  k_steps
  · (rename (fa, _) ∈ _ => hm9)
    rw [decide_eq_true (hf (by omega)), trues_push] at hm9
    exact hret _ _ _ _ (by k_asm) (by k_asm) (join_end (TupKeep.trans (TupKeep.of_grow (by assumption)) (by assumption)) (Keep.trans (Keep.of_grow (by assumption)) (by assumption)) (Nat.le_refl _) hm9 (by ktr_rel))
  · exact hret _ _ _ _ (by k_asm) (by k_asm) (join_end (TupKeep.of_grow (by assumption)) (Keep.of_grow (by assumption)) (Nat.le_succ _) (by k_mem) (by ktr_rel))
  · exact hret _ _ _ _ (by k_asm) (by k_asm) (join_end (TupKeep.of_grow (by assumption)) (Keep.of_grow (by assumption)) (Nat.le_succ _) (by k_mem) (by ktr_rel))
end Mine
end
section
open PySem PySem.W PySem.Calls PySem.Spec PyProof.Rows
set_option Elab.async false
set_option linter.unusedVariables false
namespace Mine
def IterO (l : Addr) (i : Nat) (o : Obj) : Prop := o.cls = .type "list_iterator" ∧ o.data = .fields #[.ref l, .int i 0]
def ItKeep (a b : List (Addr × Obj)) : Prop := ∀ p ∈ a, p.2.cls ≠ .type "list_iterator" → p ∈ b
def TurnEnd (h₀ : Heap) (L l I : Addr) (oL : Obj) (i : Nat) (J : (Str → Option Value) → List (Addr × Obj) → Prop) (s : Shared) (Q : Flow → Shared → Prop) (f : Flow) (s₃ : Shared) : Prop := match f with
  | .next | .cont => ∃ h' tk m' news' oI, s₃ = { s with heap := h', toks := tk } ∧ Fr h₀ L h' m' ∧ News h₀ L h' news' ∧ (l, oL) ∈ news' ∧ (I, oI) ∈ news' ∧ IterO l (i + 1) oI ∧ J m' news'
  | .brk => Q .next s₃
  | .ret v => Q (.ret v) s₃
section
variable {prog : Program} {w : World} {A : Around} {E : Value → Shared → Prop} {s : Shared} {env : Env} {h₀ : Heap} {target : PySem.Expr} {body : List Stmt} {Q : Flow → Shared → Prop}
theorem TurnEnd.go {L l I : Addr} {oL : Obj} {i : Nat} {J : (Str → Option Value) → List (Addr × Obj) → Prop} {s : Shared} {h' : Heap} {tk : Tok} {m' : Str → Option Value} {news' : List (Addr × Obj)} {oI : Obj} (F : Fr h₀ L h' m') (N : News h₀ L h' news') (h1 : (l, oL) ∈ news') (h2 : (I, oI) ∈ news') (h3 : IterO l (i + 1) oI) (h4 : J m' news') :
    TurnEnd h₀ L l I oL i J s Q .next { s with heap := h', toks := tk } := ⟨h', tk, m', news', oI, rfl, F, N, h1, h2, h3, h4⟩
theorem itKeep_of {L I : Addr} {h : Heap} {a b : List (Addr × Obj)} {oI : Obj} (N : News h₀ L h a) (hm : (I, oI) ∈ a) (hc : oI.cls = .type "list_iterator") (k : Keep I a b) : ItKeep a b := fun p hp hn => k p hp fun e => hn (by
  have h1 := (N p hp).1
  rw [e, (N _ hm).1] at h1
  rw [← Option.some.inj h1]; exact hc)
set_option maxHeartbeats 1600000 in
theorem for_iter {l : Addr} {vs : List Value} {n : Nat} {m : Str → Option Value} {news : List (Addr × Obj)} (J : Addr → Nat → (Str → Option Value) → List (Addr × Obj) → Prop) (hh : A.handled = none)
    (F : Fr h₀ env.locals s.heap m) (N : News h₀ env.locals s.heap news) (hl : (l, listOf vs.toArray n) ∈ news)
    (h0 : ∀ I, (∀ p ∈ news, p.1 < I) → J I 0 m news)
    (hJ : ∀ I i m a b, Keep I a b → ItKeep a b → J I i m a → J I i m b)
    (turn : ∀ I i v m news h tk oI, vs[i]? = some v → J I i m news → Fr h₀ env.locals h m → News h₀ env.locals h news → (l, listOf vs.toArray n) ∈ news → (I, oI) ∈ news → IterO l (i + 1) oI →
      wpAny (model prog w) A (assign target env v) (fun _ s₂ => wpAny (model prog w) A (execs body env) (TurnEnd h₀ env.locals l I (listOf vs.toArray n) i (J I (i + 1)) { s with heap := h, toks := tk } Q) E s₂) E { s with heap := h, toks := tk })
    (done : ∀ I m news h tk, J I vs.length m news → Fr h₀ env.locals h m → News h₀ env.locals h news → Q .next { s with heap := h, toks := tk })
    (hE : PassesOwn (model prog w) A env E := by passes_own) :
    wpAny (model prog w) A (pyIter (.ref l)) (fun it s₂ => codeAny (model prog w) A (.forLoop target it body [] env) (fun r s' => match r with | .ok f => Q f s' | .error e => cameBackBy (model prog w) A env E e s') s₂) E s := by
  have hol : s.heap.get? l = some (listOf vs.toArray n) := (N _ hl).1
  have hls : s.heap.IsList l vs.toArray := ⟨_, hol, rfl, n, rfl⟩
  refine wpAny_pyIter_list hls ?_
  have hI : ∀ p ∈ news, p.1 < s.heap.objs.size := fun p hp => Heap.lt_size (N p hp).1
  generalize hIe : s.heap.objs.size = I at *
  have hlI : l ≠ I := Nat.ne_of_lt (hI _ hl)
  have J0 : J I 0 m ((I, ({ cls := .type "list_iterator", data := .fields #[.ref l, .int 0 0] } : Obj)) :: news) := hJ _ _ _ _ _ (fun p hp _ => List.mem_cons_of_mem _ hp) (fun p hp _ => List.mem_cons_of_mem _ hp) (h0 I hI)
  have N0 : News h₀ env.locals (s.heap.push { cls := .type "list_iterator", data := .fields #[.ref l, .int 0 0] }) ((I, ({ cls := .type "list_iterator", data := .fields #[.ref l, .int 0 0] } : Obj)) :: news) := by
    rw [← hIe]; exact N.push F _
  have F0 := F.push ({ cls := .type "list_iterator", data := .fields #[.ref l, .int 0 0] } : Obj)
  refine codeAny_forLoop_any
    (fun k s' => ∃ h' tk m' news' i oI, s' = { s with heap := h', toks := tk } ∧ Fr h₀ env.locals h' m' ∧ News h₀ env.locals h' news' ∧ (l, listOf vs.toArray n) ∈ news' ∧ (I, oI) ∈ news' ∧ IterO l i oI ∧ J I i m' news' ∧ i ≤ vs.length ∧ k = vs.length + 1 - i) ?_ (vs.length + 1)
    ⟨_, s.toks, m, _, 0, _, rfl, F0, N0, List.mem_cons_of_mem _ hl, List.Mem.head _, ⟨rfl, rfl⟩, J0, Nat.zero_le _, rfl⟩
  rintro k s' ⟨h', tk, m', news', i, oI, rfl, F', N', hl', hI', hO, hJ', hi, rfl⟩
  have hit : h'.IsListIter I l i := ⟨oI, (N' _ hI').1, hO.1, hO.2⟩
  have hls' : h'.IsList l vs.toArray := ⟨_, (N' _ hl').1, rfl, n, rfl⟩
  have hIL := (N' _ hI').2
  by_cases hlt : i < vs.length
  · refine wpAny_pyNext_list_item (x := vs[i]) hit hls' (by simp [hlt]) fun h₁ hit₁ hs₁ => ?_
    obtain ⟨o₁, ho₁, hc₁, hd₁⟩ := id hit₁
    have F₁ : Fr h₀ env.locals h₁ m' := F'.change hs₁ hIL.1 hIL.2
    have N₁ := N'.update hI' hs₁ ho₁
    have kp : Keep I news' (news'.map fun p => if p.1 = I then (I, o₁) else p) := fun p hp he => List.mem_map.mpr ⟨p, hp, by rw [if_neg he]⟩
    have ik : ItKeep news' (news'.map fun p => if p.1 = I then (I, o₁) else p) := itKeep_of N' hI' hO.1 kp
    refine letGo_listiter hit₁ ?_
    refine wpAny_mono (turn I i vs[i] m' _ h₁ tk o₁ (by simp [hlt]) (hJ _ _ _ _ _ kp ik hJ') F₁ N₁ (ik _ hl' (by show Value.type "list" ≠ Value.type "list_iterator"; decide)) (List.mem_map.mpr ⟨_, hI', by simp⟩) ⟨hc₁, hd₁⟩)
      (fun _ s₂ h₂ => wpAny_mono (wpAny_passesOwn hE h₂) (fun f s₃ h₃ => ?_) fun _ _ e => e) (fun e s' he => hE e s' he)
    have nxt : TurnEnd h₀ env.locals l I (listOf vs.toArray n) i (J I (i + 1)) { s with heap := h₁, toks := tk } Q .next s₃ → ∃ m_1, m_1 < vs.length + 1 - i ∧
        ∃ h' tk m' news' i oI, s₃ = { s with heap := h', toks := tk } ∧ Fr h₀ env.locals h' m' ∧ News h₀ env.locals h' news' ∧ (l, listOf vs.toArray n) ∈ news' ∧ (I, oI) ∈ news' ∧ IterO l i oI ∧ J I i m' news' ∧ i ≤ vs.length ∧ m_1 = vs.length + 1 - i := by
      rintro ⟨h₂, tk₂, m₂, news₂, o₂, rfl, F₂, N₂, a, b, c, d⟩
      exact ⟨vs.length + 1 - (i + 1), by omega, h₂, tk₂, m₂, news₂, i + 1, o₂, rfl, F₂, N₂, a, b, c, d, hlt, rfl⟩
    cases f with
    | next => exact nxt h₃
    | cont => exact nxt h₃
    | brk => exact h₃
    | ret v => exact h₃
  · have hin : i = vs.length := by omega
    refine wpAny_pyNext_list_end hh hit hls' (by simp [hin]) fun h₁ he₁ => wpAny_execs_nil ?_
    have F₁ : Fr h₀ env.locals h₁ m' := by
      refine ⟨F'.ns.at' fun o e => he₁ _ o hIL.1.symm e, fun b o e => he₁ b o (fun hb => ?_) (F'.keep b o e), F'.above⟩
      rw [hb, hIL.2] at e; cases e
    have N₁ : News h₀ env.locals h₁ (news'.filter fun p => decide (p.1 ≠ I)) := fun p hp => by
      obtain ⟨hp1, hp2⟩ := List.mem_filter.mp hp
      have hne : p.1 ≠ I := of_decide_eq_true hp2
      exact ⟨he₁ _ _ hne (N' p hp1).1, (N' p hp1).2⟩
    have kp : Keep I news' (news'.filter fun p => decide (p.1 ≠ I)) := fun p hp he => List.mem_filter.mpr ⟨hp, decide_eq_true he⟩
    exact done I m' _ h₁ tk (hin ▸ hJ _ _ _ _ _ kp (itKeep_of N' hI' hO.1 kp) hJ') F₁ N₁
end
def Hold (P : Prop) : Prop := P
theorem hold_intro {P : Prop} (h : Hold P) : P := h
theorem whileStep2_go {h₀ h' : Heap} {L : Addr} {s : Shared} {J : Nat → (Str → Option Value) → List (Addr × Obj) → Prop} {Q : Flow → Shared → Prop} {n n' tk : Nat} {m₂ : Str → Option Value} {news₂ : List (Addr × Obj)}
    (F : Fr h₀ L h' m₂) (N : News h₀ L h' news₂) (hn : n' < n) (hJ : J n' m₂ news₂) : WhileStep2 h₀ L s J Q n .next { s with heap := h', toks := tk } := ⟨h', tk, m₂, news₂, n', rfl, F, N, hn, hJ⟩
theorem fr_put {h₀ h : Heap} {L : Addr} {m : Str → Option Value} {x : Str} {v : Value} (F : Fr h₀ L h m) (e : m x = some v) : Fr h₀ L h (fun y => if y = x then some v else m y) := by
  have : (fun y => if y = x then some v else m y) = m := by
    funext y
    split
    · rename_i q; rw [q]; exact e.symm
    · rfl
  rw [this]; exact F
theorem fr_put4 {h₀ h : Heap} {L : Addr} {m : Str → Option Value} {x1 x2 x3 x4 : Str} {v1 v2 v3 v4 : Value} (F : Fr h₀ L h m) (e1 : m x1 = some v1) (e2 : m x2 = some v2) (e3 : m x3 = some v3) (e4 : m x4 = some v4) :
    Fr h₀ L h (fun y => if y = x1 then some v1 else if y = x2 then some v2 else if y = x3 then some v3 else if y = x4 then some v4 else m y) := by
  have : (fun y => if y = x1 then some v1 else if y = x2 then some v2 else if y = x3 then some v3 else if y = x4 then some v4 else m y) = m := by
    funext y
    (repeat' split) <;> rename_i q <;> first | (rw [q]; symm; assumption) | rfl
  rw [this]; exact F
theorem keep_up {x : Addr} {a b : List (Addr × Obj)} (g : Keep x a b) {p : Addr × Obj} (h : p ∈ a) (n : p.1 ≠ x) : p ∈ b := g p h n
theorem tup_up {a b : List (Addr × Obj)} (g : TupKeep a b) {p : Addr × Obj} (h : p ∈ a) (n : p.2.cls = .type "tuple") : p ∈ b := g p h n
theorem push_list {news : List (Addr × Obj)} {a : Addr} {vs : List Value} {v : Value} {n : Nat} (h : (a, listOf (vs.toArray.push v) n) ∈ news) : (a, listOf (vs ++ [v]).toArray n) ∈ news := by
  have e : vs.toArray.push v = (vs ++ [v]).toArray := by simp
  rw [e] at h; exact h
theorem fr_put3 {h₀ h : Heap} {L : Addr} {m : Str → Option Value} {x1 x2 x3 : Str} {v1 v2 v3 : Value} (F : Fr h₀ L h m) (e1 : m x1 = some v1) (e2 : m x2 = some v2) (e3 : m x3 = some v3) :
    Fr h₀ L h (fun y => if y = x1 then some v1 else if y = x2 then some v2 else if y = x3 then some v3 else m y) := by
  have : (fun y => if y = x1 then some v1 else if y = x2 then some v2 else if y = x3 then some v3 else m y) = m := by
    funext y
    (repeat' split) <;> rename_i q <;> first | (rw [q]; symm; assumption) | rfl
  rw [this]; exact F
theorem it_up {a b : List (Addr × Obj)} (g : ItKeep a b) {p : Addr × Obj} (h : p ∈ a) (n : p.2.cls ≠ .type "list_iterator") : p ∈ b := g p h n
theorem ItKeep.trans {a b c : List (Addr × Obj)} (g : ItKeep a b) (k : ItKeep b c) : ItKeep a c := fun p h e => k p (g p h e) e
theorem push_list2 {news : List (Addr × Obj)} {a : Addr} {vs : List Value} {v u : Value} {n : Nat} (h : (a, listOf ((vs.toArray.push v).push u) n) ∈ news) : (a, listOf (vs ++ [v, u]).toArray n) ∈ news := by
  have e : (vs.toArray.push v).push u = (vs ++ [v, u]).toArray := by apply Array.ext'; simp
  rw [e] at h; exact h
end Mine
end
section
open PySem PySem.W PySem.Calls PySem.Spec PyProof.Rows
set_option Elab.async false
set_option linter.unusedVariables false
namespace Mine
inductive Strs : List Value → List Str → Prop
  | nil : Strs [] []
  | cons {x : Str} {t : Tok} {vs : List Value} {xs : List Str} : Strs vs xs → Strs (.str x t :: vs) (x :: xs)
theorem Strs.snoc {vs : List Value} {xs : List Str} (h : Strs vs xs) (x : Str) (t : Tok) : Strs (vs ++ [.str x t]) (xs ++ [x]) := by
  induction h with
  | nil => exact .cons .nil
  | cons _ ih => exact .cons ih
theorem Strs.length {vs : List Value} {xs : List Str} (h : Strs vs xs) : vs.length = xs.length := by
  induction h with
  | nil => rfl
  | cons _ ih => simp [ih]
/-- told: tuples of a deed and a text -/
inductive Told2 (news : List (Addr × Obj)) : List Value → List (Int × Str) → Prop
  | nil : Told2 news [] []
  | cons {a : Addr} {i : Int} {t1 t2 : Tok} {x : Str} {n : Nat} {vs : List Value} {xs : List (Int × Str)} : (a, ({ cls := .type "tuple", data := .seq #[.int i t1, .str x t2] n } : Obj)) ∈ news → Told2 news vs xs → Told2 news (.ref a :: vs) ((i, x) :: xs)
theorem Told2.upT {a b : List (Addr × Obj)} (g : TupKeep a b) {vs : List Value} {xs : List (Int × Str)} (h : Told2 a vs xs) : Told2 b vs xs := by
  induction h with
  | nil => exact .nil
  | cons hm _ ih => exact .cons (g _ hm rfl) ih
theorem Told2.length {a : List (Addr × Obj)} {vs : List Value} {xs : List (Int × Str)} (h : Told2 a vs xs) : vs.length = xs.length := by
  induction h with
  | nil => rfl
  | cons _ _ ih => simp [ih]
theorem Told2.get {news : List (Addr × Obj)} {vs : List Value} {xs : List (Int × Str)} (h : Told2 news vs xs) {i : Nat} {v : Value} (hv : vs[i]? = some v) :
    ∃ a d t1 t2 x n, v = .ref a ∧ (a, ({ cls := .type "tuple", data := .seq #[.int d t1, .str x t2] n } : Obj)) ∈ news ∧ xs[i]? = some (d, x) := by
  induction h generalizing i with
  | nil => simp at hv
  | cons hm _ ih =>
    cases i with
    | zero => simp at hv; subst hv; exact ⟨_, _, _, _, _, _, rfl, hm, rfl⟩
    | succ i => simp at hv; obtain ⟨a, d, t1, t2, x, n, e1, e2, e3⟩ := ih hv; exact ⟨a, d, t1, t2, x, n, e1, e2, by simpa using e3⟩
structure St where
  t1 : Tr
  t2 : Tr
  tk : List Str
def St.step (s : St) (d : Int × Str) : St :=
  if d.1 = 1 then { s with t1 := (s.t1.meld (.node .leaf d.2 .leaf)).1 }
  else if d.1 = 2 then { s with t2 := (s.t2.meld (.node .leaf d.2 .leaf)).1 }
  else if d.1 = 3 then { s with t1 := (s.t1.meld s.t2).1, t2 := .leaf }
  else match s.t1 with
    | .leaf => s
    | .node l x r => { s with t1 := (l.meld r).1, tk := s.tk ++ [x] }
def drain : Nat → Tr → List Str
  | 0, _ => []
  | _, .leaf => []
  | n + 1, .node l x r => x :: drain n (l.meld r).1
def St0 : St := ⟨.leaf, .leaf, []⟩
def doneOf (told : List (Int × Str)) : List Str :=
  let s := told.foldl St.step St0
  s.tk ++ drain (s.t1.meld s.t2).1.size (s.t1.meld s.t2).1
structure DoneD where
  told : List (Int × Str)
  vs : List Value
  n : Nat
  da : Addr
  fa : Addr
def cDone : Con DoneD where
  pre := fun d news vs => vs = [.ref d.da, .ref d.fa] ∧ (d.da, listOf d.vs.toArray d.n) ∈ news ∧ Told2 news d.vs d.told ∧ d.told.length ≤ 12 ∧ (∃ n, (d.fa, listOf (trues 0).toArray n) ∈ news) ∧ d.fa ≠ d.da
  cost := fun d => 40
  post := fun d news r news' => TupKeep news news' ∧ Keep d.fa news news' ∧ ∃ k n ta vs n', (d.fa, listOf (trues k).toArray n) ∈ news' ∧ r = .ref ta ∧ (ta, listOf vs.toArray n') ∈ news' ∧ Strs vs (doneOf d.told)
theorem join_use {w : World} {mean : ExcName → Option Value} {mg mb : Str → Option Value} {dp un : Nat} {gd : Option (List Code)} {cn : Str} {cs : Scope} {a : Addr} {ccd : Value} {cl : List (Str × Addr)} {outer : List Env} {A₀ : Around} {base h₀ : Heap} {L : Addr} {m : Str → Option Value} {news : List (Addr × Obj)} {s : Shared} {v1 v2 : Value} {a1 a2 : Tr} {fa : Addr} {k n : Nat}
    {Q E : Value → Shared → Prop} (B : Below A₀ base outer h₀) (F : Fr h₀ L s.heap m) (X : (Mine.hd.heap_39 w.params).In h₀) (N : News h₀ L s.heap news) (T : Top Mine.hd.view_39 (looseW Mine.hd.view_39 []) mean mg mb h₀) (hk : cs.kind = .function)
    (R1 : TrIn news v1 a1) (R2 : TrIn news v2 a2) (hfa : (fa, listOf (trues k).toArray n) ∈ news) (hsz : a1.size + a2.size ≤ 12) (hk9 : k ≤ 100)
    (hd : dp + (a1.size + a2.size + 4) < recursionLimit) (hu : un + 8 * (a1.size + a2.size + 4) < cLine)
    (ret : ∀ v h' tk' news' k' n', Fr h₀ L h' m → News h₀ L h' news' → TupKeep news news' → Keep fa news news' → k' ≤ k + 1 → (fa, listOf (trues k').toArray n') ∈ news' → TrIn news' v (a1.meld a2).1 → Q v { s with heap := h', toks := tk' }) :
    wpAny (model PySem.Challenge.rw_tr0014_01.row.prog w) (ktrTop dp un gd cn cs L a ccd cl outer) (call (.ref 103) [v1, v2, .ref fa]) Q E s := by
  refine sat_use (join_ok w mean mg mb ⟨a1, a2, fa, k⟩) B F X N T hk ⟨⟨_, _, _, rfl, R1, R2, hfa⟩, hsz, hk9⟩ hd hu ?_
  rintro r news' h' tk' F' N' ⟨g1, g2, k', n', h1, h2, h3⟩
  exact ret r h' tk' news' k' n' F' N' g1 g2 h1 h2 h3

namespace Tr
def top : Tr → Str
  | .leaf => Str.empty
  | .node _ x _ => x
def left : Tr → Tr
  | .leaf => .leaf
  | .node l _ _ => l
def right : Tr → Tr
  | .leaf => .leaf
  | .node _ _ r => r
theorem left_right {t : Tr} (h : 0 < t.size) : t.left.size + t.right.size + 1 = t.size := by
  cases t with
  | leaf => simp [size] at h
  | node l x r => simp [size, left, right]
end Tr
section
variable {prog : Program} {w : World} {A : Around} {E : Value → Shared → Prop} {s : Shared} {news : List (Addr × Obj)} {h₀ : Heap} {L : Addr} {value slice : PySem.Expr} {v : Value} {t : Tr} {u : Tok} {Q : Value → Shared → Prop}
theorem tr_sub2 (N : News h₀ L s.heap news) (R : TrIn news v t) (hp : 0 < t.size) (h : ∀ v', t.left.size + t.right.size + 1 = t.size → TrIn news v' t.left → Q v' s)
    (hs : ∀ a, subscripted slice false (.ref a) (.int 2 u) = operate [.ref a, .int 2 u] (getItem (.ref a) (.int 2 u)) := by intro a; with_unfolding_all rfl) :
    wpAny (model prog w) A (subscriptTail value slice v (.int 2 u)) Q E s := by
  cases R with
  | leaf hm => exact absurd hp (Nat.lt_irrefl _)
  | node hm h1 h2 h3 hl hr => exact item_tupleT (j := 2) (l := [_, _, _, _, _]) (News.isTup N hm) (by decide) (by decide) (by rfl) rfl (h _ (Tr.left_right hp) hl) (hs _)
theorem tr_sub3 (N : News h₀ L s.heap news) (R : TrIn news v t) (hp : 0 < t.size) (h : ∀ tk, Q (.str t.top tk) s)
    (hs : ∀ a, subscripted slice false (.ref a) (.int 3 u) = operate [.ref a, .int 3 u] (getItem (.ref a) (.int 3 u)) := by intro a; with_unfolding_all rfl) :
    wpAny (model prog w) A (subscriptTail value slice v (.int 3 u)) Q E s := by
  cases R with
  | leaf hm => exact absurd hp (Nat.lt_irrefl _)
  | node hm h1 h2 h3 hl hr => exact item_tupleT (j := 3) (l := [_, _, _, _, _]) (News.isTup N hm) (by decide) (by decide) (by rfl) rfl (h _) (hs _)
theorem tr_sub4 (N : News h₀ L s.heap news) (R : TrIn news v t) (hp : 0 < t.size) (h : ∀ v', TrIn news v' t.right → Q v' s)
    (hs : ∀ a, subscripted slice false (.ref a) (.int 4 u) = operate [.ref a, .int 4 u] (getItem (.ref a) (.int 4 u)) := by intro a; with_unfolding_all rfl) :
    wpAny (model prog w) A (subscriptTail value slice v (.int 4 u)) Q E s := by
  cases R with
  | leaf hm => exact absurd hp (Nat.lt_irrefl _)
  | node hm h1 h2 h3 hl hr => exact item_tupleT (j := 4) (l := [_, _, _, _, _]) (News.isTup N hm) (by decide) (by decide) (by rfl) rfl (h _ hr) (hs _)
end
def JDone (d : DoneD) (nw : List (Addr × Obj)) (I : Addr) (i : Nat) (m : Str → Option Value) (news : List (Addr × Obj)) : Prop :=
  ∃ st v1 v2 k n ta vs n', (d.told.take i).foldl St.step St0 = st ∧ m "first" = some v1 ∧ m "second" = some v2 ∧ m "taken" = some (.ref ta) ∧ m "fair" = some (.ref d.fa) ∧
    TrIn news v1 st.t1 ∧ TrIn news v2 st.t2 ∧ st.t1.size + st.t2.size + st.tk.length ≤ i ∧
    (d.fa, listOf (trues k).toArray n) ∈ news ∧ k ≤ i ∧ (ta, listOf vs.toArray n') ∈ news ∧ Strs vs st.tk ∧ Told2 news d.vs d.told ∧ (d.da, listOf d.vs.toArray d.n) ∈ news ∧
    ta ≠ d.fa ∧ ta ≠ d.da ∧ I ≠ d.fa ∧ I ≠ ta ∧ Keep d.fa nw news ∧ (∀ p ∈ nw, p.1 ≠ ta) ∧ (∀ p ∈ nw, p.1 ≠ I)
theorem JDone.keep (d : DoneD) (nw : List (Addr × Obj)) (I : Addr) (i : Nat) (m : Str → Option Value) (a b : List (Addr × Obj)) (k1 : Keep I a b) (k2 : ItKeep a b) (h : JDone d nw I i m a) : JDone d nw I i m b := by
  obtain ⟨st, v1, v2, k, n, ta, vs, n', e, m1, m2, m3, m4, R1, R2, hz, hf, hk, ht, hS, hT, hd, q1, q2, q3, q4, q5, q6, q7⟩ := h
  have tk : TupKeep a b := fun p hp hc => k2 p hp (by rw [hc]; decide)
  exact ⟨st, v1, v2, k, n, ta, vs, n', e, m1, m2, m3, m4, R1.upT tk, R2.upT tk, hz, k2 _ hf (by show Value.type "list" ≠ _; decide), hk, k2 _ ht (by show Value.type "list" ≠ _; decide), hS, hT.upT tk, k2 _ hd (by show Value.type "list" ≠ _; decide), q1, q2, q3, q4, fun p hp hc => k1 p (q5 p hp hc) (q7 p hp), q6, q7⟩

theorem step1 {st : St} {i : Int} {x : Str} (h : i = 1) : st.step (i, x) = { st with t1 := (st.t1.meld (.node .leaf x .leaf)).1 } := by unfold St.step; rw [if_pos h]
theorem step2 {st : St} {i : Int} {x : Str} (h : i = 2) : st.step (i, x) = { st with t2 := (st.t2.meld (.node .leaf x .leaf)).1 } := by
  unfold St.step; rw [if_neg (by show ¬ i = 1; omega), if_pos h]
theorem step3 {st : St} {i : Int} {x : Str} (h : i = 3) : st.step (i, x) = { st with t1 := (st.t1.meld st.t2).1, t2 := .leaf } := by
  unfold St.step; rw [if_neg (by show ¬ i = 1; omega), if_neg (by show ¬ i = 2; omega), if_pos h]
theorem step0 {st : St} {i : Int} {x : Str} (h1 : i ≠ 1) (h2 : i ≠ 2) (h3 : i ≠ 3) (hp : 0 < st.t1.size) : st.step (i, x) = { st with t1 := (st.t1.left.meld st.t1.right).1, tk := st.tk ++ [st.t1.top] } := by
  unfold St.step; rw [if_neg h1, if_neg h2, if_neg h3]
  obtain ⟨t1, t2, tk⟩ := st
  cases t1 with
  | leaf => exact absurd hp (Nat.lt_irrefl _)
  | node l x r => rfl
theorem stepN {st : St} {i : Int} {x : Str} (h1 : i ≠ 1) (h2 : i ≠ 2) (h3 : i ≠ 3) (hp : ¬ 0 < st.t1.size) : st.step (i, x) = st := by
  unfold St.step; rw [if_neg h1, if_neg h2, if_neg h3]
  obtain ⟨t1, t2, tk⟩ := st
  cases t1 with
  | leaf => rfl
  | node l x r => exact absurd (by simp [Tr.size]) hp
theorem JDone.next {d : DoneD} {nw : List (Addr × Obj)} {I : Addr} {i : Nat} {m : Str → Option Value} {news : List (Addr × Obj)} {dx : Int × Str} {st st' : St} {v1 v2 : Value} {k n n' : Nat} {ta : Addr} {vs : List Value} (e : (d.told.take i).foldl St.step St0 = st) (hx : d.told[i]? = some dx) (hs : st.step dx = st')
    (m1 : m "first" = some v1) (m2 : m "second" = some v2) (m3 : m "taken" = some (.ref ta)) (m4 : m "fair" = some (.ref d.fa)) (R1 : TrIn news v1 st'.t1) (R2 : TrIn news v2 st'.t2) (hz : st'.t1.size + st'.t2.size + st'.tk.length ≤ i + 1)
    (hf : (d.fa, listOf (trues k).toArray n) ∈ news) (hk : k ≤ i + 1) (ht : (ta, listOf vs.toArray n') ∈ news) (hS : Strs vs st'.tk) (hT : Told2 news d.vs d.told) (hd : (d.da, listOf d.vs.toArray d.n) ∈ news)
    (q1 : ta ≠ d.fa) (q2 : ta ≠ d.da) (q3 : I ≠ d.fa) (q4 : I ≠ ta) (q5 : Keep d.fa nw news) (q6 : ∀ p ∈ nw, p.1 ≠ ta) (q7 : ∀ p ∈ nw, p.1 ≠ I) : JDone d nw I (i + 1) m news := by
  refine ⟨st', v1, v2, k, n, ta, vs, n', ?_, m1, m2, m3, m4, R1, R2, hz, hf, hk, ht, hS, hT, hd, q1, q2, q3, q4, q5, q6, q7⟩
  rw [List.take_add_one, hx, List.foldl_append, e]
  exact hs
theorem Told2.to {a b : List (Addr × Obj)} {vs : List Value} {xs : List (Int × Str)} (h : Told2 a vs xs) (g : ∀ p ∈ a, p.2.cls = .type "tuple" → p ∈ b) : Told2 b vs xs := h.upT g
local macro_rules | `(tactic| k_mem) => `(tactic| first | exact List.Mem.head _ | with_reducible assumption | (refine' List.mem_cons_of_mem _ ?_; k_mem) | (refine' Grow.up ?g ?_; (case g => with_reducible assumption); k_mem) | (refine' keep_up ?g ?_ ?n; (case g => with_reducible assumption); (case n => first | assumption | (apply Ne.symm; assumption)); k_mem) | (refine' tup_up ?g ?h ?n; (case g => with_reducible assumption); (case h => k_mem); (case n => first | rfl | assumption)))
local macro_rules | `(tactic| ktr_rel) => `(tactic| first | with_reducible assumption | (refine' TrIn.up ?ha ?hb; (case ha => with_reducible assumption); (case hb => ktr_rel)) | (refine' TrIn.cons ?hb; (case hb => ktr_rel)) | (refine' TrIn.upT ?ha ?hb; (case ha => with_reducible assumption); (case hb => ktr_rel)))
local macro_rules | `(tactic| walk_at "subscriptTail") => `(tactic| (k_here; (with_reducible show wpAny _ _ (subscriptTail _ _ _ (Value.int 0 _)) _ _ _); k_dflt (refine' tr_sub0 ?k1 ?k2 ?_; (case k1 => k_asm); (case k2 => ktr_rel); intro tk9; (try dsimp only))))
local macro_rules | `(tactic| walk_at "subscriptTail") => `(tactic| (k_here; (with_reducible show wpAny _ _ (subscriptTail _ _ _ (Value.int 2 _)) _ _ _); k_dflt (refine' tr_sub2 ?k1 ?k2 ?k3 ?_; (case k1 => k_asm); (case k2 => ktr_rel); (case k3 => omega); intro v9 e9 r9; (try dsimp only))))
local macro_rules | `(tactic| walk_at "subscriptTail") => `(tactic| (k_here; (with_reducible show wpAny _ _ (subscriptTail _ _ _ (Value.int 3 _)) _ _ _); k_dflt (refine' tr_sub3 ?k1 ?k2 ?k3 ?_; (case k1 => k_asm); (case k2 => ktr_rel); (case k3 => omega); intro tk9; (try dsimp only))))
local macro_rules | `(tactic| walk_at "subscriptTail") => `(tactic| (k_here; (with_reducible show wpAny _ _ (subscriptTail _ _ _ (Value.int 4 _)) _ _ _); k_dflt (refine' tr_sub4 ?k1 ?k2 ?k3 ?_; (case k1 => k_asm); (case k2 => ktr_rel); (case k3 => omega); intro v9 r9; (try dsimp only))))
local macro_rules | `(tactic| walk_at "call ref") => `(tactic| (k_here; (with_reducible show wpAny _ _ (call (Value.ref 103) _ _) _ _ _); k_dflt (refine' join_use ?k1 ?k2 ?k3 ?k4 ?k5 ?kK ?kR1 ?kR2 ?kf ?ks ?kn ?kd ?ku ?_; (case k1 | k2 | k3 | k4 | k5 => k_asm); (case kK => first | exact rfl | assumption); (case kR1 => ktr_rel); (case kR2 => first | exact TrIn.node (List.Mem.head _) (by decide) rfl rfl (.leaf (by k_mem)) (.leaf (by k_mem)) | ktr_rel); (case kf => k_mem); (case ks => ((try simp only [Tr.size]); omega)); (case kn => omega); (case kd => ((try simp only [Tr.size] at *); ktr_room)); (case ku => ((try simp only [Tr.size] at *); ktr_units)); intro v9 h9 tk9 news9 k9 n9 F9 N9 g9 g8 hk9 hm9 hr9; (try dsimp only); (try k_fold))))
theorem drain_pop {t : Tr} (h : 0 < t.size) : drain t.size t = t.top :: drain (t.left.meld t.right).1.size (t.left.meld t.right).1 := by
  cases t with
  | leaf => exact absurd h (Nat.lt_irrefl _)
  | node l x r =>
    rw [meld_size]
    simp only [Tr.size, drain, Tr.top, Tr.left, Tr.right]
theorem drain_none {t : Tr} (h : ¬ 0 < t.size) : drain t.size t = [] := by
  cases t with
  | leaf => rfl
  | node l x r => exact absurd (by simp [Tr.size]) h
theorem tup_ne {h₀ h : Heap} {L fa : Addr} {news : List (Addr × Obj)} {xs : Array Value} {n : Nat} {p : Addr × Obj} (N : News h₀ L h news) (hm : (fa, listOf xs n) ∈ news) (hp : p ∈ news) (hc : p.2.cls = .type "tuple") : p.1 ≠ fa := by
  intro e
  have h1 := (N p hp).1
  rw [e, (N _ hm).1] at h1
  rw [← Option.some.inj h1] at hc
  exact absurd hc (by show Value.type "list" ≠ _; decide)
def JW (d : DoneD) (nw : List (Addr × Obj)) (ta : Addr) (n : Nat) (m : Str → Option Value) (news : List (Addr × Obj)) : Prop :=
  ∃ v tr k n1 vs n', m "first" = some v ∧ m "taken" = some (.ref ta) ∧ m "fair" = some (.ref d.fa) ∧ TrIn news v tr ∧ tr.size = n ∧ (d.fa, listOf (trues k).toArray n1) ∈ news ∧ k + n ≤ 30 ∧ (ta, listOf vs.toArray n') ∈ news ∧ n + vs.length ≤ 12 ∧ (∃ xs, Strs vs xs ∧ xs ++ drain n tr = doneOf d.told) ∧ Keep d.fa nw news ∧ (∀ p ∈ nw, p.1 ≠ ta) ∧ ta ≠ d.fa
local macro_rules | `(tactic| walk_at "exec While") => `(tactic| (k_here; refine hold_intro ?_))
local macro_rules | `(tactic| walk_at "call builtin:list.append") => `(tactic| (k_here; (with_reducible show wpAny _ _ (call (Value.builtin _) [Value.ref _, _]) _ _ _); k_dflt (refine' append_any ?k1 ?k2 ?k3 ?_ ?z; (case k1 | k2 => k_asm); (case k3 => k_mem); (case z => size_fits); k_whole); intro h9 news9 F9 N9 m9 k9 t9; (try k_sweep)))

set_option maxRecDepth 100000 in
set_option maxHeartbeats 8000000 in
theorem done_ok (w : World) (mean : ExcName → Option Value) (mg mb : Str → Option Value) (d) : Sat w mean mg mb 110 cDone d := by
  unfold Sat
  w_top off
  k_fill
  intro dp un gd cn cs a ccd cl outer A₀ base h₀ L m news s vs Q E B F X N T hk hpre hd hu hret
  obtain ⟨rfl, hda, htd, hlen, ⟨n, hfa⟩, hne⟩ := hpre
  have N00 := N
  simp only [cDone] at hd hu
  refine wpAny_call ?_
  k_dflt ktr_enter
  refine wpAny_noRaise ?_
  k_steps
  refine wpAny_For ?_
  walk1
  refine for_iter (JDone d news) rfl (by k_asm) (by k_asm) (by k_mem) ?_ (JDone.keep d news) ?_ ?_ PassesOwn.never
  · intro I hI
    (rename (_ : Nat) < _ ∧ AllLt _ _ => l1)
    have q9 := ktn_ltOf l1.2
    refine ⟨St0, _, _, 0, n, _, [], 0, rfl, rfl, rfl, rfl, rfl, .leaf (by k_mem), .leaf (by k_mem), Nat.zero_le _, by k_mem, Nat.zero_le _, by k_mem, .nil, (htd.to fun p hp hc => by k_mem), by k_mem, ?_, ?_, ?_, ?_, fun p hp hc => by k_mem, fun p hp => Nat.ne_of_lt (q9 p hp), fun p hp => Nat.ne_of_lt (hI p (by k_mem))⟩
    · exact Nat.ne_of_gt (q9 _ hfa)
    · exact Nat.ne_of_gt (q9 _ hda)
    · exact Nat.ne_of_gt (hI _ (by k_mem : (d.fa, listOf (trues 0).toArray n) ∈ _))
    · exact Nat.ne_of_gt (hI _ (List.Mem.head _))
  · intro I i v m news1 h tk oI hv hJ F N hl hI hO
    obtain ⟨st, v1, v2, k, n, ta, vs, n', e, m1, m2, m3, m4, R1, R2, hz, hf, hk', ht, hS, hT, hd', q1, q2, q3, q4, q5, q6, q7⟩ := hJ
    obtain ⟨a9, d9, t91, t92, x9, n9, rfl, ha9, hx9⟩ := hT.get hv
    have hi9 : i < 12 := by have := (List.getElem?_eq_some_iff.mp hx9).1; omega
    have hvs := hS.length
    replace F := fr_put4 F m1 m2 m3 m4
    k_steps
    · refine TurnEnd.go (by k_asm) (by k_asm) (by k_mem) (by k_mem) (by assumption) ?_
      refine JDone.next e hx9 (step1 (by omega)) rfl rfl rfl rfl (by ktr_rel) (by ktr_rel) ?_ (by k_mem) (by omega) (by k_mem) hS (hT.to fun p hp hc => by k_mem) (by k_mem) q1 q2 q3 q4 (fun p hp hc => by have h8 := q5 p hp hc; have h7 := q6 p hp; k_mem) q6 q7
      simp only [meld_size, Tr.size]; omega
    · refine TurnEnd.go (by k_asm) (by k_asm) (by k_mem) (by k_mem) (by assumption) ?_
      refine JDone.next e hx9 (step2 (by omega)) rfl rfl rfl rfl (by ktr_rel) (by ktr_rel) ?_ (by k_mem) (by omega) (by k_mem) hS (hT.to fun p hp hc => by k_mem) (by k_mem) q1 q2 q3 q4 (fun p hp hc => by have h8 := q5 p hp hc; have h7 := q6 p hp; k_mem) q6 q7
      simp only [meld_size, Tr.size]; omega
    · refine TurnEnd.go (by k_asm) (by k_asm) (by k_mem) (by k_mem) (by assumption) ?_
      refine JDone.next e hx9 (step3 (by omega)) rfl rfl rfl rfl (by ktr_rel) (.leaf (by k_mem)) ?_ (by k_mem) (by omega) (by k_mem) hS (hT.to fun p hp hc => by k_mem) (by k_mem) q1 q2 q3 q4 (fun p hp hc => by have h8 := q5 p hp hc; have h7 := q6 p hp; k_mem) q6 q7
      simp only [meld_size, Tr.size]; omega
    · refine TurnEnd.go (by k_asm) (by k_asm) (by k_mem) (by k_mem) (by assumption) ?_
      refine JDone.next e hx9 (step0 (by omega) (by omega) (by omega) (by omega)) rfl rfl rfl rfl (by ktr_rel) (by ktr_rel) ?_ (by k_mem) (by omega) (push_list (by k_mem)) (hS.snoc _ _) (hT.to fun p hp hc => by k_mem) (by k_mem) q1 q2 q3 q4 (fun p hp hc => by have h8 := q5 p hp hc; have h7 := q6 p hp; k_mem) q6 q7
      simp only [meld_size, List.length_append, List.length_singleton]; omega
    · refine TurnEnd.go (by k_asm) (by k_asm) (by k_mem) (by k_mem) (by assumption) ?_
      exact JDone.next e hx9 (stepN (by omega) (by omega) (by omega) (by omega)) rfl rfl rfl rfl (by ktr_rel) (by ktr_rel) (by omega) (by k_mem) (by omega) (by k_mem) hS (hT.to fun p hp hc => by k_mem) (by k_mem) q1 q2 q3 q4 (fun p hp hc => by have h8 := q5 p hp hc; have h7 := q6 p hp; k_mem) q6 q7
  · intro I m news1 h tk hJ F N
    obtain ⟨st, v1, v2, k, n, ta, vs, n', e, m1, m2, m3, m4, R1, R2, hz, hf, hk', ht, hS, hT, hd', q1, q2, q3, q4, q5, q6, q7⟩ := hJ
    have hl9 := hT.length
    have hvs := hS.length
    replace F := fr_put4 F m1 m2 m3 m4
    k_steps
    (rename Fr _ _ _ _ => F9)
    (rename News _ _ _ _ => N9)
    refine While_inv2 (JW d news ta) F9 N9 (n₀ := (st.t1.meld st.t2).1.size) ?_ ?_ PassesOwn.never
    · refine ⟨_, _, _, _, _, _, rfl, rfl, rfl, (by ktr_rel), rfl, (by k_mem), ?_, (by k_mem), ?_, ⟨_, hS, ?_⟩, (fun p hp hc => by have h8 := q5 p hp hc; have h7 := q6 p hp; k_mem), q6, q1⟩
      · rw [meld_size]; omega
      · rw [meld_size]; omega
      · rw [hl9, List.take_length] at e
        simp only [doneOf, e]
    · intro n m₁ news₁ h₁ tk₁ F₁ N₁ hJ
      obtain ⟨v, tr, k, n1, vs, n', m1, m3, m4, R1, hz, hf, hk, ht, hl, ⟨xs, hS, he⟩, q5, q6, q1⟩ := hJ
      replace F₁ := fr_put3 F₁ m1 m3 m4
      k_steps
      · refine whileStep2_go (by k_asm) (by k_asm) ?_ ⟨_, _, _, _, _, _, rfl, rfl, rfl, (by ktr_rel), rfl, (by k_mem), ?_, (push_list (by k_mem)), ?_, ⟨_, hS.snoc _ _, ?_⟩, (fun p hp hc => by have h8 := q5 p hp hc; have h7 := q6 p hp; k_mem), q6, q1⟩
        · rw [meld_size]; omega
        · rw [meld_size]; omega
        · rw [meld_size, List.length_append, List.length_singleton]; omega
        · rw [← he, ← hz, drain_pop (t := tr) (by omega), List.append_assoc]; rfl
      · rw [← hz, drain_none (by omega), List.append_nil] at he
        refine hret _ _ _ _ (by k_asm) (by k_asm) ⟨?_, ?_, k, n1, ta, vs, n', by k_mem, rfl, by k_mem, he ▸ hS⟩
        · intro p hp hc
          exact q5 p hp (tup_ne N00 hfa hp hc)
        · exact q5
end Mine
end
section
open PySem PySem.W PySem.Calls PySem.Spec PyProof.Rows
set_option Elab.async false
set_option linter.unusedVariables false
namespace Mine
section
variable {prog : Program} {w : World} {A : Around} {E : Value → Shared → Prop} {s : Shared} {h₀ : Heap} {L a : Addr} {m : Str → Option Value} {news : List (Addr × Obj)} {cn : Str} {cs : Scope} {ccd : Value} {cl : List (Str × Addr)} {x : Str} {v z : UInt64} {t : Tok} {Q : Flow → Shared → Prop}
theorem clamp_lo {p1 p2 p3 p4 p5 p6 p7 : Pos} {j k : Nat} (F : Fr h₀ L s.heap m) (N : News h₀ L s.heap news) (hv : m x = some (.float v t)) (ht : t ≠ 0)
    (h : ∀ h' tk t', t' ≠ 0 → Fr h₀ L h' (fun y => if y = x then some (.float (if (Float64.cmp v z == some .lt) = true then z else v) t') else m y) → News h₀ L h' news → Q .next { s with heap := h', toks := tk })
    (hk : cs.kind = .function := by rfl) (hx : (envX cn cs L a ccd cl).kindOf x = some .local := by rfl) (hd : (x == ("__debug__" : Str)) = false := by decide) :
    wpAny (model prog w) A (exec (.If (.Compare (.Name x p1) [.Lt] [.Constant (.float z) j p2] p3) [.Assign [.Name x p4] (.Constant (.float z) k p5) p6] [] p7) (envX cn cs L a ccd cl)) Q E s := by
  refine wpAny_If (wpAny_isTrue_Compare1 (nameX_L F hv (AutoFloatOps.wpAny_Constant_float (AutoFloatOps.lt_0 (wpAny_truthy_bool ?_))) hk hx hd))
  cases hc : (Float64.cmp v z == some Ordering.lt) with
  | true =>
    refine wpAny_execs_cons (wpAny_Assign_Name (AutoFloatOps.wpAny_Constant_float (storeX_L (F := F) (N := N) (fun h' F' N' => ?_) hk hx)))
    refine wpAny_execs_nil ?_
    rw [hc, if_pos rfl] at h
    exact h _ _ _ (Nat.succ_ne_zero _) F' N'
  | false =>
    refine wpAny_execs_nil ?_
    rw [hc, if_neg (by decide)] at h
    exact h _ _ t ht (fr_put F hv) N
theorem clamp_hi {p1 p2 p3 p4 p5 p6 p7 : Pos} {j k : Nat} (F : Fr h₀ L s.heap m) (N : News h₀ L s.heap news) (hv : m x = some (.float v t)) (ht : t ≠ 0)
    (h : ∀ h' tk t', t' ≠ 0 → Fr h₀ L h' (fun y => if y = x then some (.float (if (Float64.cmp v z == some .gt) = true then z else v) t') else m y) → News h₀ L h' news → Q .next { s with heap := h', toks := tk })
    (hk : cs.kind = .function := by rfl) (hx : (envX cn cs L a ccd cl).kindOf x = some .local := by rfl) (hd : (x == ("__debug__" : Str)) = false := by decide) :
    wpAny (model prog w) A (exec (.If (.Compare (.Name x p1) [.Gt] [.Constant (.float z) j p2] p3) [.Assign [.Name x p4] (.Constant (.float z) k p5) p6] [] p7) (envX cn cs L a ccd cl)) Q E s := by
  refine wpAny_If (wpAny_isTrue_Compare1 (nameX_L F hv (AutoFloatOps.wpAny_Constant_float (AutoFloatOps.gt_0 (wpAny_truthy_bool ?_))) hk hx hd))
  cases hc : (Float64.cmp v z == some Ordering.gt) with
  | true =>
    refine wpAny_execs_cons (wpAny_Assign_Name (AutoFloatOps.wpAny_Constant_float (storeX_L (F := F) (N := N) (fun h' F' N' => ?_) hk hx)))
    refine wpAny_execs_nil ?_
    rw [hc, if_pos rfl] at h
    exact h _ _ _ (Nat.succ_ne_zero _) F' N'
  | false =>
    refine wpAny_execs_nil ?_
    rw [hc, if_neg (by decide)] at h
    exact h _ _ t ht (fr_put F hv) N
end
def cutLo (v : UInt64) : UInt64 := if (Float64.cmp v 0 == some .lt) = true then 0 else v
def cutHi (v : UInt64) : UInt64 := if (Float64.cmp v 4607182418800017408 == some .gt) = true then 4607182418800017408 else v
def yiqR (y : UInt64) (i q : Int) : UInt64 := cutHi (cutLo (Float64.add (Float64.add y (Float64.mul 4606703976345377586 (Float64.ofInt i))) (Float64.mul 4603791717925830846 (Float64.ofInt q))))
def yiqG (y : UInt64) (i q : Int) : UInt64 := cutHi (cutLo (Float64.sub (Float64.sub y (Float64.mul 4598621754083818298 (Float64.ofInt i))) (Float64.mul 4603901015759978483 (Float64.ofInt q))))
def yiqB (y : UInt64) (i q : Int) : UInt64 := cutHi (cutLo (Float64.add (Float64.sub y (Float64.mul 4607671262177584182 (Float64.ofInt i))) (Float64.mul 4610375502138591871 (Float64.ofInt q))))
def cYiq : Con (UInt64 × Int × Int) where
  pre := fun d news vs => (∃ t t1 t2, vs = [.float d.1 t, .int d.2.1 t1, .int d.2.2 t2]) ∧ -8 ≤ d.2.1 ∧ d.2.1 ≤ 8 ∧ -8 ≤ d.2.2 ∧ d.2.2 ≤ 8
  cost := fun _ => 1
  post := fun d news r news' => ∃ a t1 t2 t3, (t1 ≠ 0 ∧ t2 ≠ 0 ∧ t3 ≠ 0) ∧ r = .ref a ∧ news' = (a, ({ cls := .type "tuple", data := .seq #[.float (yiqR d.1 d.2.1 d.2.2) t1, .float (yiqG d.1 d.2.1 d.2.2) t2, .float (yiqB d.1 d.2.1 d.2.2) t3] } : Obj)) :: news
local macro_rules | `(tactic| walk_at "exec If") => `(tactic| (k_here; (with_reducible show wpAny _ _ (exec (Stmt.If (Expr.Compare _ [CmpOp.Lt] _ _) _ _ _) _) _ _ _); k_dflt (refine' clamp_lo ?k1 ?k2 ?k3 ?kt ?_; (case k1 | k2 => k_asm); (case k3 => exact rfl); (case kt => first | assumption | exact Nat.succ_ne_zero _); intro h9 tk9 t9 ht9 F9 N9; (try dsimp only))))
local macro_rules | `(tactic| walk_at "exec If") => `(tactic| (k_here; (with_reducible show wpAny _ _ (exec (Stmt.If (Expr.Compare _ [CmpOp.Gt] _ _) _ _ _) _) _ _ _); k_dflt (refine' clamp_hi ?k1 ?k2 ?k3 ?kt ?_; (case k1 | k2 => k_asm); (case k3 => exact rfl); (case kt => first | assumption | exact Nat.succ_ne_zero _); intro h9 tk9 t9 ht9 F9 N9; (try dsimp only))))
set_option maxRecDepth 100000 in
set_option maxHeartbeats 8000000 in
theorem yiq_ok (w : World) (mean : ExcName → Option Value) (mg mb : Str → Option Value) (d) : Sat w mean mg mb 21 cYiq d := by
  unfold Sat
  w_top off
  k_fill
  intro dp un gd cn cs a ccd cl outer A₀ base h₀ L m news s vs Q E B F X N T hk hpre hd hu hret
  obtain ⟨y, i, q⟩ := d
  obtain ⟨⟨t, t1, t2, rfl⟩, h0, h1, h2, h3⟩ := hpre
  simp only [cYiq] at hd hu h0 h1 h2 h3
  refine wpAny_call ?_
  k_dflt ktr_enter
  refine wpAny_noRaise ?_
  k_steps

  exact hret _ _ _ _ (by k_asm) (by k_asm) ⟨_, _, _, _, ⟨by assumption, by assumption, by assumption⟩, rfl, rfl⟩
end Mine
end
section
open PySem PySem.W PySem.Calls PySem.Spec PyProof.Rows
set_option Elab.async false
set_option linter.unusedVariables false
namespace Mine
theorem yiq_use {w : World} {mean : ExcName → Option Value} {mg mb : Str → Option Value} {dp un : Nat} {gd : Option (List Code)} {cn : Str} {cs : Scope} {a : Addr} {ccd : Value} {cl : List (Str × Addr)} {outer : List Env} {A₀ : Around} {base h₀ : Heap} {L : Addr} {m : Str → Option Value} {news : List (Addr × Obj)} {s : Shared} {y : UInt64} {i q : Int} {t t1 t2 : Tok}
    {Q E : Value → Shared → Prop} (B : Below A₀ base outer h₀) (F : Fr h₀ L s.heap m) (X : (Mine.hd.heap_39 w.params).In h₀) (N : News h₀ L s.heap news) (T : Top Mine.hd.view_39 (looseW Mine.hd.view_39 []) mean mg mb h₀) (hk : cs.kind = .function)
    (h0 : -8 ≤ i) (h1 : i ≤ 8) (h2 : -8 ≤ q) (h3 : q ≤ 8)
    (hd : dp + 1 < recursionLimit) (hu : un + 8 * 1 < cLine)
    (ret : ∀ a t1 t2 t3 h' tk', (t1 ≠ 0 ∧ t2 ≠ 0 ∧ t3 ≠ 0) → Fr h₀ L h' m → News h₀ L h' ((a, ({ cls := .type "tuple", data := .seq #[.float (yiqR y i q) t1, .float (yiqG y i q) t2, .float (yiqB y i q) t3] } : Obj)) :: news) → Q (.ref a) { s with heap := h', toks := tk' }) :
    wpAny (model PySem.Challenge.rw_tr0014_01.row.prog w) (ktrTop dp un gd cn cs L a ccd cl outer) (call (.ref 21) [.float y t, .int i t1, .int q t2]) Q E s := by
  refine sat_use (yiq_ok w mean mg mb (y, i, q)) B F X N T hk ⟨⟨_, _, _, rfl⟩, h0, h1, h2, h3⟩ hd hu ?_
  rintro r news' h' tk' F' N' ⟨a, t1, t2, t3, ht, rfl, rfl⟩
  exact ret _ _ _ _ _ _ ht F' N'
def sigOf (n : Int) : Int := (n.fdiv 4).fmod 7
def yOf (n : Int) : UInt64 := Float64.ofFrac (decide (n.fdiv 28 < 0) != decide ((16 : Int) < 0)) (n.fdiv 28).natAbs (Int.natAbs 16)
def iOf (n : Int) : Int := [0, 8, 8, 0, -8, -8, 0].getD (sigOf n).toNat 0
def qOf (n : Int) : Int := [0, 0, -8, -8, 0, 8, 8].getD (sigOf n).toNat 0
def paintR (n : Int) : UInt64 := yiqR (yOf n) (iOf n) (qOf n)
def paintG (n : Int) : UInt64 := yiqG (yOf n) (iOf n) (qOf n)
def paintB (n : Int) : UInt64 := yiqB (yOf n) (iOf n) (qOf n)
theorem fin16 (k : Int) (h0 : 0 ≤ k) (h1 : k < 16) : Float64.isInf (Float64.ofFrac (decide (k < 0) != decide ((16 : Int) < 0)) k.natAbs (Int.natAbs 16)) = false := by
  have all : ∀ j : Fin 16, Float64.isInf (Float64.ofFrac (decide (((j.val : Nat) : Int) < 0) != decide ((16 : Int) < 0)) ((j.val : Nat) : Int).natAbs (Int.natAbs 16)) = false := by decide +kernel
  have := all ⟨k.toNat, by omega⟩
  have e : ((k.toNat : Nat) : Int) = k := by omega
  simp only [e] at this
  exact this
theorem sel7 (k : Int) (h0 : 0 ≤ k) (h1 : k < 7) : (-8 ≤ [(0 : Int), 8, 8, 0, -8, -8, 0].getD k.toNat 0 ∧ [(0 : Int), 8, 8, 0, -8, -8, 0].getD k.toNat 0 ≤ 8) ∧ (-8 ≤ [(0 : Int), 0, -8, -8, 0, 8, 8].getD k.toNat 0 ∧ [(0 : Int), 0, -8, -8, 0, 8, 8].getD k.toNat 0 ≤ 8) := by
  have all : ∀ j : Fin 7, (-8 ≤ [(0 : Int), 8, 8, 0, -8, -8, 0].getD j.val 0 ∧ [(0 : Int), 8, 8, 0, -8, -8, 0].getD j.val 0 ≤ 8) ∧ (-8 ≤ [(0 : Int), 0, -8, -8, 0, 8, 8].getD j.val 0 ∧ [(0 : Int), 0, -8, -8, 0, 8, 8].getD j.val 0 ≤ 8) := by decide +kernel
  exact all ⟨k.toNat, by omega⟩
theorem lvl_bd {d : Int} (h0 : 0 ≤ d) (h1 : d < 448) : 0 ≤ d.fdiv 28 ∧ d.fdiv 28 < 16 := by
  rw [Int.fdiv_eq_ediv_of_nonneg _ (by decide)]; omega
theorem sig_bd (d : Int) : 0 ≤ (d.fdiv 4).fmod 7 ∧ (d.fdiv 4).fmod 7 < 7 := by
  rw [Int.fmod_eq_emod_of_nonneg _ (by decide)]; omega
def cPainted : Con Int where
  pre := fun d news vs => (∃ t, vs = [.int d t]) ∧ 0 ≤ d ∧ d < 448
  cost := fun _ => 3
  post := fun d news r news' => Grow news news' ∧ ∃ a t1 t2 t3 n, (t1 ≠ 0 ∧ t2 ≠ 0 ∧ t3 ≠ 0) ∧ r = .ref a ∧ (a, ({ cls := .type "tuple", data := .seq #[.float (paintR d) t1, .float (paintG d) t2, .float (paintB d) t3] n } : Obj)) ∈ news'
local macro_rules | `(tactic| walk_at "call ref") => `(tactic| (k_here; (with_reducible show wpAny _ _ (call (Value.ref 21) _ _) _ _ _); k_dflt (refine' yiq_use ?k1 ?k2 ?k3 ?k4 ?k5 ?kK ?kR1 ?kR2 ?kR3 ?kR4 ?kd ?ku ?_; (case k1 | k2 | k3 | k4 | k5 => k_asm); (case kK => first | exact rfl | assumption); (case kd => ktr_room); (case ku => ktr_units); rotate_right; intro a9 t9 u9 v9 h9 tk9 ht9 F9 N9; (try dsimp only); (try k_fold))))
set_option maxRecDepth 100000 in
set_option maxHeartbeats 8000000 in
theorem painted_ok (w : World) (mean : ExcName → Option Value) (mg mb : Str → Option Value) (d) : Sat w mean mg mb 70 cPainted d := by
  unfold Sat
  w_top off
  k_fill
  intro dp un gd cn cs a ccd cl outer A₀ base h₀ L m news s vs Q E B F X N T hk hpre hd hu hret
  obtain ⟨⟨t, rfl⟩, h0, h1⟩ := hpre
  simp only [cPainted] at hd hu
  refine wpAny_call ?_
  k_dflt ktr_enter
  refine wpAny_noRaise ?_
  have hl := lvl_bd h0 h1
  have hinf := fin16 _ hl.1 hl.2
  have hsel := sel7 _ (sig_bd d).1 (sig_bd d).2
  k_steps
  exact hret _ _ _ _ (by k_asm) (by k_asm) ⟨Grow.cons (Grow.cons (Grow.cons (Grow.refl _) rfl) rfl) rfl, _, _, _, _, _, by assumption, rfl, List.Mem.head _⟩
end Mine
end
section
open PySem PySem.W PySem.Calls PySem.Spec PyProof.Rows PySem.Flt
set_option Elab.async false
set_option linter.unusedVariables false
namespace Mine
def mx2 (a b : UInt64) : UInt64 := if (Float64.cmp a b == some .lt) = true then b else a
def mn2 (a b : UInt64) : UInt64 := if (Float64.cmp b a == some .lt) = true then b else a
section
variable {prog : Program} {w : World} {A : Around} {E : Value → Shared → Prop} {s : Shared} {x y z : UInt64} {t u r : Tok} {h₀ : Heap} {L : Addr} {m : Str → Option Value} {news : List (Addr × Obj)} {Q : Value → Shared → Prop}
theorem max_three_ff (hh : A.handled = none) (F : Fr h₀ L s.heap m) (N : News h₀ L s.heap news)
    (h : ∀ h' tk v, Fr h₀ L h' m → News h₀ L h' news → Q (.float (mx2 (mx2 x y) z) v) { s with heap := h', toks := tk }) :
    wpAny (model prog w) A (call (.builtin "max") [.float x t, .float y u, .float z r]) Q E s := by
  have hT : (s.heap.push { cls := .type "tuple", data := .seq #[.float x t, .float y u, .float z r] }).IsTuple s.heap.objs.size #[.float x t, .float y u, .float z r] := ⟨_, Heap.get?_push_size _ rfl, rfl, 0, rfl⟩
  refine call_max_three (wpAny_pyIter_tuple hT ?_)
  have hsz : (s.heap.push { cls := .type "tuple", data := .seq #[.float x t, .float y u, .float z r] }).objs.size = s.heap.objs.size + 1 := Heap.size_push ..
  refine ⟨_, [_, s.heap.objs.size], [_], _, _, _, _, rfl, Walks.tuple (A := A.in1) hh _ s.heap.objs.size (by rw [hsz]; exact Nat.ne_of_lt (Nat.lt_succ_self _)) #[.float x t, .float y u, .float z r],
    ⟨⟨_, Heap.get?_push_size _ rfl, rfl, rfl⟩, hT.push _⟩, fun d hd => ?_, by simp, cmpOf_gt #[.float x t, .float y u, .float z r] (by simp [NumV.float]), fun v h' tk hP hk => ?_⟩
  · show d < ((s.heap.push _).push _).objs.size
    rw [Heap.size_push, hsz]
    rcases List.mem_cons.mp hd with rfl | hd
    · rw [hsz]; exact Nat.lt_succ_self _
    · rcases List.mem_cons.mp hd with rfl | hd
      · exact Nat.lt_succ_of_lt (Nat.lt_succ_self _)
      · cases hd
  · have hold : ∀ d o, s.heap.get? d = some o → h'.get? d = some o := fun d o e => by
      refine hk d o (fun hm => ?_) (Heap.get?_push_of_some _ (Heap.get?_push_of_some _ e))
      rcases List.mem_cons.mp hm with e1 | hm
      · have := Heap.lt_size e; rw [e1, hsz] at this; exact Nat.lt_irrefl _ (Nat.lt_of_succ_lt this)
      · cases hm
    have hv : ∃ q, v = .float (mx2 (mx2 x y) z) q := by
      unfold mx2
      cases h1 : (Float64.cmp x y == some Ordering.lt) <;> cases h2 : (Float64.cmp x z == some Ordering.lt) <;> cases h3 : (Float64.cmp y z == some Ordering.lt) <;>
        simp [argBest, ltV, h1, h2, h3] at hP <;> simp [h1, h2, h3, ← hP]
    obtain ⟨q, rfl⟩ := hv
    exact h h' tk q (F.grownK hold) (N.grown hold)
theorem min_three_ff (hh : A.handled = none) (F : Fr h₀ L s.heap m) (N : News h₀ L s.heap news)
    (h : ∀ h' tk v, Fr h₀ L h' m → News h₀ L h' news → Q (.float (mn2 (mn2 x y) z) v) { s with heap := h', toks := tk }) :
    wpAny (model prog w) A (call (.builtin "min") [.float x t, .float y u, .float z r]) Q E s := by
  have hT : (s.heap.push { cls := .type "tuple", data := .seq #[.float x t, .float y u, .float z r] }).IsTuple s.heap.objs.size #[.float x t, .float y u, .float z r] := ⟨_, Heap.get?_push_size _ rfl, rfl, 0, rfl⟩
  refine call_min_three (wpAny_pyIter_tuple hT ?_)
  have hsz : (s.heap.push { cls := .type "tuple", data := .seq #[.float x t, .float y u, .float z r] }).objs.size = s.heap.objs.size + 1 := Heap.size_push ..
  refine ⟨_, [_, s.heap.objs.size], [_], _, _, _, _, rfl, Walks.tuple (A := A.in1) hh _ s.heap.objs.size (by rw [hsz]; exact Nat.ne_of_lt (Nat.lt_succ_self _)) #[.float x t, .float y u, .float z r],
    ⟨⟨_, Heap.get?_push_size _ rfl, rfl, rfl⟩, hT.push _⟩, fun d hd => ?_, by simp, cmpOf_lt #[.float x t, .float y u, .float z r] (by simp [NumV.float]), fun v h' tk hP hk => ?_⟩
  · show d < ((s.heap.push _).push _).objs.size
    rw [Heap.size_push, hsz]
    rcases List.mem_cons.mp hd with rfl | hd
    · rw [hsz]; exact Nat.lt_succ_self _
    · rcases List.mem_cons.mp hd with rfl | hd
      · exact Nat.lt_succ_of_lt (Nat.lt_succ_self _)
      · cases hd
  · have hold : ∀ d o, s.heap.get? d = some o → h'.get? d = some o := fun d o e => by
      refine hk d o (fun hm => ?_) (Heap.get?_push_of_some _ (Heap.get?_push_of_some _ e))
      rcases List.mem_cons.mp hm with e1 | hm
      · have := Heap.lt_size e; rw [e1, hsz] at this; exact Nat.lt_irrefl _ (Nat.lt_of_succ_lt this)
      · cases hm
    have hv : ∃ q, v = .float (mn2 (mn2 x y) z) q := by
      unfold mn2
      cases h1 : (Float64.cmp y x == some Ordering.lt) <;> cases h2 : (Float64.cmp z x == some Ordering.lt) <;> cases h3 : (Float64.cmp z y == some Ordering.lt) <;>
        simp [argBest, ltV, h1, h2, h3] at hP <;> simp [h1, h2, h3, ← hP]
    obtain ⟨q, rfl⟩ := hv
    exact h h' tk q (F.grownK hold) (N.grown hold)
end
def grayB (r g b : UInt64) : Bool := Float64.cmp (mn2 (mn2 r g) b) (mx2 (mx2 r g) b) == some .eq
def lowB (r g b : UInt64) : Bool := Float64.cmp (Float64.div (Float64.add (mx2 (mx2 r g) b) (mn2 (mn2 r g) b)) 4611686018427387904) 4602678819172646912 == some Ordering.lt || Float64.cmp (Float64.div (Float64.add (mx2 (mx2 r g) b) (mn2 (mn2 r g) b)) 4611686018427387904) 4602678819172646912 == some Ordering.eq
def okB (r g b : UInt64) : Bool := grayB r g b || (lowB r g b && !Float64.isZero (Float64.add (mx2 (mx2 r g) b) (mn2 (mn2 r g) b)) && !Float64.isZero (Float64.sub (mx2 (mx2 r g) b) (mn2 (mn2 r g) b)))
def partOf (r g b c : UInt64) : UInt64 := Float64.div (Float64.sub (mx2 (mx2 r g) b) c) (Float64.sub (mx2 (mx2 r g) b) (mn2 (mn2 r g) b))
def hueOf (r g b : UInt64) : UInt64 := if grayB r g b = true then 0 else
  if (Float64.cmp r (mx2 (mx2 r g) b) == some .eq) = true then (Float64.divmod (Float64.div (Float64.sub (partOf r g b b) (partOf r g b g)) 4618441417868443648) 4607182418800017408).snd
  else if (Float64.cmp g (mx2 (mx2 r g) b) == some .eq) = true then (Float64.divmod (Float64.div (Float64.sub (Float64.add 4611686018427387904 (partOf r g b r)) (partOf r g b b)) 4618441417868443648) 4607182418800017408).snd
  else (Float64.divmod (Float64.div (Float64.sub (Float64.add 4616189618054758400 (partOf r g b g)) (partOf r g b r)) 4618441417868443648) 4607182418800017408).snd
def lightOf (r g b : UInt64) : UInt64 := Float64.div (Float64.add (mx2 (mx2 r g) b) (mn2 (mn2 r g) b)) 4611686018427387904
def fullOf (r g b : UInt64) : UInt64 := if grayB r g b = true then 0 else Float64.div (Float64.sub (mx2 (mx2 r g) b) (mn2 (mn2 r g) b)) (Float64.add (mx2 (mx2 r g) b) (mn2 (mn2 r g) b))
def cHls : Con (UInt64 × UInt64 × UInt64) where
  pre := fun d news vs => (∃ t t1 t2, vs = [.float d.1 t, .float d.2.1 t1, .float d.2.2 t2]) ∧ okB d.1 d.2.1 d.2.2 = true
  cost := fun _ => 1
  post := fun d news r news' => Grow news news' ∧ ∃ a t1 t2 t3 n, r = .ref a ∧ (a, ({ cls := .type "tuple", data := .seq #[.float (hueOf d.1 d.2.1 d.2.2) t1, .float (lightOf d.1 d.2.1 d.2.2) t2, .float (fullOf d.1 d.2.1 d.2.2) t3] n } : Obj)) ∈ news'
theorem hls_end {d : UInt64 × UInt64 × UInt64} {news led : List (Addr × Obj)} {a : Addr} {x y z : UInt64} {t1 t2 t3 : Tok} {n : Nat} (G : Grow news led) (hm : (a, ({ cls := .type "tuple", data := .seq #[.float x t1, .float y t2, .float z t3] n } : Obj)) ∈ led)
    (h1 : hueOf d.1 d.2.1 d.2.2 = x) (h2 : lightOf d.1 d.2.1 d.2.2 = y) (h3 : fullOf d.1 d.2.1 d.2.2 = z) : cHls.post d news (.ref a) led := by
  subst h1; subst h2; subst h3
  exact ⟨G, _, _, _, _, _, rfl, hm⟩
local macro_rules | `(tactic| walk_at "call builtin:max") => `(tactic| (k_here; (with_reducible show wpAny _ _ (call _ [Value.float _ _, Value.float _ _, Value.float _ _]) _ _ _); k_dflt (refine' max_three_ff ?k1 ?k2 ?k3 ?_; (case k1 => exact rfl); (case k2 | k3 => k_asm); intro h9 tk9 v9 F9 N9; (try dsimp only))))
local macro_rules | `(tactic| walk_at "call builtin:min") => `(tactic| (k_here; (with_reducible show wpAny _ _ (call _ [Value.float _ _, Value.float _ _, Value.float _ _]) _ _ _); k_dflt (refine' min_three_ff ?k1 ?k2 ?k3 ?_; (case k1 => exact rfl); (case k2 | k3 => k_asm); intro h9 tk9 v9 F9 N9; (try dsimp only))))
local macro_rules | `(tactic| walk_at "ite") => `(tactic| (k_here; first | refine ite_pos (by with_reducible assumption) ?_ | refine ite_neg (by with_reducible assumption) ?_))
set_option maxRecDepth 100000 in
set_option maxHeartbeats 8000000 in
theorem hls_ok (w : World) (mean : ExcName → Option Value) (mg mb : Str → Option Value) (d) : Sat w mean mg mb 28 cHls d := by
  unfold Sat
  w_top off
  k_fill
  intro dp un gd cn cs a ccd cl outer A₀ base h₀ L m news s vs Q E B F X N T hk hpre hd hu hret
  obtain ⟨r, g, b⟩ := d
  obtain ⟨⟨t, t1, t2, rfl⟩, hok⟩ := hpre
  simp only [cHls] at hd hu
  dsimp only at hok
  dsimp only
  by_cases hg : (Float64.cmp (mn2 (mn2 r g) b) (mx2 (mx2 r g) b) == some Ordering.eq) = true
  · refine wpAny_call ?_
    k_dflt ktr_enter
    refine wpAny_noRaise ?_
    k_steps
    exact hret _ _ _ _ (by k_asm) (by k_asm) (hls_end (Grow.cons (Grow.refl _) rfl) (List.Mem.head _) (if_pos hg) rfl (if_pos hg))
  · have hg' : grayB r g b = false := Bool.eq_false_iff.mpr hg
    simp only [okB, hg', Bool.false_or, Bool.and_eq_true, Bool.not_eq_true'] at hok
    obtain ⟨⟨hl, hz1⟩, hz2⟩ := hok
    unfold lowB at hl
    refine wpAny_call ?_
    k_dflt ktr_enter
    refine wpAny_noRaise ?_
    k_steps
    · refine hret _ _ _ _ (by k_asm) (by k_asm) (hls_end (Grow.cons (Grow.refl _) rfl) (List.Mem.head _) ?_ rfl (if_neg hg))
      unfold hueOf; rw [if_neg (by rw [hg']; decide), if_pos (by assumption)]; rfl
    · refine hret _ _ _ _ (by k_asm) (by k_asm) (hls_end (Grow.cons (Grow.refl _) rfl) (List.Mem.head _) ?_ rfl (if_neg hg))
      unfold hueOf; rw [if_neg (by rw [hg']; decide), if_neg (Bool.eq_false_iff.mp (by assumption)), if_pos (by assumption)]; rfl
    · refine hret _ _ _ _ (by k_asm) (by k_asm) (hls_end (Grow.cons (Grow.refl _) rfl) (List.Mem.head _) ?_ rfl (if_neg hg))
      unfold hueOf; rw [if_neg (by rw [hg']; decide), if_neg (Bool.eq_false_iff.mp (by assumption)), if_neg (Bool.eq_false_iff.mp (by assumption))]; rfl
end Mine
end
section
open PySem PySem.W PySem.Calls PySem.Spec PyProof.Rows
set_option Elab.async false
set_option linter.unusedVariables false
namespace Mine
inductive OptV : Value → Option Str → Prop
  | none : OptV .none .none
  | some {x : Str} {t : Tok} : OptV (.str x t) (.some x)
def locOf : Option Str × Option Str → Str
  | (l, e) => match e with
    | .none => l.getD (Str.ofString "C")
    | .some e => (l.getD (Str.ofString "C") ++ Str.ofString ".") ++ e
def cLoc : Con (Option Str × Option Str) where
  pre := fun d news vs => (∃ a v1 v2 n, vs = [.ref a] ∧ (a, ({ cls := .type "tuple", data := .seq #[v1, v2] n } : Obj)) ∈ news ∧ OptV v1 d.1 ∧ OptV v2 d.2) ∧ (d.1 = none ∨ d.2 = none) ∧ (∀ x, d.2 = some x → x.length ≤ 10)
  cost := fun _ => 1
  post := fun d news r news' => Grow news news' ∧ ∃ t, r = .str (locOf d) t
local macro_rules | `(tactic| k_mem) => `(tactic| first | exact List.Mem.head _ | with_reducible assumption | (refine' List.mem_cons_of_mem _ ?_; k_mem))
set_option maxRecDepth 100000 in
set_option maxHeartbeats 8000000 in
theorem loc_ok (w : World) (mean : ExcName → Option Value) (mg mb : Str → Option Value) (d) : Sat w mean mg mb 49 cLoc d := by
  unfold Sat
  w_top off
  k_fill
  intro dp un gd cn cs a ccd cl outer A₀ base h₀ L m news s vs Q E B F X N T hk hpre hd hu hret
  obtain ⟨d1, d2⟩ := d
  obtain ⟨⟨a9, v1, v2, n, rfl, hm, R1, R2⟩, hl1, hl2⟩ := hpre
  simp only [cLoc] at hd hu
  dsimp only at R1 R2 hl1 hl2
  cases R1
  · cases R2
    · refine wpAny_call ?_
      k_dflt ktr_enter
      refine wpAny_noRaise ?_
      k_steps
      exact hret _ _ _ _ (by k_asm) (by k_asm) ⟨Grow.refl _, _, rfl⟩
    · have hl3 := hl2 _ rfl
      refine wpAny_call ?_
      k_dflt ktr_enter
      refine wpAny_noRaise ?_
      k_steps
      exact hret _ _ _ _ (by k_asm) (by k_asm) ⟨Grow.refl _, _, rfl⟩
  · cases R2
    · refine wpAny_call ?_
      k_dflt ktr_enter
      refine wpAny_noRaise ?_
      k_steps
      exact hret _ _ _ _ (by k_asm) (by k_asm) ⟨Grow.refl _, _, rfl⟩
    · exact absurd hl1 (by simp)
end Mine
end
section
open PySem PySem.W PySem.Calls PySem.Spec PyProof.Rows
set_option Elab.async false
set_option linter.unusedVariables false
namespace Mine
theorem hls_use {w : World} {mean : ExcName → Option Value} {mg mb : Str → Option Value} {dp un : Nat} {gd : Option (List Code)} {cn : Str} {cs : Scope} {a : Addr} {ccd : Value} {cl : List (Str × Addr)} {outer : List Env} {A₀ : Around} {base h₀ : Heap} {L : Addr} {m : Str → Option Value} {news : List (Addr × Obj)} {s : Shared} {r g b : UInt64} {t t1 t2 : Tok}
    {Q E : Value → Shared → Prop} (B : Below A₀ base outer h₀) (F : Fr h₀ L s.heap m) (X : (Mine.hd.heap_39 w.params).In h₀) (N : News h₀ L s.heap news) (T : Top Mine.hd.view_39 (looseW Mine.hd.view_39 []) mean mg mb h₀) (hk : cs.kind = .function)
    (hok : okB r g b = true)
    (hd : dp + 1 < recursionLimit) (hu : un + 8 * 1 < cLine)
    (ret : ∀ a t1 t2 t3 n h' tk' news', Fr h₀ L h' m → News h₀ L h' news' → Grow news news' → (a, ({ cls := .type "tuple", data := .seq #[.float (hueOf r g b) t1, .float (lightOf r g b) t2, .float (fullOf r g b) t3] n } : Obj)) ∈ news' → Q (.ref a) { s with heap := h', toks := tk' }) :
    wpAny (model PySem.Challenge.rw_tr0014_01.row.prog w) (ktrTop dp un gd cn cs L a ccd cl outer) (call (.ref 28) [.float r t, .float g t1, .float b t2]) Q E s := by
  refine sat_use (hls_ok w mean mg mb (r, g, b)) B F X N T hk ⟨⟨_, _, _, rfl⟩, hok⟩ hd hu ?_
  rintro r' news' h' tk' F' N' ⟨G, a, t1, t2, t3, n, rfl, hm⟩
  exact ret _ _ _ _ _ _ _ _ F' N' G hm
theorem loc_use {w : World} {mean : ExcName → Option Value} {mg mb : Str → Option Value} {dp un : Nat} {gd : Option (List Code)} {cn : Str} {cs : Scope} {a : Addr} {ccd : Value} {cl : List (Str × Addr)} {outer : List Env} {A₀ : Around} {base h₀ : Heap} {L : Addr} {m : Str → Option Value} {news : List (Addr × Obj)} {s : Shared} {a9 : Addr} {v1 v2 : Value} {n : Nat} {d1 d2 : Option Str}
    {Q E : Value → Shared → Prop} (B : Below A₀ base outer h₀) (F : Fr h₀ L s.heap m) (X : (Mine.hd.heap_39 w.params).In h₀) (N : News h₀ L s.heap news) (T : Top Mine.hd.view_39 (looseW Mine.hd.view_39 []) mean mg mb h₀) (hk : cs.kind = .function)
    (hm : (a9, ({ cls := .type "tuple", data := .seq #[v1, v2] n } : Obj)) ∈ news) (R1 : OptV v1 d1) (R2 : OptV v2 d2) (h1 : d1 = none ∨ d2 = none) (h2 : ∀ x, d2 = some x → x.length ≤ 10)
    (hd : dp + 1 < recursionLimit) (hu : un + 8 * 1 < cLine)
    (ret : ∀ t h' tk' news', Fr h₀ L h' m → News h₀ L h' news' → Grow news news' → Q (.str (locOf (d1, d2)) t) { s with heap := h', toks := tk' }) :
    wpAny (model PySem.Challenge.rw_tr0014_01.row.prog w) (ktrTop dp un gd cn cs L a ccd cl outer) (call (.ref 49) [.ref a9]) Q E s := by
  refine sat_use (loc_ok w mean mg mb (d1, d2)) B F X N T hk ⟨⟨_, _, _, _, rfl, hm, R1, R2⟩, h1, h2⟩ hd hu ?_
  rintro r' news' h' tk' F' N' ⟨G, t, rfl⟩
  exact ret _ _ _ _ F' N' G
def hueF (r g b : UInt64) : UInt64 := Float64.add (Float64.mul (Float64.ofInt 6) (hueOf r g b)) 4602678819172646912
def lightF (r g b : UInt64) : UInt64 := Float64.mul (Float64.ofInt 16) (lightOf r g b)
def hueI (r g b : UInt64) : Int := 97 + PySem.Flt.toInt Float64.truncOf (hueF r g b)
def lightI (r g b : UInt64) : Int := 96 + PySem.Flt.toInt Float64.truncOf (lightF r g b)
def namedB (r g b : UInt64) : Bool := okB r g b && !Float64.isNaN (hueF r g b) && !Float64.isInf (hueF r g b) && !Float64.isNaN (lightF r g b) && !Float64.isInf (lightF r g b) && decide (0 ≤ hueI r g b) && decide (hueI r g b ≤ 1000) && decide (0 ≤ lightI r g b) && decide (lightI r g b ≤ 1000)
def namedOf (r g b : UInt64) : Str := if (Float64.cmpInt (fullOf r g b) 0 == some .gt) = true then locOf (some ⟨#[(hueI r g b).toNat]⟩, none) else if (Float64.cmpInt (lightOf r g b) 0 == some .gt) = true then locOf (none, some ⟨#[(lightI r g b).toNat]⟩) else locOf (none, none)
def cNamed : Con (UInt64 × UInt64 × UInt64) where
  pre := fun d news vs => (∃ a t1 t2 t3 n, vs = [.ref a] ∧ (a, ({ cls := .type "tuple", data := .seq #[.float d.1 t1, .float d.2.1 t2, .float d.2.2 t3] n } : Obj)) ∈ news) ∧ namedB d.1 d.2.1 d.2.2 = true
  cost := fun _ => 3
  post := fun d news r news' => Grow news news' ∧ ∃ t, r = .str (namedOf d.1 d.2.1 d.2.2) t
theorem named_end {d : UInt64 × UInt64 × UInt64} {news led : List (Addr × Obj)} {x : Str} {t : Tok} (G : Grow news led) (h : namedOf d.1 d.2.1 d.2.2 = x) : cNamed.post d news (.str x t) led := ⟨G, t, by rw [h]⟩
theorem one_long {n : Nat} : ∀ x, some (⟨#[n]⟩ : Str) = some x → x.length ≤ 10 := by
  intro x e; cases e; exact (by decide : 1 ≤ 10)
theorem no_long : ∀ x, (none : Option Str) = some x → x.length ≤ 10 := by
  intro x e; cases e
local macro_rules | `(tactic| k_mem) => `(tactic| first | exact List.Mem.head _ | with_reducible assumption | (refine' List.mem_cons_of_mem _ ?_; k_mem) | (refine' Grow.up ?g ?_; (case g => with_reducible assumption); k_mem))
local macro_rules | `(tactic| walk_at "call ref") => `(tactic| (k_here; (with_reducible show wpAny _ _ (call (Value.ref 28) _ _) _ _ _); k_dflt (refine' hls_use ?k1 ?k2 ?k3 ?k4 ?k5 ?kK ?kR1 ?kd ?ku ?_; (case k1 | k2 | k3 | k4 | k5 => k_asm); (case kK => first | exact rfl | assumption); (case kR1 => assumption); (case kd => ktr_room); (case ku => ktr_units); intro a9 t9 u9 v9 n9 h9 tk9 nw9 F9 N9 G9 m9; (try dsimp only); (try k_fold))))
local macro_rules | `(tactic| walk_at "call ref") => `(tactic| (k_here; (with_reducible show wpAny _ _ (call (Value.ref 49) _ _) _ _ _); k_dflt (refine' loc_use ?k1 ?k2 ?k3 ?k4 ?k5 ?kK ?kR1 ?kR2 ?kR3 ?kR4 ?kR5 ?kd ?ku ?_; (case k1 | k2 | k3 | k4 | k5 => k_asm); (case kK => first | exact rfl | assumption); (case kR1 => k_mem); (case kR2 | kR3 => first | exact OptV.none | exact OptV.some); (case kR4 => first | exact Or.inl rfl | exact Or.inr rfl); (case kd => ktr_room); (case ku => ktr_units); (case kR5 => first | exact no_long | exact one_long); intro t9 h9 tk9 nw9 F9 N9 G9; (try dsimp only); (try k_fold))))
set_option maxRecDepth 100000 in
set_option maxHeartbeats 8000000 in
theorem named_ok (w : World) (mean : ExcName → Option Value) (mg mb : Str → Option Value) (d) : Sat w mean mg mb 77 cNamed d := by
  unfold Sat
  w_top off
  k_fill
  intro dp un gd cn cs a ccd cl outer A₀ base h₀ L m news s vs Q E B F X N T hk hpre hd hu hret
  obtain ⟨r, g, b⟩ := d
  obtain ⟨⟨a9, t1, t2, t3, n, rfl, hm⟩, hok⟩ := hpre
  simp only [cNamed] at hd hu
  dsimp only at hm hok
  simp only [namedB, Bool.and_eq_true, Bool.not_eq_true', decide_eq_true_eq] at hok
  obtain ⟨⟨⟨⟨⟨⟨⟨⟨hok, c1⟩, c2⟩, c3⟩, c4⟩, c5⟩, c6⟩, c7⟩, c8⟩ := hok
  unfold hueF at c1 c2
  unfold lightF at c3 c4
  unfold hueI hueF at c5 c6
  unfold lightI lightF at c7 c8
  refine wpAny_call ?_
  k_dflt ktr_enter
  refine wpAny_noRaise ?_
  k_steps
  · refine hret _ _ _ _ (by k_asm) (by k_asm) (named_end (Grow.trans (by assumption) (Grow.trans (Grow.cons (Grow.refl _) rfl) (by assumption))) ?_)
    unfold namedOf; rw [if_pos (by assumption)]; rfl
  · refine hret _ _ _ _ (by k_asm) (by k_asm) (named_end (Grow.trans (by assumption) (Grow.trans (Grow.cons (Grow.refl _) rfl) (by assumption))) ?_)
    unfold namedOf; rw [if_neg (Bool.eq_false_iff.mp (by assumption)), if_pos (by assumption)]; rfl
  · refine hret _ _ _ _ (by k_asm) (by k_asm) (named_end (Grow.trans (by assumption) (Grow.trans (Grow.cons (Grow.refl _) rfl) (by assumption))) ?_)
    unfold namedOf; rw [if_neg (Bool.eq_false_iff.mp (by assumption)), if_neg (Bool.eq_false_iff.mp (by assumption))]
end Mine
end
section
open PySem PySem.W PySem.Calls PySem.Spec PyProof.Rows
set_option Elab.async false
set_option linter.unusedVariables false
namespace Mine
section
variable {prog : Program} {w : World} {A : Around} {E : Value → Shared → Prop} {s : Shared} {h₀ : Heap} {m : Str → Option Value} {env : Env}
abbrev tupOf (its : Array Value) (n : Nat) : Obj := { cls := .type "tuple", data := .seq its n }
def ElemEnd (h₀ : Heap) (L : Addr) (m : Str → Option Value) (old : List (Addr × Obj)) (s : Shared) (R : Value → Prop) (y : Value) (s' : Shared) : Prop :=
  ∃ h' tk led, s' = { s with heap := h', toks := tk } ∧ Fr h₀ L h' m ∧ News h₀ L h' led ∧ (∀ p ∈ old, p ∈ led) ∧ R y
theorem ElemEnd.go {h₀ h' : Heap} {L : Addr} {m : Str → Option Value} {old led : List (Addr × Obj)} {s : Shared} {R : Value → Prop} {y : Value} {tk : Nat} (F : Fr h₀ L h' m) (N : News h₀ L h' led) (hs : ∀ p ∈ old, p ∈ led) (r : R y) :
    ElemEnd h₀ L m old s R y { s with heap := h', toks := tk } := ⟨h', tk, led, rfl, F, N, hs, r⟩
def TupSrc (prog : Program) (w : World) (A : Around) (h₀ : Heap) (m : Str → Option Value) (env : Env) (elt : PySem.Expr) (x y : Str) (scope : Scope) (cl : List (Str × Addr)) (R : Nat → Value → Prop) (Q : Flow → Shared → Prop) (xv : Value) (s₁ : Shared) : Prop :=
  ∃ ax its nn news, xv = .ref ax ∧ A.handled = none ∧ Fr h₀ env.locals s₁.heap m ∧ News h₀ env.locals s₁.heap news ∧ (ax, tupOf its nn) ∈ news ∧ its.size ≤ sizeLine ∧
    (∀ i v I oI C oC D ys m₂ h tk E', its[i]? = some v → LCg.NsObj oC m₂ → m₂ x = some v → Fr h₀ env.locals h m → News h₀ env.locals h ((I, oI) :: (C, oC) :: (D, LCg.lst ys) :: news) →
      wpAny (model prog w) A (eval elt (compEnvC scope cl C env)) (ElemEnd h₀ env.locals m ((I, oI) :: (C, oC) :: (D, LCg.lst ys) :: news) { s₁ with heap := h, toks := tk } (R i)) E' { s₁ with heap := h, toks := tk }) ∧
    (∀ ys D h tk, ys.length = its.size → (∀ i v, ys[i]? = some v → R i v) → Fr h₀ env.locals h (fun z => if z = y then some (.ref D) else m z) → News h₀ env.locals h ((D, LCg.lst ys) :: news) → Q .next { s₁ with heap := h, toks := tk })
theorem comp_rest {elt : PySem.Expr} {x y : Str} {scope : Scope} {cl : List (Str × Addr)} {R : Nat → Value → Prop} {Q : Flow → Shared → Prop} {its : Array Value} {ax : Addr} {nn : Nat} {news : List (Addr × Obj)} {s₁ : Shared} {hp : Heap} (hm : (ax, tupOf its nn) ∈ news)
    (elem : ∀ i v I oI C oC D ys m₂ h tk E', its[i]? = some v → LCg.NsObj oC m₂ → m₂ x = some v → Fr h₀ env.locals h m → News h₀ env.locals h ((I, oI) :: (C, oC) :: (D, LCg.lst ys) :: news) →
      wpAny (model prog w) A (eval elt (compEnvC scope cl C env)) (ElemEnd h₀ env.locals m ((I, oI) :: (C, oC) :: (D, LCg.lst ys) :: news) { s₁ with heap := h, toks := tk } (R i)) E' { s₁ with heap := h, toks := tk })
    (fin : ∀ ys D h tk, ys.length = its.size → (∀ i v, ys[i]? = some v → R i v) → Fr h₀ env.locals h (fun z => if z = y then some (.ref D) else m z) → News h₀ env.locals h ((D, LCg.lst ys) :: news) → Q .next { s₁ with heap := h, toks := tk }) :
    ∀ k i ys, i + k = its.size → ys.length = i → (∀ j v, ys[j]? = some v → R j v) → LCg.CompRest prog w A h₀ env.locals m env elt x scope cl { s₁ with heap := hp } (fun nw => (ax, tupOf its nn) ∈ nw) (fun i v => its[i]? = some v) (LCg.FinA h₀ env.locals m { s₁ with heap := hp } y Q) k i ys news := by
  intro k
  induction k with
  | zero =>
    intro i ys hi hl hR
    exact LCg.CompRest.zero fun D h tk F N _ => fin ys D h tk (by omega) hR F N
  | succ k ih =>
    intro i ys hi hl hR
    refine LCg.CompRest.succ fun v I oI C oC D m₂ h tk E' hv hC hx F N off ne => ?_
    refine wpAny_mono (elem i v I oI C oC D ys m₂ h tk E' hv hC hx F N) (fun y' s' he => ?_) fun _ _ e => e
    obtain ⟨h', tk', led, rfl, F', N', hsub, r⟩ := he
    refine LCg.CompEnd.intro F' N' news hsub off hm (ih (i + 1) (ys ++ [y']) (by omega) (by rw [List.length_append, hl]; rfl) fun j u hj => ?_)
    rcases Nat.lt_trichotomy j ys.length with h | h | h
    · exact hR j u (by rwa [List.getElem?_append_left h] at hj)
    · subst h; simp at hj; subst hj; rw [hl]; exact r
    · have hnone : (ys ++ [y'])[j]? = none := List.getElem?_eq_none (by rw [List.length_append, List.length_singleton]; omega)
      rw [hnone] at hj; cases hj
theorem tup_st {L ax I : Addr} {its : Array Value} {nn : Nat} : ∀ i (h h' : Heap) (o : Obj) (nw : List (Addr × Obj)), (h.IsTupleIter I ax i ∧ h.IsTuple ax its) → h.get? I = some o → h'.get? I = some o → (∀ b o, h₀.get? b = some o → h'.get? b = some o) → News h₀ L h' nw → (ax, tupOf its nn) ∈ nw → (h'.IsTupleIter I ax i ∧ h'.IsTuple ax its) :=
  fun i h h' o nw st e e' k N S => ⟨by obtain ⟨o', q, r⟩ := st.1; rw [e] at q; cases q; exact ⟨o, e', r⟩, ⟨_, (N _ S).1, rfl, _, rfl⟩⟩
theorem comp_tup {elt iter : PySem.Expr} {x y : Str} {px py : Pos} {scope : Scope} {cl : List (Str × Addr)} {pos spos : Pos} {R : Nat → Value → Prop} {Q : Flow → Shared → Prop} (F₀ : Fr h₀ env.locals s.heap m)
    (hsw : swapsWith (.ListComp elt [⟨.Name x px, iter, [], 0⟩] scope pos) (some (.Name y py)) spos.line env = pure true)
    (hclos : closureFor scope env = pure cl) (hcell : ∀ z ∈ scope.names, z.2 ≠ .cell) (hkind : scope.kind = .function)
    (hnames : ∀ z ∈ scope.names, z.2 = .local → scope.names.lookup z.1 = some .local) (hx : scope.names.lookup x = some .local)
    (hy : env.kindOf y = some .local) (hp : (env.scope.kind == .class || (env.scope.kind == .module && env.locals != env.globals)) = false)
    (h : wpAny (model prog w) A (eval iter env) (TupSrc prog w A h₀ m env elt x y scope cl R Q) E s)
    (hs : ∀ x, foldedSetIterable iter env x = pure x) :
    wpAny (model prog w) A (exec (.Assign [.Name y py] (.ListComp elt [⟨.Name x px, iter, [], 0⟩] scope pos) spos) env) Q E s := by
  rw [exec_Assign_Name_used _ _ _ _ hsw]
  refine wpAny_bind (wpAny_standAt (wpAny_bind ?_))
  show wpAny _ A (do let _ ← comprehension (.ListComp elt [⟨.Name x px, iter, [], 0⟩] scope pos) scope env _ (newList []) false (eval iter env) (some (assign (.Name y py) env))) _ _ s
  refine wpAny_bind (wpAny_mono (wpAny_comprehension_free (use := some (assign (.Name y py) env)) (Q := fun _ s' => Q .next s') rfl hs hclos hkind hnames
    (wpAny_mono h (fun xv s₁ h₁ => ?_) fun _ _ e => e)) (fun _ s' hq => wpAny_pure (wpAny_pure hq)) fun _ _ e => e)
  obtain ⟨ax, its, nn, news, rfl, hh, F, N, hm, hsz, elem, fin⟩ := h₁
  have hT : s₁.heap.IsTuple ax its := ⟨_, (N _ hm).1, rfl, _, rfl⟩
  have hlt : ax < s₁.heap.objs.size := Heap.lt_size (N _ hm).1
  refine wpAny_pyIter_tuple hT ?_
  have up : ∀ b o, s₁.heap.get? b = some o → (s₁.heap.push { cls := .type "tuple_iterator", data := .fields #[.ref ax, .int 0 0] }).get? b = some o := fun b o e => Heap.get?_push_of_some _ e
  refine LCg.block_U (S := fun nw => (ax, tupOf its nn) ∈ nw) (Walks.tuple hh s₁.heap.objs.size ax (Nat.ne_of_lt hlt) its) hsz (fun i h st => by obtain ⟨o, e, _⟩ := st.1; exact ⟨o, e⟩) tup_st hcell hkind hx ⟨⟨_, Heap.get?_push_size _ rfl, rfl, rfl⟩, hT.push _⟩ (fun b hb => ?_)
    (F.keeps up) (N.grown up) (Nat.ne_of_lt F.ns.lt) (next_is_new F) (fun p hp => Nat.ne_of_lt (Heap.lt_size (N p hp).1)) hm (comp_rest hm elem fin its.size 0 [] (Nat.zero_add _) rfl (fun j v hj => by simp at hj)) ?_
  · show b < (s₁.heap.push _).objs.size
    rw [Heap.size_push]
    rcases List.mem_cons.mp hb with rfl | hb
    · exact Nat.lt_succ_self _
    · rw [List.mem_singleton.mp hb]; exact Nat.lt_succ_of_lt hlt
  · intro D C h' tk m' ys news' F' N' o1 hn hC₀ hD₀ hCL hDL hCD offC fin
    show wpAny _ A (assign (.Name y py) env (.ref D)) _ _ _
    refine wpAny_assign_Name (wpAny_storeName_local hy F'.ns (fun h₂ hn₂ hs₂ => ?_) hp)
    have hL₀ : h₀.get? env.locals = none := Heap.get?_none_of_le F'.above
    have F₂ : Fr h₀ env.locals h₂ (fun z => if z = y then some (.ref D) else m z) := ⟨hn₂, fun b o e => hs₂.extBut b o (fun q => by rw [q, hL₀] at e; cases e) (F'.keep b o e), F'.above⟩
    refine ⟨m', hn.sameBut hs₂ hCL, fun h'' hs'' => fin D h'' _ (F₂.change hs'' hCL hC₀) (fun p hp => ?_) o1⟩
    have z : h₂.get? p.1 = some p.2 := hs₂.extBut _ _ (N' p hp).2.1 (N' p hp).1
    refine ⟨hs''.extBut _ _ ?_ z, (N' p hp).2⟩
    rcases List.mem_cons.mp hp with rfl | hp
    · exact Ne.symm hCD
    · exact offC p hp
end
def dueF (d mid : Int) : UInt64 := if ([0, 1, 5].any fun x => x == (sigOf d - 1 - mid).fmod 6) = true then 4607182418800017408 else 0
theorem dueF_t {d mid : Int} {t : Tok} (ht : t ≠ 0) (h : ([0, 1, 5].any fun x => x == (sigOf d - 1 - mid).fmod 6) = true) : ∃ t', t' ≠ 0 ∧ Value.float 4607182418800017408 t = .float (dueF d mid) t' := ⟨t, ht, by unfold dueF; rw [if_pos h]⟩
theorem dueF_f {d mid : Int} {t : Tok} (ht : t ≠ 0) (h : ([0, 1, 5].any fun x => x == (sigOf d - 1 - mid).fmod 6) = false) : ∃ t', t' ≠ 0 ∧ Value.float 0 t = .float (dueF d mid) t' := ⟨t, ht, by unfold dueF; rw [if_neg (Bool.eq_false_iff.mp h)]⟩
def dueX (d mid : Int) : UInt64 := if sigOf d = 0 then yOf d else dueF d mid
theorem dueP_end {d : Int} {news led : List (Addr × Obj)} {a : Addr} {x y z : UInt64} {t1 t2 t3 : Tok} {n : Nat} (G : Grow news led) (hm : (a, ({ cls := .type "tuple", data := .seq #[.float x t1, .float y t2, .float z t3] n } : Obj)) ∈ led)
    (ht : t1 ≠ 0 ∧ t2 ≠ 0 ∧ t3 ≠ 0) (h1 : dueX d 0 = x) (h2 : dueX d 2 = y) (h3 : dueX d 4 = z) : Grow news led ∧ ∃ a' t1 t2 t3 n, (t1 ≠ 0 ∧ t2 ≠ 0 ∧ t3 ≠ 0) ∧ Value.ref a = .ref a' ∧ (a', ({ cls := .type "tuple", data := .seq #[.float (dueX d 0) t1, .float (dueX d 2) t2, .float (dueX d 4) t3] n } : Obj)) ∈ led := by
  subst h1; subst h2; subst h3
  exact ⟨G, _, _, _, _, _, ht, rfl, hm⟩
def cDueP : Con Int where
  pre := fun d news vs => (∃ t, vs = [.int d t]) ∧ 0 ≤ d ∧ d < 448
  cost := fun _ => 3
  post := fun d news r news' => Grow news news' ∧ ∃ a t1 t2 t3 n, (t1 ≠ 0 ∧ t2 ≠ 0 ∧ t3 ≠ 0) ∧ r = .ref a ∧ (a, ({ cls := .type "tuple", data := .seq #[.float (dueX d 0) t1, .float (dueX d 2) t2, .float (dueX d 4) t3] n } : Obj)) ∈ news'
theorem mids {i : Nat} {v : Value} {t1 t2 t3 : Tok} (h : (#[Value.int 0 t1, Value.int 2 t2, Value.int 4 t3] : Array Value)[i]? = some v) : ∃ t, v = .int (2 * i) t := by
  match i with
  | 0 => simp at h; exact ⟨t1, by simp [← h]⟩
  | 1 => simp at h; exact ⟨t2, by simp [← h]⟩
  | 2 => simp at h; exact ⟨t3, by simp [← h]⟩
  | i + 3 => simp at h
theorem three {ys : List Value} {d : Int} (hl : ys.length = 3) (h : ∀ (i : Nat) v, ys[i]? = some v → ∃ t, t ≠ 0 ∧ v = .float (dueF d (2 * i)) t) : ∃ t1 t2 t3, (t1 ≠ 0 ∧ t2 ≠ 0 ∧ t3 ≠ 0) ∧ ys = [.float (dueF d 0) t1, .float (dueF d 2) t2, .float (dueF d 4) t3] := by
  match ys, hl with
  | [a, b, c], _ =>
    obtain ⟨t1, n1, e1⟩ := h 0 a rfl
    obtain ⟨t2, n2, e2⟩ := h 1 b rfl
    obtain ⟨t3, n3, e3⟩ := h 2 c rfl
    exact ⟨t1, t2, t3, ⟨n1, n2, n3⟩, by rw [e1, e2, e3]; rfl⟩
local macro_rules | `(tactic| walk_at "exec Assign cons ListComp") => `(tactic| (k_here; refine hold_intro ?_))
theorem k_all_news {l : List (Addr × Obj)} {L' : Addr} (h : ∀ p ∈ l, p.1 < L') : ∀ p ∈ l, p.1 ≠ L' + 1 := fun p hp => Nat.ne_of_lt (Nat.lt_succ_of_lt (h p hp))
local macro_rules | `(tactic| k_all) => `(tactic| exact k_all_news (by assumption))
set_option maxRecDepth 100000 in
set_option maxHeartbeats 8000000 in
theorem dueP_ok (w : World) (mean : ExcName → Option Value) (mg mb : Str → Option Value) (d) : Sat w mean mg mb 82 cDueP d := by
  unfold Sat
  w_top off
  k_fill
  intro dp un gd cn cs a ccd cl outer A₀ base h₀ L m news s vs Q E B F X N T hk hpre hd hu hret
  obtain ⟨⟨t, rfl⟩, h0, h1⟩ := hpre
  simp only [cDueP] at hd hu
  have hl := lvl_bd h0 h1
  have hs := sig_bd d
  have hinf := fin16 _ hl.1 hl.2
  refine wpAny_call ?_
  k_dflt (refine' code_defC ?k1 ?k2 ?k3 ?k4 ?k5 ?kA ?kF ?kK ?k6 ?k7 ?k8 ?k9 ?kB ?kD ?_ ?c2 ?c3 ?c4; (case kA => exact rfl); (case kF => exact rfl); (case kK => assumption); (case k1 => k_asm); (case k2 => k_asm); (case k3 => k_asm); (case k4 => k_asm); (case k5 => k_asm); (case k6 => k_is); (case k7 => k_is); (case k8 => ktr_room); (case k9 => exact BindsTo.of_eq rfl); (case kB => exact rfl); (case kD => decide +kernel); (case c2 => exact rfl); (case c3 => exact rfl); (case c4 => exact rfl); k_whole; intro g' L' h' tk' cells' FG' F' N' Y' B' X' T' l1; (try k_lt l1); k_cells Y'; (try simp only [List.cons_append, List.nil_append] at N'); (try dsimp only); (try k_fold))
  refine wpAny_noRaise ?_
  k_steps
  · refine hret _ _ _ _ (by k_asm) (by k_asm) (dueP_end (Grow.any (Grow.any (Grow.refl _))) (List.Mem.head _) ⟨Nat.succ_ne_zero _, Nat.succ_ne_zero _, Nat.succ_ne_zero _⟩ (if_pos (by assumption)) (if_pos (by assumption)) (if_pos (by assumption)))
  · refine comp_tup (R := fun i y => ∃ t, t ≠ 0 ∧ y = .float (dueF d (2 * i)) t) (by k_asm) (by with_unfolding_all rfl) (by with_unfolding_all rfl) (by decide) (by rfl) (by decide) (by rfl) (by rfl) (by rfl) ?_ (by intro _; rfl)
    k_steps
    refine ⟨_, _, _, _, rfl, rfl, by k_asm, by k_asm, List.Mem.head _, (by show 3 ≤ sizeLine; decide), ?_, ?_⟩
    · intro i v I oI C oC D ys m₂ h tk E' hP hC hx F N
      obtain ⟨t9, rfl⟩ := mids hP
      k_steps
      · refine ElemEnd.go (by k_asm) (by k_asm) (fun p hp => List.mem_cons_of_mem _ hp) (dueF_t (Nat.succ_ne_zero _) (by assumption))
      · refine ElemEnd.go (by k_asm) (by k_asm) (fun p hp => List.mem_cons_of_mem _ hp) (dueF_f (Nat.succ_ne_zero _) (by assumption))
    · intro ys D h tk hl hR F N
      obtain ⟨t1, t2, t3, ht3, rfl⟩ := three hl hR
      k_steps
      refine hret _ _ _ _ (by k_asm) (by k_asm) (dueP_end (Grow.any (Grow.any (Grow.any (Grow.any (Grow.refl _))))) (List.Mem.head _) ht3 (if_neg (by assumption)) (if_neg (by assumption)) (if_neg (by assumption)))
end Mine
end
section
open PySem PySem.W PySem.Calls PySem.Spec PyProof.Rows
set_option Elab.async false
set_option linter.unusedVariables false
namespace Mine
def dueName (n : Int) : Str := if 0 < sigOf n then Txt.item (Str.ofString "abcdef") (sigOf n - 1) else if n.fdiv 28 = 0 then Str.ofString "C" else Str.ofString "C." ++ Txt.item (Str.ofString "abcdefghijklmno") (n.fdiv 28 - 1)
def cDueN : Con Int where
  pre := fun d news vs => (∃ t, vs = [.int d t]) ∧ 0 ≤ d ∧ d < 448
  cost := fun _ => 1
  post := fun d news r news' => news' = news ∧ ∃ t, r = .str (dueName d) t
theorem dueN_end {d : Int} {news : List (Addr × Obj)} {x : Str} {t : Tok} (h : dueName d = x) : cDueN.post d news (.str x t) news := ⟨rfl, t, by rw [h]⟩
set_option maxRecDepth 100000 in
set_option maxHeartbeats 8000000 in
theorem dueN_ok (w : World) (mean : ExcName → Option Value) (mg mb : Str → Option Value) (d) : Sat w mean mg mb 89 cDueN d := by
  unfold Sat
  w_top off
  k_fill
  intro dp un gd cn cs a ccd cl outer A₀ base h₀ L m news s vs Q E B F X N T hk hpre hd hu hret
  obtain ⟨⟨t, rfl⟩, h0, h1⟩ := hpre
  simp only [cDueN] at hd hu
  have hl := lvl_bd h0 h1
  have hs := sig_bd d
  refine wpAny_call ?_
  k_dflt ktr_enter
  refine wpAny_noRaise ?_
  k_steps
  all_goals trace_state
  · refine hret _ _ _ _ (by k_asm) (by k_asm) (dueN_end ?_)
    unfold dueName sigOf; rw [if_pos (by assumption)]
  · refine hret _ _ _ _ (by k_asm) (by k_asm) (dueN_end ?_)
    unfold dueName sigOf; rw [if_neg (by omega), if_pos (by omega)]
  · refine hret _ _ _ _ (by k_asm) (by k_asm) (dueN_end ?_)
    unfold dueName sigOf; rw [if_neg (by omega), if_neg (by omega)]
end Mine
end
section
open PySem PySem.W PySem.Calls PySem.Spec PyProof.Rows
set_option Elab.async false
set_option linter.unusedVariables false
namespace Mine
theorem keep_map (it : Addr) (news : List (Addr × Obj)) (o' : Obj) : Keep it news (news.map fun p => if p.1 = it then (it, o') else p) := fun p hp he => List.mem_map.mpr ⟨p, hp, by rw [if_neg he]⟩
theorem mem_map_self {it : Addr} {news : List (Addr × Obj)} {oI : Obj} (o' : Obj) (h : (it, oI) ∈ news) : (it, o') ∈ (news.map fun p => if p.1 = it then (it, o') else p) := List.mem_map.mpr ⟨_, h, if_pos rfl⟩
theorem iter_data {l : Addr} {i : Nat} {o : Obj} (hd : o.data = .fields #[.ref l, .int i 0]) : (Obj.mapFields (·.setIfInBounds 1 (rawInt ((i : Int) + 1))) o).data = .fields #[.ref l, .int ((i + 1 : Nat) : Int) 0] := by
  rw [Obj.data_mapFields hd]; simp [rawInt]
section
variable {prog : Program} {w : World} {A : Around} {E : Value → Shared → Prop} {s : Shared} {h₀ : Heap} {L l it : Addr} {m : Str → Option Value} {news : List (Addr × Obj)} {oI : Obj} {vs : List Value} {n i : Nat} {x : Value} {Q : Value → Shared → Prop}
theorem iter_list (F : Fr h₀ L s.heap m) (N : News h₀ L s.heap news) (hl : (l, listOf vs.toArray n) ∈ news)
    (h : ∀ (I : Addr) h' oI, Fr h₀ L h' m → News h₀ L h' ((I, oI) :: news) → (∀ p ∈ news, p.1 < I) → IterO l 0 oI → Q (.ref I) { s with heap := h' }) :
    wpAny (model prog w) A (call (.builtin "iter") [.ref l]) Q E s := by
  have hls : s.heap.IsList l vs.toArray := ⟨_, (N _ hl).1, rfl, n, rfl⟩
  refine call_function_entry (by decide +kernel) (by decide +kernel) kdk_entry_iter (kdk_args_iter _) ?_
  unfold Builtin.«iter»
  refine wpAny_bind (m := someArgs "iter" 1 2 _) (wpAny_of_eq (a := [Value.ref l]) (by first | rfl | kernel_rfl!) ?_)
  show wpAny _ _ (pyIter (.ref l) >>= _) _ _ _
  refine wpAny_bind (wpAny_pyIter_list hls ?_)
  exact wpAny_pure ⟨_, rfl, h _ _ _ (F.push _) (N.push F _) (fun q hq => Heap.lt_size (N q hq).1) ⟨rfl, rfl⟩⟩
theorem next_item (F : Fr h₀ L s.heap m) (N : News h₀ L s.heap news) (hi : (it, oI) ∈ news) (hO : IterO l i oI) (hl : (l, listOf vs.toArray n) ∈ news) (hx : vs[i]? = some x)
    (h : ∀ h' o' news', Fr h₀ L h' m → News h₀ L h' news' → (it, o') ∈ news' → IterO l (i + 1) o' → Keep it news news' → ItKeep news news' → Q x { s with heap := h' }) :
    wpAny (model prog w) A (call (.builtin "next") [.ref it]) Q E s := by
  have hit : s.heap.IsListIter it l i := ⟨oI, (N _ hi).1, hO.1, hO.2⟩
  obtain ⟨o, ho, hc, hd⟩ := id hit
  have hol : s.heap.get? l = some (listOf vs.toArray n) := (N _ hl).1
  refine call_function_entry (by decide +kernel) (by decide +kernel) kdk_entry_next (kdk_args_next _) ?_
  unfold Builtin.«next»
  refine wpAny_bind (m := someArgs "next" 1 2 _) (wpAny_of_eq (a := [Value.ref it]) (by first | rfl | kernel_rfl!) ?_)
  dsimp only
  refine wpAny_bind (wpAny_specialOf (name := Str.ofString "__next__") hit.typeIs slot_listiter_next.lookup ?_)
  refine wpAny_ite_split (fun hab => absurd hab (by decide)) (fun _ => ?_)
  refine wpAny_bind (wpAny_callSpecial?_slot (name := Str.ofString "__next__") hit.typeIs slot_listiter_next
    (wpAny_call_entry slot_listiter_next hit.typeIs entry_listiter_next ?_ (args_listiter_next _)))
  show wpAny _ _ (field (.ref it) 0 >>= _) _ _ s
  refine wpAny_bind (wpAny_field ho hd (x := .ref l) rfl ?_)
  show wpAny _ _ (if (Value.ref l == Value.none) = true then _ else _) _ _ s
  rw [if_neg (show ¬ ((Value.ref l == Value.none) = true) from Bool.false_ne_true)]
  show wpAny _ _ (field (.ref it) 1 >>= _) _ _ s
  refine wpAny_bind (wpAny_field ho hd (x := .int i 0) rfl ?_)
  show wpAny _ _ (seqItems? (.ref l) >>= _) _ _ s
  refine wpAny_bind (wpAny_seqItems hol rfl ?_)
  simp only [Int.toNat_natCast]
  have hx' : vs.toArray[i]? = some x := by simpa using hx
  simp only [hx']
  refine wpAny_bind (wpAny_setField ho hd (by simp) (wpAny_pure ⟨x, rfl, wpAny_pure ⟨x, rfl, ?_⟩⟩))
  have ho' := Heap.get?_update_self (Obj.mapFields (·.setIfInBounds 1 (rawInt ((i : Int) + 1)))) ho (Obj.isFreed_of_fields (Obj.data_mapFields hd _))
  have hs : Heap.SameBut it s.heap (s.heap.update it (Obj.mapFields (·.setIfInBounds 1 (rawInt ((i : Int) + 1))))) := Heap.SameBut.update ..
  have kp := keep_map it news (Obj.mapFields (·.setIfInBounds 1 (rawInt ((i : Int) + 1))) o)
  exact h _ _ _ (F.change hs (N _ hi).2.1 (N _ hi).2.2) (N.update hi hs ho') (mem_map_self _ hi) ⟨(Obj.cls_mapFields ..).trans hc, iter_data hd⟩ kp (itKeep_of N hi hO.1 kp)
theorem next_end (hh : A.handled = none) (F : Fr h₀ L s.heap m) (N : News h₀ L s.heap news) (hi : (it, oI) ∈ news) (hO : IterO l i oI) (hl : (l, listOf vs.toArray n) ∈ news) (hx : vs[i]? = none)
    (h : ∀ h₁ h' e, Fr h₀ L h₁ m → News h₀ L h₁ (news.filter fun p => decide (p.1 ≠ it)) → Heap.MadeExc h₁ h' e "StopIteration" [] → E (.ref e) { s with heap := h' }) :
    wpAny (model prog w) A (call (.builtin "next") [.ref it]) Q E s := by
  have hit : s.heap.IsListIter it l i := ⟨oI, (N _ hi).1, hO.1, hO.2⟩
  obtain ⟨o, ho, hc, hd⟩ := id hit
  have hol : s.heap.get? l = some (listOf vs.toArray n) := (N _ hl).1
  refine call_function_entry (by decide +kernel) (by decide +kernel) kdk_entry_next (kdk_args_next _) ?_
  unfold Builtin.«next»
  refine wpAny_bind (m := someArgs "next" 1 2 _) (wpAny_of_eq (a := [Value.ref it]) (by first | rfl | kernel_rfl!) ?_)
  dsimp only
  refine wpAny_bind (wpAny_specialOf (name := Str.ofString "__next__") hit.typeIs slot_listiter_next.lookup ?_)
  refine wpAny_ite_split (fun hab => absurd hab (by decide)) (fun _ => ?_)
  refine wpAny_bind (wpAny_callSpecial?_slot (name := Str.ofString "__next__") hit.typeIs slot_listiter_next
    (wpAny_call_entry slot_listiter_next hit.typeIs entry_listiter_next ?_ (args_listiter_next _)))
  show wpAny _ _ (field (.ref it) 0 >>= _) _ _ s
  refine wpAny_bind (wpAny_field ho hd (x := .ref l) rfl ?_)
  show wpAny _ _ (if (Value.ref l == Value.none) = true then _ else _) _ _ s
  rw [if_neg (show ¬ ((Value.ref l == Value.none) = true) from Bool.false_ne_true)]
  show wpAny _ _ (field (.ref it) 1 >>= _) _ _ s
  refine wpAny_bind (wpAny_field ho hd (x := .int i 0) rfl ?_)
  show wpAny _ _ (seqItems? (.ref l) >>= _) _ _ s
  refine wpAny_bind (wpAny_seqItems hol rfl ?_)
  simp only [Int.toNat_natCast]
  have hx' : vs.toArray[i]? = none := by simpa using hx
  simp only [hx']
  refine wpAny_bind (wpAny_rule (wpAny_bind (wpAny_setField ho hd (by simp) ?_)))
  have hs : Heap.SameBut it s.heap (s.heap.update it (Obj.mapFields (·.setIfInBounds 0 .none))) := Heap.SameBut.update ..
  show wpAny _ _ (newExc (.type "StopIteration") [] >>= _) _ _ _
  refine wpAny_bind ?_
  simp only [newExc, newTuple]
  refine wpAny_bind (wpAny_newObj_type ?_ (by size_fits))
  refine wpAny_bind (m := firstArgMember _ _) (wpAny_of_eq (a := Value.none) (by first | rfl | (simp only [firstArgMember]; rfl)) ?_)
  refine wpAny_newObj_type ?_ (by size_fits)
  simp only [raiseNew]
  refine wpAny_bind (wpAny_handled ?_)
  rw [show A.in1.in1.handled = none from hh]
  refine wpAny_bind (wpAny_pure (wpAny_throw ?_))
  refine h (s.heap.update it (Obj.mapFields (·.setIfInBounds 0 .none))) _ _ (F.change hs (N _ hi).2.1 (N _ hi).2.2) (fun p hp => ?_) ?_
  · obtain ⟨hp1, hp2⟩ := List.mem_filter.mp hp
    have hne : p.1 ≠ it := of_decide_eq_true hp2
    exact ⟨(hs.2 p.1 hne).trans (N p hp1).1, (N p hp1).2⟩
  · refine ⟨fun b o hb => Heap.get?_push_of_some _ (Heap.get?_push_of_some _ hb), Heap.get?_none_of_le (by rw [Heap.size_push]; exact Nat.le_succ _), (s.heap.update it (Obj.mapFields (·.setIfInBounds 0 .none))).objs.size, Heap.get?_push_size _ rfl, Heap.get?_none_of_le (Nat.le_refl _), Heap.get?_push_of_some _ (Heap.get?_push_size _ rfl)⟩
end
end Mine
end
section
open PySem PySem.W PySem.Calls PySem.Spec PyProof.Rows
set_option Elab.async false
set_option linter.unusedVariables false
namespace Mine
structure VarD where
  r : Addr
  l : Addr
  i : Nat
  vs : List Value
  n : Nat
  num : Int
def VarAt (vs : List Value) (i : Nat) (num : Int) : Prop := if num < 64 then ∃ t, vs[i]? = some (.int num t) else ∃ t t', vs[i]? = some (.int (64 + num.fdiv 64) t) ∧ vs[i + 1]? = some (.int (num.fmod 64) t')
def wide (num : Int) : Nat := if num < 64 then 1 else 2
def cVar : Con VarD where
  pre := fun d news vs => vs = [.ref d.r] ∧ (∃ oI, (d.r, oI) ∈ news ∧ IterO d.l d.i oI) ∧ (d.l, listOf d.vs.toArray d.n) ∈ news ∧ 0 ≤ d.num ∧ d.num < 448 ∧ VarAt d.vs d.i d.num
  cost := fun _ => 2
  post := fun d news r news' => Keep d.r news news' ∧ ItKeep news news' ∧ (∃ o', (d.r, o') ∈ news' ∧ IterO d.l (d.i + wide d.num) o') ∧ ∃ t, r = .int d.num t
theorem and63 {k : Int} (h0 : 0 ≤ k) (h1 : k < 64) : Builtin.bitAnd k 63 = k ∧ Builtin.bitAnd k 64 = 0 := by
  have all : ∀ j : Fin 64, Builtin.bitAnd ((j.val : Nat) : Int) 63 = ((j.val : Nat) : Int) ∧ Builtin.bitAnd ((j.val : Nat) : Int) 64 = 0 := by decide +kernel
  have := all ⟨k.toNat, by omega⟩
  have e : ((k.toNat : Nat) : Int) = k := by omega
  simpa only [e] using this
theorem and64 {k : Int} (h0 : 0 ≤ k) (h1 : k < 64) : Builtin.bitAnd (64 + k) 63 = k ∧ Builtin.bitAnd (64 + k) 64 = 64 := by
  have all : ∀ j : Fin 64, Builtin.bitAnd (64 + ((j.val : Nat) : Int)) 63 = ((j.val : Nat) : Int) ∧ Builtin.bitAnd (64 + ((j.val : Nat) : Int)) 64 = 64 := by decide +kernel
  have := all ⟨k.toNat, by omega⟩
  have e : ((k.toNat : Nat) : Int) = k := by omega
  simpa only [e] using this
theorem or64 {k : Int} (h0 : 0 ≤ k) (h1 : k < 448) : Builtin.bitOr (k.fdiv 64 * 2 ^ Int.toNat 6) (Builtin.bitAnd (k.fmod 64) 63) = k := by
  have all : ∀ j : Fin 448, Builtin.bitOr (((j.val : Nat) : Int).fdiv 64 * 2 ^ Int.toNat 6) (Builtin.bitAnd (((j.val : Nat) : Int).fmod 64) 63) = ((j.val : Nat) : Int) := by decide +kernel
  have := all ⟨k.toNat, by omega⟩
  have e : ((k.toNat : Nat) : Int) = k := by omega
  simpa only [e] using this
theorem val_is {m : Str → Option Value} {k : Str} {x y : Int} {t : Tok} (e : x = y) (h : m k = some (.int x t)) : m k = some (.int y t) := e ▸ h
def JVar (d : VarD) (nw : List (Addr × Obj)) (n : Nat) (m : Str → Option Value) (news : List (Addr × Obj)) : Prop :=
  Keep d.r nw news ∧ ItKeep nw news ∧ (d.l, listOf d.vs.toArray d.n) ∈ news ∧ m "iterator" = some (.ref d.r) ∧
  ((n = 1 ∧ ¬ d.num < 64 ∧ (∃ oI, (d.r, oI) ∈ news ∧ IterO d.l (d.i + 1) oI) ∧ (∃ t, d.vs[d.i + 1]? = some (.int (d.num.fmod 64) t)) ∧ ∃ t t', m "b" = some (.int (64 + d.num.fdiv 64) t) ∧ m "val" = some (.int (d.num.fdiv 64) t')) ∨
   (n = 0 ∧ (∃ oI, (d.r, oI) ∈ news ∧ IterO d.l (d.i + wide d.num) oI) ∧ ∃ b t t', 0 ≤ b ∧ b < 64 ∧ m "b" = some (.int b t) ∧ m "val" = some (.int d.num t')))
local macro_rules | `(tactic| k_mem) => `(tactic| first | exact List.Mem.head _ | with_reducible assumption | (refine' List.mem_cons_of_mem _ ?_; k_mem) | (refine' Grow.up ?g ?_; (case g => with_reducible assumption); k_mem) | (refine' it_up ?g ?h ?n; (case g => with_reducible assumption); (case h => k_mem); (case n => (show Value.type _ ≠ Value.type _; decide))))
local macro_rules | `(tactic| walk_at "exec While") => `(tactic| (k_here; refine hold_intro ?_))
local macro_rules | `(tactic| walk_at "call builtin:next") => `(tactic| (k_here; (with_reducible show wpAny _ _ (call (Value.builtin "next") [Value.ref _]) _ _ _); k_dflt (refine' next_item ?k1 ?k2 ?k3 ?k4 ?k5 ?k6 ?_; (case k1 | k2 => k_asm); (case k3 | k4 => with_reducible assumption); (case k5 => k_mem); (case k6 => with_reducible assumption); intro h9 o9 nw9 F9 N9 m9 i9 kp9 ik9; (try dsimp only))))
set_option maxRecDepth 100000 in
set_option maxHeartbeats 8000000 in
theorem var_ok (w : World) (mean : ExcName → Option Value) (mg mb : Str → Option Value) (d) : Sat w mean mg mb 35 cVar d := by
  unfold Sat
  w_top off
  k_fill
  intro dp un gd cn cs a ccd cl outer A₀ base h₀ L m news s vs Q E B F X N T hk hpre hd hu hret
  obtain ⟨rfl, ⟨oI, h1, h2⟩, h3, h4, h5, h6⟩ := hpre
  simp only [cVar] at hd hu
  unfold VarAt at h6
  split at h6
  · obtain ⟨t, h6⟩ := h6
    have b1 := and63 h4 (by assumption)
    refine wpAny_call ?_
    k_dflt ktr_enter
    refine wpAny_noRaise ?_
    k_steps
    (rename Fr _ _ _ _ => F9)
    (rename News _ _ _ _ => N9)
    rw [b1.1] at F9
    refine While_inv2 (JVar d news) F9 N9 (n₀ := 0) ⟨by assumption, by assumption, by k_mem, rfl, .inr ⟨rfl, ⟨_, by assumption, ?_⟩, _, _, _, h4, by assumption, rfl, rfl⟩⟩ ?_ PassesOwn.never
    · unfold wide; rw [if_pos (by assumption)]; assumption
    · intro n m₁ news₁ h₁ tk₁ F₁ N₁ hJ
      obtain ⟨j1, j2, j3, j4, ⟨rfl, j5, _⟩ | ⟨rfl, ⟨oJ, j6, j7⟩, b, t1, t2, j10, j11, j8, j9⟩⟩ := hJ
      · exact absurd (by assumption) j5
      · have b2 := and63 j10 j11
        replace F₁ := fr_put3 F₁ j8 j9 j4
        k_steps
        · exfalso; omega
        · exact hret _ _ _ _ (by k_asm) (by k_asm) ⟨j1, j2, ⟨_, j6, j7⟩, _, rfl⟩
  · obtain ⟨t, t', h6, h7⟩ := h6
    have hq : 0 ≤ d.num.fdiv 64 ∧ d.num.fdiv 64 < 7 := by rw [Int.fdiv_eq_ediv_of_nonneg _ (by decide)]; omega
    have hr : 0 ≤ d.num.fmod 64 ∧ d.num.fmod 64 < 64 := by rw [Int.fmod_eq_emod_of_nonneg _ (by decide)]; omega
    have b1 := and64 (k := d.num.fdiv 64) (by omega) (by omega)
    refine wpAny_call ?_
    k_dflt ktr_enter
    refine wpAny_noRaise ?_
    k_steps
    (rename Fr _ _ _ _ => F9)
    (rename News _ _ _ _ => N9)
    rw [b1.1] at F9
    refine While_inv2 (JVar d news) F9 N9 (n₀ := 1) ⟨by assumption, by assumption, by k_mem, rfl, .inl ⟨rfl, by assumption, ⟨_, by assumption, by assumption⟩, ⟨_, h7⟩, _, _, rfl, rfl⟩⟩ ?_ PassesOwn.never
    · intro n m₁ news₁ h₁ tk₁ F₁ N₁ hJ
      obtain ⟨j1, j2, j3, j4, ⟨rfl, j5, ⟨oJ, j6, j7⟩, ⟨t3, j10⟩, t1, t2, j8, j9⟩ | ⟨rfl, ⟨oJ, j6, j7⟩, b, t1, t2, j10, j11, j8, j9⟩⟩ := hJ
      · replace F₁ := fr_put3 F₁ j8 j9 j4
        k_steps
        · refine whileStep2_go (by k_asm) (by k_asm) (Nat.zero_lt_one) ⟨?_, ?_, by k_mem, rfl, .inr ⟨rfl, ⟨_, by assumption, ?_⟩, _, _, _, hr.1, hr.2, rfl, val_is (or64 h4 h5) rfl⟩⟩
          · exact Keep.trans j1 (by assumption)
          · exact fun p hp hc => ItKeep.trans j2 (by assumption) p hp hc
          · unfold wide; rw [if_neg j5]; assumption
        · exfalso; omega
      · have b2 := and63 j10 j11
        replace F₁ := fr_put3 F₁ j8 j9 j4
        k_steps
        · exfalso; omega
        · exact hret _ _ _ _ (by k_asm) (by k_asm) ⟨j1, j2, ⟨_, j6, j7⟩, _, rfl⟩
end Mine
end
section
open PySem PySem.W PySem.Calls PySem.Spec PyProof.Rows
set_option Elab.async false
set_option linter.unusedVariables false
namespace Mine
def enc (k : Int) : List Int := if k < 64 then [k] else [64 + k.fdiv 64, k.fmod 64]
structure TapeD where
  l : Addr
  vs : List Value
  ns : List Int
  n : Nat
def cTape : Con TapeD where
  pre := fun d news vs => vs = [.ref d.l] ∧ (d.l, listOf d.vs.toArray d.n) ∈ news ∧ IntsAre d.vs d.ns ∧ d.ns.length = 12 ∧ (∀ k ∈ d.ns, 0 ≤ k ∧ k < 448)
  cost := fun _ => 2
  post := fun d news r news' => Grow news news' ∧ ∃ o vs' n', r = .ref o ∧ (o, listOf vs'.toArray n') ∈ news' ∧ IntsAre vs' (d.ns.flatMap enc) ∧ ∀ p ∈ news, p.1 < o
def JTape (d : TapeD) (nw : List (Addr × Obj)) (o : Addr) (I : Addr) (i : Nat) (m : Str → Option Value) (news : List (Addr × Obj)) : Prop :=
  ∃ vs' n', m "octets" = some (.ref o) ∧ (o, listOf vs'.toArray n') ∈ news ∧ IntsAre vs' ((d.ns.take i).flatMap enc) ∧ (d.l, listOf d.vs.toArray d.n) ∈ news ∧ (∀ p ∈ nw, p ∈ news) ∧ I ≠ o ∧ (∀ p ∈ nw, p.1 ≠ I) ∧ vs'.length ≤ 2 * i
theorem JTape.keep (d : TapeD) (nw : List (Addr × Obj)) (o : Addr) (hlo : d.l ≠ o) (I : Addr) (i : Nat) (m : Str → Option Value) (a b : List (Addr × Obj)) (k1 : Keep I a b) (k2 : ItKeep a b) (h : JTape d nw o I i m a) : JTape d nw o I i m b := by
  obtain ⟨vs', n', m1, ho, hi, hl, hs, q1, q2, hz⟩ := h
  exact ⟨vs', n', m1, k2 _ ho (by show Value.type "list" ≠ _; decide), hi, k2 _ hl (by show Value.type "list" ≠ _; decide), fun p hp => k1 p (hs p hp) (q2 p hp), q1, q2, hz⟩
theorem JTape.next {d : TapeD} {nw : List (Addr × Obj)} {o I : Addr} {i : Nat} {m : Str → Option Value} {news : List (Addr × Obj)} {vs' : List Value} {n' : Nat} {k : Int} (hk : d.ns[i]? = some k) (m1 : m "octets" = some (.ref o)) (ho : (o, listOf vs'.toArray n') ∈ news)
    (hi : IntsAre vs' ((d.ns.take i).flatMap enc ++ enc k)) (hl : (d.l, listOf d.vs.toArray d.n) ∈ news) (hs : ∀ p ∈ nw, p ∈ news) (q1 : I ≠ o) (q2 : ∀ p ∈ nw, p.1 ≠ I) (hz : vs'.length ≤ 2 * (i + 1)) : JTape d nw o I (i + 1) m news := by
  refine ⟨vs', n', m1, ho, ?_, hl, hs, q1, q2, hz⟩
  rw [List.take_add_one, hk, List.flatMap_append]
  simpa using hi
theorem fr_put1 {h₀ h : Heap} {L : Addr} {m : Str → Option Value} {x1 : Str} {v1 : Value} (F : Fr h₀ L h m) (e1 : m x1 = some v1) : Fr h₀ L h (fun y => if y = x1 then some v1 else m y) := fr_put F e1
-- one more line than the last walking text: the walk keeps its table of lines by their number
local macro_rules | `(tactic| walk_at "pad") => `(tactic| fail)
local macro_rules | `(tactic| k_mem) => `(tactic| first | exact List.Mem.head _ | with_reducible assumption | (refine' List.mem_cons_of_mem _ ?_; k_mem) | (refine' keep_up ?g ?_ ?n; (case g => with_reducible assumption); (case n => first | assumption | (apply Ne.symm; assumption)); k_mem))
local macro_rules | `(tactic| walk_at "call builtin:list.append") => `(tactic| (k_here; (with_reducible show wpAny _ _ (call (Value.builtin _) [Value.ref _, _]) _ _ _); k_dflt (refine' append_any ?k1 ?k2 ?k3 ?_ ?z; (case k1 | k2 => k_asm); (case k3 => first | with_reducible assumption | exact push_list (by with_reducible assumption)); (case z => (simp only [Array.size_push, List.size_toArray, List.length_append, List.length_singleton]; rw [sizeLine_eq]; omega)); k_whole); intro h9 news9 F9 N9 m9 k9 t9))
local macro_rules | `(tactic| walk_at "exec For Name Name cons nil") => `(tactic| (k_here; refine hold_intro ?_))
set_option maxRecDepth 100000 in
set_option maxHeartbeats 8000000 in
theorem tape_ok (w : World) (mean : ExcName → Option Value) (mg mb : Str → Option Value) (d) : Sat w mean mg mb 63 cTape d := by
  unfold Sat
  w_top off
  k_fill
  intro dp un gd cn cs a ccd cl outer A₀ base h₀ L m news s vs Q E B F X N T hk hpre hd hu hret
  obtain ⟨rfl, h0, h1, h2, h3⟩ := hpre
  simp only [cTape] at hd hu
  have hvl := h1.length
  refine wpAny_call ?_
  k_dflt ktr_enter
  refine wpAny_noRaise ?_
  k_steps
  refine wpAny_For ?_
  walk1
  (rename Fr _ _ _ _ => F9)
  (rename News _ _ _ _ => N9)
  (rename ∀ p ∈ news, _ => l1)
  have hlo := Nat.ne_of_lt (l1 _ h0)
  refine for_iter (JTape d news _) rfl F9 N9 (List.mem_cons_of_mem _ h0) ?_ (JTape.keep d news _ hlo) ?_ ?_ PassesOwn.never
  · intro I hI
    exact ⟨[], _, rfl, List.Mem.head _, .nil, List.mem_cons_of_mem _ h0, fun p hp => List.mem_cons_of_mem _ hp, Nat.ne_of_gt (hI _ (List.Mem.head _)), fun p hp => Nat.ne_of_lt (hI p (List.mem_cons_of_mem _ hp)), Nat.zero_le _⟩
  · intro I i v m news1 h tk oI hv hJ F N hl hI hO
    obtain ⟨vs', n', m1, ho, hi, hl', hs, q1, q2, hz⟩ := hJ
    obtain ⟨k, t, rfl, hk9⟩ := h1.at i v hv
    have hi9 : i < 12 := by have := (List.getElem?_eq_some_iff.mp hk9).1; omega
    obtain ⟨k0, k1⟩ := h3 k (List.mem_of_getElem? hk9)
    replace F := fr_put1 F m1
    k_steps
    · refine TurnEnd.go (by k_asm) (by k_asm) (by k_mem) (by k_mem) (by assumption) ?_
      refine JTape.next hk9 rfl (push_list2 (by assumption)) ?_ (by k_mem) (fun p hp => ?_) q1 q2 ?_
      · refine hi.append ?_
        unfold enc; rw [if_neg (by omega)]; exact .cons _ _ (.cons _ _ .nil)
      · have h8 := hs p hp; have h7 := Nat.ne_of_lt (l1 p hp); k_mem
      · simp only [List.length_append, List.length_cons, List.length_nil]; omega
    · refine TurnEnd.go (by k_asm) (by k_asm) (by k_mem) (by k_mem) (by assumption) ?_
      refine JTape.next hk9 rfl (push_list (by assumption)) ?_ (by k_mem) (fun p hp => ?_) q1 q2 ?_
      · refine hi.append ?_
        unfold enc; rw [if_pos (by omega), Int.fmod_eq_emod_of_nonneg _ (by decide), Int.emod_eq_of_lt k0 (by omega)]; exact .cons _ _ .nil
      · have h8 := hs p hp; have h7 := Nat.ne_of_lt (l1 p hp); k_mem
      · simp only [List.length_append, List.length_cons, List.length_nil]; omega
  · intro I m news1 h tk hJ F N
    obtain ⟨vs', n', m1, ho, hi, hl', hs, q1, q2, hz⟩ := hJ
    replace F := fr_put1 F m1
    k_steps
    refine hret _ _ _ _ (by k_asm) (by k_asm) ⟨⟨hs, trivial⟩, _, _, _, rfl, ho, ?_, l1⟩
    rwa [hvl, List.take_length] at hi
end Mine
end
section
open PySem PySem.W PySem.Calls PySem.Spec PyProof.Rows
set_option Elab.async false
set_option linter.unusedVariables false
namespace Mine
section
variable {prog : Program} {w : World} {A : Around} {E : Value → Shared → Prop} {s : Shared} {env : Env} {h₀ : Heap} {m : Str → Option Value} {news : List (Addr × Obj)}
theorem enum_at {xi xc : Str} {body : List Stmt} {Q : Flow → Shared → Prop} {l2 : Addr} {sl : List Value} {n2 : Nat} (J : Nat → (Str → Option Value) → List (Addr × Obj) → Prop) (hh : A.handled = none) (F : Fr h₀ env.locals s.heap m)
    (N : News h₀ env.locals s.heap ((l2, listOf sl.toArray n2) :: news)) (hl2 : ∀ p ∈ news, p.1 ≠ l2) (hJ : J 0 m news)
    (turn : ∀ i v t m₁ news₁ own h tk, sl[i]? = some v → J i m₁ news₁ → news₁.map (·.1) = news.map (·.1) → (∀ p ∈ own, ∀ q ∈ news₁, p.1 ≠ q.1) → Fr h₀ env.locals h (fun y => if y = xc then some v else if y = xi then some (.int (i : Nat) t) else m₁ y) → News h₀ env.locals h (own ++ news₁) →
      wpAny (model prog w) A (execs body env) (LoopStep3 h₀ env.locals own news₁ (J (i + 1)) { s with heap := h, toks := tk } (fun v s' => Q (.ret v) s') fun s' => Q .next s') E { s with heap := h, toks := tk })
    (done : ∀ h tk m' news', Fr h₀ env.locals h m' → News h₀ env.locals h news' → J sl.length m' news' → Q .next { s with heap := h, toks := tk }) :
    wpAny (model prog w) A (call (.type "enumerate") [.ref l2]) (fun xv s₁ => wpAny (model prog w) A (pyIter xv) (fun it s₂ => PairAt3 prog w A h₀ env xi xc body Q E it s₂) E s₁) E s := by
  have hN := N _ (List.Mem.head _)
  have hL : s.heap.IsList l2 sl.toArray := ⟨_, hN.1, rfl, _, rfl⟩
  have hlt : l2 < s.heap.objs.size := Heap.lt_size hN.1
  refine call_enumerate_list hL fun h' he hit hsz hk => wpAny_pyIter_enum he ?_
  have hLlt := F.ns.lt
  have hnlt : ∀ p ∈ news, p.1 < s.heap.objs.size := fun p hp => Heap.lt_size (N p (List.mem_cons_of_mem _ hp)).1
  refine ⟨s.heap.objs.size + 1, [s.heap.objs.size + 1, s.heap.objs.size, l2], [s.heap.objs.size + 1, s.heap.objs.size], sl.toArray.size, _, _, _, (fun i v0 v1 => ∃ t, v0 = .int (i : Nat) t ∧ sl[i]? = some v1), m, news, J, rfl,
    WalksT.enumerate hh _ _ l2 (Nat.succ_ne_self _) (Nat.ne_of_lt (Nat.lt_succ_of_lt hlt)) (Nat.ne_of_lt hlt) sl.toArray, ?_, ?_, ?_, ?_, ⟨⟨_, he⟩, hit, hL.at fun o e => hk _ _ e⟩, F.keeps hk, (fun p hp => ⟨hk _ _ (N p (List.mem_cons_of_mem _ hp)).1, (N p (List.mem_cons_of_mem _ hp)).2⟩), hJ, ?_, ?_⟩
  · rintro i vals ⟨t, x, hx, rfl⟩
    exact ⟨_, _, rfl, t, rfl, by simpa using hx⟩
  · intro hm
    rcases List.mem_cons.mp hm with e | hm
    · rw [e] at hLlt; exact absurd hLlt (Nat.not_lt.mpr (Nat.le_succ _))
    · rcases List.mem_cons.mp hm with e | hm
      · rw [e] at hLlt; exact Nat.lt_irrefl _ hLlt
      · exact hN.2.1 (List.mem_singleton.mp hm).symm
  · intro b hb
    have hle : s.heap.objs.size ≤ b := by
      rcases List.mem_cons.mp hb with rfl | hb
      · exact Nat.le_succ _
      · rw [List.mem_singleton.mp hb]; exact Nat.le_refl _
    exact Heap.get?_none_of_le (Nat.le_trans (Nat.le_trans F.above (Nat.le_of_lt hLlt)) hle)
  · intro p hp hb
    have h1 := hnlt p hp
    rcases List.mem_cons.mp hb with e | hb
    · rw [e] at h1; exact absurd h1 (Nat.not_lt.mpr (Nat.le_succ _))
    · rw [List.mem_singleton.mp hb] at h1; exact Nat.lt_irrefl _ h1
  · rintro i v0 v1 m₁ news₁ s₁ own ⟨h1, tk, rfl⟩ hi ⟨t, rfl, hx⟩ hJ' hmap hown F₁ N₁
    refine turn i v1 t m₁ news₁ own h1 tk hx hJ' hmap (fun p hp q hq e => ?_) F₁ N₁
    have hq' : q.1 ∈ news.map (·.1) := hmap ▸ List.mem_map.mpr ⟨q, hq, rfl⟩
    obtain ⟨q2, hq2, e2⟩ := List.mem_map.mp hq'
    have h3 : p.1 = q2.1 := e.trans e2.symm
    have h4 := hnlt q2 hq2
    rw [← h3] at h4
    have hp' := hown p hp
    rcases List.mem_cons.mp hp' with e | hb
    · rw [e] at h4; exact absurd h4 (Nat.not_lt.mpr (Nat.le_succ _))
    · rcases List.mem_cons.mp hb with e | hb
      · rw [e] at h4; exact Nat.lt_irrefl _ h4
      · exact hl2 q2 hq2 (h3 ▸ List.mem_singleton.mp hb)
  · intro h1 tk m' news' F₁ N₁ _ hJ'
    exact done h1 tk m' news' F₁ N₁ (by simpa using hJ')
end
theorem upd_app {d : Addr} {o o' : Obj} {r r' : List (Addr × Obj)} (u : Upd d o o' r r') : ∀ {own : List (Addr × Obj)}, (∀ p ∈ own, p.1 ≠ d) → Upd d o o' (own ++ r) (own ++ r')
  | [], _ => u
  | p :: own, h => Upd.tail (h p (.head _)) (upd_app u fun q hq => h q (.tail _ hq))
def SatD (w : World) (mean : ExcName → Option Value) (mg mb : Str → Option Value) (post : List (Addr × Obj) → Value → List (Addr × Obj) → List Int → Prop) : Prop :=
  ∀ (dp un : Nat) (gd : Option (List Code)) (cn : Str) (cs : Scope) (a : Addr) (ccd : Value) (cl : List (Str × Addr)) (outer : List Env) (A₀ : Around) (base h₀ : Heap) (L : Addr) (m : Str → Option Value) (news : List (Addr × Obj)) (s : Shared) (l : Addr) (vs : List Value) (ns : List Int)
    (Q E : Value → Shared → Prop),
    Below A₀ base outer h₀ → Fr h₀ L s.heap m → (Mine.hd.heap_39 w.params).In h₀ → News h₀ L s.heap news → Top Mine.hd.view_39 (looseW Mine.hd.view_39 []) mean mg mb h₀ → cs.kind = .function → h₀.IsList l vs.toArray → IntsAre vs ns → ns.length ≤ 63 → dp + 1 < recursionLimit → un + 8 * 1 < cLine →
    (∀ r news' h' tk', Fr h₀ L h' m → News h₀ L h' news' → post news r news' ns → Q r { s with heap := h', toks := tk' }) →
    wpAny (model PySem.Challenge.rw_tr0014_01.row.prog w) (ktrTop dp un gd cn cs L a ccd cl outer) (call (.ref 56) [.ref l]) Q E s
def JDrawn (D : Addr) (news : List (Addr × Obj)) (i : Nat) (m₁ : Str → Option Value) (news₁ : List (Addr × Obj)) : Prop :=
  ∃ vs' xs n', news₁ = (D, listOf vs'.toArray n') :: news ∧ IntsAre vs' xs ∧ xs.length = 12 ∧ (∀ k ∈ xs, 0 ≤ k ∧ k < 448) ∧ m₁ "drawn" = some (.ref D)
def postDrawn (news : List (Addr × Obj)) (r : Value) (news' : List (Addr × Obj)) (_ : List Int) : Prop := ∃ D vs' xs n', r = .ref D ∧ news' = (D, listOf vs'.toArray n') :: news ∧ IntsAre vs' xs ∧ xs.length = 12 ∧ (∀ k ∈ xs, 0 ≤ k ∧ k < 448) ∧ ∀ p ∈ news, p.1 < D
section
variable {prog : Program} {w : World} {A : Around} {E : Value → Shared → Prop} {s : Shared} {env : Env} {h₀ : Heap} {m : Str → Option Value} {news : List (Addr × Obj)}
theorem enum_drawn {xi xc : Str} {body : List Stmt} {Q : Flow → Shared → Prop} {l2 D : Addr} {sl vs0 : List Value} {n2 n0 : Nat} (hh : A.handled = none) (F : Fr h₀ env.locals s.heap m)
    (N : News h₀ env.locals s.heap ((l2, listOf sl.toArray n2) :: (D, listOf vs0.toArray n0) :: news)) (hl2 : ∀ p ∈ (D, listOf vs0.toArray n0) :: news, p.1 ≠ l2) (hJ : JDrawn D news 0 m ((D, listOf vs0.toArray n0) :: news))
    (turn : ∀ i v t (m₁ : Str → Option Value) vs' xs n' own h tk, sl[i]? = some v → IntsAre vs' xs → xs.length = 12 → (∀ k ∈ xs, 0 ≤ k ∧ k < 448) → (∀ p ∈ own, p.1 ≠ D) → Fr h₀ env.locals h (fun y => if y = xc then some v else if y = xi then some (.int (i : Nat) t) else if y = "drawn" then some (.ref D) else m₁ y) → News h₀ env.locals h (own ++ (D, listOf vs'.toArray n') :: news) →
      wpAny (model prog w) A (execs body env) (LoopStep3 h₀ env.locals own ((D, listOf vs'.toArray n') :: news) (JDrawn D news (i + 1)) { s with heap := h, toks := tk } (fun v s' => Q (.ret v) s') fun s' => Q .next s') E { s with heap := h, toks := tk })
    (done : ∀ h tk (m' : Str → Option Value) vs' xs n', Fr h₀ env.locals h (fun y => if y = "drawn" then some (.ref D) else m' y) → News h₀ env.locals h ((D, listOf vs'.toArray n') :: news) → IntsAre vs' xs → xs.length = 12 → (∀ k ∈ xs, 0 ≤ k ∧ k < 448) → Q .next { s with heap := h, toks := tk }) :
    wpAny (model prog w) A (call (.type "enumerate") [.ref l2]) (fun xv s₁ => wpAny (model prog w) A (pyIter xv) (fun it s₂ => PairAt3 prog w A h₀ env xi xc body Q E it s₂) E s₁) E s := by
  refine enum_at (JDrawn D news) hh F N hl2 hJ ?_ ?_
  · rintro i v t m₁ _ own h tk hv ⟨vs', xs, n', rfl, hi', hlen, hb, hm⟩ hmap hown F N
    refine turn i v t m₁ vs' xs n' own h tk hv hi' hlen hb (fun p hp => hown p hp _ (List.Mem.head _)) ?_ N
    have e : (fun y => if y = xc then some v else if y = xi then some (Value.int (i : Nat) t) else if y = "drawn" then some (.ref D) else m₁ y) = (fun y => if y = xc then some v else if y = xi then some (Value.int (i : Nat) t) else m₁ y) := by
      funext y
      split
      · rfl
      · split
        · rfl
        · split
          · rename_i q; rw [q]; exact hm.symm
          · rfl
    rw [e]; exact F
  · rintro h tk m' _ F N ⟨vs', xs, n', rfl, hi', hlen, hb, hm⟩
    exact done h tk m' vs' xs n' (fr_put1 F hm) N hi' hlen hb
end
theorem mod12 (i : Nat) : 0 ≤ ((i : Int)).fmod 12 ∧ ((i : Int)).fmod 12 < 12 := by rw [Int.fmod_eq_emod_of_nonneg _ (by decide)]; omega
theorem mod448 (i : Int) : 0 ≤ i.fmod 448 ∧ i.fmod 448 < 448 := by rw [Int.fmod_eq_emod_of_nonneg _ (by decide)]; omega
theorem set_in {xs : List Int} {j : Nat} {x : Int} (h : ∀ k ∈ xs, 0 ≤ k ∧ k < 448) (hx : 0 ≤ x ∧ x < 448) : ∀ k ∈ xs.set j x, 0 ≤ k ∧ k < 448 := fun k hk => by
  rcases List.mem_or_eq_of_mem_set hk with h1 | rfl
  · exact h k h1
  · exact hx
local macro_rules | `(tactic| walk_at "setItem ref int") => `(tactic| (k_here; (with_reducible show wpAny _ _ (setItem (Value.ref _) (Value.int _ _) (Value.int _ _)) _ _ _); k_dflt (refine' ksa_set ?k1 ?k2 (upd_app (Upd.head ?a) ?b) ?k4 ?k5 ?k6 ?k7 ?_; (case k1 | k2 => k_asm); (case a | b => assumption); (case k4 => with_reducible assumption); (case k5 | k6 | k7 => omega); k_whole); intro h9 F9 N9 i9 l9 s9))
local macro_rules | `(tactic| walk_at "exec For Tuple Call cons nil") => `(tactic| (k_here; refine hold_intro ?_))
set_option maxRecDepth 100000 in
set_option maxHeartbeats 8000000 in
theorem drawn_ok (w : World) (mean : ExcName → Option Value) (mg mb : Str → Option Value) : SatD w mean mg mb postDrawn := by
  unfold SatD
  w_top off
  k_fill
  intro dp un gd cn cs a ccd cl outer A₀ base h₀ L m news s l vs ns Q E B F X N T hk hl hi hn hd hu hret
  refine wpAny_call ?_
  k_dflt ktr_enter
  refine wpAny_noRaise ?_
  (rename Fr h₀ _ _ _ => FG9)
  have hl' := hl.at fun o e => FG9.keep l o e
  k_steps
  (rename Fr _ _ _ _ => F8)
  refine For_pair3F F8 rfl rfl rfl rfl ?_ (by intro _; rfl) PassesOwn.never
  k_steps
  (rename Fr _ _ _ _ => F9)
  (rename News _ _ _ _ => N9)
  (rename ∀ p ∈ news, _ => l1)
  (rename _ ∧ AllLt _ _ => l2)
  (rename IntsAre _ (List.take _ _) => hI9)
  refine enum_drawn rfl F9 N9 ?_ ?_ ?_ ?_
  · intro p hp
    rcases List.mem_cons.mp hp with rfl | hp
    · exact Nat.ne_of_lt l2.1
    · exact Nat.ne_of_lt (ktn_ltOf l2.2 p hp)
  · exact ⟨_, [93, 253, 5, 442, 2, 210, 53, 75, 112, 113, 337, 0], _, rfl, .cons _ _ (.cons _ _ (.cons _ _ (.cons _ _ (.cons _ _ (.cons _ _ (.cons _ _ (.cons _ _ (.cons _ _ (.cons _ _ (.cons _ _ (.cons _ _ .nil))))))))))), rfl, by decide, rfl⟩
  · intro i v t m₁ vs' xs n' own h tk hv hi' hlen hb ho1 F N
    obtain ⟨k, tk9, rfl, hk9⟩ := hI9.at i v hv
    have hn1 : ∀ p ∈ news, p.1 ≠ _ := fun p hp => Nat.ne_of_lt (l1 p hp)
    have hm12 := mod12 i
    k_steps
    refine ⟨_, _, _, rfl, by assumption, by rw [List.length_set]; exact hlen, set_in hb (mod448 _), rfl⟩
  · intro h tk m' vs' xs n' F N hi' hlen hb
    k_steps
    exact hret _ _ _ _ (by k_asm) (by k_asm) ⟨_, _, _, _, rfl, rfl, hi', hlen, hb, l1⟩
end Mine
end
section
open PySem PySem.W PySem.Calls PySem.Spec PyProof.Rows PySem.SeqAt
set_option Elab.async false
set_option linter.unusedVariables false
namespace Mine
def AllOk (ss : List Str) : Prop := ∀ x ∈ ss, PyData.strOk x = true
theorem readsAll_strs {h : Heap} : ∀ {vs : List Value} {ss : List Str}, StrsAre vs ss → ReadsAll h vs (ss.map PyData.str) []
  | _, _, .nil => .nil
  | _, _, .cons k t r => by
    have := ReadsAll.cons (Reads.str (h := h) k t) (readsAll_strs (h := h) r)
    simpa using this
theorem reads_strs {h : Heap} {a : Addr} {vs : List Value} {ss : List Str} (hl : h.IsList a vs.toArray) (hi : StrsAre vs ss) : Reads h (.ref a) (.list (ss.map PyData.str)) [a] := by
  obtain ⟨o, ho, hc, n, hd⟩ := hl
  exact Reads.list ho hc hd (by simpa using readsAll_strs hi)
theorem canLay_strs : ∀ ss : List Str, AllOk ss → PyData.canLayAll0 (ss.map PyData.str) = true
  | [], _ => by simp [PyData.canLayAll0]
  | x :: r, h => by
    have h1 := h x (.head _)
    simp [PyData.canLayAll0, PyData.canLay0, canLay_strs r fun y hy => h y (.tail _ hy), h1]
theorem depth_strs : ∀ ss : List Str, PyData.depthAll (ss.map PyData.str) ≤ 1
  | [] => by simp [PyData.depthAll]
  | n :: r => by
    have := depth_strs r
    simp only [List.map_cons, PyData.depthAll, PyData.depth]
    omega
theorem shaped_strs (ss : List Str) (h : AllOk ss) : shaped (.list (ss.map PyData.str)) = true := by
  have h1 := depth_strs ss
  have h2 : PyData.depth (.list (ss.map PyData.str)) ≤ 64 := by simp only [PyData.depth]; omega
  show (PyData.canLay0 (.list (ss.map PyData.str)) && decide (PyData.depth (.list (ss.map PyData.str)) ≤ 64)) = true
  rw [Bool.and_eq_true]
  exact ⟨by simp only [PyData.canLay0]; exact canLay_strs ss h, decide_eq_true h2⟩
theorem noMix_strs : ∀ ns ms : List Str, noMixAll (ns.map PyData.str) (ms.map PyData.str) = true
  | [], [] => by simp [noMixAll]
  | [], _ :: _ => by simp [noMixAll]
  | _ :: _, [] => by simp [noMixAll]
  | _ :: r, _ :: q => by simp [noMixAll, noMix, noMix_strs r q]
theorem same_strs : ∀ ns ms : List Str, PySem.Spec.sameAll (ns.map PyData.str) (ms.map PyData.str) = decide (ns = ms)
  | [], [] => by simp [PySem.Spec.sameAll]
  | [], _ :: _ => by simp [PySem.Spec.sameAll]
  | _ :: _, [] => by simp [PySem.Spec.sameAll]
  | n :: r, k :: q => by
    simp only [List.map_cons, PySem.Spec.sameAll, PySem.Spec.same, same_strs r q]
    by_cases h : n = k <;> simp [h]
section
variable {prog : Program} {w : World} {A : Around} {E : Value → Shared → Prop} {s : Shared} {h₀ : Heap} {L a b la : Addr} {m : Str → Option Value} {news : List (Addr × Obj)} {va vb : List Value} {sa sb : List Str} {na nb n : Nat} {Q : Value → Shared → Prop}
theorem is_listN (N : News h₀ L s.heap news) (hm : (a, listOf va.toArray na) ∈ news) : s.heap.IsList a va.toArray := ⟨_, (N _ hm).1, rfl, _, rfl⟩
theorem eq_strsN (N : News h₀ L s.heap news) (ha : (a, listOf va.toArray na) ∈ news) (hb : (b, listOf vb.toArray nb) ∈ news) (hi : StrsAre va sa) (hj : StrsAre vb sb) (oa : AllOk sa) (ob : AllOk sb) (hu : A.units + 64 < cLine)
    (h : Q (.bool (decide (sa = sb))) s) : wpAny (model prog w) A (compareOp .Eq (.ref a) (.ref b)) Q E s :=
  eq_dataH_same (reads_strs (is_listN N ha) hi) (reads_strs (is_listN N hb) hj) (shaped_strs _ oa) (shaped_strs _ ob) hu (by simp only [noMix]; exact noMix_strs _ _) (by simp only [PySem.Spec.same]; rw [same_strs]; exact h)
theorem ne_strsN (N : News h₀ L s.heap news) (ha : (a, listOf va.toArray na) ∈ news) (hb : (b, listOf vb.toArray nb) ∈ news) (hi : StrsAre va sa) (hj : StrsAre vb sb) (oa : AllOk sa) (ob : AllOk sb) (hu : A.units + 64 < cLine)
    (h : Q (.bool (!decide (sa = sb))) s) : wpAny (model prog w) A (compareOp .NotEq (.ref a) (.ref b)) Q E s :=
  ne_dataH_same (reads_strs (is_listN N ha) hi) (reads_strs (is_listN N hb) hj) (shaped_strs _ oa) (shaped_strs _ ob) hu (by simp only [noMix]; exact noMix_strs _ _) (by simp only [PySem.Spec.same]; rw [same_strs]; exact h)
theorem lsub {value slice : PySem.Expr} {v0 v1 v : Value} {k : Int} {u : Tok} (N : News h₀ L s.heap news) (hm : (la, listOf #[v0, v1] n) ∈ news) (hk : (k = 0 ∧ v = v0) ∨ (k = 1 ∧ v = v1)) (h : Q v s)
    (hs : subscripted slice false (.ref la) (.int k u) = operate [.ref la, .int k u] (getItem (.ref la) (.int k u))) :
    wpAny (model prog w) A (subscriptTail value slice (.ref la) (.int k u)) Q E s := by
  have hl : s.heap.IsList la #[v0, v1] := ⟨_, (N _ hm).1, rfl, _, rfl⟩
  rcases hk with ⟨rfl, rfl⟩ | ⟨rfl, rfl⟩
  · exact tail_any hl.typeIs slot_list_getitem.lookup (wpAny_getItem_list hl (by decide) (by decide) rfl h) hs
  · exact tail_any hl.typeIs slot_list_getitem.lookup (wpAny_getItem_list hl (by decide) (by decide) rfl h) hs
theorem add_listsN (F : Fr h₀ L s.heap m) (N : News h₀ L s.heap news) (ha : (a, listOf va.toArray na) ∈ news) (hb : (b, listOf vb.toArray nb) ∈ news) (hz : va.length + vb.length ≤ sizeLine)
    (h : ∀ D h', Fr h₀ L h' m → News h₀ L h' ((D, listOf (va ++ vb).toArray 0) :: news) → (∀ p ∈ news, p.1 < D) → Q (.ref D) { s with heap := h' }) :
    wpAny (model prog w) A (binaryOp .Add (.ref a) (.ref b)) Q E s :=
  add_lists F N (is_listN N ha) (is_listN N hb) (fun h' F' N' => h _ h' F' N' fun p hp => Heap.lt_size (N p hp).1) hz
theorem remove_strN {x : Str} {t : Tok} {pre post : List Str} (F : Fr h₀ L s.heap m) (N : News h₀ L s.heap news) (ha : (a, listOf va.toArray na) ∈ news) (hi : StrsAre va sa) (he : sa = pre ++ x :: post) (hno : x ∉ pre) (hz : va.length ≤ sizeLine)
    (h : ∀ h' news' va' na', Fr h₀ L h' m → News h₀ L h' news' → (a, listOf va'.toArray na') ∈ news' → StrsAre va' (pre ++ post) → Keep a news news' → TupKeep news news' → Q .none { s with heap := h' }) :
    wpAny (model prog w) A (call (.builtin "list.remove") [.ref a, .str x t]) Q E s := by
  have z := N _ ha
  have hlen := hi.length
  have hj : pre.length < va.length := by rw [hlen, he]; simp
  have hat : ∀ (i : Nat) (y : Str), sa[i]? = some y → ∃ t, va[i]? = some (.str y t) := fun i y e => hi.get i y e
  refine call_meets PySem.F.slot_list_remove ⟨_, z.1, rfl⟩ PySem.F.entry_list_remove (PySem.F.args_list_remove_2 _ _)
    (MeetsSeq.list_remove a va.toArray na (.str x t) (isStrOf x) (fun y hy => eq_isStrOf x t hi y (by simpa using hy)) pre.length (by simpa using hj) ?_ ?_ (by simpa using hz))
    ⟨z.1, ?_⟩
  · obtain ⟨u, hu⟩ := hat pre.length x (by rw [he]; simp)
    have e2 : va.toArray[pre.length]'(by simpa using hj) = .str x u := by
      have := List.getElem?_eq_some_iff.mp hu
      obtain ⟨h1, h2⟩ := this
      simpa using h2
    rw [e2]; simp [isStrOf]
  · intro i hi' hlt
    have hsz : i < sa.length := by rw [← hlen]; simpa using hi'
    obtain ⟨u, hu⟩ := hat i sa[i] (List.getElem?_eq_getElem hsz)
    obtain ⟨h1, h2⟩ := List.getElem?_eq_some_iff.mp hu
    have e2 : va.toArray[i] = .str sa[i] u := by simpa using h2
    rw [e2]
    have e3 : sa[i] = pre[i] := by
      subst he
      rw [List.getElem_append_left hlt]
    have : sa[i] ≠ x := fun e => hno (by rw [← e, e3]; exact List.getElem_mem hlt)
    simp [isStrOf, this]
  · have hs : Heap.SameBut a s.heap (s.heap.update a (Obj.mapSeq fun xs => xs.eraseIdxIfInBounds pre.length)) := Heap.SameBut.update ..
    have q := PySem.IsL.update z.1 (fun xs : Array Value => xs.eraseIdxIfInBounds pre.length)
    have e4 : va.toArray.eraseIdxIfInBounds pre.length = (va.eraseIdx pre.length).toArray := by
      apply Array.ext'
      simp [Array.eraseIdxIfInBounds, hj]
    rw [e4] at q
    obtain ⟨news', N', m', k, tk⟩ := upd_any N ha rfl hs q
    refine h _ news' _ _ (F.change hs z.2.1 z.2.2) N' m' ?_ k tk
    have : ∀ {vs : List Value} {ss : List Str}, StrsAre vs ss → ∀ j, StrsAre (vs.eraseIdx j) (ss.eraseIdx j) := by
      intro vs ss hS
      induction hS with
      | nil => intro j; simpa using StrsAre.nil
      | cons y t _ ih =>
        intro j
        cases j with
        | zero => simpa
        | succ j => simpa using StrsAre.cons y t (ih j)
    have h5 := this hi pre.length
    rw [he, List.eraseIdx_append_of_length_le (Nat.le_refl _)] at h5
    simpa using h5
theorem sorted_strN (F : Fr h₀ L s.heap m) (N : News h₀ L s.heap news) (ha : (a, listOf va.toArray na) ∈ news) (hi : StrsAre va sa) (h64 : va.length < 64)
    (h : ∀ h' D vs' ss' e, Fr h₀ L h' m → News h₀ L h' ((D, listOf vs'.toArray e) :: news) → StrsAre vs' ss' → ss'.Perm sa → sortedS ss' = true → (∀ p ∈ news, p.1 < D) → Q (.ref D) { s with heap := h' }) :
    wpAny (model prog w) A (call (.builtin "sorted") [.ref a]) Q E s :=
  sorted_N_str F N (is_listN N ha) hi h64 fun h' vs' ss' e F' N' a1 a2 a3 => h h' _ vs' ss' e F' N' a1 a2 a3 fun p hp => Nat.lt_succ_of_lt (Heap.lt_size (N p hp).1)
end
/-- the least text by the interpreter's walk -/
def ltS (x y : Str) : Bool := decide (x.cps.toList < y.cps.toList)
theorem argBest_min (f : Nat → Str) : ∀ k, argBest (fun i j => ltS (f i) (f j)) k ≤ k ∧ ∀ i ≤ k, ltS (f i) (f (argBest (fun i j => ltS (f i) (f j)) k)) = false
  | 0 => ⟨Nat.le_refl _, fun i hi => by
      have : i = 0 := by omega
      subst this
      simp [argBest, ltS, List.lt_irrefl]⟩
  | k + 1 => by
    obtain ⟨h1, h2⟩ := argBest_min f k
    simp only [argBest]
    generalize argBest (fun i j => ltS (f i) (f j)) k = j at h1 h2
    by_cases hc : ltS (f (k + 1)) (f j) = true
    · rw [if_pos hc]
      refine ⟨Nat.le_refl _, fun i hi => ?_⟩
      by_cases hik : i = k + 1
      · subst hik; simp [ltS, List.lt_irrefl]
      · have h3 := h2 i (by omega)
        have h3' : ¬ (f i).cps.toList < (f j).cps.toList := of_decide_eq_false h3
        have hc' : (f (k + 1)).cps.toList < (f j).cps.toList := of_decide_eq_true hc
        exact decide_eq_false fun h4 => h3' (List.lt_trans h4 hc')
    · rw [if_neg hc]
      refine ⟨by omega, fun i hi => ?_⟩
      by_cases hik : i = k + 1
      · subst hik; exact Bool.eq_false_iff.mpr hc
      · exact h2 i (by omega)
section
variable {prog : Program} {w : World} {A : Around} {E : Value → Shared → Prop} {s : Shared} {h₀ : Heap} {L a : Addr} {m : Str → Option Value} {news : List (Addr × Obj)} {va : List Value} {sa : List Str} {na : Nat} {Q : Value → Shared → Prop}
theorem min_strN (hh : A.handled = none) (F : Fr h₀ L s.heap m) (N : News h₀ L s.heap news) (ha : (a, listOf va.toArray na) ∈ news) (hi : StrsAre va sa) (hne : 0 < sa.length)
    (h : ∀ h' tk x t, Fr h₀ L h' m → News h₀ L h' news → x ∈ sa → (∀ y ∈ sa, ltS y x = false) → Q (.str x t) { s with heap := h', toks := tk }) :
    wpAny (model prog w) A (call (.builtin "min") [.ref a]) Q E s := by
  have hls := is_listN N ha
  have hlen := hi.length
  refine call_min_walk (PySem.Flt.iter_list_ hls fun s₂ e st hfp hlI => ?_)
  subst e
  have W := Walks.list (prog := prog) (w := w) (A := A.in1) hh _ a hlI va.toArray
  refine ⟨_, _, _, _, _, _, fun i j => ltS (sa.getD i Str.empty) (sa.getD j Str.empty), rfl, W, st, hfp, by rw [List.size_toArray, hlen]; exact hne, fun i j vi vj s Q E h1 h2 hq => ?_, fun v h' tk hP hk => ?_⟩
  · have get : ∀ (i : Nat) (v : Value), va.toArray[i]? = some v → ∃ t, v = .str (sa.getD i Str.empty) t := by
      intro i v hv
      have hv' : va[i]? = some v := by simpa using hv
      have hlt : i < sa.length := by rw [← hlen]; exact (List.getElem?_eq_some_iff.mp hv').1
      obtain ⟨t, ht⟩ := hi.get i sa[i] (List.getElem?_eq_getElem hlt)
      rw [hv'] at ht
      refine ⟨t, ?_⟩
      rw [Option.some.inj ht, List.getD_eq_getElem?_getD, List.getElem?_eq_getElem hlt]
      rfl
    obtain ⟨t, rfl⟩ := get i vi h1
    obtain ⟨u, rfl⟩ := get j vj h2
    exact PyProof.Rows.lt_str hq
  · rw [List.size_toArray, hlen] at hP
    obtain ⟨b1, b2⟩ := argBest_min (fun i => sa.getD i Str.empty) (sa.length - 1)
    generalize hj : argBest (fun i j => ltS (sa.getD i Str.empty) (sa.getD j Str.empty)) (sa.length - 1) = j at hP b1 b2
    have hlt : j < sa.length := by omega
    obtain ⟨t, ht⟩ := hi.get j sa[j] (List.getElem?_eq_getElem hlt)
    have hv : v = .str sa[j] t := by
      have hP' : va[j]? = some v := by simpa using hP
      rw [ht] at hP'; exact (Option.some.inj hP').symm
    subst hv
    have kp := PySem.Flt.kept_iter hk
    refine h h' tk _ t (F.grownK kp) (N.grown kp) (List.getElem_mem hlt) fun y hy => ?_
    obtain ⟨i, hi', rfl⟩ := List.getElem_of_mem hy
    have := b2 i (by omega)
    simpa [List.getD_eq_getElem?_getD, List.getElem?_eq_getElem hi', List.getElem?_eq_getElem hlt] using this
end
end Mine
end
section
open PySem PySem.W PySem.Calls PySem.Spec PyProof.Rows PySem.SeqAt
set_option Elab.async false
set_option linter.unusedVariables false
namespace Mine
section
variable {prog : Program} {w : World} {A : Around} {E : Value → Shared → Prop} {s : Shared}
theorem isSame_float {M : Model} {x y : UInt64} {u v : Tok} {Q : Bool → Shared → Prop} (h0 : (u == 0 || v == 0) = false) (hb : NoneBooked s.heap) (hq : ∀ b, Q b s) : wpAny M A (isSame (.float x u) (.float y v)) Q E s := by
  show wpAny M A (isSame.created (x == y && !Float64.isNaN x) u v) Q E s
  unfold isSame.created
  refine wpAny_ite ?_
  split
  · rename_i h; rw [h0] at h; exact absurd h Bool.false_ne_true
  refine wpAny_ite ?_
  split
  · exact wpAny_pure (hq _)
  refine wpAny_ite ?_
  split
  · exact wpAny_pure (hq _)
  refine wpAny_bind (wpAny_sharingNotTold_none hb ?_)
  first | rw [if_neg Bool.false_ne_true] | simp only [Bool.false_eq_true, if_false]
  refine wpAny_bind (wpAny_sharingNotTold_none hb ?_)
  first | rw [if_neg Bool.false_ne_true] | simp only [Bool.false_eq_true, if_false]
  exact wpAny_bind (wpAny_rule (wpAny_bind (wpAny_askSetting (wpAny_pure (hq _)))))
theorem eqAt_float {x : UInt64} {t u : Tok} (ht : t ≠ 0) (hu : u ≠ 0) (hb : NoneBooked s.heap) (hc : (Float64.cmp x x == some Ordering.eq) = true) : EqAt A s (.float x t) (.float x u) true := fun prog w E Q h => by
  unfold eqBool
  refine wpAny_holding ?_
  refine wpAny_ite_split (fun hab => ?_) (fun _ => ?_)
  · exact wpAny_bind (wpAny_rule (wpAny_pure h))
  · refine wpAny_bind (isSame_float (by simp [ht, hu]) hb fun b => ?_)
    cases b with
    | true => exact wpAny_pure h
    | false =>
      refine wpAny_bind ?_
      exact AutoFloatOps.eq_0 (by rw [hc]; exact wpAny_truthy_bool h)
theorem ne_tup3 {h₀ : Heap} {L a b : Addr} {news : List (Addr × Obj)} {x y z : UInt64} {t1 t2 t3 u1 u2 u3 : Tok} {n k : Nat} {Q : Value → Shared → Prop} (N : News h₀ L s.heap news)
    (ha : (a, ({ cls := .type "tuple", data := .seq #[.float x t1, .float y t2, .float z t3] n } : Obj)) ∈ news) (hb : (b, ({ cls := .type "tuple", data := .seq #[.float x u1, .float y u2, .float z u3] k } : Obj)) ∈ news)
    (ht : t1 ≠ 0 ∧ t2 ≠ 0 ∧ t3 ≠ 0) (hu : u1 ≠ 0 ∧ u2 ≠ 0 ∧ u3 ≠ 0) (nb : NoneBooked s.heap) (hx : (Float64.cmp x x == some Ordering.eq) = true) (hy : (Float64.cmp y y == some Ordering.eq) = true) (hz : (Float64.cmp z z == some Ordering.eq) = true)
    (hl : A.units < cLine) (h : Q (.bool false) s) : wpAny (model prog w) A (compareOp .NotEq (.ref a) (.ref b)) Q E s := by
  refine RcNeAt.tuples (e := fun _ => true) (items := #[.float x t1, .float y t2, .float z t3]) (items2 := #[.float x u1, .float y u2, .float z u3]) ⟨_, (N _ ha).1, rfl, _, rfl⟩ ⟨_, (N _ hb).1, rfl, _, rfl⟩ hl ?_ prog w E Q ?_
  · intro j h1 h2
    match j, h1 with
    | 0, _ => exact eqAt_float ht.1 hu.1 nb hx
    | 1, _ => exact eqAt_float ht.2.1 hu.2.1 nb hy
    | 2, _ => exact eqAt_float ht.2.2 hu.2.2 nb hz
    | j + 3, h1 => exact absurd h1 (by simp)
  · exact h
theorem booked_none {w : World} {h₀ h : Heap} (X : (Mine.hd.heap_39 w.params).In h₀) (k : ∀ b o, h₀.get? b = some o → h.get? b = some o) : NoneBooked h := by
  have X' := X.keeps k
  have e : nsOkIn (Mine.hd.heap_39 w.params) cStatics = true := by kernel_rfl
  have q : nsIn (Mine.hd.heap_39 w.params) cStatics sharingNotToldKey = some none := by kernel_rfl
  exact ⟨_, .of_isNs (isNs_of_in X' e), nsMap_none_of_in X' e q⟩
end
end Mine
end
section
open PySem PySem.W PySem.Calls PySem.Spec PyProof.Rows
set_option Elab.async false
namespace Mine
def chk (k : Int) : Bool := namedB (paintR k) (paintG k) (paintB k) && decide (namedOf (paintR k) (paintG k) (paintB k) = dueName k) && decide (dueX k 0 = paintR k) && decide (dueX k 2 = paintG k) && decide (dueX k 4 = paintB k) &&
  (Float64.cmp (paintR k) (paintR k) == some Ordering.eq) && (Float64.cmp (paintG k) (paintG k) == some Ordering.eq) && (Float64.cmp (paintB k) (paintB k) == some Ordering.eq) && PyData.strOk (dueName k)
theorem chk_congr {a b : Int} (hs : sigOf a = sigOf b) (hl : a.fdiv 28 = b.fdiv 28) : chk a = chk b := by
  have e1 : yOf a = yOf b := by unfold yOf; rw [hl]
  have e2 : iOf a = iOf b := by unfold iOf; rw [hs]
  have e3 : qOf a = qOf b := by unfold qOf; rw [hs]
  have e4 : paintR a = paintR b := by unfold paintR; rw [e1, e2, e3]
  have e5 : paintG a = paintG b := by unfold paintG; rw [e1, e2, e3]
  have e6 : paintB a = paintB b := by unfold paintB; rw [e1, e2, e3]
  have e7 : dueName a = dueName b := by unfold dueName; rw [hs, hl]
  have e8 : ∀ m, dueX a m = dueX b m := fun m => by unfold dueX dueF; rw [hs, e1]
  unfold chk
  rw [e4, e5, e6, e7, e8, e8, e8]
set_option maxRecDepth 100000 in
theorem chk_0 : ∀ j : Fin 16, chk (4 * (((j.val : Nat) : Int) + 0)) = true := by decide +kernel
set_option maxRecDepth 100000 in
theorem chk_1 : ∀ j : Fin 16, chk (4 * (((j.val : Nat) : Int) + 16)) = true := by decide +kernel
set_option maxRecDepth 100000 in
theorem chk_2 : ∀ j : Fin 16, chk (4 * (((j.val : Nat) : Int) + 32)) = true := by decide +kernel
set_option maxRecDepth 100000 in
theorem chk_3 : ∀ j : Fin 16, chk (4 * (((j.val : Nat) : Int) + 48)) = true := by decide +kernel
set_option maxRecDepth 100000 in
theorem chk_4 : ∀ j : Fin 16, chk (4 * (((j.val : Nat) : Int) + 64)) = true := by decide +kernel
set_option maxRecDepth 100000 in
theorem chk_5 : ∀ j : Fin 16, chk (4 * (((j.val : Nat) : Int) + 80)) = true := by decide +kernel
set_option maxRecDepth 100000 in
theorem chk_6 : ∀ j : Fin 16, chk (4 * (((j.val : Nat) : Int) + 96)) = true := by decide +kernel
theorem chk_four {k : Int} (h0 : 0 ≤ k) (h1 : k < 112) : chk (4 * k) = true := by
  have key : ∀ (b : Int) , (∀ j : Fin 16, chk (4 * (((j.val : Nat) : Int) + b)) = true) → b ≤ k → k < b + 16 → chk (4 * k) = true := by
    intro b h hb hk
    have := h ⟨(k - b).toNat, by omega⟩
    have e : (((k - b).toNat : Nat) : Int) + b = k := by omega
    simp only [e] at this
    exact this
  by_cases g0 : k < 16
  · exact key 0 chk_0 (by omega) (by omega)
  by_cases g1 : k < 32
  · exact key 16 chk_1 (by omega) (by omega)
  by_cases g2 : k < 48
  · exact key 32 chk_2 (by omega) (by omega)
  by_cases g3 : k < 64
  · exact key 48 chk_3 (by omega) (by omega)
  by_cases g4 : k < 80
  · exact key 64 chk_4 (by omega) (by omega)
  by_cases g5 : k < 96
  · exact key 80 chk_5 (by omega) (by omega)
  by_cases g6 : k < 112
  · exact key 96 chk_6 (by omega) (by omega)
  omega
theorem chk_all {k : Int} (h0 : 0 ≤ k) (h1 : k < 448) : chk k = true := by
  have e : chk k = chk (4 * (k / 4)) := by
    refine chk_congr ?_ ?_
    · unfold sigOf
      rw [Int.fdiv_eq_ediv_of_nonneg _ (by decide), Int.fdiv_eq_ediv_of_nonneg _ (by decide)]
      congr 1
      omega
    · rw [Int.fdiv_eq_ediv_of_nonneg _ (by decide), Int.fdiv_eq_ediv_of_nonneg _ (by decide)]
      omega
  rw [e]
  exact chk_four (by omega) (by omega)
theorem plain_named {k : Int} (h0 : 0 ≤ k) (h1 : k < 448) : namedB (paintR k) (paintG k) (paintB k) = true ∧ namedOf (paintR k) (paintG k) (paintB k) = dueName k := by
  have h := chk_all h0 h1
  simp only [chk, Bool.and_eq_true, decide_eq_true_eq] at h
  exact ⟨h.1.1.1.1.1.1.1.1, h.1.1.1.1.1.1.1.2⟩
theorem plain_paint {k : Int} (h0 : 0 ≤ k) (h1 : k < 448) : dueX k 0 = paintR k ∧ dueX k 2 = paintG k ∧ dueX k 4 = paintB k := by
  have h := chk_all h0 h1
  simp only [chk, Bool.and_eq_true, decide_eq_true_eq] at h
  exact ⟨h.1.1.1.1.1.1.2, h.1.1.1.1.1.2, h.1.1.1.1.2⟩
theorem plain_self {k : Int} (h0 : 0 ≤ k) (h1 : k < 448) : (Float64.cmp (paintR k) (paintR k) == some Ordering.eq) = true ∧ (Float64.cmp (paintG k) (paintG k) == some Ordering.eq) = true ∧ (Float64.cmp (paintB k) (paintB k) == some Ordering.eq) = true := by
  have h := chk_all h0 h1
  simp only [chk, Bool.and_eq_true, decide_eq_true_eq] at h
  exact ⟨h.1.1.1.2, h.1.1.2, h.1.2⟩
theorem dueName_ok {k : Int} (h0 : 0 ≤ k) (h1 : k < 448) : PyData.strOk (dueName k) = true := by
  have h := chk_all h0 h1
  simp only [chk, Bool.and_eq_true, decide_eq_true_eq] at h
  exact h.2
end Mine
end
section
open PySem PySem.W PySem.Calls PySem.Spec PyProof.Rows
set_option Elab.async false
set_option linter.unusedVariables false
namespace Mine
theorem dueN_use {w : World} {mean : ExcName → Option Value} {mg mb : Str → Option Value} {dp un : Nat} {gd : Option (List Code)} {cn : Str} {cs : Scope} {a : Addr} {ccd : Value} {cl : List (Str × Addr)} {outer : List Env} {A₀ : Around} {base h₀ : Heap} {L : Addr} {m : Str → Option Value} {news : List (Addr × Obj)} {s : Shared} {k : Int} {t : Tok}
    {Q E : Value → Shared → Prop} (B : Below A₀ base outer h₀) (F : Fr h₀ L s.heap m) (X : (Mine.hd.heap_39 w.params).In h₀) (N : News h₀ L s.heap news) (T : Top Mine.hd.view_39 (looseW Mine.hd.view_39 []) mean mg mb h₀) (hk : cs.kind = .function) (h0 : 0 ≤ k) (h1 : k < 448)
    (hd : dp + 1 < recursionLimit) (hu : un + 8 * 1 < cLine)
    (ret : ∀ t h' tk', Fr h₀ L h' m → News h₀ L h' news → Q (.str (dueName k) t) { s with heap := h', toks := tk' }) :
    wpAny (model PySem.Challenge.rw_tr0014_01.row.prog w) (ktrTop dp un gd cn cs L a ccd cl outer) (call (.ref 89) [.int k t]) Q E s := by
  refine sat_use (dueN_ok w mean mg mb k) B F X N T hk ⟨⟨_, rfl⟩, h0, h1⟩ hd hu ?_
  rintro r news' h' tk' F' N' ⟨rfl, t, rfl⟩
  exact ret _ _ _ F' N'
def leastS (sa : List Str) : Str := sa.getD (argBest (fun i j => ltS (sa.getD i Str.empty) (sa.getD j Str.empty)) (sa.length - 1)) Str.empty
theorem leastS_spec (sa : List Str) (h : sa ≠ []) : leastS sa ∈ sa ∧ ∀ y ∈ sa, ltS y (leastS sa) = false := by
  have hn : 0 < sa.length := List.length_pos_iff.mpr h
  obtain ⟨b1, b2⟩ := argBest_min (fun i => sa.getD i Str.empty) (sa.length - 1)
  unfold leastS
  generalize argBest (fun i j => ltS (sa.getD i Str.empty) (sa.getD j Str.empty)) (sa.length - 1) = j at b1 b2
  have hlt : j < sa.length := by omega
  have e : sa.getD j Str.empty = sa[j] := by rw [List.getD_eq_getElem?_getD, List.getElem?_eq_getElem hlt]; rfl
  refine ⟨by rw [e]; exact List.getElem_mem hlt, fun y hy => ?_⟩
  obtain ⟨i, hi', rfl⟩ := List.getElem_of_mem hy
  have := b2 i (by omega)
  simpa [List.getD_eq_getElem?_getD, List.getElem?_eq_getElem hi', List.getElem?_eq_getElem hlt] using this
section
variable {prog : Program} {w : World} {A : Around} {E : Value → Shared → Prop} {s : Shared} {h₀ : Heap} {L a b : Addr} {m : Str → Option Value} {news : List (Addr × Obj)} {va vb : List Value} {sa sb : List Str} {na nb : Nat} {Q : Value → Shared → Prop}
theorem min_strN2 (hh : A.handled = none) (F : Fr h₀ L s.heap m) (N : News h₀ L s.heap news) (ha : (a, listOf va.toArray na) ∈ news) (hi : StrsAre va sa) (hne : sa ≠ [])
    (h : ∀ h' tk t, Fr h₀ L h' m → News h₀ L h' news → Q (.str (leastS sa) t) { s with heap := h', toks := tk }) :
    wpAny (model prog w) A (call (.builtin "min") [.ref a]) Q E s := by
  have hls := is_listN N ha
  have hlen := hi.length
  have hpos : 0 < sa.length := List.length_pos_iff.mpr hne
  refine call_min_walk (PySem.Flt.iter_list_ hls fun s₂ e st hfp hlI => ?_)
  subst e
  have W := Walks.list (prog := prog) (w := w) (A := A.in1) hh _ a hlI va.toArray
  refine ⟨_, _, _, _, _, _, fun i j => ltS (sa.getD i Str.empty) (sa.getD j Str.empty), rfl, W, st, hfp, by rw [List.size_toArray, hlen]; exact hpos, fun i j vi vj s Q E h1 h2 hq => ?_, fun v h' tk hP hk => ?_⟩
  · have get : ∀ (i : Nat) (v : Value), va.toArray[i]? = some v → ∃ t, v = .str (sa.getD i Str.empty) t := by
      intro i v hv
      have hv' : va[i]? = some v := by simpa using hv
      have hlt : i < sa.length := by rw [← hlen]; exact (List.getElem?_eq_some_iff.mp hv').1
      obtain ⟨t, ht⟩ := hi.get i sa[i] (List.getElem?_eq_getElem hlt)
      rw [hv'] at ht
      refine ⟨t, ?_⟩
      rw [Option.some.inj ht, List.getD_eq_getElem?_getD, List.getElem?_eq_getElem hlt]
      rfl
    obtain ⟨t, rfl⟩ := get i vi h1
    obtain ⟨u, rfl⟩ := get j vj h2
    exact PyProof.Rows.lt_str hq
  · rw [List.size_toArray, hlen] at hP
    have b1 := (argBest_min (fun i => sa.getD i Str.empty) (sa.length - 1)).1
    have kp := PySem.Flt.kept_iter hk
    have hlt : argBest (fun i j => ltS (sa.getD i Str.empty) (sa.getD j Str.empty)) (sa.length - 1) < sa.length := by omega
    obtain ⟨t, ht⟩ := hi.get _ _ (List.getElem?_eq_getElem hlt)
    have hv : v = .str (leastS sa) t := by
      have hP' : va[argBest (fun i j => ltS (sa.getD i Str.empty) (sa.getD j Str.empty)) (sa.length - 1)]? = some v := by simpa using hP
      rw [ht] at hP'
      rw [← Option.some.inj hP', leastS, List.getD_eq_getElem?_getD, List.getElem?_eq_getElem hlt]
      rfl
    subst hv
    exact h h' tk t (F.grownK kp) (N.grown kp)
theorem ne_nilF (N : News h₀ L s.heap news) (ha : (a, listOf va.toArray na) ∈ news) (hb : (b, listOf #[] nb) ∈ news) (hi : StrsAre va sa) (oa : AllOk sa) (hu : A.units + 64 < cLine) (he : sa = [])
    (h : Q (.bool false) s) : wpAny (model prog w) A (compareOp .NotEq (.ref a) (.ref b)) Q E s :=
  ne_strsN (vb := []) N ha hb hi .nil oa (fun x hx => by cases hx) hu (by subst he; exact h)
theorem ne_nilT (N : News h₀ L s.heap news) (ha : (a, listOf va.toArray na) ∈ news) (hb : (b, listOf #[] nb) ∈ news) (hi : StrsAre va sa) (oa : AllOk sa) (hu : A.units + 64 < cLine) (he : sa ≠ [])
    (h : Q (.bool true) s) : wpAny (model prog w) A (compareOp .NotEq (.ref a) (.ref b)) Q E s :=
  ne_strsN (vb := []) N ha hb hi .nil oa (fun x hx => by cases hx) hu (by rw [decide_eq_false he]; exact h)
end
structure DSt where
  a : List Str
  b : List Str
  t : List Str
inductive DueStep (k : Int) : DSt → DSt → Prop
  | pour (st : DSt) : k.fmod 4 = 3 → DueStep k st ⟨st.a ++ st.b, [], st.t⟩
  | one (st : DSt) : k.fmod 4 = 1 → DueStep k st ⟨st.a ++ [dueName k], st.b, st.t⟩
  | two (st : DSt) : k.fmod 4 = 2 → DueStep k st ⟨st.a, st.b ++ [dueName k], st.t⟩
  | idle (st : DSt) : k.fmod 4 = 0 → st.a = [] → DueStep k st st
  | take (st : DSt) (pre : List Str) (x : Str) (post : List Str) : k.fmod 4 = 0 → st.a = pre ++ x :: post → x ∉ pre → (∀ y ∈ st.a, ltS y x = false) → DueStep k st ⟨pre ++ post, st.b, st.t ++ [x]⟩
inductive DueRun : List Int → DSt → Prop
  | nil : DueRun [] ⟨[], [], []⟩
  | snoc {ns st k st'} : DueRun ns st → DueStep k st st' → DueRun (ns ++ [k]) st'
def cDue : Con TapeD where
  pre := fun d news vs => vs = [.ref d.l] ∧ (d.l, listOf d.vs.toArray d.n) ∈ news ∧ IntsAre d.vs d.ns ∧ d.ns.length = 12 ∧ (∀ k ∈ d.ns, 0 ≤ k ∧ k < 448)
  cost := fun _ => 12
  post := fun d news r news' => Grow news news' ∧ ∃ D vs n st srt, r = .ref D ∧ (D, listOf vs.toArray n) ∈ news' ∧ StrsAre vs (st.t ++ srt) ∧ DueRun d.ns st ∧ srt.Perm (st.a ++ st.b) ∧ sortedS srt = true ∧ AllOk (st.t ++ srt)
def JDue (d : TapeD) (nw : List (Addr × Obj)) (I : Addr) (i : Nat) (m : Str → Option Value) (news : List (Addr × Obj)) : Prop :=
  ∃ (st : DSt) (la A B ta : Addr) (va vb vt : List Value) (na nb nt nl : Nat), m "lists" = some (.ref la) ∧ m "taken" = some (.ref ta) ∧ (la, listOf #[.ref A, .ref B] nl) ∈ news ∧ (A, listOf va.toArray na) ∈ news ∧ (B, listOf vb.toArray nb) ∈ news ∧ (ta, listOf vt.toArray nt) ∈ news ∧
    StrsAre va st.a ∧ StrsAre vb st.b ∧ StrsAre vt st.t ∧ st.a.length + st.b.length + st.t.length ≤ i ∧ DueRun (d.ns.take i) st ∧ (AllOk st.a ∧ AllOk st.b ∧ AllOk st.t) ∧ (d.l, listOf d.vs.toArray d.n) ∈ news ∧ (∀ p ∈ nw, p ∈ news) ∧ (∀ p ∈ nw, p.1 ≠ I ∧ p.1 ≠ la ∧ p.1 ≠ A ∧ p.1 ≠ B ∧ p.1 ≠ ta) ∧
    (I ≠ la ∧ I ≠ A ∧ I ≠ B ∧ I ≠ ta ∧ la ≠ A ∧ la ≠ B ∧ la ≠ ta ∧ A ≠ B ∧ A ≠ ta ∧ B ≠ ta)
theorem due_next {ns : List Int} {i : Nat} {k : Int} {st st' : DSt} (hk : ns[i]? = some k) (r : DueRun (ns.take i) st) (e : DueStep k st st') : DueRun (ns.take (i + 1)) st' := by
  rw [List.take_succ, hk]; exact .snoc r e
theorem allOk_app {a b : List Str} (h : AllOk a) (k : AllOk b) : AllOk (a ++ b) := fun x hx => (List.mem_append.mp hx).elim (h x) (k x)
theorem allOk_one {x : Str} (h : PyData.strOk x = true) : AllOk [x] := fun y hy => by rw [List.mem_singleton.mp hy]; exact h
theorem allOk_cut {a pre post : List Str} {x : Str} (h : a = pre ++ x :: post) (k : AllOk a) : AllOk (pre ++ post) := fun y hy => k y (by subst h; rcases List.mem_append.mp hy with q | q; exact List.mem_append.mpr (.inl q); exact List.mem_append.mpr (.inr (.tail _ q)))
theorem ta_mem {news : List (Addr × Obj)} {a : Addr} {vs : List Value} {v : Value} {n : Nat} (h : (a, listOf (vs.toArray.push v) n) ∈ news) : (a, listOf (vs ++ [v]).toArray n) ∈ news := push_list h
theorem JDue.keep (d : TapeD) (nw : List (Addr × Obj)) (hl0 : (d.l, listOf d.vs.toArray d.n) ∈ nw) : ∀ I i m a b, Keep I a b → ItKeep a b → JDue d nw I i m a → JDue d nw I i m b := by
  rintro I i m a b k _ ⟨st, la, A, B, ta, va, vb, vt, na, nb, nt, nl, m1, m2, j1, j2, j3, j4, j5, j6, j7, hz, hrun, ok, j8, j9, j10, q1, q2, q3, q4, q⟩
  exact ⟨st, la, A, B, ta, va, vb, vt, na, nb, nt, nl, m1, m2, k _ j1 q1.symm, k _ j2 q2.symm, k _ j3 q3.symm, k _ j4 q4.symm, j5, j6, j7, hz, hrun, ok, k _ j8 (j10 _ hl0).1, fun p hp => k _ (j9 p hp) (j10 p hp).1, j10, q1, q2, q3, q4, q⟩
local macro_rules | `(tactic| k_mem) => `(tactic| first | exact List.Mem.head _ | with_reducible assumption | (refine' List.mem_cons_of_mem _ ?_; k_mem) | (refine' keep_up ?g ?_ ?n; (case g => with_reducible assumption); (case n => first | assumption | (apply Ne.symm; assumption)); k_mem))
local macro_rules | `(tactic| walk_at "call ref") => `(tactic| (k_here; (with_reducible show wpAny _ _ (call (Value.ref 89) _ _) _ _ _); k_dflt (refine' dueN_use ?k1 ?k2 ?k3 ?k4 ?k5 ?kK ?h0 ?h1 ?kd ?ku ?_; (case k1 | k2 | k3 | k4 | k5 => k_asm); (case kK => first | exact rfl | assumption); (case h0 | h1 => assumption); (case kd => ktr_room); (case ku => ktr_units); intro t9 h9 tk9 F9 N9; (try dsimp only); (try k_fold))))
local macro_rules | `(tactic| walk_at "call builtin:list.append") => `(tactic| (k_here; (with_reducible show wpAny _ _ (call (Value.builtin _) [Value.ref _, _]) _ _ _); k_dflt (refine' append_any ?k1 ?k2 ?k3 ?_ ?z; (case k1 | k2 => k_asm); (case k3 => first | with_reducible assumption | exact push_list (by with_reducible assumption) | k_mem); (case z => (simp only [Array.size_push, List.size_toArray, List.length_append, List.length_singleton]; rw [sizeLine_eq]; omega)); k_whole); intro h9 news9 F9 N9 m9 k9 t9))
local macro_rules | `(tactic| walk_at "subscriptTail") => `(tactic| (k_here; (with_reducible show wpAny _ _ (subscriptTail _ _ (Value.ref _) (Value.int _ _)) _ _ _); k_dflt (refine' lsub ?k1 ?k2 ?k3 ?_ rfl; (case k1 => k_asm); (case k2 => k_mem); (case k3 => first | exact Or.inl ⟨by omega, rfl⟩ | exact Or.inr ⟨by omega, rfl⟩))))
local macro_rules | `(tactic| walk_at "binaryOp Add ref ref") => `(tactic| (k_here; (with_reducible show wpAny _ _ (binaryOp _ (Value.ref _) (Value.ref _)) _ _ _); k_dflt (refine' add_listsN ?k1 ?k2 ?k3 ?k4 ?z ?_; (case k1 | k2 => k_asm); (case k3 | k4 => k_mem); (case z => (simp only [List.length_append] at *; rw [sizeLine_eq]; omega)); k_whole); intro D9 h9 F9 N9 l9))
local macro_rules | `(tactic| walk_at "compareOp NotEq ref ref") => `(tactic| (k_here; (with_reducible show wpAny _ _ (compareOp _ (Value.ref _) (Value.ref _)) _ _ _); k_dflt ((first | refine' ne_nilF ?k1 ?k3 ?k4 ?k5 ?k6 ?ku (by assumption) ?_ | refine' ne_nilT ?k1 ?k3 ?k4 ?k5 ?k6 ?ku (by assumption) ?_); (case k1 => k_asm); (case k3 | k4 => k_mem); (case k5 | k6 => assumption); (case ku => ktr_units); k_whole)))
local macro_rules | `(tactic| walk_at "call builtin:min") => `(tactic| (k_here; (with_reducible show wpAny _ _ (call (Value.builtin _) [Value.ref _]) _ _ _); k_dflt (refine' min_strN2 rfl ?k1 ?k2 ?k3 ?k4 (by assumption) ?_; (case k1 | k2 => k_asm); (case k3 => k_mem); (case k4 => assumption); k_whole); intro h9 tk9 t9 F9 N9))
local macro_rules | `(tactic| walk_at "call builtin:list.remove") => `(tactic| (k_here; (with_reducible show wpAny _ _ (call (Value.builtin _) [Value.ref _, Value.str _ _]) _ _ _); k_dflt (refine' remove_strN ?k1 ?k2 ?k3 ?k4 (by assumption) (by assumption) ?z ?_; (case k1 | k2 => k_asm); (case k3 => k_mem); (case k4 => assumption); (case z => (rw [sizeLine_eq]; omega)); k_whole); intro h9 news9 va9 na9 F9 N9 m9 i9 k9 t9))
local macro_rules | `(tactic| walk_at "call builtin:sorted") => `(tactic| (k_here; (with_reducible show wpAny _ _ (call (Value.builtin _) [Value.ref _]) _ _ _); k_dflt (refine' sorted_strN ?k1 ?k2 ?k3 ?k4 ?z ?_; (case k1 | k2 => k_asm); (case k3 => k_mem); (case k4 => exact strsAre_append (by assumption) (by assumption)); (case z => (simp only [List.length_append]; omega)); k_whole); intro h9 D9 vs9 ss9 e9 F9 N9 i9 p9 s9 l9; have hl9 := p9.length_eq; have hl8 := StrsAre.length i9))
local macro_rules | `(tactic| walk_at "exec For Name Name cons nil") => `(tactic| (k_here; refine hold_intro ?_))
set_option maxRecDepth 100000 in
set_option maxHeartbeats 8000000 in
theorem due_ok (w : World) (mean : ExcName → Option Value) (mg mb : Str → Option Value) (d) : Sat w mean mg mb 117 cDue d := by
  unfold Sat
  w_top off
  k_fill
  intro dp un gd cn cs a ccd cl outer A₀ base h₀ L m news s vs Q E B F X N T hk hpre hd hu hret
  obtain ⟨rfl, h0, h1, h2, h3⟩ := hpre
  simp only [cDue] at hd hu
  have hvl := h1.length
  refine wpAny_call ?_
  k_dflt ktr_enter
  refine wpAny_noRaise ?_
  k_steps
  refine wpAny_For ?_
  walk1
  (rename Fr _ _ _ _ => F9)
  (rename News _ _ _ _ => N9)
  (rename _ < _ ∧ _ < _ ∧ _ < _ ∧ AllLt _ _ => l1d)
  (rename _ < _ ∧ _ < _ ∧ AllLt _ _ => l1c)
  (rename _ < _ ∧ AllLt _ _ => l1b)
  (rename ∀ p ∈ news, _ => l1a)
  refine for_iter (JDue d news) rfl F9 N9 (by k_mem) ?_ (JDue.keep d news h0) ?_ ?_ PassesOwn.never
  · intro I hI
    have i2 := hI _ (List.Mem.head _)
    dsimp only at i2
    obtain ⟨b1, _⟩ := l1b
    obtain ⟨c1, c2, _⟩ := l1c
    obtain ⟨d1, d2, d3, _⟩ := l1d
    refine ⟨⟨[], [], []⟩, _, _, _, _, [], [], [], _, _, _, _, rfl, rfl, by k_mem, by k_mem, by k_mem, by k_mem, .nil, .nil, .nil, Nat.zero_le _, .nil, ⟨nofun, nofun, nofun⟩, by k_mem, fun p hp => by k_mem, fun p hp => ?_, ?_⟩
    · have := l1a p hp
      refine ⟨?_, ?_, ?_, ?_, ?_⟩ <;> (unfold Addr at *; omega)
    · refine ⟨?_, ?_, ?_, ?_, ?_, ?_, ?_, ?_, ?_, ?_⟩ <;> (unfold Addr at *; omega)
  · intro I i v m news1 h tk oI hv hJ F N hl hI hO
    obtain ⟨st, la, A, B, ta, va, vb, vt, na, nb, nt, nl, m1, m2, j1, j2, j3, j4, j5, j6, j7, hz, hrun, ⟨ok1, ok2, ok3⟩, j8, j9, j10, q1, q2, q3, q4, q5, q6, q7, q8, q9, q10⟩ := hJ
    obtain ⟨k, t, rfl, hk9⟩ := h1.at i v hv
    have hi9 : i < 12 := by have := (List.getElem?_eq_some_iff.mp hk9).1; omega
    obtain ⟨k0, k1⟩ := h3 k (List.mem_of_getElem? hk9)
    replace F := fr_put3 F m1 m2 m2
    have ha := j5.length
    have hb := j6.length
    have ht := j7.length
    have d1 := (j10 _ h0).1
    have d2 := (j10 _ h0).2.1
    have d3 := (j10 _ h0).2.2.1
    have d4 := (j10 _ h0).2.2.2.1
    have d5 := (j10 _ h0).2.2.2.2
    have hcase : k.fmod 4 = 0 ∨ k.fmod 4 = 1 ∨ k.fmod 4 = 2 ∨ k.fmod 4 = 3 := by
      rw [Int.fmod_eq_emod_of_nonneg _ (by decide)]; omega
    rcases hcase with hc | hc | hc | hc
    · by_cases hae : st.a = []
      · k_steps
        all_goals first | (exfalso; omega) | skip
        · refine TurnEnd.go (by k_asm) (by k_asm) (by k_mem) (by k_mem) (by assumption) ?_
          exact ⟨st, la, A, B, ta, va, vb, vt, na, nb, nt, nl, rfl, rfl, by k_mem, by k_mem, by k_mem, by k_mem, j5, j6, j7, by omega, due_next hk9 hrun (.idle st hc hae), ⟨ok1, ok2, ok3⟩, by k_mem, (fun p hp => by have h8 := j9 p hp; obtain ⟨p1, p2, p3, p4, p5⟩ := j10 p hp; k_mem), j10, ⟨q1, q2, q3, q4, q5, q6, q7, q8, q9, q10⟩⟩
      · obtain ⟨lm, lmin⟩ := leastS_spec st.a hae
        obtain ⟨pre, post, hsp, hno⟩ := List.eq_append_cons_of_mem lm
        k_steps
        all_goals first | (exfalso; omega) | skip
        · refine TurnEnd.go (by k_asm) (by k_asm) (by k_mem) (by k_mem) (by assumption) ?_
          refine ⟨⟨pre ++ post, st.b, st.t ++ [leastS st.a]⟩, la, A, B, ta, _, vb, _, _, nb, _, nl, rfl, rfl, by k_mem, by k_mem, by k_mem, ta_mem (by k_mem), by assumption, j6, strsAre_append j7 (.cons _ _ .nil), ?_, due_next hk9 hrun (.take st pre _ post hc hsp hno lmin), ⟨allOk_cut hsp ok1, ok2, allOk_app ok3 (allOk_one (ok1 _ lm))⟩, by k_mem, (fun p hp => by have h8 := j9 p hp; obtain ⟨p1, p2, p3, p4, p5⟩ := j10 p hp; k_mem), j10, ⟨q1, q2, q3, q4, q5, q6, q7, q8, q9, q10⟩⟩
          have := congrArg List.length hsp
          simp only [List.length_append, List.length_cons, List.length_nil] at this ⊢
          omega
    · k_steps
      all_goals first | (exfalso; omega) | skip
      · refine TurnEnd.go (by k_asm) (by k_asm) (by k_mem) (by k_mem) (by assumption) ?_
        refine ⟨⟨st.a ++ [dueName k], st.b, st.t⟩, la, A, B, ta, _, vb, vt, _, nb, nt, nl, rfl, rfl, by k_mem, push_list (by assumption), by k_mem, by k_mem, strsAre_append j5 (.cons _ _ .nil), j6, j7, ?_, due_next hk9 hrun (.one st hc), ⟨allOk_app ok1 (allOk_one (dueName_ok k0 k1)), ok2, ok3⟩, by k_mem, (fun p hp => by have h8 := j9 p hp; obtain ⟨p1, p2, p3, p4, p5⟩ := j10 p hp; k_mem), j10, ⟨q1, q2, q3, q4, q5, q6, q7, q8, q9, q10⟩⟩
        simp only [List.length_append, List.length_cons, List.length_nil]
        omega
    · k_steps
      all_goals first | (exfalso; omega) | skip
      · refine TurnEnd.go (by k_asm) (by k_asm) (by k_mem) (by k_mem) (by assumption) ?_
        refine ⟨⟨st.a, st.b ++ [dueName k], st.t⟩, la, A, B, ta, va, _, vt, na, _, nt, nl, rfl, rfl, by k_mem, by k_mem, push_list (by assumption), by k_mem, j5, strsAre_append j6 (.cons _ _ .nil), j7, ?_, due_next hk9 hrun (.two st hc), ⟨ok1, allOk_app ok2 (allOk_one (dueName_ok k0 k1)), ok3⟩, by k_mem, (fun p hp => by have h8 := j9 p hp; obtain ⟨p1, p2, p3, p4, p5⟩ := j10 p hp; k_mem), j10, ⟨q1, q2, q3, q4, q5, q6, q7, q8, q9, q10⟩⟩
        simp only [List.length_append, List.length_cons, List.length_nil]
        omega
    · k_steps
      all_goals first | (exfalso; omega) | skip
      · (rename _ < _ ∧ _ < _ ∧ AllLt _ news1 => la2)
        (rename _ < _ ∧ AllLt _ news1 => la1)
        (rename ∀ p ∈ news1, _ => l9)
        obtain ⟨b1, _⟩ := la1
        obtain ⟨c1, c2, _⟩ := la2
        have i1 := l9 _ hI
        have i2 := l9 _ j4
        dsimp only at i1 i2
        refine TurnEnd.go (by k_asm) (by k_asm) (by k_mem) (by k_mem) (by assumption) ?_
        refine ⟨⟨st.a ++ st.b, [], st.t⟩, _, _, _, ta, _, [], vt, _, _, nt, _, rfl, rfl, by k_mem, by k_mem, by k_mem, by k_mem, strsAre_append j5 j6, .nil, j7, ?_, due_next hk9 hrun (.pour st hc), ⟨allOk_app ok1 ok2, nofun, ok3⟩, by k_mem, (fun p hp => by have h8 := j9 p hp; obtain ⟨p1, p2, p3, p4, p5⟩ := j10 p hp; k_mem), fun p hp => ?_, ?_⟩
        · simp only [List.length_append, List.length_nil]
          omega
        · have h8 := j9 p hp
          obtain ⟨p1, p2, p3, p4, p5⟩ := j10 p hp
          have := l9 p h8
          refine ⟨p1, ?_, ?_, ?_, p5⟩ <;> (unfold Addr at *; omega)
        · refine ⟨?_, ?_, ?_, q4, ?_, ?_, ?_, ?_, ?_, ?_⟩ <;> (unfold Addr at *; omega)
  · intro I m news1 h tk hJ F N
    obtain ⟨st, la, A, B, ta, va, vb, vt, na, nb, nt, nl, m1, m2, j1, j2, j3, j4, j5, j6, j7, hz, hrun, ⟨ok1, ok2, ok3⟩, j8, j9, j10, q1, q2, q3, q4, q5, q6, q7, q8, q9, q10⟩ := hJ
    replace F := fr_put3 F m1 m2 m2
    have ha := j5.length
    have hb := j6.length
    have ht := j7.length
    have d1 := (j10 _ h0).1
    have d2 := (j10 _ h0).2.1
    have d3 := (j10 _ h0).2.2.1
    have d4 := (j10 _ h0).2.2.2.1
    have d5 := (j10 _ h0).2.2.2.2
    rw [hvl, h2] at hz
    k_steps
    (rename List.Perm _ _ => p9)
    (rename StrsAre _ _ => i9)
    (rename sortedS _ = true => s9)
    refine hret _ _ _ _ (by k_asm) (by k_asm) ⟨⟨fun p hp => by have h8 := j9 p hp; k_mem, trivial⟩, _, _, _, st, _, rfl, by k_mem, strsAre_append j7 i9, ?_, p9, s9, allOk_app ok3 fun x hx => (allOk_app ok1 ok2) x (p9.mem_iff.mp hx)⟩
    rwa [hvl, List.take_length] at hrun
end Mine
end
section
open PySem PySem.W PySem.Calls PySem.Spec PyProof.Rows
set_option Elab.async false
set_option linter.unusedVariables false
namespace Mine
/-- the order of the texts -/
def leS (x y : Str) : Prop := x.cps.toList ≤ y.cps.toList
theorem leS_of {x y : Str} (h : ¬ y.cps.toList < x.cps.toList) : leS x y := List.not_lt.mp h
theorem leS_refl (x : Str) : leS x x := leS_of (List.lt_irrefl _)
theorem leS_trans {x y z : Str} (h : leS x y) (k : leS y z) : leS x z := List.le_trans h k
theorem leS_lt {x y : Str} (h : x.cps.toList < y.cps.toList) : leS x y := List.le_of_lt h
theorem leS_antisymm {x y : Str} (h : leS x y) (k : leS y x) : x = y := Str.ext' (Array.toList_inj.mp (List.le_antisymm h k))
theorem leS_ltS {x y : Str} (h : ltS y x = false) : leS x y := leS_of (of_decide_eq_false h)
theorem risingS_pairwise : ∀ (l : List Str) (p : Str), risingS p l = true → (p :: l).Pairwise leS
  | [], p, _ => List.pairwise_singleton _ _
  | x :: r, p, h => by
    have h' : (!ltCps x.cps.toList p.cps.toList && risingS x r) = true := h
    rw [Bool.and_eq_true] at h'
    have h1 := risingS_pairwise r x h'.2
    have h2 : leS p x := leS_of (by have := h'.1; rw [ltCps_eq] at this; simpa using this)
    refine List.pairwise_cons.mpr ⟨fun y hy => ?_, h1⟩
    rcases List.mem_cons.mp hy with rfl | hy
    · exact h2
    · exact leS_trans h2 ((List.pairwise_cons.mp h1).1 y hy)
theorem sortedS_pairwise : ∀ (l : List Str), sortedS l = true → l.Pairwise leS
  | [], _ => .nil
  | x :: r, h => risingS_pairwise r x h
namespace Tr
def elems : Tr → List Str
  | .leaf => []
  | .node l x r => x :: (l.elems ++ r.elems)
def Heap : Tr → Prop
  | .leaf => True
  | .node l x r => (∀ y ∈ l.elems ++ r.elems, leS x y) ∧ l.Heap ∧ r.Heap
theorem elems_length (t : Tr) : t.elems.length = t.size := by
  induction t with
  | leaf => rfl
  | node l x r h1 h2 => simp only [elems, size, List.length_cons, List.length_append, h1, h2]
theorem meld_elems (t1 t2 : Tr) : (t1.meld t2).1.elems.Perm (t1.elems ++ t2.elems) := by
  refine Tr.meld_rec (P := fun a b m => m.1.elems.Perm (a.elems ++ b.elems)) ?_ ?_ ?_ ?_ t1 t2
  · intro b; simp [elems]
  · intro l x r; simp [elems]
  · intro l x r l' y r' _ h
    rw [List.perm_iff_count] at h ⊢
    intro z
    have := h z
    simp only [elems, List.count_append, List.count_cons] at this ⊢
    omega
  · intro l x r l' y r' _ h
    rw [List.perm_iff_count] at h ⊢
    intro z
    have := h z
    simp only [elems, List.count_append, List.count_cons] at this ⊢
    omega
theorem Heap.root {l r : Tr} {x : Str} (h : (Tr.node l x r).Heap) : ∀ y ∈ (Tr.node l x r).elems, leS x y := by
  intro y hy
  rcases List.mem_cons.mp hy with rfl | hy
  · exact leS_refl _
  · exact h.1 y hy
theorem meld_heap (t1 t2 : Tr) : t1.Heap → t2.Heap → (t1.meld t2).1.Heap := by
  refine (Tr.meld_rec (P := fun a b m => m.1.elems.Perm (a.elems ++ b.elems) ∧ (a.Heap → b.Heap → m.1.Heap)) ?_ ?_ ?_ ?_ t1 t2).2
  · intro b; exact ⟨by simp [elems], fun _ h => h⟩
  · intro l x r; exact ⟨by simp [elems], fun h _ => h⟩
  · intro l x r l' y r' hlt ⟨p, h⟩
    have p0 := meld_elems (.node l x r) (.node l' y r')
    rw [meld_lt hlt] at p0
    refine ⟨p0, fun h1 h2 => ⟨fun z hz => ?_, h h2.2.2 h1, h2.2.1⟩⟩
    rcases List.mem_append.mp hz with hz | hz
    · rcases List.mem_append.mp (p.mem_iff.mp hz) with hz | hz
      · exact h2.1 z (List.mem_append_right _ hz)
      · exact leS_trans (leS_lt hlt) (h1.root z hz)
    · exact h2.1 z (List.mem_append_left _ hz)
  · intro l x r l' y r' hge ⟨p, h⟩
    have p0 := meld_elems (.node l x r) (.node l' y r')
    rw [meld_ge hge] at p0
    refine ⟨p0, fun h1 h2 => ⟨fun z hz => ?_, h h1.2.2 h2, h1.2.1⟩⟩
    rcases List.mem_append.mp hz with hz | hz
    · rcases List.mem_append.mp (p.mem_iff.mp hz) with hz | hz
      · exact h1.1 z (List.mem_append_right _ hz)
      · exact leS_trans (leS_of hge) (h2.root z hz)
    · exact h1.1 z (List.mem_append_left _ hz)
theorem one_heap (x : Str) : (Tr.node .leaf x .leaf).Heap := ⟨nofun, trivial, trivial⟩
end Tr
theorem drain_all : ∀ (n : Nat) (t : Tr), t.size = n → t.Heap → (drain n t).Perm t.elems ∧ (drain n t).Pairwise leS
  | 0, .leaf, _, _ => ⟨.refl _, .nil⟩
  | 0, .node l x r, h, _ => by simp [Tr.size] at h
  | n + 1, .leaf, h, _ => by simp [Tr.size] at h
  | n + 1, .node l x r, h, hp => by
    have hs : (l.meld r).1.size = n := by rw [meld_size]; simp only [Tr.size] at h; omega
    obtain ⟨h1, h2⟩ := drain_all n (l.meld r).1 hs (Tr.meld_heap _ _ hp.2.1 hp.2.2)
    have h3 := h1.trans (Tr.meld_elems l r)
    exact ⟨h3.cons x, List.pairwise_cons.mpr ⟨fun y hy => hp.1 y (h3.mem_iff.mp hy), h2⟩⟩
def toldOf (k : Int) : Int × Str := (k.fmod 4, dueName k)
/-- the heaps hold what the lists hold -/
structure Holds2 (s : St) (d : DSt) : Prop where
  h1 : s.t1.Heap
  h2 : s.t2.Heap
  p1 : s.t1.elems.Perm d.a
  p2 : s.t2.elems.Perm d.b
  e : s.tk = d.t
theorem holds_step {s : St} {d d' : DSt} {k : Int} (H : Holds2 s d) (e : DueStep k d d') : Holds2 (s.step (toldOf k)) d' := by
  obtain ⟨h1, h2, p1, p2, e1⟩ := H
  cases e with
  | pour hk =>
    have : s.step (toldOf k) = { s with t1 := (s.t1.meld s.t2).1, t2 := .leaf } := by
      unfold St.step toldOf; rw [hk]; rfl
    rw [this]
    exact ⟨Tr.meld_heap _ _ h1 h2, trivial, (Tr.meld_elems _ _).trans (p1.append p2), .nil, e1⟩
  | one hk =>
    have : s.step (toldOf k) = { s with t1 := (s.t1.meld (.node .leaf (dueName k) .leaf)).1 } := by
      unfold St.step toldOf; rw [hk]; rfl
    rw [this]
    exact ⟨Tr.meld_heap _ _ h1 (Tr.one_heap _), h2, (Tr.meld_elems _ _).trans (p1.append (.refl _)), p2, e1⟩
  | two hk =>
    have : s.step (toldOf k) = { s with t2 := (s.t2.meld (.node .leaf (dueName k) .leaf)).1 } := by
      unfold St.step toldOf; rw [hk]; rfl
    rw [this]
    exact ⟨h1, Tr.meld_heap _ _ h2 (Tr.one_heap _), p1, (Tr.meld_elems _ _).trans (p2.append (.refl _)), e1⟩
  | idle hk ha =>
    rw [ha] at p1
    obtain ⟨t1, t2, tk⟩ := s
    cases t1 with
    | leaf =>
      have : St.step ⟨.leaf, t2, tk⟩ (toldOf k) = ⟨.leaf, t2, tk⟩ := by
        unfold St.step toldOf; rw [hk]; rfl
      rw [this]
      exact ⟨h1, h2, by rw [ha]; exact p1, p2, e1⟩
    | node l x r => exact absurd p1.length_eq (by simp [Tr.elems])
  | take pre x post hk ha hno hmin =>
    obtain ⟨t1, t2, tk⟩ := s
    dsimp only at h1 h2 p1 p2 e1
    cases t1 with
    | leaf =>
      have := p1.length_eq
      rw [ha] at this
      simp [Tr.elems] at this
    | node l y r =>
      have : St.step ⟨.node l y r, t2, tk⟩ (toldOf k) = ⟨(l.meld r).1, t2, tk ++ [y]⟩ := by
        unfold St.step toldOf; rw [hk]; rfl
      rw [this]
      have hyx : y = x := by
        refine leS_antisymm (h1.root x (p1.mem_iff.mpr (by rw [ha]; simp))) (leS_ltS (hmin y (p1.mem_iff.mp (by simp [Tr.elems]))))
      subst hyx
      have p3 : (y :: (l.elems ++ r.elems)).Perm (y :: (pre ++ post)) := p1.trans (by rw [ha]; exact List.perm_middle)
      exact ⟨Tr.meld_heap _ _ h1.2.1 h1.2.2, h2, (Tr.meld_elems _ _).trans p3.cons_inv, p2, by rw [e1]⟩
theorem holds_run {xs : List Int} {d : DSt} (run : DueRun xs d) : Holds2 ((xs.map toldOf).foldl St.step St0) d := by
  induction run with
  | nil => exact ⟨trivial, trivial, .nil, .nil, rfl⟩
  | snoc _ e ih =>
    rw [List.map_append, List.foldl_append]
    exact holds_step ih e
theorem plain_done {xs : List Int} (hb : ∀ k ∈ xs, 0 ≤ k ∧ k < 448) {st : DSt} {srt : List Str} (run : DueRun xs st) (p : srt.Perm (st.a ++ st.b)) (hs : sortedS srt = true) : doneOf (xs.map toldOf) = st.t ++ srt := by
  obtain ⟨h1, h2, p1, p2, e⟩ := holds_run run
  unfold doneOf
  dsimp only
  generalize (xs.map toldOf).foldl St.step St0 = s at *
  obtain ⟨q1, q2⟩ := drain_all _ (s.t1.meld s.t2).1 rfl (Tr.meld_heap _ _ h1 h2)
  rw [e]
  congr 1
  refine List.Perm.eq_of_pairwise (le := leS) (fun a b _ _ h k => leS_antisymm h k) q2 (sortedS_pairwise _ hs) ?_
  exact (q1.trans (Tr.meld_elems _ _)).trans ((p1.append p2).trans p.symm)
end Mine
end
section
open PySem PySem.W PySem.Calls PySem.Spec PyProof.Rows
set_option Elab.async false
set_option linter.unusedVariables false
namespace Mine
section
variable {w : World} {mean : ExcName → Option Value} {mg mb : Str → Option Value} {dp un : Nat} {gd : Option (List Code)} {cn : Str} {cs : Scope} {a : Addr} {ccd : Value} {cl : List (Str × Addr)} {outer : List Env} {A₀ : Around} {base h₀ : Heap} {L : Addr} {m : Str → Option Value} {news : List (Addr × Obj)} {s : Shared} {k : Int} {t : Tok} {Q E : Value → Shared → Prop}
theorem drawn_use {l : Addr} {vs : List Value} {ns : List Int} (B : Below A₀ base outer h₀) (F : Fr h₀ L s.heap m) (X : (Mine.hd.heap_39 w.params).In h₀) (N : News h₀ L s.heap news) (T : Top Mine.hd.view_39 (looseW Mine.hd.view_39 []) mean mg mb h₀) (hk : cs.kind = .function)
    (hl : h₀.IsList l vs.toArray) (hi : IntsAre vs ns) (hz : ns.length ≤ 63) (hd : dp + 1 < recursionLimit) (hu : un + 8 * 1 < cLine)
    (ret : ∀ D vs' xs n' h' tk', Fr h₀ L h' m → News h₀ L h' ((D, listOf vs'.toArray n') :: news) → IntsAre vs' xs → xs.length = 12 → (∀ k ∈ xs, 0 ≤ k ∧ k < 448) → (∀ p ∈ news, p.1 < D) → Q (.ref D) { s with heap := h', toks := tk' }) :
    wpAny (model PySem.Challenge.rw_tr0014_01.row.prog w) (ktrTop dp un gd cn cs L a ccd cl outer) (call (.ref 56) [.ref l]) Q E s := by
  refine drawn_ok w mean mg mb _ _ _ _ _ _ _ _ _ _ _ _ _ _ _ _ _ _ _ _ _ B F X N T hk hl hi hz hd hu ?_
  rintro r news' h' tk' F' N' ⟨D, vs', xs, n', rfl, rfl, h1, h2, h3, h4⟩
  exact ret D vs' xs n' h' tk' F' N' h1 h2 h3 h4
theorem tape_use {D : Addr} {vs : List Value} {n : Nat} {xs : List Int} (B : Below A₀ base outer h₀) (F : Fr h₀ L s.heap m) (X : (Mine.hd.heap_39 w.params).In h₀) (N : News h₀ L s.heap news) (T : Top Mine.hd.view_39 (looseW Mine.hd.view_39 []) mean mg mb h₀) (hk : cs.kind = .function)
    (hl : (D, listOf vs.toArray n) ∈ news) (hi : IntsAre vs xs) (hz : xs.length = 12) (hb : ∀ k ∈ xs, 0 ≤ k ∧ k < 448) (hd : dp + 2 < recursionLimit) (hu : un + 8 * 2 < cLine)
    (ret : ∀ o vs' n' news' h' tk', Fr h₀ L h' m → News h₀ L h' news' → Grow news news' → (o, listOf vs'.toArray n') ∈ news' → IntsAre vs' (xs.flatMap enc) → (∀ p ∈ news, p.1 < o) → Q (.ref o) { s with heap := h', toks := tk' }) :
    wpAny (model PySem.Challenge.rw_tr0014_01.row.prog w) (ktrTop dp un gd cn cs L a ccd cl outer) (call (.ref 63) [.ref D]) Q E s := by
  refine sat_use (tape_ok w mean mg mb ⟨D, vs, xs, n⟩) B F X N T hk ⟨rfl, hl, hi, hz, hb⟩ hd hu ?_
  rintro r news' h' tk' F' N' ⟨g, o, vs', n', rfl, h1, h2, h3⟩
  exact ret o vs' n' news' h' tk' F' N' g h1 h2 h3
theorem var_use {R l : Addr} {i : Nat} {vs : List Value} {n : Nat} {oI : Obj} (B : Below A₀ base outer h₀) (F : Fr h₀ L s.heap m) (X : (Mine.hd.heap_39 w.params).In h₀) (N : News h₀ L s.heap news) (T : Top Mine.hd.view_39 (looseW Mine.hd.view_39 []) mean mg mb h₀) (hk : cs.kind = .function)
    (hI : (R, oI) ∈ news) (hO : IterO l i oI) (hl : (l, listOf vs.toArray n) ∈ news) (hv : VarAt vs i k) (h0 : 0 ≤ k) (h1 : k < 448) (hd : dp + 2 < recursionLimit) (hu : un + 8 * 2 < cLine)
    (ret : ∀ oI' t news' h' tk', Fr h₀ L h' m → News h₀ L h' news' → Keep R news news' → TupKeep news news' → (R, oI') ∈ news' → IterO l (i + wide k) oI' → Q (.int k t) { s with heap := h', toks := tk' }) :
    wpAny (model PySem.Challenge.rw_tr0014_01.row.prog w) (ktrTop dp un gd cn cs L a ccd cl outer) (call (.ref 35) [.ref R]) Q E s := by
  refine sat_use (var_ok w mean mg mb ⟨R, l, i, vs, n, k⟩) B F X N T hk ⟨rfl, ⟨oI, hI, hO⟩, hl, h0, h1, hv⟩ hd hu ?_
  rintro r news' h' tk' F' N' ⟨g, g2, ⟨o', a1, a2⟩, t, rfl⟩
  exact ret o' t news' h' tk' F' N' g (fun p hp hc => g2 p hp (by rw [hc]; decide)) a1 a2
theorem paint_use (B : Below A₀ base outer h₀) (F : Fr h₀ L s.heap m) (X : (Mine.hd.heap_39 w.params).In h₀) (N : News h₀ L s.heap news) (T : Top Mine.hd.view_39 (looseW Mine.hd.view_39 []) mean mg mb h₀) (hk : cs.kind = .function)
    (h0 : 0 ≤ k) (h1 : k < 448) (hd : dp + 3 < recursionLimit) (hu : un + 8 * 3 < cLine)
    (ret : ∀ P t1 t2 t3 n news' h' tk', (t1 ≠ 0 ∧ t2 ≠ 0 ∧ t3 ≠ 0) → Fr h₀ L h' m → News h₀ L h' news' → Grow news news' → (P, ({ cls := .type "tuple", data := .seq #[.float (paintR k) t1, .float (paintG k) t2, .float (paintB k) t3] n } : Obj)) ∈ news' → Q (.ref P) { s with heap := h', toks := tk' }) :
    wpAny (model PySem.Challenge.rw_tr0014_01.row.prog w) (ktrTop dp un gd cn cs L a ccd cl outer) (call (.ref 70) [.int k t]) Q E s := by
  refine sat_use (painted_ok w mean mg mb k) B F X N T hk ⟨⟨_, rfl⟩, h0, h1⟩ hd hu ?_
  rintro r news' h' tk' F' N' ⟨g, a, t1, t2, t3, n, ht, rfl, h1⟩
  exact ret _ _ _ _ _ _ _ _ ht F' N' g h1
theorem name_use {P : Addr} {t1 t2 t3 : Tok} {n : Nat} (B : Below A₀ base outer h₀) (F : Fr h₀ L s.heap m) (X : (Mine.hd.heap_39 w.params).In h₀) (N : News h₀ L s.heap news) (T : Top Mine.hd.view_39 (looseW Mine.hd.view_39 []) mean mg mb h₀) (hk : cs.kind = .function)
    (hm : (P, ({ cls := .type "tuple", data := .seq #[.float (paintR k) t1, .float (paintG k) t2, .float (paintB k) t3] n } : Obj)) ∈ news) (h0 : 0 ≤ k) (h1 : k < 448) (hd : dp + 3 < recursionLimit) (hu : un + 8 * 3 < cLine)
    (ret : ∀ t news' h' tk', Fr h₀ L h' m → News h₀ L h' news' → Grow news news' → Q (.str (dueName k) t) { s with heap := h', toks := tk' }) :
    wpAny (model PySem.Challenge.rw_tr0014_01.row.prog w) (ktrTop dp un gd cn cs L a ccd cl outer) (call (.ref 77) [.ref P]) Q E s := by
  obtain ⟨e1, e2⟩ := plain_named h0 h1
  refine sat_use (named_ok w mean mg mb (paintR k, paintG k, paintB k)) B F X N T hk ⟨⟨P, t1, t2, t3, n, rfl, hm⟩, e1⟩ hd hu ?_
  rintro r news' h' tk' F' N' ⟨g, t, rfl⟩
  rw [e2]
  exact ret t _ _ _ F' N' g
theorem dueP_use (B : Below A₀ base outer h₀) (F : Fr h₀ L s.heap m) (X : (Mine.hd.heap_39 w.params).In h₀) (N : News h₀ L s.heap news) (T : Top Mine.hd.view_39 (looseW Mine.hd.view_39 []) mean mg mb h₀) (hk : cs.kind = .function)
    (h0 : 0 ≤ k) (h1 : k < 448) (hd : dp + 3 < recursionLimit) (hu : un + 8 * 3 < cLine)
    (ret : ∀ P t1 t2 t3 n news' h' tk', (t1 ≠ 0 ∧ t2 ≠ 0 ∧ t3 ≠ 0) → Fr h₀ L h' m → News h₀ L h' news' → Grow news news' → (P, ({ cls := .type "tuple", data := .seq #[.float (paintR k) t1, .float (paintG k) t2, .float (paintB k) t3] n } : Obj)) ∈ news' → Q (.ref P) { s with heap := h', toks := tk' }) :
    wpAny (model PySem.Challenge.rw_tr0014_01.row.prog w) (ktrTop dp un gd cn cs L a ccd cl outer) (call (.ref 82) [.int k t]) Q E s := by
  obtain ⟨e1, e2, e3⟩ := plain_paint h0 h1
  refine sat_use (dueP_ok w mean mg mb k) B F X N T hk ⟨⟨_, rfl⟩, h0, h1⟩ hd hu ?_
  rintro r news' h' tk' F' N' ⟨g, a, t1, t2, t3, n, ht, rfl, h1⟩
  rw [e1, e2, e3] at h1
  exact ret _ _ _ _ _ _ _ _ ht F' N' g h1
theorem done_use {told : List (Int × Str)} {vs : List Value} {n : Nat} {da fa : Addr} {n0 : Nat} (B : Below A₀ base outer h₀) (F : Fr h₀ L s.heap m) (X : (Mine.hd.heap_39 w.params).In h₀) (N : News h₀ L s.heap news) (T : Top Mine.hd.view_39 (looseW Mine.hd.view_39 []) mean mg mb h₀) (hk : cs.kind = .function)
    (hm : (da, listOf vs.toArray n) ∈ news) (ht : Told2 news vs told) (hz : told.length ≤ 12) (hf : (fa, listOf #[] n0) ∈ news) (hne : fa ≠ da) (hd : dp + 40 < recursionLimit) (hu : un + 8 * 40 < cLine)
    (ret : ∀ k n' ta vs' n2 news' h' tk', Fr h₀ L h' m → News h₀ L h' news' → TupKeep news news' → Keep fa news news' → (fa, listOf (trues k).toArray n') ∈ news' → (ta, listOf vs'.toArray n2) ∈ news' → Strs vs' (doneOf told) → Q (.ref ta) { s with heap := h', toks := tk' }) :
    wpAny (model PySem.Challenge.rw_tr0014_01.row.prog w) (ktrTop dp un gd cn cs L a ccd cl outer) (call (.ref 110) [.ref da, .ref fa]) Q E s := by
  refine sat_use (done_ok w mean mg mb ⟨told, vs, n, da, fa⟩) B F X N T hk ⟨rfl, hm, ht, hz, ⟨n0, hf⟩, hne⟩ hd hu ?_
  rintro r news' h' tk' F' N' ⟨g, g2, k, n', ta, vs', n2, h1, rfl, h2, h3⟩
  exact ret _ _ _ _ _ _ _ _ F' N' g g2 h1 h2 h3
theorem due_use {D : Addr} {vs : List Value} {n : Nat} {xs : List Int} (B : Below A₀ base outer h₀) (F : Fr h₀ L s.heap m) (X : (Mine.hd.heap_39 w.params).In h₀) (N : News h₀ L s.heap news) (T : Top Mine.hd.view_39 (looseW Mine.hd.view_39 []) mean mg mb h₀) (hk : cs.kind = .function)
    (hl : (D, listOf vs.toArray n) ∈ news) (hi : IntsAre vs xs) (hz : xs.length = 12) (hb : ∀ k ∈ xs, 0 ≤ k ∧ k < 448) (hd : dp + 12 < recursionLimit) (hu : un + 8 * 12 < cLine)
    (ret : ∀ o vs' n' news' h' tk' st srt, Fr h₀ L h' m → News h₀ L h' news' → Grow news news' → (o, listOf vs'.toArray n') ∈ news' → StrsAre vs' (st.t ++ srt) → DueRun xs st → srt.Perm (st.a ++ st.b) → sortedS srt = true → AllOk (st.t ++ srt) → Q (.ref o) { s with heap := h', toks := tk' }) :
    wpAny (model PySem.Challenge.rw_tr0014_01.row.prog w) (ktrTop dp un gd cn cs L a ccd cl outer) (call (.ref 117) [.ref D]) Q E s := by
  refine sat_use (due_ok w mean mg mb ⟨D, vs, xs, n⟩) B F X N T hk ⟨rfl, hl, hi, hz, hb⟩ hd hu ?_
  rintro r news' h' tk' F' N' ⟨g, o, vs', n', st, srt, rfl, h1, h2, h3, h4, h5, h6⟩
  exact ret o vs' n' news' h' tk' st srt F' N' g h1 h2 h3 h4 h5 h6
theorem Told2.snoc {news : List (Addr × Obj)} {vs : List Value} {xs : List (Int × Str)} (h : Told2 news vs xs) {a : Addr} {i : Int} {t1 t2 : Tok} {x : Str} {n : Nat} (hm : (a, ({ cls := .type "tuple", data := .seq #[.int i t1, .str x t2] n } : Obj)) ∈ news) : Told2 news (vs ++ [.ref a]) (xs ++ [(i, x)]) := by
  induction h with
  | nil => exact .cons hm .nil
  | cons h1 _ ih => exact .cons h1 ih
def tapeAt (xs : List Int) (i : Nat) : Nat := ((xs.take i).flatMap enc).length
theorem tapeAt_succ {xs : List Int} {i : Nat} {k : Int} (h : xs[i]? = some k) : tapeAt xs (i + 1) = tapeAt xs i + wide k := by
  unfold tapeAt
  rw [List.take_succ, h, List.flatMap_append, List.length_append]
  simp only [Option.toList_some, List.flatMap_cons, List.flatMap_nil, List.append_nil]
  unfold enc wide
  split <;> simp
theorem varAt_of {xs : List Int} {vo : List Value} {i : Nat} {k : Int} (hi : IntsAre vo (xs.flatMap enc)) (h : xs[i]? = some k) : VarAt vo (tapeAt xs i) k := by
  obtain ⟨hlt, he⟩ := List.getElem?_eq_some_iff.mp h
  have hsplit : xs = xs.take i ++ k :: xs.drop (i + 1) := by rw [← he, ← List.drop_eq_getElem_cons hlt, List.take_append_drop]
  have key : ∀ j, j < (enc k).length → (xs.flatMap enc)[tapeAt xs i + j]? = (enc k)[j]? := by
    intro j hj
    have e : xs.flatMap enc = (xs.take i).flatMap enc ++ (enc k ++ (xs.drop (i + 1)).flatMap enc) := by
      conv => lhs; rw [hsplit]
      rw [List.flatMap_append, List.flatMap_cons]
    rw [e]
    unfold tapeAt
    rw [List.getElem?_append_right (Nat.le_add_right _ _), Nat.add_sub_cancel_left, List.getElem?_append_left hj]
  have get : ∀ j x, (xs.flatMap enc)[j]? = some x → ∃ t, vo[j]? = some (Value.int x t) := fun j x e => by
    have hlen := hi.length
    have hj : j < vo.length := by rw [hlen]; exact (List.getElem?_eq_some_iff.mp e).1
    obtain ⟨y, t, e1, e2⟩ := hi.at j vo[j] (List.getElem?_eq_getElem hj)
    rw [e] at e2
    cases Option.some.inj e2
    exact ⟨t, by rw [List.getElem?_eq_getElem hj, e1]⟩
  unfold VarAt
  split
  · rename_i hk
    have ek : enc k = [k] := by unfold enc; rw [if_pos hk]
    rw [ek] at key
    exact get _ k (key 0 (by simp))
  · rename_i hk
    have ek : enc k = [64 + k.fdiv 64, k.fmod 64] := by unfold enc; rw [if_neg hk]
    rw [ek] at key
    obtain ⟨t, e⟩ := get _ _ (key 0 (by simp))
    obtain ⟨t', e'⟩ := get _ _ (key 1 (by simp))
    exact ⟨t, t', e, e'⟩
theorem strs_to {vs : List Value} {ss : List Str} (h : Strs vs ss) : StrsAre vs ss := by
  induction h with
  | nil => exact .nil
  | cons _ ih => exact .cons _ _ ih
end
end Mine
end
section
open PySem PySem.W PySem.Calls PySem.Spec PyProof.Rows
set_option Elab.async false
set_option linter.unusedVariables false
namespace Mine
def JLaw (D R O TD : Addr) (vs : List Value) (n : Nat) (xs : List Int) (vo : List Value) (no : Nat) (I : Addr) (i : Nat) (m : Str → Option Value) (news : List (Addr × Obj)) : Prop :=
  ∃ (tv : List Value) (tn : Nat) (oR : Obj), m "numbers" = some (.ref D) ∧ m "reader" = some (.ref R) ∧ m "told" = some (.ref TD) ∧ (D, listOf vs.toArray n) ∈ news ∧ (O, listOf vo.toArray no) ∈ news ∧ (R, oR) ∈ news ∧ IterO O (tapeAt xs i) oR ∧ (TD, listOf tv.toArray tn) ∈ news ∧
    Told2 news tv ((xs.take i).map toldOf) ∧ (I ≠ D ∧ I ≠ O ∧ I ≠ R ∧ I ≠ TD)
theorem JLaw.keep (D R O TD : Addr) (vs : List Value) (n : Nat) (xs : List Int) (vo : List Value) (no : Nat) : ∀ I i m a b, Keep I a b → ItKeep a b → JLaw D R O TD vs n xs vo no I i m a → JLaw D R O TD vs n xs vo no I i m b := by
  rintro I i m a b k ik ⟨tv, tn, oR, m1, m2, m3, j1, j2, j3, j4, j5, j6, q1, q2, q3, q4⟩
  exact ⟨tv, tn, oR, m1, m2, m3, k _ j1 q1.symm, k _ j2 q2.symm, k _ j3 q3.symm, j4, k _ j5 q4.symm, j6.to fun p hp hc => ik p hp (by rw [hc]; decide), q1, q2, q3, q4⟩
section
variable {prog : Program} {w : World} {A : Around} {E : Value → Shared → Prop} {s : Shared} {h₀ : Heap} {L : Addr} {m : Str → Option Value} {Q : Value → Shared → Prop}
theorem ne_str_same {x : Str} {t u : Tok} (h : Q (.bool false) s) : wpAny (model prog w) A (compareOp .NotEq (.str x t) (.str x u)) Q E s :=
  PyProof.Rows.ne_str (by rw [bne_self_eq_false]; exact h)
theorem ne_int_same {x : Int} {t u : Tok} (h : ∀ b, b = false → Q (.bool b) s) : Q (.bool (x != x)) s := h _ (by simp)
end
theorem stop_exc : isSubtype (.type "StopIteration") (.type "BaseException") = pure true := by rw [isSubtype_type]; kernel_rfl
theorem stop_tup : isSubtype (.type ((Manifest.find? "StopIteration").elim "type" fun y => y.metatype)) (.type "tuple") = pure false := by rw [isSubtype_type]; kernel_rfl
theorem stop_stop : isSubtype (.type "StopIteration") (.type "StopIteration") = pure true := by rw [isSubtype_type]; kernel_rfl
section
variable {prog : Program} {w : World} {A : Around} {E : Value → Shared → Prop} {s : Shared} {h₀ : Heap} {L l it fa : Addr} {m : Str → Option Value} {news : List (Addr × Obj)} {vs : List Value} {n i k : Nat} {oI : Obj} {Q : Value → Shared → Prop}
theorem next_end2 (hh : A.handled = none) (F : Fr h₀ L s.heap m) (N : News h₀ L s.heap news) (hi : (it, oI) ∈ news) (hO : IterO l i oI) (hl : (l, listOf vs.toArray n) ∈ news) (hx : vs[i]? = none)
    (h : ∀ h₁ h' e news', Fr h₀ L h₁ m → News h₀ L h₁ news' → Keep it news news' → TupKeep news news' → Heap.MadeExc h₁ h' e "StopIteration" [] → E (.ref e) { s with heap := h' }) :
    wpAny (model prog w) A (call (.builtin "next") [.ref it]) Q E s :=
  next_end hh F N hi hO hl hx fun h₁ h' e F' N' hm => h h₁ h' e _ F' N' (fun p hp hne => List.mem_filter.mpr ⟨hp, decide_eq_true hne⟩) (fun p hp hc => List.mem_filter.mpr ⟨hp, decide_eq_true fun e => by
    have h1 := (N p hp).1
    rw [e, (N _ hi).1] at h1
    have h2 := hO.1
    have h3 : oI = p.2 := Option.some.inj h1
    rw [h3, hc] at h2
    exact absurd h2 (by decide)⟩) hm
theorem ne_fresh {news : List (Addr × Obj)} {p : Addr × Obj} {fa : Addr} (h : ∀ p ∈ news, p.1 < fa) (hm : p ∈ news) : p.1 ≠ fa := Nat.ne_of_lt (h _ hm)
theorem law_ne {da fa : Addr} {o : Obj} (h : ∀ p ∈ news, p.1 < fa) (hm : (da, o) ∈ news) : fa ≠ da := Nat.ne_of_gt (h _ hm)
theorem law_eq {ta o : Addr} {va vb : List Value} {na nb : Nat} {sa sb : List Str} (N : News h₀ L s.heap news) (ha : (ta, listOf va.toArray na) ∈ news) (hb : (o, listOf vb.toArray nb) ∈ news) (hi : Strs va sa) (hj : StrsAre vb sb) (he : sa = sb) (ob : AllOk sb) (hu : A.units + 64 < cLine) (h : Q (.bool true) s) :
    wpAny (model prog w) A (compareOp .Eq (.ref ta) (.ref o)) Q E s := by
  subst he
  exact eq_strsN N ha hb (strs_to hi) hj ob ob hu (by rw [decide_eq_true rfl]; exact h)
theorem notIn_trues (N : News h₀ L s.heap news) (hm : (fa, listOf (trues k).toArray n) ∈ news) (hu : A.units + 65 < cLine) (h : Q (.bool true) s) : wpAny (model prog w) A (compareOp .NotIn (.bool false) (.ref fa)) Q E s := by
  have hr : Reads s.heap (.ref fa) (.list (List.replicate k (.bool true))) (fa :: []) := by
    refine Reads.list (N _ hm).1 rfl rfl ?_
    show ReadsAll s.heap (trues k) _ _
    unfold trues
    induction k with
    | zero => exact .nil
    | succ k ih => 
      have : ∀ j, ReadsAll s.heap (List.replicate j (Value.bool true)) (List.replicate j (PyData.bool true)) [] := by
        intro j
        induction j with
        | zero => exact .nil
        | succ j ih => simpa [List.replicate_succ] using ReadsAll.cons (Reads.bool (h := s.heap) true) ih
      exact this (k + 1)
  have lay : ∀ j, PyData.canLayAll0 (List.replicate j (PyData.bool true)) = true := by
    intro j; induction j with
    | zero => simp [PyData.canLayAll0]
    | succ j ih => simp [List.replicate_succ, PyData.canLayAll0, PyData.canLay0, ih]
  have dep : ∀ j, PyData.depthAll (List.replicate j (PyData.bool true)) ≤ 1 := by
    intro j; induction j with
    | zero => simp [PyData.depthAll]
    | succ j ih => simp only [List.replicate_succ, PyData.depthAll, PyData.depth]; omega
  have cnt : ∀ j, Spec.countIn (.bool false) (List.replicate j (PyData.bool true)) = 0 := by
    intro j; induction j with
    | zero => simp [Spec.countIn]
    | succ j ih => simp [List.replicate_succ, Spec.countIn, Spec.same, ih]
  refine notIn_list_dataH hr (Reads.bool false) ?_ (by rfl) hu (fun y hy => by rw [List.eq_of_mem_replicate hy]; rfl) (by rw [cnt k]; exact h)
  have h1 := dep k
  show (PyData.canLay0 (.list _) && decide (PyData.depth (.list _) ≤ 64)) = true
  rw [Bool.and_eq_true]
  exact ⟨by simp only [PyData.canLay0]; exact lay k, decide_eq_true (by simp only [PyData.depth]; omega)⟩
end
local macro_rules | `(tactic| k_mem) => `(tactic| first | exact List.Mem.head _ | with_reducible assumption | (refine' List.mem_cons_of_mem _ ?_; k_mem) | (refine' Grow.up ?g ?_; (case g => with_reducible assumption); k_mem) | (refine' keep_up ?g ?_ ?n; (case g => with_reducible assumption); (case n => first | assumption | (apply Ne.symm; assumption) | (refine' ne_fresh ?fa ?fb; (case fa => assumption); (case fb => k_mem))); k_mem) | (refine' tup_up ?g ?h ?n; (case g => with_reducible assumption); (case h => k_mem); (case n => first | rfl | assumption)))
local macro_rules | `(tactic| walk_at "exec For Name Name cons nil") => `(tactic| (k_here; refine hold_intro ?_))
local macro_rules | `(tactic| walk_at "call ref") => `(tactic| (k_here; (with_reducible show wpAny _ _ (call (Value.ref 56) _ _) _ _ _); k_dflt (refine' drawn_use ?k1 ?k2 ?k3 ?k4 ?k5 ?kK ?h0 ?h1 ?h2 ?kd ?ku ?_; (case k1 | k2 | k3 | k4 | k5 => k_asm); (case kK => first | exact rfl | assumption); (case h0 => is_list); (case h1 => assumption); (case h2 => first | assumption | omega); (case kd => ktr_room); (case ku => ktr_units); intro D9 vs9 xs9 n9 h9 tk9 F9 N9 i9 z9 b9 l9; (try dsimp only); (try k_fold))))
local macro_rules | `(tactic| walk_at "call ref") => `(tactic| (k_here; (with_reducible show wpAny _ _ (call (Value.ref 63) _ _) _ _ _); k_dflt (refine' tape_use ?k1 ?k2 ?k3 ?k4 ?k5 ?kK ?h0 ?h1 ?h2 ?h3 ?kd ?ku ?_; (case k1 | k2 | k3 | k4 | k5 => k_asm); (case kK => first | exact rfl | assumption); (case h0 => k_mem); (case h1 | h2 | h3 => assumption); (case kd => ktr_room); (case ku => ktr_units); intro o9 vo9 no9 nw9 h9 tk9 F9 N9 g9 m9 io9 lo9; (try dsimp only); (try k_fold))))
local macro_rules | `(tactic| walk_at "call builtin:iter") => `(tactic| (k_here; (with_reducible show wpAny _ _ (call (Value.builtin "iter") [Value.ref _]) _ _ _); k_dflt (refine' iter_list ?k1 ?k2 ?k3 ?_; (case k1 | k2 => k_asm); (case k3 => k_mem); intro R9 h9 oR9 F9 N9 lr9 it9; (try dsimp only))))
local macro_rules | `(tactic| walk_at "call ref") => `(tactic| (k_here; (with_reducible show wpAny _ _ (call (Value.ref 35) _ _) _ _ _); k_dflt (refine' var_use ?k1 ?k2 ?k3 ?k4 ?k5 ?kK ?h0 ?h1 ?h2 ?h3 ?h4 ?h5 ?kd ?ku ?_; (case k1 | k2 | k3 | k4 | k5 => k_asm); (case kK => first | exact rfl | assumption); (case h0 => k_mem); (case h1 => assumption); (case h2 => k_mem); (case h3 | h4 | h5 => assumption); (case kd => ktr_room); (case ku => ktr_units); intro oR9 t9 nw9 h9 tk9 F9 N9 k9 t9 m9 i9; (try dsimp only); (try k_fold))))
local macro_rules | `(tactic| walk_at "call ref") => `(tactic| (k_here; (with_reducible show wpAny _ _ (call (Value.ref 70) _ _) _ _ _); k_dflt (refine' paint_use ?k1 ?k2 ?k3 ?k4 ?k5 ?kK ?h4 ?h5 ?kd ?ku ?_; (case k1 | k2 | k3 | k4 | k5 => k_asm); (case kK => first | exact rfl | assumption); (case h4 | h5 => assumption); (case kd => ktr_room); (case ku => ktr_units); intro P9 t9 u9 v9 n9 nw9 h9 tk9 z9 F9 N9 g9 m9; (try dsimp only); (try k_fold))))
local macro_rules | `(tactic| walk_at "call ref") => `(tactic| (k_here; (with_reducible show wpAny _ _ (call (Value.ref 77) _ _) _ _ _); k_dflt (refine' name_use ?k1 ?k2 ?k3 ?k4 ?k5 ?kK ?h3 ?h4 ?h5 ?kd ?ku ?_; (case k1 | k2 | k3 | k4 | k5 => k_asm); (case kK => first | exact rfl | assumption); (case h3 => k_mem); (case h4 | h5 => assumption); (case kd => ktr_room); (case ku => ktr_units); intro t9 nw9 h9 tk9 F9 N9 g9; (try dsimp only); (try k_fold))))
local macro_rules | `(tactic| walk_at "call ref") => `(tactic| (k_here; (with_reducible show wpAny _ _ (call (Value.ref 82) _ _) _ _ _); k_dflt (refine' dueP_use ?k1 ?k2 ?k3 ?k4 ?k5 ?kK ?h4 ?h5 ?kd ?ku ?_; (case k1 | k2 | k3 | k4 | k5 => k_asm); (case kK => first | exact rfl | assumption); (case h4 | h5 => assumption); (case kd => ktr_room); (case ku => ktr_units); intro P9 t9 u9 v9 n9 nw9 h9 tk9 z9 F9 N9 g9 m9; (try dsimp only); (try k_fold))))
local macro_rules | `(tactic| walk_at "call ref") => `(tactic| (k_here; (with_reducible show wpAny _ _ (call (Value.ref 89) _ _) _ _ _); k_dflt (refine' dueN_use ?k1 ?k2 ?k3 ?k4 ?k5 ?kK ?h0 ?h1 ?kd ?ku ?_; (case k1 | k2 | k3 | k4 | k5 => k_asm); (case kK => first | exact rfl | assumption); (case h0 | h1 => assumption); (case kd => ktr_room); (case ku => ktr_units); intro t9 h9 tk9 F9 N9; (try dsimp only); (try k_fold))))
local macro_rules | `(tactic| walk_at "call ref") => `(tactic| (k_here; (with_reducible show wpAny _ _ (call (Value.ref 110) _ _) _ _ _); k_dflt (refine' done_use ?k1 ?k2 ?k3 ?k4 ?k5 ?kK ?h0 ?h1 ?h2 ?h3 ?h4 ?kd ?ku ?_; (case k1 | k2 | k3 | k4 | k5 => k_asm); (case kK => first | exact rfl | assumption); (case h0 => k_mem); (case h1 => exact Told2.to (by assumption) (fun p hp hc => by k_mem)); (case h2 => assumption); (case h3 => k_mem); (case h4 => exact law_ne (by assumption) (by k_mem)); (case kd => ktr_room); (case ku => ktr_units); intro k9 n9 ta9 vs9 n8 nw9 h9 tk9 F9 N9 t9 k9 m9 m8 s9; (try dsimp only); (try k_fold))))
local macro_rules | `(tactic| walk_at "call ref") => `(tactic| (k_here; (with_reducible show wpAny _ _ (call (Value.ref 117) _ _) _ _ _); k_dflt (refine' due_use ?k1 ?k2 ?k3 ?k4 ?k5 ?kK ?h0 ?h1 ?h2 ?h3 ?kd ?ku ?_; (case k1 | k2 | k3 | k4 | k5 => k_asm); (case kK => first | exact rfl | assumption); (case h0 => k_mem); (case h1 | h2 | h3 => assumption); (case kd => ktr_room); (case ku => ktr_units); intro o9 vs9 n9 nw9 h9 tk9 st9 srt9 F9 N9 g9 m9 i9 r9 p9 q9 a9; (try dsimp only); (try k_fold))))
local macro_rules | `(tactic| walk_at "call builtin:list.append") => `(tactic| (k_here; (with_reducible show wpAny _ _ (call (Value.builtin _) [Value.ref _, _]) _ _ _); k_dflt (refine' append_any ?k1 ?k2 ?k3 ?_ ?z; (case k1 | k2 => k_asm); (case k3 => k_mem); (case z => (simp only [List.size_toArray]; rw [sizeLine_eq]; omega)); k_whole); intro h9 news9 F9 N9 m9 k9 t9))
local macro_rules | `(tactic| walk_at "compareOp NotEq ref ref") => `(tactic| (k_here; (with_reducible show wpAny _ _ (compareOp _ (Value.ref _) (Value.ref _)) _ _ _); k_dflt (refine' ne_tup3 ?k1 ?k2 ?k3 ?k4 ?k5 ?k6 ?k7 ?k8 ?k9 ?ku ?_; (case k1 => k_asm); (case k2 | k3 => k_mem); (case k4 | k5 => assumption); (case k6 => exact booked_none (by k_asm) (Fr.keep (by k_asm))); (case k7 | k8 | k9 => assumption); (case ku => ktr_units); k_whole)))
local macro_rules | `(tactic| walk_at "compareOp NotEq str str") => `(tactic| (k_here; (with_reducible show wpAny _ _ (compareOp CmpOp.NotEq (Value.str _ _) (Value.str _ _)) _ _ _); k_dflt (refine' ne_str_same ?_; k_whole)))
local macro_rules | `(tactic| walk_at "call builtin:next") => `(tactic| (k_here; (with_reducible show wpAny _ _ (call (Value.builtin "next") [Value.ref _]) _ _ _); k_dflt (refine' next_end2 rfl ?k1 ?k2 ?k3 ?k4 ?k5 ?k6 ?_; (case k1 | k2 => k_asm); (case k3 => k_mem); (case k4 => with_reducible assumption); (case k5 => k_mem); (case k6 => with_reducible assumption); intro h9 hx9 e9 nw9 F9 N9 k9 t9 x9; (try dsimp only))))
local macro_rules | `(tactic| k_caught0) => `(tactic| ((with_reducible show wpAny _ _ (noteFrame _ _) (fun _ s₂ => wpAny _ _ (setFlight _ none) (fun _ s₃ => wpAny _ _ (handleBy _ _ (ExceptHandler.ExceptHandler (some (Expr.Name ("StopIteration" : Str) _)) none _ _ :: _)) _ _ s₃) _ s₂) _ _); refine caught_K0 (T' := "StopIteration") (by assumption) (by assumption) (by assumption) (by assumption) (by k_asm) PyProof.Rows.Boot.«StopIteration» stop_exc stop_tup stop_stop ?_))
local macro_rules | `(tactic| walk_at "compareOp Eq ref ref") => `(tactic| (k_here; (with_reducible show wpAny _ _ (compareOp CmpOp.Eq (Value.ref _) (Value.ref _)) _ _ _); k_dflt (refine' law_eq ?k1 ?k2 ?k3 ?k4 ?k5 ?k6 ?k7 ?ku ?_; (case k1 => k_asm); (case k2 | k3 => k_mem); (case k4 | k5 => assumption); (case k6 => exact plain_done (by assumption) (by assumption) (by assumption) (by assumption)); (case k7 => assumption); (case ku => ktr_units); k_whole)))
local macro_rules | `(tactic| walk_at "compareOp NotIn bool ref") => `(tactic| (k_here; (with_reducible show wpAny _ _ (compareOp CmpOp.NotIn (Value.bool _) (Value.ref _)) _ _ _); k_dflt (refine' notIn_trues ?k1 ?k2 ?ku ?_; (case k1 => k_asm); (case k2 => k_mem); (case ku => ktr_units); k_whole)))
set_option maxRecDepth 100000 in
set_option maxHeartbeats 8000000 in
theorem law_walk : PySem.Challenge.rw_tr0014_01.Holds := Mine.hd (by
  w_strict (
    k_go0
    (all_goals try k_fold)
    k_steps
    rename_i D9 vs9 xs9 n9 ha1 tka i9 z9 b9 l9 qk1 ek1 hb1 tkb o9 vo9 no9 nw9 hc1 tkc g9 m9 io9 lo9 R9 hd1 oR9 lr9 it9 he1 TD hf1 l1 hg1 F9 N9
    have d1 := lo9 _ (List.Mem.head _)
    have d2 := lr9 _ m9
    have d3 := lr9 _ (g9.1 _ (List.Mem.head _))
    have d4 := l1.1
    dsimp only at d1 d2 d3
    have e1 : D9 ≠ R9 := Nat.ne_of_lt d3
    have e2 : o9 ≠ R9 := Nat.ne_of_lt d2
    have e3 : R9 ≠ TD := Nat.ne_of_lt d4
    have e4 : D9 ≠ TD := Nat.ne_of_lt (Nat.lt_trans d3 d4)
    have e5 : o9 ≠ TD := Nat.ne_of_lt (Nat.lt_trans d2 d4)
    refine wpAny_For ?_
    walk1
    refine for_iter (JLaw D9 R9 o9 TD vs9 n9 xs9 vo9 no9) rfl F9 N9 (by k_mem) ?_ (JLaw.keep _ _ _ _ _ _ _ _ _) ?_ ?_ ?hE
    · intro I hI
      have f1 := hI _ (List.Mem.head _)
      dsimp only at f1
      refine ⟨[], 0, oR9, rfl, rfl, rfl, by k_mem, by k_mem, by k_mem, it9, by k_mem, .nil, ?_, ?_, ?_, ?_⟩ <;> (unfold Addr at *; omega)
    · intro I i v m news1 h tk oI hv hJ F N hl hI hO
      obtain ⟨tv, tn, oR, m1, m2, m3, j1, j2, j3, j4, j5, j6, q1, q2, q3, q4⟩ := hJ
      obtain ⟨k, t, rfl, hk9⟩ := i9.at i v hv
      obtain ⟨k0, k1⟩ := b9 k (List.mem_of_getElem? hk9)
      have hi9 : i < 12 := by have := (List.getElem?_eq_some_iff.mp hk9).1; omega
      have hva := varAt_of io9 hk9
      obtain ⟨c1, c2, c3⟩ := plain_self k0 k1
      have hlen := j6.length
      rw [List.length_map, List.length_take] at hlen
      replace F := fr_put3 F m1 m2 m3
      k_steps
      all_goals first | (exfalso; omega) | skip
      · refine TurnEnd.go (by k_asm) (by k_asm) (by k_mem) (by k_mem) (by assumption) ?_
        refine ⟨tv ++ [_], _, _, rfl, rfl, rfl, by k_mem, by k_mem, by k_mem, ?_, push_list (by assumption), ?_, q1, q2, q3, q4⟩
        · rw [tapeAt_succ hk9]; assumption
        · rw [List.take_succ, hk9, List.map_append]; exact Told2.snoc (j6.to fun p hp hc => by k_mem) (by k_mem)
    · intro I m news1 h tk hJ F N
      obtain ⟨tv, tn, oR, m1, m2, m3, j1, j2, j3, j4, j5, j6, q1, q2, q3, q4⟩ := hJ
      have hvl := i9.length
      rw [hvl, List.take_length] at j6
      have hend : vo9[tapeAt xs9 vs9.length]? = none := by
        rw [hvl]; unfold tapeAt; rw [List.take_length, ← io9.length]; simp
      have ht12 : (xs9.map toldOf).length ≤ 12 := by rw [List.length_map, z9]; exact Nat.le_refl _
      replace F := fr_put3 F m1 m2 m3
      k_steps
    case hE => (first | passes_own | (k_steps; done))))
end Mine
end
theorem PySem.Challenge.cw_tr0014_01_holds : PySem.Challenge.rw_tr0014_01.Holds :=
  Mine.law_walk
