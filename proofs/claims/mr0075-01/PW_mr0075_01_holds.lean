import PyProof.Rows.All
import Wide.All
import OpenK.AllK
import Wide.FinOn
import Lean
import PySem.Challenge.RW_mr0075_01
open PySem PySem.W PyProof.Rows
set_option Elab.async false
set_option linter.unusedVariables false
set_option linter.unusedSectionVars false
set_option linter.unusedSimpArgs false
set_option maxRecDepth 100000
set_option maxHeartbeats 8000000
/-! # T0 -/
namespace Mine
open_top hd for PySem.Challenge.rw_mr0075_01
end Mine

/-! # L1 -/
namespace Mine
theorem fresh_L1 : True := by
  w_top off
  exact True.intro

section
variable {prog : Program} {w : World} {A : Around} {E : Value → Shared → Prop} {s : Shared}

theorem tup_tree {op : CmpOp} {B : Builtin} {a b : Addr} {x y x' y' : Int} {t u t' u' : Tok} {r r' : Array Value} {P : PySem.Fin → Shared → Prop} {c : Bool}
    (hB : B ⟨[.ref a, .ref b], []⟩ = (do
      if !(← isInstance (.ref b) (.type "tuple")) then return ← ret .notImplemented
      let xs ← Builtin.Tuple.tupleItemsOf (.ref a)
      let ys ← Builtin.Tuple.tupleItemsOf (.ref b)
      for (x, y) in xs.toList.zip ys.toList do
        if !(← eqBool x y) then
          match op with
          | .Eq => return ← ret (.bool false)
          | .NotEq => return ← ret (.bool true)
          | _ => rule "tuple.compare.by-the-first-pair-that-differs"; return ← ret (← richCompare op x y)
      ret (Builtin.Tuple.tupleCompareSizes op xs.size ys.size)))
    (hop1 : op ≠ .Eq) (hop2 : op ≠ .NotEq)
    (hx : IsTup s.heap a (#[.int x t, .int y u] ++ r)) (hy : IsTup s.heap b (#[.int x' t', .int y' u'] ++ r')) (hne : ¬ (x = x' ∧ y = y'))
    (hc1 : x ≠ x' → ∀ {Q : Value → Shared → Prop}, Q (.bool c) s → wpAny (model prog w) A (richCompare op (.int x t) (.int x' t')) Q E s)
    (hc2 : x = x' → ∀ {Q : Value → Shared → Prop}, Q (.bool c) s → wpAny (model prog w) A (richCompare op (.int y u) (.int y' u')) Q E s)
    (h : P (.done (.ret (.bool c))) s) :
    wpAny (model prog w) A (B ⟨[.ref a, .ref b], []⟩) P E s := by
  rw [hB]
  have hTb : s.TypeIs (.ref b) "tuple" := by
    obtain ⟨o, ho, hc, _⟩ := hy
    exact ⟨o, ho, hc⟩
  obtain ⟨oa, hoa, hca, na, hda⟩ := hx
  obtain ⟨ob, hob, hcb, nb, hdb⟩ := hy
  refine wpAny_bind (wpAny_isInstance hTb isSubtype_tuple_tuple ?_)
  simp only [Bool.not_true, Bool.false_eq_true, if_false]
  refine wpAny_bind (wpAny_tupleItemsOf hoa hda ?_)
  refine wpAny_bind (wpAny_tupleItemsOf hob hdb ?_)
  simp only [Array.toList_append, List.cons_append, List.nil_append, List.zip_cons_cons, List.forIn_cons]
  refine wpAny_bind (wpAny_bind (wpAny_bind (wpAny_eqBool_int ?_)))
  by_cases e : x = x'
  · subst e
    have e2 : y ≠ y' := fun e2 => hne ⟨rfl, e2⟩
    simp only [beq_self_eq_true, Bool.not_true, Bool.false_eq_true, if_false]
    refine wpAny_pure ?_
    dsimp only
    refine wpAny_bind (wpAny_bind (wpAny_eqBool_int ?_))
    have e3 : (y == y') = false := by simpa using e2
    rw [e3]
    simp only [Bool.not_false, if_true]
    cases op <;> first | exact absurd rfl hop1 | exact absurd rfl hop2 | skip
    all_goals
      refine wpAny_bind (wpAny_rule ?_)
      refine wpAny_bind (hc2 rfl ?_)
      refine wpAny_bind (wpAny_pure (wpAny_pure ?_))
      exact wpAny_pure (wpAny_pure h)
  · have e3 : (x == x') = false := by simpa using e
    rw [e3]
    simp only [Bool.not_false, if_true]
    cases op <;> first | exact absurd rfl hop1 | exact absurd rfl hop2 | skip
    all_goals
      refine wpAny_bind (wpAny_rule ?_)
      refine wpAny_bind (hc1 e ?_)
      refine wpAny_bind (wpAny_pure (wpAny_pure ?_))
      exact wpAny_pure (wpAny_pure h)

/-- the order of the things: by number, then by place -/
def lx (x y x' y' : Int) : Bool := decide (x < x' ∨ (x = x' ∧ y < y'))

theorem tup_lt {a b : Addr} {x y x' y' : Int} {t u t' u' : Tok} {r r' : Array Value} {Q : Value → Shared → Prop}
    (hx : IsTup s.heap a (#[.int x t, .int y u] ++ r)) (hy : IsTup s.heap b (#[.int x' t', .int y' u'] ++ r')) (hne : ¬ (x = x' ∧ y = y')) (hu : A.units < cLine)
    (h : Q (.bool (lx x y x' y')) s) :
    wpAny (model prog w) A (compareOp .Lt (.ref a) (.ref b)) Q E s := by
  have ha : s.TypeIs (.ref a) "tuple" := by obtain ⟨o, ho, hc, _⟩ := hx; exact ⟨o, ho, hc⟩
  have hb : s.TypeIs (.ref b) "tuple" := by obtain ⟨o, ho, hc, _⟩ := hy; exact ⟨o, ho, hc⟩
  refine wpAny_richCompare_same_room (op := .Lt) ha hb F.slot_tuple_lt (wpAny_call_entry F.slot_tuple_lt ha F.entry_tuple_lt ?_ (F.args_tuple_lt_2 _ _)) hu
  refine tup_tree (op := .Lt) (B := Builtin.«tuple.__lt__») (c := lx x y x' y') rfl (by decide) (by decide) hx hy hne ?_ ?_ ⟨_, rfl, (by intro e; cases e), h⟩
  · intro e Q hq
    refine lt_int (Q := Q) ?_
    have : decide (x < x') = lx x y x' y' := by unfold lx; congr 1; simp [e]
    rw [this]; exact hq
  · intro e Q hq
    refine lt_int (Q := Q) ?_
    have : decide (y < y') = lx x y x' y' := by unfold lx; congr 1; simp [e]
    rw [this]; exact hq

theorem tup_gt {a b : Addr} {x y x' y' : Int} {t u t' u' : Tok} {r r' : Array Value} {Q : Value → Shared → Prop}
    (hx : IsTup s.heap a (#[.int x t, .int y u] ++ r)) (hy : IsTup s.heap b (#[.int x' t', .int y' u'] ++ r')) (hne : ¬ (x = x' ∧ y = y')) (hu : A.units < cLine)
    (h : Q (.bool (lx x' y' x y)) s) :
    wpAny (model prog w) A (compareOp .Gt (.ref a) (.ref b)) Q E s := by
  have ha : s.TypeIs (.ref a) "tuple" := by obtain ⟨o, ho, hc, _⟩ := hx; exact ⟨o, ho, hc⟩
  have hb : s.TypeIs (.ref b) "tuple" := by obtain ⟨o, ho, hc, _⟩ := hy; exact ⟨o, ho, hc⟩
  refine wpAny_richCompare_same_room (op := .Gt) ha hb F.slot_tuple_gt (wpAny_call_entry F.slot_tuple_gt ha F.entry_tuple_gt ?_ (F.args_tuple_gt_2 _ _)) hu
  refine tup_tree (op := .Gt) (B := Builtin.«tuple.__gt__») (c := lx x' y' x y) rfl (by decide) (by decide) hx hy hne ?_ ?_ ⟨_, rfl, (by intro e; cases e), h⟩
  · intro e Q hq
    refine gt_int (Q := Q) ?_
    have : decide (x' < x) = lx x' y' x y := by unfold lx; congr 1; simp [Ne.symm e]
    rw [this]; exact hq
  · intro e Q hq
    refine gt_int (Q := Q) ?_
    have : decide (y' < y) = lx x' y' x y := by unfold lx; congr 1; simp [e]
    rw [this]; exact hq

theorem tup_lt3 {a b : Addr} {x y x' y' : Int} {t u t' u' : Tok} {r r' : Value} {Q : Value → Shared → Prop}
    (hx : IsTup s.heap a #[.int x t, .int y u, r]) (hy : IsTup s.heap b #[.int x' t', .int y' u', r']) (hne : ¬ (x = x' ∧ y = y')) (hu : A.units < cLine)
    (h : Q (.bool (lx x y x' y')) s) :
    wpAny (model prog w) A (compareOp .Lt (.ref a) (.ref b)) Q E s := tup_lt (r := #[r]) (r' := #[r']) hx hy hne hu h

theorem tup_gt3 {a b : Addr} {x y x' y' : Int} {t u t' u' : Tok} {r r' : Value} {Q : Value → Shared → Prop}
    (hx : IsTup s.heap a #[.int x t, .int y u, r]) (hy : IsTup s.heap b #[.int x' t', .int y' u', r']) (hne : ¬ (x = x' ∧ y = y')) (hu : A.units < cLine)
    (h : Q (.bool (lx x' y' x y)) s) :
    wpAny (model prog w) A (compareOp .Gt (.ref a) (.ref b)) Q E s := tup_gt (r := #[r]) (r' := #[r']) hx hy hne hu h
end
end Mine

/-! # L2 -/
namespace Mine
theorem fresh_L2 : True := by
  w_top off
  exact True.intro

/-! ## contracts -/

/-- a call of one of the text's defs: from the ledger `news` it gives back `r` and the ledger `news'` -/
def CallOk (w : World) (k : Nat) (f : Addr) (args : List Value) (news : List (Addr × Obj)) (Post : Value → List (Addr × Obj) → Prop) : Prop :=
  ∀ (dp un : Nat) (gd : Option (List Code)) (cn : Str) (cs : Scope) (a : Addr) (ccd : Value) (cl : List (Str × Addr)) (outer : List Env) (A₀ : Around) (base h₀ : Heap) (L : Addr) (m : Str → Option Value) (s : Shared)
    (p : Program) (loose : List Str) (mean : ExcName → Option Value) (mg mb : Str → Option Value) (Q E : Value → Shared → Prop),
    Below A₀ base outer h₀ → Fr h₀ L s.heap m → (hd.heap_39 w.params).In h₀ → News h₀ L s.heap news → Top p loose mean mg mb h₀ → cs.kind = .function → dp + k < recursionLimit → un + 8 * k + 100 < cLine →
    (∀ r news' h' tk', Fr h₀ L h' m → News h₀ L h' news' → Post r news' → Q r { s with heap := h', toks := tk' }) →
    wpAny (model PySem.Challenge.rw_mr0075_01.row.prog w) (ktrTop dp un gd cn cs L a ccd cl outer) (call (.ref f) args) Q E s

theorem CallOk.use {w : World} {k : Nat} {f : Addr} {args : List Value} {news : List (Addr × Obj)} {Post : Value → List (Addr × Obj) → Prop} (C : CallOk w k f args news Post)
    {dp un : Nat} {gd : Option (List Code)} {cn : Str} {cs : Scope} {a : Addr} {ccd : Value} {cl : List (Str × Addr)} {outer : List Env} {A₀ : Around} {base h₀ : Heap} {L : Addr} {m : Str → Option Value} {s : Shared}
    {p : Program} {loose : List Str} {mean : ExcName → Option Value} {mg mb : Str → Option Value} {Q E : Value → Shared → Prop}
    (B : Below A₀ base outer h₀) (F : Fr h₀ L s.heap m) (X : (hd.heap_39 w.params).In h₀) (N : News h₀ L s.heap news) (T : Top p loose mean mg mb h₀) (hk : cs.kind = .function) (hd : dp + k < recursionLimit) (hu : un + 8 * k + 100 < cLine)
    (ret : ∀ r news' h' tk', Fr h₀ L h' m → News h₀ L h' news' → Post r news' → Q r { s with heap := h', toks := tk' }) :
    wpAny (model PySem.Challenge.rw_mr0075_01.row.prog w) (ktrTop dp un gd cn cs L a ccd cl outer) (call (.ref f) args) Q E s :=
  C _ _ _ _ _ _ _ _ _ _ _ _ _ _ _ _ _ _ _ _ _ _ B F X N T hk hd hu ret

theorem flip2 {a b c d : Int} (h : ¬(a = b ∧ c = d)) : ¬(b = a ∧ d = c) := fun e => h ⟨e.1.symm, e.2.symm⟩
abbrev tupObj (its : Array Value) (n : Nat) : Obj := { cls := .type "tuple", data := .seq its n }

theorem mem2 {α : Type} {x a b : α} {l : List α} (h : x ∈ l) : x ∈ a :: b :: l := .tail _ (.tail _ h)
theorem mem3 {α : Type} {x a b c : α} {l : List α} (h : x ∈ l) : x ∈ a :: b :: c :: l := .tail _ (.tail _ (.tail _ h))
theorem mem4 {α : Type} {x a b c d : α} {l : List α} (h : x ∈ l) : x ∈ a :: b :: c :: d :: l := .tail _ (.tail _ (.tail _ (.tail _ h)))
theorem mem5 {α : Type} {x a b c d e : α} {l : List α} (h : x ∈ l) : x ∈ a :: b :: c :: d :: e :: l := .tail _ (.tail _ (.tail _ (.tail _ (.tail _ h))))
theorem mem6 {α : Type} {x a b c d e f : α} {l : List α} (h : x ∈ l) : x ∈ a :: b :: c :: d :: e :: f :: l := .tail _ (.tail _ (.tail _ (.tail _ (.tail _ (.tail _ h)))))

local macro_rules | `(tactic| k_all) => `(tactic| assumption)
local macro_rules | `(tactic| k_room) => `(tactic| ktr_room)
local macro_rules | `(tactic| k_units) => `(tactic| ktr_units)
local macro_rules | `(tactic| k_mem) => `(tactic| (repeat (first | assumption | exact List.Mem.head _ | refine List.Mem.tail _ ?_)))

/-- a thing of the heap: where it lies, its number, its place -/
structure Th where
  a : Addr
  x : Int
  y : Int
def Th.lt (s t : Th) : Bool := lx s.x s.y t.x t.y

/-- what _siftdown_max(heap, 0, 3), (0, 2), (1, 3) make of a heap of four -/
def sd03 (p q r n : Th) : Th × Th × Th × Th := cond (q.lt n) (cond (p.lt n) (n, p, r, q) (p, n, r, q)) (p, q, r, n)
def sd02 (p q n t : Th) : Th × Th × Th × Th := cond (p.lt n) (n, q, p, t) (p, q, n, t)
def sd13 (p q r n : Th) : Th × Th × Th × Th := cond (q.lt n) (p, n, r, q) (p, q, r, n)
def vals4 (S : Th × Th × Th × Th) : Array Value := #[.ref S.1.a, .ref S.2.1.a, .ref S.2.2.1.a, .ref S.2.2.2.a]
/-- what _siftup_max(heap, 0) and (heap, 1) make of it -/
def su0 (p q r t : Th) : Th × Th × Th × Th := cond (r.lt q) (sd03 q t r p) (sd02 r q p t)
def su1 (p q r t : Th) : Th × Th × Th × Th := sd13 p t r q

section
variable {w : World} {hp t0 t1 t2 t3 : Addr} {x0 x1 x2 x3 y0 y1 y2 y3 : Int} {u0 u1 u2 u3 v0 v1 v2 v3 : Tok} {r0 r1 r2 r3 : Value} {e0 e1 e2 e3 : Nat} {ep : Nat} {tk tk' : Tok} {rest : List (Addr × Obj)}
    (hrest : ∀ p ∈ rest, p.1 ≠ hp)
    (m0 : (t0, tupObj #[.int x0 u0, .int y0 v0, r0] e0) ∈ rest)
    (m1 : (t1, tupObj #[.int x1 u1, .int y1 v1, r1] e1) ∈ rest)
    (m2 : (t2, tupObj #[.int x2 u2, .int y2 v2, r2] e2) ∈ rest)
    (m3 : (t3, tupObj #[.int x3 u3, .int y3 v3, r3] e3) ∈ rest)
include hrest m0 m1 m2 m3

theorem siftdown03 (n13 : ¬ (x1 = x3 ∧ y1 = y3)) (n03 : ¬ (x0 = x3 ∧ y0 = y3)) :
    CallOk w 4 35 [.ref hp, .int 0 tk, .int 3 tk'] ((hp, listOf #[.ref t0, .ref t1, .ref t2, .ref t3] ep) :: rest)
      (fun r news' => r = .none ∧ news' = (hp, listOf (vals4 (sd03 ⟨t0, x0, y0⟩ ⟨t1, x1, y1⟩ ⟨t2, x2, y2⟩ ⟨t3, x3, y3⟩)) ep) :: rest) := by
  have hK : (hd.heap_39, PySem.Challenge.rw_mr0075_01) = (hd.heap_39, PySem.Challenge.rw_mr0075_01) := by k_fill; rfl
  clear hK
  unfold CallOk
  intro dp un gd cn cs a ccd cl outer A₀ base h₀ L m s p loose mean mg mb Q E B F X N T hk hd hu hret
  refine wpAny_call ?_
  k_dflt ktr_enter
  repeat' (first | (k_unfold; (try dsimp only)) | (k_end; wrow_close) | ((first | (k_here; (with_reducible show wpAny _ _ (compareOp CmpOp.Lt (Value.ref _) (Value.ref _)) _ _ _); k_dflt (refine' tup_lt3 ?k1 ?k2 ?k3 ?k4 ?_; (case k1 => exact News.isTup (by k_asm) (by k_mem)); (case k2 => exact News.isTup (by k_asm) (by k_mem)); (case k3 => first | assumption | exact flip2 (by assumption) | omega); (case k4 => ktr_units); k_whole)))) | (walk1) | (dsimp only; walk1) | (leave1; (try dsimp only)))
  all_goals
    refine hret _ _ _ _ (by k_asm) (by k_asm) ⟨rfl, ?_⟩
    show _ = (hp, listOf (vals4 (cond (lx x1 y1 x3 y3) (cond (lx x0 y0 x3 y3) _ _) _)) ep) :: rest
    first
      | (rw [show lx x1 y1 x3 y3 = true by assumption, show lx x0 y0 x3 y3 = true by assumption]; rfl)
      | (rw [show lx x1 y1 x3 y3 = true by assumption, show lx x0 y0 x3 y3 = false by assumption]; rfl)
      | (rw [show lx x1 y1 x3 y3 = false by assumption]; rfl)

theorem siftdown02 (n02 : ¬ (x0 = x2 ∧ y0 = y2)) :
    CallOk w 4 35 [.ref hp, .int 0 tk, .int 2 tk'] ((hp, listOf #[.ref t0, .ref t1, .ref t2, .ref t3] ep) :: rest)
      (fun r news' => r = .none ∧ news' = (hp, listOf (vals4 (sd02 ⟨t0, x0, y0⟩ ⟨t1, x1, y1⟩ ⟨t2, x2, y2⟩ ⟨t3, x3, y3⟩)) ep) :: rest) := by
  have hK : (hd.heap_39, PySem.Challenge.rw_mr0075_01) = (hd.heap_39, PySem.Challenge.rw_mr0075_01) := by k_fill; rfl
  clear hK
  unfold CallOk
  intro dp un gd cn cs a ccd cl outer A₀ base h₀ L m s p loose mean mg mb Q E B F X N T hk hd hu hret
  refine wpAny_call ?_
  k_dflt ktr_enter
  repeat' (first | (k_unfold; (try dsimp only)) | (k_end; wrow_close) | ((first | (k_here; (with_reducible show wpAny _ _ (compareOp CmpOp.Lt (Value.ref _) (Value.ref _)) _ _ _); k_dflt (refine' tup_lt3 ?k1 ?k2 ?k3 ?k4 ?_; (case k1 => exact News.isTup (by k_asm) (by k_mem)); (case k2 => exact News.isTup (by k_asm) (by k_mem)); (case k3 => first | assumption | exact flip2 (by assumption) | omega); (case k4 => ktr_units); k_whole)))) | (walk1) | (dsimp only; walk1) | (leave1; (try dsimp only)))
  all_goals
    refine hret _ _ _ _ (by k_asm) (by k_asm) ⟨rfl, ?_⟩
    show _ = (hp, listOf (vals4 (cond (lx x0 y0 x2 y2) _ _)) ep) :: rest
    first
      | (rw [show lx x0 y0 x2 y2 = true by assumption]; rfl)
      | (rw [show lx x0 y0 x2 y2 = false by assumption]; rfl)

theorem siftdown13 (n13 : ¬ (x1 = x3 ∧ y1 = y3)) :
    CallOk w 4 35 [.ref hp, .int 1 tk, .int 3 tk'] ((hp, listOf #[.ref t0, .ref t1, .ref t2, .ref t3] ep) :: rest)
      (fun r news' => r = .none ∧ news' = (hp, listOf (vals4 (sd13 ⟨t0, x0, y0⟩ ⟨t1, x1, y1⟩ ⟨t2, x2, y2⟩ ⟨t3, x3, y3⟩)) ep) :: rest) := by
  have hK : (hd.heap_39, PySem.Challenge.rw_mr0075_01) = (hd.heap_39, PySem.Challenge.rw_mr0075_01) := by k_fill; rfl
  clear hK
  unfold CallOk
  intro dp un gd cn cs a ccd cl outer A₀ base h₀ L m s p loose mean mg mb Q E B F X N T hk hd hu hret
  refine wpAny_call ?_
  k_dflt ktr_enter
  repeat' (first | (k_unfold; (try dsimp only)) | (k_end; wrow_close) | ((first | (k_here; (with_reducible show wpAny _ _ (compareOp CmpOp.Lt (Value.ref _) (Value.ref _)) _ _ _); k_dflt (refine' tup_lt3 ?k1 ?k2 ?k3 ?k4 ?_; (case k1 => exact News.isTup (by k_asm) (by k_mem)); (case k2 => exact News.isTup (by k_asm) (by k_mem)); (case k3 => first | assumption | exact flip2 (by assumption) | omega); (case k4 => ktr_units); k_whole)))) | (walk1) | (dsimp only; walk1) | (leave1; (try dsimp only)))
  all_goals
    refine hret _ _ _ _ (by k_asm) (by k_asm) ⟨rfl, ?_⟩
    show _ = (hp, listOf (vals4 (cond (lx x1 y1 x3 y3) _ _)) ep) :: rest
    first
      | (rw [show lx x1 y1 x3 y3 = true by assumption]; rfl)
      | (rw [show lx x1 y1 x3 y3 = false by assumption]; rfl)
end

end Mine

/-! # L3 -/
namespace Mine
theorem fresh_L3 : True := by
  w_top off
  exact True.intro
section
local macro_rules | `(tactic| k_all) => `(tactic| assumption)
local macro_rules | `(tactic| k_units) => `(tactic| ktr_units)
local macro_rules | `(tactic| k_mem) => `(tactic| (repeat (first | assumption | exact List.Mem.head _ | refine List.Mem.tail _ ?_)))
variable {w : World} {hp t0 t1 t2 t3 : Addr} {x0 x1 x2 x3 y0 y1 y2 y3 : Int} {u0 u1 u2 u3 v0 v1 v2 v3 : Tok} {r0 r1 r2 r3 : Value} {e0 e1 e2 e3 : Nat} {ep : Nat} {tk tk' : Tok} {rest : List (Addr × Obj)}
    (hrest : ∀ p ∈ rest, p.1 ≠ hp)
    (m0 : (t0, tupObj #[.int x0 u0, .int y0 v0, r0] e0) ∈ rest)
    (m1 : (t1, tupObj #[.int x1 u1, .int y1 v1, r1] e1) ∈ rest)
    (m2 : (t2, tupObj #[.int x2 u2, .int y2 v2, r2] e2) ∈ rest)
    (m3 : (t3, tupObj #[.int x3 u3, .int y3 v3, r3] e3) ∈ rest)
include hrest m0 m1 m2 m3

theorem siftup0 (n01 : ¬ (x0 = x1 ∧ y0 = y1)) (n02 : ¬ (x0 = x2 ∧ y0 = y2)) (n03 : ¬ (x0 = x3 ∧ y0 = y3)) (n12 : ¬ (x1 = x2 ∧ y1 = y2)) :
    CallOk w 6 42 [.ref hp, .int 0 tk] ((hp, listOf #[.ref t0, .ref t1, .ref t2, .ref t3] ep) :: rest)
      (fun r news' => r = .none ∧ news' = (hp, listOf (vals4 (su0 ⟨t0, x0, y0⟩ ⟨t1, x1, y1⟩ ⟨t2, x2, y2⟩ ⟨t3, x3, y3⟩)) ep) :: rest) := by
  have hK : (hd.heap_39, PySem.Challenge.rw_mr0075_01) = (hd.heap_39, PySem.Challenge.rw_mr0075_01) := by k_fill; rfl
  clear hK
  unfold CallOk
  intro dp un gd cn cs a ccd cl outer A₀ base h₀ L m s p loose mean mg mb Q E B F X N T hk hd hu hret
  refine wpAny_call ?_
  k_dflt ktr_enter
  repeat' (first | (k_unfold; (try dsimp only)) | (k_end; wrow_close) | ((first | ((with_reducible show wpAny _ _ (call (Value.ref _) _) _ _ _); first | (k_here; (with_reducible show wpAny _ _ (call (Value.ref 35) _) _ _ _); k_dflt (refine' CallOk.use (siftdown03 (hrest := ?q0) (m0 := ?q1) (m1 := ?q2) (m2 := ?q3) (m3 := ?q4) (n13 := ?n0) (n03 := ?n1)) ?kB ?kF ?kX ?kN ?kT ?kk ?kd ?ku ?_; (case kN => k_asm); (case q0 => assumption); (case q1 => assumption); (case q2 => assumption); (case q3 => assumption); (case q4 => assumption); (case n0 => first | assumption | exact flip2 (by assumption) | omega); (case n1 => first | assumption | exact flip2 (by assumption) | omega); (case kB => k_asm); (case kF => k_asm); (case kX => k_asm); (case kT => k_asm); (case kk => exact rfl); (case kd => ktr_room); (case ku => ktr_units); k_whole); intro r9_w n9_w h9_w tk9_w F9_w N9_w P9_w; obtain ⟨P8_w, P9_w⟩ := P9_w; subst P8_w; subst P9_w; (try dsimp only)) | (k_here; (with_reducible show wpAny _ _ (call (Value.ref 35) _) _ _ _); k_dflt (refine' CallOk.use (siftdown02 (hrest := ?q0) (m0 := ?q1) (m1 := ?q2) (m2 := ?q3) (m3 := ?q4) (n02 := ?n0)) ?kB ?kF ?kX ?kN ?kT ?kk ?kd ?ku ?_; (case kN => k_asm); (case q0 => assumption); (case q1 => assumption); (case q2 => assumption); (case q3 => assumption); (case q4 => assumption); (case n0 => first | assumption | exact flip2 (by assumption) | omega); (case kB => k_asm); (case kF => k_asm); (case kX => k_asm); (case kT => k_asm); (case kk => exact rfl); (case kd => ktr_room); (case ku => ktr_units); k_whole); intro r9_w n9_w h9_w tk9_w F9_w N9_w P9_w; obtain ⟨P8_w, P9_w⟩ := P9_w; subst P8_w; subst P9_w; (try dsimp only)) | (k_here; (with_reducible show wpAny _ _ (call (Value.ref 35) _) _ _ _); k_dflt (refine' CallOk.use (siftdown13 (hrest := ?q0) (m0 := ?q1) (m1 := ?q2) (m2 := ?q3) (m3 := ?q4) (n13 := ?n0)) ?kB ?kF ?kX ?kN ?kT ?kk ?kd ?ku ?_; (case kN => k_asm); (case q0 => assumption); (case q1 => assumption); (case q2 => assumption); (case q3 => assumption); (case q4 => assumption); (case n0 => first | assumption | exact flip2 (by assumption) | omega); (case kB => k_asm); (case kF => k_asm); (case kX => k_asm); (case kT => k_asm); (case kk => exact rfl); (case kd => ktr_room); (case ku => ktr_units); k_whole); intro r9_w n9_w h9_w tk9_w F9_w N9_w P9_w; obtain ⟨P8_w, P9_w⟩ := P9_w; subst P8_w; subst P9_w; (try dsimp only))) | (k_here; (with_reducible show wpAny _ _ (compareOp CmpOp.Lt (Value.ref _) (Value.ref _)) _ _ _); k_dflt (refine' tup_lt3 ?k1 ?k2 ?k3 ?k4 ?_; (case k1 => exact News.isTup (by k_asm) (by k_mem)); (case k2 => exact News.isTup (by k_asm) (by k_mem)); (case k3 => first | assumption | exact flip2 (by assumption) | omega); (case k4 => ktr_units); k_whole)))) | (walk1) | (dsimp only; walk1) | (leave1; (try dsimp only)))
  all_goals
    refine hret _ _ _ _ (by k_asm) (by k_asm) ⟨rfl, ?_⟩
    show _ = (hp, listOf (vals4 (cond (lx x2 y2 x1 y1) _ _)) ep) :: rest
    first
      | (rw [show lx x2 y2 x1 y1 = true by assumption]; rfl)
      | (rw [show lx x2 y2 x1 y1 = false by assumption]; rfl)

theorem siftup1 (n13 : ¬ (x1 = x3 ∧ y1 = y3)) :
    CallOk w 6 42 [.ref hp, .int 1 tk] ((hp, listOf #[.ref t0, .ref t1, .ref t2, .ref t3] ep) :: rest)
      (fun r news' => r = .none ∧ news' = (hp, listOf (vals4 (su1 ⟨t0, x0, y0⟩ ⟨t1, x1, y1⟩ ⟨t2, x2, y2⟩ ⟨t3, x3, y3⟩)) ep) :: rest) := by
  have hK : (hd.heap_39, PySem.Challenge.rw_mr0075_01) = (hd.heap_39, PySem.Challenge.rw_mr0075_01) := by k_fill; rfl
  clear hK
  unfold CallOk
  intro dp un gd cn cs a ccd cl outer A₀ base h₀ L m s p loose mean mg mb Q E B F X N T hk hd hu hret
  refine wpAny_call ?_
  k_dflt ktr_enter
  repeat' (first | (k_unfold; (try dsimp only)) | (k_end; wrow_close) | ((first | ((with_reducible show wpAny _ _ (call (Value.ref _) _) _ _ _); first | (k_here; (with_reducible show wpAny _ _ (call (Value.ref 35) _) _ _ _); k_dflt (refine' CallOk.use (siftdown03 (hrest := ?q0) (m0 := ?q1) (m1 := ?q2) (m2 := ?q3) (m3 := ?q4) (n13 := ?n0) (n03 := ?n1)) ?kB ?kF ?kX ?kN ?kT ?kk ?kd ?ku ?_; (case kN => k_asm); (case q0 => assumption); (case q1 => assumption); (case q2 => assumption); (case q3 => assumption); (case q4 => assumption); (case n0 => first | assumption | exact flip2 (by assumption) | omega); (case n1 => first | assumption | exact flip2 (by assumption) | omega); (case kB => k_asm); (case kF => k_asm); (case kX => k_asm); (case kT => k_asm); (case kk => exact rfl); (case kd => ktr_room); (case ku => ktr_units); k_whole); intro r9_w n9_w h9_w tk9_w F9_w N9_w P9_w; obtain ⟨P8_w, P9_w⟩ := P9_w; subst P8_w; subst P9_w; (try dsimp only)) | (k_here; (with_reducible show wpAny _ _ (call (Value.ref 35) _) _ _ _); k_dflt (refine' CallOk.use (siftdown02 (hrest := ?q0) (m0 := ?q1) (m1 := ?q2) (m2 := ?q3) (m3 := ?q4) (n02 := ?n0)) ?kB ?kF ?kX ?kN ?kT ?kk ?kd ?ku ?_; (case kN => k_asm); (case q0 => assumption); (case q1 => assumption); (case q2 => assumption); (case q3 => assumption); (case q4 => assumption); (case n0 => first | assumption | exact flip2 (by assumption) | omega); (case kB => k_asm); (case kF => k_asm); (case kX => k_asm); (case kT => k_asm); (case kk => exact rfl); (case kd => ktr_room); (case ku => ktr_units); k_whole); intro r9_w n9_w h9_w tk9_w F9_w N9_w P9_w; obtain ⟨P8_w, P9_w⟩ := P9_w; subst P8_w; subst P9_w; (try dsimp only)) | (k_here; (with_reducible show wpAny _ _ (call (Value.ref 35) _) _ _ _); k_dflt (refine' CallOk.use (siftdown13 (hrest := ?q0) (m0 := ?q1) (m1 := ?q2) (m2 := ?q3) (m3 := ?q4) (n13 := ?n0)) ?kB ?kF ?kX ?kN ?kT ?kk ?kd ?ku ?_; (case kN => k_asm); (case q0 => assumption); (case q1 => assumption); (case q2 => assumption); (case q3 => assumption); (case q4 => assumption); (case n0 => first | assumption | exact flip2 (by assumption) | omega); (case kB => k_asm); (case kF => k_asm); (case kX => k_asm); (case kT => k_asm); (case kk => exact rfl); (case kd => ktr_room); (case ku => ktr_units); k_whole); intro r9_w n9_w h9_w tk9_w F9_w N9_w P9_w; obtain ⟨P8_w, P9_w⟩ := P9_w; subst P8_w; subst P9_w; (try dsimp only))) | (k_here; (with_reducible show wpAny _ _ (compareOp CmpOp.Lt (Value.ref _) (Value.ref _)) _ _ _); k_dflt (refine' tup_lt3 ?k1 ?k2 ?k3 ?k4 ?_; (case k1 => exact News.isTup (by k_asm) (by k_mem)); (case k2 => exact News.isTup (by k_asm) (by k_mem)); (case k3 => first | assumption | exact flip2 (by assumption) | omega); (case k4 => ktr_units); k_whole)))) | (walk1) | (dsimp only; walk1) | (leave1; (try dsimp only)))
  all_goals exact hret _ _ _ _ (by k_asm) (by k_asm) ⟨rfl, rfl⟩
end

section
local macro_rules | `(tactic| k_all) => `(tactic| assumption)
local macro_rules | `(tactic| k_units) => `(tactic| ktr_units)
local macro_rules | `(tactic| k_mem) => `(tactic| (repeat (first | assumption | exact List.Mem.head _ | refine List.Mem.tail _ ?_)))
variable {w : World} {hp t0 t1 t2 t3 : Addr} {x0 x1 x2 x3 y0 y1 y2 y3 : Int} {u0 u1 u2 u3 v0 v1 v2 v3 : Tok} {r0 r1 r2 r3 : Value} {e0 e1 e2 e3 : Nat} {ep : Nat} {tk tk' : Tok} {rest : List (Addr × Obj)}
    (hrest : ∀ p ∈ rest, p.1 ≠ hp)
    (m0 : (t0, tupObj #[.int x0 u0, .int y0 v0, r0] e0) ∈ rest)
    (m1 : (t1, tupObj #[.int x1 u1, .int y1 v1, r1] e1) ∈ rest)
    (m2 : (t2, tupObj #[.int x2 u2, .int y2 v2, r2] e2) ∈ rest)
    (m3 : (t3, tupObj #[.int x3 u3, .int y3 v3, r3] e3) ∈ rest)
include hrest m0 m1 m2 m3

theorem heapreplace {ti : Addr} {xi yi : Int} {ui vi : Tok} {ri : Value} {ei : Nat} (mi : (ti, tupObj #[.int xi ui, .int yi vi, ri] ei) ∈ rest)
    (n01 : ¬ (xi = x1 ∧ yi = y1)) (n02 : ¬ (xi = x2 ∧ yi = y2)) (n03 : ¬ (xi = x3 ∧ yi = y3)) (n12 : ¬ (x1 = x2 ∧ y1 = y2)) :
    CallOk w 9 21 [.ref hp, .ref ti] ((hp, listOf #[.ref t0, .ref t1, .ref t2, .ref t3] ep) :: rest)
      (fun r news' => r = .ref t0 ∧ news' = (hp, listOf (vals4 (su0 ⟨ti, xi, yi⟩ ⟨t1, x1, y1⟩ ⟨t2, x2, y2⟩ ⟨t3, x3, y3⟩)) ep) :: rest) := by
  have hK : (hd.heap_39, PySem.Challenge.rw_mr0075_01) = (hd.heap_39, PySem.Challenge.rw_mr0075_01) := by k_fill; rfl
  clear hK
  unfold CallOk
  intro dp un gd cn cs a ccd cl outer A₀ base h₀ L m s p loose mean mg mb Q E B F X N T hk hd hu hret
  refine wpAny_call ?_
  k_dflt ktr_enter
  repeat' (first | (k_unfold; (try dsimp only)) | (k_end; wrow_close) | ((first | ((with_reducible show wpAny _ _ (call (Value.ref _) _) _ _ _); first | (k_here; (with_reducible show wpAny _ _ (call (Value.ref 42) _) _ _ _); k_dflt (refine' CallOk.use (siftup0 (hrest := ?q0) (m0 := ?q1) (m1 := ?q2) (m2 := ?q3) (m3 := ?q4) (n01 := ?n0) (n02 := ?n1) (n03 := ?n2) (n12 := ?n3)) ?kB ?kF ?kX ?kN ?kT ?kk ?kd ?ku ?_; (case kN => k_asm); (case q0 => assumption); (case q1 => assumption); (case q2 => assumption); (case q3 => assumption); (case q4 => assumption); (case n0 => first | assumption | exact flip2 (by assumption) | omega); (case n1 => first | assumption | exact flip2 (by assumption) | omega); (case n2 => first | assumption | exact flip2 (by assumption) | omega); (case n3 => first | assumption | exact flip2 (by assumption) | omega); (case kB => k_asm); (case kF => k_asm); (case kX => k_asm); (case kT => k_asm); (case kk => exact rfl); (case kd => ktr_room); (case ku => ktr_units); k_whole); intro r9_w n9_w h9_w tk9_w F9_w N9_w P9_w; obtain ⟨P8_w, P9_w⟩ := P9_w; subst P8_w; subst P9_w; (try dsimp only)) | (k_here; (with_reducible show wpAny _ _ (call (Value.ref 42) _) _ _ _); k_dflt (refine' CallOk.use (siftup1 (hrest := ?q0) (m0 := ?q1) (m1 := ?q2) (m2 := ?q3) (m3 := ?q4) (n13 := ?n0)) ?kB ?kF ?kX ?kN ?kT ?kk ?kd ?ku ?_; (case kN => k_asm); (case q0 => assumption); (case q1 => assumption); (case q2 => assumption); (case q3 => assumption); (case q4 => assumption); (case n0 => first | assumption | exact flip2 (by assumption) | omega); (case kB => k_asm); (case kF => k_asm); (case kX => k_asm); (case kT => k_asm); (case kk => exact rfl); (case kd => ktr_room); (case ku => ktr_units); k_whole); intro r9_w n9_w h9_w tk9_w F9_w N9_w P9_w; obtain ⟨P8_w, P9_w⟩ := P9_w; subst P8_w; subst P9_w; (try dsimp only))))) | (walk1) | (dsimp only; walk1) | (leave1; (try dsimp only)))
  all_goals exact hret _ _ _ _ (by k_asm) (by k_asm) ⟨rfl, rfl⟩
end

/-! the same, wherever the heap lies in the ledger -/
theorem CallOk.atUpd {w : World} {k : Nat} {f : Addr} {args : List Value} {hp : Addr} {o o' : Obj} {v : Value} {news news' : List (Addr × Obj)} (U : Upd hp o o' news news')
    (C : ∀ rest, (∀ p ∈ rest, p.1 ≠ hp) → (∀ p ∈ news, p.2 ≠ o → p ∈ rest) → CallOk w k f args ((hp, o) :: rest) (fun r n => r = v ∧ n = (hp, o') :: rest)) :
    CallOk w k f args news (fun r n => r = v ∧ n = news') := by
  obtain ⟨pre, post, rfl, rfl, h1, h2⟩ := U.split
  have C' := C (pre ++ post) (fun p hp => (List.mem_append.mp hp).elim (h1 p) (h2 p)) (fun p hp hne => by
    rcases List.mem_append.mp hp with h | h
    · exact List.mem_append_left _ h
    · rcases List.mem_cons.mp h with rfl | h
      · exact absurd rfl hne
      · exact List.mem_append_right _ h)
  intro dp un gd cn cs a ccd cl outer A₀ base h₀ L m s p loose mean mg mb Q E B F X N T hk hd hu ret
  refine C' dp un gd cn cs a ccd cl outer A₀ base h₀ L m s p loose mean mg mb Q E B F X (fun q hq => N q ?_) T hk hd hu ?_
  · rcases List.mem_cons.mp hq with rfl | hq
    · exact List.mem_append_right _ (.head _)
    · exact (List.mem_append.mp hq).elim (fun h => List.mem_append_left _ h) fun h => List.mem_append_right _ (.tail _ h)
  · rintro r n h' tk' F' N' ⟨rfl, rfl⟩
    refine ret _ _ h' tk' F' (fun q hq => N' q ?_) ⟨rfl, rfl⟩
    rcases List.mem_append.mp hq with h | h
    · exact .tail _ (List.mem_append_left _ h)
    · rcases List.mem_cons.mp h with rfl | h
      · exact .head _
      · exact .tail _ (List.mem_append_right _ h)
theorem tup_ne_list {a b : Array Value} {n k : Nat} : tupObj a n ≠ listOf b k := fun e => absurd (show Value.type "tuple" = Value.type "list" from congrArg Obj.cls e) (by decide)

section
variable {w : World} {hp t0 t1 t2 t3 : Addr} {x0 x1 x2 x3 y0 y1 y2 y3 : Int} {u0 u1 u2 u3 v0 v1 v2 v3 : Tok} {r0 r1 r2 r3 : Value} {e0 e1 e2 e3 : Nat} {ep : Nat} {tk tk' : Tok} {news news' : List (Addr × Obj)}
    (m0 : (t0, tupObj #[.int x0 u0, .int y0 v0, r0] e0) ∈ news)
    (m1 : (t1, tupObj #[.int x1 u1, .int y1 v1, r1] e1) ∈ news)
    (m2 : (t2, tupObj #[.int x2 u2, .int y2 v2, r2] e2) ∈ news)
    (m3 : (t3, tupObj #[.int x3 u3, .int y3 v3, r3] e3) ∈ news)
include m0 m1 m2 m3

theorem siftup0U (n01 : ¬ (x0 = x1 ∧ y0 = y1)) (n02 : ¬ (x0 = x2 ∧ y0 = y2)) (n03 : ¬ (x0 = x3 ∧ y0 = y3)) (n12 : ¬ (x1 = x2 ∧ y1 = y2)) (U : Upd hp (listOf #[.ref t0, .ref t1, .ref t2, .ref t3] ep) (listOf (vals4 (su0 ⟨t0, x0, y0⟩ ⟨t1, x1, y1⟩ ⟨t2, x2, y2⟩ ⟨t3, x3, y3⟩)) ep) news news') :
    CallOk w 6 42 [.ref hp, .int 0 tk] news (fun r n => r = .none ∧ n = news') :=
  CallOk.atUpd U fun rest h1 h2 => siftup0 h1 (h2 _ m0 tup_ne_list) (h2 _ m1 tup_ne_list) (h2 _ m2 tup_ne_list) (h2 _ m3 tup_ne_list) n01 n02 n03 n12
theorem siftup1U (n13 : ¬ (x1 = x3 ∧ y1 = y3)) (U : Upd hp (listOf #[.ref t0, .ref t1, .ref t2, .ref t3] ep) (listOf (vals4 (su1 ⟨t0, x0, y0⟩ ⟨t1, x1, y1⟩ ⟨t2, x2, y2⟩ ⟨t3, x3, y3⟩)) ep) news news') :
    CallOk w 6 42 [.ref hp, .int 1 tk] news (fun r n => r = .none ∧ n = news') :=
  CallOk.atUpd U fun rest h1 h2 => siftup1 h1 (h2 _ m0 tup_ne_list) (h2 _ m1 tup_ne_list) (h2 _ m2 tup_ne_list) (h2 _ m3 tup_ne_list) n13
theorem heapreplaceU {ti : Addr} {xi yi : Int} {ui vi : Tok} {ri : Value} {ei : Nat} (mi : (ti, tupObj #[.int xi ui, .int yi vi, ri] ei) ∈ news)
    (n01 : ¬ (xi = x1 ∧ yi = y1)) (n02 : ¬ (xi = x2 ∧ yi = y2)) (n03 : ¬ (xi = x3 ∧ yi = y3)) (n12 : ¬ (x1 = x2 ∧ y1 = y2)) (U : Upd hp (listOf #[.ref t0, .ref t1, .ref t2, .ref t3] ep) (listOf (vals4 (su0 ⟨ti, xi, yi⟩ ⟨t1, x1, y1⟩ ⟨t2, x2, y2⟩ ⟨t3, x3, y3⟩)) ep) news news') :
    CallOk w 9 21 [.ref hp, .ref ti] news (fun r n => r = .ref t0 ∧ n = news') :=
  CallOk.atUpd U fun rest h1 h2 => heapreplace h1 (h2 _ m0 tup_ne_list) (h2 _ m1 tup_ne_list) (h2 _ m2 tup_ne_list) (h2 _ m3 tup_ne_list) (h2 _ mi tup_ne_list) n01 n02 n03 n12
end
end Mine

/-! # L4 -/
namespace Mine
theorem fresh_L4 : True := by
  w_top off
  exact True.intro
section
variable {prog : Program} {w : World} {A : Around} {E : Value → Shared → Prop} {s : Shared} {env : Env} {h₀ : Heap} {x : Str} {body : List Stmt} {Q : Flow → Shared → Prop}

abbrev itRg (x left c : Int) : Obj := { cls := .type "range_iterator", data := .fields #[rawInt x, rawInt left, rawInt c] }

/-- a for over a range's iterator, by what holds of the frame and of the ledger before the turn i -/
theorem loop_R {I : Addr} {a c : Int} {n : Nat} {m₀ : Str → Option Value} {news : List (Addr × Obj)} (J : Nat → (Str → Option Value) → List (Addr × Obj) → Prop)
    (hh : A.handled = none) (hit : s.heap.get? I = some (itRg a (n : Int) c)) (hIL : env.locals ≠ I) (hI0 : h₀.get? I = none) (hIn : ∀ p ∈ news, p.1 ≠ I)
    (F : Fr h₀ env.locals s.heap m₀) (N : News h₀ env.locals s.heap news) (hj : J 0 m₀ news)
    (turn : ∀ i t m₁ news₁ h tk o, o = itRg (a + ((i + 1 : Nat) : Int) * c) ((n : Int) - ((i + 1 : Nat) : Int)) c → i < n → J i m₁ news₁ → (∀ p ∈ news₁, p.1 ≠ I) →
      Fr h₀ env.locals h (fun y => if y = x then some (.int (a + (i : Int) * c) t) else m₁ y) → News h₀ env.locals h ((I, o) :: news₁) →
      wpAny (model prog w) A (execs body env) (UnrPost h₀ env.locals { s with heap := h, toks := tk } I o (J (i + 1)) Q) E { s with heap := h, toks := tk })
    (done : ∀ m₁ news₁ h tk, J n m₁ news₁ → Fr h₀ env.locals h m₁ → News h₀ env.locals h news₁ → Q .next { s with heap := h, toks := tk }) :
    LoopAtV prog w A h₀ env x body Q E (.ref I) s := by
  have W : Walks prog w A I [I] [I] n (fun i v => i < n ∧ ∃ t, v = .int (a + i * c) t)
      (fun i h => IsRangeIter h I (a + (i : Nat) * c) ((n : Int) - (i : Nat)) c) := (Walks.range hh I a c n).bound
  refine ⟨I, _, _, n, _, _, m₀, news, J, rfl, W, ?_, ?_, ?_, (by show IsRangeIter _ _ _ _ _; simpa using hit), F, N, hj, ?_, ?_⟩
  · intro hm; exact hIL (List.mem_singleton.mp hm)
  · intro b hb; rw [List.mem_singleton.mp hb]; exact hI0
  · intro p hp hI; exact hIn p hp (List.mem_singleton.mp hI)
  · rintro i v m₁ news₁ s₁ own ⟨hh', tk', rfl⟩ hin ⟨_, t, rfl⟩ hJ hoff hown hget hall hst F₁ N₁
    have hst' : hh'.get? I = some (itRg (a + ((i + 1 : Nat) : Int) * c) ((n : Int) - ((i + 1 : Nat) : Int)) c) := hst
    have hmem := hall I (List.mem_singleton.mpr rfl) hI0 _ hst'
    have N₂ : News h₀ env.locals hh' ((I, itRg (a + ((i + 1 : Nat) : Int) * c) ((n : Int) - ((i + 1 : Nat) : Int)) c) :: news₁) := fun p hp => by
      rcases List.mem_cons.mp hp with rfl | hp
      · exact N₁ _ (List.mem_append_left _ hmem)
      · exact N₁ _ (List.mem_append_right _ hp)
    refine wpAny_mono (turn i t m₁ news₁ hh' tk' _ rfl hin hJ (fun p hp e => hoff p hp (List.mem_singleton.mpr e)) F₁ N₂) (fun f s₂ p => ?_) fun _ _ e => e
    have fin : UnrEnd h₀ env.locals { s with heap := hh', toks := tk' } I (itRg (a + ((i + 1 : Nat) : Int) * c) ((n : Int) - ((i + 1 : Nat) : Int)) c) (J (i + 1)) s₂ →
        LoopStepU h₀ env.locals [I] own (J (i + 1)) { s with heap := hh', toks := tk' } .next s₂ := by
      rintro ⟨h', tk, m', news', e, F', N', ho, r⟩
      refine ⟨rfl, h', tk, m', news', e, F', fun p hp => ?_, fun p hp hI => ho p hp (List.mem_singleton.mp hI), r⟩
      rcases List.mem_append.mp hp with hp | hp
      · have h1 : p.1 = I := List.mem_singleton.mp (hown p hp)
        have h2 : hh'.get? p.1 = some p.2 := hget p hp
        have h3 : p = (I, itRg (a + ((i + 1 : Nat) : Int) * c) ((n : Int) - ((i + 1 : Nat) : Int)) c) := by
          rw [h1, hst'] at h2
          exact Prod.ext h1 (Option.some.inj h2).symm
        rw [h3]; exact N' _ (List.mem_cons_self ..)
      · exact N' _ (List.mem_cons_of_mem _ hp)
    cases f with
    | ret v => exact .ret p
    | brk => exact .brk p
    | next => exact .next (fin p)
    | cont => exact .cont (fin p)
  · rintro h' tk m' news' F' N' _ hJ
    exact done m' news' h' tk hJ F' N'

/-- the same where the names that the body stores are forgotten -/
theorem loop_RS {I : Addr} {a c : Int} {n : Nat} {m₀ : Str → Option Value} {news : List (Addr × Obj)} (stored : List Str) (J : Nat → List (Addr × Obj) → Prop)
    (hh : A.handled = none) (hit : s.heap.get? I = some (itRg a (n : Int) c)) (hIL : env.locals ≠ I) (hI0 : h₀.get? I = none) (hIn : ∀ p ∈ news, p.1 ≠ I)
    (F : Fr h₀ env.locals s.heap m₀) (N : News h₀ env.locals s.heap news) (hj : J 0 news)
    (turn : ∀ i t (u : Str → Option Value) news₁ h tk o, o = itRg (a + ((i + 1 : Nat) : Int) * c) ((n : Int) - ((i + 1 : Nat) : Int)) c → i < n → J i news₁ → (∀ p ∈ news₁, p.1 ≠ I) →
      Fr h₀ env.locals h (fun y => if y = x then some (.int (a + (i : Int) * c) t) else if stored.contains y then u y else m₀ y) → News h₀ env.locals h ((I, o) :: news₁) →
      wpAny (model prog w) A (execs body env) (UnrPost h₀ env.locals { s with heap := h, toks := tk } I o (fun m' news' => (∀ y, y ≠ x → stored.contains y = false → m' y = m₀ y) ∧ J (i + 1) news') Q) E { s with heap := h, toks := tk })
    (done : ∀ (u : Str → Option Value) news₁ h tk, J n news₁ → Fr h₀ env.locals h (fun y => if y = x then u y else if stored.contains y then u y else m₀ y) → News h₀ env.locals h news₁ → Q .next { s with heap := h, toks := tk }) :
    LoopAtV prog w A h₀ env x body Q E (.ref I) s := by
  refine loop_R (fun i m' news' => (∀ y, y ≠ x → stored.contains y = false → m' y = m₀ y) ∧ J i news') hh hit hIL hI0 hIn F N ⟨fun _ _ _ => rfl, hj⟩ ?_ ?_
  · intro i t m₁ news₁ h tk o ho hi hJ hI F₁ N₁
    have e : (fun y => if y = x then some (Value.int (a + (i : Int) * c) t) else m₁ y) = fun y => if y = x then some (Value.int (a + (i : Int) * c) t) else if stored.contains y then m₁ y else m₀ y := by
      funext y
      by_cases h1 : y = x
      · simp [h1]
      · simp only [if_neg h1]
        cases h2 : stored.contains y with
        | true => simp
        | false => simp only [Bool.false_eq_true, if_false]; exact hJ.1 y h1 h2
    rw [e] at F₁
    exact turn i t m₁ news₁ h tk o ho hi hJ.2 hI F₁ N₁
  · intro m₁ news₁ h tk hJ F₁ N₁
    have e : m₁ = fun y => if y = x then m₁ y else if stored.contains y then m₁ y else m₀ y := by
      funext y
      by_cases h1 : y = x
      · simp [h1]
      · simp only [if_neg h1]
        cases h2 : stored.contains y with
        | true => simp
        | false => simp only [Bool.false_eq_true, if_false]; exact hJ.1 y h1 h2
    rw [e] at F₁
    exact done m₁ news₁ h tk hJ.2 F₁ N₁

theorem iter_RS {r : Addr} {a₀ b₀ : Int} {t₀ u₀ v₀ : Tok} {n : Nat} {m₀ : Str → Option Value} {news : List (Addr × Obj)} (stored : List Str) (J : Nat → List (Addr × Obj) → Prop)
    (hh : A.handled = none) (hr : IsRange s.heap r a₀ b₀ 1 t₀ u₀ v₀) (hsmall : Builtin.Range.small a₀ b₀ 1 = true) (hn : Builtin.Range.rangeSize a₀ b₀ 1 = (n : Int))
    (F : Fr h₀ env.locals s.heap m₀) (N : News h₀ env.locals s.heap news) (hj : J 0 news)
    (turn : ∀ I i t (u : Str → Option Value) news₁ h tk o, o = itRg (a₀ + ((i + 1 : Nat) : Int) * 1) ((n : Int) - ((i + 1 : Nat) : Int)) 1 → i < n → J i news₁ → (∀ p ∈ news₁, p.1 ≠ I) →
      Fr h₀ env.locals h (fun y => if y = x then some (.int (a₀ + (i : Int) * 1) t) else if stored.contains y then u y else m₀ y) → News h₀ env.locals h ((I, o) :: news₁) →
      wpAny (model prog w) A (execs body env) (UnrPost h₀ env.locals { s with heap := h, toks := tk } I o (fun m' news' => (∀ y, y ≠ x → stored.contains y = false → m' y = m₀ y) ∧ J (i + 1) news') Q) E { s with heap := h, toks := tk })
    (done : ∀ (u : Str → Option Value) news₁ h tk, J n news₁ → Fr h₀ env.locals h (fun y => if y = x then u y else if stored.contains y then u y else m₀ y) → News h₀ env.locals h news₁ → Q .next { s with heap := h, toks := tk }) :
    wpAny (model prog w) A (pyIter (.ref r)) (fun it s₂ => LoopAtV prog w A h₀ env x body Q E it s₂) E s := by
  refine wpAny_pyIter_range hr hsmall ?_
  have hlt : ∀ p ∈ news, p.1 < s.heap.objs.size := fun p hp => Heap.lt_size (N p hp).1
  refine loop_RS (s := { s with heap := s.heap.push _ }) stored J hh (a := a₀) (c := 1) (n := n) (I := s.heap.objs.size) ?_ (Nat.ne_of_lt F.ns.lt) (next_is_new F) (fun p hp => Nat.ne_of_lt (hlt p hp)) (F.push _) (fun p hp => ⟨Heap.get?_push_of_some _ (N p hp).1, (N p hp).2⟩) hj ?_ ?_
  · rw [← hn]; exact Heap.get?_push_size _ rfl
  · intro i t u news₁ h tk o ho hi hJ hI F₁ N₁
    exact turn _ i t u news₁ h tk o ho hi hJ hI F₁ N₁
  · exact done
end

section
variable {prog : Program} {w : World} {A : Around} {E : Value → Shared → Prop} {s : Shared} {h₀ : Heap} {L : Addr} {m : Str → Option Value} {news : List (Addr × Obj)}

theorem call_range_reversed {r : Addr} {a b : Int} {t u v : Tok} {n : Nat} {Q : Value → Shared → Prop} (hr : IsRange s.heap r a b 1 t u v) (hn : Builtin.Range.rangeSize a b 1 = (n : Int))
    (hs : (Builtin.Range.rangeFitsLong a && Builtin.Range.rangeFitsLong b && Builtin.Range.rangeFitsLong 1 && Builtin.Range.rangeFitsLong (-1) && Builtin.Range.rangeFitsLong (a - 1) && Builtin.Range.rangeFitsLong (Builtin.Range.rangeSize a b 1)) = true)
    (h : Q (.ref s.heap.objs.size) { s with heap := s.heap.push (itRg (a + ((n : Int) - 1) * 1) n (-1)) }) : wpAny (model prog w) A (call (.builtin "range.__reversed__") [.ref r]) Q E s := by
  have hT : s.TypeIs (.ref r) "range" := ⟨_, hr, rfl⟩
  refine wpAny_call_entry F.slot_range_reversed hT F.entry_range_reversed ?_ (F.args_range_reversed_1 _)
  obtain ⟨hp, g, d, tk, os⟩ := s
  wp_walk using wpAny_loadPart' hr
  all_goals (try rw [hn] at hs ⊢)
  all_goals (try (simp only [hs, Bool.not_true, Bool.false_eq_true, if_false, if_true]))
  wp_walk
  exact ⟨_, rfl, h⟩

theorem sub_ri_reversed : isSubtype (.type "range_iterator") (.type "reversed") = pure false := by rw [isSubtype_type]; kernel_rfl

theorem code_reversed_newR {r : Addr} {a b : Int} {t u v : Tok} {n : Nat} {Q₁ : Value → Shared → Prop} (hr : IsRange s.heap r a b 1 t u v) (hn : Builtin.Range.rangeSize a b 1 = (n : Int))
    (hs : (Builtin.Range.rangeFitsLong a && Builtin.Range.rangeFitsLong b && Builtin.Range.rangeFitsLong 1 && Builtin.Range.rangeFitsLong (-1) && Builtin.Range.rangeFitsLong (a - 1) && Builtin.Range.rangeFitsLong (Builtin.Range.rangeSize a b 1)) = true)
    (h : Q₁ (.ref s.heap.objs.size) { s with heap := s.heap.push (itRg (a + ((n : Int) - 1) * 1) n (-1)) }) :
    codeAny (model prog w) A (.call (.builtin "reversed.__new__") ⟨[.type "reversed", .ref r], []⟩) (wants Q₁ E) s := by
  have hT : s.TypeIs (.ref r) "range" := ⟨_, hr, rfl⟩
  refine codeAny_of_tree ?_
  show wpAny _ A.in1 (do checkBuiltinCall "reversed.__new__" ⟨[.type "reversed", .ref r], []⟩; again (.builtin "reversed.__new__" ⟨[.type "reversed", .ref r], []⟩)) _ _ s
  refine wpAny_bind (wpAny_of_eq (F.newCall_reversed_1 _) (wpAny_pure ⟨plainId_quiet F.plain_reversed_new _, codeAny_builtin F.entry_reversed_new ?_⟩))
  rw [Around.under_plainId F.plain_reversed_new _]
  unfold Builtin.«reversed.__new__»
  refine wpAny_bind (wpAny_of_eq (newClass_reversed _) ?_)
  try dsimp only
  refine wpAny_bind (wpAny_of_eq (a := ()) (by first | rfl | kernel_rfl) ?_)
  refine wpAny_bind (wpAny_of_eq (a := ()) (by first | rfl | kernel_rfl) ?_)
  try dsimp only
  refine wpAny_bind (wpAny_specialOf hT F.slot_range_reversed.lookup ?_)
  try dsimp only
  refine wpAny_bind (wpAny_of_eq (F.slot_range_reversed.bind _) ?_)
  try dsimp only
  first
  | rw [if_neg (show ¬ ((Value.builtin "range.__reversed__" == Value.none) = true) from Bool.false_ne_true)]
  | (show wpAny _ _ (if (Value.builtin "range.__reversed__" == Value.none) = true then _ else _) _ _ _; rw [if_neg (show ¬ ((Value.builtin "range.__reversed__" == Value.none) = true) from Bool.false_ne_true)])
  refine wpAny_bind (wpAny_rule ?_)
  refine wpAny_bind (m := runValue (.call (.builtin "range.__reversed__") ⟨[.ref r], []⟩)) (show wpAny _ _ (call (.builtin "range.__reversed__") [.ref r]) _ _ _ from call_range_reversed hr hn hs ?_)
  first
  | exact wpAny_pure h
  | exact wpAny_bind (wpAny_pure (wpAny_pure h))

theorem reversed_R {r : Addr} {a b : Int} {t u v : Tok} {n : Nat} {Q : Value → Shared → Prop} (Fx : Fr h₀ L s.heap m) (N : News h₀ L s.heap news) (hr : IsRange s.heap r a b 1 t u v) (hn : Builtin.Range.rangeSize a b 1 = (n : Int))
    (hs : (Builtin.Range.rangeFitsLong a && Builtin.Range.rangeFitsLong b && Builtin.Range.rangeFitsLong 1 && Builtin.Range.rangeFitsLong (-1) && Builtin.Range.rangeFitsLong (a - 1) && Builtin.Range.rangeFitsLong (Builtin.Range.rangeSize a b 1)) = true)
    (h : ∀ D h', Fr h₀ L h' m → News h₀ L h' news → h'.get? D = some (itRg (a + ((n : Int) - 1) * 1) n (-1)) → L ≠ D → h₀.get? D = none → (∀ p ∈ news, p.1 < D) → Q (.ref D) { s with heap := h' }) :
    wpAny (model prog w) A (call (.type "reversed") [.ref r]) Q E s := by
  refine callType_other (U := "range_iterator") (Q₁ := fun obj s₁ => obj = .ref s.heap.objs.size ∧ s₁ = { s with heap := s.heap.push (itRg (a + ((n : Int) - 1) * 1) n (-1)) }) (by decide +kernel) F.create_reversed ⟨_, _, F.mro_reversed⟩ F.made_reversed sub_ri_reversed (F.typeCall_reversed_1 _) (code_reversed_newR hr hn hs ⟨rfl, rfl⟩) ?_
  rintro obj s₁ ⟨rfl, rfl⟩
  exact ⟨⟨_, Heap.get?_push_size _ rfl, rfl⟩, h _ _ (Fx.push _) (fun p hp => ⟨Heap.get?_push_of_some _ (N p hp).1, (N p hp).2⟩) (Heap.get?_push_size _ rfl) (Nat.ne_of_lt Fx.ns.lt) (next_is_new Fx) (fun p hp => Heap.lt_size (N p hp).1)⟩
end
end Mine

/-! # L5 -/
namespace Mine
theorem fresh_L5 : True := by
  w_top off
  exact True.intro
section
local macro_rules | `(tactic| k_all) => `(tactic| assumption)
local macro_rules | `(tactic| k_units) => `(tactic| ktr_units)
local macro_rules | `(tactic| k_mem) => `(tactic| (repeat (first | assumption | exact List.Mem.head _ | refine List.Mem.tail _ ?_)))
variable {w : World} {hp t0 t1 t2 t3 : Addr} {x0 x1 x2 x3 y0 y1 y2 y3 : Int} {u0 u1 u2 u3 v0 v1 v2 v3 : Tok} {r0 r1 r2 r3 : Value} {e0 e1 e2 e3 : Nat} {ep : Nat} {tk tk' : Tok} {rest : List (Addr × Obj)}
    (hrest : ∀ p ∈ rest, p.1 ≠ hp)
    (m0 : (t0, tupObj #[.int x0 u0, .int y0 v0, r0] e0) ∈ rest)
    (m1 : (t1, tupObj #[.int x1 u1, .int y1 v1, r1] e1) ∈ rest)
    (m2 : (t2, tupObj #[.int x2 u2, .int y2 v2, r2] e2) ∈ rest)
    (m3 : (t3, tupObj #[.int x3 u3, .int y3 v3, r3] e3) ∈ rest)
include hrest m0 m1 m2 m3

/-- what _heapify_max makes of four things -/
def hpf (p q r t : Th) : Th × Th × Th × Th := cond (t.lt q) (su0 p q r t) (su0 p t r q)

theorem heapify (n01 : ¬ (x0 = x1 ∧ y0 = y1)) (n02 : ¬ (x0 = x2 ∧ y0 = y2)) (n03 : ¬ (x0 = x3 ∧ y0 = y3)) (n12 : ¬ (x1 = x2 ∧ y1 = y2)) (n13 : ¬ (x1 = x3 ∧ y1 = y3)) (n23 : ¬ (x2 = x3 ∧ y2 = y3)) :
    CallOk w 9 28 [.ref hp] ((hp, listOf #[.ref t0, .ref t1, .ref t2, .ref t3] ep) :: rest)
      (fun r news' => r = .none ∧ news' = (hp, listOf (vals4 (hpf ⟨t0, x0, y0⟩ ⟨t1, x1, y1⟩ ⟨t2, x2, y2⟩ ⟨t3, x3, y3⟩)) ep) :: rest) := by
  have hK : (hd.heap_39, PySem.Challenge.rw_mr0075_01) = (hd.heap_39, PySem.Challenge.rw_mr0075_01) := by k_fill; rfl
  clear hK
  unfold CallOk
  intro dp un gd cn cs a ccd cl outer A₀ base h₀ L m s p loose mean mg mb Q E B F X N T hk hd hu hret
  refine wpAny_call ?_
  k_dflt ktr_enter
  repeat' (first | (k_unfold; (try dsimp only [List.nil_append, List.cons_append])) | (k_end; wrow_close) | ((first | ((with_reducible show wpAny _ _ (call (Value.ref _) _) _ _ _); first | (k_here; (with_reducible show wpAny _ _ (call (Value.ref 42) _) _ _ _); k_dflt (refine' CallOk.use (siftup0U (m0 := ?q0) (m1 := ?q1) (m2 := ?q2) (m3 := ?q3) (n01 := ?n0) (n02 := ?n1) (n03 := ?n2) (n12 := ?n3) (U := ?U)) ?kB ?kF ?kX ?kN ?kT ?kk ?kd ?ku ?_; (case kN => k_asm); (case U => k_upd); (case q0 => k_mem); (case q1 => k_mem); (case q2 => k_mem); (case q3 => k_mem); (case n0 => first | assumption | exact flip2 (by assumption) | omega); (case n1 => first | assumption | exact flip2 (by assumption) | omega); (case n2 => first | assumption | exact flip2 (by assumption) | omega); (case n3 => first | assumption | exact flip2 (by assumption) | omega); (case kB => k_asm); (case kF => k_asm); (case kX => k_asm); (case kT => k_asm); (case kk => exact rfl); (case kd => ktr_room); (case ku => ktr_units); k_whole); intro r9_w n9_w h9_w tk9_w F9_w N9_w P9_w; obtain ⟨P8_w, P9_w⟩ := P9_w; subst P8_w; subst P9_w; (try dsimp only)) | (k_here; (with_reducible show wpAny _ _ (call (Value.ref 42) _) _ _ _); k_dflt (refine' CallOk.use (siftup1U (m0 := ?q0) (m1 := ?q1) (m2 := ?q2) (m3 := ?q3) (n13 := ?n0) (U := ?U)) ?kB ?kF ?kX ?kN ?kT ?kk ?kd ?ku ?_; (case kN => k_asm); (case U => k_upd); (case q0 => k_mem); (case q1 => k_mem); (case q2 => k_mem); (case q3 => k_mem); (case n0 => first | assumption | exact flip2 (by assumption) | omega); (case kB => k_asm); (case kF => k_asm); (case kX => k_asm); (case kT => k_asm); (case kk => exact rfl); (case kd => ktr_room); (case ku => ktr_units); k_whole); intro r9_w n9_w h9_w tk9_w F9_w N9_w P9_w; obtain ⟨P8_w, P9_w⟩ := P9_w; subst P8_w; subst P9_w; (try dsimp only)))); try k_fold) | (walk1; try k_fold) | (dsimp only; walk1; try k_fold) | (leave1; (try dsimp only)))
  refine reversed_R (n := 2) (by k_asm) (by k_asm) (by assumption) (by decide) (by decide) ?_
  intro D hD F1 N1 hit hLD hD0 hlt
  refine wpAny_pyIter_rangeiter hit ?_
  refine loop_RS [] (fun i news' => match i with
    | 0 => news' = (hp, listOf #[.ref t0, .ref t1, .ref t2, .ref t3] ep) :: rest
    | 1 => (lx x3 y3 x1 y1 = true ∧ news' = (hp, listOf #[.ref t0, .ref t1, .ref t2, .ref t3] ep) :: rest) ∨ (lx x3 y3 x1 y1 = false ∧ news' = (hp, listOf #[.ref t0, .ref t3, .ref t2, .ref t1] ep) :: rest)
    | _ => news' = (hp, listOf (vals4 (hpf ⟨t0, x0, y0⟩ ⟨t1, x1, y1⟩ ⟨t2, x2, y2⟩ ⟨t3, x3, y3⟩)) ep) :: rest) rfl hit hLD hD0 (fun p hp => Nat.ne_of_lt (hlt p hp)) F1 N1 rfl ?_ ?_
  · intro i t u news₁ h tk o ho hi hJ hI F2 N2
    clear F1 N1
    rcases i with _ | _ | i
    · subst hJ
      have hDh : @Ne Nat hp D := hI _ (.head _)
      repeat' (first | (k_unfold; (try dsimp only [List.nil_append, List.cons_append])) | (k_end; wrow_close) | ((first | ((with_reducible show wpAny _ _ (call (Value.ref _) _) _ _ _); first | (k_here; (with_reducible show wpAny _ _ (call (Value.ref 42) _) _ _ _); k_dflt (refine' CallOk.use (siftup0U (m0 := ?q0) (m1 := ?q1) (m2 := ?q2) (m3 := ?q3) (n01 := ?n0) (n02 := ?n1) (n03 := ?n2) (n12 := ?n3) (U := ?U)) ?kB ?kF ?kX ?kN ?kT ?kk ?kd ?ku ?_; (case kN => k_asm); (case U => k_upd); (case q0 => k_mem); (case q1 => k_mem); (case q2 => k_mem); (case q3 => k_mem); (case n0 => first | assumption | exact flip2 (by assumption) | omega); (case n1 => first | assumption | exact flip2 (by assumption) | omega); (case n2 => first | assumption | exact flip2 (by assumption) | omega); (case n3 => first | assumption | exact flip2 (by assumption) | omega); (case kB => k_asm); (case kF => k_asm); (case kX => k_asm); (case kT => k_asm); (case kk => exact rfl); (case kd => ktr_room); (case ku => ktr_units); k_whole); intro r9_w n9_w h9_w tk9_w F9_w N9_w P9_w; obtain ⟨P8_w, P9_w⟩ := P9_w; subst P8_w; subst P9_w; (try dsimp only)) | (k_here; (with_reducible show wpAny _ _ (call (Value.ref 42) _) _ _ _); k_dflt (refine' CallOk.use (siftup1U (m0 := ?q0) (m1 := ?q1) (m2 := ?q2) (m3 := ?q3) (n13 := ?n0) (U := ?U)) ?kB ?kF ?kX ?kN ?kT ?kk ?kd ?ku ?_; (case kN => k_asm); (case U => k_upd); (case q0 => k_mem); (case q1 => k_mem); (case q2 => k_mem); (case q3 => k_mem); (case n0 => first | assumption | exact flip2 (by assumption) | omega); (case kB => k_asm); (case kF => k_asm); (case kX => k_asm); (case kT => k_asm); (case kk => exact rfl); (case kd => ktr_room); (case ku => ktr_units); k_whole); intro r9_w n9_w h9_w tk9_w F9_w N9_w P9_w; obtain ⟨P8_w, P9_w⟩ := P9_w; subst P8_w; subst P9_w; (try dsimp only)))); try k_fold) | (walk1; try k_fold) | (dsimp only; walk1; try k_fold) | (leave1; (try dsimp only)))
      refine UnrEnd.intro (by k_asm) (by assumption) _ (fun p hp => hp) ?_ ⟨?_, ?_⟩
      · intro p hp
        rcases List.mem_cons.mp hp with rfl | hp
        · exact hDh
        · exact hI _ (.tail _ hp)
      · intro y h1 h2; simp only [if_neg h1, h2, Bool.false_eq_true, if_false]
      · show (lx x3 y3 x1 y1 = true ∧ _) ∨ (lx x3 y3 x1 y1 = false ∧ _)
        cases hc : lx x3 y3 x1 y1
        · right; refine ⟨rfl, ?_⟩; show (hp, listOf (vals4 (cond (lx x3 y3 x1 y1) _ _)) ep) :: rest = _; rw [hc]; rfl
        · left; refine ⟨rfl, ?_⟩; show (hp, listOf (vals4 (cond (lx x3 y3 x1 y1) _ _)) ep) :: rest = _; rw [hc]; rfl
    · rcases hJ with ⟨hc, hJ⟩ | ⟨hc, hJ⟩ <;> subst hJ
      all_goals
        have hDh : @Ne Nat hp D := hI _ (.head _)
        repeat' (first | (k_unfold; (try dsimp only [List.nil_append, List.cons_append])) | (k_end; wrow_close) | ((first | ((with_reducible show wpAny _ _ (call (Value.ref _) _) _ _ _); first | (k_here; (with_reducible show wpAny _ _ (call (Value.ref 42) _) _ _ _); k_dflt (refine' CallOk.use (siftup0U (m0 := ?q0) (m1 := ?q1) (m2 := ?q2) (m3 := ?q3) (n01 := ?n0) (n02 := ?n1) (n03 := ?n2) (n12 := ?n3) (U := ?U)) ?kB ?kF ?kX ?kN ?kT ?kk ?kd ?ku ?_; (case kN => k_asm); (case U => k_upd); (case q0 => k_mem); (case q1 => k_mem); (case q2 => k_mem); (case q3 => k_mem); (case n0 => first | assumption | exact flip2 (by assumption) | omega); (case n1 => first | assumption | exact flip2 (by assumption) | omega); (case n2 => first | assumption | exact flip2 (by assumption) | omega); (case n3 => first | assumption | exact flip2 (by assumption) | omega); (case kB => k_asm); (case kF => k_asm); (case kX => k_asm); (case kT => k_asm); (case kk => exact rfl); (case kd => ktr_room); (case ku => ktr_units); k_whole); intro r9_w n9_w h9_w tk9_w F9_w N9_w P9_w; obtain ⟨P8_w, P9_w⟩ := P9_w; subst P8_w; subst P9_w; (try dsimp only)) | (k_here; (with_reducible show wpAny _ _ (call (Value.ref 42) _) _ _ _); k_dflt (refine' CallOk.use (siftup1U (m0 := ?q0) (m1 := ?q1) (m2 := ?q2) (m3 := ?q3) (n13 := ?n0) (U := ?U)) ?kB ?kF ?kX ?kN ?kT ?kk ?kd ?ku ?_; (case kN => k_asm); (case U => k_upd); (case q0 => k_mem); (case q1 => k_mem); (case q2 => k_mem); (case q3 => k_mem); (case n0 => first | assumption | exact flip2 (by assumption) | omega); (case kB => k_asm); (case kF => k_asm); (case kX => k_asm); (case kT => k_asm); (case kk => exact rfl); (case kd => ktr_room); (case ku => ktr_units); k_whole); intro r9_w n9_w h9_w tk9_w F9_w N9_w P9_w; obtain ⟨P8_w, P9_w⟩ := P9_w; subst P8_w; subst P9_w; (try dsimp only)))); try k_fold) | (walk1; try k_fold) | (dsimp only; walk1; try k_fold) | (leave1; (try dsimp only)))
        refine UnrEnd.intro (by k_asm) (by assumption) _ (fun p hp => hp) ?_ ⟨?_, ?_⟩
        · intro p hp
          rcases List.mem_cons.mp hp with rfl | hp
          · exact hDh
          · exact hI _ (.tail _ hp)
        · intro y h1 h2; simp only [if_neg h1, h2, Bool.false_eq_true, if_false]
        · show _ = (hp, listOf (vals4 (cond (lx x3 y3 x1 y1) _ _)) ep) :: rest
          rw [hc]; rfl
    · omega
  · intro u news₁ h tk hJ F2 N2
    subst hJ
    repeat' (first | (k_unfold; (try dsimp only [List.nil_append, List.cons_append])) | (k_end; wrow_close) | ((first | ((with_reducible show wpAny _ _ (call (Value.ref _) _) _ _ _); first | (k_here; (with_reducible show wpAny _ _ (call (Value.ref 42) _) _ _ _); k_dflt (refine' CallOk.use (siftup0U (m0 := ?q0) (m1 := ?q1) (m2 := ?q2) (m3 := ?q3) (n01 := ?n0) (n02 := ?n1) (n03 := ?n2) (n12 := ?n3) (U := ?U)) ?kB ?kF ?kX ?kN ?kT ?kk ?kd ?ku ?_; (case kN => k_asm); (case U => k_upd); (case q0 => k_mem); (case q1 => k_mem); (case q2 => k_mem); (case q3 => k_mem); (case n0 => first | assumption | exact flip2 (by assumption) | omega); (case n1 => first | assumption | exact flip2 (by assumption) | omega); (case n2 => first | assumption | exact flip2 (by assumption) | omega); (case n3 => first | assumption | exact flip2 (by assumption) | omega); (case kB => k_asm); (case kF => k_asm); (case kX => k_asm); (case kT => k_asm); (case kk => exact rfl); (case kd => ktr_room); (case ku => ktr_units); k_whole); intro r9_w n9_w h9_w tk9_w F9_w N9_w P9_w; obtain ⟨P8_w, P9_w⟩ := P9_w; subst P8_w; subst P9_w; (try dsimp only)) | (k_here; (with_reducible show wpAny _ _ (call (Value.ref 42) _) _ _ _); k_dflt (refine' CallOk.use (siftup1U (m0 := ?q0) (m1 := ?q1) (m2 := ?q2) (m3 := ?q3) (n13 := ?n0) (U := ?U)) ?kB ?kF ?kX ?kN ?kT ?kk ?kd ?ku ?_; (case kN => k_asm); (case U => k_upd); (case q0 => k_mem); (case q1 => k_mem); (case q2 => k_mem); (case q3 => k_mem); (case n0 => first | assumption | exact flip2 (by assumption) | omega); (case kB => k_asm); (case kF => k_asm); (case kX => k_asm); (case kT => k_asm); (case kk => exact rfl); (case kd => ktr_room); (case ku => ktr_units); k_whole); intro r9_w n9_w h9_w tk9_w F9_w N9_w P9_w; obtain ⟨P8_w, P9_w⟩ := P9_w; subst P8_w; subst P9_w; (try dsimp only)))); try k_fold) | (walk1; try k_fold) | (dsimp only; walk1; try k_fold) | (leave1; (try dsimp only)))
    exact hret _ _ _ _ (by k_asm) (by k_asm) ⟨rfl, rfl⟩
end
end Mine

/-! # L6 -/
namespace Mine
theorem fresh_L6 : True := by
  w_top off
  exact True.intro

/-! ## entering a def with a part of the ledger: the rest stays as it is -/
section
variable {prog : Program} {w : World} {A A₀ : Around} {s : Shared} {K : Frag} {L : Addr} {h₀ base : Heap} {m mg mb : Str → Option Value} {news core : List (Addr × Obj)} {p : Program} {loose : List Str} {mean : ExcName → Option Value}
  {env : Env} {outer : List Env} {R : Result → Shared → Prop} {name qual : Str} {params : Arguments} {body : List Stmt} {scope : Scope} {dV kV doc pm cdv ct oc : Value} {an od : Option Addr} {osl : Array (Option Value)} {f : Addr} {args : Args} {binds : List (Str × Value)}

def Stands (g : Heap) (core news : List (Addr × Obj)) : Prop := ∀ p ∈ news, p.1 ∉ core.map (·.1) → g.get? p.1 = some p.2

theorem code_defF (B : Below A₀ base outer h₀) (F : Fr h₀ L s.heap m) (X₀ : K.In h₀) (N : News h₀ L s.heap news) (hsub : ∀ p ∈ core, p ∈ news) (T : Top p loose mean mg mb h₀) (hA : A.frames = some (env :: outer)) (hf : env.frame = some L) (hke : env.scope.kind = .function)
    (ho : K.lookup f = some ⟨oc, od, .func (fnOf name qual params body scope dV kV doc pm an cdv ct), osl⟩) (hcd : codeIn K cdv qual = true) (hroom : A.depth < recursionLimit)
    (hbind : BindsTo s (fnOf name qual params body scope dV kV doc pm an cdv ct) args binds) (hloc : ∀ y ∈ binds, scope.names.lookup y.1 = some .local)
    (h : ∀ g L' h₁, Fr h₀ L g m → Fr g L' h₁ (fun y => binds.reverse.lookup y) → News g L' h₁ core → Below A base (env :: outer) g → K.In g → Top p loose mean mg mb g → Stands g core news →
      wpAny (model prog w) (A.deeper (envOf qual scope L' f cdv)) (execs body (envOf qual scope L' f cdv))
        (fun fl s' => LeaveK h₀ L m g R (match fl with | .ret v => v | _ => .none) s')
        (fun e s' => wpAny (model prog w) (A.deeper (envOf qual scope L' f cdv)) (leaving (envOf qual scope L' f cdv) e) (fun _ s'' => R (.error e) s'') (fun e' s'' => R (.error e') s'') s')
        { s with heap := h₁, toks := s.toks + binds.length })
    (hco : scope.isCoroutine = false) (hgen : scope.isGenerator = false) (hk : scope.kind = .function)
    (hcell : ∀ x ∈ scope.names, x.2 ≠ .cell) : codeAny (model prog w) A (.call (.ref f) args) R s := by
  have N' : News h₀ L s.heap core := fun q hq => N q (hsub q hq)
  obtain ⟨FG, BG, st, lv⟩ := groundX (R := R) B F N' hA hf hke
  refine codeAny_call_def (fd := fnOf name qual params body scope dV kV doc pm an cdv ct) (body := body) (binds := binds) hroom ((X₀.keeps F.keep) _ _ ho) rfl (T.nolimit.keeps F.keep) (codeRec_of (X₀.keeps F.keep) hcd) rfl hbind hcell hloc (fun h₁ hns hk₁ => ?_) hco hgen hk
  exact wpAny_mono (h _ s.heap.objs.size h₁ FG ⟨hns, fun b o e => hk₁ b o (of_hideAll _ e), Nat.le_of_eq (hideAll_size _ _)⟩
    (fun p hp => ⟨hk₁ _ _ (N' p hp).1, Nat.ne_of_lt (Heap.lt_size (N' p hp).1), hideAll_none _ (List.mem_map_of_mem hp)⟩) BG (X₀.keeps st) (T.keeps st) (fun q hq hn => hideAll_get _ (N q hq).1 hn)) (fun fl s' hl => lv _ _ hl) fun _ _ y => y

theorem code_defCF (B : Below A₀ base outer h₀) (F : Fr h₀ L s.heap m) (X₀ : K.In h₀) (N : News h₀ L s.heap news) (hsub : ∀ p ∈ core, p ∈ news) (T : Top p loose mean mg mb h₀) (hA : A.frames = some (env :: outer)) (hf : env.frame = some L) (hke : env.scope.kind = .function)
    (ho : K.lookup f = some ⟨oc, od, .func (fnOf name qual params body scope dV kV doc pm an cdv ct), osl⟩) (hcd : codeIn K cdv qual = true) (hroom : A.depth < recursionLimit)
    (hbind : BindsTo s (fnOf name qual params body scope dV kV doc pm an cdv ct) args binds) (hkind : (binds.all fun y => scope.names.lookup y.1 == some .local || scope.names.lookup y.1 == some .cell) = true)
    (hnd : ((cellsFrom 0 scope.names []).map (·.1)).Nodup)
    (h : ∀ g L' h₁ tk cells, Fr h₀ L g m → Fr g L' h₁ (bindL (envOfC qual scope L' f cdv).kindOf binds fun _ => none) → News g L' h₁ (cells ++ core) →
      CellsAre (bindC (envOfC qual scope L' f cdv).kindOf binds fun _ => none) (cellsFrom (L' + 1) scope.names []) cells → Below A base (env :: outer) g → K.In g → Top p loose mean mg mb g → (∀ p ∈ core, p.1 < L') → Stands g core news →
      wpAny (model prog w) (A.deeper (envOfC qual scope L' f cdv)) (execs body (envOfC qual scope L' f cdv))
        (fun fl s' => LeaveK h₀ L m g R (match fl with | .ret v => v | _ => .none) s')
        (fun e s' => wpAny (model prog w) (A.deeper (envOfC qual scope L' f cdv)) (leaving (envOfC qual scope L' f cdv) e) (fun _ s'' => R (.error e) s'') (fun e' s'' => R (.error e') s'') s')
        { s with heap := h₁, toks := tk })
    (hco : scope.isCoroutine = false) (hgen : scope.isGenerator = false) (hk : scope.kind = .function) : codeAny (model prog w) A (.call (.ref f) args) R s := by
  have N' : News h₀ L s.heap core := fun q hq => N q (hsub q hq)
  obtain ⟨FG, BG, st, lv⟩ := groundX (R := R) B F N' hA hf hke
  refine codeAny_call_function hroom ((X₀.keeps F.keep) _ _ ho) rfl hco hgen rfl (codeRec_of (X₀.keeps F.keep) hcd) (hbind _ _ _ _ ?_)
  refine wpAny_newFunctionEnv_cells hk (kindsX hkind _) fun env' he s' x => ?_
  subst he
  refine ⟨(T.nolimit.keeps F.keep).keeps x.toInCall.keep, codeAny_func ?_⟩
  obtain ⟨h₁, tk, rfl, _⟩ := x.done
  have hk₁ := x.toInCall.keep
  obtain ⟨cells, NC, Y⟩ := Cl.news (h₀ := s.heap) (Nat.le_refl _) fun n c hm => ⟨x.cell n c (lookup_of_mem_nodup (cellsFrom_names scope.names 0 (s.heap.objs.size + 1) [] [] rfl ▸ hnd) hm), x.above n c hm⟩
  refine wpAny_mono (h _ s.heap.objs.size h₁ tk cells FG ⟨x.toInCall.ns, fun b o e => hk₁ b o (of_hideAll _ e), Nat.le_of_eq (hideAll_size _ _)⟩ (fun p hp => ?_) Y BG (X₀.keeps st) (T.keeps st) (fun p hp => Heap.lt_size (N' p hp).1) (fun q hq hn => hideAll_get _ (N q hq).1 hn)) (fun fl s' hl => lv _ _ hl) fun _ _ y => y
  rcases List.mem_append.mp hp with hp | hp
  · refine ⟨(NC p hp).1, (NC p hp).2.1, ?_⟩
    cases q : (hideAll s.heap (core.map (·.1))).get? p.1 with
    | none => rfl
    | some o => have := of_hideAll _ q; rw [(NC p hp).2.2] at this; cases this
  · exact ⟨hk₁ _ _ (N' p hp).1, Nat.ne_of_lt (Heap.lt_size (N' p hp).1), hideAll_none _ (List.mem_map_of_mem hp)⟩

/-- behind the call: the whole ledger again, with what was made -/
theorem back_all {h h' g : Heap} {L' : Addr} {m' : Str → Option Value} {new left : List (Addr × Obj)} (N : News h₀ L h news) (hsub : ∀ p ∈ core, p ∈ news) (S : Stands g core news) (F' : Fr g L' h' m') (kN : News h₀ L h' left)
    (hnew : ∀ p ∈ new, p ∈ left) (hcore : ∀ p ∈ core, p ∈ left) : News h₀ L h' (new ++ news) := by
  intro q hq
  rcases List.mem_append.mp hq with hq | hq
  · exact kN q (hnew q hq)
  · by_cases hc : q.1 ∈ core.map (·.1)
    · obtain ⟨c, hc1, hc2⟩ := List.mem_map.mp hc
      have e1 := (N c (hsub c hc1)).1
      have e2 := (N q hq).1
      rw [hc2, e2] at e1
      have : q = c := Prod.ext hc2.symm (Option.some.inj e1)
      rw [this]; exact kN c (hcore c hc1)
    · exact ⟨F'.keep _ _ (S q hq hc), (N q hq).2⟩

/-- what was made lies apart from what stood -/
theorem apart_all {h h' g : Heap} {L' : Addr} {new left : List (Addr × Obj)} (N : News h₀ L h news) (S : Stands g core news) (N' : News g L' h' left) (hnew : ∀ p ∈ new, p ∈ left) (hc : ∀ q ∈ new, q.1 ∉ core.map (·.1)) :
    ∀ q ∈ news, ∀ d ∈ new, q.1 ≠ d.1 := by
  intro q hq d hd e
  have h1 := (N' d (hnew d hd)).2.2
  have h2 := S q hq (by rw [e]; exact hc d hd)
  rw [e, h1] at h2; cases h2

def MakeOk (w : World) (k : Nat) (f : Addr) (args : List Value) (news : List (Addr × Obj)) (Post : Value → List (Addr × Obj) → Prop) : Prop :=
  CallOk w k f args news (fun r n => ∃ new, n = new ++ news ∧ (∀ q ∈ news, ∀ d ∈ new, q.1 ≠ d.1) ∧ Post r new)
end
end Mine

/-! # S1 -/
namespace Mine
theorem fresh_S1 : True := by
  w_top off
  exact True.intro
/-! ## sorted over four pairs of ints -/
def kev {α : Type} (lt : Nat → Nat → Bool) : KasT α → α
  | .ret a => a
  | .ask i j k => kev lt (k (lt i j))
def kok {α : Type} (n : Nat) : KasT α → Bool
  | .ret _ => true
  | .ask i j k => decide (i < n) && decide (j < n) && decide (i ≠ j) && kok n (k true) && kok n (k false)
theorem kev_wp {α : Type} {n : Nat} {lt : Nat → Nat → Bool} {cmp : Nat → Nat → (Bool → Shared → Prop) → Shared → Prop} {Q : α → Shared → Prop} {s : Shared}
    (hc : ∀ i j, i < n → j < n → i ≠ j → ∀ C : Bool → Shared → Prop, C (lt i j) s → cmp i j C s) : ∀ (t : KasT α), kok n t = true → Q (kev lt t) s → t.kasWp cmp Q s
  | .ret a, _, h => h
  | .ask i j k, hk, h => by
    simp only [kok, Bool.and_eq_true, decide_eq_true_eq] at hk
    refine hc i j hk.1.1.1.1 hk.1.1.1.2 hk.1.1.2 _ ?_
    have h' : Q (kev lt (k (lt i j))) s := h
    refine kev_wp hc _ ?_ h'
    cases lt i j
    · exact hk.2
    · exact hk.1.2
def leaves {α : Type} : KasT α → List α
  | .ret a => [a]
  | .ask _ _ k => leaves (k true) ++ leaves (k false)
theorem kev_leaf {α : Type} (lt : Nat → Nat → Bool) : ∀ t : KasT α, kev lt t ∈ leaves t
  | .ret a => List.mem_singleton.mpr rfl
  | .ask i j k => by
    show kev lt (k (lt i j)) ∈ leaves (k true) ++ leaves (k false)
    cases lt i j
    · exact List.mem_append_right _ (kev_leaf lt _)
    · exact List.mem_append_left _ (kev_leaf lt _)
theorem kev_congr {α : Type} {n : Nat} {lt lt' : Nat → Nat → Bool} (h : ∀ i j, i < n → j < n → i ≠ j → lt i j = lt' i j) : ∀ t : KasT α, kok n t = true → kev lt t = kev lt' t
  | .ret a, _ => rfl
  | .ask i j k, hk => by
    simp only [kok, Bool.and_eq_true, decide_eq_true_eq] at hk
    show kev lt (k (lt i j)) = kev lt' (k (lt' i j))
    rw [h i j hk.1.1.1.1 hk.1.1.1.2 hk.1.1.2]
    refine kev_congr h _ ?_
    cases lt' i j
    · exact hk.2
    · exact hk.1.2
theorem leaves4 : ((leaves (kas_sort 4)).all fun p => p.toList.all fun i => decide (i < 4)) = true := by decide +kernel
theorem kev4_lt (lt : Nat → Nat → Bool) : ∀ i ∈ (kev lt (kas_sort 4)).toList, i < 4 := by
  intro i hi
  have h1 := List.all_eq_true.mp leaves4 _ (kev_leaf lt _)
  exact of_decide_eq_true (List.all_eq_true.mp h1 i hi)
/-- a table of six answers -/
def tb (b01 b02 b03 b12 b13 b23 : Bool) (i j : Nat) : Bool := match i, j with
  | 0, 1 => b01 | 1, 0 => !b01 | 0, 2 => b02 | 2, 0 => !b02 | 0, 3 => b03 | 3, 0 => !b03
  | 1, 2 => b12 | 2, 1 => !b12 | 1, 3 => b13 | 3, 1 => !b13 | 2, 3 => b23 | 3, 2 => !b23 | _, _ => false
def r4 : List Nat := [0, 1, 2, 3]
def trans4 (f : Nat → Nat → Bool) : Bool := r4.all fun i => r4.all fun j => r4.all fun k => !(f i j && f j k) || i == k || f i k
def perms4 : List (List Nat) := (leaves (kas_sort 4)).map (·.toList)
def chk (f : Nat → Nat → Bool) (p : List Nat) : Bool := match p with
  | [a, b, c, d] => f a b && f b c && f c d && decide (a < 4) && decide (b < 4) && decide (c < 4) && decide (d < 4) && decide (a ≠ b) && decide (a ≠ c) && decide (a ≠ d) && decide (b ≠ c) && decide (b ≠ d) && decide (c ≠ d)
  | _ => false
theorem chk_all : (([true, false].all fun a => [true, false].all fun b => [true, false].all fun c => [true, false].all fun d => [true, false].all fun e => [true, false].all fun f => !trans4 (tb a b c d e f) || chk (tb a b c d e f) (kev (tb a b c d e f) (kas_sort 4)).toList)) = true := by decide +kernel
theorem chk_one (a b c d e f : Bool) (h : trans4 (tb a b c d e f) = true) : chk (tb a b c d e f) (kev (tb a b c d e f) (kas_sort 4)).toList = true := by
  have hb : ∀ x : Bool, x ∈ [true, false] := by intro x; cases x <;> simp
  have h1 := chk_all
  have h2 := List.all_eq_true.mp (List.all_eq_true.mp (List.all_eq_true.mp (List.all_eq_true.mp (List.all_eq_true.mp (List.all_eq_true.mp h1 a (hb a)) b (hb b)) c (hb c)) d (hb d)) e (hb e)) f (hb f)
  rw [h] at h2
  simpa using h2
theorem kok4 : kok 4 (kas_sort 4) = true := by decide +kernel

section
variable {prog : Program} {w : World} {A : Around} {E : Value → Shared → Prop} {s : Shared} {h₀ : Heap} {L : Addr} {m : Str → Option Value} {news : List (Addr × Obj)}
theorem key_lt {a b : Addr} {x y x' y' : Int} {t u t' u' : Tok} {n k : Nat} {Q : Bool → Shared → Prop} (ha : s.heap.get? a = some (tupObj #[.int x t, .int y u] n)) (hb : s.heap.get? b = some (tupObj #[.int x' t', .int y' u'] k)) (h : Q (lx x y x' y') s) :
    wpAny (model prog w) A (keyLt' (tuples' true) (.ref a) (.ref b)) Q E s := by
  refine kat_lt ha rfl hb rfl ?_
  show KatLex prog w A true _ Q [(Value.int x t, Value.int x' t'), (Value.int y u, Value.int y' u')] 0 s
  refine kat_cons (wpAny_eqBool_int ?_)
  by_cases e : x = x'
  · subst e
    rw [beq_self_eq_true]
    refine kat_yes (kat_cons (wpAny_eqBool_int ?_))
    by_cases e2 : y = y'
    · subst e2
      rw [beq_self_eq_true]
      refine kat_yes (kat_nil ?_)
      have : lx x y x y = false := by simp [lx]
      rw [this] at h
      exact h
    · rw [show (y == y') = false by simpa using e2]
      refine kat_no ?_
      refine kat_one _ _ (lt_int ?_)
      have : decide (y < y') = lx x y x y' := by unfold lx; congr 1; simp
      rw [this]; exact h
  · rw [show (x == x') = false by simpa using e]
    refine kat_no ?_
    refine oneLt_int ?_
    have : decide (x < x') = lx x y x' y' := by unfold lx; congr 1; simp [e]
    rw [this]; exact h

def lt4 (x y : Nat → Int) (i j : Nat) : Bool := lx (x i) (y i) (x j) (y j)
def ord4 (x y : Nat → Int) : List Nat := (kev (lt4 x y) (kas_sort 4)).toList

theorem sorted4 {l : Addr} {a : Nat → Addr} {x y : Nat → Int} {t u : Nat → Tok} {e : Nat → Nat} {Q : Value → Shared → Prop} (F : Fr h₀ L s.heap m) (N : News h₀ L s.heap news) (hl : s.heap.IsList l #[.ref (a 0), .ref (a 1), .ref (a 2), .ref (a 3)])
    (hm : ∀ i, i < 4 → (a i, tupObj #[.int (x i) (t i), .int (y i) (u i)] (e i)) ∈ news)
    (h : ∀ D h' c, Fr h₀ L h' m → News h₀ L h' ((D, listOf ((ord4 x y).map fun i => Value.ref (a i)).toArray c) :: news) → (∀ q ∈ news, q.1 < D) → Q (.ref D) { s with heap := h' }) :
    wpAny (model prog w) A (call (.builtin "sorted") [.ref l]) Q E s := by
  refine kat_sorted (vs := [.ref (a 0), .ref (a 1), .ref (a 2), .ref (a 3)]) F N hl (Nat.le_of_ble_eq_true rfl) (Nat.le_of_ble_eq_true rfl) ?_
  intro D e1 h' F' N' hlt
  have e0 : ∀ i, i < 4 → ([.ref (a 0), .ref (a 1), .ref (a 2), .ref (a 3)] : List Value).getD i Value.none = .ref (a i) := by
    intro i hi
    match i, hi with
    | 0, _ => rfl
    | 1, _ => rfl
    | 2, _ => rfl
    | 3, _ => rfl
  have g : ∀ i, i < 4 → h'.get? (a i) = some (tupObj #[.int (x i) (t i), .int (y i) (u i)] (e i)) := fun i hi => (N' _ (.tail _ (hm i hi))).1
  refine kat_kind (fs := [.int (x 0) (t 0), .int (x 1) (t 1), .int (x 2) (t 2), .int (x 3) (t 3)]) (T := .type "int") ?_ (Nat.le_of_ble_eq_true rfl) ?_ rfl ?_
  · exact KatTups.cons (g 0 (by decide)) rfl rfl rfl (KatTups.cons (g 1 (by decide)) rfl rfl rfl (KatTups.cons (g 2 (by decide)) rfl rfl rfl (KatTups.cons (g 3 (by decide)) rfl rfl rfl KatTups.nil)))
  · intro v hv
    simp only [List.mem_cons, List.not_mem_nil, or_false] at hv
    rcases hv with rfl | rfl | rfl | rfl <;> exact Looks.of_pure rfl
  · refine kev_wp (n := 4) (lt := lt4 x y) ?_ _ kok4 ?_
    · intro i j hi hj hij C hC
      show wpAny _ _ (keyLt' _ _ _) _ _ _
      rw [e0 i hi, e0 j hj]
      exact key_lt (g i hi) (g j hj) hC
    · refine KasFin.intro F' N' (.head fun q hq => Nat.ne_of_lt (hlt q hq)) ?_
      intro h'' c F'' N''
      refine h D h'' c F'' ?_ hlt
      have e2 : (ord4 x y).map (fun i => Value.ref (a i)) = (kev (lt4 x y) (kas_sort 4)).toList.map fun i => ([.ref (a 0), .ref (a 1), .ref (a 2), .ref (a 3)] : List Value).getD i Value.none := by
        unfold ord4
        refine List.map_congr_left fun i hi => ?_
        exact (e0 i (kev4_lt _ i hi)).symm
      rw [e2]; exact N''
end
/-- the order of four keys that differ: each below the next -/
theorem ord4_spec {x y : Nat → Int} (hy : ∀ i j, i < 4 → j < 4 → i ≠ j → y i ≠ y j) : ∃ a b c d, ord4 x y = [a, b, c, d] ∧ lt4 x y a b = true ∧ lt4 x y b c = true ∧ lt4 x y c d = true ∧
    a < 4 ∧ b < 4 ∧ c < 4 ∧ d < 4 ∧ a ≠ b ∧ a ≠ c ∧ a ≠ d ∧ b ≠ c ∧ b ≠ d ∧ c ≠ d := by
  have hag : ∀ i j, i < 4 → j < 4 → i ≠ j → lt4 x y i j = tb (lt4 x y 0 1) (lt4 x y 0 2) (lt4 x y 0 3) (lt4 x y 1 2) (lt4 x y 1 3) (lt4 x y 2 3) i j := by
    have flip : ∀ i j, i < 4 → j < 4 → i ≠ j → lt4 x y i j = !lt4 x y j i := by
      intro i j hi hj hij
      have := hy i j hi hj hij
      unfold lt4 lx
      rw [← decide_not]
      congr 1
      simp only [eq_iff_iff]
      omega
    intro i j hi hj hij
    match i, j, hi, hj, hij with
    | 0, 1, _, _, _ => rfl
    | 0, 2, _, _, _ => rfl
    | 0, 3, _, _, _ => rfl
    | 1, 2, _, _, _ => rfl
    | 1, 3, _, _, _ => rfl
    | 2, 3, _, _, _ => rfl
    | 1, 0, _, _, h => exact flip 1 0 (by decide) (by decide) h
    | 2, 0, _, _, h => exact flip 2 0 (by decide) (by decide) h
    | 3, 0, _, _, h => exact flip 3 0 (by decide) (by decide) h
    | 2, 1, _, _, h => exact flip 2 1 (by decide) (by decide) h
    | 3, 1, _, _, h => exact flip 3 1 (by decide) (by decide) h
    | 3, 2, _, _, h => exact flip 3 2 (by decide) (by decide) h
    | 0, 0, _, _, h => exact absurd rfl h
    | 1, 1, _, _, h => exact absurd rfl h
    | 2, 2, _, _, h => exact absurd rfl h
    | 3, 3, _, _, h => exact absurd rfl h
  have htr : trans4 (tb (lt4 x y 0 1) (lt4 x y 0 2) (lt4 x y 0 3) (lt4 x y 1 2) (lt4 x y 1 3) (lt4 x y 2 3)) = true := by
    unfold trans4
    refine List.all_eq_true.mpr fun i hi => List.all_eq_true.mpr fun j hj => List.all_eq_true.mpr fun k hk => ?_
    have h4 : ∀ i ∈ r4, i < 4 := by decide
    have di : ∀ i ∈ r4, tb (lt4 x y 0 1) (lt4 x y 0 2) (lt4 x y 0 3) (lt4 x y 1 2) (lt4 x y 1 3) (lt4 x y 2 3) i i = false := by
      intro i hi
      have := h4 i hi
      match i, this with
      | 0, _ => rfl
      | 1, _ => rfl
      | 2, _ => rfl
      | 3, _ => rfl
    by_cases e1 : i = j
    · subst e1; rw [di i hi]; rfl
    by_cases e2 : j = k
    · subst e2; rw [di j hj, Bool.and_false]; rfl
    by_cases e3 : i = k
    · subst e3; simp
    rw [← hag i j (h4 i hi) (h4 j hj) e1, ← hag j k (h4 j hj) (h4 k hk) e2, ← hag i k (h4 i hi) (h4 k hk) e3]
    simp only [Bool.or_eq_true, Bool.not_eq_true', Bool.and_eq_false_iff, beq_iff_eq]
    by_cases c1 : lt4 x y i j = true
    · by_cases c2 : lt4 x y j k = true
      · right
        unfold lt4 lx at *
        simp only [decide_eq_true_eq] at *
        omega
      · left; left; right; simpa using c2
    · left; left; left; simpa using c1
  have hc := chk_one _ _ _ _ _ _ htr
  have he := kev_congr (n := 4) hag (kas_sort 4) kok4
  rw [← he] at hc
  unfold chk at hc
  split at hc
  · rename_i a b c d hp
    simp only [Bool.and_eq_true, decide_eq_true_eq] at hc
    obtain ⟨⟨⟨⟨⟨⟨⟨⟨⟨⟨⟨⟨c1, c2⟩, c3⟩, a4⟩, b4⟩, cc4⟩, d4⟩, ab⟩, ac⟩, ad⟩, bc⟩, bd⟩, cd⟩ := hc
    exact ⟨a, b, c, d, hp, by rw [hag a b a4 b4 ab]; exact c1, by rw [hag b c b4 cc4 bc]; exact c2, by rw [hag c d cc4 d4 cd]; exact c3, a4, b4, cc4, d4, ab, ac, ad, bc, bd, cd⟩
  · cases hc

def pick {α : Type} (a b c d : α) (i : Nat) : α := match i with | 0 => a | 1 => b | 2 => c | _ => d
theorem pick_all {α : Type} {P : α → Prop} {a b c d : α} (ha : P a) (hb : P b) (hc : P c) (hd : P d) (i : Nat) : P (pick a b c d i) := by
  match i with
  | 0 => exact ha
  | 1 => exact hb
  | 2 => exact hc
  | _ + 3 => exact hd
section
variable {prog : Program} {w : World} {A : Around} {E : Value → Shared → Prop} {s : Shared} {h₀ : Heap} {L : Addr} {m : Str → Option Value} {news : List (Addr × Obj)}
theorem sortedP {l a0 a1 a2 a3 : Addr} {x0 x1 x2 x3 y0 y1 y2 y3 : Int} {t0 t1 t2 t3 u0 u1 u2 u3 : Tok} {e0 e1 e2 e3 n : Nat} {Q : Value → Shared → Prop} (F : Fr h₀ L s.heap m) (N : News h₀ L s.heap news) (hl : (l, listOf #[.ref a0, .ref a1, .ref a2, .ref a3] n) ∈ news)
    (m0 : (a0, tupObj #[.int x0 t0, .int y0 u0] e0) ∈ news) (m1 : (a1, tupObj #[.int x1 t1, .int y1 u1] e1) ∈ news) (m2 : (a2, tupObj #[.int x2 t2, .int y2 u2] e2) ∈ news) (m3 : (a3, tupObj #[.int x3 t3, .int y3 u3] e3) ∈ news)
    (hy : y0 = 0 ∧ y1 = 1 ∧ y2 = 2 ∧ y3 = 3) (hb : ∀ i, 0 ≤ pick x0 x1 x2 x3 i ∧ pick x0 x1 x2 x3 i < 10000)
    (h : ∀ D h' z a b c d, (0 ≤ pick x0 x1 x2 x3 c ∧ pick x0 x1 x2 x3 c < 10000) → (0 ≤ pick x0 x1 x2 x3 d ∧ pick x0 x1 x2 x3 d < 10000) → ord4 (pick x0 x1 x2 x3) (fun i => (i : Int)) = [a, b, c, d] → c < 4 → d < 4 → c ≠ d → ∀ p q tp tq up uq ep eq, (p, tupObj #[.int (pick x0 x1 x2 x3 c) tp, .int (c : Int) up] ep) ∈ news → (q, tupObj #[.int (pick x0 x1 x2 x3 d) tq, .int (d : Int) uq] eq) ∈ news → ∀ v1 v2,
      Fr h₀ L h' m → News h₀ L h' ((D, listOf #[v1, v2, .ref p, .ref q] z) :: news) → (∀ q ∈ news, q.1 < D) → Q (.ref D) { s with heap := h' }) :
    wpAny (model prog w) A (call (.builtin "sorted") [.ref l]) Q E s := by
  obtain ⟨rfl, rfl, rfl, rfl⟩ := hy
  have hm : ∀ i, i < 4 → (pick a0 a1 a2 a3 i, tupObj #[.int (pick x0 x1 x2 x3 i) (pick t0 t1 t2 t3 i), .int ((fun i : Nat => (i : Int)) i) (pick u0 u1 u2 u3 i)] (pick e0 e1 e2 e3 i)) ∈ news := by
    intro i hi
    match i, hi with
    | 0, _ => exact m0
    | 1, _ => exact m1
    | 2, _ => exact m2
    | 3, _ => exact m3
  refine sorted4 (a := pick a0 a1 a2 a3) (x := pick x0 x1 x2 x3) (y := fun i => (i : Int)) (t := pick t0 t1 t2 t3) (u := pick u0 u1 u2 u3) (e := pick e0 e1 e2 e3) F N ?_ hm ?_
  · exact ⟨_, (N _ hl).1, rfl, n, rfl⟩
  · intro D h' c' F' N' hlt
    obtain ⟨a, b, c, d, he, _, _, _, _, _, c4, d4, _, _, _, _, _, cd⟩ := ord4_spec (x := pick x0 x1 x2 x3) (y := fun i => (i : Int)) (by intro i j _ _ hij e; exact hij (Int.ofNat.inj e))
    rw [he] at N'
    exact h D h' c' a b c d (hb c) (hb d) he c4 d4 cd _ _ _ _ _ _ _ _ (hm c c4) (hm d d4) _ _ F' N' hlt
theorem setL {D : Addr} {vs : List Value} {n : Nat} {k : Int} {t : Tok} {v : Value} {news' : List (Addr × Obj)} {Q : Unit → Shared → Prop} (F : Fr h₀ L s.heap m) (N : News h₀ L s.heap news) (U : Upd D (listOf vs.toArray n) (listOf (vs.set k.toNat v).toArray n) news news') (h0 : 0 ≤ k) (h1 : k < (vs.length : Int)) (hfit : k < 2 ^ 63)
    (h : ∀ h', Fr h₀ L h' m → News h₀ L h' news' → Q () { s with heap := h' }) :
    wpAny (model prog w) A (setItem (.ref D) (.int k t) v) Q E s := by
  obtain ⟨pre, post, rfl, rfl, a, b⟩ := U.split
  have z := N (D, listOf vs.toArray n) (List.mem_append.mpr (.inr (.head _)))
  have hs : vs.toArray.size = vs.length := List.size_toArray ..
  refine ki_setAt z.1 h0 hfit (by omega) (h _ (F.change (Heap.SameBut.update ..) z.2.1 z.2.2) (ki_turn _ N a b ?_ ?_))
  · show vs.toArray.setIfInBounds k.toNat v = (vs.set k.toNat v).toArray
    apply Array.toList_inj.mp
    simp
  · simp
/-- a turn of a comprehension that has made one thing -/
theorem compEnd1 {I C D T : Addr} {s₁ : Shared} {oI oC oD o : Obj} {S : List (Addr × Obj) → Prop} {rest : Value → List (Addr × Obj) → Prop} {y : Value} {h' : Heap} {tk : Nat}
    (F : Fr h₀ L h' m) (N : News h₀ L h' ((T, o) :: (I, oI) :: (C, oC) :: (D, oD) :: news)) (hT : @LT.lt Nat _ I T ∧ @LT.lt Nat _ C T ∧ @LT.lt Nat _ D T) (off : LCg.Off3 I C D news) (hS : S ((T, o) :: news)) (r : rest y ((T, o) :: news)) :
    LCg.CompEnd h₀ L m s₁ I oI C oC D oD S rest y { s₁ with heap := h', toks := tk } :=
  LCg.CompEnd.intro F N ((T, o) :: news) (by
    intro p hp
    simp only [List.mem_cons] at hp ⊢
    rcases hp with e | e | e | e | e <;> simp [e]) ⟨⟨Ne.symm (Nat.ne_of_lt hT.1), Ne.symm (Nat.ne_of_lt hT.2.1), Ne.symm (Nat.ne_of_lt hT.2.2)⟩, off⟩ hS r
end
section
variable {h₀ : Heap} {L : Addr} {m : Str → Option Value} {news : List (Addr × Obj)}
theorem compEndA {I C D T : Addr} {s₁ : Shared} {oI oC oD o : Obj} {S : List (Addr × Obj) → Prop} {rest : Value → List (Addr × Obj) → Prop} {y : Value} {h' : Heap} {tk : Nat}
    (F : Fr h₀ L h' m) (N : News h₀ L h' ((T, o) :: (I, oI) :: (C, oC) :: (D, oD) :: news)) (hT : @Ne Nat T I ∧ @Ne Nat T C ∧ @Ne Nat T D) (off : LCg.Off3 I C D news) (hS : S ((T, o) :: news)) (r : rest y ((T, o) :: news)) :
    LCg.CompEnd h₀ L m s₁ I oI C oC D oD S rest y { s₁ with heap := h', toks := tk } :=
  LCg.CompEnd.intro F N ((T, o) :: news) (by
    intro p hp
    simp only [List.mem_cons] at hp ⊢
    rcases hp with e | e | e | e | e <;> simp [e]) ⟨hT, off⟩ hS r
theorem compEndB {I C D T U : Addr} {s₁ : Shared} {oI oC oD o o' : Obj} {S : List (Addr × Obj) → Prop} {rest : Value → List (Addr × Obj) → Prop} {y : Value} {h' : Heap} {tk : Nat}
    (F : Fr h₀ L h' m) (N : News h₀ L h' ((T, o) :: (U, o') :: (I, oI) :: (C, oC) :: (D, oD) :: news)) (hT : @Ne Nat T I ∧ @Ne Nat T C ∧ @Ne Nat T D) (hU : @Ne Nat U I ∧ @Ne Nat U C ∧ @Ne Nat U D) (off : LCg.Off3 I C D news) (hS : S ((T, o) :: (U, o') :: news)) (r : rest y ((T, o) :: (U, o') :: news)) :
    LCg.CompEnd h₀ L m s₁ I oI C oC D oD S rest y { s₁ with heap := h', toks := tk } :=
  LCg.CompEnd.intro F N ((T, o) :: (U, o') :: news) (by
    intro p hp
    simp only [List.mem_cons] at hp ⊢
    rcases hp with e | e | e | e | e | e <;> simp [e]) ⟨hT, hU, off⟩ hS r
end
/-- the plain table's turns -/
abbrev at4 (X : Int × Int × Int × Int) : Nat → Int := pick X.1 X.2.1 X.2.2.1 X.2.2.2
def put4 (X : Int × Int × Int × Int) (d : Nat) (v : Int) : Int × Int × Int × Int := match d with
  | 0 => (v, X.2.1, X.2.2.1, X.2.2.2) | 1 => (X.1, v, X.2.2.1, X.2.2.2) | 2 => (X.1, X.2.1, v, X.2.2.2) | _ => (X.1, X.2.1, X.2.2.1, v)
inductive PRun (X₀ : Int × Int × Int × Int) : Nat → (Int × Int × Int × Int) → List (Int × Int × Int × Int) → Prop
  | zero : PRun X₀ 0 X₀ []
  | succ {i : Nat} {X : Int × Int × Int × Int} {log : List (Int × Int × Int × Int)} {a b c d : Nat} : PRun X₀ i X log → ord4 (at4 X) (fun i => (i : Int)) = [a, b, c, d] → c < 4 → d < 4 → c ≠ d → at4 X c ≠ 0 →
      PRun X₀ (i + 1) (put4 X d (at4 X d - (at4 X d).fdiv (at4 X c) * at4 X c)) (log ++ [(at4 X d, (d : Int), (c : Int), (at4 X d).fdiv (at4 X c))])
theorem PRun.len {X₀ X : Int × Int × Int × Int} {i : Nat} {log : List (Int × Int × Int × Int)} (h : PRun X₀ i X log) : log.length = i := by
  induction h with
  | zero => rfl
  | succ _ _ _ _ _ _ ih => simp [ih]
def In4 (X : Int × Int × Int × Int) : Prop := ∀ i, 0 ≤ at4 X i ∧ at4 X i < 10000
theorem rest_bounds {a b : Int} (h0 : 0 ≤ b) (h1 : b < 10000) (h2 : b ≠ 0) : 0 ≤ a - a.fdiv b * b ∧ a - a.fdiv b * b < 10000 := by
  have e : a - a.fdiv b * b = a.fmod b := by
    have := Int.mul_fdiv_add_fmod a b
    rw [Int.mul_comm] at this
    omega
  rw [e]
  have := Int.fmod_nonneg_of_pos a (b := b) (by omega)
  have := Int.fmod_lt_of_pos a (b := b) (by omega)
  omega
theorem put4_in {X : Int × Int × Int × Int} {v : Int} (h : In4 X) (hv : 0 ≤ v ∧ v < 10000) (d : Nat) : In4 (put4 X d v) := by
  have h0 := h 0
  have h1 := h 1
  have h2 := h 2
  have h3 := h 3
  match d with
  | 0 => exact pick_all (P := fun z : Int => 0 ≤ z ∧ z < 10000) hv h1 h2 h3
  | 1 => exact pick_all (P := fun z : Int => 0 ≤ z ∧ z < 10000) h0 hv h2 h3
  | 2 => exact pick_all (P := fun z : Int => 0 ≤ z ∧ z < 10000) h0 h1 hv h3
  | _ + 3 => exact pick_all (P := fun z : Int => 0 ≤ z ∧ z < 10000) h0 h1 h2 hv
theorem PRun.ok {X₀ X : Int × Int × Int × Int} {i : Nat} {log : List (Int × Int × Int × Int)} (h : PRun X₀ i X log) (h0 : In4 X₀) : In4 X := by
  induction h with
  | zero => exact h0
  | succ _ _ _ _ _ hne ih => exact put4_in ih (rest_bounds (ih _).1 (ih _).2 hne) _
end Mine

/-! # CT -/
namespace Mine
theorem fresh_CT : True := by
  w_top off
  exact True.intro
theorem len4 {α : Type} {l : List α} (h : l.length = 4) : ∃ a b c d, l = [a, b, c, d] := by
  obtain ⟨a, l1, e1⟩ := List.exists_cons_of_length_eq_add_one h
  subst e1
  obtain ⟨b, l2, e2⟩ := List.exists_cons_of_length_eq_add_one (Nat.succ.inj h)
  subst e2
  obtain ⟨c, l3, e3⟩ := List.exists_cons_of_length_eq_add_one (Nat.succ.inj (Nat.succ.inj h))
  subst e3
  obtain ⟨d, l4, e4⟩ := List.exists_cons_of_length_eq_add_one (Nat.succ.inj (Nat.succ.inj (Nat.succ.inj h)))
  subst e4
  have h5 : l4.length = 0 := Nat.succ.inj (Nat.succ.inj (Nat.succ.inj (Nat.succ.inj h)))
  exact ⟨a, b, c, d, by rw [List.eq_nil_of_length_eq_zero h5]⟩
/-! ## a comprehension's turns, all at once -/
section
variable {prog : Program} {w : World} {A : Around} {E : Value → Shared → Prop} {s : Shared} {h₀ : Heap} {L : Addr} {m : Str → Option Value} {env : Env}
theorem srcR {elt : Expr} {x : Str} {scope : Scope} {cl : List (Str × Addr)} {Fin : Shared → List Value → List (Addr × Obj) → Prop} {r : Addr} {t u v : Tok} {news : List (Addr × Obj)} {s₁ : Shared}
    (hh : A.handled = none) (F : Fr h₀ L s₁.heap m) (N : News h₀ L s₁.heap news) (hr : IsRange s₁.heap r 0 4 1 t u v)
    (h : ∀ g, LCg.CompRest prog w A h₀ L m env elt x scope cl { s₁ with heap := g } (fun _ => True) (fun i v => ∃ t, v = .int (0 + (i : Int)) t) (Fin { s₁ with heap := g }) 4 0 [] news) :
    LCg.CompSrc prog w A h₀ L m env elt x scope cl Fin (.ref r) s₁ := LCg.CompSrc.range hh F N hr (by decide) (by decide) (Nat.le_of_ble_eq_true rfl) h
theorem comp_turns {elt : Expr} {x : Str} {scope : Scope} {cl : List (Str × Addr)} {S : List (Addr × Obj) → Prop} {P : Nat → Value → Prop} {Fin : List Value → List (Addr × Obj) → Prop} {news : List (Addr × Obj)} {n : Nat} (J : Nat → List Value → List (Addr × Obj) → Prop)
    (start : J 0 [] news)
    (turn : ∀ i ys led, i < n → J i ys led → ∀ v I oI C oC D m₂ h tk (E' : Value → Shared → Prop), P i v → LCg.NsObj oC m₂ → m₂ x = some v → Fr h₀ L h m → News h₀ L h ((I, oI) :: (C, oC) :: (D, LCg.lst ys) :: led) → LCg.Off3 I C D led → ((@Ne Nat I C) ∧ (@Ne Nat I D) ∧ (@Ne Nat C D)) →
      wpAny (model prog w) A (eval elt (compEnvC scope cl C env)) (LCg.CompEnd h₀ L m { s with heap := h, toks := tk } I oI C oC D (LCg.lst ys) S (J (i + 1) <| ys ++ [·])) E' { s with heap := h, toks := tk })
    (fin : ∀ ys led, J n ys led → Fin ys led) :
    LCg.CompRest prog w A h₀ L m env elt x scope cl s S P Fin n 0 [] news := by
  have go : ∀ k i ys led, i + k = n → J i ys led → LCg.CompRest prog w A h₀ L m env elt x scope cl s S P Fin k i ys led := by
    intro k
    induction k with
    | zero => intro i ys led e hJ; exact fin ys led (e ▸ hJ)
    | succ k ih =>
      intro i ys led e hJ
      refine LCg.CompRest.succ fun v I oI C oC D m₂ h tk E' hv hC hx F N off ne => ?_
      refine wpAny_mono (turn i ys led (by omega) hJ v I oI C oC D m₂ h tk E' hv hC hx F N off ne) ?_ (fun _ _ h => h)
      rintro y s' ⟨h', tk', led', rfl, F', N', off', hS, hJ'⟩
      exact ⟨h', tk', led', rfl, F', N', off', hS, ih (i + 1) _ led' (by omega) hJ'⟩
  exact go n 0 [] news (Nat.zero_add n) start
end
/-- whole numbers made one after another, nothing else made -/
def JC (f : Nat → Int) (news₀ : List (Addr × Obj)) (i : Nat) (ys : List Value) (led : List (Addr × Obj)) : Prop := led = news₀ ∧ ∃ t : Nat → Tok, ys = (List.range i).map fun k => .int (f k) (t k)
theorem JC.zero {f : Nat → Int} {news₀ : List (Addr × Obj)} : JC f news₀ 0 [] news₀ := ⟨rfl, fun _ => default, rfl⟩
theorem JC.next {f : Nat → Int} {news₀ led : List (Addr × Obj)} {i : Nat} {ys : List Value} {tk : Tok} (h : JC f news₀ i ys led) : JC f news₀ (i + 1) (ys ++ [.int (f i) tk]) led := by
  obtain ⟨rfl, t, rfl⟩ := h
  refine ⟨rfl, fun k => if k = i then tk else t k, ?_⟩
  rw [List.range_succ, List.map_append]
  rw [List.map_singleton]
  dsimp only
  rw [if_pos rfl]
  refine congrArg (· ++ _) (List.map_congr_left fun k hk => ?_)
  rw [if_neg (Nat.ne_of_lt (List.mem_range.mp hk))]
theorem JC.next' {f : Nat → Int} {news₀ led : List (Addr × Obj)} {i : Nat} {ys : List Value} {v : Int} {tk : Tok} (h : JC f news₀ i ys led) (e : v = f i) : JC f news₀ (i + 1) (ys ++ [.int v tk]) led := e ▸ h.next
theorem JC.four {f : Nat → Int} {news₀ led : List (Addr × Obj)} {ys : List Value} (h : JC f news₀ 4 ys led) : led = news₀ ∧ ∃ t0 t1 t2 t3, ys = [.int (f 0) t0, .int (f 1) t1, .int (f 2) t2, .int (f 3) t3] := by
  obtain ⟨rfl, t, rfl⟩ := h
  exact ⟨rfl, t 0, t 1, t 2, t 3, rfl⟩
theorem its4i {a b c d : Int} {t u v w : Tok} {i : Nat} (hi : i < 4) : (#[.int a t, .int b u, .int c v, .int d w] : Array Value)[(0 + (i : Int)).toNat]? = some (.int (pick a b c d i) (pick t u v w i)) := by
  rw [Int.zero_add, Int.toNat_natCast]
  match i, hi with
  | 0, _ => rfl
  | 1, _ => rfl
  | 2, _ => rfl
  | 3, _ => rfl
theorem i4_lo {i : Nat} : 0 ≤ 0 + (i : Int) := by omega
theorem i4_hi {i : Nat} (hi : i < 4) : 0 + (i : Int) < 2 ^ 63 := by omega
/-- things made one after another: each gives its address and the pairs that it adds to the ledger -/
def JM {ι : Type} (ad : ι → Addr) (prs : ι → List (Addr × Obj)) (ok : Nat → ι → Prop) (news₀ : List (Addr × Obj)) (i : Nat) (ys : List Value) (led : List (Addr × Obj)) : Prop :=
  (∀ p ∈ news₀, p ∈ led) ∧ ys.length = i ∧ ∀ j v, ys[j]? = some v → ∃ T, v = .ref (ad T) ∧ (∀ q ∈ prs T, q ∈ led) ∧ (∀ p ∈ news₀, ∀ q ∈ prs T, @Ne Nat p.1 q.1) ∧ ok j T
section
variable {ι : Type} {ad : ι → Addr} {prs : ι → List (Addr × Obj)} {ok : Nat → ι → Prop} {news₀ led : List (Addr × Obj)} {ys : List Value} {i : Nat}
theorem JM.zero : JM ad prs ok news₀ 0 [] news₀ := ⟨fun _ h => h, rfl, fun _ _ h => by cases h⟩
theorem JM.next (h : JM ad prs ok news₀ i ys led) (T : ι) (hT : ∀ p ∈ led, ∀ q ∈ prs T, @Ne Nat p.1 q.1) (hf : ok i T) : JM ad prs ok news₀ (i + 1) (ys ++ [.ref (ad T)]) (prs T ++ led) := by
  refine ⟨fun p hp => List.mem_append_right _ (h.1 p hp), by rw [List.length_append, h.2.1]; rfl, ?_⟩
  intro j v hj
  by_cases hlt : j < ys.length
  · rw [List.getElem?_append_left hlt] at hj
    obtain ⟨U, e, hm, hn, hu⟩ := h.2.2 j v hj
    exact ⟨U, e, fun q hq => List.mem_append_right _ (hm q hq), hn, hu⟩
  · rw [List.getElem?_append_right (Nat.not_lt.mp hlt)] at hj
    by_cases he : j = ys.length
    · rw [he, Nat.sub_self] at hj
      exact ⟨T, (Option.some.inj hj).symm, fun q hq => List.mem_append_left _ hq, fun p hp => hT p (h.1 p hp), by rw [he, h.2.1]; exact hf⟩
    · rw [List.getElem?_eq_none (by rw [List.length_singleton]; omega)] at hj
      cases hj
theorem mem5a {α : Type} {a b c d e l : List α} (ha : ∀ p ∈ a, p ∈ l) (hb : ∀ p ∈ b, p ∈ l) (hc : ∀ p ∈ c, p ∈ l) (hd : ∀ p ∈ d, p ∈ l) (he : ∀ p ∈ e, p ∈ l) : ∀ p ∈ a ++ (b ++ (c ++ (d ++ e))), p ∈ l := fun p hp =>
  (List.mem_append.mp hp).elim (ha p) fun hp => (List.mem_append.mp hp).elim (hb p) fun hp => (List.mem_append.mp hp).elim (hc p) fun hp => (List.mem_append.mp hp).elim (hd p) (he p)
theorem JM.four (h : JM ad prs ok news₀ 4 ys led) : ∃ T0 T1 T2 T3, ys = [.ref (ad T0), .ref (ad T1), .ref (ad T2), .ref (ad T3)] ∧ (∀ p ∈ prs T0 ++ (prs T1 ++ (prs T2 ++ (prs T3 ++ news₀))), p ∈ led) ∧
    (∀ p ∈ news₀, (∀ q ∈ prs T0, @Ne Nat p.1 q.1) ∧ (∀ q ∈ prs T1, @Ne Nat p.1 q.1) ∧ (∀ q ∈ prs T2, @Ne Nat p.1 q.1) ∧ (∀ q ∈ prs T3, @Ne Nat p.1 q.1)) ∧ ok 0 T0 ∧ ok 1 T1 ∧ ok 2 T2 ∧ ok 3 T3 := by
  obtain ⟨h1, h2, h3⟩ := h
  obtain ⟨a, b, c, d, e⟩ := len4 h2
  subst e
  obtain ⟨T0, rfl, m0, n0, f0⟩ := h3 0 a rfl
  obtain ⟨T1, rfl, m1, n1, f1⟩ := h3 1 b rfl
  obtain ⟨T2, rfl, m2, n2, f2⟩ := h3 2 c rfl
  obtain ⟨T3, rfl, m3, n3, f3⟩ := h3 3 d rfl
  exact ⟨T0, T1, T2, T3, rfl, mem5a m0 m1 m2 m3 h1, fun p hp => ⟨n0 p hp, n1 p hp, n2 p hp, n3 p hp⟩, f0, f1, f2, f3⟩
end
/-- whole numbers of a kind made one after another -/
def JN (P : Int → Prop) (news₀ : List (Addr × Obj)) (i : Nat) (ys : List Value) (led : List (Addr × Obj)) : Prop := led = news₀ ∧ ys.length = i ∧ ∀ v ∈ ys, ∃ n t, v = .int n t ∧ P n
theorem JN.zero {P : Int → Prop} {news₀ : List (Addr × Obj)} : JN P news₀ 0 [] news₀ := ⟨rfl, rfl, fun _ h => nomatch h⟩
theorem JN.next {P : Int → Prop} {news₀ led : List (Addr × Obj)} {i : Nat} {ys : List Value} {n : Int} {t : Tok} (h : JN P news₀ i ys led) (hn : P n) : JN P news₀ (i + 1) (ys ++ [.int n t]) led :=
  ⟨h.1, by rw [List.length_append, h.2.1]; rfl, fun v hv => (List.mem_append.mp hv).elim (h.2.2 v) fun hv => ⟨n, t, List.mem_singleton.mp hv, hn⟩⟩
theorem JN.four {P : Int → Prop} {news₀ led : List (Addr × Obj)} {ys : List Value} (h : JN P news₀ 4 ys led) : led = news₀ ∧ ∃ n0 n1 n2 n3 t0 t1 t2 t3, ys = [.int n0 t0, .int n1 t1, .int n2 t2, .int n3 t3] ∧ P n0 ∧ P n1 ∧ P n2 ∧ P n3 := by
  obtain ⟨h1, h2, h3⟩ := h
  obtain ⟨a, b, c, d, e⟩ := len4 h2
  subst e
  obtain ⟨n0, t0, rfl, p0⟩ := h3 a (.head _)
  obtain ⟨n1, t1, rfl, p1⟩ := h3 b (.tail _ (.head _))
  obtain ⟨n2, t2, rfl, p2⟩ := h3 c (.tail _ (.tail _ (.head _)))
  obtain ⟨n3, t3, rfl, p3⟩ := h3 d (.tail _ (.tail _ (.tail _ (.head _))))
  exact ⟨h1, n0, n1, n2, n3, t0, t1, t2, t3, rfl, p0, p1, p2, p3⟩
theorem News.sub2 {h₀ h : Heap} {L : Addr} {x : Addr × Obj} {l l' : List (Addr × Obj)} (N : News h₀ L h (x :: l')) (hs : ∀ p ∈ l, p ∈ l') : News h₀ L h (x :: l) := fun p hp => by
  rcases List.mem_cons.mp hp with rfl | hp
  · exact N _ (.head _)
  · exact N p (.tail _ (hs p hp))
end Mine

/-! # IL -/
namespace Mine
theorem fresh_IL : True := by
  w_top off
  exact True.intro
theorem item_led {prog : Program} {w : World} {A : Around} {E : Value → Shared → Prop} {s : Shared} {h₀ : Heap} {L : Addr} {news : List (Addr × Obj)} {value slice : PySem.Expr} {l : Addr} {its : Array Value} {n : Nat} {k : Int} {u : Tok} {v : Value} {Q : Value → Shared → Prop}
    (N : News h₀ L s.heap news) (hm : (l, listOf its n) ∈ news) (h0 : 0 ≤ k) (hhi : k < 2 ^ 63) (hx : its[k.toNat]? = some v) (h : Q v s)
    (hs : subscripted slice false (.ref l) (.int k u) = operate [.ref l, .int k u] (getItem (.ref l) (.int k u)) := by with_unfolding_all rfl) :
    wpAny (model prog w) A (subscriptTail value slice (.ref l) (.int k u)) Q E s :=
  have hl : s.heap.IsList l its := ⟨_, (N _ hm).1, rfl, n, rfl⟩
  tail_any hl.typeIs slot_list_getitem.lookup (wpAny_getItem_list hl h0 hhi (by simpa using hx) h) hs
end Mine

/-! # L7 -/
namespace Mine
theorem fresh_L7 : True := by
  w_top off
  exact True.intro
theorem eqN {a b : Nat} (h : a = b) : a = b := h
section
local macro_rules | `(tactic| k_units) => `(tactic| ktr_units)
theorem c_sub {w : World} {a b : Int} {t u : Tok} {news : List (Addr × Obj)}  :
    CallOk w 3 77 [.int a t, .int b u] news (fun r n => n = news ∧ ∃ tk, r = .int (a - b) tk) := by
  have hK : (hd.heap_39, PySem.Challenge.rw_mr0075_01) = (hd.heap_39, PySem.Challenge.rw_mr0075_01) := by k_fill; rfl
  clear hK
  unfold CallOk
  intro dp un gd cn cs a ccd cl outer A₀ base h₀ L m s p loose mean mg mb Q E B F X N T hk hd hu hret
  refine wpAny_call ?_
  k_dflt ktr_enter
  repeat' (first | (k_unfold; (try dsimp only)) | (k_end; wrow_close) | ((first | ((with_reducible show wpAny _ _ (binaryOp Operator.FloorDiv (Value.int _ _) (Value.int _ _)) _ _ _); (refine PyProof.Rows.floordiv_int (by omega) ?_)) | ((with_reducible show wpAny _ _ (binaryOp Operator.Mult (Value.int _ _) (Value.int _ _)) _ _ _); (refine PyProof.Rows.mul_int ?_ (by first | assumption))))) | (walk1) | (dsimp only; walk1) | (leave1; (try dsimp only)))
  all_goals first | exact hret _ _ _ _ (by k_asm) (by k_asm) ⟨rfl, _, rfl⟩ | trace_state
theorem c_mul {w : World} {a b : Int} {t u : Tok} {news : List (Addr × Obj)} (hm : IntMulOk a b) :
    CallOk w 3 70 [.int a t, .int b u] news (fun r n => n = news ∧ ∃ tk, r = .int (a * b) tk) := by
  have hK : (hd.heap_39, PySem.Challenge.rw_mr0075_01) = (hd.heap_39, PySem.Challenge.rw_mr0075_01) := by k_fill; rfl
  clear hK
  unfold CallOk
  intro dp un gd cn cs a ccd cl outer A₀ base h₀ L m s p loose mean mg mb Q E B F X N T hk hd hu hret
  refine wpAny_call ?_
  k_dflt ktr_enter
  repeat' (first | (k_unfold; (try dsimp only)) | (k_end; wrow_close) | ((first | ((with_reducible show wpAny _ _ (binaryOp Operator.FloorDiv (Value.int _ _) (Value.int _ _)) _ _ _); (refine PyProof.Rows.floordiv_int (by omega) ?_)) | ((with_reducible show wpAny _ _ (binaryOp Operator.Mult (Value.int _ _) (Value.int _ _)) _ _ _); (refine PyProof.Rows.mul_int ?_ (by first | assumption))))) | (walk1) | (dsimp only; walk1) | (leave1; (try dsimp only)))
  all_goals first | exact hret _ _ _ _ (by k_asm) (by k_asm) ⟨rfl, _, rfl⟩ | trace_state
theorem c_floordiv {w : World} {a b : Int} {t u : Tok} {news : List (Addr × Obj)} (hb0 : 0 < b) (hb1 : b ≤ 10000) :
    CallOk w 3 56 [.int a t, .int b u] news (fun r n => n = news ∧ ∃ tk, r = .int (a.fdiv b) tk) := by
  have hK : (hd.heap_39, PySem.Challenge.rw_mr0075_01) = (hd.heap_39, PySem.Challenge.rw_mr0075_01) := by k_fill; rfl
  clear hK
  unfold CallOk
  intro dp un gd cn cs a ccd cl outer A₀ base h₀ L m s p loose mean mg mb Q E B F X N T hk hd hu hret
  refine wpAny_call ?_
  k_dflt ktr_enter
  repeat' (first | (k_unfold; (try dsimp only)) | (k_end; wrow_close) | ((first | ((with_reducible show wpAny _ _ (binaryOp Operator.FloorDiv (Value.int _ _) (Value.int _ _)) _ _ _); (refine PyProof.Rows.floordiv_int (by omega) ?_)) | ((with_reducible show wpAny _ _ (binaryOp Operator.Mult (Value.int _ _) (Value.int _ _)) _ _ _); (refine PyProof.Rows.mul_int ?_ (by first | assumption))))) | (walk1) | (dsimp only; walk1) | (leave1; (try dsimp only)))
  all_goals first | exact hret _ _ _ _ (by k_asm) (by k_asm) ⟨rfl, _, rfl⟩ | trace_state
theorem c_mod {w : World} {a b : Int} {t u : Tok} {news : List (Addr × Obj)} (hb : b ≠ 0) :
    CallOk w 3 63 [.int a t, .int b u] news (fun r n => n = news ∧ ∃ tk, r = .int (a.fmod b) tk) := by
  have hK : (hd.heap_39, PySem.Challenge.rw_mr0075_01) = (hd.heap_39, PySem.Challenge.rw_mr0075_01) := by k_fill; rfl
  clear hK
  unfold CallOk
  intro dp un gd cn cs a ccd cl outer A₀ base h₀ L m s p loose mean mg mb Q E B F X N T hk hd hu hret
  refine wpAny_call ?_
  k_dflt ktr_enter
  repeat' (first | (k_unfold; (try dsimp only)) | (k_end; wrow_close) | ((first | ((with_reducible show wpAny _ _ (binaryOp Operator.FloorDiv (Value.int _ _) (Value.int _ _)) _ _ _); (refine PyProof.Rows.floordiv_int (by omega) ?_)) | ((with_reducible show wpAny _ _ (binaryOp Operator.Mult (Value.int _ _) (Value.int _ _)) _ _ _); (refine PyProof.Rows.mul_int ?_ (by first | assumption))))) | (walk1) | (dsimp only; walk1) | (leave1; (try dsimp only)))
  all_goals first | exact hret _ _ _ _ (by k_asm) (by k_asm) ⟨rfl, _, rfl⟩ | trace_state
theorem c_gt {w : World} {t1 t2 : Addr} {x1 x2 y1 y2 : Int} {u1 u2 v1 v2 : Tok} {r1 r2 : Value} {e1 e2 : Nat} {news : List (Addr × Obj)}
    (m1 : (t1, tupObj #[.int x1 u1, .int y1 v1, r1] e1) ∈ news) (m2 : (t2, tupObj #[.int x2 u2, .int y2 v2, r2] e2) ∈ news) (n12 : ¬ (x1 = x2 ∧ y1 = y2)) :
    CallOk w 3 49 [.ref t1, .ref t2] news (fun r n => r = .bool (lx x2 y2 x1 y1) ∧ n = news) := by
  have hK : (hd.heap_39, PySem.Challenge.rw_mr0075_01) = (hd.heap_39, PySem.Challenge.rw_mr0075_01) := by k_fill; rfl
  clear hK
  unfold CallOk
  intro dp un gd cn cs a ccd cl outer A₀ base h₀ L m s p loose mean mg mb Q E B F X N T hk hd hu hret
  refine wpAny_call ?_
  k_dflt ktr_enter
  repeat' (first | (k_unfold; (try dsimp only)) | (k_end; wrow_close) | ((first | (k_here; (with_reducible show wpAny _ _ (compareOp CmpOp.Gt (Value.ref _) (Value.ref _)) _ _ _); k_dflt (refine' tup_gt3 ?k1 ?k2 ?k3 ?k4 ?_; (case k1 => exact News.isTup (by k_asm) (by assumption)); (case k2 => exact News.isTup (by k_asm) (by assumption)); (case k3 => first | assumption | exact flip2 (by assumption) | omega); (case k4 => ktr_units); k_whole)) | ((with_reducible show wpAny _ _ (binaryOp Operator.FloorDiv (Value.int _ _) (Value.int _ _)) _ _ _); (refine PyProof.Rows.floordiv_int (by omega) ?_)) | ((with_reducible show wpAny _ _ (binaryOp Operator.Mult (Value.int _ _) (Value.int _ _)) _ _ _); (refine PyProof.Rows.mul_int ?_ (by first | assumption))))) | (walk1) | (dsimp only; walk1) | (leave1; (try dsimp only)))
  all_goals exact hret _ _ _ _ (by k_asm) (by k_asm) ⟨rfl, rfl⟩
end
section
local macro_rules | `(tactic| k_units) => `(tactic| ktr_units)
local macro_rules | `(tactic| lcg_off) => `(tactic| assumption)

theorem less {w : World} {ro ot : Addr} {a0 a1 a2 a3 b0 b1 b2 b3 q : Int} {u0 u1 u2 u3 v0 v1 v2 v3 tq : Tok} {e1 e2 : Nat} {news : List (Addr × Obj)} (hq : Builtin.Int.intBits q ≤ 64)
    (hsub : ∀ p ∈ [(ro, listOf #[.int a0 u0, .int a1 u1, .int a2 u2, .int a3 u3] e1), (ot, listOf #[.int b0 v0, .int b1 v1, .int b2 v2, .int b3 v3] e2)], p ∈ news) :
    MakeOk w 9 97 [.ref ro, .ref ot, .int q tq] news
      (fun r new => ∃ D k0 k1 k2 k3 ep, r = .ref D ∧ new = [(D, listOf #[.int (a0 - q * b0) k0, .int (a1 - q * b1) k1, .int (a2 - q * b2) k2, .int (a3 - q * b3) k3] ep)]) := by
  have hz : ∀ i, IntMulOk q (pick b0 b1 b2 b3 i) := fun i => .of_left hq
  have hK : (hd.heap_39, PySem.Challenge.rw_mr0075_01) = (hd.heap_39, PySem.Challenge.rw_mr0075_01) := by k_fill; rfl
  clear hK
  intro dp un gd cn cs a ccd cl outer A₀ base h₀ L m s p loose mean mg mb Q E B F X N T hk hd hu hret
  refine wpAny_call ?_
  k_dflt (refine' code_defCF ?k1 ?k2 ?k3 ?k4 hsub ?k5 ?kA ?kF ?kK ?k6 ?k7 ?k8 ?k9 ?kB ?kD ?_ ?c2 ?c3 ?c4; (case kA => exact rfl); (case kF => exact rfl); (case kK => assumption); (case k1 => k_asm); (case k2 => k_asm); (case k3 => k_asm); (case k4 => k_asm); (case k5 => k_asm); (case k6 => k_is); (case k7 => k_is); (case k8 => ktr_room); (case k9 => exact BindsTo.of_eq rfl); (case kB => exact rfl); (case kD => decide +kernel); (case c2 => exact rfl); (case c3 => exact rfl); (case c4 => exact rfl); k_whole)
  intro g' L' h' tk' cells' FG' F' N' Y' B' X' T' l1 S'
  (try k_lt l1); k_cells Y'; (try simp only [List.cons_append, List.nil_append] at N'); (try dsimp only); (try k_fold)
  repeat' (first | (k_unfold; (try dsimp only)) | (k_end; wrow_close) | ((first | ((with_reducible show LCg.CompSrc _ _ _ _ _ _ _ _ _ _ _ _ _ _); (k_here; k_dflt (refine LCg.CompSrc.range (by rfl) (by k_asm) (by k_asm) (by assumption) (by first | decide | rfl) (by first | rfl | decide) (by first | size_fits | exact Nat.le_of_ble_eq_true rfl) ?_; intro g_wp; lcg_lit))))) | ((fail_if_success (with_reducible show LCg.CompRest _ _ _ _ _ _ _ _ _ _ _ _ _ _ _ _ _ _ _)); first | (walk1) | (dsimp only; walk1)) | (leave1; (try dsimp only)))
  refine comp_turns (JC (fun k => pick a0 a1 a2 a3 k - q * pick b0 b1 b2 b3 k) _) JC.zero ?turn ?fin
  case turn =>
    intro i ys led hi hJ v I oI C oC D m₂ h tk E' hv hC hx F2 N2 off ne
    clear ne
    have e := hJ.1
    subst e
    obtain ⟨t, rfl⟩ := hv
    repeat' (first | (k_unfold; (try dsimp only)) | (k_end; wrow_close) | ((first | ((with_reducible show wpAny _ _ (call (Value.ref _) _) _ _ _); first | (k_here; (with_reducible show wpAny _ _ (call (Value.ref 70) _) _ _ _); k_dflt (refine' CallOk.use (c_mul (hm := ?q0)) ?kB ?kF ?kX ?kN ?kT ?kk ?kd ?ku ?_; (case kN => k_asm); (case q0 => exact hz _); (case kB => k_asm); (case kF => k_asm); (case kX => k_asm); (case kT => k_asm); (case kk => exact rfl); (case kd => ktr_room); (case ku => ktr_units); k_whole); intro r9_w n9_w h9_w tk9_w F9_w N9_w P9_w; obtain ⟨P8_w, t9_w, P9_w⟩ := P9_w; subst P8_w; subst P9_w; (try k_sweep); (try dsimp only)) | (k_here; (with_reducible show wpAny _ _ (call (Value.ref 77) _) _ _ _); k_dflt (refine' CallOk.use (c_sub ) ?kB ?kF ?kX ?kN ?kT ?kk ?kd ?ku ?_; (case kN => k_asm); (case kB => k_asm); (case kF => k_asm); (case kX => k_asm); (case kT => k_asm); (case kk => exact rfl); (case kd => ktr_room); (case ku => ktr_units); k_whole); intro r9_w n9_w h9_w tk9_w F9_w N9_w P9_w; obtain ⟨P8_w, t9_w, P9_w⟩ := P9_w; subst P8_w; subst P9_w; (try k_sweep); (try dsimp only))) | ((with_reducible show wpAny _ _ (subscriptTail _ _ (Value.ref _) (Value.int _ _)) _ _ _); (with_unfolding_all refine' item_led ?N ?m ?a ?b ?x ?_ ?z; (case N => k_dflt k_asm); (case m => k_dflt k_mem); (case a => k_dflt (exact i4_lo)); (case b => k_dflt (exact i4_hi (by assumption))); (case x => k_dflt (exact its4i (by assumption))); (case z => with_unfolding_all rfl); k_whole)))) | (walk1) | (dsimp only; walk1) | (leave1; (try dsimp only)))
    exact hJ.next
  case fin =>
    intro ys led hJ
    obtain ⟨rfl, t0, t1, t2, t3, rfl⟩ := hJ.four
    repeat' (first | (k_unfold; (try dsimp only)) | (k_end; wrow_close) | (walk1) | (dsimp only; walk1) | (leave1; (try dsimp only)))
    rename Fr h₀ _ _ _ => kF
    rename News h₀ _ _ _ => kN
    rename Fr g' L' _ _ => fF
    rename News g' L' _ _ => fN
    refine hret _ _ _ _ kF (back_all (new := [(_, listOf #[.int (a0 - q * b0) _, .int (a1 - q * b1) _, .int (a2 - q * b2) _, .int (a3 - q * b3) _] _)]) N hsub S' fF kN (List.forall_mem_singleton.mpr (.head _)) ?_) ⟨_, rfl, ?_, ⟨_, _, _, _, _, _, rfl, rfl⟩⟩
    · lcg_sub
    · refine apart_all N S' fN (List.forall_mem_singleton.mpr (.head _)) (List.forall_mem_singleton.mpr ?_)
      simp only [List.map_cons, List.map_nil, List.mem_cons, List.not_mem_nil, or_false]
      rintro (e | e) <;> (replace e := eqN e; omega)
end
end Mine

/-! # P1 -/
namespace Mine
theorem fresh_P1 : True := by
  w_top off
  exact True.intro

/-! ## the plain side: things, the heap of four, one turn -/
structure PT where
  x : Int
  y : Int
  c0 : Int
  c1 : Int
  c2 : Int
  c3 : Int
abbrev Four (α : Type) := α × α × α × α
def Four.map {α β : Type} (f : α → β) (S : Four α) : Four β := (f S.1, f S.2.1, f S.2.2.1, f S.2.2.2)
def Four.All {α : Type} (P : α → Prop) (S : Four α) : Prop := P S.1 ∧ P S.2.1 ∧ P S.2.2.1 ∧ P S.2.2.2
section
variable {α β : Type} (lt : α → α → Bool)
def gsd03 (p q r n : α) : Four α := cond (lt q n) (cond (lt p n) (n, p, r, q) (p, n, r, q)) (p, q, r, n)
def gsd02 (p q n t : α) : Four α := cond (lt p n) (n, q, p, t) (p, q, n, t)
def gsd13 (p q r n : α) : Four α := cond (lt q n) (p, n, r, q) (p, q, r, n)
def gsu0 (p q r t : α) : Four α := cond (lt r q) (gsd03 lt q t r p) (gsd02 lt r q p t)
def ghpf (p q r t : α) : Four α := cond (lt t q) (gsu0 lt p q r t) (gsu0 lt p t r q)
variable {lt}
theorem gsu0_map (f : α → β) (lt' : β → β → Bool) (h : ∀ a b, lt' (f a) (f b) = lt a b) (p q r t : α) : gsu0 lt' (f p) (f q) (f r) (f t) = Four.map f (gsu0 lt p q r t) := by
  unfold gsu0 gsd03 gsd02
  simp only [h]
  cases lt r q <;> cases lt t p <;> cases lt q p <;> cases lt r p <;> rfl
theorem ghpf_map (f : α → β) (lt' : β → β → Bool) (h : ∀ a b, lt' (f a) (f b) = lt a b) (p q r t : α) : ghpf lt' (f p) (f q) (f r) (f t) = Four.map f (ghpf lt p q r t) := by
  unfold ghpf
  rw [gsu0_map f lt' h, gsu0_map f lt' h, h]
  cases lt t q <;> rfl
theorem gsu0_all {P : α → Prop} {p q r t : α} (h1 : P p) (h2 : P q) (h3 : P r) (h4 : P t) : Four.All P (gsu0 lt p q r t) := by
  unfold gsu0 gsd03 gsd02
  cases lt r q <;> cases lt t p <;> cases lt q p <;> cases lt r p <;> exact ⟨by assumption, by assumption, by assumption, by assumption⟩
theorem ghpf_all {P : α → Prop} {p q r t : α} (h1 : P p) (h2 : P q) (h3 : P r) (h4 : P t) : Four.All P (ghpf lt p q r t) := by
  unfold ghpf
  cases lt t q
  · exact gsu0_all h1 h4 h3 h2
  · exact gsu0_all h1 h2 h3 h4
end
theorem su0_g (p q r t : Th) : su0 p q r t = gsu0 Th.lt p q r t := rfl

def PT.lt (s t : PT) : Bool := lx s.x s.y t.x t.y
/-- the greater of the two below the top -/
def second {α : Type} (lt : α → α → Bool) (H : Four α) : α := cond (lt H.2.2.1 H.2.1) H.2.1 H.2.2.1
def newThing (t s : PT) : PT := ⟨t.x.fmod s.x, t.y, t.c0 - t.x.fdiv s.x * s.c0, t.c1 - t.x.fdiv s.x * s.c1, t.c2 - t.x.fdiv s.x * s.c2, t.c3 - t.x.fdiv s.x * s.c3⟩
def pstep (H : Four PT) : Four PT := gsu0 PT.lt (newThing H.1 (second PT.lt H)) H.2.1 H.2.2.1 H.2.2.2
abbrev Ent := Int × Int × Int × Int
def entry (H : Four PT) : Ent := (H.1.x, H.1.y, (second PT.lt H).y, H.1.x.fdiv (second PT.lt H).x)
inductive Run (H₀ : Four PT) : Nat → Four PT → List Ent → Prop
  | zero : Run H₀ 0 H₀ []
  | succ {i : Nat} {H : Four PT} {log : List Ent} : Run H₀ i H log → (second PT.lt H).x ≠ 0 → Run H₀ (i + 1) (pstep H) (log ++ [entry H])
theorem Run.len {H₀ H : Four PT} {i : Nat} {log : List Ent} (h : Run H₀ i H log) : log.length = i := by
  induction h with
  | zero => rfl
  | succ _ _ ih => simp [ih]
/-- numbers within their bounds, places apart -/
def Okay (H : Four PT) : Prop := Four.All (fun t => 0 ≤ t.x ∧ t.x < 10000) H ∧ H.1.y ≠ H.2.1.y ∧ H.1.y ≠ H.2.2.1.y ∧ H.1.y ≠ H.2.2.2.y ∧ H.2.1.y ≠ H.2.2.1.y ∧ H.2.1.y ≠ H.2.2.2.y ∧ H.2.2.1.y ≠ H.2.2.2.y
theorem Okay.su {p q r t : PT} (h : Okay (p, q, r, t)) : Okay (gsu0 PT.lt p q r t) := by
  obtain ⟨⟨h1, h2, h3, h4⟩, a, b, c, d, e, f⟩ := h
  dsimp only at *
  refine ⟨gsu0_all h1 h2 h3 h4, ?_⟩
  unfold gsu0 gsd03 gsd02
  cases PT.lt r q <;> cases PT.lt t p <;> cases PT.lt q p <;> cases PT.lt r p <;> refine ⟨?_, ?_, ?_, ?_, ?_, ?_⟩ <;> first | assumption | exact Ne.symm (by assumption)
theorem second_all {H : Four PT} {P : PT → Prop} (h1 : P H.2.1) (h2 : P H.2.2.1) : P (second PT.lt H) := by
  unfold second
  cases PT.lt H.2.2.1 H.2.1
  · exact h2
  · exact h1
theorem Okay.step {H : Four PT} (h : Okay H) (hs : (second PT.lt H).x ≠ 0) : Okay (pstep H) := by
  have h2 := second_all (P := fun t => 0 ≤ t.x ∧ t.x < 10000) h.1.2.1 h.1.2.2.1
  refine Okay.su ⟨⟨?_, h.1.2⟩, h.2⟩
  show 0 ≤ Int.fmod _ _ ∧ Int.fmod _ _ < 10000
  have := Int.fmod_nonneg_of_pos H.1.x (b := (second PT.lt H).x) (by omega)
  have := Int.fmod_lt_of_pos H.1.x (b := (second PT.lt H).x) (by omega)
  omega
theorem Run.okay {H₀ H : Four PT} {i : Nat} {log : List Ent} (h : Run H₀ i H log) (h0 : Okay H₀) : Okay H := by
  induction h with
  | zero => exact h0
  | succ _ hs ih => exact ih.step hs

/-- a thing as it lies in the ledger -/
structure RT where
  a : Addr
  r : Addr
  p : PT
  u : Tok
  v : Tok
  e : Nat
  k0 : Tok
  k1 : Tok
  k2 : Tok
  k3 : Tok
  f : Nat
def RT.In (l : List (Addr × Obj)) (T : RT) : Prop :=
  (T.a, tupObj #[.int T.p.x T.u, .int T.p.y T.v, .ref T.r] T.e) ∈ l ∧ (T.r, listOf #[.int T.p.c0 T.k0, .int T.p.c1 T.k1, .int T.p.c2 T.k2, .int T.p.c3 T.k3] T.f) ∈ l
theorem RT.In.mono {l l' : List (Addr × Obj)} {T : RT} (h : T.In l) (hs : ∀ p ∈ l, p ∈ l') : T.In l' := ⟨hs _ h.1, hs _ h.2⟩
def RT.th (T : RT) : Th := ⟨T.a, T.p.x, T.p.y⟩
def RT.lt (s t : RT) : Bool := PT.lt s.p t.p
def EntIn (l : List (Addr × Obj)) (v : Value) (e : Ent) : Prop := ∃ a k1 k2 k3 k4 n, v = .ref a ∧ (a, tupObj #[.int e.1 k1, .int e.2.1 k2, .int e.2.2.1 k3, .int e.2.2.2 k4] n) ∈ l
inductive LogIn (l : List (Addr × Obj)) : List Value → List Ent → Prop
  | nil : LogIn l [] []
  | cons {v : Value} {e : Ent} {vs : List Value} {es : List Ent} : EntIn l v e → LogIn l vs es → LogIn l (v :: vs) (e :: es)
theorem EntIn.mono {l l' : List (Addr × Obj)} {v : Value} {e : Ent} (h : EntIn l v e) (hs : ∀ p ∈ l, p ∈ l') : EntIn l' v e := by
  obtain ⟨a, k1, k2, k3, k4, n, h1, h2⟩ := h
  exact ⟨a, k1, k2, k3, k4, n, h1, hs _ h2⟩
theorem LogIn.mono {l l' : List (Addr × Obj)} {vs : List Value} {es : List Ent} (h : LogIn l vs es) (hs : ∀ p ∈ l, p ∈ l') : LogIn l' vs es := by
  induction h with
  | nil => exact .nil
  | cons h _ ih => exact .cons (h.mono hs) ih
theorem LogIn.snoc {l : List (Addr × Obj)} {vs : List Value} {es : List Ent} {v : Value} {e : Ent} (h : LogIn l vs es) (h' : EntIn l v e) : LogIn l (vs ++ [v]) (es ++ [e]) := by
  induction h with
  | nil => exact .cons h' .nil
  | cons h _ ih => exact .cons h ih
theorem LogIn.len {l : List (Addr × Obj)} {vs : List Value} {es : List Ent} (h : LogIn l vs es) : vs.length = es.length := by
  induction h with
  | nil => rfl
  | cons _ _ ih => simp [ih]
end Mine

/-! # J1 -/
namespace Mine
theorem fresh_J1 : True := by
  w_top off
  exact True.intro

theorem offs {D : Addr} {o : Obj} : ∀ {l : List (Addr × Obj)}, (∀ q ∈ l, ∀ d ∈ [(D, o)], q.1 ≠ d.1) → LCg.Off1 D l
  | [], _ => trivial
  | _ :: _, h => ⟨h _ (.head _) _ (.head _), offs fun q hq => h q (.tail _ hq)⟩
theorem off_of {D : Addr} : ∀ {l : List (Addr × Obj)}, LCg.Off1 D l → ∀ q ∈ l, q.1 ≠ D
  | [], _, _, h => nomatch h
  | _ :: _, x, q, h => by
    rcases List.mem_cons.mp h with rfl | h
    · exact x.1
    · exact off_of x.2 q h
theorem allLt_ne {d : Addr} : ∀ {l : List (Addr × Obj)}, AllLt d l → ∀ q ∈ l, q.1 ≠ d
  | [], _, _, h => nomatch h
  | _ :: _, x, q, h => by
    rcases List.mem_cons.mp h with rfl | h
    · exact Nat.ne_of_lt x.1
    · exact allLt_ne x.2 q h
theorem bits_lt {q : Int} {k : Nat} (h : q.natAbs < 2 ^ k) : Builtin.Int.intBits q ≤ k := by
  unfold Builtin.Int.intBits
  split
  · exact Nat.zero_le _
  · rename_i hq
    have hn : q.natAbs ≠ 0 := by
      intro e; apply hq; have := Int.natAbs_eq_zero.mp e; simp [this]
    exact (Nat.log2_lt hn).mpr h
theorem bits_small {q : Int} (h0 : 0 ≤ q) (h1 : q < 10000) : Builtin.Int.intBits q ≤ 64 := bits_lt (by
  have : q.natAbs < 10000 := by omega
  exact Nat.lt_of_lt_of_le this (by decide))
theorem bits_fdiv {a b : Int} (h0 : 0 ≤ a) (h1 : a < 10000) (h2 : 0 < b) : Builtin.Int.intBits (a.fdiv b) ≤ 64 := by
  have e : a.fdiv b = a / b := Int.fdiv_eq_ediv_of_nonneg a (by omega)
  rw [e]
  exact bits_small (Int.ediv_nonneg h0 (by omega)) (Int.lt_of_le_of_lt (Int.ediv_le_self b h0) h1)

def vals (S : Four RT) : Array Value := #[.ref S.1.a, .ref S.2.1.a, .ref S.2.2.1.a, .ref S.2.2.2.a]
/-- before the turn i of _law_down -/
def JD' (H₀ : Four PT) (hp lg : Addr) (ep : Nat) (rest₀ : List (Addr × Obj)) (i : Nat) (S : Four RT) (lv : List Value) (log : List Ent) (en : Nat) (rest news : List (Addr × Obj)) : Prop :=
    news = (lg, listOf lv.toArray en) :: (hp, listOf (vals S) ep) :: rest ∧ (∀ p ∈ rest₀, p ∈ rest) ∧ (∀ p ∈ rest, p.1 ≠ hp) ∧ (∀ p ∈ rest, p.1 ≠ lg) ∧
    Four.All (RT.In rest) S ∧ LogIn rest lv log ∧ Run H₀ i (Four.map RT.p S) log
def JD (H₀ : Four PT) (hp lg : Addr) (ep : Nat) (rest₀ : List (Addr × Obj)) (i : Nat) (news : List (Addr × Obj)) : Prop :=
  ∃ (S : Four RT) (lv : List Value) (log : List Ent) (en : Nat) (rest : List (Addr × Obj)), JD' H₀ hp lg ep rest₀ i S lv log en rest news

theorem JD_next {H₀ : Four PT} {hp lg D0 D1 D2 : Addr} {ep i en e9 z1 z2 : Nat} {rest₀ rest : List (Addr × Obj)} {T0 T1 T2 T3 : RT} {lv : List Value} {log : List Ent} {t1 t2 k0 k1 k2 k3 : Tok} (s : RT)
    (hsub : ∀ p ∈ rest₀, p ∈ rest) (hr1 : ∀ p ∈ rest, p.1 ≠ hp) (hr2 : ∀ p ∈ rest, p.1 ≠ lg) (i0 : RT.In rest T0) (i1 : RT.In rest T1) (i2 : RT.In rest T2) (i3 : RT.In rest T3) (hlog : LogIn rest lv log) (hrun : Run H₀ i (Four.map RT.p (T0, T1, T2, T3)) log)
    (hs : second PT.lt (Four.map RT.p (T0, T1, T2, T3)) = s.p) (hne : s.p.x ≠ 0) (a0 : @Ne Nat D0 hp) (a1 : @Ne Nat D1 hp) (a2 : @Ne Nat D2 hp) (b0 : @Ne Nat D0 lg) (b1 : @Ne Nat D1 lg) (b2 : @Ne Nat D2 lg) :
    JD H₀ hp lg ep rest₀ (i + 1) ((lg, listOf (lv.toArray.push (.ref D2)) (en + 1)) :: (hp, listOf (vals4 (su0 ⟨D1, T0.p.x.fmod s.p.x, T0.p.y⟩ ⟨T1.a, T1.p.x, T1.p.y⟩ ⟨T2.a, T2.p.x, T2.p.y⟩ ⟨T3.a, T3.p.x, T3.p.y⟩)) ep) ::
      (D2, tupObj #[.int T0.p.x T0.u, .int T0.p.y T0.v, .int s.p.y s.v, .int (T0.p.x.fdiv s.p.x) t2] z2) :: (D1, tupObj #[.int (T0.p.x.fmod s.p.x) t1, .int T0.p.y T0.v, .ref D0] z1) ::
      (D0, listOf #[.int (T0.p.c0 - T0.p.x.fdiv s.p.x * s.p.c0) k0, .int (T0.p.c1 - T0.p.x.fdiv s.p.x * s.p.c1) k1, .int (T0.p.c2 - T0.p.x.fdiv s.p.x * s.p.c2) k2, .int (T0.p.c3 - T0.p.x.fdiv s.p.x * s.p.c3) k3] e9) :: rest) := by
  let N : RT := ⟨D1, D0, newThing T0.p s.p, t1, T0.v, z1, k0, k1, k2, k3, e9⟩
  have up : ∀ q ∈ rest, q ∈ ((D2, tupObj #[.int T0.p.x T0.u, .int T0.p.y T0.v, .int s.p.y s.v, .int (T0.p.x.fdiv s.p.x) t2] z2) :: (D1, tupObj #[.int (T0.p.x.fmod s.p.x) t1, .int T0.p.y T0.v, .ref D0] z1) ::
      (D0, listOf #[.int (T0.p.c0 - T0.p.x.fdiv s.p.x * s.p.c0) k0, .int (T0.p.c1 - T0.p.x.fdiv s.p.x * s.p.c1) k1, .int (T0.p.c2 - T0.p.x.fdiv s.p.x * s.p.c2) k2, .int (T0.p.c3 - T0.p.x.fdiv s.p.x * s.p.c3) k3] e9) :: rest) := fun q hq => .tail _ (.tail _ (.tail _ hq))
  refine ⟨gsu0 RT.lt N T1 T2 T3, lv ++ [.ref D2], log ++ [entry (Four.map RT.p (T0, T1, T2, T3))], en + 1, _, ?_, fun q hq => up q (hsub q hq), ?_, ?_, ?_, ?_, ?_⟩
  · rw [List.push_toArray]
    have e : vals4 (su0 N.th T1.th T2.th T3.th) = vals (gsu0 RT.lt N T1 T2 T3) := by
      rw [su0_g, gsu0_map RT.th Th.lt (lt := RT.lt) (fun a b => rfl)]; rfl
    show _ = (lg, listOf (lv ++ [Value.ref D2]).toArray (en + 1)) :: (hp, listOf (vals (gsu0 RT.lt N T1 T2 T3)) ep) :: _
    rw [← e]; rfl
  · intro q hq
    rcases List.mem_cons.mp hq with rfl | hq
    · exact a2
    rcases List.mem_cons.mp hq with rfl | hq
    · exact a1
    rcases List.mem_cons.mp hq with rfl | hq
    · exact a0
    · exact hr1 q hq
  · intro q hq
    rcases List.mem_cons.mp hq with rfl | hq
    · exact b2
    rcases List.mem_cons.mp hq with rfl | hq
    · exact b1
    rcases List.mem_cons.mp hq with rfl | hq
    · exact b0
    · exact hr2 q hq
  · exact gsu0_all ⟨.tail _ (.head _), .tail _ (.tail _ (.head _))⟩ (i1.mono up) (i2.mono up) (i3.mono up)
  · refine (hlog.mono up).snoc ⟨D2, T0.u, T0.v, s.v, t2, z2, rfl, ?_⟩
    unfold entry
    rw [hs]
    exact .head _
  · have e : Four.map RT.p (gsu0 RT.lt N T1 T2 T3) = pstep (Four.map RT.p (T0, T1, T2, T3)) := by
      rw [← gsu0_map RT.p PT.lt (lt := RT.lt) (fun a b => rfl)]
      unfold pstep
      rw [hs]; rfl
    rw [e]
    exact .succ hrun (by rw [hs]; exact hne)

theorem perm6 {α : Type} {d2 d1 d0 i l h : α} {rest : List α} : ∀ p ∈ i :: l :: h :: d2 :: d1 :: d0 :: rest, p ∈ d2 :: d1 :: d0 :: i :: l :: h :: rest := by
  intro p hp
  simp only [List.mem_cons] at hp ⊢
  rcases hp with e | e | e | e | e | e | e <;> simp [e]
theorem off6 {I l h d2 d1 d0 : Addr} {o1 o2 o3 o4 o5 : Obj} {rest : List (Addr × Obj)} (h1 : @Ne Nat l I) (h2 : @Ne Nat h I) (h3 : @Ne Nat d2 I) (h4 : @Ne Nat d1 I) (h5 : @Ne Nat d0 I) (hr : ∀ p ∈ rest, p.1 ≠ I) :
    ∀ p ∈ (l, o1) :: (h, o2) :: (d2, o3) :: (d1, o4) :: (d0, o5) :: rest, p.1 ≠ I := by
  intro p hp
  simp only [List.mem_cons] at hp
  rcases hp with e | e | e | e | e | e <;> first | exact hr p e | (subst e; assumption)

end Mine

/-! # RW -/
namespace Mine
theorem fresh_RW : True := by
  w_top off
  exact True.intro
structure Rw where
  a : Addr
  c0 : Int
  c1 : Int
  c2 : Int
  c3 : Int
  k0 : Tok
  k1 : Tok
  k2 : Tok
  k3 : Tok
  e : Nat
abbrev rowP (R : Rw) : Addr × Obj := (R.a, listOf #[.int R.c0 R.k0, .int R.c1 R.k1, .int R.c2 R.k2, .int R.c3 R.k3] R.e)
def Rw.at (R : Rw) : Nat → Int := pick R.c0 R.c1 R.c2 R.c3
def Rw.row (R : Rw) : Ent := (R.c0, R.c1, R.c2, R.c3)
theorem rowP_of {C : Rw} {a b c d : Int} (h : C.row = (a, b, c, d)) : rowP C = (C.a, listOf #[.int a C.k0, .int b C.k1, .int c C.k2, .int d C.k3] C.e) := by
  simp only [Rw.row, Prod.mk.injEq] at h
  obtain ⟨rfl, rfl, rfl, rfl⟩ := h
  rfl
/-- a pair of ints that lies in the ledger -/
structure PO where
  a : Addr
  x : Int
  y : Int
  k0 : Tok
  k1 : Tok
  e : Nat
abbrev PO.pr (T : PO) : Addr × Obj := (T.a, tupObj #[.int T.x T.k0, .int T.y T.k1] T.e)
end Mine

/-! # L8 -/
namespace Mine
theorem fresh_L8 : True := by
  w_top off
  exact True.intro

section
local macro_rules | `(tactic| k_all) => `(tactic| assumption)
local macro_rules | `(tactic| k_units) => `(tactic| ktr_units)
local macro_rules | `(tactic| k_mem) => `(tactic| (repeat (first | assumption | exact List.Mem.head _ | refine List.Mem.tail _ ?_)))


/-- after `if gt(heap[1], heap[2]): second = heap[1]`: one of the two things is the second -/
def IfJoin (h₀ : Heap) (L : Addr) (m : Str → Option Value) (news : List (Addr × Obj)) (s : Shared) (sec : PT) (rest : List (Addr × Obj)) : Flow → Shared → Prop := fun f s' =>
  ∃ (T : RT) (h' : Heap) (tk' : Nat), f = .next ∧ s' = { s with heap := h', toks := tk' } ∧ RT.In rest T ∧ sec = T.p ∧ (0 ≤ T.p.x ∧ T.p.x < 10000) ∧ Fr h₀ L h' (fun y => if y = Str.ofString "second" then some (.ref T.a) else m y) ∧ News h₀ L h' news
theorem if_join {w : World} {A : Around} {t : Sem Flow} {Q : Flow → Shared → Prop} {E : Value → Shared → Prop} {h₀ h : Heap} {L : Addr} {m : Str → Option Value} {v : Option Value} {news : List (Addr × Obj)} {s : Shared}
    (F : Fr h₀ L h (fun y => if y = Str.ofString "second" then v else m y)) (N : News h₀ L h news) (sec : PT) (rest : List (Addr × Obj))
    (fst : wpAny (model PySem.Challenge.rw_mr0075_01.row.prog w) A t (IfJoin h₀ L m news s sec rest) E s)
    (nxt : ∀ (T : RT) (h' : Heap) (tk' : Nat), (T.a, tupObj #[.int T.p.x T.u, .int T.p.y T.v, .ref T.r] T.e) ∈ rest → (T.r, listOf #[.int T.p.c0 T.k0, .int T.p.c1 T.k1, .int T.p.c2 T.k2, .int T.p.c3 T.k3] T.f) ∈ rest → sec = T.p → 0 ≤ T.p.x → T.p.x < 10000 → Fr h₀ L h' (fun y => if y = Str.ofString "second" then some (.ref T.a) else m y) → News h₀ L h' news → Q .next { s with heap := h', toks := tk' }) :
    wpAny (model PySem.Challenge.rw_mr0075_01.row.prog w) A t Q E s :=
  wpAny_mono fst (fun f s' ⟨T, h', tk', e1, e2, a, b, c, d, e⟩ => by subst e1; subst e2; exact nxt T h' tk' a.1 a.2 b c.1 c.2 d e) fun _ _ h => h
theorem twice {x : Str} {u v : Option Value} {m : Str → Option Value} : (fun y => if y = x then v else if y = x then u else m y) = (fun y => if y = x then v else m y) := by
  funext y; split <;> rfl

theorem down {w : World} {hp : Addr} {S : Four RT} {ep : Nat} {rest : List (Addr × Obj)} (hrest : ∀ p ∈ rest, p.1 ≠ hp) (hS : Four.All (RT.In rest) S) (hO : Okay (Four.map RT.p S)) :
    CallOk w 20 111 [.ref hp] ((hp, listOf (vals S) ep) :: rest)
      (fun r n => ∃ lg i S' lv log en rest', r = .ref lg ∧ @Ne Nat lg hp ∧ (∀ p ∈ rest, p.1 ≠ lg) ∧ JD' (Four.map RT.p S) hp lg ep rest i S' lv log en rest' n ∧ (i = 60 ∨ (second PT.lt (Four.map RT.p S')).x = 0)) := by
  have hK : (hd.heap_39, PySem.Challenge.rw_mr0075_01) = (hd.heap_39, PySem.Challenge.rw_mr0075_01) := by k_fill; rfl
  clear hK
  unfold CallOk
  intro dp un gd cn cs a ccd cl outer A₀ base h₀ L m s p loose mean mg mb Q E B F X N T hk hd hu hret
  refine wpAny_call ?_
  k_dflt ktr_enter
  repeat' (first | (k_unfold; (try dsimp only)) | (k_end; wrow_close) | ((fail_if_success (with_reducible show wpAny _ _ (pyIter (Value.ref _)) _ _ _)); first | ((first | ((with_reducible show wpAny _ _ (call (Value.ref _) _) _ _ _); first | (k_here; (with_reducible show wpAny _ _ (call (Value.ref 21) _) _ _ _); k_dflt (refine' CallOk.use (heapreplaceU (U := ?q0) (m0 := ?q1) (m1 := ?q2) (m2 := ?q3) (m3 := ?q4) (mi := ?q5) (n01 := ?q6) (n02 := ?q7) (n03 := ?q8) (n12 := ?q9)) ?kB ?kF ?kX ?kN ?kT ?kk ?kd ?ku ?_; (case kN => k_asm); (case q0 => (first | exact Upd.head (by (repeat (first | assumption | exact List.forall_mem_nil _ | (refine' List.forall_mem_cons.mpr ⟨?_, ?_⟩; (focus (refine neN ?_; (try dsimp only); first | assumption | exact Ne.symm (by assumption) | omega)))))) | exact Upd.tail (by (refine neN ?_; (try dsimp only); first | assumption | exact Ne.symm (by assumption) | omega)) (Upd.head (by (repeat (first | assumption | exact List.forall_mem_nil _ | (refine' List.forall_mem_cons.mpr ⟨?_, ?_⟩; (focus (refine neN ?_; (try dsimp only); first | assumption | exact Ne.symm (by assumption) | omega))))))) | exact Upd.tail (by (refine neN ?_; (try dsimp only); first | assumption | exact Ne.symm (by assumption) | omega)) (Upd.tail (by (refine neN ?_; (try dsimp only); first | assumption | exact Ne.symm (by assumption) | omega)) (Upd.head (by (repeat (first | assumption | exact List.forall_mem_nil _ | (refine' List.forall_mem_cons.mpr ⟨?_, ?_⟩; (focus (refine neN ?_; (try dsimp only); first | assumption | exact Ne.symm (by assumption) | omega)))))))) | exact Upd.tail (by (refine neN ?_; (try dsimp only); first | assumption | exact Ne.symm (by assumption) | omega)) (Upd.tail (by (refine neN ?_; (try dsimp only); first | assumption | exact Ne.symm (by assumption) | omega)) (Upd.tail (by (refine neN ?_; (try dsimp only); first | assumption | exact Ne.symm (by assumption) | omega)) (Upd.head (by (repeat (first | assumption | exact List.forall_mem_nil _ | (refine' List.forall_mem_cons.mpr ⟨?_, ?_⟩; (focus (refine neN ?_; (try dsimp only); first | assumption | exact Ne.symm (by assumption) | omega))))))))) | exact Upd.tail (by (refine neN ?_; (try dsimp only); first | assumption | exact Ne.symm (by assumption) | omega)) (Upd.tail (by (refine neN ?_; (try dsimp only); first | assumption | exact Ne.symm (by assumption) | omega)) (Upd.tail (by (refine neN ?_; (try dsimp only); first | assumption | exact Ne.symm (by assumption) | omega)) (Upd.tail (by (refine neN ?_; (try dsimp only); first | assumption | exact Ne.symm (by assumption) | omega)) (Upd.head (by (repeat (first | assumption | exact List.forall_mem_nil _ | (refine' List.forall_mem_cons.mpr ⟨?_, ?_⟩; (focus (refine neN ?_; (try dsimp only); first | assumption | exact Ne.symm (by assumption) | omega)))))))))) | exact Upd.tail (by (refine neN ?_; (try dsimp only); first | assumption | exact Ne.symm (by assumption) | omega)) (Upd.tail (by (refine neN ?_; (try dsimp only); first | assumption | exact Ne.symm (by assumption) | omega)) (Upd.tail (by (refine neN ?_; (try dsimp only); first | assumption | exact Ne.symm (by assumption) | omega)) (Upd.tail (by (refine neN ?_; (try dsimp only); first | assumption | exact Ne.symm (by assumption) | omega)) (Upd.tail (by (refine neN ?_; (try dsimp only); first | assumption | exact Ne.symm (by assumption) | omega)) (Upd.head (by (repeat (first | assumption | exact List.forall_mem_nil _ | (refine' List.forall_mem_cons.mpr ⟨?_, ?_⟩; (focus (refine neN ?_; (try dsimp only); first | assumption | exact Ne.symm (by assumption) | omega))))))))))) | exact Upd.tail (by (refine neN ?_; (try dsimp only); first | assumption | exact Ne.symm (by assumption) | omega)) (Upd.tail (by (refine neN ?_; (try dsimp only); first | assumption | exact Ne.symm (by assumption) | omega)) (Upd.tail (by (refine neN ?_; (try dsimp only); first | assumption | exact Ne.symm (by assumption) | omega)) (Upd.tail (by (refine neN ?_; (try dsimp only); first | assumption | exact Ne.symm (by assumption) | omega)) (Upd.tail (by (refine neN ?_; (try dsimp only); first | assumption | exact Ne.symm (by assumption) | omega)) (Upd.tail (by (refine neN ?_; (try dsimp only); first | assumption | exact Ne.symm (by assumption) | omega)) (Upd.head (by (repeat (first | assumption | exact List.forall_mem_nil _ | (refine' List.forall_mem_cons.mpr ⟨?_, ?_⟩; (focus (refine neN ?_; (try dsimp only); first | assumption | exact Ne.symm (by assumption) | omega)))))))))))) | exact Upd.tail (by (refine neN ?_; (try dsimp only); first | assumption | exact Ne.symm (by assumption) | omega)) (Upd.tail (by (refine neN ?_; (try dsimp only); first | assumption | exact Ne.symm (by assumption) | omega)) (Upd.tail (by (refine neN ?_; (try dsimp only); first | assumption | exact Ne.symm (by assumption) | omega)) (Upd.tail (by (refine neN ?_; (try dsimp only); first | assumption | exact Ne.symm (by assumption) | omega)) (Upd.tail (by (refine neN ?_; (try dsimp only); first | assumption | exact Ne.symm (by assumption) | omega)) (Upd.tail (by (refine neN ?_; (try dsimp only); first | assumption | exact Ne.symm (by assumption) | omega)) (Upd.tail (by (refine neN ?_; (try dsimp only); first | assumption | exact Ne.symm (by assumption) | omega)) (Upd.head (by (repeat (first | assumption | exact List.forall_mem_nil _ | (refine' List.forall_mem_cons.mpr ⟨?_, ?_⟩; (focus (refine neN ?_; (try dsimp only); first | assumption | exact Ne.symm (by assumption) | omega))))))))))))))); (case q1 => k_mem); (case q2 => k_mem); (case q3 => k_mem); (case q4 => k_mem); (case q5 => k_mem); (case q6 => exact fun h_w => d01 h_w.2); (case q7 => exact fun h_w => d02 h_w.2); (case q8 => exact fun h_w => d03 h_w.2); (case q9 => exact fun h_w => d12 h_w.2); (case kB => k_asm); (case kF => k_asm); (case kX => k_asm); (case kT => k_asm); (case kk => exact rfl); (case kd => ktr_room); (case ku => ktr_units); k_whole); intro r9_w n9_w h9_w tk9_w F9_w N9_w P9_w; obtain ⟨P8_w, P9_w⟩ := P9_w; subst P8_w; subst P9_w; (try k_sweep); (try dsimp only)) | (k_here; (with_reducible show wpAny _ _ (call (Value.ref 97) _) _ _ _); k_dflt (refine' CallOk.use (less (hsub := ?q0) (hq := ?q1)) ?kB ?kF ?kX ?kN ?kT ?kk ?kd ?ku ?_; (case kN => k_asm); (case q0 => lcg_sub); (case q1 => exact bits_fdiv (by omega) (by omega) (by omega)); (case kB => k_asm); (case kF => k_asm); (case kX => k_asm); (case kT => k_asm); (case kk => exact rfl); (case kd => ktr_room); (case ku => ktr_units); k_whole); intro r9_w n9_w h9_w tk9_w F9_w N9_w P9_w; obtain ⟨new9_w, P8_w, P7_w, D9_w, k90_w, k91_w, k92_w, k93_w, e9_w, P6_w, P5_w⟩ := P9_w; subst P6_w; subst P5_w; subst P8_w; (simp only [List.cons_append, List.nil_append] at N9_w); (have o9_w : LCg.Off1 D9_w _ := offs P7_w); (simp only [LCg.Off1, and_true] at o9_w); clear P7_w; (try k_sweep); (try dsimp only)) | (k_here; (with_reducible show wpAny _ _ (call (Value.ref 63) _) _ _ _); k_dflt (refine' CallOk.use (c_mod (hb := ?q0)) ?kB ?kF ?kX ?kN ?kT ?kk ?kd ?ku ?_; (case kN => k_asm); (case q0 => omega); (case kB => k_asm); (case kF => k_asm); (case kX => k_asm); (case kT => k_asm); (case kk => exact rfl); (case kd => ktr_room); (case ku => ktr_units); k_whole); intro r9_w n9_w h9_w tk9_w F9_w N9_w P9_w; obtain ⟨P8_w, t9_w, P9_w⟩ := P9_w; subst P8_w; subst P9_w; (try k_sweep); (try dsimp only)) | (k_here; (with_reducible show wpAny _ _ (call (Value.ref 56) _) _ _ _); k_dflt (refine' CallOk.use (c_floordiv (hb0 := ?q0) (hb1 := ?q1)) ?kB ?kF ?kX ?kN ?kT ?kk ?kd ?ku ?_; (case kN => k_asm); (case q0 => omega); (case q1 => omega); (case kB => k_asm); (case kF => k_asm); (case kX => k_asm); (case kT => k_asm); (case kk => exact rfl); (case kd => ktr_room); (case ku => ktr_units); k_whole); intro r9_w n9_w h9_w tk9_w F9_w N9_w P9_w; obtain ⟨P8_w, t9_w, P9_w⟩ := P9_w; subst P8_w; subst P9_w; (try k_sweep); (try dsimp only)) | (k_here; (with_reducible show wpAny _ _ (call (Value.ref 49) _) _ _ _); k_dflt (refine' CallOk.use (c_gt (m1 := ?q0) (m2 := ?q1) (n12 := ?q2)) ?kB ?kF ?kX ?kN ?kT ?kk ?kd ?ku ?_; (case kN => k_asm); (case q0 => k_mem); (case q1 => k_mem); (case q2 => exact fun h_w => d12 h_w.2); (case kB => k_asm); (case kF => k_asm); (case kX => k_asm); (case kT => k_asm); (case kk => exact rfl); (case kd => ktr_room); (case ku => ktr_units); k_whole); intro r9_w n9_w h9_w tk9_w F9_w N9_w P9_w; obtain ⟨P8_w, P9_w⟩ := P9_w; subst P8_w; subst P9_w; (try k_sweep); (try dsimp only))) | (k_here; (with_reducible show wpAny _ _ (call (Value.builtin _) [Value.ref _, _]) _ _ _); k_dflt (refine' append_K ?k1 ?k2 ?k3 ?_ ?z; (case k1 => k_asm); (case k2 => k_asm); (case k3 => (first | exact Upd.head (by (repeat (first | assumption | exact List.forall_mem_nil _ | (refine' List.forall_mem_cons.mpr ⟨?_, ?_⟩; (focus (refine neN ?_; (try dsimp only); first | assumption | exact Ne.symm (by assumption) | omega)))))) | exact Upd.tail (by (refine neN ?_; (try dsimp only); first | assumption | exact Ne.symm (by assumption) | omega)) (Upd.head (by (repeat (first | assumption | exact List.forall_mem_nil _ | (refine' List.forall_mem_cons.mpr ⟨?_, ?_⟩; (focus (refine neN ?_; (try dsimp only); first | assumption | exact Ne.symm (by assumption) | omega))))))) | exact Upd.tail (by (refine neN ?_; (try dsimp only); first | assumption | exact Ne.symm (by assumption) | omega)) (Upd.tail (by (refine neN ?_; (try dsimp only); first | assumption | exact Ne.symm (by assumption) | omega)) (Upd.head (by (repeat (first | assumption | exact List.forall_mem_nil _ | (refine' List.forall_mem_cons.mpr ⟨?_, ?_⟩; (focus (refine neN ?_; (try dsimp only); first | assumption | exact Ne.symm (by assumption) | omega)))))))) | exact Upd.tail (by (refine neN ?_; (try dsimp only); first | assumption | exact Ne.symm (by assumption) | omega)) (Upd.tail (by (refine neN ?_; (try dsimp only); first | assumption | exact Ne.symm (by assumption) | omega)) (Upd.tail (by (refine neN ?_; (try dsimp only); first | assumption | exact Ne.symm (by assumption) | omega)) (Upd.head (by (repeat (first | assumption | exact List.forall_mem_nil _ | (refine' List.forall_mem_cons.mpr ⟨?_, ?_⟩; (focus (refine neN ?_; (try dsimp only); first | assumption | exact Ne.symm (by assumption) | omega))))))))) | exact Upd.tail (by (refine neN ?_; (try dsimp only); first | assumption | exact Ne.symm (by assumption) | omega)) (Upd.tail (by (refine neN ?_; (try dsimp only); first | assumption | exact Ne.symm (by assumption) | omega)) (Upd.tail (by (refine neN ?_; (try dsimp only); first | assumption | exact Ne.symm (by assumption) | omega)) (Upd.tail (by (refine neN ?_; (try dsimp only); first | assumption | exact Ne.symm (by assumption) | omega)) (Upd.head (by (repeat (first | assumption | exact List.forall_mem_nil _ | (refine' List.forall_mem_cons.mpr ⟨?_, ?_⟩; (focus (refine neN ?_; (try dsimp only); first | assumption | exact Ne.symm (by assumption) | omega)))))))))) | exact Upd.tail (by (refine neN ?_; (try dsimp only); first | assumption | exact Ne.symm (by assumption) | omega)) (Upd.tail (by (refine neN ?_; (try dsimp only); first | assumption | exact Ne.symm (by assumption) | omega)) (Upd.tail (by (refine neN ?_; (try dsimp only); first | assumption | exact Ne.symm (by assumption) | omega)) (Upd.tail (by (refine neN ?_; (try dsimp only); first | assumption | exact Ne.symm (by assumption) | omega)) (Upd.tail (by (refine neN ?_; (try dsimp only); first | assumption | exact Ne.symm (by assumption) | omega)) (Upd.head (by (repeat (first | assumption | exact List.forall_mem_nil _ | (refine' List.forall_mem_cons.mpr ⟨?_, ?_⟩; (focus (refine neN ?_; (try dsimp only); first | assumption | exact Ne.symm (by assumption) | omega))))))))))) | exact Upd.tail (by (refine neN ?_; (try dsimp only); first | assumption | exact Ne.symm (by assumption) | omega)) (Upd.tail (by (refine neN ?_; (try dsimp only); first | assumption | exact Ne.symm (by assumption) | omega)) (Upd.tail (by (refine neN ?_; (try dsimp only); first | assumption | exact Ne.symm (by assumption) | omega)) (Upd.tail (by (refine neN ?_; (try dsimp only); first | assumption | exact Ne.symm (by assumption) | omega)) (Upd.tail (by (refine neN ?_; (try dsimp only); first | assumption | exact Ne.symm (by assumption) | omega)) (Upd.tail (by (refine neN ?_; (try dsimp only); first | assumption | exact Ne.symm (by assumption) | omega)) (Upd.head (by (repeat (first | assumption | exact List.forall_mem_nil _ | (refine' List.forall_mem_cons.mpr ⟨?_, ?_⟩; (focus (refine neN ?_; (try dsimp only); first | assumption | exact Ne.symm (by assumption) | omega)))))))))))) | exact Upd.tail (by (refine neN ?_; (try dsimp only); first | assumption | exact Ne.symm (by assumption) | omega)) (Upd.tail (by (refine neN ?_; (try dsimp only); first | assumption | exact Ne.symm (by assumption) | omega)) (Upd.tail (by (refine neN ?_; (try dsimp only); first | assumption | exact Ne.symm (by assumption) | omega)) (Upd.tail (by (refine neN ?_; (try dsimp only); first | assumption | exact Ne.symm (by assumption) | omega)) (Upd.tail (by (refine neN ?_; (try dsimp only); first | assumption | exact Ne.symm (by assumption) | omega)) (Upd.tail (by (refine neN ?_; (try dsimp only); first | assumption | exact Ne.symm (by assumption) | omega)) (Upd.tail (by (refine neN ?_; (try dsimp only); first | assumption | exact Ne.symm (by assumption) | omega)) (Upd.head (by (repeat (first | assumption | exact List.forall_mem_nil _ | (refine' List.forall_mem_cons.mpr ⟨?_, ?_⟩; (focus (refine neN ?_; (try dsimp only); first | assumption | exact Ne.symm (by assumption) | omega))))))))))))))); (case z => assumption); k_whole); intro h_wp F_wp N_wp; (try k_sweep)))) | (walk1) | (dsimp only; walk1)) | (leave1; (try dsimp only)))
  rename _ < _ ∧ AllLt _ _ => l1
  refine iter_RS (n := 60) [Str.ofString "second", Str.ofString "number", Str.ofString "place", Str.ofString "row", Str.ofString "quotient", Str.ofString "thing", Str.ofString "top"] (JD (Four.map RT.p S) hp _ ep rest) rfl (by assumption) (by decide) (by decide) (by assumption) (by assumption) ⟨S, [], [], 0, rest, rfl, fun _ h => h, hrest, allLt_ne l1.2, hS, .nil, .zero⟩ ?turn ?done
  case turn =>
    intro I i t u news₁ h tk o ho hi hJ hI F2 N2
    obtain ⟨⟨T0, T1, T2, T3⟩, lv, log, en, rest', rfl, hsub, hr1, hr2, ⟨⟨m0, w0⟩, ⟨m1, w1⟩, ⟨m2, w2⟩, ⟨m3, w3⟩⟩, hlog, hrun⟩ := hJ
    dsimp only [vals] at m0 w0 m1 w1 m2 w2 m3 w3 N2 hI
    obtain ⟨⟨b0, b1, b2, b3⟩, d01, d02, d03, d12, d13, d23⟩ := hrun.okay hO
    dsimp only [Four.map] at b0 b1 b2 b3 d01 d02 d03 d12 d13 d23
    have hz : lv.toArray.size ≤ sizeLine := by
      rw [List.size_toArray, hlog.len, hrun.len, sizeLine_eq]; omega
    have hIl := neN (hI _ (.head _))
    have hIh := neN (hI _ (.tail _ (.head _)))
    have hIr : ∀ p ∈ rest', p.1 ≠ I := fun p hp => hI p (.tail _ (.tail _ hp))
    have hrun' := hrun
    repeat' ((fail_if_success (with_reducible show wpAny _ _ (exec (Stmt.If _ _ _ _) _) _ _ _)); first | (k_unfold; (try dsimp only [List.nil_append, List.cons_append])) | (k_end; wrow_close) | (walk1; try k_fold) | (dsimp only; walk1; try k_fold) | (leave1; (try dsimp only)))
    rename Fr _ _ _ _ => fF
    rename News _ _ _ _ => nN
    refine if_join fF nN (second PT.lt (Four.map RT.p (T0, T1, T2, T3))) rest' ?fst ?nxt
    case fst =>
      repeat' (first | (k_unfold; (try dsimp only [List.nil_append, List.cons_append])) | (k_end; wrow_close) | ((first | ((with_reducible show wpAny _ _ (call (Value.ref _) _) _ _ _); first | (k_here; (with_reducible show wpAny _ _ (call (Value.ref 49) _) _ _ _); k_dflt (refine' CallOk.use (c_gt (m1 := ?q0) (m2 := ?q1) (n12 := ?q2)) ?kB ?kF ?kX ?kN ?kT ?kk ?kd ?ku ?_; (case kN => k_asm); (case q0 => k_mem); (case q1 => k_mem); (case q2 => exact fun h_w => d12 h_w.2); (case kB => k_asm); (case kF => k_asm); (case kX => k_asm); (case kT => k_asm); (case kk => exact rfl); (case kd => ktr_room); (case ku => ktr_units); k_whole); intro r9_w n9_w h9_w tk9_w F9_w N9_w P9_w; obtain ⟨P8_w, P9_w⟩ := P9_w; subst P8_w; subst P9_w; (try k_sweep); (try dsimp only)))); try k_fold) | (walk1; try k_fold) | (dsimp only; walk1; try k_fold) | (leave1; (try dsimp only)))
      · have hsec : second PT.lt (Four.map RT.p (T0, T1, T2, T3)) = T1.p := by
          show cond (lx T2.p.x T2.p.y T1.p.x T1.p.y) T1.p T2.p = T1.p
          rw [show lx T2.p.x T2.p.y T1.p.x T1.p.y = true by assumption]; rfl
        rename Fr _ _ _ _ => fF2
        rw [twice] at fF2
        exact ⟨T1, _, _, rfl, rfl, ⟨m1, w1⟩, hsec, ⟨b1.1, b1.2⟩, fF2, by assumption⟩
      · have hsec : second PT.lt (Four.map RT.p (T0, T1, T2, T3)) = T2.p := by
          show cond (lx T2.p.x T2.p.y T1.p.x T1.p.y) T1.p T2.p = T2.p
          rw [show lx T2.p.x T2.p.y T1.p.x T1.p.y = false by assumption]; rfl
        rename Fr _ _ _ _ => fF2
        exact ⟨T2, _, _, rfl, rfl, ⟨m2, w2⟩, hsec, ⟨b2.1, b2.2⟩, fF2, by assumption⟩
    case nxt =>
      intro T h' tk' mT wT hsec bT bT' F3 N3
      repeat' (first | (k_unfold; (try dsimp only [List.nil_append, List.cons_append])) | (k_end; wrow_close) | ((first | ((with_reducible show wpAny _ _ (call (Value.ref _) _) _ _ _); first | (k_here; (with_reducible show wpAny _ _ (call (Value.ref 21) _) _ _ _); k_dflt (refine' CallOk.use (heapreplaceU (U := ?q0) (m0 := ?q1) (m1 := ?q2) (m2 := ?q3) (m3 := ?q4) (mi := ?q5) (n01 := ?q6) (n02 := ?q7) (n03 := ?q8) (n12 := ?q9)) ?kB ?kF ?kX ?kN ?kT ?kk ?kd ?ku ?_; (case kN => k_asm); (case q0 => (first | exact Upd.head (by (repeat (first | assumption | exact List.forall_mem_nil _ | (refine' List.forall_mem_cons.mpr ⟨?_, ?_⟩; (focus (refine neN ?_; (try dsimp only); first | assumption | exact Ne.symm (by assumption) | omega)))))) | exact Upd.tail (by (refine neN ?_; (try dsimp only); first | assumption | exact Ne.symm (by assumption) | omega)) (Upd.head (by (repeat (first | assumption | exact List.forall_mem_nil _ | (refine' List.forall_mem_cons.mpr ⟨?_, ?_⟩; (focus (refine neN ?_; (try dsimp only); first | assumption | exact Ne.symm (by assumption) | omega))))))) | exact Upd.tail (by (refine neN ?_; (try dsimp only); first | assumption | exact Ne.symm (by assumption) | omega)) (Upd.tail (by (refine neN ?_; (try dsimp only); first | assumption | exact Ne.symm (by assumption) | omega)) (Upd.head (by (repeat (first | assumption | exact List.forall_mem_nil _ | (refine' List.forall_mem_cons.mpr ⟨?_, ?_⟩; (focus (refine neN ?_; (try dsimp only); first | assumption | exact Ne.symm (by assumption) | omega)))))))) | exact Upd.tail (by (refine neN ?_; (try dsimp only); first | assumption | exact Ne.symm (by assumption) | omega)) (Upd.tail (by (refine neN ?_; (try dsimp only); first | assumption | exact Ne.symm (by assumption) | omega)) (Upd.tail (by (refine neN ?_; (try dsimp only); first | assumption | exact Ne.symm (by assumption) | omega)) (Upd.head (by (repeat (first | assumption | exact List.forall_mem_nil _ | (refine' List.forall_mem_cons.mpr ⟨?_, ?_⟩; (focus (refine neN ?_; (try dsimp only); first | assumption | exact Ne.symm (by assumption) | omega))))))))) | exact Upd.tail (by (refine neN ?_; (try dsimp only); first | assumption | exact Ne.symm (by assumption) | omega)) (Upd.tail (by (refine neN ?_; (try dsimp only); first | assumption | exact Ne.symm (by assumption) | omega)) (Upd.tail (by (refine neN ?_; (try dsimp only); first | assumption | exact Ne.symm (by assumption) | omega)) (Upd.tail (by (refine neN ?_; (try dsimp only); first | assumption | exact Ne.symm (by assumption) | omega)) (Upd.head (by (repeat (first | assumption | exact List.forall_mem_nil _ | (refine' List.forall_mem_cons.mpr ⟨?_, ?_⟩; (focus (refine neN ?_; (try dsimp only); first | assumption | exact Ne.symm (by assumption) | omega)))))))))) | exact Upd.tail (by (refine neN ?_; (try dsimp only); first | assumption | exact Ne.symm (by assumption) | omega)) (Upd.tail (by (refine neN ?_; (try dsimp only); first | assumption | exact Ne.symm (by assumption) | omega)) (Upd.tail (by (refine neN ?_; (try dsimp only); first | assumption | exact Ne.symm (by assumption) | omega)) (Upd.tail (by (refine neN ?_; (try dsimp only); first | assumption | exact Ne.symm (by assumption) | omega)) (Upd.tail (by (refine neN ?_; (try dsimp only); first | assumption | exact Ne.symm (by assumption) | omega)) (Upd.head (by (repeat (first | assumption | exact List.forall_mem_nil _ | (refine' List.forall_mem_cons.mpr ⟨?_, ?_⟩; (focus (refine neN ?_; (try dsimp only); first | assumption | exact Ne.symm (by assumption) | omega))))))))))) | exact Upd.tail (by (refine neN ?_; (try dsimp only); first | assumption | exact Ne.symm (by assumption) | omega)) (Upd.tail (by (refine neN ?_; (try dsimp only); first | assumption | exact Ne.symm (by assumption) | omega)) (Upd.tail (by (refine neN ?_; (try dsimp only); first | assumption | exact Ne.symm (by assumption) | omega)) (Upd.tail (by (refine neN ?_; (try dsimp only); first | assumption | exact Ne.symm (by assumption) | omega)) (Upd.tail (by (refine neN ?_; (try dsimp only); first | assumption | exact Ne.symm (by assumption) | omega)) (Upd.tail (by (refine neN ?_; (try dsimp only); first | assumption | exact Ne.symm (by assumption) | omega)) (Upd.head (by (repeat (first | assumption | exact List.forall_mem_nil _ | (refine' List.forall_mem_cons.mpr ⟨?_, ?_⟩; (focus (refine neN ?_; (try dsimp only); first | assumption | exact Ne.symm (by assumption) | omega)))))))))))) | exact Upd.tail (by (refine neN ?_; (try dsimp only); first | assumption | exact Ne.symm (by assumption) | omega)) (Upd.tail (by (refine neN ?_; (try dsimp only); first | assumption | exact Ne.symm (by assumption) | omega)) (Upd.tail (by (refine neN ?_; (try dsimp only); first | assumption | exact Ne.symm (by assumption) | omega)) (Upd.tail (by (refine neN ?_; (try dsimp only); first | assumption | exact Ne.symm (by assumption) | omega)) (Upd.tail (by (refine neN ?_; (try dsimp only); first | assumption | exact Ne.symm (by assumption) | omega)) (Upd.tail (by (refine neN ?_; (try dsimp only); first | assumption | exact Ne.symm (by assumption) | omega)) (Upd.tail (by (refine neN ?_; (try dsimp only); first | assumption | exact Ne.symm (by assumption) | omega)) (Upd.head (by (repeat (first | assumption | exact List.forall_mem_nil _ | (refine' List.forall_mem_cons.mpr ⟨?_, ?_⟩; (focus (refine neN ?_; (try dsimp only); first | assumption | exact Ne.symm (by assumption) | omega))))))))))))))); (case q1 => k_mem); (case q2 => k_mem); (case q3 => k_mem); (case q4 => k_mem); (case q5 => k_mem); (case q6 => exact fun h_w => d01 h_w.2); (case q7 => exact fun h_w => d02 h_w.2); (case q8 => exact fun h_w => d03 h_w.2); (case q9 => exact fun h_w => d12 h_w.2); (case kB => k_asm); (case kF => k_asm); (case kX => k_asm); (case kT => k_asm); (case kk => exact rfl); (case kd => ktr_room); (case ku => ktr_units); k_whole); intro r9_w n9_w h9_w tk9_w F9_w N9_w P9_w; obtain ⟨P8_w, P9_w⟩ := P9_w; subst P8_w; subst P9_w; (try k_sweep); (try dsimp only)) | (k_here; (with_reducible show wpAny _ _ (call (Value.ref 97) _) _ _ _); k_dflt (refine' CallOk.use (less (hsub := ?q0) (hq := ?q1)) ?kB ?kF ?kX ?kN ?kT ?kk ?kd ?ku ?_; (case kN => k_asm); (case q0 => lcg_sub); (case q1 => exact bits_fdiv (by omega) (by omega) (by omega)); (case kB => k_asm); (case kF => k_asm); (case kX => k_asm); (case kT => k_asm); (case kk => exact rfl); (case kd => ktr_room); (case ku => ktr_units); k_whole); intro r9_w n9_w h9_w tk9_w F9_w N9_w P9_w; obtain ⟨new9_w, P8_w, P7_w, D9_w, k90_w, k91_w, k92_w, k93_w, e9_w, P6_w, P5_w⟩ := P9_w; subst P6_w; subst P5_w; subst P8_w; (simp only [List.cons_append, List.nil_append] at N9_w); (have o9_w : LCg.Off1 D9_w _ := offs P7_w); (simp only [LCg.Off1, and_true] at o9_w); clear P7_w; (try k_sweep); (try dsimp only)) | (k_here; (with_reducible show wpAny _ _ (call (Value.ref 63) _) _ _ _); k_dflt (refine' CallOk.use (c_mod (hb := ?q0)) ?kB ?kF ?kX ?kN ?kT ?kk ?kd ?ku ?_; (case kN => k_asm); (case q0 => omega); (case kB => k_asm); (case kF => k_asm); (case kX => k_asm); (case kT => k_asm); (case kk => exact rfl); (case kd => ktr_room); (case ku => ktr_units); k_whole); intro r9_w n9_w h9_w tk9_w F9_w N9_w P9_w; obtain ⟨P8_w, t9_w, P9_w⟩ := P9_w; subst P8_w; subst P9_w; (try k_sweep); (try dsimp only)) | (k_here; (with_reducible show wpAny _ _ (call (Value.ref 56) _) _ _ _); k_dflt (refine' CallOk.use (c_floordiv (hb0 := ?q0) (hb1 := ?q1)) ?kB ?kF ?kX ?kN ?kT ?kk ?kd ?ku ?_; (case kN => k_asm); (case q0 => omega); (case q1 => omega); (case kB => k_asm); (case kF => k_asm); (case kX => k_asm); (case kT => k_asm); (case kk => exact rfl); (case kd => ktr_room); (case ku => ktr_units); k_whole); intro r9_w n9_w h9_w tk9_w F9_w N9_w P9_w; obtain ⟨P8_w, t9_w, P9_w⟩ := P9_w; subst P8_w; subst P9_w; (try k_sweep); (try dsimp only))) | (k_here; (with_reducible show wpAny _ _ (call (Value.builtin _) [Value.ref _, _]) _ _ _); k_dflt (refine' append_K ?k1 ?k2 ?k3 ?_ ?z; (case k1 => k_asm); (case k2 => k_asm); (case k3 => (first | exact Upd.head (by (repeat (first | assumption | exact List.forall_mem_nil _ | (refine' List.forall_mem_cons.mpr ⟨?_, ?_⟩; (focus (refine neN ?_; (try dsimp only); first | assumption | exact Ne.symm (by assumption) | omega)))))) | exact Upd.tail (by (refine neN ?_; (try dsimp only); first | assumption | exact Ne.symm (by assumption) | omega)) (Upd.head (by (repeat (first | assumption | exact List.forall_mem_nil _ | (refine' List.forall_mem_cons.mpr ⟨?_, ?_⟩; (focus (refine neN ?_; (try dsimp only); first | assumption | exact Ne.symm (by assumption) | omega))))))) | exact Upd.tail (by (refine neN ?_; (try dsimp only); first | assumption | exact Ne.symm (by assumption) | omega)) (Upd.tail (by (refine neN ?_; (try dsimp only); first | assumption | exact Ne.symm (by assumption) | omega)) (Upd.head (by (repeat (first | assumption | exact List.forall_mem_nil _ | (refine' List.forall_mem_cons.mpr ⟨?_, ?_⟩; (focus (refine neN ?_; (try dsimp only); first | assumption | exact Ne.symm (by assumption) | omega)))))))) | exact Upd.tail (by (refine neN ?_; (try dsimp only); first | assumption | exact Ne.symm (by assumption) | omega)) (Upd.tail (by (refine neN ?_; (try dsimp only); first | assumption | exact Ne.symm (by assumption) | omega)) (Upd.tail (by (refine neN ?_; (try dsimp only); first | assumption | exact Ne.symm (by assumption) | omega)) (Upd.head (by (repeat (first | assumption | exact List.forall_mem_nil _ | (refine' List.forall_mem_cons.mpr ⟨?_, ?_⟩; (focus (refine neN ?_; (try dsimp only); first | assumption | exact Ne.symm (by assumption) | omega))))))))) | exact Upd.tail (by (refine neN ?_; (try dsimp only); first | assumption | exact Ne.symm (by assumption) | omega)) (Upd.tail (by (refine neN ?_; (try dsimp only); first | assumption | exact Ne.symm (by assumption) | omega)) (Upd.tail (by (refine neN ?_; (try dsimp only); first | assumption | exact Ne.symm (by assumption) | omega)) (Upd.tail (by (refine neN ?_; (try dsimp only); first | assumption | exact Ne.symm (by assumption) | omega)) (Upd.head (by (repeat (first | assumption | exact List.forall_mem_nil _ | (refine' List.forall_mem_cons.mpr ⟨?_, ?_⟩; (focus (refine neN ?_; (try dsimp only); first | assumption | exact Ne.symm (by assumption) | omega)))))))))) | exact Upd.tail (by (refine neN ?_; (try dsimp only); first | assumption | exact Ne.symm (by assumption) | omega)) (Upd.tail (by (refine neN ?_; (try dsimp only); first | assumption | exact Ne.symm (by assumption) | omega)) (Upd.tail (by (refine neN ?_; (try dsimp only); first | assumption | exact Ne.symm (by assumption) | omega)) (Upd.tail (by (refine neN ?_; (try dsimp only); first | assumption | exact Ne.symm (by assumption) | omega)) (Upd.tail (by (refine neN ?_; (try dsimp only); first | assumption | exact Ne.symm (by assumption) | omega)) (Upd.head (by (repeat (first | assumption | exact List.forall_mem_nil _ | (refine' List.forall_mem_cons.mpr ⟨?_, ?_⟩; (focus (refine neN ?_; (try dsimp only); first | assumption | exact Ne.symm (by assumption) | omega))))))))))) | exact Upd.tail (by (refine neN ?_; (try dsimp only); first | assumption | exact Ne.symm (by assumption) | omega)) (Upd.tail (by (refine neN ?_; (try dsimp only); first | assumption | exact Ne.symm (by assumption) | omega)) (Upd.tail (by (refine neN ?_; (try dsimp only); first | assumption | exact Ne.symm (by assumption) | omega)) (Upd.tail (by (refine neN ?_; (try dsimp only); first | assumption | exact Ne.symm (by assumption) | omega)) (Upd.tail (by (refine neN ?_; (try dsimp only); first | assumption | exact Ne.symm (by assumption) | omega)) (Upd.tail (by (refine neN ?_; (try dsimp only); first | assumption | exact Ne.symm (by assumption) | omega)) (Upd.head (by (repeat (first | assumption | exact List.forall_mem_nil _ | (refine' List.forall_mem_cons.mpr ⟨?_, ?_⟩; (focus (refine neN ?_; (try dsimp only); first | assumption | exact Ne.symm (by assumption) | omega)))))))))))) | exact Upd.tail (by (refine neN ?_; (try dsimp only); first | assumption | exact Ne.symm (by assumption) | omega)) (Upd.tail (by (refine neN ?_; (try dsimp only); first | assumption | exact Ne.symm (by assumption) | omega)) (Upd.tail (by (refine neN ?_; (try dsimp only); first | assumption | exact Ne.symm (by assumption) | omega)) (Upd.tail (by (refine neN ?_; (try dsimp only); first | assumption | exact Ne.symm (by assumption) | omega)) (Upd.tail (by (refine neN ?_; (try dsimp only); first | assumption | exact Ne.symm (by assumption) | omega)) (Upd.tail (by (refine neN ?_; (try dsimp only); first | assumption | exact Ne.symm (by assumption) | omega)) (Upd.tail (by (refine neN ?_; (try dsimp only); first | assumption | exact Ne.symm (by assumption) | omega)) (Upd.head (by (repeat (first | assumption | exact List.forall_mem_nil _ | (refine' List.forall_mem_cons.mpr ⟨?_, ?_⟩; (focus (refine neN ?_; (try dsimp only); first | assumption | exact Ne.symm (by assumption) | omega))))))))))))))); (case z => assumption); k_whole); intro h_wp F_wp N_wp; (try k_sweep))); try k_fold) | (walk1; try k_fold) | (dsimp only; walk1; try k_fold) | (leave1; (try dsimp only)))
      · rename Fr h₀ _ _ _ => kF
        rename News h₀ _ _ _ => kN
        exact hret _ _ _ _ kF (fun p hp => kN p (.tail _ hp)) ⟨_, i, (T0, T1, T2, T3), lv, log, en, rest', rfl, Ne.symm (Nat.ne_of_lt l1.1), allLt_ne l1.2, ⟨rfl, hsub, hr1, hr2, ⟨⟨m0, w0⟩, ⟨m1, w1⟩, ⟨m2, w2⟩, ⟨m3, w3⟩⟩, hlog, hrun⟩, .inr (by rw [hsec]; assumption)⟩
      · rename _ ∧ _ ∧ _ ∧ LCg.Off1 _ rest' => o9
        rename _ ∧ _ ∧ _ ∧ _ ∧ AllLt _ rest' => l8
        rename _ ∧ _ ∧ _ ∧ _ ∧ _ ∧ AllLt _ rest' => l9
        rename News _ _ _ _ => kN
        refine UnrEnd.intro (by assumption) kN _ perm6 (off6 hIl hIh (by omega) (by omega) (by omega) hIr) ⟨?_, ?_⟩
        · intro y h1 h2
          have q0 : y ≠ Str.ofString "second" := by rintro rfl; revert h2; decide
          have q1 : y ≠ Str.ofString "number" := by rintro rfl; revert h2; decide
          have q2 : y ≠ Str.ofString "place" := by rintro rfl; revert h2; decide
          have q3 : y ≠ Str.ofString "row" := by rintro rfl; revert h2; decide
          have q4 : y ≠ Str.ofString "quotient" := by rintro rfl; revert h2; decide
          have q5 : y ≠ Str.ofString "thing" := by rintro rfl; revert h2; decide
          have q6 : y ≠ Str.ofString "top" := by rintro rfl; revert h2; decide
          simp only [if_neg h1, if_neg q0, if_neg q1, if_neg q2, if_neg q3, if_neg q4, if_neg q5, if_neg q6, h2, Bool.false_eq_true, if_false]
        · exact JD_next T hsub hr1 hr2 ⟨m0, w0⟩ ⟨m1, w1⟩ ⟨m2, w2⟩ ⟨m3, w3⟩ hlog hrun hsec (by assumption) (by omega) (by omega) (by omega) (by omega) (by omega) (by omega)
  case done =>
    intro u news₁ h tk hJ F2 N2
    obtain ⟨S', lv, log, en, rest', hJ⟩ := hJ
    repeat' (first | (k_unfold; (try dsimp only)) | (k_end; wrow_close) | ((first | ((with_reducible show wpAny _ _ (call (Value.ref _) _) _ _ _); first | (k_here; (with_reducible show wpAny _ _ (call (Value.ref 21) _) _ _ _); k_dflt (refine' CallOk.use (heapreplaceU (U := ?q0) (m0 := ?q1) (m1 := ?q2) (m2 := ?q3) (m3 := ?q4) (mi := ?q5) (n01 := ?q6) (n02 := ?q7) (n03 := ?q8) (n12 := ?q9)) ?kB ?kF ?kX ?kN ?kT ?kk ?kd ?ku ?_; (case kN => k_asm); (case q0 => (first | exact Upd.head (by (repeat (first | assumption | exact List.forall_mem_nil _ | (refine' List.forall_mem_cons.mpr ⟨?_, ?_⟩; (focus (refine neN ?_; (try dsimp only); first | assumption | exact Ne.symm (by assumption) | omega)))))) | exact Upd.tail (by (refine neN ?_; (try dsimp only); first | assumption | exact Ne.symm (by assumption) | omega)) (Upd.head (by (repeat (first | assumption | exact List.forall_mem_nil _ | (refine' List.forall_mem_cons.mpr ⟨?_, ?_⟩; (focus (refine neN ?_; (try dsimp only); first | assumption | exact Ne.symm (by assumption) | omega))))))) | exact Upd.tail (by (refine neN ?_; (try dsimp only); first | assumption | exact Ne.symm (by assumption) | omega)) (Upd.tail (by (refine neN ?_; (try dsimp only); first | assumption | exact Ne.symm (by assumption) | omega)) (Upd.head (by (repeat (first | assumption | exact List.forall_mem_nil _ | (refine' List.forall_mem_cons.mpr ⟨?_, ?_⟩; (focus (refine neN ?_; (try dsimp only); first | assumption | exact Ne.symm (by assumption) | omega)))))))) | exact Upd.tail (by (refine neN ?_; (try dsimp only); first | assumption | exact Ne.symm (by assumption) | omega)) (Upd.tail (by (refine neN ?_; (try dsimp only); first | assumption | exact Ne.symm (by assumption) | omega)) (Upd.tail (by (refine neN ?_; (try dsimp only); first | assumption | exact Ne.symm (by assumption) | omega)) (Upd.head (by (repeat (first | assumption | exact List.forall_mem_nil _ | (refine' List.forall_mem_cons.mpr ⟨?_, ?_⟩; (focus (refine neN ?_; (try dsimp only); first | assumption | exact Ne.symm (by assumption) | omega))))))))) | exact Upd.tail (by (refine neN ?_; (try dsimp only); first | assumption | exact Ne.symm (by assumption) | omega)) (Upd.tail (by (refine neN ?_; (try dsimp only); first | assumption | exact Ne.symm (by assumption) | omega)) (Upd.tail (by (refine neN ?_; (try dsimp only); first | assumption | exact Ne.symm (by assumption) | omega)) (Upd.tail (by (refine neN ?_; (try dsimp only); first | assumption | exact Ne.symm (by assumption) | omega)) (Upd.head (by (repeat (first | assumption | exact List.forall_mem_nil _ | (refine' List.forall_mem_cons.mpr ⟨?_, ?_⟩; (focus (refine neN ?_; (try dsimp only); first | assumption | exact Ne.symm (by assumption) | omega)))))))))) | exact Upd.tail (by (refine neN ?_; (try dsimp only); first | assumption | exact Ne.symm (by assumption) | omega)) (Upd.tail (by (refine neN ?_; (try dsimp only); first | assumption | exact Ne.symm (by assumption) | omega)) (Upd.tail (by (refine neN ?_; (try dsimp only); first | assumption | exact Ne.symm (by assumption) | omega)) (Upd.tail (by (refine neN ?_; (try dsimp only); first | assumption | exact Ne.symm (by assumption) | omega)) (Upd.tail (by (refine neN ?_; (try dsimp only); first | assumption | exact Ne.symm (by assumption) | omega)) (Upd.head (by (repeat (first | assumption | exact List.forall_mem_nil _ | (refine' List.forall_mem_cons.mpr ⟨?_, ?_⟩; (focus (refine neN ?_; (try dsimp only); first | assumption | exact Ne.symm (by assumption) | omega))))))))))) | exact Upd.tail (by (refine neN ?_; (try dsimp only); first | assumption | exact Ne.symm (by assumption) | omega)) (Upd.tail (by (refine neN ?_; (try dsimp only); first | assumption | exact Ne.symm (by assumption) | omega)) (Upd.tail (by (refine neN ?_; (try dsimp only); first | assumption | exact Ne.symm (by assumption) | omega)) (Upd.tail (by (refine neN ?_; (try dsimp only); first | assumption | exact Ne.symm (by assumption) | omega)) (Upd.tail (by (refine neN ?_; (try dsimp only); first | assumption | exact Ne.symm (by assumption) | omega)) (Upd.tail (by (refine neN ?_; (try dsimp only); first | assumption | exact Ne.symm (by assumption) | omega)) (Upd.head (by (repeat (first | assumption | exact List.forall_mem_nil _ | (refine' List.forall_mem_cons.mpr ⟨?_, ?_⟩; (focus (refine neN ?_; (try dsimp only); first | assumption | exact Ne.symm (by assumption) | omega)))))))))))) | exact Upd.tail (by (refine neN ?_; (try dsimp only); first | assumption | exact Ne.symm (by assumption) | omega)) (Upd.tail (by (refine neN ?_; (try dsimp only); first | assumption | exact Ne.symm (by assumption) | omega)) (Upd.tail (by (refine neN ?_; (try dsimp only); first | assumption | exact Ne.symm (by assumption) | omega)) (Upd.tail (by (refine neN ?_; (try dsimp only); first | assumption | exact Ne.symm (by assumption) | omega)) (Upd.tail (by (refine neN ?_; (try dsimp only); first | assumption | exact Ne.symm (by assumption) | omega)) (Upd.tail (by (refine neN ?_; (try dsimp only); first | assumption | exact Ne.symm (by assumption) | omega)) (Upd.tail (by (refine neN ?_; (try dsimp only); first | assumption | exact Ne.symm (by assumption) | omega)) (Upd.head (by (repeat (first | assumption | exact List.forall_mem_nil _ | (refine' List.forall_mem_cons.mpr ⟨?_, ?_⟩; (focus (refine neN ?_; (try dsimp only); first | assumption | exact Ne.symm (by assumption) | omega))))))))))))))); (case q1 => k_mem); (case q2 => k_mem); (case q3 => k_mem); (case q4 => k_mem); (case q5 => k_mem); (case q6 => exact fun h_w => d01 h_w.2); (case q7 => exact fun h_w => d02 h_w.2); (case q8 => exact fun h_w => d03 h_w.2); (case q9 => exact fun h_w => d12 h_w.2); (case kB => k_asm); (case kF => k_asm); (case kX => k_asm); (case kT => k_asm); (case kk => exact rfl); (case kd => ktr_room); (case ku => ktr_units); k_whole); intro r9_w n9_w h9_w tk9_w F9_w N9_w P9_w; obtain ⟨P8_w, P9_w⟩ := P9_w; subst P8_w; subst P9_w; (try k_sweep); (try dsimp only)) | (k_here; (with_reducible show wpAny _ _ (call (Value.ref 97) _) _ _ _); k_dflt (refine' CallOk.use (less (hsub := ?q0) (hq := ?q1)) ?kB ?kF ?kX ?kN ?kT ?kk ?kd ?ku ?_; (case kN => k_asm); (case q0 => lcg_sub); (case q1 => exact bits_fdiv (by omega) (by omega) (by omega)); (case kB => k_asm); (case kF => k_asm); (case kX => k_asm); (case kT => k_asm); (case kk => exact rfl); (case kd => ktr_room); (case ku => ktr_units); k_whole); intro r9_w n9_w h9_w tk9_w F9_w N9_w P9_w; obtain ⟨new9_w, P8_w, P7_w, D9_w, k90_w, k91_w, k92_w, k93_w, e9_w, P6_w, P5_w⟩ := P9_w; subst P6_w; subst P5_w; subst P8_w; (simp only [List.cons_append, List.nil_append] at N9_w); (have o9_w : LCg.Off1 D9_w _ := offs P7_w); (simp only [LCg.Off1, and_true] at o9_w); clear P7_w; (try k_sweep); (try dsimp only)) | (k_here; (with_reducible show wpAny _ _ (call (Value.ref 63) _) _ _ _); k_dflt (refine' CallOk.use (c_mod (hb := ?q0)) ?kB ?kF ?kX ?kN ?kT ?kk ?kd ?ku ?_; (case kN => k_asm); (case q0 => omega); (case kB => k_asm); (case kF => k_asm); (case kX => k_asm); (case kT => k_asm); (case kk => exact rfl); (case kd => ktr_room); (case ku => ktr_units); k_whole); intro r9_w n9_w h9_w tk9_w F9_w N9_w P9_w; obtain ⟨P8_w, t9_w, P9_w⟩ := P9_w; subst P8_w; subst P9_w; (try k_sweep); (try dsimp only)) | (k_here; (with_reducible show wpAny _ _ (call (Value.ref 56) _) _ _ _); k_dflt (refine' CallOk.use (c_floordiv (hb0 := ?q0) (hb1 := ?q1)) ?kB ?kF ?kX ?kN ?kT ?kk ?kd ?ku ?_; (case kN => k_asm); (case q0 => omega); (case q1 => omega); (case kB => k_asm); (case kF => k_asm); (case kX => k_asm); (case kT => k_asm); (case kk => exact rfl); (case kd => ktr_room); (case ku => ktr_units); k_whole); intro r9_w n9_w h9_w tk9_w F9_w N9_w P9_w; obtain ⟨P8_w, t9_w, P9_w⟩ := P9_w; subst P8_w; subst P9_w; (try k_sweep); (try dsimp only)) | (k_here; (with_reducible show wpAny _ _ (call (Value.ref 49) _) _ _ _); k_dflt (refine' CallOk.use (c_gt (m1 := ?q0) (m2 := ?q1) (n12 := ?q2)) ?kB ?kF ?kX ?kN ?kT ?kk ?kd ?ku ?_; (case kN => k_asm); (case q0 => k_mem); (case q1 => k_mem); (case q2 => exact fun h_w => d12 h_w.2); (case kB => k_asm); (case kF => k_asm); (case kX => k_asm); (case kT => k_asm); (case kk => exact rfl); (case kd => ktr_room); (case ku => ktr_units); k_whole); intro r9_w n9_w h9_w tk9_w F9_w N9_w P9_w; obtain ⟨P8_w, P9_w⟩ := P9_w; subst P8_w; subst P9_w; (try k_sweep); (try dsimp only))) | (k_here; (with_reducible show wpAny _ _ (call (Value.builtin _) [Value.ref _, _]) _ _ _); k_dflt (refine' append_K ?k1 ?k2 ?k3 ?_ ?z; (case k1 => k_asm); (case k2 => k_asm); (case k3 => (first | exact Upd.head (by (repeat (first | assumption | exact List.forall_mem_nil _ | (refine' List.forall_mem_cons.mpr ⟨?_, ?_⟩; (focus (refine neN ?_; (try dsimp only); first | assumption | exact Ne.symm (by assumption) | omega)))))) | exact Upd.tail (by (refine neN ?_; (try dsimp only); first | assumption | exact Ne.symm (by assumption) | omega)) (Upd.head (by (repeat (first | assumption | exact List.forall_mem_nil _ | (refine' List.forall_mem_cons.mpr ⟨?_, ?_⟩; (focus (refine neN ?_; (try dsimp only); first | assumption | exact Ne.symm (by assumption) | omega))))))) | exact Upd.tail (by (refine neN ?_; (try dsimp only); first | assumption | exact Ne.symm (by assumption) | omega)) (Upd.tail (by (refine neN ?_; (try dsimp only); first | assumption | exact Ne.symm (by assumption) | omega)) (Upd.head (by (repeat (first | assumption | exact List.forall_mem_nil _ | (refine' List.forall_mem_cons.mpr ⟨?_, ?_⟩; (focus (refine neN ?_; (try dsimp only); first | assumption | exact Ne.symm (by assumption) | omega)))))))) | exact Upd.tail (by (refine neN ?_; (try dsimp only); first | assumption | exact Ne.symm (by assumption) | omega)) (Upd.tail (by (refine neN ?_; (try dsimp only); first | assumption | exact Ne.symm (by assumption) | omega)) (Upd.tail (by (refine neN ?_; (try dsimp only); first | assumption | exact Ne.symm (by assumption) | omega)) (Upd.head (by (repeat (first | assumption | exact List.forall_mem_nil _ | (refine' List.forall_mem_cons.mpr ⟨?_, ?_⟩; (focus (refine neN ?_; (try dsimp only); first | assumption | exact Ne.symm (by assumption) | omega))))))))) | exact Upd.tail (by (refine neN ?_; (try dsimp only); first | assumption | exact Ne.symm (by assumption) | omega)) (Upd.tail (by (refine neN ?_; (try dsimp only); first | assumption | exact Ne.symm (by assumption) | omega)) (Upd.tail (by (refine neN ?_; (try dsimp only); first | assumption | exact Ne.symm (by assumption) | omega)) (Upd.tail (by (refine neN ?_; (try dsimp only); first | assumption | exact Ne.symm (by assumption) | omega)) (Upd.head (by (repeat (first | assumption | exact List.forall_mem_nil _ | (refine' List.forall_mem_cons.mpr ⟨?_, ?_⟩; (focus (refine neN ?_; (try dsimp only); first | assumption | exact Ne.symm (by assumption) | omega)))))))))) | exact Upd.tail (by (refine neN ?_; (try dsimp only); first | assumption | exact Ne.symm (by assumption) | omega)) (Upd.tail (by (refine neN ?_; (try dsimp only); first | assumption | exact Ne.symm (by assumption) | omega)) (Upd.tail (by (refine neN ?_; (try dsimp only); first | assumption | exact Ne.symm (by assumption) | omega)) (Upd.tail (by (refine neN ?_; (try dsimp only); first | assumption | exact Ne.symm (by assumption) | omega)) (Upd.tail (by (refine neN ?_; (try dsimp only); first | assumption | exact Ne.symm (by assumption) | omega)) (Upd.head (by (repeat (first | assumption | exact List.forall_mem_nil _ | (refine' List.forall_mem_cons.mpr ⟨?_, ?_⟩; (focus (refine neN ?_; (try dsimp only); first | assumption | exact Ne.symm (by assumption) | omega))))))))))) | exact Upd.tail (by (refine neN ?_; (try dsimp only); first | assumption | exact Ne.symm (by assumption) | omega)) (Upd.tail (by (refine neN ?_; (try dsimp only); first | assumption | exact Ne.symm (by assumption) | omega)) (Upd.tail (by (refine neN ?_; (try dsimp only); first | assumption | exact Ne.symm (by assumption) | omega)) (Upd.tail (by (refine neN ?_; (try dsimp only); first | assumption | exact Ne.symm (by assumption) | omega)) (Upd.tail (by (refine neN ?_; (try dsimp only); first | assumption | exact Ne.symm (by assumption) | omega)) (Upd.tail (by (refine neN ?_; (try dsimp only); first | assumption | exact Ne.symm (by assumption) | omega)) (Upd.head (by (repeat (first | assumption | exact List.forall_mem_nil _ | (refine' List.forall_mem_cons.mpr ⟨?_, ?_⟩; (focus (refine neN ?_; (try dsimp only); first | assumption | exact Ne.symm (by assumption) | omega)))))))))))) | exact Upd.tail (by (refine neN ?_; (try dsimp only); first | assumption | exact Ne.symm (by assumption) | omega)) (Upd.tail (by (refine neN ?_; (try dsimp only); first | assumption | exact Ne.symm (by assumption) | omega)) (Upd.tail (by (refine neN ?_; (try dsimp only); first | assumption | exact Ne.symm (by assumption) | omega)) (Upd.tail (by (refine neN ?_; (try dsimp only); first | assumption | exact Ne.symm (by assumption) | omega)) (Upd.tail (by (refine neN ?_; (try dsimp only); first | assumption | exact Ne.symm (by assumption) | omega)) (Upd.tail (by (refine neN ?_; (try dsimp only); first | assumption | exact Ne.symm (by assumption) | omega)) (Upd.tail (by (refine neN ?_; (try dsimp only); first | assumption | exact Ne.symm (by assumption) | omega)) (Upd.head (by (repeat (first | assumption | exact List.forall_mem_nil _ | (refine' List.forall_mem_cons.mpr ⟨?_, ?_⟩; (focus (refine neN ?_; (try dsimp only); first | assumption | exact Ne.symm (by assumption) | omega))))))))))))))); (case z => assumption); k_whole); intro h_wp F_wp N_wp; (try k_sweep)))) | (walk1) | (dsimp only; walk1) | (leave1; (try dsimp only)))
    rename Fr h₀ _ _ _ => kF
    rename News h₀ _ _ _ => kN
    exact hret _ _ _ _ kF kN ⟨_, 60, S', lv, log, en, rest', rfl, Ne.symm (Nat.ne_of_lt l1.1), allLt_ne l1.2, hJ, .inl rfl⟩
end
end Mine

/-! # L9 -/
namespace Mine
theorem fresh_L9 : True := by
  w_top off
  exact True.intro

/-- before the turn i of _law_plain -/
def JP' (X₀ : Ent) (lg lf cl nb : Addr) (oc on : Obj) (ec : Nat) (i : Nat) (X : Ent) (k0 k1 k2 k3 : Tok) (lv : List Value) (log : List Ent) (ln : Nat) (rest news : List (Addr × Obj)) : Prop :=
  news = (lg, listOf lv.toArray ln) :: (lf, listOf #[.int X.1 k0, .int X.2.1 k1, .int X.2.2.1 k2, .int X.2.2.2 k3] ec) :: (cl, oc) :: (nb, on) :: rest ∧ (∀ p ∈ rest, p.1 ≠ lg) ∧ (∀ p ∈ rest, p.1 ≠ lf) ∧ (∀ p ∈ rest, p.1 ≠ nb) ∧ LogIn rest lv log ∧ PRun X₀ i X log
def JP (X₀ : Ent) (lg lf cl nb : Addr) (oc on : Obj) (ec : Nat) (i : Nat) (news : List (Addr × Obj)) : Prop :=
  ∃ X k0 k1 k2 k3 lv log ln rest, JP' X₀ lg lf cl nb oc on ec i X k0 k1 k2 k3 lv log ln rest news

theorem set_put (X : Ent) (k0 k1 k2 k3 tk : Tok) (v : Int) (d : Nat) (hd : d < 4) : ∃ j0 j1 j2 j3, ([.int X.1 k0, .int X.2.1 k1, .int X.2.2.1 k2, .int X.2.2.2 k3] : List Value).set ((d : Int).toNat) (.int v tk) =
    [.int (put4 X d v).1 j0, .int (put4 X d v).2.1 j1, .int (put4 X d v).2.2.1 j2, .int (put4 X d v).2.2.2 j3] := by
  match d, hd with
  | 0, _ => exact ⟨tk, k1, k2, k3, rfl⟩
  | 1, _ => exact ⟨k0, tk, k2, k3, rfl⟩
  | 2, _ => exact ⟨k0, k1, tk, k3, rfl⟩
  | 3, _ => exact ⟨k0, k1, k2, tk, rfl⟩

theorem JP_next {X₀ X : Ent} {lg lf cl nb T : Addr} {oc on : Obj} {ec i ln z a b c d : Nat} {k0 k1 k2 k3 t1 t2 t3 t4 tk : Tok} {lv : List Value} {log : List Ent} {rest : List (Addr × Obj)}
    (hr1 : ∀ p ∈ rest, p.1 ≠ lg) (hr2 : ∀ p ∈ rest, p.1 ≠ lf) (hr3 : ∀ p ∈ rest, p.1 ≠ nb) (hlog : LogIn rest lv log) (hrun : PRun X₀ i X log)
    (ho : ord4 (at4 X) (fun i => (i : Int)) = [a, b, c, d]) (c4 : c < 4) (d4 : d < 4) (cd : c ≠ d) (hne : at4 X c ≠ 0) (h1 : @Ne Nat T lg) (h2 : @Ne Nat T lf) (h3 : @Ne Nat T nb) :
    JP X₀ lg lf cl nb oc on ec (i + 1) ((lg, listOf (lv.toArray.push (.ref T)) (ln + 1)) :: (lf, listOf (([.int X.1 k0, .int X.2.1 k1, .int X.2.2.1 k2, .int X.2.2.2 k3] : List Value).set ((d : Int).toNat) (.int (at4 X d - (at4 X d).fdiv (at4 X c) * at4 X c) tk)).toArray ec) :: (cl, oc) :: (nb, on) ::
      (T, tupObj #[.int (at4 X d) t1, .int (d : Int) t2, .int (c : Int) t3, .int ((at4 X d).fdiv (at4 X c)) t4] z) :: rest) := by
  obtain ⟨j0, j1, j2, j3, hs⟩ := set_put X k0 k1 k2 k3 tk (at4 X d - (at4 X d).fdiv (at4 X c) * at4 X c) d d4
  have up : ∀ q ∈ rest, q ∈ (T, tupObj #[.int (at4 X d) t1, .int (d : Int) t2, .int (c : Int) t3, .int ((at4 X d).fdiv (at4 X c)) t4] z) :: rest := fun q hq => .tail _ hq
  refine ⟨put4 X d (at4 X d - (at4 X d).fdiv (at4 X c) * at4 X c), j0, j1, j2, j3, lv ++ [.ref T], log ++ [(at4 X d, (d : Int), (c : Int), (at4 X d).fdiv (at4 X c))], ln + 1, (T, tupObj #[.int (at4 X d) t1, .int (d : Int) t2, .int (c : Int) t3, .int ((at4 X d).fdiv (at4 X c)) t4] z) :: rest, ?_, ?_, ?_, ?_, ?_, ?_⟩
  · rw [hs, List.push_toArray]
  · intro q hq
    rcases List.mem_cons.mp hq with rfl | hq
    · exact h1
    · exact hr1 q hq
  · intro q hq
    rcases List.mem_cons.mp hq with rfl | hq
    · exact h2
    · exact hr2 q hq
  · intro q hq
    rcases List.mem_cons.mp hq with rfl | hq
    · exact h3
    · exact hr3 q hq
  · exact (hlog.mono up).snoc ⟨T, t1, t2, t3, t4, z, rfl, .head _⟩
  · exact .succ hrun ho c4 d4 cd hne

theorem permP {α : Type} {t a b t3 t2 t1 t0 i l f c n : α} {rest : List α} : ∀ p ∈ i :: l :: f :: c :: n :: t :: rest, p ∈ t :: a :: b :: t3 :: t2 :: t1 :: t0 :: i :: l :: f :: c :: n :: rest := by
  intro p hp
  simp only [List.mem_cons] at hp ⊢
  rcases hp with e | e | e | e | e | e | e <;> simp [e]
theorem offP {I l f c n t : Addr} {o1 o2 o3 o4 o5 : Obj} {rest : List (Addr × Obj)} (h1 : @Ne Nat l I) (h2 : @Ne Nat f I) (h3 : @Ne Nat c I) (h4 : @Ne Nat n I) (h5 : @Ne Nat t I) (hr : ∀ p ∈ rest, p.1 ≠ I) :
    ∀ p ∈ (l, o1) :: (f, o2) :: (c, o3) :: (n, o4) :: (t, o5) :: rest, p.1 ≠ I := by
  intro p hp
  simp only [List.mem_cons] at hp
  rcases hp with e | e | e | e | e | e <;> first | exact hr p e | (subst e; assumption)
theorem subP {α : Type} {a b t3 t2 t1 t0 i l f c n : α} {rest : List α} : ∀ p ∈ l :: rest, p ∈ a :: b :: t3 :: t2 :: t1 :: t0 :: i :: l :: f :: c :: n :: rest := by
  intro p hp
  simp only [List.mem_cons] at hp ⊢
  rcases hp with e | e <;> simp [e]
theorem subD {α : Type} {l f c n : α} {rest : List α} : ∀ p ∈ l :: rest, p ∈ l :: f :: c :: n :: rest := by
  intro p hp
  simp only [List.mem_cons] at hp ⊢
  rcases hp with e | e <;> simp [e]
section
local macro_rules | `(tactic| k_all) => `(tactic| assumption)
local macro_rules | `(tactic| k_units) => `(tactic| ktr_units)
local macro_rules | `(tactic| k_mem) => `(tactic| (repeat (first | assumption | exact List.Mem.head _ | refine List.Mem.tail _ ?_)))
local macro_rules | `(tactic| walk_at "CompSrc") => `(tactic| (k_here; k_dflt (refine srcR (by rfl) (by k_asm) (by k_asm) (by assumption) ?_; intro g'; lcg_lit)))

theorem plain {w : World} {nb : Addr} {n0 n1 n2 n3 : Int} {k0 k1 k2 k3 : Tok} {en : Nat} {news : List (Addr × Obj)} (hO : In4 (n0, n1, n2, n3))
    (hsub : ∀ p ∈ [(nb, listOf #[.int n0 k0, .int n1 k1, .int n2 k2, .int n3 k3] en)], p ∈ news) :
    MakeOk w 20 116 [.ref nb] news (fun r new => ∃ lg lv ln log i X rest, r = .ref lg ∧ new = (lg, listOf lv.toArray ln) :: rest ∧ (∀ p ∈ rest, p.1 ≠ lg) ∧ LogIn rest lv log ∧ PRun (n0, n1, n2, n3) i X log ∧
      (i = 60 ∨ ∃ a b c d, ord4 (at4 X) (fun i => (i : Int)) = [a, b, c, d] ∧ at4 X c = 0)) := by
  have hK : (hd.heap_39, PySem.Challenge.rw_mr0075_01) = (hd.heap_39, PySem.Challenge.rw_mr0075_01) := by k_fill; rfl
  clear hK
  intro dp un gd cn cs a ccd cl outer A₀ base h₀ L m s p loose mean mg mb Q E B F X N T hk hd hu hret
  refine wpAny_call ?_
  k_dflt (refine' code_defCF ?k1 ?k2 ?k3 ?k4 hsub ?k5 ?kA ?kF ?kK ?k6 ?k7 ?k8 ?k9 ?kB ?kD ?_ ?c2 ?c3 ?c4; (case kA => exact rfl); (case kF => exact rfl); (case kK => assumption); (case k1 => k_asm); (case k2 => k_asm); (case k3 => k_asm); (case k4 => k_asm); (case k5 => k_asm); (case k6 => k_is); (case k7 => k_is); (case k8 => ktr_room); (case k9 => exact BindsTo.of_eq rfl); (case kB => exact rfl); (case kD => decide +kernel); (case c2 => exact rfl); (case c3 => exact rfl); (case c4 => exact rfl); k_whole)
  intro g' L' h' tk' cells' FG' F' N' Y' B' X' T' l1 S'
  (try k_lt l1); k_cells Y'; (try simp only [List.cons_append, List.nil_append] at N'); (try dsimp only); (try k_fold)
  repeat' (first | (k_unfold; (try dsimp only [List.nil_append, List.cons_append])) | (k_end; wrow_close) | ((fail_if_success (with_reducible show wpAny _ _ (pyIter (Value.ref _)) _ _ _)); first | ((first | ((with_reducible show wpAny _ _ (binaryOp Operator.Mult (Value.int _ _) (Value.int _ _)) _ _ _); (refine PyProof.Rows.mul_int ?_ (IntMulOk.of_left (bits_fdiv (by omega) (by omega) (by omega))))) | ((with_reducible show wpAny _ _ (binaryOp Operator.FloorDiv (Value.int _ _) (Value.int _ _)) _ _ _); (refine PyProof.Rows.floordiv_int (by omega) ?_)) | ((with_reducible show wpAny _ _ (setItem (Value.ref _) (Value.int _ _) _) _ _ _); (k_here; k_dflt (refine' setL ?F ?N ?U ?a ?b ?c ?_; (case F => k_asm); (case N => k_asm); (case U => (first | exact Upd.head (by (repeat (first | assumption | exact List.forall_mem_nil _ | (refine' List.forall_mem_cons.mpr ⟨?_, ?_⟩; (focus (refine neN ?_; (try dsimp only); first | assumption | exact Ne.symm (by assumption) | omega)))))) | exact Upd.tail (by (refine neN ?_; (try dsimp only); first | assumption | exact Ne.symm (by assumption) | omega)) (Upd.head (by (repeat (first | assumption | exact List.forall_mem_nil _ | (refine' List.forall_mem_cons.mpr ⟨?_, ?_⟩; (focus (refine neN ?_; (try dsimp only); first | assumption | exact Ne.symm (by assumption) | omega))))))) | exact Upd.tail (by (refine neN ?_; (try dsimp only); first | assumption | exact Ne.symm (by assumption) | omega)) (Upd.tail (by (refine neN ?_; (try dsimp only); first | assumption | exact Ne.symm (by assumption) | omega)) (Upd.head (by (repeat (first | assumption | exact List.forall_mem_nil _ | (refine' List.forall_mem_cons.mpr ⟨?_, ?_⟩; (focus (refine neN ?_; (try dsimp only); first | assumption | exact Ne.symm (by assumption) | omega)))))))) | exact Upd.tail (by (refine neN ?_; (try dsimp only); first | assumption | exact Ne.symm (by assumption) | omega)) (Upd.tail (by (refine neN ?_; (try dsimp only); first | assumption | exact Ne.symm (by assumption) | omega)) (Upd.tail (by (refine neN ?_; (try dsimp only); first | assumption | exact Ne.symm (by assumption) | omega)) (Upd.head (by (repeat (first | assumption | exact List.forall_mem_nil _ | (refine' List.forall_mem_cons.mpr ⟨?_, ?_⟩; (focus (refine neN ?_; (try dsimp only); first | assumption | exact Ne.symm (by assumption) | omega))))))))) | exact Upd.tail (by (refine neN ?_; (try dsimp only); first | assumption | exact Ne.symm (by assumption) | omega)) (Upd.tail (by (refine neN ?_; (try dsimp only); first | assumption | exact Ne.symm (by assumption) | omega)) (Upd.tail (by (refine neN ?_; (try dsimp only); first | assumption | exact Ne.symm (by assumption) | omega)) (Upd.tail (by (refine neN ?_; (try dsimp only); first | assumption | exact Ne.symm (by assumption) | omega)) (Upd.head (by (repeat (first | assumption | exact List.forall_mem_nil _ | (refine' List.forall_mem_cons.mpr ⟨?_, ?_⟩; (focus (refine neN ?_; (try dsimp only); first | assumption | exact Ne.symm (by assumption) | omega)))))))))) | exact Upd.tail (by (refine neN ?_; (try dsimp only); first | assumption | exact Ne.symm (by assumption) | omega)) (Upd.tail (by (refine neN ?_; (try dsimp only); first | assumption | exact Ne.symm (by assumption) | omega)) (Upd.tail (by (refine neN ?_; (try dsimp only); first | assumption | exact Ne.symm (by assumption) | omega)) (Upd.tail (by (refine neN ?_; (try dsimp only); first | assumption | exact Ne.symm (by assumption) | omega)) (Upd.tail (by (refine neN ?_; (try dsimp only); first | assumption | exact Ne.symm (by assumption) | omega)) (Upd.head (by (repeat (first | assumption | exact List.forall_mem_nil _ | (refine' List.forall_mem_cons.mpr ⟨?_, ?_⟩; (focus (refine neN ?_; (try dsimp only); first | assumption | exact Ne.symm (by assumption) | omega))))))))))) | exact Upd.tail (by (refine neN ?_; (try dsimp only); first | assumption | exact Ne.symm (by assumption) | omega)) (Upd.tail (by (refine neN ?_; (try dsimp only); first | assumption | exact Ne.symm (by assumption) | omega)) (Upd.tail (by (refine neN ?_; (try dsimp only); first | assumption | exact Ne.symm (by assumption) | omega)) (Upd.tail (by (refine neN ?_; (try dsimp only); first | assumption | exact Ne.symm (by assumption) | omega)) (Upd.tail (by (refine neN ?_; (try dsimp only); first | assumption | exact Ne.symm (by assumption) | omega)) (Upd.tail (by (refine neN ?_; (try dsimp only); first | assumption | exact Ne.symm (by assumption) | omega)) (Upd.head (by (repeat (first | assumption | exact List.forall_mem_nil _ | (refine' List.forall_mem_cons.mpr ⟨?_, ?_⟩; (focus (refine neN ?_; (try dsimp only); first | assumption | exact Ne.symm (by assumption) | omega)))))))))))) | exact Upd.tail (by (refine neN ?_; (try dsimp only); first | assumption | exact Ne.symm (by assumption) | omega)) (Upd.tail (by (refine neN ?_; (try dsimp only); first | assumption | exact Ne.symm (by assumption) | omega)) (Upd.tail (by (refine neN ?_; (try dsimp only); first | assumption | exact Ne.symm (by assumption) | omega)) (Upd.tail (by (refine neN ?_; (try dsimp only); first | assumption | exact Ne.symm (by assumption) | omega)) (Upd.tail (by (refine neN ?_; (try dsimp only); first | assumption | exact Ne.symm (by assumption) | omega)) (Upd.tail (by (refine neN ?_; (try dsimp only); first | assumption | exact Ne.symm (by assumption) | omega)) (Upd.tail (by (refine neN ?_; (try dsimp only); first | assumption | exact Ne.symm (by assumption) | omega)) (Upd.head (by (repeat (first | assumption | exact List.forall_mem_nil _ | (refine' List.forall_mem_cons.mpr ⟨?_, ?_⟩; (focus (refine neN ?_; (try dsimp only); first | assumption | exact Ne.symm (by assumption) | omega))))))))))))) | exact Upd.tail (by (refine neN ?_; (try dsimp only); first | assumption | exact Ne.symm (by assumption) | omega)) (Upd.tail (by (refine neN ?_; (try dsimp only); first | assumption | exact Ne.symm (by assumption) | omega)) (Upd.tail (by (refine neN ?_; (try dsimp only); first | assumption | exact Ne.symm (by assumption) | omega)) (Upd.tail (by (refine neN ?_; (try dsimp only); first | assumption | exact Ne.symm (by assumption) | omega)) (Upd.tail (by (refine neN ?_; (try dsimp only); first | assumption | exact Ne.symm (by assumption) | omega)) (Upd.tail (by (refine neN ?_; (try dsimp only); first | assumption | exact Ne.symm (by assumption) | omega)) (Upd.tail (by (refine neN ?_; (try dsimp only); first | assumption | exact Ne.symm (by assumption) | omega)) (Upd.tail (by (refine neN ?_; (try dsimp only); first | assumption | exact Ne.symm (by assumption) | omega)) (Upd.head (by (repeat (first | assumption | exact List.forall_mem_nil _ | (refine' List.forall_mem_cons.mpr ⟨?_, ?_⟩; (focus (refine neN ?_; (try dsimp only); first | assumption | exact Ne.symm (by assumption) | omega)))))))))))))) | exact Upd.tail (by (refine neN ?_; (try dsimp only); first | assumption | exact Ne.symm (by assumption) | omega)) (Upd.tail (by (refine neN ?_; (try dsimp only); first | assumption | exact Ne.symm (by assumption) | omega)) (Upd.tail (by (refine neN ?_; (try dsimp only); first | assumption | exact Ne.symm (by assumption) | omega)) (Upd.tail (by (refine neN ?_; (try dsimp only); first | assumption | exact Ne.symm (by assumption) | omega)) (Upd.tail (by (refine neN ?_; (try dsimp only); first | assumption | exact Ne.symm (by assumption) | omega)) (Upd.tail (by (refine neN ?_; (try dsimp only); first | assumption | exact Ne.symm (by assumption) | omega)) (Upd.tail (by (refine neN ?_; (try dsimp only); first | assumption | exact Ne.symm (by assumption) | omega)) (Upd.tail (by (refine neN ?_; (try dsimp only); first | assumption | exact Ne.symm (by assumption) | omega)) (Upd.tail (by (refine neN ?_; (try dsimp only); first | assumption | exact Ne.symm (by assumption) | omega)) (Upd.head (by (repeat (first | assumption | exact List.forall_mem_nil _ | (refine' List.forall_mem_cons.mpr ⟨?_, ?_⟩; (focus (refine neN ?_; (try dsimp only); first | assumption | exact Ne.symm (by assumption) | omega))))))))))))))) | exact Upd.tail (by (refine neN ?_; (try dsimp only); first | assumption | exact Ne.symm (by assumption) | omega)) (Upd.tail (by (refine neN ?_; (try dsimp only); first | assumption | exact Ne.symm (by assumption) | omega)) (Upd.tail (by (refine neN ?_; (try dsimp only); first | assumption | exact Ne.symm (by assumption) | omega)) (Upd.tail (by (refine neN ?_; (try dsimp only); first | assumption | exact Ne.symm (by assumption) | omega)) (Upd.tail (by (refine neN ?_; (try dsimp only); first | assumption | exact Ne.symm (by assumption) | omega)) (Upd.tail (by (refine neN ?_; (try dsimp only); first | assumption | exact Ne.symm (by assumption) | omega)) (Upd.tail (by (refine neN ?_; (try dsimp only); first | assumption | exact Ne.symm (by assumption) | omega)) (Upd.tail (by (refine neN ?_; (try dsimp only); first | assumption | exact Ne.symm (by assumption) | omega)) (Upd.tail (by (refine neN ?_; (try dsimp only); first | assumption | exact Ne.symm (by assumption) | omega)) (Upd.tail (by (refine neN ?_; (try dsimp only); first | assumption | exact Ne.symm (by assumption) | omega)) (Upd.head (by (repeat (first | assumption | exact List.forall_mem_nil _ | (refine' List.forall_mem_cons.mpr ⟨?_, ?_⟩; (focus (refine neN ?_; (try dsimp only); first | assumption | exact Ne.symm (by assumption) | omega)))))))))))))))))); (case a => omega); (case b => (simp only [List.length_cons, List.length_nil]; omega)); (case c => omega); k_whole); intro h_wp F_wp N_wp; (try k_sweep))) | ((with_reducible show wpAny _ _ (call (Value.builtin "sorted") _) _ _ _); (k_here; k_dflt (refine' sortedP ?F ?N ?l ?m0 ?m1 ?m2 ?m3 ?y ?b ?_; (case F => k_asm); (case N => k_asm); (case l => k_mem); (case m0 => k_mem); (case m1 => k_mem); (case m2 => k_mem); (case m3 => k_mem); (case y => exact ⟨rfl, rfl, rfl, rfl⟩); (case b => assumption); k_whole); intro D_wp h_wp z_wp a_wp b_wp c_wp d_wp bc_wp bd_wp ho_wp c4_wp d4_wp cd_wp p_wp q_wp tp_wp tq_wp up_wp uq_wp ep_wp eq_wp mp_wp mq_wp v1_wp v2_wp F_wp N_wp l1_w; (try k_lt l1_w); (try k_sweep))) | ((with_reducible show LCg.CompEnd _ _ _ _ _ _ _ _ _ _ _ _ _ _); (refine' compEnd1 ?F ?N ?T ?O ?S ?_; (case N => assumption); (case F => assumption); (case T => omega); (case O => assumption); (case S => trivial))) | ((with_reducible show LCg.CompRest _ _ _ _ _ _ _ _ _ _ _ _ _ _ _ _ _ _ _); (with_unfolding_all first | (refine LCg.CompRest.succ ?_; intro v_wp I_wp oI_wp C_wp oC_wp D_wp m_wp h_wp tk_wp E_wp hv_wp hC_wp hx_wp F_wp N_wp off_wp ne_wp; clear ne_wp; (first | lcg_open hv_wp | (obtain ⟨t9_wp, hv9_wp⟩ := hv_wp; subst hv9_wp))) | refine LCg.CompRest.zero ?_)) | (k_here; (with_reducible show wpAny _ _ (call (Value.builtin _) [Value.ref _, _]) _ _ _); k_dflt (refine' append_K ?k1 ?k2 ?k3 ?_ ?z; (case k1 => k_asm); (case k2 => k_asm); (case k3 => (first | exact Upd.head (by (repeat (first | assumption | exact List.forall_mem_nil _ | (refine' List.forall_mem_cons.mpr ⟨?_, ?_⟩; (focus (refine neN ?_; (try dsimp only); first | assumption | exact Ne.symm (by assumption) | omega)))))) | exact Upd.tail (by (refine neN ?_; (try dsimp only); first | assumption | exact Ne.symm (by assumption) | omega)) (Upd.head (by (repeat (first | assumption | exact List.forall_mem_nil _ | (refine' List.forall_mem_cons.mpr ⟨?_, ?_⟩; (focus (refine neN ?_; (try dsimp only); first | assumption | exact Ne.symm (by assumption) | omega))))))) | exact Upd.tail (by (refine neN ?_; (try dsimp only); first | assumption | exact Ne.symm (by assumption) | omega)) (Upd.tail (by (refine neN ?_; (try dsimp only); first | assumption | exact Ne.symm (by assumption) | omega)) (Upd.head (by (repeat (first | assumption | exact List.forall_mem_nil _ | (refine' List.forall_mem_cons.mpr ⟨?_, ?_⟩; (focus (refine neN ?_; (try dsimp only); first | assumption | exact Ne.symm (by assumption) | omega)))))))) | exact Upd.tail (by (refine neN ?_; (try dsimp only); first | assumption | exact Ne.symm (by assumption) | omega)) (Upd.tail (by (refine neN ?_; (try dsimp only); first | assumption | exact Ne.symm (by assumption) | omega)) (Upd.tail (by (refine neN ?_; (try dsimp only); first | assumption | exact Ne.symm (by assumption) | omega)) (Upd.head (by (repeat (first | assumption | exact List.forall_mem_nil _ | (refine' List.forall_mem_cons.mpr ⟨?_, ?_⟩; (focus (refine neN ?_; (try dsimp only); first | assumption | exact Ne.symm (by assumption) | omega))))))))) | exact Upd.tail (by (refine neN ?_; (try dsimp only); first | assumption | exact Ne.symm (by assumption) | omega)) (Upd.tail (by (refine neN ?_; (try dsimp only); first | assumption | exact Ne.symm (by assumption) | omega)) (Upd.tail (by (refine neN ?_; (try dsimp only); first | assumption | exact Ne.symm (by assumption) | omega)) (Upd.tail (by (refine neN ?_; (try dsimp only); first | assumption | exact Ne.symm (by assumption) | omega)) (Upd.head (by (repeat (first | assumption | exact List.forall_mem_nil _ | (refine' List.forall_mem_cons.mpr ⟨?_, ?_⟩; (focus (refine neN ?_; (try dsimp only); first | assumption | exact Ne.symm (by assumption) | omega)))))))))) | exact Upd.tail (by (refine neN ?_; (try dsimp only); first | assumption | exact Ne.symm (by assumption) | omega)) (Upd.tail (by (refine neN ?_; (try dsimp only); first | assumption | exact Ne.symm (by assumption) | omega)) (Upd.tail (by (refine neN ?_; (try dsimp only); first | assumption | exact Ne.symm (by assumption) | omega)) (Upd.tail (by (refine neN ?_; (try dsimp only); first | assumption | exact Ne.symm (by assumption) | omega)) (Upd.tail (by (refine neN ?_; (try dsimp only); first | assumption | exact Ne.symm (by assumption) | omega)) (Upd.head (by (repeat (first | assumption | exact List.forall_mem_nil _ | (refine' List.forall_mem_cons.mpr ⟨?_, ?_⟩; (focus (refine neN ?_; (try dsimp only); first | assumption | exact Ne.symm (by assumption) | omega))))))))))) | exact Upd.tail (by (refine neN ?_; (try dsimp only); first | assumption | exact Ne.symm (by assumption) | omega)) (Upd.tail (by (refine neN ?_; (try dsimp only); first | assumption | exact Ne.symm (by assumption) | omega)) (Upd.tail (by (refine neN ?_; (try dsimp only); first | assumption | exact Ne.symm (by assumption) | omega)) (Upd.tail (by (refine neN ?_; (try dsimp only); first | assumption | exact Ne.symm (by assumption) | omega)) (Upd.tail (by (refine neN ?_; (try dsimp only); first | assumption | exact Ne.symm (by assumption) | omega)) (Upd.tail (by (refine neN ?_; (try dsimp only); first | assumption | exact Ne.symm (by assumption) | omega)) (Upd.head (by (repeat (first | assumption | exact List.forall_mem_nil _ | (refine' List.forall_mem_cons.mpr ⟨?_, ?_⟩; (focus (refine neN ?_; (try dsimp only); first | assumption | exact Ne.symm (by assumption) | omega)))))))))))) | exact Upd.tail (by (refine neN ?_; (try dsimp only); first | assumption | exact Ne.symm (by assumption) | omega)) (Upd.tail (by (refine neN ?_; (try dsimp only); first | assumption | exact Ne.symm (by assumption) | omega)) (Upd.tail (by (refine neN ?_; (try dsimp only); first | assumption | exact Ne.symm (by assumption) | omega)) (Upd.tail (by (refine neN ?_; (try dsimp only); first | assumption | exact Ne.symm (by assumption) | omega)) (Upd.tail (by (refine neN ?_; (try dsimp only); first | assumption | exact Ne.symm (by assumption) | omega)) (Upd.tail (by (refine neN ?_; (try dsimp only); first | assumption | exact Ne.symm (by assumption) | omega)) (Upd.tail (by (refine neN ?_; (try dsimp only); first | assumption | exact Ne.symm (by assumption) | omega)) (Upd.head (by (repeat (first | assumption | exact List.forall_mem_nil _ | (refine' List.forall_mem_cons.mpr ⟨?_, ?_⟩; (focus (refine neN ?_; (try dsimp only); first | assumption | exact Ne.symm (by assumption) | omega))))))))))))) | exact Upd.tail (by (refine neN ?_; (try dsimp only); first | assumption | exact Ne.symm (by assumption) | omega)) (Upd.tail (by (refine neN ?_; (try dsimp only); first | assumption | exact Ne.symm (by assumption) | omega)) (Upd.tail (by (refine neN ?_; (try dsimp only); first | assumption | exact Ne.symm (by assumption) | omega)) (Upd.tail (by (refine neN ?_; (try dsimp only); first | assumption | exact Ne.symm (by assumption) | omega)) (Upd.tail (by (refine neN ?_; (try dsimp only); first | assumption | exact Ne.symm (by assumption) | omega)) (Upd.tail (by (refine neN ?_; (try dsimp only); first | assumption | exact Ne.symm (by assumption) | omega)) (Upd.tail (by (refine neN ?_; (try dsimp only); first | assumption | exact Ne.symm (by assumption) | omega)) (Upd.tail (by (refine neN ?_; (try dsimp only); first | assumption | exact Ne.symm (by assumption) | omega)) (Upd.head (by (repeat (first | assumption | exact List.forall_mem_nil _ | (refine' List.forall_mem_cons.mpr ⟨?_, ?_⟩; (focus (refine neN ?_; (try dsimp only); first | assumption | exact Ne.symm (by assumption) | omega)))))))))))))) | exact Upd.tail (by (refine neN ?_; (try dsimp only); first | assumption | exact Ne.symm (by assumption) | omega)) (Upd.tail (by (refine neN ?_; (try dsimp only); first | assumption | exact Ne.symm (by assumption) | omega)) (Upd.tail (by (refine neN ?_; (try dsimp only); first | assumption | exact Ne.symm (by assumption) | omega)) (Upd.tail (by (refine neN ?_; (try dsimp only); first | assumption | exact Ne.symm (by assumption) | omega)) (Upd.tail (by (refine neN ?_; (try dsimp only); first | assumption | exact Ne.symm (by assumption) | omega)) (Upd.tail (by (refine neN ?_; (try dsimp only); first | assumption | exact Ne.symm (by assumption) | omega)) (Upd.tail (by (refine neN ?_; (try dsimp only); first | assumption | exact Ne.symm (by assumption) | omega)) (Upd.tail (by (refine neN ?_; (try dsimp only); first | assumption | exact Ne.symm (by assumption) | omega)) (Upd.tail (by (refine neN ?_; (try dsimp only); first | assumption | exact Ne.symm (by assumption) | omega)) (Upd.head (by (repeat (first | assumption | exact List.forall_mem_nil _ | (refine' List.forall_mem_cons.mpr ⟨?_, ?_⟩; (focus (refine neN ?_; (try dsimp only); first | assumption | exact Ne.symm (by assumption) | omega))))))))))))))) | exact Upd.tail (by (refine neN ?_; (try dsimp only); first | assumption | exact Ne.symm (by assumption) | omega)) (Upd.tail (by (refine neN ?_; (try dsimp only); first | assumption | exact Ne.symm (by assumption) | omega)) (Upd.tail (by (refine neN ?_; (try dsimp only); first | assumption | exact Ne.symm (by assumption) | omega)) (Upd.tail (by (refine neN ?_; (try dsimp only); first | assumption | exact Ne.symm (by assumption) | omega)) (Upd.tail (by (refine neN ?_; (try dsimp only); first | assumption | exact Ne.symm (by assumption) | omega)) (Upd.tail (by (refine neN ?_; (try dsimp only); first | assumption | exact Ne.symm (by assumption) | omega)) (Upd.tail (by (refine neN ?_; (try dsimp only); first | assumption | exact Ne.symm (by assumption) | omega)) (Upd.tail (by (refine neN ?_; (try dsimp only); first | assumption | exact Ne.symm (by assumption) | omega)) (Upd.tail (by (refine neN ?_; (try dsimp only); first | assumption | exact Ne.symm (by assumption) | omega)) (Upd.tail (by (refine neN ?_; (try dsimp only); first | assumption | exact Ne.symm (by assumption) | omega)) (Upd.head (by (repeat (first | assumption | exact List.forall_mem_nil _ | (refine' List.forall_mem_cons.mpr ⟨?_, ?_⟩; (focus (refine neN ?_; (try dsimp only); first | assumption | exact Ne.symm (by assumption) | omega)))))))))))))))))); (case z => assumption); k_whole); intro h_wp F_wp N_wp; (try k_sweep))); try k_fold) | (walk1; try k_fold) | (dsimp only; walk1; try k_fold)) | (leave1; (try dsimp only)))

  rename _ = Data.cell (some (Value.ref _)) => hcell
  rename _ < _ ∧ _ < _ ∧ _ < _ => l1
  rename _ < _ ∧ _ < _ => l2
  have nl := Nat.ne_of_lt l1.2.2
  refine iter_RS (n := 60) [Str.ofString "order", Str.ofString "number", Str.ofString "place", Str.ofString "lesser", Str.ofString "other"] (JP (n0, n1, n2, n3) _ _ _ nb _ (listOf #[.int n0 k0, .int n1 k1, .int n2 k2, .int n3 k3] en) _) rfl (by assumption) (by decide) (by decide) (by assumption) (by assumption) ⟨(n0, n1, n2, n3), k0, k1, k2, k3, [], [], 0, [], rfl, List.forall_mem_nil _, List.forall_mem_nil _, List.forall_mem_nil _, .nil, .zero⟩ ?turn ?done
  case turn =>
    intro I i t u news₁ h tk o ho hi hJ hI F2 N2
    obtain ⟨⟨x0, x1, x2, x3⟩, k0', k1', k2', k3', lv, log, ln, rest', rfl, hr1, hr2, hr3, hlog, hrun⟩ := hJ
    dsimp only at N2 hI
    have hz : lv.toArray.size ≤ sizeLine := by
      rw [List.size_toArray, hlog.len, hrun.len, sizeLine_eq]; omega
    have hb := hrun.ok hO
    have hIl := neN (hI _ (.head _))
    have hIf := neN (hI _ (.tail _ (.head _)))
    have hIc := neN (hI _ (.tail _ (.tail _ (.head _))))
    have hIn := neN (hI _ (.tail _ (.tail _ (.tail _ (.head _)))))
    have hIr : ∀ p ∈ rest', p.1 ≠ I := fun p hp => hI p (.tail _ (.tail _ (.tail _ (.tail _ hp))))
    repeat' (first | (k_unfold; (try dsimp only [List.nil_append, List.cons_append])) | (k_end; wrow_close) | ((first | ((with_reducible show wpAny _ _ (binaryOp Operator.Mult (Value.int _ _) (Value.int _ _)) _ _ _); (refine PyProof.Rows.mul_int ?_ (IntMulOk.of_left (bits_fdiv (by omega) (by omega) (by omega))))) | ((with_reducible show wpAny _ _ (binaryOp Operator.FloorDiv (Value.int _ _) (Value.int _ _)) _ _ _); (refine PyProof.Rows.floordiv_int (by omega) ?_)) | ((with_reducible show wpAny _ _ (setItem (Value.ref _) (Value.int _ _) _) _ _ _); (k_here; k_dflt (refine' setL ?F ?N ?U ?a ?b ?c ?_; (case F => k_asm); (case N => k_asm); (case U => (first | exact Upd.head (by (repeat (first | assumption | exact List.forall_mem_nil _ | (refine' List.forall_mem_cons.mpr ⟨?_, ?_⟩; (focus (refine neN ?_; (try dsimp only); first | assumption | exact Ne.symm (by assumption) | omega)))))) | exact Upd.tail (by (refine neN ?_; (try dsimp only); first | assumption | exact Ne.symm (by assumption) | omega)) (Upd.head (by (repeat (first | assumption | exact List.forall_mem_nil _ | (refine' List.forall_mem_cons.mpr ⟨?_, ?_⟩; (focus (refine neN ?_; (try dsimp only); first | assumption | exact Ne.symm (by assumption) | omega))))))) | exact Upd.tail (by (refine neN ?_; (try dsimp only); first | assumption | exact Ne.symm (by assumption) | omega)) (Upd.tail (by (refine neN ?_; (try dsimp only); first | assumption | exact Ne.symm (by assumption) | omega)) (Upd.head (by (repeat (first | assumption | exact List.forall_mem_nil _ | (refine' List.forall_mem_cons.mpr ⟨?_, ?_⟩; (focus (refine neN ?_; (try dsimp only); first | assumption | exact Ne.symm (by assumption) | omega)))))))) | exact Upd.tail (by (refine neN ?_; (try dsimp only); first | assumption | exact Ne.symm (by assumption) | omega)) (Upd.tail (by (refine neN ?_; (try dsimp only); first | assumption | exact Ne.symm (by assumption) | omega)) (Upd.tail (by (refine neN ?_; (try dsimp only); first | assumption | exact Ne.symm (by assumption) | omega)) (Upd.head (by (repeat (first | assumption | exact List.forall_mem_nil _ | (refine' List.forall_mem_cons.mpr ⟨?_, ?_⟩; (focus (refine neN ?_; (try dsimp only); first | assumption | exact Ne.symm (by assumption) | omega))))))))) | exact Upd.tail (by (refine neN ?_; (try dsimp only); first | assumption | exact Ne.symm (by assumption) | omega)) (Upd.tail (by (refine neN ?_; (try dsimp only); first | assumption | exact Ne.symm (by assumption) | omega)) (Upd.tail (by (refine neN ?_; (try dsimp only); first | assumption | exact Ne.symm (by assumption) | omega)) (Upd.tail (by (refine neN ?_; (try dsimp only); first | assumption | exact Ne.symm (by assumption) | omega)) (Upd.head (by (repeat (first | assumption | exact List.forall_mem_nil _ | (refine' List.forall_mem_cons.mpr ⟨?_, ?_⟩; (focus (refine neN ?_; (try dsimp only); first | assumption | exact Ne.symm (by assumption) | omega)))))))))) | exact Upd.tail (by (refine neN ?_; (try dsimp only); first | assumption | exact Ne.symm (by assumption) | omega)) (Upd.tail (by (refine neN ?_; (try dsimp only); first | assumption | exact Ne.symm (by assumption) | omega)) (Upd.tail (by (refine neN ?_; (try dsimp only); first | assumption | exact Ne.symm (by assumption) | omega)) (Upd.tail (by (refine neN ?_; (try dsimp only); first | assumption | exact Ne.symm (by assumption) | omega)) (Upd.tail (by (refine neN ?_; (try dsimp only); first | assumption | exact Ne.symm (by assumption) | omega)) (Upd.head (by (repeat (first | assumption | exact List.forall_mem_nil _ | (refine' List.forall_mem_cons.mpr ⟨?_, ?_⟩; (focus (refine neN ?_; (try dsimp only); first | assumption | exact Ne.symm (by assumption) | omega))))))))))) | exact Upd.tail (by (refine neN ?_; (try dsimp only); first | assumption | exact Ne.symm (by assumption) | omega)) (Upd.tail (by (refine neN ?_; (try dsimp only); first | assumption | exact Ne.symm (by assumption) | omega)) (Upd.tail (by (refine neN ?_; (try dsimp only); first | assumption | exact Ne.symm (by assumption) | omega)) (Upd.tail (by (refine neN ?_; (try dsimp only); first | assumption | exact Ne.symm (by assumption) | omega)) (Upd.tail (by (refine neN ?_; (try dsimp only); first | assumption | exact Ne.symm (by assumption) | omega)) (Upd.tail (by (refine neN ?_; (try dsimp only); first | assumption | exact Ne.symm (by assumption) | omega)) (Upd.head (by (repeat (first | assumption | exact List.forall_mem_nil _ | (refine' List.forall_mem_cons.mpr ⟨?_, ?_⟩; (focus (refine neN ?_; (try dsimp only); first | assumption | exact Ne.symm (by assumption) | omega)))))))))))) | exact Upd.tail (by (refine neN ?_; (try dsimp only); first | assumption | exact Ne.symm (by assumption) | omega)) (Upd.tail (by (refine neN ?_; (try dsimp only); first | assumption | exact Ne.symm (by assumption) | omega)) (Upd.tail (by (refine neN ?_; (try dsimp only); first | assumption | exact Ne.symm (by assumption) | omega)) (Upd.tail (by (refine neN ?_; (try dsimp only); first | assumption | exact Ne.symm (by assumption) | omega)) (Upd.tail (by (refine neN ?_; (try dsimp only); first | assumption | exact Ne.symm (by assumption) | omega)) (Upd.tail (by (refine neN ?_; (try dsimp only); first | assumption | exact Ne.symm (by assumption) | omega)) (Upd.tail (by (refine neN ?_; (try dsimp only); first | assumption | exact Ne.symm (by assumption) | omega)) (Upd.head (by (repeat (first | assumption | exact List.forall_mem_nil _ | (refine' List.forall_mem_cons.mpr ⟨?_, ?_⟩; (focus (refine neN ?_; (try dsimp only); first | assumption | exact Ne.symm (by assumption) | omega))))))))))))) | exact Upd.tail (by (refine neN ?_; (try dsimp only); first | assumption | exact Ne.symm (by assumption) | omega)) (Upd.tail (by (refine neN ?_; (try dsimp only); first | assumption | exact Ne.symm (by assumption) | omega)) (Upd.tail (by (refine neN ?_; (try dsimp only); first | assumption | exact Ne.symm (by assumption) | omega)) (Upd.tail (by (refine neN ?_; (try dsimp only); first | assumption | exact Ne.symm (by assumption) | omega)) (Upd.tail (by (refine neN ?_; (try dsimp only); first | assumption | exact Ne.symm (by assumption) | omega)) (Upd.tail (by (refine neN ?_; (try dsimp only); first | assumption | exact Ne.symm (by assumption) | omega)) (Upd.tail (by (refine neN ?_; (try dsimp only); first | assumption | exact Ne.symm (by assumption) | omega)) (Upd.tail (by (refine neN ?_; (try dsimp only); first | assumption | exact Ne.symm (by assumption) | omega)) (Upd.head (by (repeat (first | assumption | exact List.forall_mem_nil _ | (refine' List.forall_mem_cons.mpr ⟨?_, ?_⟩; (focus (refine neN ?_; (try dsimp only); first | assumption | exact Ne.symm (by assumption) | omega)))))))))))))) | exact Upd.tail (by (refine neN ?_; (try dsimp only); first | assumption | exact Ne.symm (by assumption) | omega)) (Upd.tail (by (refine neN ?_; (try dsimp only); first | assumption | exact Ne.symm (by assumption) | omega)) (Upd.tail (by (refine neN ?_; (try dsimp only); first | assumption | exact Ne.symm (by assumption) | omega)) (Upd.tail (by (refine neN ?_; (try dsimp only); first | assumption | exact Ne.symm (by assumption) | omega)) (Upd.tail (by (refine neN ?_; (try dsimp only); first | assumption | exact Ne.symm (by assumption) | omega)) (Upd.tail (by (refine neN ?_; (try dsimp only); first | assumption | exact Ne.symm (by assumption) | omega)) (Upd.tail (by (refine neN ?_; (try dsimp only); first | assumption | exact Ne.symm (by assumption) | omega)) (Upd.tail (by (refine neN ?_; (try dsimp only); first | assumption | exact Ne.symm (by assumption) | omega)) (Upd.tail (by (refine neN ?_; (try dsimp only); first | assumption | exact Ne.symm (by assumption) | omega)) (Upd.head (by (repeat (first | assumption | exact List.forall_mem_nil _ | (refine' List.forall_mem_cons.mpr ⟨?_, ?_⟩; (focus (refine neN ?_; (try dsimp only); first | assumption | exact Ne.symm (by assumption) | omega))))))))))))))) | exact Upd.tail (by (refine neN ?_; (try dsimp only); first | assumption | exact Ne.symm (by assumption) | omega)) (Upd.tail (by (refine neN ?_; (try dsimp only); first | assumption | exact Ne.symm (by assumption) | omega)) (Upd.tail (by (refine neN ?_; (try dsimp only); first | assumption | exact Ne.symm (by assumption) | omega)) (Upd.tail (by (refine neN ?_; (try dsimp only); first | assumption | exact Ne.symm (by assumption) | omega)) (Upd.tail (by (refine neN ?_; (try dsimp only); first | assumption | exact Ne.symm (by assumption) | omega)) (Upd.tail (by (refine neN ?_; (try dsimp only); first | assumption | exact Ne.symm (by assumption) | omega)) (Upd.tail (by (refine neN ?_; (try dsimp only); first | assumption | exact Ne.symm (by assumption) | omega)) (Upd.tail (by (refine neN ?_; (try dsimp only); first | assumption | exact Ne.symm (by assumption) | omega)) (Upd.tail (by (refine neN ?_; (try dsimp only); first | assumption | exact Ne.symm (by assumption) | omega)) (Upd.tail (by (refine neN ?_; (try dsimp only); first | assumption | exact Ne.symm (by assumption) | omega)) (Upd.head (by (repeat (first | assumption | exact List.forall_mem_nil _ | (refine' List.forall_mem_cons.mpr ⟨?_, ?_⟩; (focus (refine neN ?_; (try dsimp only); first | assumption | exact Ne.symm (by assumption) | omega)))))))))))))))))); (case a => omega); (case b => (simp only [List.length_cons, List.length_nil]; omega)); (case c => omega); k_whole); intro h_wp F_wp N_wp; (try k_sweep))) | ((with_reducible show wpAny _ _ (call (Value.builtin "sorted") _) _ _ _); (k_here; k_dflt (refine' sortedP ?F ?N ?l ?m0 ?m1 ?m2 ?m3 ?y ?b ?_; (case F => k_asm); (case N => k_asm); (case l => k_mem); (case m0 => k_mem); (case m1 => k_mem); (case m2 => k_mem); (case m3 => k_mem); (case y => exact ⟨rfl, rfl, rfl, rfl⟩); (case b => assumption); k_whole); intro D_wp h_wp z_wp a_wp b_wp c_wp d_wp bc_wp bd_wp ho_wp c4_wp d4_wp cd_wp p_wp q_wp tp_wp tq_wp up_wp uq_wp ep_wp eq_wp mp_wp mq_wp v1_wp v2_wp F_wp N_wp l1_w; (try k_lt l1_w); (try k_sweep))) | (k_here; (with_reducible show wpAny _ _ (call (Value.builtin _) [Value.ref _, _]) _ _ _); k_dflt (refine' append_K ?k1 ?k2 ?k3 ?_ ?z; (case k1 => k_asm); (case k2 => k_asm); (case k3 => (first | exact Upd.head (by (repeat (first | assumption | exact List.forall_mem_nil _ | (refine' List.forall_mem_cons.mpr ⟨?_, ?_⟩; (focus (refine neN ?_; (try dsimp only); first | assumption | exact Ne.symm (by assumption) | omega)))))) | exact Upd.tail (by (refine neN ?_; (try dsimp only); first | assumption | exact Ne.symm (by assumption) | omega)) (Upd.head (by (repeat (first | assumption | exact List.forall_mem_nil _ | (refine' List.forall_mem_cons.mpr ⟨?_, ?_⟩; (focus (refine neN ?_; (try dsimp only); first | assumption | exact Ne.symm (by assumption) | omega))))))) | exact Upd.tail (by (refine neN ?_; (try dsimp only); first | assumption | exact Ne.symm (by assumption) | omega)) (Upd.tail (by (refine neN ?_; (try dsimp only); first | assumption | exact Ne.symm (by assumption) | omega)) (Upd.head (by (repeat (first | assumption | exact List.forall_mem_nil _ | (refine' List.forall_mem_cons.mpr ⟨?_, ?_⟩; (focus (refine neN ?_; (try dsimp only); first | assumption | exact Ne.symm (by assumption) | omega)))))))) | exact Upd.tail (by (refine neN ?_; (try dsimp only); first | assumption | exact Ne.symm (by assumption) | omega)) (Upd.tail (by (refine neN ?_; (try dsimp only); first | assumption | exact Ne.symm (by assumption) | omega)) (Upd.tail (by (refine neN ?_; (try dsimp only); first | assumption | exact Ne.symm (by assumption) | omega)) (Upd.head (by (repeat (first | assumption | exact List.forall_mem_nil _ | (refine' List.forall_mem_cons.mpr ⟨?_, ?_⟩; (focus (refine neN ?_; (try dsimp only); first | assumption | exact Ne.symm (by assumption) | omega))))))))) | exact Upd.tail (by (refine neN ?_; (try dsimp only); first | assumption | exact Ne.symm (by assumption) | omega)) (Upd.tail (by (refine neN ?_; (try dsimp only); first | assumption | exact Ne.symm (by assumption) | omega)) (Upd.tail (by (refine neN ?_; (try dsimp only); first | assumption | exact Ne.symm (by assumption) | omega)) (Upd.tail (by (refine neN ?_; (try dsimp only); first | assumption | exact Ne.symm (by assumption) | omega)) (Upd.head (by (repeat (first | assumption | exact List.forall_mem_nil _ | (refine' List.forall_mem_cons.mpr ⟨?_, ?_⟩; (focus (refine neN ?_; (try dsimp only); first | assumption | exact Ne.symm (by assumption) | omega)))))))))) | exact Upd.tail (by (refine neN ?_; (try dsimp only); first | assumption | exact Ne.symm (by assumption) | omega)) (Upd.tail (by (refine neN ?_; (try dsimp only); first | assumption | exact Ne.symm (by assumption) | omega)) (Upd.tail (by (refine neN ?_; (try dsimp only); first | assumption | exact Ne.symm (by assumption) | omega)) (Upd.tail (by (refine neN ?_; (try dsimp only); first | assumption | exact Ne.symm (by assumption) | omega)) (Upd.tail (by (refine neN ?_; (try dsimp only); first | assumption | exact Ne.symm (by assumption) | omega)) (Upd.head (by (repeat (first | assumption | exact List.forall_mem_nil _ | (refine' List.forall_mem_cons.mpr ⟨?_, ?_⟩; (focus (refine neN ?_; (try dsimp only); first | assumption | exact Ne.symm (by assumption) | omega))))))))))) | exact Upd.tail (by (refine neN ?_; (try dsimp only); first | assumption | exact Ne.symm (by assumption) | omega)) (Upd.tail (by (refine neN ?_; (try dsimp only); first | assumption | exact Ne.symm (by assumption) | omega)) (Upd.tail (by (refine neN ?_; (try dsimp only); first | assumption | exact Ne.symm (by assumption) | omega)) (Upd.tail (by (refine neN ?_; (try dsimp only); first | assumption | exact Ne.symm (by assumption) | omega)) (Upd.tail (by (refine neN ?_; (try dsimp only); first | assumption | exact Ne.symm (by assumption) | omega)) (Upd.tail (by (refine neN ?_; (try dsimp only); first | assumption | exact Ne.symm (by assumption) | omega)) (Upd.head (by (repeat (first | assumption | exact List.forall_mem_nil _ | (refine' List.forall_mem_cons.mpr ⟨?_, ?_⟩; (focus (refine neN ?_; (try dsimp only); first | assumption | exact Ne.symm (by assumption) | omega)))))))))))) | exact Upd.tail (by (refine neN ?_; (try dsimp only); first | assumption | exact Ne.symm (by assumption) | omega)) (Upd.tail (by (refine neN ?_; (try dsimp only); first | assumption | exact Ne.symm (by assumption) | omega)) (Upd.tail (by (refine neN ?_; (try dsimp only); first | assumption | exact Ne.symm (by assumption) | omega)) (Upd.tail (by (refine neN ?_; (try dsimp only); first | assumption | exact Ne.symm (by assumption) | omega)) (Upd.tail (by (refine neN ?_; (try dsimp only); first | assumption | exact Ne.symm (by assumption) | omega)) (Upd.tail (by (refine neN ?_; (try dsimp only); first | assumption | exact Ne.symm (by assumption) | omega)) (Upd.tail (by (refine neN ?_; (try dsimp only); first | assumption | exact Ne.symm (by assumption) | omega)) (Upd.head (by (repeat (first | assumption | exact List.forall_mem_nil _ | (refine' List.forall_mem_cons.mpr ⟨?_, ?_⟩; (focus (refine neN ?_; (try dsimp only); first | assumption | exact Ne.symm (by assumption) | omega))))))))))))) | exact Upd.tail (by (refine neN ?_; (try dsimp only); first | assumption | exact Ne.symm (by assumption) | omega)) (Upd.tail (by (refine neN ?_; (try dsimp only); first | assumption | exact Ne.symm (by assumption) | omega)) (Upd.tail (by (refine neN ?_; (try dsimp only); first | assumption | exact Ne.symm (by assumption) | omega)) (Upd.tail (by (refine neN ?_; (try dsimp only); first | assumption | exact Ne.symm (by assumption) | omega)) (Upd.tail (by (refine neN ?_; (try dsimp only); first | assumption | exact Ne.symm (by assumption) | omega)) (Upd.tail (by (refine neN ?_; (try dsimp only); first | assumption | exact Ne.symm (by assumption) | omega)) (Upd.tail (by (refine neN ?_; (try dsimp only); first | assumption | exact Ne.symm (by assumption) | omega)) (Upd.tail (by (refine neN ?_; (try dsimp only); first | assumption | exact Ne.symm (by assumption) | omega)) (Upd.head (by (repeat (first | assumption | exact List.forall_mem_nil _ | (refine' List.forall_mem_cons.mpr ⟨?_, ?_⟩; (focus (refine neN ?_; (try dsimp only); first | assumption | exact Ne.symm (by assumption) | omega)))))))))))))) | exact Upd.tail (by (refine neN ?_; (try dsimp only); first | assumption | exact Ne.symm (by assumption) | omega)) (Upd.tail (by (refine neN ?_; (try dsimp only); first | assumption | exact Ne.symm (by assumption) | omega)) (Upd.tail (by (refine neN ?_; (try dsimp only); first | assumption | exact Ne.symm (by assumption) | omega)) (Upd.tail (by (refine neN ?_; (try dsimp only); first | assumption | exact Ne.symm (by assumption) | omega)) (Upd.tail (by (refine neN ?_; (try dsimp only); first | assumption | exact Ne.symm (by assumption) | omega)) (Upd.tail (by (refine neN ?_; (try dsimp only); first | assumption | exact Ne.symm (by assumption) | omega)) (Upd.tail (by (refine neN ?_; (try dsimp only); first | assumption | exact Ne.symm (by assumption) | omega)) (Upd.tail (by (refine neN ?_; (try dsimp only); first | assumption | exact Ne.symm (by assumption) | omega)) (Upd.tail (by (refine neN ?_; (try dsimp only); first | assumption | exact Ne.symm (by assumption) | omega)) (Upd.head (by (repeat (first | assumption | exact List.forall_mem_nil _ | (refine' List.forall_mem_cons.mpr ⟨?_, ?_⟩; (focus (refine neN ?_; (try dsimp only); first | assumption | exact Ne.symm (by assumption) | omega))))))))))))))) | exact Upd.tail (by (refine neN ?_; (try dsimp only); first | assumption | exact Ne.symm (by assumption) | omega)) (Upd.tail (by (refine neN ?_; (try dsimp only); first | assumption | exact Ne.symm (by assumption) | omega)) (Upd.tail (by (refine neN ?_; (try dsimp only); first | assumption | exact Ne.symm (by assumption) | omega)) (Upd.tail (by (refine neN ?_; (try dsimp only); first | assumption | exact Ne.symm (by assumption) | omega)) (Upd.tail (by (refine neN ?_; (try dsimp only); first | assumption | exact Ne.symm (by assumption) | omega)) (Upd.tail (by (refine neN ?_; (try dsimp only); first | assumption | exact Ne.symm (by assumption) | omega)) (Upd.tail (by (refine neN ?_; (try dsimp only); first | assumption | exact Ne.symm (by assumption) | omega)) (Upd.tail (by (refine neN ?_; (try dsimp only); first | assumption | exact Ne.symm (by assumption) | omega)) (Upd.tail (by (refine neN ?_; (try dsimp only); first | assumption | exact Ne.symm (by assumption) | omega)) (Upd.tail (by (refine neN ?_; (try dsimp only); first | assumption | exact Ne.symm (by assumption) | omega)) (Upd.head (by (repeat (first | assumption | exact List.forall_mem_nil _ | (refine' List.forall_mem_cons.mpr ⟨?_, ?_⟩; (focus (refine neN ?_; (try dsimp only); first | assumption | exact Ne.symm (by assumption) | omega)))))))))))))))))); (case z => assumption); k_whole); intro h_wp F_wp N_wp; (try k_sweep))); try k_fold) | ((fail_if_success (with_reducible show LCg.CompRest _ _ _ _ _ _ _ _ _ _ _ _ _ _ _ _ _ _ _)); first | (walk1; try k_fold) | (dsimp only; walk1; try k_fold)) | (leave1; (try dsimp only)))
    refine comp_turns (JM PO.a (fun T => [T.pr]) (fun j T => T.x = pick x0 x1 x2 x3 j ∧ T.y = 0 + (j : Int)) _) JM.zero ?ct ?cf
    case ct =>
      intro i' ys led hi' hJ v I' oI C oC D m₂ h' tk'' E' hv hC hx F2 N2 off ne
      clear ne
      have qc := hJ.1 _ (.tail _ (.tail _ (.tail _ (.head _))))
      have qf := hJ.1 _ (.tail _ (.tail _ (.head _)))
      obtain ⟨t9, rfl⟩ := hv
      repeat' (first | (k_unfold; (try dsimp only [List.nil_append, List.cons_append])) | (k_end; wrow_close) | ((first | ((with_reducible show wpAny _ _ (newTuple _) _ _ _); (k_here; k_dflt (refine' kup_newTuple ?F ?N ?_ ?z; (case F => k_asm); (case N => k_asm); (case z => kmk_size)); intro D_wp h_wp F_wp N_wp l1_w; (rcases allLt_of l1_w with l2_w); clear l1_w; (simp only [AllLt, and_true] at l2_w); (try k_sweep))) | ((with_reducible show wpAny _ _ (subscriptTail _ _ (Value.ref _) (Value.int _ _)) _ _ _); (with_unfolding_all refine' item_led ?N ?m ?a ?b ?x ?_ ?z; (case N => k_dflt k_asm); (case m => k_dflt k_mem); (case a => k_dflt (exact i4_lo)); (case b => k_dflt (exact i4_hi hi')); (case x => k_dflt (exact its4i hi')); (case z => with_unfolding_all rfl); k_whole))); try k_fold) | ((fail_if_success (with_reducible show LCg.CompEnd _ _ _ _ _ _ _ _ _ _ _ _ _ _)); first | (walk1; try k_fold) | (dsimp only; walk1; try k_fold)) | (leave1; (try dsimp only)))
      rename _ ∧ _ ∧ _ ∧ AllLt _ led => l9
      exact compEnd1 (by assumption) (by assumption) ⟨l9.1, l9.2.1, l9.2.2.1⟩ off trivial (hJ.next ⟨_, _, _, _, _, _⟩ (fun p hp => List.forall_mem_singleton.mpr (allLt_ne l9.2.2.2 p hp)) ⟨rfl, rfl⟩)
    intro ys led hJ
    obtain ⟨⟨a0, X0, Y0, kx0, ky0, ke0⟩, ⟨a1, X1, Y1, kx1, ky1, ke1⟩, ⟨a2, X2, Y2, kx2, ky2, ke2⟩, ⟨a3, X3, Y3, kx3, ky3, ke3⟩, rfl, hin, hne, ⟨e0, g0⟩, ⟨e1, g1⟩, ⟨e2, g2⟩, ⟨e3, g3⟩⟩ := hJ.four
    replace e0 : x0 = X0 := e0.symm
    subst e0
    replace g0 : (0 : Int) = Y0 := g0.symm
    subst g0
    replace e1 : x1 = X1 := e1.symm
    subst e1
    replace g1 : (1 : Int) = Y1 := g1.symm
    subst g1
    replace e2 : x2 = X2 := e2.symm
    subst e2
    replace g2 : (2 : Int) = Y2 := g2.symm
    subst g2
    replace e3 : x3 = X3 := e3.symm
    subst e3
    replace g3 : (3 : Int) = Y3 := g3.symm
    subst g3
    unfold LCg.FinE
    intro D h tk'' F3 N3 off2
    replace N3 := News.sub2 N3 hin
    simp only [List.cons_append, List.nil_append] at N3
    dsimp only [PO.pr] at N3
    have f1 : @Ne Nat _ D := off_of off2 _ (hin _ (.tail _ (.tail _ (.tail _ (.tail _ (.tail _ (.head _)))))))
    have f2 : @Ne Nat _ D := off_of off2 _ (hin _ (.tail _ (.tail _ (.tail _ (.tail _ (.tail _ (.tail _ (.head _))))))))
    have hne1 := hne _ (.tail _ (.head _))
    have hne2 := hne _ (.tail _ (.tail _ (.head _)))
    have f10 : @Ne Nat _ a0 := hne1.1 _ (.head _)
    have f20 : @Ne Nat _ a0 := hne2.1 _ (.head _)
    have f11 : @Ne Nat _ a1 := hne1.2.1 _ (.head _)
    have f21 : @Ne Nat _ a1 := hne2.2.1 _ (.head _)
    have f12 : @Ne Nat _ a2 := hne1.2.2.1 _ (.head _)
    have f22 : @Ne Nat _ a2 := hne2.2.2.1 _ (.head _)
    have f13 : @Ne Nat _ a3 := hne1.2.2.2 _ (.head _)
    have f23 : @Ne Nat _ a3 := hne2.2.2.2 _ (.head _)
    clear hne1 hne2 hne off2 hin hJ
    repeat' (first | (k_unfold; (try dsimp only [List.nil_append, List.cons_append])) | (k_end; wrow_close) | ((first | ((with_reducible show wpAny _ _ (binaryOp Operator.Mult (Value.int _ _) (Value.int _ _)) _ _ _); (refine PyProof.Rows.mul_int ?_ (IntMulOk.of_left (bits_fdiv (by omega) (by omega) (by omega))))) | ((with_reducible show wpAny _ _ (binaryOp Operator.FloorDiv (Value.int _ _) (Value.int _ _)) _ _ _); (refine PyProof.Rows.floordiv_int (by omega) ?_)) | ((with_reducible show wpAny _ _ (setItem (Value.ref _) (Value.int _ _) _) _ _ _); (k_here; k_dflt (refine' setL ?F ?N ?U ?a ?b ?c ?_; (case F => k_asm); (case N => k_asm); (case U => (first | exact Upd.head (by (repeat (first | assumption | exact List.forall_mem_nil _ | (refine' List.forall_mem_cons.mpr ⟨?_, ?_⟩; (focus (refine neN ?_; (try dsimp only); first | assumption | exact Ne.symm (by assumption) | omega)))))) | exact Upd.tail (by (refine neN ?_; (try dsimp only); first | assumption | exact Ne.symm (by assumption) | omega)) (Upd.head (by (repeat (first | assumption | exact List.forall_mem_nil _ | (refine' List.forall_mem_cons.mpr ⟨?_, ?_⟩; (focus (refine neN ?_; (try dsimp only); first | assumption | exact Ne.symm (by assumption) | omega))))))) | exact Upd.tail (by (refine neN ?_; (try dsimp only); first | assumption | exact Ne.symm (by assumption) | omega)) (Upd.tail (by (refine neN ?_; (try dsimp only); first | assumption | exact Ne.symm (by assumption) | omega)) (Upd.head (by (repeat (first | assumption | exact List.forall_mem_nil _ | (refine' List.forall_mem_cons.mpr ⟨?_, ?_⟩; (focus (refine neN ?_; (try dsimp only); first | assumption | exact Ne.symm (by assumption) | omega)))))))) | exact Upd.tail (by (refine neN ?_; (try dsimp only); first | assumption | exact Ne.symm (by assumption) | omega)) (Upd.tail (by (refine neN ?_; (try dsimp only); first | assumption | exact Ne.symm (by assumption) | omega)) (Upd.tail (by (refine neN ?_; (try dsimp only); first | assumption | exact Ne.symm (by assumption) | omega)) (Upd.head (by (repeat (first | assumption | exact List.forall_mem_nil _ | (refine' List.forall_mem_cons.mpr ⟨?_, ?_⟩; (focus (refine neN ?_; (try dsimp only); first | assumption | exact Ne.symm (by assumption) | omega))))))))) | exact Upd.tail (by (refine neN ?_; (try dsimp only); first | assumption | exact Ne.symm (by assumption) | omega)) (Upd.tail (by (refine neN ?_; (try dsimp only); first | assumption | exact Ne.symm (by assumption) | omega)) (Upd.tail (by (refine neN ?_; (try dsimp only); first | assumption | exact Ne.symm (by assumption) | omega)) (Upd.tail (by (refine neN ?_; (try dsimp only); first | assumption | exact Ne.symm (by assumption) | omega)) (Upd.head (by (repeat (first | assumption | exact List.forall_mem_nil _ | (refine' List.forall_mem_cons.mpr ⟨?_, ?_⟩; (focus (refine neN ?_; (try dsimp only); first | assumption | exact Ne.symm (by assumption) | omega)))))))))) | exact Upd.tail (by (refine neN ?_; (try dsimp only); first | assumption | exact Ne.symm (by assumption) | omega)) (Upd.tail (by (refine neN ?_; (try dsimp only); first | assumption | exact Ne.symm (by assumption) | omega)) (Upd.tail (by (refine neN ?_; (try dsimp only); first | assumption | exact Ne.symm (by assumption) | omega)) (Upd.tail (by (refine neN ?_; (try dsimp only); first | assumption | exact Ne.symm (by assumption) | omega)) (Upd.tail (by (refine neN ?_; (try dsimp only); first | assumption | exact Ne.symm (by assumption) | omega)) (Upd.head (by (repeat (first | assumption | exact List.forall_mem_nil _ | (refine' List.forall_mem_cons.mpr ⟨?_, ?_⟩; (focus (refine neN ?_; (try dsimp only); first | assumption | exact Ne.symm (by assumption) | omega))))))))))) | exact Upd.tail (by (refine neN ?_; (try dsimp only); first | assumption | exact Ne.symm (by assumption) | omega)) (Upd.tail (by (refine neN ?_; (try dsimp only); first | assumption | exact Ne.symm (by assumption) | omega)) (Upd.tail (by (refine neN ?_; (try dsimp only); first | assumption | exact Ne.symm (by assumption) | omega)) (Upd.tail (by (refine neN ?_; (try dsimp only); first | assumption | exact Ne.symm (by assumption) | omega)) (Upd.tail (by (refine neN ?_; (try dsimp only); first | assumption | exact Ne.symm (by assumption) | omega)) (Upd.tail (by (refine neN ?_; (try dsimp only); first | assumption | exact Ne.symm (by assumption) | omega)) (Upd.head (by (repeat (first | assumption | exact List.forall_mem_nil _ | (refine' List.forall_mem_cons.mpr ⟨?_, ?_⟩; (focus (refine neN ?_; (try dsimp only); first | assumption | exact Ne.symm (by assumption) | omega)))))))))))) | exact Upd.tail (by (refine neN ?_; (try dsimp only); first | assumption | exact Ne.symm (by assumption) | omega)) (Upd.tail (by (refine neN ?_; (try dsimp only); first | assumption | exact Ne.symm (by assumption) | omega)) (Upd.tail (by (refine neN ?_; (try dsimp only); first | assumption | exact Ne.symm (by assumption) | omega)) (Upd.tail (by (refine neN ?_; (try dsimp only); first | assumption | exact Ne.symm (by assumption) | omega)) (Upd.tail (by (refine neN ?_; (try dsimp only); first | assumption | exact Ne.symm (by assumption) | omega)) (Upd.tail (by (refine neN ?_; (try dsimp only); first | assumption | exact Ne.symm (by assumption) | omega)) (Upd.tail (by (refine neN ?_; (try dsimp only); first | assumption | exact Ne.symm (by assumption) | omega)) (Upd.head (by (repeat (first | assumption | exact List.forall_mem_nil _ | (refine' List.forall_mem_cons.mpr ⟨?_, ?_⟩; (focus (refine neN ?_; (try dsimp only); first | assumption | exact Ne.symm (by assumption) | omega))))))))))))) | exact Upd.tail (by (refine neN ?_; (try dsimp only); first | assumption | exact Ne.symm (by assumption) | omega)) (Upd.tail (by (refine neN ?_; (try dsimp only); first | assumption | exact Ne.symm (by assumption) | omega)) (Upd.tail (by (refine neN ?_; (try dsimp only); first | assumption | exact Ne.symm (by assumption) | omega)) (Upd.tail (by (refine neN ?_; (try dsimp only); first | assumption | exact Ne.symm (by assumption) | omega)) (Upd.tail (by (refine neN ?_; (try dsimp only); first | assumption | exact Ne.symm (by assumption) | omega)) (Upd.tail (by (refine neN ?_; (try dsimp only); first | assumption | exact Ne.symm (by assumption) | omega)) (Upd.tail (by (refine neN ?_; (try dsimp only); first | assumption | exact Ne.symm (by assumption) | omega)) (Upd.tail (by (refine neN ?_; (try dsimp only); first | assumption | exact Ne.symm (by assumption) | omega)) (Upd.head (by (repeat (first | assumption | exact List.forall_mem_nil _ | (refine' List.forall_mem_cons.mpr ⟨?_, ?_⟩; (focus (refine neN ?_; (try dsimp only); first | assumption | exact Ne.symm (by assumption) | omega)))))))))))))) | exact Upd.tail (by (refine neN ?_; (try dsimp only); first | assumption | exact Ne.symm (by assumption) | omega)) (Upd.tail (by (refine neN ?_; (try dsimp only); first | assumption | exact Ne.symm (by assumption) | omega)) (Upd.tail (by (refine neN ?_; (try dsimp only); first | assumption | exact Ne.symm (by assumption) | omega)) (Upd.tail (by (refine neN ?_; (try dsimp only); first | assumption | exact Ne.symm (by assumption) | omega)) (Upd.tail (by (refine neN ?_; (try dsimp only); first | assumption | exact Ne.symm (by assumption) | omega)) (Upd.tail (by (refine neN ?_; (try dsimp only); first | assumption | exact Ne.symm (by assumption) | omega)) (Upd.tail (by (refine neN ?_; (try dsimp only); first | assumption | exact Ne.symm (by assumption) | omega)) (Upd.tail (by (refine neN ?_; (try dsimp only); first | assumption | exact Ne.symm (by assumption) | omega)) (Upd.tail (by (refine neN ?_; (try dsimp only); first | assumption | exact Ne.symm (by assumption) | omega)) (Upd.head (by (repeat (first | assumption | exact List.forall_mem_nil _ | (refine' List.forall_mem_cons.mpr ⟨?_, ?_⟩; (focus (refine neN ?_; (try dsimp only); first | assumption | exact Ne.symm (by assumption) | omega))))))))))))))) | exact Upd.tail (by (refine neN ?_; (try dsimp only); first | assumption | exact Ne.symm (by assumption) | omega)) (Upd.tail (by (refine neN ?_; (try dsimp only); first | assumption | exact Ne.symm (by assumption) | omega)) (Upd.tail (by (refine neN ?_; (try dsimp only); first | assumption | exact Ne.symm (by assumption) | omega)) (Upd.tail (by (refine neN ?_; (try dsimp only); first | assumption | exact Ne.symm (by assumption) | omega)) (Upd.tail (by (refine neN ?_; (try dsimp only); first | assumption | exact Ne.symm (by assumption) | omega)) (Upd.tail (by (refine neN ?_; (try dsimp only); first | assumption | exact Ne.symm (by assumption) | omega)) (Upd.tail (by (refine neN ?_; (try dsimp only); first | assumption | exact Ne.symm (by assumption) | omega)) (Upd.tail (by (refine neN ?_; (try dsimp only); first | assumption | exact Ne.symm (by assumption) | omega)) (Upd.tail (by (refine neN ?_; (try dsimp only); first | assumption | exact Ne.symm (by assumption) | omega)) (Upd.tail (by (refine neN ?_; (try dsimp only); first | assumption | exact Ne.symm (by assumption) | omega)) (Upd.head (by (repeat (first | assumption | exact List.forall_mem_nil _ | (refine' List.forall_mem_cons.mpr ⟨?_, ?_⟩; (focus (refine neN ?_; (try dsimp only); first | assumption | exact Ne.symm (by assumption) | omega)))))))))))))))))); (case a => omega); (case b => (simp only [List.length_cons, List.length_nil]; omega)); (case c => omega); k_whole); intro h_wp F_wp N_wp; (try k_sweep))) | ((with_reducible show wpAny _ _ (call (Value.builtin "sorted") _) _ _ _); (k_here; k_dflt (refine' sortedP ?F ?N ?l ?m0 ?m1 ?m2 ?m3 ?y ?b ?_; (case F => k_asm); (case N => k_asm); (case l => k_mem); (case m0 => k_mem); (case m1 => k_mem); (case m2 => k_mem); (case m3 => k_mem); (case y => exact ⟨rfl, rfl, rfl, rfl⟩); (case b => assumption); k_whole); intro D_wp h_wp z_wp a_wp b_wp c_wp d_wp bc_wp bd_wp ho_wp c4_wp d4_wp cd_wp p_wp q_wp tp_wp tq_wp up_wp uq_wp ep_wp eq_wp mp_wp mq_wp v1_wp v2_wp F_wp N_wp l1_w; (try k_lt l1_w); (try k_sweep))) | (k_here; (with_reducible show wpAny _ _ (call (Value.builtin _) [Value.ref _, _]) _ _ _); k_dflt (refine' append_K ?k1 ?k2 ?k3 ?_ ?z; (case k1 => k_asm); (case k2 => k_asm); (case k3 => (first | exact Upd.head (by (repeat (first | assumption | exact List.forall_mem_nil _ | (refine' List.forall_mem_cons.mpr ⟨?_, ?_⟩; (focus (refine neN ?_; (try dsimp only); first | assumption | exact Ne.symm (by assumption) | omega)))))) | exact Upd.tail (by (refine neN ?_; (try dsimp only); first | assumption | exact Ne.symm (by assumption) | omega)) (Upd.head (by (repeat (first | assumption | exact List.forall_mem_nil _ | (refine' List.forall_mem_cons.mpr ⟨?_, ?_⟩; (focus (refine neN ?_; (try dsimp only); first | assumption | exact Ne.symm (by assumption) | omega))))))) | exact Upd.tail (by (refine neN ?_; (try dsimp only); first | assumption | exact Ne.symm (by assumption) | omega)) (Upd.tail (by (refine neN ?_; (try dsimp only); first | assumption | exact Ne.symm (by assumption) | omega)) (Upd.head (by (repeat (first | assumption | exact List.forall_mem_nil _ | (refine' List.forall_mem_cons.mpr ⟨?_, ?_⟩; (focus (refine neN ?_; (try dsimp only); first | assumption | exact Ne.symm (by assumption) | omega)))))))) | exact Upd.tail (by (refine neN ?_; (try dsimp only); first | assumption | exact Ne.symm (by assumption) | omega)) (Upd.tail (by (refine neN ?_; (try dsimp only); first | assumption | exact Ne.symm (by assumption) | omega)) (Upd.tail (by (refine neN ?_; (try dsimp only); first | assumption | exact Ne.symm (by assumption) | omega)) (Upd.head (by (repeat (first | assumption | exact List.forall_mem_nil _ | (refine' List.forall_mem_cons.mpr ⟨?_, ?_⟩; (focus (refine neN ?_; (try dsimp only); first | assumption | exact Ne.symm (by assumption) | omega))))))))) | exact Upd.tail (by (refine neN ?_; (try dsimp only); first | assumption | exact Ne.symm (by assumption) | omega)) (Upd.tail (by (refine neN ?_; (try dsimp only); first | assumption | exact Ne.symm (by assumption) | omega)) (Upd.tail (by (refine neN ?_; (try dsimp only); first | assumption | exact Ne.symm (by assumption) | omega)) (Upd.tail (by (refine neN ?_; (try dsimp only); first | assumption | exact Ne.symm (by assumption) | omega)) (Upd.head (by (repeat (first | assumption | exact List.forall_mem_nil _ | (refine' List.forall_mem_cons.mpr ⟨?_, ?_⟩; (focus (refine neN ?_; (try dsimp only); first | assumption | exact Ne.symm (by assumption) | omega)))))))))) | exact Upd.tail (by (refine neN ?_; (try dsimp only); first | assumption | exact Ne.symm (by assumption) | omega)) (Upd.tail (by (refine neN ?_; (try dsimp only); first | assumption | exact Ne.symm (by assumption) | omega)) (Upd.tail (by (refine neN ?_; (try dsimp only); first | assumption | exact Ne.symm (by assumption) | omega)) (Upd.tail (by (refine neN ?_; (try dsimp only); first | assumption | exact Ne.symm (by assumption) | omega)) (Upd.tail (by (refine neN ?_; (try dsimp only); first | assumption | exact Ne.symm (by assumption) | omega)) (Upd.head (by (repeat (first | assumption | exact List.forall_mem_nil _ | (refine' List.forall_mem_cons.mpr ⟨?_, ?_⟩; (focus (refine neN ?_; (try dsimp only); first | assumption | exact Ne.symm (by assumption) | omega))))))))))) | exact Upd.tail (by (refine neN ?_; (try dsimp only); first | assumption | exact Ne.symm (by assumption) | omega)) (Upd.tail (by (refine neN ?_; (try dsimp only); first | assumption | exact Ne.symm (by assumption) | omega)) (Upd.tail (by (refine neN ?_; (try dsimp only); first | assumption | exact Ne.symm (by assumption) | omega)) (Upd.tail (by (refine neN ?_; (try dsimp only); first | assumption | exact Ne.symm (by assumption) | omega)) (Upd.tail (by (refine neN ?_; (try dsimp only); first | assumption | exact Ne.symm (by assumption) | omega)) (Upd.tail (by (refine neN ?_; (try dsimp only); first | assumption | exact Ne.symm (by assumption) | omega)) (Upd.head (by (repeat (first | assumption | exact List.forall_mem_nil _ | (refine' List.forall_mem_cons.mpr ⟨?_, ?_⟩; (focus (refine neN ?_; (try dsimp only); first | assumption | exact Ne.symm (by assumption) | omega)))))))))))) | exact Upd.tail (by (refine neN ?_; (try dsimp only); first | assumption | exact Ne.symm (by assumption) | omega)) (Upd.tail (by (refine neN ?_; (try dsimp only); first | assumption | exact Ne.symm (by assumption) | omega)) (Upd.tail (by (refine neN ?_; (try dsimp only); first | assumption | exact Ne.symm (by assumption) | omega)) (Upd.tail (by (refine neN ?_; (try dsimp only); first | assumption | exact Ne.symm (by assumption) | omega)) (Upd.tail (by (refine neN ?_; (try dsimp only); first | assumption | exact Ne.symm (by assumption) | omega)) (Upd.tail (by (refine neN ?_; (try dsimp only); first | assumption | exact Ne.symm (by assumption) | omega)) (Upd.tail (by (refine neN ?_; (try dsimp only); first | assumption | exact Ne.symm (by assumption) | omega)) (Upd.head (by (repeat (first | assumption | exact List.forall_mem_nil _ | (refine' List.forall_mem_cons.mpr ⟨?_, ?_⟩; (focus (refine neN ?_; (try dsimp only); first | assumption | exact Ne.symm (by assumption) | omega))))))))))))) | exact Upd.tail (by (refine neN ?_; (try dsimp only); first | assumption | exact Ne.symm (by assumption) | omega)) (Upd.tail (by (refine neN ?_; (try dsimp only); first | assumption | exact Ne.symm (by assumption) | omega)) (Upd.tail (by (refine neN ?_; (try dsimp only); first | assumption | exact Ne.symm (by assumption) | omega)) (Upd.tail (by (refine neN ?_; (try dsimp only); first | assumption | exact Ne.symm (by assumption) | omega)) (Upd.tail (by (refine neN ?_; (try dsimp only); first | assumption | exact Ne.symm (by assumption) | omega)) (Upd.tail (by (refine neN ?_; (try dsimp only); first | assumption | exact Ne.symm (by assumption) | omega)) (Upd.tail (by (refine neN ?_; (try dsimp only); first | assumption | exact Ne.symm (by assumption) | omega)) (Upd.tail (by (refine neN ?_; (try dsimp only); first | assumption | exact Ne.symm (by assumption) | omega)) (Upd.head (by (repeat (first | assumption | exact List.forall_mem_nil _ | (refine' List.forall_mem_cons.mpr ⟨?_, ?_⟩; (focus (refine neN ?_; (try dsimp only); first | assumption | exact Ne.symm (by assumption) | omega)))))))))))))) | exact Upd.tail (by (refine neN ?_; (try dsimp only); first | assumption | exact Ne.symm (by assumption) | omega)) (Upd.tail (by (refine neN ?_; (try dsimp only); first | assumption | exact Ne.symm (by assumption) | omega)) (Upd.tail (by (refine neN ?_; (try dsimp only); first | assumption | exact Ne.symm (by assumption) | omega)) (Upd.tail (by (refine neN ?_; (try dsimp only); first | assumption | exact Ne.symm (by assumption) | omega)) (Upd.tail (by (refine neN ?_; (try dsimp only); first | assumption | exact Ne.symm (by assumption) | omega)) (Upd.tail (by (refine neN ?_; (try dsimp only); first | assumption | exact Ne.symm (by assumption) | omega)) (Upd.tail (by (refine neN ?_; (try dsimp only); first | assumption | exact Ne.symm (by assumption) | omega)) (Upd.tail (by (refine neN ?_; (try dsimp only); first | assumption | exact Ne.symm (by assumption) | omega)) (Upd.tail (by (refine neN ?_; (try dsimp only); first | assumption | exact Ne.symm (by assumption) | omega)) (Upd.head (by (repeat (first | assumption | exact List.forall_mem_nil _ | (refine' List.forall_mem_cons.mpr ⟨?_, ?_⟩; (focus (refine neN ?_; (try dsimp only); first | assumption | exact Ne.symm (by assumption) | omega))))))))))))))) | exact Upd.tail (by (refine neN ?_; (try dsimp only); first | assumption | exact Ne.symm (by assumption) | omega)) (Upd.tail (by (refine neN ?_; (try dsimp only); first | assumption | exact Ne.symm (by assumption) | omega)) (Upd.tail (by (refine neN ?_; (try dsimp only); first | assumption | exact Ne.symm (by assumption) | omega)) (Upd.tail (by (refine neN ?_; (try dsimp only); first | assumption | exact Ne.symm (by assumption) | omega)) (Upd.tail (by (refine neN ?_; (try dsimp only); first | assumption | exact Ne.symm (by assumption) | omega)) (Upd.tail (by (refine neN ?_; (try dsimp only); first | assumption | exact Ne.symm (by assumption) | omega)) (Upd.tail (by (refine neN ?_; (try dsimp only); first | assumption | exact Ne.symm (by assumption) | omega)) (Upd.tail (by (refine neN ?_; (try dsimp only); first | assumption | exact Ne.symm (by assumption) | omega)) (Upd.tail (by (refine neN ?_; (try dsimp only); first | assumption | exact Ne.symm (by assumption) | omega)) (Upd.tail (by (refine neN ?_; (try dsimp only); first | assumption | exact Ne.symm (by assumption) | omega)) (Upd.head (by (repeat (first | assumption | exact List.forall_mem_nil _ | (refine' List.forall_mem_cons.mpr ⟨?_, ?_⟩; (focus (refine neN ?_; (try dsimp only); first | assumption | exact Ne.symm (by assumption) | omega)))))))))))))))))); (case z => assumption); k_whole); intro h_wp F_wp N_wp; (try k_sweep))); try k_fold) | (walk1; try k_fold) | (dsimp only; walk1; try k_fold) | (leave1; (try dsimp only)))
    · rename ord4 _ _ = _ => hord
      rename Fr h₀ _ _ _ => kF
      rename News h₀ _ _ _ => kN
      rename Fr g' L' _ _ => fF
      rename News g' L' _ _ => fN
      refine hret _ _ _ _ kF (back_all (new := (_, listOf lv.toArray ln) :: rest') N hsub S' fF kN subP (List.forall_mem_singleton.mpr (by simp))) ⟨_, rfl, apart_all N S' fN subP ?_, ⟨_, lv, ln, log, i, (x0, x1, x2, x3), rest', rfl, rfl, hr1, hlog, hrun, .inr ⟨_, _, _, _, hord, by assumption⟩⟩⟩
      intro q hq hm
      have hm' := List.mem_singleton.mp hm
      rcases List.mem_cons.mp hq with rfl | hq
      · exact nl hm'.symm
      · exact hr3 q hq hm'
    · rename ord4 _ _ = _ => hord
      rename _ ∧ _ ∧ _ ∧ _ ∧ _ ∧ _ ∧ _ ∧ _ ∧ _ ∧ _ ∧ AllLt _ rest' => l9
      rename News _ _ _ _ => kN
      refine UnrEnd.intro (by assumption) kN _ permP (offP hIl hIf hIc hIn (by omega) hIr) ⟨?_, ?_⟩
      · intro y h1 h2
        have q0 : y ≠ Str.ofString "order" := by rintro rfl; revert h2; decide
        have q1 : y ≠ Str.ofString "number" := by rintro rfl; revert h2; decide
        have q2 : y ≠ Str.ofString "place" := by rintro rfl; revert h2; decide
        have q3 : y ≠ Str.ofString "lesser" := by rintro rfl; revert h2; decide
        have q4 : y ≠ Str.ofString "other" := by rintro rfl; revert h2; decide
        simp only [if_neg h1, if_neg q0, if_neg q1, if_neg q2, if_neg q3, if_neg q4, h2, Bool.false_eq_true, if_false]
      · exact JP_next (X := (x0, x1, x2, x3)) hr1 hr2 hr3 hlog hrun hord (by assumption) (by assumption) (by assumption) (by assumption) (by omega) (by omega) (by omega)
  case done =>
    intro u news₁ h tk hJ F2 N2
    obtain ⟨X, k0', k1', k2', k3', lv, log, ln, rest', rfl, hr1, hr2, hr3, hlog, hrun⟩ := hJ
    repeat' (first | (k_unfold; (try dsimp only [List.nil_append, List.cons_append])) | (k_end; wrow_close) | ((first | ((with_reducible show wpAny _ _ (binaryOp Operator.Mult (Value.int _ _) (Value.int _ _)) _ _ _); (refine PyProof.Rows.mul_int ?_ (IntMulOk.of_left (bits_fdiv (by omega) (by omega) (by omega))))) | ((with_reducible show wpAny _ _ (binaryOp Operator.FloorDiv (Value.int _ _) (Value.int _ _)) _ _ _); (refine PyProof.Rows.floordiv_int (by omega) ?_)) | ((with_reducible show wpAny _ _ (setItem (Value.ref _) (Value.int _ _) _) _ _ _); (k_here; k_dflt (refine' setL ?F ?N ?U ?a ?b ?c ?_; (case F => k_asm); (case N => k_asm); (case U => (first | exact Upd.head (by (repeat (first | assumption | exact List.forall_mem_nil _ | (refine' List.forall_mem_cons.mpr ⟨?_, ?_⟩; (focus (refine neN ?_; (try dsimp only); first | assumption | exact Ne.symm (by assumption) | omega)))))) | exact Upd.tail (by (refine neN ?_; (try dsimp only); first | assumption | exact Ne.symm (by assumption) | omega)) (Upd.head (by (repeat (first | assumption | exact List.forall_mem_nil _ | (refine' List.forall_mem_cons.mpr ⟨?_, ?_⟩; (focus (refine neN ?_; (try dsimp only); first | assumption | exact Ne.symm (by assumption) | omega))))))) | exact Upd.tail (by (refine neN ?_; (try dsimp only); first | assumption | exact Ne.symm (by assumption) | omega)) (Upd.tail (by (refine neN ?_; (try dsimp only); first | assumption | exact Ne.symm (by assumption) | omega)) (Upd.head (by (repeat (first | assumption | exact List.forall_mem_nil _ | (refine' List.forall_mem_cons.mpr ⟨?_, ?_⟩; (focus (refine neN ?_; (try dsimp only); first | assumption | exact Ne.symm (by assumption) | omega)))))))) | exact Upd.tail (by (refine neN ?_; (try dsimp only); first | assumption | exact Ne.symm (by assumption) | omega)) (Upd.tail (by (refine neN ?_; (try dsimp only); first | assumption | exact Ne.symm (by assumption) | omega)) (Upd.tail (by (refine neN ?_; (try dsimp only); first | assumption | exact Ne.symm (by assumption) | omega)) (Upd.head (by (repeat (first | assumption | exact List.forall_mem_nil _ | (refine' List.forall_mem_cons.mpr ⟨?_, ?_⟩; (focus (refine neN ?_; (try dsimp only); first | assumption | exact Ne.symm (by assumption) | omega))))))))) | exact Upd.tail (by (refine neN ?_; (try dsimp only); first | assumption | exact Ne.symm (by assumption) | omega)) (Upd.tail (by (refine neN ?_; (try dsimp only); first | assumption | exact Ne.symm (by assumption) | omega)) (Upd.tail (by (refine neN ?_; (try dsimp only); first | assumption | exact Ne.symm (by assumption) | omega)) (Upd.tail (by (refine neN ?_; (try dsimp only); first | assumption | exact Ne.symm (by assumption) | omega)) (Upd.head (by (repeat (first | assumption | exact List.forall_mem_nil _ | (refine' List.forall_mem_cons.mpr ⟨?_, ?_⟩; (focus (refine neN ?_; (try dsimp only); first | assumption | exact Ne.symm (by assumption) | omega)))))))))) | exact Upd.tail (by (refine neN ?_; (try dsimp only); first | assumption | exact Ne.symm (by assumption) | omega)) (Upd.tail (by (refine neN ?_; (try dsimp only); first | assumption | exact Ne.symm (by assumption) | omega)) (Upd.tail (by (refine neN ?_; (try dsimp only); first | assumption | exact Ne.symm (by assumption) | omega)) (Upd.tail (by (refine neN ?_; (try dsimp only); first | assumption | exact Ne.symm (by assumption) | omega)) (Upd.tail (by (refine neN ?_; (try dsimp only); first | assumption | exact Ne.symm (by assumption) | omega)) (Upd.head (by (repeat (first | assumption | exact List.forall_mem_nil _ | (refine' List.forall_mem_cons.mpr ⟨?_, ?_⟩; (focus (refine neN ?_; (try dsimp only); first | assumption | exact Ne.symm (by assumption) | omega))))))))))) | exact Upd.tail (by (refine neN ?_; (try dsimp only); first | assumption | exact Ne.symm (by assumption) | omega)) (Upd.tail (by (refine neN ?_; (try dsimp only); first | assumption | exact Ne.symm (by assumption) | omega)) (Upd.tail (by (refine neN ?_; (try dsimp only); first | assumption | exact Ne.symm (by assumption) | omega)) (Upd.tail (by (refine neN ?_; (try dsimp only); first | assumption | exact Ne.symm (by assumption) | omega)) (Upd.tail (by (refine neN ?_; (try dsimp only); first | assumption | exact Ne.symm (by assumption) | omega)) (Upd.tail (by (refine neN ?_; (try dsimp only); first | assumption | exact Ne.symm (by assumption) | omega)) (Upd.head (by (repeat (first | assumption | exact List.forall_mem_nil _ | (refine' List.forall_mem_cons.mpr ⟨?_, ?_⟩; (focus (refine neN ?_; (try dsimp only); first | assumption | exact Ne.symm (by assumption) | omega)))))))))))) | exact Upd.tail (by (refine neN ?_; (try dsimp only); first | assumption | exact Ne.symm (by assumption) | omega)) (Upd.tail (by (refine neN ?_; (try dsimp only); first | assumption | exact Ne.symm (by assumption) | omega)) (Upd.tail (by (refine neN ?_; (try dsimp only); first | assumption | exact Ne.symm (by assumption) | omega)) (Upd.tail (by (refine neN ?_; (try dsimp only); first | assumption | exact Ne.symm (by assumption) | omega)) (Upd.tail (by (refine neN ?_; (try dsimp only); first | assumption | exact Ne.symm (by assumption) | omega)) (Upd.tail (by (refine neN ?_; (try dsimp only); first | assumption | exact Ne.symm (by assumption) | omega)) (Upd.tail (by (refine neN ?_; (try dsimp only); first | assumption | exact Ne.symm (by assumption) | omega)) (Upd.head (by (repeat (first | assumption | exact List.forall_mem_nil _ | (refine' List.forall_mem_cons.mpr ⟨?_, ?_⟩; (focus (refine neN ?_; (try dsimp only); first | assumption | exact Ne.symm (by assumption) | omega))))))))))))) | exact Upd.tail (by (refine neN ?_; (try dsimp only); first | assumption | exact Ne.symm (by assumption) | omega)) (Upd.tail (by (refine neN ?_; (try dsimp only); first | assumption | exact Ne.symm (by assumption) | omega)) (Upd.tail (by (refine neN ?_; (try dsimp only); first | assumption | exact Ne.symm (by assumption) | omega)) (Upd.tail (by (refine neN ?_; (try dsimp only); first | assumption | exact Ne.symm (by assumption) | omega)) (Upd.tail (by (refine neN ?_; (try dsimp only); first | assumption | exact Ne.symm (by assumption) | omega)) (Upd.tail (by (refine neN ?_; (try dsimp only); first | assumption | exact Ne.symm (by assumption) | omega)) (Upd.tail (by (refine neN ?_; (try dsimp only); first | assumption | exact Ne.symm (by assumption) | omega)) (Upd.tail (by (refine neN ?_; (try dsimp only); first | assumption | exact Ne.symm (by assumption) | omega)) (Upd.head (by (repeat (first | assumption | exact List.forall_mem_nil _ | (refine' List.forall_mem_cons.mpr ⟨?_, ?_⟩; (focus (refine neN ?_; (try dsimp only); first | assumption | exact Ne.symm (by assumption) | omega)))))))))))))) | exact Upd.tail (by (refine neN ?_; (try dsimp only); first | assumption | exact Ne.symm (by assumption) | omega)) (Upd.tail (by (refine neN ?_; (try dsimp only); first | assumption | exact Ne.symm (by assumption) | omega)) (Upd.tail (by (refine neN ?_; (try dsimp only); first | assumption | exact Ne.symm (by assumption) | omega)) (Upd.tail (by (refine neN ?_; (try dsimp only); first | assumption | exact Ne.symm (by assumption) | omega)) (Upd.tail (by (refine neN ?_; (try dsimp only); first | assumption | exact Ne.symm (by assumption) | omega)) (Upd.tail (by (refine neN ?_; (try dsimp only); first | assumption | exact Ne.symm (by assumption) | omega)) (Upd.tail (by (refine neN ?_; (try dsimp only); first | assumption | exact Ne.symm (by assumption) | omega)) (Upd.tail (by (refine neN ?_; (try dsimp only); first | assumption | exact Ne.symm (by assumption) | omega)) (Upd.tail (by (refine neN ?_; (try dsimp only); first | assumption | exact Ne.symm (by assumption) | omega)) (Upd.head (by (repeat (first | assumption | exact List.forall_mem_nil _ | (refine' List.forall_mem_cons.mpr ⟨?_, ?_⟩; (focus (refine neN ?_; (try dsimp only); first | assumption | exact Ne.symm (by assumption) | omega))))))))))))))) | exact Upd.tail (by (refine neN ?_; (try dsimp only); first | assumption | exact Ne.symm (by assumption) | omega)) (Upd.tail (by (refine neN ?_; (try dsimp only); first | assumption | exact Ne.symm (by assumption) | omega)) (Upd.tail (by (refine neN ?_; (try dsimp only); first | assumption | exact Ne.symm (by assumption) | omega)) (Upd.tail (by (refine neN ?_; (try dsimp only); first | assumption | exact Ne.symm (by assumption) | omega)) (Upd.tail (by (refine neN ?_; (try dsimp only); first | assumption | exact Ne.symm (by assumption) | omega)) (Upd.tail (by (refine neN ?_; (try dsimp only); first | assumption | exact Ne.symm (by assumption) | omega)) (Upd.tail (by (refine neN ?_; (try dsimp only); first | assumption | exact Ne.symm (by assumption) | omega)) (Upd.tail (by (refine neN ?_; (try dsimp only); first | assumption | exact Ne.symm (by assumption) | omega)) (Upd.tail (by (refine neN ?_; (try dsimp only); first | assumption | exact Ne.symm (by assumption) | omega)) (Upd.tail (by (refine neN ?_; (try dsimp only); first | assumption | exact Ne.symm (by assumption) | omega)) (Upd.head (by (repeat (first | assumption | exact List.forall_mem_nil _ | (refine' List.forall_mem_cons.mpr ⟨?_, ?_⟩; (focus (refine neN ?_; (try dsimp only); first | assumption | exact Ne.symm (by assumption) | omega)))))))))))))))))); (case a => omega); (case b => (simp only [List.length_cons, List.length_nil]; omega)); (case c => omega); k_whole); intro h_wp F_wp N_wp; (try k_sweep))) | ((with_reducible show wpAny _ _ (call (Value.builtin "sorted") _) _ _ _); (k_here; k_dflt (refine' sortedP ?F ?N ?l ?m0 ?m1 ?m2 ?m3 ?y ?b ?_; (case F => k_asm); (case N => k_asm); (case l => k_mem); (case m0 => k_mem); (case m1 => k_mem); (case m2 => k_mem); (case m3 => k_mem); (case y => exact ⟨rfl, rfl, rfl, rfl⟩); (case b => assumption); k_whole); intro D_wp h_wp z_wp a_wp b_wp c_wp d_wp bc_wp bd_wp ho_wp c4_wp d4_wp cd_wp p_wp q_wp tp_wp tq_wp up_wp uq_wp ep_wp eq_wp mp_wp mq_wp v1_wp v2_wp F_wp N_wp l1_w; (try k_lt l1_w); (try k_sweep))) | ((with_reducible show LCg.CompEnd _ _ _ _ _ _ _ _ _ _ _ _ _ _); (refine' compEnd1 ?F ?N ?T ?O ?S ?_; (case N => assumption); (case F => assumption); (case T => omega); (case O => assumption); (case S => trivial))) | ((with_reducible show LCg.CompRest _ _ _ _ _ _ _ _ _ _ _ _ _ _ _ _ _ _ _); (with_unfolding_all first | (refine LCg.CompRest.succ ?_; intro v_wp I_wp oI_wp C_wp oC_wp D_wp m_wp h_wp tk_wp E_wp hv_wp hC_wp hx_wp F_wp N_wp off_wp ne_wp; clear ne_wp; (first | lcg_open hv_wp | (obtain ⟨t9_wp, hv9_wp⟩ := hv_wp; subst hv9_wp))) | refine LCg.CompRest.zero ?_)) | (k_here; (with_reducible show wpAny _ _ (call (Value.builtin _) [Value.ref _, _]) _ _ _); k_dflt (refine' append_K ?k1 ?k2 ?k3 ?_ ?z; (case k1 => k_asm); (case k2 => k_asm); (case k3 => (first | exact Upd.head (by (repeat (first | assumption | exact List.forall_mem_nil _ | (refine' List.forall_mem_cons.mpr ⟨?_, ?_⟩; (focus (refine neN ?_; (try dsimp only); first | assumption | exact Ne.symm (by assumption) | omega)))))) | exact Upd.tail (by (refine neN ?_; (try dsimp only); first | assumption | exact Ne.symm (by assumption) | omega)) (Upd.head (by (repeat (first | assumption | exact List.forall_mem_nil _ | (refine' List.forall_mem_cons.mpr ⟨?_, ?_⟩; (focus (refine neN ?_; (try dsimp only); first | assumption | exact Ne.symm (by assumption) | omega))))))) | exact Upd.tail (by (refine neN ?_; (try dsimp only); first | assumption | exact Ne.symm (by assumption) | omega)) (Upd.tail (by (refine neN ?_; (try dsimp only); first | assumption | exact Ne.symm (by assumption) | omega)) (Upd.head (by (repeat (first | assumption | exact List.forall_mem_nil _ | (refine' List.forall_mem_cons.mpr ⟨?_, ?_⟩; (focus (refine neN ?_; (try dsimp only); first | assumption | exact Ne.symm (by assumption) | omega)))))))) | exact Upd.tail (by (refine neN ?_; (try dsimp only); first | assumption | exact Ne.symm (by assumption) | omega)) (Upd.tail (by (refine neN ?_; (try dsimp only); first | assumption | exact Ne.symm (by assumption) | omega)) (Upd.tail (by (refine neN ?_; (try dsimp only); first | assumption | exact Ne.symm (by assumption) | omega)) (Upd.head (by (repeat (first | assumption | exact List.forall_mem_nil _ | (refine' List.forall_mem_cons.mpr ⟨?_, ?_⟩; (focus (refine neN ?_; (try dsimp only); first | assumption | exact Ne.symm (by assumption) | omega))))))))) | exact Upd.tail (by (refine neN ?_; (try dsimp only); first | assumption | exact Ne.symm (by assumption) | omega)) (Upd.tail (by (refine neN ?_; (try dsimp only); first | assumption | exact Ne.symm (by assumption) | omega)) (Upd.tail (by (refine neN ?_; (try dsimp only); first | assumption | exact Ne.symm (by assumption) | omega)) (Upd.tail (by (refine neN ?_; (try dsimp only); first | assumption | exact Ne.symm (by assumption) | omega)) (Upd.head (by (repeat (first | assumption | exact List.forall_mem_nil _ | (refine' List.forall_mem_cons.mpr ⟨?_, ?_⟩; (focus (refine neN ?_; (try dsimp only); first | assumption | exact Ne.symm (by assumption) | omega)))))))))) | exact Upd.tail (by (refine neN ?_; (try dsimp only); first | assumption | exact Ne.symm (by assumption) | omega)) (Upd.tail (by (refine neN ?_; (try dsimp only); first | assumption | exact Ne.symm (by assumption) | omega)) (Upd.tail (by (refine neN ?_; (try dsimp only); first | assumption | exact Ne.symm (by assumption) | omega)) (Upd.tail (by (refine neN ?_; (try dsimp only); first | assumption | exact Ne.symm (by assumption) | omega)) (Upd.tail (by (refine neN ?_; (try dsimp only); first | assumption | exact Ne.symm (by assumption) | omega)) (Upd.head (by (repeat (first | assumption | exact List.forall_mem_nil _ | (refine' List.forall_mem_cons.mpr ⟨?_, ?_⟩; (focus (refine neN ?_; (try dsimp only); first | assumption | exact Ne.symm (by assumption) | omega))))))))))) | exact Upd.tail (by (refine neN ?_; (try dsimp only); first | assumption | exact Ne.symm (by assumption) | omega)) (Upd.tail (by (refine neN ?_; (try dsimp only); first | assumption | exact Ne.symm (by assumption) | omega)) (Upd.tail (by (refine neN ?_; (try dsimp only); first | assumption | exact Ne.symm (by assumption) | omega)) (Upd.tail (by (refine neN ?_; (try dsimp only); first | assumption | exact Ne.symm (by assumption) | omega)) (Upd.tail (by (refine neN ?_; (try dsimp only); first | assumption | exact Ne.symm (by assumption) | omega)) (Upd.tail (by (refine neN ?_; (try dsimp only); first | assumption | exact Ne.symm (by assumption) | omega)) (Upd.head (by (repeat (first | assumption | exact List.forall_mem_nil _ | (refine' List.forall_mem_cons.mpr ⟨?_, ?_⟩; (focus (refine neN ?_; (try dsimp only); first | assumption | exact Ne.symm (by assumption) | omega)))))))))))) | exact Upd.tail (by (refine neN ?_; (try dsimp only); first | assumption | exact Ne.symm (by assumption) | omega)) (Upd.tail (by (refine neN ?_; (try dsimp only); first | assumption | exact Ne.symm (by assumption) | omega)) (Upd.tail (by (refine neN ?_; (try dsimp only); first | assumption | exact Ne.symm (by assumption) | omega)) (Upd.tail (by (refine neN ?_; (try dsimp only); first | assumption | exact Ne.symm (by assumption) | omega)) (Upd.tail (by (refine neN ?_; (try dsimp only); first | assumption | exact Ne.symm (by assumption) | omega)) (Upd.tail (by (refine neN ?_; (try dsimp only); first | assumption | exact Ne.symm (by assumption) | omega)) (Upd.tail (by (refine neN ?_; (try dsimp only); first | assumption | exact Ne.symm (by assumption) | omega)) (Upd.head (by (repeat (first | assumption | exact List.forall_mem_nil _ | (refine' List.forall_mem_cons.mpr ⟨?_, ?_⟩; (focus (refine neN ?_; (try dsimp only); first | assumption | exact Ne.symm (by assumption) | omega))))))))))))) | exact Upd.tail (by (refine neN ?_; (try dsimp only); first | assumption | exact Ne.symm (by assumption) | omega)) (Upd.tail (by (refine neN ?_; (try dsimp only); first | assumption | exact Ne.symm (by assumption) | omega)) (Upd.tail (by (refine neN ?_; (try dsimp only); first | assumption | exact Ne.symm (by assumption) | omega)) (Upd.tail (by (refine neN ?_; (try dsimp only); first | assumption | exact Ne.symm (by assumption) | omega)) (Upd.tail (by (refine neN ?_; (try dsimp only); first | assumption | exact Ne.symm (by assumption) | omega)) (Upd.tail (by (refine neN ?_; (try dsimp only); first | assumption | exact Ne.symm (by assumption) | omega)) (Upd.tail (by (refine neN ?_; (try dsimp only); first | assumption | exact Ne.symm (by assumption) | omega)) (Upd.tail (by (refine neN ?_; (try dsimp only); first | assumption | exact Ne.symm (by assumption) | omega)) (Upd.head (by (repeat (first | assumption | exact List.forall_mem_nil _ | (refine' List.forall_mem_cons.mpr ⟨?_, ?_⟩; (focus (refine neN ?_; (try dsimp only); first | assumption | exact Ne.symm (by assumption) | omega)))))))))))))) | exact Upd.tail (by (refine neN ?_; (try dsimp only); first | assumption | exact Ne.symm (by assumption) | omega)) (Upd.tail (by (refine neN ?_; (try dsimp only); first | assumption | exact Ne.symm (by assumption) | omega)) (Upd.tail (by (refine neN ?_; (try dsimp only); first | assumption | exact Ne.symm (by assumption) | omega)) (Upd.tail (by (refine neN ?_; (try dsimp only); first | assumption | exact Ne.symm (by assumption) | omega)) (Upd.tail (by (refine neN ?_; (try dsimp only); first | assumption | exact Ne.symm (by assumption) | omega)) (Upd.tail (by (refine neN ?_; (try dsimp only); first | assumption | exact Ne.symm (by assumption) | omega)) (Upd.tail (by (refine neN ?_; (try dsimp only); first | assumption | exact Ne.symm (by assumption) | omega)) (Upd.tail (by (refine neN ?_; (try dsimp only); first | assumption | exact Ne.symm (by assumption) | omega)) (Upd.tail (by (refine neN ?_; (try dsimp only); first | assumption | exact Ne.symm (by assumption) | omega)) (Upd.head (by (repeat (first | assumption | exact List.forall_mem_nil _ | (refine' List.forall_mem_cons.mpr ⟨?_, ?_⟩; (focus (refine neN ?_; (try dsimp only); first | assumption | exact Ne.symm (by assumption) | omega))))))))))))))) | exact Upd.tail (by (refine neN ?_; (try dsimp only); first | assumption | exact Ne.symm (by assumption) | omega)) (Upd.tail (by (refine neN ?_; (try dsimp only); first | assumption | exact Ne.symm (by assumption) | omega)) (Upd.tail (by (refine neN ?_; (try dsimp only); first | assumption | exact Ne.symm (by assumption) | omega)) (Upd.tail (by (refine neN ?_; (try dsimp only); first | assumption | exact Ne.symm (by assumption) | omega)) (Upd.tail (by (refine neN ?_; (try dsimp only); first | assumption | exact Ne.symm (by assumption) | omega)) (Upd.tail (by (refine neN ?_; (try dsimp only); first | assumption | exact Ne.symm (by assumption) | omega)) (Upd.tail (by (refine neN ?_; (try dsimp only); first | assumption | exact Ne.symm (by assumption) | omega)) (Upd.tail (by (refine neN ?_; (try dsimp only); first | assumption | exact Ne.symm (by assumption) | omega)) (Upd.tail (by (refine neN ?_; (try dsimp only); first | assumption | exact Ne.symm (by assumption) | omega)) (Upd.tail (by (refine neN ?_; (try dsimp only); first | assumption | exact Ne.symm (by assumption) | omega)) (Upd.head (by (repeat (first | assumption | exact List.forall_mem_nil _ | (refine' List.forall_mem_cons.mpr ⟨?_, ?_⟩; (focus (refine neN ?_; (try dsimp only); first | assumption | exact Ne.symm (by assumption) | omega)))))))))))))))))); (case z => assumption); k_whole); intro h_wp F_wp N_wp; (try k_sweep))); try k_fold) | (walk1; try k_fold) | (dsimp only; walk1; try k_fold) | (leave1; (try dsimp only)))
    rename Fr h₀ _ _ _ => kF
    rename News h₀ _ _ _ => kN
    rename Fr g' L' _ _ => fF
    rename News g' L' _ _ => fN
    refine hret _ _ _ _ kF (back_all (new := (_, listOf lv.toArray ln) :: rest') N hsub S' fF kN subD (List.forall_mem_singleton.mpr (by simp))) ⟨_, rfl, apart_all N S' fN subD ?_, ⟨_, lv, ln, log, 60, X, rest', rfl, rfl, hr1, hlog, hrun, .inl rfl⟩⟩
    intro q hq hm
    have hm' := List.mem_singleton.mp hm
    rcases List.mem_cons.mp hq with rfl | hq
    · exact nl hm'.symm
    · exact hr3 q hq hm'
end
end Mine

/-! # L10 -/
namespace Mine
theorem fresh_L10 : True := by
  w_top off
  exact True.intro
section
local macro_rules | `(tactic| k_units) => `(tactic| ktr_units)
local macro_rules | `(tactic| lcg_off) => `(tactic| assumption)

theorem times {w : World} {ro co : Addr} {a0 a1 a2 a3 b0 b1 b2 b3 : Int} {u0 u1 u2 u3 v0 v1 v2 v3 : Tok} {e1 e2 : Nat} {news : List (Addr × Obj)}
    (z0 : IntMulOk a0 b0) (z1 : IntMulOk a1 b1) (z2 : IntMulOk a2 b2) (z3 : IntMulOk a3 b3)
    (hsub : ∀ p ∈ [(ro, listOf #[.int a0 u0, .int a1 u1, .int a2 u2, .int a3 u3] e1), (co, listOf #[.int b0 v0, .int b1 v1, .int b2 v2, .int b3 v3] e2)], p ∈ news) :
    CallOk w 9 133 [.ref ro, .ref co] news (fun r n => n = news ∧ ∃ tk, r = .int (a0 * b0 + (a1 * b1 + (a2 * b2 + (a3 * b3 + 0)))) tk) := by
  have hz : ∀ i, IntMulOk (pick a0 a1 a2 a3 i) (pick b0 b1 b2 b3 i) := fun i => match i with
    | 0 => z0
    | 1 => z1
    | 2 => z2
    | _ + 3 => z3
  have hK : (hd.heap_39, PySem.Challenge.rw_mr0075_01) = (hd.heap_39, PySem.Challenge.rw_mr0075_01) := by k_fill; rfl
  clear hK
  intro dp un gd cn cs a ccd cl outer A₀ base h₀ L m s p loose mean mg mb Q E B F X N T hk hd hu hret
  refine wpAny_call ?_
  k_dflt (refine' code_defCF ?k1 ?k2 ?k3 ?k4 hsub ?k5 ?kA ?kF ?kK ?k6 ?k7 ?k8 ?k9 ?kB ?kD ?_ ?c2 ?c3 ?c4; (case kA => exact rfl); (case kF => exact rfl); (case kK => assumption); (case k1 => k_asm); (case k2 => k_asm); (case k3 => k_asm); (case k4 => k_asm); (case k5 => k_asm); (case k6 => k_is); (case k7 => k_is); (case k8 => ktr_room); (case k9 => exact BindsTo.of_eq rfl); (case kB => exact rfl); (case kD => decide +kernel); (case c2 => exact rfl); (case c3 => exact rfl); (case c4 => exact rfl); k_whole)
  intro g' L' h' tk' cells' FG' F' N' Y' B' X' T' l1 S'
  (try k_lt l1); k_cells Y'; (try simp only [List.cons_append, List.nil_append] at N'); (try dsimp only); (try k_fold)
  repeat' (first | (k_unfold; (try dsimp only [List.nil_append, List.cons_append])) | (k_end; wrow_close) | ((first | ((with_reducible show LCg.CompSrc _ _ _ _ _ _ _ _ _ _ _ _ _ _); (k_here; k_dflt (refine LCg.CompSrc.range (by rfl) (by k_asm) (by k_asm) (by assumption) (by first | decide | rfl) (by first | rfl | decide) (by first | size_fits | exact Nat.le_of_ble_eq_true rfl) ?_; intro g_wp; lcg_lit)))); try k_fold) | ((fail_if_success (with_reducible show LCg.CompRest _ _ _ _ _ _ _ _ _ _ _ _ _ _ _ _ _ _ _)); first | (walk1; try k_fold) | (dsimp only; walk1; try k_fold)) | (leave1; (try dsimp only)))
  refine comp_turns (JC (fun k => pick a0 a1 a2 a3 k * pick b0 b1 b2 b3 k) _) JC.zero ?turn ?fin
  case turn =>
    intro i ys led hi hJ v I oI C oC D m₂ h tk E' hv hC hx F2 N2 off ne
    clear ne
    have e := hJ.1
    subst e
    obtain ⟨t, rfl⟩ := hv
    repeat' (first | (k_unfold; (try dsimp only [List.nil_append, List.cons_append])) | (k_end; wrow_close) | ((first | ((with_reducible show wpAny _ _ (subscriptTail _ _ (Value.ref _) (Value.int _ _)) _ _ _); (with_unfolding_all refine' item_led ?N ?m ?a ?b ?x ?_ ?z; (case N => k_dflt k_asm); (case m => k_dflt k_mem); (case a => k_dflt (exact i4_lo)); (case b => k_dflt (exact i4_hi (by assumption))); (case x => k_dflt (exact its4i (by assumption))); (case z => with_unfolding_all rfl); k_whole)) | ((with_reducible show wpAny _ _ (binaryOp Operator.Mult (Value.int _ _) (Value.int _ _)) _ _ _); (refine PyProof.Rows.mul_int ?_ (hz _)))); try k_fold) | (walk1; try k_fold) | (dsimp only; walk1; try k_fold) | (leave1; (try dsimp only)))
    exact hJ.next
  case fin =>
    intro ys led hJ
    obtain ⟨rfl, t0, t1, t2, t3, rfl⟩ := hJ.four
    repeat' (first | (k_unfold; (try dsimp only [List.nil_append, List.cons_append])) | (k_end; wrow_close) | (walk1; try k_fold) | (dsimp only; walk1; try k_fold) | (leave1; (try dsimp only)))
    rename Fr h₀ _ _ _ => kF
    rename News h₀ _ _ _ => kN
    rename Fr g' L' _ _ => fF
    exact hret _ _ _ _ kF (back_all (new := []) N hsub S' fF kN (List.forall_mem_nil _) (by lcg_sub)) ⟨rfl, _, rfl⟩
end
end Mine

/-! # L11 -/
namespace Mine
theorem fresh_L11 : True := by
  w_top off
  exact True.intro
section
local macro_rules | `(tactic| k_units) => `(tactic| ktr_units)
local macro_rules | `(tactic| lcg_off) => `(tactic| assumption)

theorem unit {w : World} {pl : Int} {tp : Tok} {news : List (Addr × Obj)} (hp : pl = 0 ∨ pl = 1 ∨ pl = 2 ∨ pl = 3) :
    MakeOk w 9 87 [.int pl tp] news (fun r new => ∃ D k0 k1 k2 k3 ep, r = .ref D ∧ new = [(D, listOf #[.int (if (0 : Int) = pl then 1 else 0) k0, .int (if (1 : Int) = pl then 1 else 0) k1, .int (if (2 : Int) = pl then 1 else 0) k2, .int (if (3 : Int) = pl then 1 else 0) k3] ep)]) := by
  have hsub : ∀ p ∈ ([] : List (Addr × Obj)), p ∈ news := fun _ h => nomatch h
  have hK : (hd.heap_39, PySem.Challenge.rw_mr0075_01) = (hd.heap_39, PySem.Challenge.rw_mr0075_01) := by k_fill; rfl
  clear hK
  intro dp un gd cn cs a ccd cl outer A₀ base h₀ L m s p loose mean mg mb Q E B F X N T hk hd hu hret
  refine wpAny_call ?_
  k_dflt (refine' code_defCF ?k1 ?k2 ?k3 ?k4 hsub ?k5 ?kA ?kF ?kK ?k6 ?k7 ?k8 ?k9 ?kB ?kD ?_ ?c2 ?c3 ?c4; (case kA => exact rfl); (case kF => exact rfl); (case kK => assumption); (case k1 => k_asm); (case k2 => k_asm); (case k3 => k_asm); (case k4 => k_asm); (case k5 => k_asm); (case k6 => k_is); (case k7 => k_is); (case k8 => ktr_room); (case k9 => exact BindsTo.of_eq rfl); (case kB => exact rfl); (case kD => decide +kernel); (case c2 => exact rfl); (case c3 => exact rfl); (case c4 => exact rfl); k_whole)
  intro g' L' h' tk' cells' FG' F' N' Y' B' X' T' l1 S'
  (try k_lt l1); k_cells Y'; (try simp only [List.cons_append, List.nil_append] at N'); (try dsimp only); (try k_fold)
  repeat' (first | (k_unfold; (try dsimp only [List.nil_append, List.cons_append])) | (k_end; wrow_close) | ((first | ((with_reducible show LCg.CompSrc _ _ _ _ _ _ _ _ _ _ _ _ _ _); (k_here; k_dflt (refine LCg.CompSrc.range (by rfl) (by k_asm) (by k_asm) (by assumption) (by first | decide | rfl) (by first | rfl | decide) (by first | size_fits | exact Nat.le_of_ble_eq_true rfl) ?_; intro g_wp; lcg_lit)))); try k_fold) | ((fail_if_success (with_reducible show LCg.CompRest _ _ _ _ _ _ _ _ _ _ _ _ _ _ _ _ _ _ _)); first | (walk1; try k_fold) | (dsimp only; walk1; try k_fold)) | (leave1; (try dsimp only)))
  refine comp_turns (JC (fun k => if ((k : Nat) : Int) = pl then 1 else 0) _) JC.zero ?turn ?fin
  case turn =>
    intro i ys led hi hJ v I oI C oC D m₂ h tk E' hv hC hx F2 N2 off ne
    clear ne
    have e := hJ.1
    subst e
    obtain ⟨t, rfl⟩ := hv
    repeat' (first | (k_unfold; (try dsimp only [List.nil_append, List.cons_append])) | (k_end; wrow_close) | (walk1; try k_fold) | (dsimp only; walk1; try k_fold) | (leave1; (try dsimp only)))
    all_goals
      refine hJ.next' ?_
      first
        | (rename _ ≠ _ => e9; exact (if_neg (fun x => e9 ((Int.zero_add _).trans x))).symm)
        | (rename 0 + _ = _ => e9; exact (if_pos ((Int.zero_add _).symm.trans e9)).symm)
  case fin =>
    intro ys led hJ
    obtain ⟨rfl, t0, t1, t2, t3, rfl⟩ := hJ.four
    repeat' (first | (k_unfold; (try dsimp only [List.nil_append, List.cons_append])) | (k_end; wrow_close) | (walk1; try k_fold) | (dsimp only; walk1; try k_fold) | (leave1; (try dsimp only)))
    rename Fr h₀ _ _ _ => kF
    rename News h₀ _ _ _ => kN
    rename Fr g' L' _ _ => fF
    rename News g' L' _ _ => fN
    refine hret _ _ _ _ kF (back_all (new := [(_, listOf #[.int _ _, .int _ _, .int _ _, .int _ _] _)]) N hsub S' fF kN (List.forall_mem_singleton.mpr (.head _)) (List.forall_mem_nil _)) ⟨_, rfl, ?_, ⟨_, _, _, _, _, _, rfl, rfl⟩⟩
    exact apart_all N S' fN (List.forall_mem_singleton.mpr (.head _)) (List.forall_mem_singleton.mpr (List.not_mem_nil))
end
end Mine

/-! # L12 -/
namespace Mine
theorem fresh_L12 : True := by
  w_top off
  exact True.intro

/-- a row of four ints of the ledger -/
def RowAt (l : List (Addr × Obj)) (R : Addr) (c0 c1 c2 c3 : Int) : Prop := ∃ k0 k1 k2 k3 e, (R, listOf #[.int c0 k0, .int c1 k1, .int c2 k2, .int c3 k3] e) ∈ l
section
local macro_rules | `(tactic| k_units) => `(tactic| ktr_units)
local macro_rules | `(tactic| walk_at "CompSrc") => `(tactic| (k_here; k_dflt (refine srcR (by rfl) (by k_asm) (by k_asm) (by assumption) ?_; intro g'; lcg_lit)))

theorem place4 {i : Nat} (hi : i < 4) : 0 + (i : Int) = 0 ∨ 0 + (i : Int) = 1 ∨ 0 + (i : Int) = 2 ∨ 0 + (i : Int) = 3 := by omega
theorem rowAt_of {C : Rw} {l : List (Addr × Obj)} {a b c d : Int} (h : C.row = (a, b, c, d)) (hm : rowP C ∈ l) : RowAt l C.a a b c d := ⟨_, _, _, _, _, rowP_of h ▸ hm⟩
/-- the row of a place -/
def unitR (j : Nat) : Ent := (if (0 : Int) = 0 + (j : Int) then 1 else 0, if (1 : Int) = 0 + (j : Int) then 1 else 0, if (2 : Int) = 0 + (j : Int) then 1 else 0, if (3 : Int) = 0 + (j : Int) then 1 else 0)
theorem units {w : World} {news : List (Addr × Obj)} :
    MakeOk w 14 148 [] news (fun r new => ∃ D R0 R1 R2 R3 e l, r = .ref D ∧ new = (D, listOf #[.ref R0, .ref R1, .ref R2, .ref R3] e) :: l ∧ RowAt l R0 1 0 0 0 ∧ RowAt l R1 0 1 0 0 ∧ RowAt l R2 0 0 1 0 ∧ RowAt l R3 0 0 0 1 ∧ (∀ p ∈ l, p.1 ≠ D)) := by
  have hsub : ∀ p ∈ ([] : List (Addr × Obj)), p ∈ news := fun _ h => nomatch h
  have hK : (hd.heap_39, PySem.Challenge.rw_mr0075_01) = (hd.heap_39, PySem.Challenge.rw_mr0075_01) := by k_fill; rfl
  clear hK
  intro dp un gd cn cs a ccd cl outer A₀ base h₀ L m s p loose mean mg mb Q E B F X N T hk hd hu hret
  refine wpAny_call ?_
  k_dflt (refine' code_defF ?k1 ?k2 ?k3 ?k4 hsub ?k5 ?kA ?kF ?kK ?k6 ?k7 ?k8 ?k9 ?kB ?_ ?c2 ?c3 ?c4 ?c5; (case kA => exact rfl); (case kF => exact rfl); (case kK => assumption); (case k1 => k_asm); (case k2 => k_asm); (case k3 => k_asm); (case k4 => k_asm); (case k5 => k_asm); (case k6 => k_is); (case k7 => k_is); (case k8 => ktr_room); (case k9 => exact BindsTo.of_eq rfl); (case c5 => decide); (case kB => exact locs rfl); (case c2 => exact rfl); (case c3 => exact rfl); (case c4 => exact rfl); k_whole)
  intro g' L' h' FG' F' N' B' X' T' S'
  (try dsimp only); (try k_fold)
  repeat' (first | (k_unfold; (try dsimp only)) | (k_end; wrow_close) | ((first | ((with_reducible show LCg.CompSrc _ _ _ _ _ _ _ _ _ _ _ _ _ _); (k_here; k_dflt (refine LCg.CompSrc.range (by rfl) (by k_asm) (by k_asm) (by assumption) (by first | decide | rfl) (by first | rfl | decide) (by first | size_fits | exact Nat.le_of_ble_eq_true rfl) ?_; intro g_wp; lcg_lit))))) | ((fail_if_success (with_reducible show LCg.CompRest _ _ _ _ _ _ _ _ _ _ _ _ _ _ _ _ _ _ _)); first | (walk1) | (dsimp only; walk1)) | (leave1; (try dsimp only)))
  refine comp_turns (JM Rw.a (fun T => [rowP T]) (fun j T => T.row = unitR j) _) JM.zero ?turn ?fin
  case turn =>
    intro i ys led hi hJ v I oI C oC D m₂ h tk E' hv hC hx F2 N2 off ne
    clear ne
    obtain ⟨t, rfl⟩ := hv
    repeat' (first | (k_unfold; (try dsimp only)) | (k_end; wrow_close) | ((first | ((with_reducible show wpAny _ _ (call (Value.ref _) _) _ _ _); first | (k_here; (with_reducible show wpAny _ _ (call (Value.ref 87) _) _ _ _); k_dflt (refine' CallOk.use (unit (hp := ?q0)) ?kB ?kF ?kX ?kN ?kT ?kk ?kd ?ku ?_; (case kN => k_asm); (case q0 => exact place4 hi); (case kB => k_asm); (case kF => k_asm); (case kX => k_asm); (case kT => k_asm); (case kk => exact rfl); (case kd => ktr_room); (case ku => ktr_units); k_whole); intro r9_w n9_w h9_w tk9_w F9_w N9_w P9_w; obtain ⟨new9_w, P8_w, P7_w, D9_w, k90_w, k91_w, k92_w, k93_w, e9_w, P6_w, P5_w⟩ := P9_w; subst P6_w; subst P5_w; subst P8_w; (simp only [List.cons_append, List.nil_append] at N9_w); (rcases offs P7_w with o9_w); (simp only [LCg.Off1, and_true] at o9_w); clear P7_w; (try k_sweep); (try dsimp only))))) | ((fail_if_success (with_reducible show LCg.CompEnd _ _ _ _ _ _ _ _ _ _ _ _ _ _)); first | (walk1) | (dsimp only; walk1)) | (leave1; (try dsimp only)))
    rename _ ∧ _ ∧ _ ∧ LCg.Off1 _ led => o9
    exact compEndA (by assumption) (by assumption) ⟨Ne.symm o9.1, Ne.symm o9.2.1, Ne.symm o9.2.2.1⟩ off trivial (hJ.next ⟨_, _, _, _, _, _, _, _, _, _⟩ (fun p hp => List.forall_mem_singleton.mpr (off_of o9.2.2.2 p hp)) rfl)
  case fin =>
    intro ys led hJ
    obtain ⟨C0, C1, C2, C3, rfl, hin, hne, f0, f1, f2, f3⟩ := hJ.four
    unfold LCg.FinE
    intro D h tk F2 N2 off2
    have N3 := News.sub2 N2 hin
    have nD := off_of off2
    clear N2 off2
    repeat' (first | (k_unfold; (try dsimp only)) | (k_end; wrow_close) | (walk1) | (dsimp only; walk1) | (leave1; (try dsimp only)))
    rename Fr h₀ _ _ _ => kF
    rename News h₀ _ _ _ => kN
    rename Fr g' L' _ _ => fF
    rename News g' L' _ _ => fN
    refine hret _ _ _ _ kF (back_all (new := [_, _, _, _, _]) N hsub S' fF kN (fun p hp => hp) (List.forall_mem_nil _)) ⟨_, rfl, ?_, ⟨_, _, _, _, _, _, _, rfl, rfl, rowAt_of f0 (.head _), rowAt_of f1 (.tail _ (.head _)), rowAt_of f2 (.tail _ (.tail _ (.head _))), rowAt_of f3 (.tail _ (.tail _ (.tail _ (.head _)))), fun p hp => nD p (hin p hp)⟩⟩
    exact apart_all N S' fN (fun p hp => hp) (fun _ _ => List.not_mem_nil)
end
abbrev prsT (T : RT) : List (Addr × Obj) := [(T.a, tupObj #[.int T.p.x T.u, .int T.p.y T.v, .ref T.r] T.e), (T.r, listOf #[.int T.p.c0 T.k0, .int T.p.c1 T.k1, .int T.p.c2 T.k2, .int T.p.c3 T.k3] T.f)]
theorem all4 {α : Type} {P : α → Prop} {a b c d : List α} (h : (∀ q ∈ a, P q) ∧ (∀ q ∈ b, P q) ∧ (∀ q ∈ c, P q) ∧ (∀ q ∈ d, P q)) : ∀ q ∈ a ++ (b ++ (c ++ (d ++ []))), P q := fun p hp =>
  (List.mem_append.mp hp).elim (h.1 p) fun hp => (List.mem_append.mp hp).elim (h.2.1 p) fun hp => (List.mem_append.mp hp).elim (h.2.2.1 p) fun hp => (List.mem_append.mp hp).elim (h.2.2.2 p) (fun hp => nomatch hp)
theorem app4 {α : Type} {a b c d e : List α} : ∀ p ∈ a ++ (b ++ (c ++ (d ++ []))), p ∈ a ++ (b ++ (c ++ (d ++ e))) :=
  all4 ⟨fun p hp => List.mem_append_left _ hp, fun p hp => List.mem_append_right _ (List.mem_append_left _ hp), fun p hp => List.mem_append_right _ (List.mem_append_right _ (List.mem_append_left _ hp)), fun p hp => List.mem_append_right _ (List.mem_append_right _ (List.mem_append_right _ (List.mem_append_left _ hp)))⟩
section
local macro_rules | `(tactic| k_units) => `(tactic| ktr_units)
local macro_rules | `(tactic| walk_at "CompSrc") => `(tactic| (k_here; k_dflt (refine srcR (by rfl) (by k_asm) (by k_asm) (by assumption) ?_; intro g'; lcg_lit)))
local macro_rules | `(tactic| k_mem) => `(tactic| (repeat (first | assumption | exact List.Mem.head _ | refine List.Mem.tail _ ?_)))
theorem things {w : World} {nb : Addr} {n0 n1 n2 n3 : Int} {k0 k1 k2 k3 : Tok} {en : Nat} {news : List (Addr × Obj)}
    (hsub : ∀ p ∈ [(nb, listOf #[.int n0 k0, .int n1 k1, .int n2 k2, .int n3 k3] en)], p ∈ news) :
    MakeOk w 14 92 [.ref nb] news (fun r new => ∃ D S e l, r = .ref D ∧ new = (D, listOf (vals S) e) :: l ∧ Four.All (RT.In l) S ∧ Four.map RT.p S = (⟨n0, 0, 1, 0, 0, 0⟩, ⟨n1, 1, 0, 1, 0, 0⟩, ⟨n2, 2, 0, 0, 1, 0⟩, ⟨n3, 3, 0, 0, 0, 1⟩) ∧ (∀ p ∈ l, p.1 ≠ D)) := by
  have hK : (hd.heap_39, PySem.Challenge.rw_mr0075_01) = (hd.heap_39, PySem.Challenge.rw_mr0075_01) := by k_fill; rfl
  clear hK
  intro dp un gd cn cs a ccd cl outer A₀ base h₀ L m s p loose mean mg mb Q E B F X N T hk hd hu hret
  refine wpAny_call ?_
  k_dflt (refine' code_defCF ?k1 ?k2 ?k3 ?k4 hsub ?k5 ?kA ?kF ?kK ?k6 ?k7 ?k8 ?k9 ?kB ?kD ?_ ?c2 ?c3 ?c4; (case kA => exact rfl); (case kF => exact rfl); (case kK => assumption); (case k1 => k_asm); (case k2 => k_asm); (case k3 => k_asm); (case k4 => k_asm); (case k5 => k_asm); (case k6 => k_is); (case k7 => k_is); (case k8 => ktr_room); (case k9 => exact BindsTo.of_eq rfl); (case kB => exact rfl); (case kD => decide +kernel); (case c2 => exact rfl); (case c3 => exact rfl); (case c4 => exact rfl); k_whole)
  intro g' L' h' tk' cells' FG' F' N' Y' B' X' T' l1 S'
  (try k_lt l1); k_cells Y'; (try simp only [List.cons_append, List.nil_append] at N'); (try dsimp only); (try k_fold)
  repeat' (first | (k_unfold; (try dsimp only)) | (k_end; wrow_close) | ((first | ((with_reducible show LCg.CompSrc _ _ _ _ _ _ _ _ _ _ _ _ _ _); (k_here; k_dflt (refine LCg.CompSrc.range (by rfl) (by k_asm) (by k_asm) (by assumption) (by first | decide | rfl) (by first | rfl | decide) (by first | size_fits | exact Nat.le_of_ble_eq_true rfl) ?_; intro g_wp; lcg_lit))))) | ((fail_if_success (with_reducible show LCg.CompRest _ _ _ _ _ _ _ _ _ _ _ _ _ _ _ _ _ _ _)); first | (walk1) | (dsimp only; walk1)) | (leave1; (try dsimp only)))
  refine comp_turns (JM RT.a prsT (fun j T => T.p = ⟨pick n0 n1 n2 n3 j, 0 + (j : Int), (unitR j).1, (unitR j).2.1, (unitR j).2.2.1, (unitR j).2.2.2⟩) _) JM.zero ?turn ?fin
  case turn =>
    intro i ys led hi hJ v I oI C oC D m₂ h tk E' hv hC hx F2 N2 off ne
    clear ne
    obtain ⟨t, rfl⟩ := hv
    have nbc := hJ.1 _ (.head _)
    have nbm := hJ.1 _ (.tail _ (.head _))
    repeat' (first | (k_unfold; (try dsimp only)) | (k_end; wrow_close) | ((first | ((with_reducible show wpAny _ _ (call (Value.ref _) _) _ _ _); first | (k_here; (with_reducible show wpAny _ _ (call (Value.ref 87) _) _ _ _); k_dflt (refine' CallOk.use (unit (hp := ?q0)) ?kB ?kF ?kX ?kN ?kT ?kk ?kd ?ku ?_; (case kN => k_asm); (case q0 => exact place4 hi); (case kB => k_asm); (case kF => k_asm); (case kX => k_asm); (case kT => k_asm); (case kk => exact rfl); (case kd => ktr_room); (case ku => ktr_units); k_whole); intro r9_w n9_w h9_w tk9_w F9_w N9_w P9_w; obtain ⟨new9_w, P8_w, P7_w, D9_w, k90_w, k91_w, k92_w, k93_w, e9_w, P6_w, P5_w⟩ := P9_w; subst P6_w; subst P5_w; subst P8_w; (simp only [List.cons_append, List.nil_append] at N9_w); (rcases offs P7_w with o9_w); (simp only [LCg.Off1, and_true] at o9_w); clear P7_w; (try k_sweep); (try dsimp only))) | ((with_reducible show wpAny _ _ (newTuple _) _ _ _); (k_here; k_dflt (refine' kup_newTuple ?F ?N ?_ ?z; (case F => k_asm); (case N => k_asm); (case z => kmk_size)); intro D_wp h_wp F_wp N_wp l1_w; (rcases allLt_of l1_w with l2_w); clear l1_w; (simp only [AllLt, and_true] at l2_w); (try k_sweep))) | ((with_reducible show wpAny _ _ (subscriptTail _ _ (Value.ref _) (Value.int _ _)) _ _ _); (with_unfolding_all refine' item_led ?N ?m ?a ?b ?x ?_ ?z; (case N => k_dflt k_asm); (case m => k_dflt k_mem); (case a => k_dflt (exact i4_lo)); (case b => k_dflt (exact i4_hi (by assumption))); (case x => k_dflt (exact its4i (by assumption))); (case z => with_unfolding_all rfl); k_whole)))) | ((fail_if_success (with_reducible show LCg.CompEnd _ _ _ _ _ _ _ _ _ _ _ _ _ _)); first | (walk1) | (dsimp only; walk1)) | (leave1; (try dsimp only)))
    rename _ ∧ _ ∧ _ ∧ LCg.Off1 _ led => o9
    rename _ ∧ _ ∧ _ ∧ _ ∧ AllLt _ led => l9
    exact compEndB (by assumption) (by assumption) ⟨Ne.symm (Nat.ne_of_lt l9.2.1), Ne.symm (Nat.ne_of_lt l9.2.2.1), Ne.symm (Nat.ne_of_lt l9.2.2.2.1)⟩ ⟨Ne.symm o9.1, Ne.symm o9.2.1, Ne.symm o9.2.2.1⟩ off trivial
      (hJ.next ⟨_, _, ⟨_, _, _, _, _, _⟩, _, _, _, _, _, _, _, _⟩ (fun p hp => List.forall_mem_cons.mpr ⟨allLt_ne l9.2.2.2.2 p hp, List.forall_mem_singleton.mpr (off_of o9.2.2.2 p hp)⟩) rfl)
  case fin =>
    intro ys led hJ
    obtain ⟨C0, C1, C2, C3, rfl, hin, hne, f0, f1, f2, f3⟩ := hJ.four
    unfold LCg.FinE
    intro D h tk F2 N2 off2
    have N3 := News.sub2 N2 hin
    have nD := off_of off2
    clear N2 off2
    repeat' (first | (k_unfold; (try dsimp only)) | (k_end; wrow_close) | (walk1) | (dsimp only; walk1) | (leave1; (try dsimp only)))
    rename Fr h₀ _ _ _ => kF
    rename News h₀ _ _ _ => kN
    rename Fr g' L' _ _ => fF
    rename News g' L' _ _ => fN
    have nbn := hne _ (.tail _ (.head _))
    have nbD := nD _ (hin _ (List.mem_append_right _ (List.mem_append_right _ (List.mem_append_right _ (List.mem_append_right _ (.tail _ (.head _)))))))
    have lm : ∀ p ∈ prsT C0 ++ (prsT C1 ++ (prsT C2 ++ (prsT C3 ++ []))), p ∈ led := fun p hp => hin p (app4 p hp)
    refine hret _ _ _ _ kF (back_all (new := (D, listOf (vals (C0, C1, C2, C3)) 4) :: (prsT C0 ++ (prsT C1 ++ (prsT C2 ++ (prsT C3 ++ []))))) N hsub S' fF kN ?sb (by lcg_sub)) ⟨_, rfl, ?ap, D, (C0, C1, C2, C3), 4, _, rfl, rfl, ⟨⟨?m0, ?m1⟩, ⟨?m2, ?m3⟩, ⟨?m4, ?m5⟩, ⟨?m6, ?m7⟩⟩, ?eq, fun p hp => nD p (lm p hp)⟩
    case sb =>
      exact List.forall_mem_cons.mpr ⟨.head _, fun p hp => .tail _ (app4 p hp)⟩
    case ap =>
      refine apart_all N S' fN (List.forall_mem_cons.mpr ⟨.head _, fun p hp => .tail _ (app4 p hp)⟩) fun q hq hm => ?_
      have hm' : q.1 = nb := List.mem_singleton.mp hm
      rcases List.mem_cons.mp hq with rfl | hq
      · exact nbD hm'.symm
      · exact all4 nbn q hq hm'.symm
    case m0 => exact List.mem_append_left _ (.head _)
    case m1 => exact List.mem_append_left _ (.tail _ (.head _))
    case m2 => exact List.mem_append_right _ (List.mem_append_left _ (.head _))
    case m3 => exact List.mem_append_right _ (List.mem_append_left _ (.tail _ (.head _)))
    case m4 => exact List.mem_append_right _ (List.mem_append_right _ (List.mem_append_left _ (.head _)))
    case m5 => exact List.mem_append_right _ (List.mem_append_right _ (List.mem_append_left _ (.tail _ (.head _))))
    case m6 => exact List.mem_append_right _ (List.mem_append_right _ (List.mem_append_right _ (List.mem_append_left _ (.head _))))
    case m7 => exact List.mem_append_right _ (List.mem_append_right _ (List.mem_append_right _ (List.mem_append_left _ (.tail _ (.head _)))))
    case eq =>
      show (C0.p, C1.p, C2.p, C3.p) = _
      rw [f0, f1, f2, f3]
      rfl
end
end Mine

/-! # G1 -/
namespace Mine
theorem fresh_G1 : True := by
  w_top off
  exact True.intro
/-! ## the while of _law_measure -/
section
variable {prog : Program} {w : World} {A : Around} {E : Value → Shared → Prop} {Q : Flow → Shared → Prop} {s : Shared} {env : Env} {h₀ : Heap} {L : Addr}
abbrev mName : Str := Str.ofString "measure"
abbrev rName : Str := Str.ofString "rest"
abbrev gmap (m₀ : Str → Option Value) (a b : Int) (ta tb : Tok) : Str → Option Value := fun y => if y = mName then some (.int a ta) else if y = rName then some (.int b tb) else m₀ y
def JG (a₀ b₀ : Int) (m₀ : Str → Option Value) (news : List (Addr × Obj)) (n : Nat) (m₁ : Str → Option Value) (news₁ : List (Addr × Obj)) : Prop :=
  news₁ = news ∧ ∃ a b ta tb, m₁ = gmap m₀ a b ta tb ∧ 0 ≤ a ∧ 0 ≤ b ∧ n = b.toNat ∧ Int.gcd a b = Int.gcd a₀ b₀
theorem gcd_turn {a b : Int} (ha : 0 ≤ a) (hb : 0 < b) : Int.gcd b (a.fmod b) = Int.gcd a b := by
  obtain ⟨x, rfl⟩ := Int.eq_ofNat_of_zero_le ha
  obtain ⟨y, rfl⟩ := Int.eq_ofNat_of_zero_le (Int.le_of_lt hb)
  have e : Int.fmod (x : Int) (y : Int) = ((x % y : Nat) : Int) := by
    rw [Int.fmod_eq_emod_of_nonneg _ (by omega)]; rfl
  rw [e]
  show Nat.gcd y (x % y) = Nat.gcd x y
  rw [Nat.gcd_comm x y, Nat.gcd_rec y x, Nat.gcd_comm]
theorem fmod_lt_nat {a b : Int} (hb : 0 < b) : (a.fmod b).toNat < b.toNat := by
  have := Int.fmod_nonneg_of_pos a hb
  have := Int.fmod_lt_of_pos a hb
  omega
theorem while_gcd {test : Expr} {body : List Stmt} {pos : Pos} {m₀ : Str → Option Value} {news : List (Addr × Obj)} {a₀ b₀ : Int} {ta tb : Tok}
    (F : Fr h₀ L s.heap m₀) (N : News h₀ L s.heap news) (ha : m₀ mName = some (.int a₀ ta)) (hb : m₀ rName = some (.int b₀ tb)) (h0 : 0 ≤ a₀) (h1 : 0 ≤ b₀)
    (turn : ∀ a b ta tb h₁ tk₁, 0 ≤ a → 0 ≤ b → Int.gcd a b = Int.gcd a₀ b₀ → Fr h₀ L h₁ (gmap m₀ a b ta tb) → News h₀ L h₁ news →
      wpAny (model prog w) A (isTrue test env (eval test env)) (fun c s₂ =>
        if c = true then wpAny (model prog w) A (execs body env) (WhileStep h₀ L s (JG a₀ b₀ m₀ news) b.toNat) E s₂ else Q .next s₂) E { s with heap := h₁, toks := tk₁ })
    (hE : PassesOwn (model prog w) A env E := by passes_own) :
    wpAny (model prog w) A (exec (.While test body [] pos) env) Q E s := by
  refine While_inv (JG a₀ b₀ m₀ news) (n₀ := b₀.toNat) F N ⟨rfl, a₀, b₀, ta, tb, ?_, h0, h1, rfl, rfl⟩ ?_ hE
  · funext y
    unfold gmap
    by_cases e1 : y = mName
    · subst e1; simp [ha]
    · by_cases e2 : y = rName
      · subst e2; rw [if_neg e1, if_pos rfl]; exact hb
      · rw [if_neg e1, if_neg e2]
  · rintro n m₁ news₁ h₁ tk₁ F₁ N₁ ⟨rfl, a, b, ta', tb', rfl, ha', hb', rfl, hg⟩
    exact turn a b ta' tb' h₁ tk₁ ha' hb' hg F₁ N₁
theorem whileStep_gcd {h' : Heap} {m₀ : Str → Option Value} {news : List (Addr × Obj)} {x : Addr × Obj} {a₀ b₀ a b : Int} {tk : Nat} {ta tb tc td : Tok}
    (F : Fr h₀ L h' (fun y => if y = mName then some (.int b tc) else if y = rName then some (.int (a.fmod b) td) else gmap m₀ a b ta tb y)) (N : News h₀ L h' (x :: news)) (ha : 0 ≤ a) (hb : 0 < b) (hg : Int.gcd a b = Int.gcd a₀ b₀) :
    WhileStep h₀ L s (JG a₀ b₀ m₀ news) b.toNat .next { s with heap := h', toks := tk } := by
  have e : (fun y => if y = mName then some (Value.int b tc) else if y = rName then some (Value.int (a.fmod b) td) else gmap m₀ a b ta tb y) = gmap m₀ b (a.fmod b) tc td := by
    funext y
    by_cases e1 : y = mName
    · simp [e1]
    · by_cases e2 : y = rName
      · simp only [gmap, if_neg e1, if_pos e2]
      · simp only [gmap, if_neg e1, if_neg e2]
  rw [e] at F
  exact WhileStep.intro F (fun p hp => N p (.tail _ hp)) (fmod_lt_nat hb) ⟨rfl, b, a.fmod b, tc, td, rfl, Int.le_of_lt hb, Int.fmod_nonneg_of_pos a hb, rfl, (gcd_turn ha hb).trans hg⟩
end
theorem gstep {a b x y : Int} (ha : 0 ≤ a) (hb : 0 ≤ b) (hn : ¬ 0 < b) (hg : Int.gcd a b = Int.gcd x y) : a = (Int.gcd x y : Int) := by
  have e : b = 0 := by omega
  subst e
  rw [← hg, Int.gcd_zero_right]
  omega
/-- what _law_measure reckons -/
def meas (n0 n1 n2 n3 : Int) : Int := Int.gcd (Int.gcd (Int.gcd (Int.gcd 0 n0) n1) n2) n3
end Mine

/-! # L13 -/
namespace Mine
theorem fresh_L13 : True := by
  w_top off
  exact True.intro
section
local macro_rules | `(tactic| k_units) => `(tactic| ktr_units)

theorem measure {w : World} {nb : Addr} {n0 n1 n2 n3 : Int} {k0 k1 k2 k3 : Tok} {en : Nat} {news : List (Addr × Obj)} (b0 : 0 ≤ n0) (b1 : 0 ≤ n1) (b2 : 0 ≤ n2) (b3 : 0 ≤ n3)
    (hsub : ∀ p ∈ [(nb, listOf #[.int n0 k0, .int n1 k1, .int n2 k2, .int n3 k3] en)], p ∈ news) :
    CallOk w 9 123 [.ref nb] news (fun r n => n = news ∧ ∃ tk, r = .int (meas n0 n1 n2 n3) tk) := by
  have hK : (hd.heap_39, PySem.Challenge.rw_mr0075_01) = (hd.heap_39, PySem.Challenge.rw_mr0075_01) := by k_fill; rfl
  clear hK
  intro dp un gd cn cs a ccd cl outer A₀ base h₀ L m s p loose mean mg mb Q E B F X N T hk hd hu hret
  refine wpAny_call ?_
  k_dflt (refine' code_defF ?k1 ?k2 ?k3 ?k4 hsub ?k5 ?kA ?kF ?kK ?k6 ?k7 ?k8 ?k9 ?kB ?_ ?c2 ?c3 ?c4 ?c5; (case kA => exact rfl); (case kF => exact rfl); (case kK => assumption); (case k1 => k_asm); (case k2 => k_asm); (case k3 => k_asm); (case k4 => k_asm); (case k5 => k_asm); (case k6 => k_is); (case k7 => k_is); (case k8 => ktr_room); (case k9 => exact BindsTo.of_eq rfl); (case c5 => decide); (case kB => exact locs rfl); (case c2 => exact rfl); (case c3 => exact rfl); (case c4 => exact rfl); k_whole)
  intro g' L' h' FG' F' N' B' X' T' S'
  (try dsimp only); (try k_fold)
  repeat' (first | (k_unfold; (try dsimp only [List.nil_append, List.cons_append])) | (k_end; wrow_close) | ((first | ((with_reducible show WhileStep _ _ _ _ _ _ _); (k_dflt (refine' whileStep_gcd ?F ?N ?a ?b ?c; (case F => assumption); (case N => assumption); (case a => assumption); (case b => assumption); (case c => assumption)))) | ((with_reducible show wpAny _ _ (exec (Stmt.While _ _ _ _) _) _ _ _); (k_here; k_dflt (refine' while_gcd ?F ?N ?a ?b ?c ?d ?_; (case F => k_asm); (case N => k_asm); (case a => rfl); (case b => rfl); (case c => omega); (case d => omega); k_whole); intro a9_w b9_w ta9_w tb9_w h9_w tk9_w p9_w q9_w g9_w F9_w N9_w; (try k_sweep)))); try k_fold) | (walk1; try k_fold) | (dsimp only; walk1; try k_fold) | (leave1; (try dsimp only)))
  rename Int.gcd _ _ = Int.gcd _ n0 => g0
  rename Int.gcd _ _ = Int.gcd _ n1 => g1
  rename Int.gcd _ _ = Int.gcd _ n2 => g2
  rename Int.gcd _ _ = Int.gcd _ n3 => g3
  have e0 := gstep (by assumption) (by assumption) (by assumption) g0
  have e1 := gstep (by assumption) (by assumption) (by assumption) g1
  have e2 := gstep (by assumption) (by assumption) (by assumption) g2
  have e3 := gstep (by assumption) (by assumption) (by assumption) g3
  rw [e0] at e1
  rw [e1] at e2
  rw [e2] at e3
  rename Fr h₀ _ _ _ => kF
  rename News h₀ _ _ _ => kN
  rename Fr g' L' _ _ => fF
  rw [e3]
  exact hret _ _ _ _ kF (back_all (new := []) N hsub S' fF kN (List.forall_mem_nil _) (by lcg_sub)) ⟨rfl, _, rfl⟩
end
end Mine

/-! # L14 -/
namespace Mine
theorem fresh_L14 : True := by
  w_top off
  exact True.intro

theorem lx_true {x y x' y' : Int} (h : x < x' ∨ (x = x' ∧ y < y')) : lx x y x' y' = true := decide_eq_true h
theorem perm3 {α : Type} {a b h : α} {rest : List α} : ∀ p ∈ h :: a :: b :: rest, p ∈ a :: b :: h :: rest := by
  intro p hp
  simp only [List.mem_cons] at hp ⊢
  rcases hp with e | e | e | e <;> simp [e]
theorem lt_up {a b c d e : Int} (h : a < b ∨ (a = b ∧ c < d)) : a < b + 1 ∨ (a = b + 1 ∧ c < e) := .inl (by omega)
theorem ne_up {a b c d : Int} (h : a < b ∨ (a = b ∧ c < d)) : ¬(b = a ∧ d = c) := by omega
section
variable {w : World} {hp t0 t1 t2 t3 : Addr} {x0 x1 x2 x3 y0 y1 y2 y3 : Int} {u0 u1 u2 u3 v0 v1 v2 v3 : Tok} {r0 r1 r2 r3 : Value} {e0 e1 e2 e3 : Nat} {ep : Nat} {tk tk' : Tok} {news news' : List (Addr × Obj)}
    (m0 : (t0, tupObj #[.int x0 u0, .int y0 v0, r0] e0) ∈ news)
    (m1 : (t1, tupObj #[.int x1 u1, .int y1 v1, r1] e1) ∈ news)
    (m2 : (t2, tupObj #[.int x2 u2, .int y2 v2, r2] e2) ∈ news)
    (m3 : (t3, tupObj #[.int x3 u3, .int y3 v3, r3] e3) ∈ news)
include m0 m1 m2 m3

/-- laid in on top, it stays on top -/
theorem heapreplaceT {ti : Addr} {xi yi : Int} {ui vi : Tok} {ri : Value} {ei : Nat} (mi : (ti, tupObj #[.int xi ui, .int yi vi, ri] ei) ∈ news) (n12 : ¬ (x1 = x2 ∧ y1 = y2))
    (h1 : x1 < xi ∨ (x1 = xi ∧ y1 < yi)) (h2 : x2 < xi ∨ (x2 = xi ∧ y2 < yi)) (h3 : x3 < xi ∨ (x3 = xi ∧ y3 < yi)) (U : Upd hp (listOf #[.ref t0, .ref t1, .ref t2, .ref t3] ep) (listOf #[.ref ti, .ref t1, .ref t2, .ref t3] ep) news news') :
    CallOk w 9 21 [.ref hp, .ref ti] news (fun r n => r = .ref t0 ∧ n = news') := by
  have e : su0 ⟨ti, xi, yi⟩ ⟨t1, x1, y1⟩ ⟨t2, x2, y2⟩ ⟨t3, x3, y3⟩ = (⟨ti, xi, yi⟩, ⟨t1, x1, y1⟩, ⟨t2, x2, y2⟩, ⟨t3, x3, y3⟩) := by
    unfold su0 sd03 sd02 Th.lt
    rw [show lx x3 y3 xi yi = true from lx_true h3, show lx x1 y1 xi yi = true from lx_true h1, show lx x2 y2 xi yi = true from lx_true h2]
    cases lx x2 y2 x1 y1 <;> rfl
  exact heapreplaceU m0 m1 m2 m3 mi (fun e => ne_up h1 e) (fun e => ne_up h2 e) (fun e => ne_up h3 e) n12 (by rw [e]; exact U)
end
section
local macro_rules | `(tactic| k_all) => `(tactic| assumption)
local macro_rules | `(tactic| k_units) => `(tactic| ktr_units)
local macro_rules | `(tactic| k_mem) => `(tactic| (repeat (first | assumption | exact List.Mem.head _ | refine List.Mem.tail _ ?_)))

theorem over {w : World} {hp : Addr} {T0 T1 T2 T3 : RT} {ep : Nat} {rest : List (Addr × Obj)} (hrest : ∀ p ∈ rest, p.1 ≠ hp) (i0 : RT.In rest T0) (i1 : RT.In rest T1) (i2 : RT.In rest T2) (i3 : RT.In rest T3)
    (d12 : ¬ (T1.p.x = T2.p.x ∧ T1.p.y = T2.p.y)) (h1 : T1.p.x < T0.p.x ∨ (T1.p.x = T0.p.x ∧ T1.p.y < T0.p.y)) (h2 : T2.p.x < T0.p.x ∨ (T2.p.x = T0.p.x ∧ T2.p.y < T0.p.y)) (h3 : T3.p.x < T0.p.x ∨ (T3.p.x = T0.p.x ∧ T3.p.y < T0.p.y)) :
    CallOk w 20 104 [.ref hp] ((hp, listOf #[.ref T0.a, .ref T1.a, .ref T2.a, .ref T3.a] ep) :: rest)
      (fun r n => r = .bool true ∧ ∃ rest', n = (hp, listOf #[.ref T0.a, .ref T1.a, .ref T2.a, .ref T3.a] ep) :: rest' ∧ (∀ p ∈ rest, p ∈ rest') ∧ (∀ p ∈ rest', p.1 ≠ hp)) := by
  obtain ⟨m0, w0⟩ := i0
  obtain ⟨m1, w1⟩ := i1
  obtain ⟨m2, w2⟩ := i2
  obtain ⟨m3, w3⟩ := i3
  have hK : (hd.heap_39, PySem.Challenge.rw_mr0075_01) = (hd.heap_39, PySem.Challenge.rw_mr0075_01) := by k_fill; rfl
  clear hK
  unfold CallOk
  intro dp un gd cn cs a ccd cl outer A₀ base h₀ L m s p loose mean mg mb Q E B F X N T hk hd hu hret
  refine wpAny_call ?_
  k_dflt ktr_enter
  repeat' (first | (k_unfold; (try dsimp only)) | (k_end; wrow_close) | ((first | ((with_reducible show wpAny _ _ (call (Value.ref _) _) _ _ _); first | (k_here; (with_reducible show wpAny _ _ (call (Value.ref 21) _) _ _ _); k_dflt (refine' CallOk.use (heapreplaceT (U := ?q0) (m0 := ?q1) (m1 := ?q2) (m2 := ?q3) (m3 := ?q4) (mi := ?q5) (n12 := ?q6) (h1 := ?q7) (h2 := ?q8) (h3 := ?q9)) ?kB ?kF ?kX ?kN ?kT ?kk ?kd ?ku ?_; (case kN => k_asm); (case q0 => k_upd); (case q1 => k_mem); (case q2 => k_mem); (case q3 => k_mem); (case q4 => k_mem); (case q5 => k_mem); (case q6 => first | assumption | exact lt_up (by assumption) | omega); (case q7 => first | assumption | exact lt_up (by assumption) | omega); (case q8 => first | assumption | exact lt_up (by assumption) | omega); (case q9 => first | assumption | exact lt_up (by assumption) | omega); (case kB => k_asm); (case kF => k_asm); (case kX => k_asm); (case kT => k_asm); (case kk => exact rfl); (case kd => ktr_room); (case ku => ktr_units); k_whole); intro r9_w n9_w h9_w tk9_w F9_w N9_w P9_w; obtain ⟨P8_w, P9_w⟩ := P9_w; subst P8_w; subst P9_w; (try k_sweep); (try dsimp only))))) | (walk1) | (dsimp only; walk1) | (leave1; (try dsimp only)))
  rename Fr h₀ _ _ _ => kF
  rename News h₀ _ _ _ => kN
  rename hp < _ ∧ AllLt _ rest => l8
  rename _ ∧ hp < _ ∧ AllLt _ rest => l9
  refine hret _ _ _ _ kF (fun p hp => kN p (perm3 p hp)) ⟨rfl, _, rfl, fun p hp => .tail _ (.tail _ hp), ?_⟩
  intro p hp
  rcases List.mem_cons.mp hp with rfl | hp
  · exact Ne.symm (Nat.ne_of_lt l9.2.1)
  rcases List.mem_cons.mp hp with rfl | hp
  · exact Ne.symm (Nat.ne_of_lt l8.1)
  · exact hrest p hp
end
end Mine

/-! # C2 -/
namespace Mine
theorem fresh_C2 : True := by
  w_top off
  exact True.intro
/-! ## a comprehension with two clauses, the second with a test -/
section
variable {prog : Program} {w : World} {A : Around} {E : Value → Shared → Prop} {R : Result → Shared → Prop} {s : Shared}
theorem compTurn_in (elt t0 i0 t1 i1 : Expr) (f1 : List Expr) (scope : Scope) (pos : Pos) (it acc : Value) (env : Env) :
    compTurn (.ListComp elt [⟨t0, i0, [], 0⟩, ⟨t1, i1, f1, 0⟩] scope pos) 1 it acc env = (do
      standAt i1.pos
      match ← pyNext it with
      | none => pure (.done .next)
      | some v =>
        letOwnedTupleGo t1 it v
        assign t1 env v
        let mut ok := true
        for c in f1 do
          if ok then ok ← isTrue c env (eval c env)
        if ok then
          (do let _ ← call (.builtin "list.append") [acc, ← eval elt env])
        again (.compLoop (.ListComp elt [⟨t0, i0, [], 0⟩, ⟨t1, i1, f1, 0⟩] scope pos) 1 it acc env)) := by rfl
theorem compTurn_out (elt t0 i0 t1 i1 : Expr) (f1 : List Expr) (scope : Scope) (pos : Pos) (it acc : Value) (env : Env) :
    compTurn (.ListComp elt [⟨t0, i0, [], 0⟩, ⟨t1, i1, f1, 0⟩] scope pos) 0 it acc env = (do
      standAt i0.pos
      match ← pyNext it with
      | none => pure (.done .next)
      | some v =>
        letOwnedTupleGo t0 it v
        assign t0 env v
        let x ← eval i1 env
        standAt i1.pos
        let x ← foldedSetIterable i1 env x
        let _ ← runOwn (.compStart (.ListComp elt [⟨t0, i0, [], 0⟩, ⟨t1, i1, f1, 0⟩] scope pos) 1 (← holding [x] (pyIter x)) acc env) env
        again (.compLoop (.ListComp elt [⟨t0, i0, [], 0⟩, ⟨t1, i1, f1, 0⟩] scope pos) 0 it acc env)) := by rfl

theorem loop_in {elt t0 i0 t1 i1 : Expr} {f1 : List Expr} {scope : Scope} {pos : Pos} {it acc : Value} {env : Env} (I : Nat → Shared → Prop)
    (turn : ∀ n s, I n s → wpAny (model prog w) A (pyNext it) (fun r s₁ => match r with
      | none => R (.ok .next) s₁
      | some v => wpAny (model prog w) A (assign t1 env v) (fun _ s₂ =>
          wpAny (model prog w) A (forIn f1 true fun c r => if r = true then do let ok ← isTrue c env (eval c env); pure (ForInStep.yield ok) else pure (ForInStep.yield r)) (fun ok s₃ =>
            if ok = true then wpAny (model prog w) A (eval elt env) (fun x s₄ =>
              wpAny (model prog w) A (call (.builtin "list.append") [acc, x]) (fun _ s₅ => ∃ m, m < n ∧ I m s₅) (notedBy (model prog w) A env fun e s' => R (.error e) s') s₄) (notedBy (model prog w) A env fun e s' => R (.error e) s') s₃
            else ∃ m, m < n ∧ I m s₃) (notedBy (model prog w) A env fun e s' => R (.error e) s') s₂) (notedBy (model prog w) A env fun e s' => R (.error e) s') s₁) (notedBy (model prog w) A env fun e s' => R (.error e) s') s)
    (n : Nat) (h : I n s) (ht : ∀ v, letOwnedTupleGo t1 it v = pure () := by intro _; rfl) :
    codeAny (model prog w) A (.compLoop (.ListComp elt [⟨t0, i0, [], 0⟩, ⟨t1, i1, f1, 0⟩] scope pos) 1 it acc env) R s := by
  refine codeAny_loop rfl I (fun n s hI => ?_) n h
  show wpAny _ A ((compTurn (.ListComp elt [⟨t0, i0, [], 0⟩, ⟨t1, i1, f1, 0⟩] scope pos) 1 it acc env).onRaise (fun x => do noteFrame x env; theTreesLotGoes x)) _ _ s
  refine wpAny_noted ?_
  rw [compTurn_in]
  refine wpAny_bind (wpAny_standAt (wpAny_bind (wpAny_mono (turn n s hI) (fun r s₁ h₁ => ?_) fun _ _ h' => h')))
  cases r with
  | none => exact wpAny_pure h₁
  | some v =>
    refine wpAny_bind (wpAny_of_eq (ht v) ?_)
    refine wpAny_bind (wpAny_mono h₁ (fun _ s₂ h₂ => wpAny_bind (wpAny_mono h₂ (fun ok s₃ h₃ => ?_) fun _ _ h' => h')) fun _ _ h' => h')
    cases ok with
    | false => exact wpAny_pure ⟨rfl, h₃⟩
    | true =>
      exact wpAny_bind (wpAny_bind (wpAny_mono h₃ (fun x s₄ h₄ => wpAny_bind (wpAny_mono h₄ (fun _ s₅ h₅ => wpAny_pure (wpAny_pure ⟨rfl, h₅⟩)) fun _ _ h' => h')) fun _ _ h' => h'))

theorem loop_out {elt t0 i0 t1 i1 : Expr} {f1 : List Expr} {scope : Scope} {pos : Pos} {it acc : Value} {env : Env} (I : Nat → Shared → Prop)
    (turn : ∀ n s, I n s → wpAny (model prog w) A (pyNext it) (fun r s₁ => match r with
      | none => R (.ok .next) s₁
      | some v => wpAny (model prog w) A (assign t0 env v) (fun _ s₂ => wpAny (model prog w) A (eval i1 env) (fun x s₃ => wpAny (model prog w) A (pyIter x) (fun it' s₄ =>
          codeAny (model prog w) A (.compStart (.ListComp elt [⟨t0, i0, [], 0⟩, ⟨t1, i1, f1, 0⟩] scope pos) 1 it' acc env) (fun r s' => match r with | .ok _ => ∃ m, m < n ∧ I m s' | .error e => cameBackBy (model prog w) A env (notedBy (model prog w) A env fun e s' => R (.error e) s') e s') s₄)
            (notedBy (model prog w) A env fun e s' => R (.error e) s') s₃) (notedBy (model prog w) A env fun e s' => R (.error e) s') s₂) (notedBy (model prog w) A env fun e s' => R (.error e) s') s₁) (notedBy (model prog w) A env fun e s' => R (.error e) s') s)
    (n : Nat) (h : I n s) (hs : ∀ x, foldedSetIterable i1 env x = pure x) (ht : ∀ v, letOwnedTupleGo t0 it v = pure () := by intro _; rfl) :
    codeAny (model prog w) A (.compLoop (.ListComp elt [⟨t0, i0, [], 0⟩, ⟨t1, i1, f1, 0⟩] scope pos) 0 it acc env) R s := by
  refine codeAny_loop rfl I (fun n s hI => ?_) n h
  show wpAny _ A ((compTurn (.ListComp elt [⟨t0, i0, [], 0⟩, ⟨t1, i1, f1, 0⟩] scope pos) 0 it acc env).onRaise (fun x => do noteFrame x env; theTreesLotGoes x)) _ _ s
  refine wpAny_noted ?_
  rw [compTurn_out]
  refine wpAny_bind (wpAny_standAt (wpAny_bind (wpAny_mono (turn n s hI) (fun r s₁ h₁ => ?_) fun _ _ h' => h')))
  cases r with
  | none => exact wpAny_pure h₁
  | some v =>
    refine wpAny_bind (wpAny_of_eq (ht v) ?_)
    refine wpAny_bind (wpAny_mono h₁ (fun _ s₂ h₂ => wpAny_bind (wpAny_mono h₂ (fun x s₃ h₃ => ?_) fun _ _ h' => h')) fun _ _ h' => h')
    refine wpAny_bind (wpAny_standAt (wpAny_bind (wpAny_of_eq (hs x) ?_)))
    refine wpAny_bind (wpAny_holding (wpAny_mono h₃ (fun it' s₄ h₄ => ?_) fun _ _ h' => h'))
    refine wpAny_bind (wpAny_runOwn (codeAny_mono h₄ fun r s' hr => ?_))
    cases r with
    | ok f => exact wpAny_pure ⟨rfl, hr⟩
    | error e => exact hr

theorem start_in {elt t0 i0 t1 i1 : Expr} {f1 : List Expr} {scope : Scope} {pos : Pos} {it acc : Value} {env : Env}
    (h0 : codeAny (model prog w) A (.compLoop (.ListComp elt [⟨t0, i0, [], 0⟩, ⟨t1, i1, f1, 0⟩] scope pos) 1 it acc env) R s)
    (h : wpAny (model prog w) A (pyIter it) (fun it' s' => codeAny (model prog w) A (.compLoop (.ListComp elt [⟨t0, i0, [], 0⟩, ⟨t1, i1, f1, 0⟩] scope pos) 1 it' acc env) R s')
      (notedBy (model prog w) A env fun x s' => R (.error x) s') s) :
    codeAny (model prog w) A (.compStart (.ListComp elt [⟨t0, i0, [], 0⟩, ⟨t1, i1, f1, 0⟩] scope pos) 1 it acc env) R s := by
  refine codeAny_of_tree ?_
  show wpAny _ _ ((compStart (.ListComp elt [⟨t0, i0, [], 0⟩, ⟨t1, i1, f1, 0⟩] scope pos) 1 it acc env).onRaise (fun x => do noteFrame x env; standAt theWindowsPlace)) _ _ s
  refine wpAny_notedAt ?_
  unfold compStart
  show wpAny _ _ (ask >>= _) _ _ s
  refine wpAny_bind (wpAny_askSetting (wpAny_ite ?_))
  split
  · first
      | exact wpAny_bind (wpAny_pure (wpAny_pure (And.intro rfl h0)))
      | exact wpAny_pure (And.intro rfl h0)
  · first
      | exact wpAny_bind (wpAny_rule (wpAny_bind (wpAny_standAt (wpAny_bind (wpAny_mono h (fun it' s' h' => wpAny_pure (And.intro rfl h')) fun _ _ x => x)))))
      | (refine wpAny_bind (wpAny_rule ?_); show wpAny _ _ (standAt i1.pos >>= _) _ _ s; exact wpAny_bind (wpAny_standAt (wpAny_bind (wpAny_mono h (fun it' s' h' => wpAny_pure (And.intro rfl h')) fun _ _ x => x))))

theorem inner {elt t0 i0 i1 c : Expr} {x0 x1 : Str} {p1 : Pos} {scope : Scope} {cl : List (Str × Addr)} {pos : Pos} {env : Env} {h₀ : Heap} {L I1 C D ax : Addr} {m m' : Str → Option Value} {its : Array Value} {led : List (Addr × Obj)} {ka : Nat} {v0 : Value} {ys₀ : List Value}
    (b : Nat → Bool) (g : Nat → Value) (hh : A.handled = none) (hkind : scope.kind = .function) (hx : scope.names.lookup x1 = some .local) (hx01 : x0 ≠ x1)
    (hax : (ax, listOf its ka) ∈ led) (hsz : ys₀.length + its.size ≤ sizeLine)
    (hit : s.heap.IsListIter I1 ax 0) (F : Fr h₀ L s.heap m) (hC : s.heap.Ns C m') (hv0 : m' x0 = some v0) (N : News h₀ L s.heap ((D, LCg.lst ys₀) :: led))
    (off : ∀ p ∈ led, p.1 ≠ I1 ∧ p.1 ≠ C ∧ p.1 ≠ D) (hIC : I1 ≠ C) (hID : I1 ≠ D) (hCD : C ≠ D) (hIL : I1 ≠ L) (hCL : C ≠ L) (hDL : D ≠ L) (hI₀ : h₀.get? I1 = none) (hC₀ : h₀.get? C = none) (hD₀ : h₀.get? D = none)
    (htest : ∀ j v1 oC m₂ h tk ys (E' : Value → Shared → Prop), its[j]? = some v1 → LCg.NsObj oC m₂ → m₂ x0 = some v0 → m₂ x1 = some v1 → Fr h₀ L h m → News h₀ L h ((C, oC) :: (D, LCg.lst ys) :: led) →
      wpAny (model prog w) A (isTrue c (compEnvC scope cl C env) (eval c (compEnvC scope cl C env))) (fun ok s' => ok = b j ∧ Keeps { s with heap := h, toks := tk } s') E' { s with heap := h, toks := tk })
    (helt : ∀ j v1 oC m₂ h tk ys (E' : Value → Shared → Prop), its[j]? = some v1 → LCg.NsObj oC m₂ → m₂ x0 = some v0 → m₂ x1 = some v1 → Fr h₀ L h m → News h₀ L h ((C, oC) :: (D, LCg.lst ys) :: led) →
      wpAny (model prog w) A (eval elt (compEnvC scope cl C env)) (fun y s' => y = g j ∧ Keeps { s with heap := h, toks := tk } s') E' { s with heap := h, toks := tk })
    (hR : ∀ h tk m₂, Fr h₀ L h m → h.Ns C m₂ → News h₀ L h ((D, LCg.lst (ys₀ ++ ((List.range its.size).filter b).map g)) :: led) → R (.ok .next) { s with heap := h, toks := tk }) :
    codeAny (model prog w) A (.compLoop (.ListComp elt [⟨t0, i0, [], 0⟩, ⟨.Name x1 p1, i1, [c], 0⟩] scope pos) 1 (.ref I1) (.ref D) (compEnvC scope cl C env)) R s := by
  have hne : ax ≠ I1 := (off _ hax).1
  have W := Walks.list (prog := prog) (w := w) hh I1 ax hne its
  have sizeOf : ∀ j, j ≤ its.size → (ys₀ ++ ((List.range j).filter b).map g).length ≤ sizeLine := by
    intro j hj
    have h1 : ((List.range j).filter b).length ≤ (List.range j).length := List.length_filter_le ..
    rw [List.length_range] at h1
    simp only [List.length_append, List.length_map]
    omega
  have step : ∀ j, ((List.range (j + 1)).filter b).map g = ((List.range j).filter b).map g ++ (if b j = true then [g j] else []) := by
    intro j
    rw [List.range_succ, List.filter_append, List.map_append]
    cases hb : b j <;> simp [hb]
  refine loop_in (fun k s' => ∃ h' tk j m₂, s' = { s with heap := h', toks := tk } ∧ j ≤ its.size ∧ k = its.size + 1 - j ∧ h'.IsListIter I1 ax j ∧ Fr h₀ L h' m ∧ h'.Ns C m₂ ∧ m₂ x0 = some v0 ∧
    News h₀ L h' ((D, LCg.lst (ys₀ ++ ((List.range j).filter b).map g)) :: led)) ?_ (its.size + 1) ⟨s.heap, s.toks, 0, m', rfl, Nat.zero_le _, rfl, hit, F, hC, hv0, by simpa using N⟩
  rintro k s' ⟨h', tk, j, m₂, rfl, hj, rfl, hit', F', hC', hv0', N'⟩
  have hl : h'.IsList ax its := ⟨_, (N' _ (.tail _ hax)).1, rfl, ka, rfl⟩
  by_cases hlt : j < its.size
  · refine W.item j _ _ _ hlt ⟨hit', hl⟩ fun v h₂ tk₂ hPv hst₂ hk₂ => ?_
    refine wpAny_assign_Name (wpAny_storeName_local (lookup_relabel_local hx) (hC'.at' fun o e => hk₂ _ o (by simpa using Ne.symm hIC) e) (fun h₃ hn₃ hs₃ => ?_) (by simp [compEnvC, relabel, hkind]))
    obtain ⟨oC, heC, hoC⟩ := LCg.ns_obj hn₃
    have F₃ : Fr h₀ L h₃ m := (LCg.fr_but F' hk₂ (Ne.symm hIL) hI₀).change hs₃ hCL hC₀
    have N₂ : News h₀ L h₂ ((D, LCg.lst (ys₀ ++ ((List.range j).filter b).map g)) :: led) := LCg.news_but N' hk₂ fun p hp => by
      rcases List.mem_cons.mp hp with rfl | hp
      · exact Ne.symm hID
      · exact (off p hp).1
    have N₃ : News h₀ L h₃ ((C, oC) :: (D, LCg.lst (ys₀ ++ ((List.range j).filter b).map g)) :: led) := fun p hp => by
      rcases List.mem_cons.mp hp with rfl | hp
      · exact ⟨heC, hCL, hC₀⟩
      · have z := N₂ p hp
        refine ⟨hs₃.extBut _ _ ?_ z.1, z.2⟩
        rcases List.mem_cons.mp hp with rfl | hp
        · exact Ne.symm hCD
        · exact (off p hp).2.1
    have hit₃ : h₃.IsListIter I1 ax (j + 1) := by
      obtain ⟨o, e, r⟩ := hst₂.1
      exact ⟨o, hs₃.extBut _ _ hIC e, r⟩
    have hm0 : (fun y => if y = x1 then some v else m₂ y) x0 = some v0 := by simp [hx01, hv0']
    refine wpAny_tests_one (wpAny_mono (htest j v oC _ h₃ _ _ _ hPv hoC hm0 (by simp) F₃ N₃) (fun ok s₃ hs₃' => ?_) fun _ _ e => e)
    obtain ⟨rfl, h₄, tk₄, rfl, kp⟩ := hs₃'
    cases hb : b j with
    | false =>
      simp only [Bool.false_eq_true, if_false]
      refine ⟨its.size + 1 - (j + 1), by omega, h₄, tk₄, j + 1, _, rfl, hlt, rfl, ?_, F₃.keeps kp, (hoC.ns (kp _ _ heC)), hm0, ?_⟩
      · obtain ⟨o, e, r⟩ := hit₃
        exact ⟨o, kp _ _ e, r⟩
      · rw [step, hb]
        simp only [Bool.false_eq_true, if_false, List.append_nil]
        exact fun p hp => ⟨kp _ _ (N₃ p (.tail _ hp)).1, (N₃ p (.tail _ hp)).2⟩
    | true =>
      simp only [if_true]
      refine wpAny_mono (helt j v oC _ h₄ tk₄ _ _ hPv hoC hm0 (by simp) (F₃.keeps kp) (N₃.grown kp)) (fun y s₄ hy => ?_) fun _ _ e => e
      obtain ⟨rfl, h₅, tk₅, rfl, kp₅⟩ := hy
      have zD : h₅.get? D = some (LCg.lst (ys₀ ++ ((List.range j).filter b).map g)) := kp₅ _ _ (kp _ _ (N₃ _ (.tail _ (.head _))).1)
      refine append_at (hsz := by show Array.size (List.toArray _) ≤ sizeLine; rw [List.size_toArray]; exact sizeOf j hj) zD fun h₆ hs₆ hD₆ => ?_
      refine ⟨its.size + 1 - (j + 1), by omega, h₆, tk₅, j + 1, _, rfl, hlt, rfl, ?_, ((F₃.keeps kp).keeps kp₅).change hs₆ hDL hD₀, (hoC.ns (kp₅ _ _ (kp _ _ heC))).sameBut hs₆ hCD, hm0, ?_⟩
      · obtain ⟨o, e, r⟩ := hit₃
        exact ⟨o, hs₆.extBut _ _ hID (kp₅ _ _ (kp _ _ e)), r⟩
      · rw [step, hb]
        simp only [if_true]
        intro p hp
        rcases List.mem_cons.mp hp with rfl | hp
        · refine ⟨?_, hDL, hD₀⟩
          rw [← List.append_assoc]
          exact hD₆.trans (congrArg some (LCg.lst_snoc _ _))
        · exact ⟨hs₆.extBut _ _ (off p hp).2.2 (kp₅ _ _ (kp _ _ (N₃ p (.tail _ (.tail _ hp))).1)), (N₃ p (.tail _ (.tail _ hp))).2⟩
  · obtain rfl : j = its.size := Nat.le_antisymm hj (Nat.not_lt.mp hlt)
    refine W.done _ _ _ ⟨hit', hl⟩ fun h₂ tk₂ hk₂ => ?_
    exact hR h₂ tk₂ m₂ (LCg.fr_but F' hk₂ (Ne.symm hIL) hI₀) (hC'.at' fun o e => hk₂ _ o (by simpa using Ne.symm hIC) e) (LCg.news_but N' hk₂ fun p hp => by
      rcases List.mem_cons.mp hp with rfl | hp
      · exact Ne.symm hID
      · exact (off p hp).1)
abbrev itRg2 (x left : Int) : Obj := { cls := .type "range_iterator", data := .fields #[rawInt x, rawInt left, rawInt 1] }
def flat2 (b : Nat → Nat → Bool) (g : Nat → Value) (k n : Nat) : List Value := (List.range n).flatMap fun i => ((List.range k).filter (b i)).map g
theorem flat2_succ (b : Nat → Nat → Bool) (g : Nat → Value) (k n : Nat) : flat2 b g k (n + 1) = flat2 b g k n ++ ((List.range k).filter (b n)).map g := by
  unfold flat2
  rw [List.range_succ, List.flatMap_append]
  simp
theorem flat2_len (b : Nat → Nat → Bool) (g : Nat → Value) (k n : Nat) : (flat2 b g k n).length ≤ n * k := by
  induction n with
  | zero => simp [flat2]
  | succ n ih =>
    rw [flat2_succ, List.length_append, List.length_map, Nat.succ_mul]
    have h1 : ((List.range k).filter (b n)).length ≤ (List.range k).length := List.length_filter_le ..
    rw [List.length_range] at h1
    omega

def Src2 (prog : Program) (w : World) (A : Around) (h₀ : Heap) (L : Addr) (m : Str → Option Value) (env : Env) (elt c i1 : Expr) (x0 x1 : Str) (scope : Scope) (cl : List (Str × Addr)) (Q : Value → Shared → Prop) (xv : Value) (s₁ : Shared) : Prop :=
  ∃ r t u v n news ax its ka b g, xv = .ref r ∧ A.handled = none ∧ Fr h₀ L s₁.heap m ∧ News h₀ L s₁.heap news ∧ IsRange s₁.heap r 0 ((n : Nat) : Int) 1 t u v ∧ Builtin.Range.small 0 ((n : Nat) : Int) 1 = true ∧ Builtin.Range.rangeSize 0 ((n : Nat) : Int) 1 = ((n : Nat) : Int) ∧
    (ax, listOf its ka) ∈ news ∧ (n + 1) * its.size ≤ sizeLine ∧
    (∀ C oC m₂ h tk (E' : Value → Shared → Prop), LCg.NsObj oC m₂ → Fr h₀ L h m → News h₀ L h ((C, oC) :: news) →
      wpAny (model prog w) A (eval i1 (compEnvC scope cl C env)) (fun xv s' => xv = .ref ax ∧ Keeps { s₁ with heap := h, toks := tk } s') E' { s₁ with heap := h, toks := tk }) ∧
    (∀ i t j v1 C oC m₂ h tk (E' : Value → Shared → Prop), i < n → its[j]? = some v1 → LCg.NsObj oC m₂ → m₂ x0 = some (.int (0 + ((i : Nat) : Int)) t) → m₂ x1 = some v1 → Fr h₀ L h m → News h₀ L h ((C, oC) :: news) →
      wpAny (model prog w) A (isTrue c (compEnvC scope cl C env) (eval c (compEnvC scope cl C env))) (fun ok s' => ok = b i j ∧ Keeps { s₁ with heap := h, toks := tk } s') E' { s₁ with heap := h, toks := tk }) ∧
    (∀ i t j v1 C oC m₂ h tk (E' : Value → Shared → Prop), i < n → its[j]? = some v1 → LCg.NsObj oC m₂ → m₂ x0 = some (.int (0 + ((i : Nat) : Int)) t) → m₂ x1 = some v1 → Fr h₀ L h m → News h₀ L h ((C, oC) :: news) →
      wpAny (model prog w) A (eval elt (compEnvC scope cl C env)) (fun y s' => y = g j ∧ Keeps { s₁ with heap := h, toks := tk } s') E' { s₁ with heap := h, toks := tk }) ∧
    (∀ D h tk, Fr h₀ L h m → News h₀ L h ((D, LCg.lst (flat2 b g its.size n)) :: news) → (∀ p ∈ news, p.1 ≠ D) → Q (.ref D) { s₁ with heap := h, toks := tk })

theorem block2 {elt i0 i1 c : Expr} {x0 x1 : Str} {p0 p1 : Pos} {scope : Scope} {cl : List (Str × Addr)} {pos : Pos} {env : Env} {h₀ : Heap} {L I0 ax : Addr} {m : Str → Option Value} {RR : Value → Addr → Result → Shared → Prop} {n ka : Nat} {news : List (Addr × Obj)} {its : Array Value} {b : Nat → Nat → Bool} {g : Nat → Value}
    (hh : A.handled = none) (hcell : ∀ y ∈ scope.names, y.2 ≠ .cell) (hkind : scope.kind = .function) (hx0 : scope.names.lookup x0 = some .local) (hx : scope.names.lookup x1 = some .local) (hx01 : x0 ≠ x1)
    (hs1 : ∀ C x, foldedSetIterable i1 (compEnvC scope cl C env) x = pure x)
    (hst : IsRangeIter s.heap I0 (0 + ((0 : Nat) : Int) * 1) ((n : Int) - ((0 : Nat) : Int)) 1) (F : Fr h₀ L s.heap m) (N : News h₀ L s.heap news) (hIL : L ≠ I0) (hI₀ : h₀.get? I0 = none) (off : ∀ p ∈ news, p.1 ≠ I0)
    (hax : (ax, listOf its ka) ∈ news) (hsz : (n + 1) * its.size ≤ sizeLine)
    (hin : ∀ C oC m₂ h tk (E' : Value → Shared → Prop), LCg.NsObj oC m₂ → Fr h₀ L h m → News h₀ L h ((C, oC) :: news) →
      wpAny (model prog w) A (eval i1 (compEnvC scope cl C env)) (fun xv s' => xv = .ref ax ∧ Keeps { s with heap := h, toks := tk } s') E' { s with heap := h, toks := tk })
    (htest : ∀ i t j v1 C oC m₂ h tk (E' : Value → Shared → Prop), i < n → its[j]? = some v1 → LCg.NsObj oC m₂ → m₂ x0 = some (.int (0 + ((i : Nat) : Int)) t) → m₂ x1 = some v1 → Fr h₀ L h m → News h₀ L h ((C, oC) :: news) →
      wpAny (model prog w) A (isTrue c (compEnvC scope cl C env) (eval c (compEnvC scope cl C env))) (fun ok s' => ok = b i j ∧ Keeps { s with heap := h, toks := tk } s') E' { s with heap := h, toks := tk })
    (helt : ∀ i t j v1 C oC m₂ h tk (E' : Value → Shared → Prop), i < n → its[j]? = some v1 → LCg.NsObj oC m₂ → m₂ x0 = some (.int (0 + ((i : Nat) : Int)) t) → m₂ x1 = some v1 → Fr h₀ L h m → News h₀ L h ((C, oC) :: news) →
      wpAny (model prog w) A (eval elt (compEnvC scope cl C env)) (fun y s' => y = g j ∧ Keeps { s with heap := h, toks := tk } s') E' { s with heap := h, toks := tk })
    (hRR : ∀ D C h tk m', Fr h₀ L h m → News h₀ L h ((D, LCg.lst (flat2 b g its.size n)) :: news) → (∀ p ∈ news, p.1 ≠ D) → h.Ns C m' → h₀.get? C = none → h₀.get? D = none → C ≠ L → D ≠ L → C ≠ D → (∀ p ∈ news, p.1 ≠ C) → RR (.ref D) C (.ok .next) { s with heap := h, toks := tk }) :
    wpAny (model prog w) A (newList []) (fun acc s₃ => wpAny (model prog w) A (newFunctionEnv scope env.globals cl [] env.qual none .none (some env)) (fun cenv s₄ =>
      codeAny (model prog w) A (.compStart (.ListComp elt [⟨.Name x0 p0, i0, [], 0⟩, ⟨.Name x1 p1, i1, [c], 0⟩] scope pos) 0 (.ref I0) acc { cenv with scope := relabel scope env }) (RR acc cenv.locals) s₄) E s₃) E s := by
  refine wpAny_newObj_type (wpAny_newFunctionEnv hcell (by intro y hy; simp at hy) (fun h₁ hns₁ hsb₁ => ?_) hkind)
  dsimp only at hns₁ hsb₁ ⊢
  generalize hH2 : s.heap.push { cls := .type "list", dict := none, data := .seq ([] : List Value).toArray } = H2 at hns₁ hsb₁ ⊢
  have hC : H2.objs.size = s.heap.objs.size + 1 := by rw [← hH2, Heap.size_push]
  have hDC : s.heap.objs.size ≠ H2.objs.size := by rw [hC]; exact Nat.ne_of_lt (Nat.lt_succ_self _)
  have below : ∀ b, b < s.heap.objs.size → b ≠ H2.objs.size ∧ b ≠ s.heap.objs.size := fun b hb => ⟨by rw [hC]; exact Nat.ne_of_lt (Nat.lt_succ_of_lt hb), Nat.ne_of_lt hb⟩
  have hIlt : I0 < s.heap.objs.size := by
    have e : s.heap.get? I0 = some _ := hst
    exact Heap.lt_size e
  have old : ∀ b o, s.heap.get? b = some o → h₁.get? b = some o := fun b o e => hsb₁.extBut b o (below b (Heap.lt_size e)).1 (Heap.get?_push_of_some _ (hH2 ▸ Heap.get?_push_of_some _ e))
  have hacc : h₁.get? s.heap.objs.size = some (LCg.lst []) := hsb₁.extBut _ _ hDC (Heap.get?_push_of_some _ (hH2 ▸ Heap.get?_push_size _ rfl))
  have W0 := LCg.range_walks (prog := prog) (w := w) (I := I0) hh 0 n
  have hst₁ : IsRangeIter h₁ I0 (0 + ((0 : Nat) : Int) * 1) ((n : Int) - ((0 : Nat) : Int)) 1 := W0.frame _ _ _ hst fun b _ o e => old b o e
  have fresh : ∀ a, s.heap.objs.size ≤ a → s.heap.get? a = none := fun a ha => by
    cases e : s.heap.get? a with
    | none => rfl
    | some o' => exact absurd (Heap.lt_size e) (Nat.not_lt.mpr ha)
  have fresh₀ : ∀ a, s.heap.objs.size ≤ a → h₀.get? a = none := fun a ha => by
    cases e : h₀.get? a with
    | none => rfl
    | some o' => have := F.keep a o' e; rw [fresh a ha] at this; cases this
  have hD₀ : h₀.get? s.heap.objs.size = none := fresh₀ _ (Nat.le_refl _)
  have hC₀ : h₀.get? H2.objs.size = none := fresh₀ _ (by rw [hC]; exact Nat.le_succ _)
  have hLlt : L < s.heap.objs.size := F.ns.lt
  have hDL : s.heap.objs.size ≠ L := Ne.symm (below L hLlt).2
  have hCL : H2.objs.size ≠ L := Ne.symm (below L hLlt).1
  have hCI : I0 ≠ H2.objs.size := (below I0 hIlt).1
  have hDI : I0 ≠ s.heap.objs.size := (below I0 hIlt).2
  have offC : ∀ p ∈ news, p.1 ≠ H2.objs.size := fun p hp => (below _ (Heap.lt_size (N p hp).1)).1
  have offD : ∀ p ∈ news, p.1 ≠ s.heap.objs.size := fun p hp => (below _ (Heap.lt_size (N p hp).1)).2
  have loop : ∀ s₃ : Shared, s₃ = { s with heap := h₁, toks := s.toks + ([] : List (Str × Value)).length } →
      codeAny (model prog w) A (.compLoop (.ListComp elt [⟨.Name x0 p0, i0, [], 0⟩, ⟨.Name x1 p1, i1, [c], 0⟩] scope pos) 0 (.ref I0) (.ref s.heap.objs.size) (compEnvC scope cl H2.objs.size env))
        (RR (.ref s.heap.objs.size) H2.objs.size) s₃ := by
    rintro s₃ rfl
    refine loop_out
      (fun k s' => ∃ h' tk i m', s' = { s with heap := h', toks := tk } ∧ i ≤ n ∧ k = n + 1 - i ∧ IsRangeIter h' I0 (0 + (i : Nat) * 1) ((n : Int) - (i : Nat)) 1 ∧ Fr h₀ L h' m ∧ h'.Ns H2.objs.size m' ∧ News h₀ L h' ((s.heap.objs.size, LCg.lst (flat2 b g its.size i)) :: news)) ?_ (n + 1)
      ⟨h₁, _, 0, _, rfl, Nat.zero_le _, rfl, hst₁, F.keeps old, hns₁, fun p hp => ?_⟩ (hs1 _)
    · rintro k s' ⟨h', tk, i, m', rfl, hi, rfl, hst', F', hn', N'⟩
      by_cases hlt : i < n
      · refine W0.item i _ _ _ hlt hst' fun v h₂ tk₂ hPv hst₂ hk₂ => ?_
        obtain ⟨ti, rfl⟩ := hPv
        refine wpAny_assign_Name (wpAny_storeName_local (lookup_relabel_local hx0) (hn'.at' fun o e => hk₂ _ o (by simpa using Ne.symm hCI) e) (fun h₃ hn₃ hs₃ => ?_) (by simp [compEnvC, relabel, hkind]))
        obtain ⟨oC, heC, hoC⟩ := LCg.ns_obj hn₃
        have F₃ : Fr h₀ L h₃ m := (LCg.fr_but F' hk₂ hIL hI₀).change hs₃ hCL hC₀
        have N₂ : News h₀ L h₂ ((s.heap.objs.size, LCg.lst (flat2 b g its.size i)) :: news) := LCg.news_but N' hk₂ fun p hp => by
          rcases List.mem_cons.mp hp with rfl | hp
          · exact Ne.symm hDI
          · exact off p hp
        have N₃ : News h₀ L h₃ ((H2.objs.size, oC) :: (s.heap.objs.size, LCg.lst (flat2 b g its.size i)) :: news) := fun p hp => by
          rcases List.mem_cons.mp hp with rfl | hp
          · exact ⟨heC, hCL, hC₀⟩
          · have z := N₂ p hp
            refine ⟨hs₃.extBut _ _ ?_ z.1, z.2⟩
            rcases List.mem_cons.mp hp with rfl | hp
            · exact hDC
            · exact offC p hp
        have e₂ : h₂.get? I0 = some (itRg2 (0 + ((i + 1 : Nat) : Int) * 1) ((n : Int) - ((i + 1 : Nat) : Int))) := hst₂
        have e₃ : h₃.get? I0 = some (itRg2 (0 + ((i + 1 : Nat) : Int) * 1) ((n : Int) - ((i + 1 : Nat) : Int))) := hs₃.extBut _ _ hCI e₂
        refine wpAny_mono (hin H2.objs.size oC _ h₃ _ _ hoC F₃ (fun p hp => N₃ p (by
          rcases List.mem_cons.mp hp with rfl | hp
          · exact .head _
          · exact .tail _ (.tail _ hp)))) (fun xv s₄ hx4 => ?_) fun _ _ e => e
        obtain ⟨rfl, h₄, tk₄, rfl, kp⟩ := hx4
        have F₄ := F₃.keeps kp
        have N₄ : News h₀ L h₄ ((s.heap.objs.size, LCg.lst (flat2 b g its.size i)) :: (I0, itRg2 (0 + ((i + 1 : Nat) : Int) * 1) ((n : Int) - ((i + 1 : Nat) : Int))) :: news) := fun p hp => by
          rcases List.mem_cons.mp hp with rfl | hp
          · exact ⟨kp _ _ (N₃ _ (.tail _ (.head _))).1, (N₃ _ (.tail _ (.head _))).2⟩
          rcases List.mem_cons.mp hp with rfl | hp
          · exact ⟨kp _ _ e₃, Ne.symm hIL, hI₀⟩
          · exact ⟨kp _ _ (N₃ p (.tail _ (.tail _ hp))).1, (N₃ p (.tail _ (.tail _ hp))).2⟩
        have hl₄ : h₄.IsList ax its := ⟨_, (N₄ _ (.tail _ (.tail _ hax))).1, rfl, ka, rfl⟩
        have hC₄ : h₄.get? H2.objs.size = some oC := kp _ _ heC
        refine wpAny_pyIter_list hl₄ ?_
        dsimp only
        generalize hH5 : h₄.push { cls := .type "list_iterator", data := .fields #[.ref ax, .int 0 0] } = H5
        have up : ∀ b o, h₄.get? b = some o → H5.get? b = some o := fun b o e => hH5 ▸ Heap.get?_push_of_some _ e
        have hit : H5.IsListIter h₄.objs.size ax 0 := hH5 ▸ ⟨_, Heap.get?_push_size _ rfl, rfl, rfl⟩
        have lts : ∀ a o, h₄.get? a = some o → a ≠ h₄.objs.size := fun a o e => Nat.ne_of_lt (Heap.lt_size e)
        have led := fun p hp => N₄ p (.tail _ hp)
        have run := fun (R' : Result → Shared → Prop) hR' => inner (prog := prog) (w := w) (A := A) (R := R') (elt := elt) (t0 := .Name x0 p0) (i0 := i0) (i1 := i1) (c := c) (p1 := p1) (cl := cl) (pos := pos) (env := env) (s := { s with heap := H5, toks := tk₄ }) (b i) g hh hkind hx hx01 (.tail _ hax) (by
            have h1 := flat2_len b g its.size i
            have h2 : i * its.size ≤ n * its.size := Nat.mul_le_mul_right _ hi
            have h3 : (n + 1) * its.size = n * its.size + its.size := Nat.succ_mul ..
            omega) hit (F₄.keeps up) (hoC.ns (up _ _ hC₄)) (v0 := .int (0 + (i : Int)) ti) (by simp) (N₄.grown up)
          (fun p hp => by
            have e4 := (led p hp).1
            refine ⟨lts _ _ e4, ?_, ?_⟩
            · rcases List.mem_cons.mp hp with rfl | hp
              · exact hCI
              · exact offC p hp
            · rcases List.mem_cons.mp hp with rfl | hp
              · exact hDI
              · exact offD p hp)
          (Ne.symm (lts _ _ hC₄)) (Ne.symm (lts _ _ (N₄ _ (.head _)).1)) (Ne.symm hDC) (Ne.symm (Nat.ne_of_lt F₄.ns.lt)) hCL hDL (next_is_new F₄) hC₀ hD₀
          (fun j v1 oC' m₂ h tk ys E' hj ho h0 h1 F'' N'' => htest i ti j v1 _ oC' m₂ h tk E' hlt hj ho h0 h1 F'' (fun p hp => N'' p (by
            rcases List.mem_cons.mp hp with rfl | hp
            · exact .head _
            · exact .tail _ (.tail _ (.tail _ hp)))))
          (fun j v1 oC' m₂ h tk ys E' hj ho h0 h1 F'' N'' => helt i ti j v1 _ oC' m₂ h tk E' hlt hj ho h0 h1 F'' (fun p hp => N'' p (by
            rcases List.mem_cons.mp hp with rfl | hp
            · exact .head _
            · exact .tail _ (.tail _ (.tail _ hp))))) hR'
        have fin : ∀ h tk m₂, Fr h₀ L h m → h.Ns H2.objs.size m₂ → News h₀ L h ((s.heap.objs.size, LCg.lst (flat2 b g its.size i ++ ((List.range its.size).filter (b i)).map g)) :: (I0, itRg2 (0 + ((i + 1 : Nat) : Int) * 1) ((n : Int) - ((i + 1 : Nat) : Int))) :: news) →
            ∃ k', k' < n + 1 - i ∧ ∃ h' tk' i' m', ({ s with heap := h, toks := tk } : Shared) = { s with heap := h', toks := tk' } ∧ i' ≤ n ∧ k' = n + 1 - i' ∧ IsRangeIter h' I0 (0 + (i' : Nat) * 1) ((n : Int) - (i' : Nat)) 1 ∧ Fr h₀ L h' m ∧ h'.Ns H2.objs.size m' ∧ News h₀ L h' ((s.heap.objs.size, LCg.lst (flat2 b g its.size i')) :: news) := by
          intro h tk m₂ F'' C'' N''
          refine ⟨n + 1 - (i + 1), by omega, h, tk, i + 1, m₂, rfl, hlt, rfl, (N'' _ (.tail _ (.head _))).1, F'', C'', ?_⟩
          rw [flat2_succ]
          exact fun p hp => N'' p (by
            rcases List.mem_cons.mp hp with rfl | hp
            · exact .head _
            · exact .tail _ (.tail _ hp))
        refine start_in (run _ fin) ?_
        exact (Walks.list (prog := prog) (w := w) hh h₄.objs.size ax (lts _ _ (N₄ _ (.tail _ (.tail _ hax))).1) its).self 0 _ _ _ ⟨hit, (hl₄.at fun o e => up _ _ e)⟩ (run _ fin)
      · obtain rfl : i = n := Nat.le_antisymm hi (Nat.not_lt.mp hlt)
        refine W0.done _ _ _ hst' fun h₂ tk₂ hk₂ => ?_
        exact hRR _ _ h₂ tk₂ _ (LCg.fr_but F' hk₂ hIL hI₀) (LCg.news_but N' hk₂ fun p hp => by
          rcases List.mem_cons.mp hp with rfl | hp
          · exact Ne.symm hDI
          · exact off p hp) offD (hn'.at' fun o e => hk₂ _ o (by simpa using Ne.symm hCI) e) hC₀ hD₀ hCL hDL (Ne.symm hDC) offC
    · rcases List.mem_cons.mp hp with rfl | hp
      · exact ⟨hacc, hDL, hD₀⟩
      · exact ⟨old _ _ (N p hp).1, (N p hp).2⟩
  exact codeAny_compStart_list (loop _ rfl) (W0.self 0 _ _ _ hst₁ (loop _ rfl))

theorem comp2 {elt i0 i1 c : Expr} {x0 x1 : Str} {p0 p1 : Pos} {scope : Scope} {cl : List (Str × Addr)} {pos : Pos} {env : Env} {h₀ : Heap} {L : Addr} {m : Str → Option Value} {Q : Value → Shared → Prop} (F₀ : Fr h₀ L s.heap m)
    (hclos : closureFor scope env = pure cl) (hcell : ∀ y ∈ scope.names, y.2 ≠ .cell) (hkind : scope.kind = .function)
    (hnames : ∀ y ∈ scope.names, y.2 = .local → scope.names.lookup y.1 = some .local) (hx0 : scope.names.lookup x0 = some .local) (hx : scope.names.lookup x1 = some .local) (hx01 : x0 ≠ x1)
    (hs1 : ∀ C x, foldedSetIterable i1 (compEnvC scope cl C env) x = pure x)
    (h : wpAny (model prog w) A (eval i0 env) (Src2 prog w A h₀ L m env elt c i1 x0 x1 scope cl Q) E s)
    (hs : ∀ x, foldedSetIterable i0 env x = pure x := by intro _; rfl) :
    wpAny (model prog w) A (eval (.ListComp elt [⟨.Name x0 p0, i0, [], 0⟩, ⟨.Name x1 p1, i1, [c], 0⟩] scope pos) env) Q E s := by
  rw [eval_ListComp]
  refine wpAny_comprehension_free (use := none) rfl hs hclos hkind hnames (wpAny_mono h (fun xv s₁ h₁ => ?_) fun _ _ e => e)
  obtain ⟨r, t, u, v, n, news, ax, its, ka, b, g, rfl, hh, F, N, hr, hsm, hn, hax, hsz, hin, htest, helt, hfin⟩ := h₁
  refine wpAny_pyIter_range hr hsm ?_
  refine block2 (s := { s₁ with heap := _ }) hh hcell hkind hx0 hx hx01 hs1 (by show IsRangeIter _ _ _ _ _; rw [hn]; simpa using Heap.get?_push_size _ rfl)
    (F.keeps fun _ _ e => Heap.get?_push_of_some _ e) (N.grown fun _ _ e => Heap.get?_push_of_some _ e) (Nat.ne_of_lt F.ns.lt) (next_is_new F) (fun p hp => Nat.ne_of_lt (Heap.lt_size (N p hp).1)) hax hsz hin htest helt ?_
  intro D C h tk m' F' N' o1 hn hC₀ hD₀ hCL hDL hCD offC
  refine ⟨m', hn, fun h'' hs'' => hfin D h'' tk (F'.change hs'' hCL hC₀) (fun p hp => ?_) o1⟩
  refine ⟨hs''.extBut _ _ ?_ (N' p hp).1, (N' p hp).2⟩
  rcases List.mem_cons.mp hp with rfl | hp
  · exact Ne.symm hCD
  · exact offC p hp
end
end Mine

/-! # L15 -/
namespace Mine
theorem fresh_L15 : True := by
  w_top off
  exact True.intro

theorem its4 {a b c d v : Value} {j : Nat} (h : (#[a, b, c, d] : Array Value)[j]? = some v) : (j = 0 ∧ v = a) ∨ (j = 1 ∧ v = b) ∨ (j = 2 ∧ v = c) ∨ (j = 3 ∧ v = d) := by
  match j with
  | 0 => exact .inl ⟨rfl, (Option.some.inj h).symm⟩
  | 1 => exact .inr (.inl ⟨rfl, (Option.some.inj h).symm⟩)
  | 2 => exact .inr (.inr (.inl ⟨rfl, (Option.some.inj h).symm⟩))
  | 3 => exact .inr (.inr (.inr ⟨rfl, (Option.some.inj h).symm⟩))
  | j + 4 => simp at h
theorem notin_map {D : Addr} {x : Addr × Obj} {core : List (Addr × Obj)} (h : ∀ p ∈ x :: core, p.1 ≠ D) : D ∉ core.map (·.1) := fun hm => by
  obtain ⟨q, hq, e⟩ := List.mem_map.mp hm
  exact h q (.tail _ hq) e
/-- the rows in the order of their places -/
def rowsOf (S : Four RT) : List Value := flat2 (fun i j => decide ((pick S.1.p.y S.2.1.p.y S.2.2.1.p.y S.2.2.2.p.y j) = ((i : Nat) : Int))) (fun j => .ref (pick S.1.r S.2.1.r S.2.2.1.r S.2.2.2.r j)) 4 4
section
local macro_rules | `(tactic| k_units) => `(tactic| ktr_units)

theorem rows {w : World} {hp : Addr} {T0 T1 T2 T3 : RT} {ep : Nat} {news : List (Addr × Obj)}
    (hsub : ∀ p ∈ [(hp, listOf #[.ref T0.a, .ref T1.a, .ref T2.a, .ref T3.a] ep), (T0.a, tupObj #[.int T0.p.x T0.u, .int T0.p.y T0.v, .ref T0.r] T0.e), (T1.a, tupObj #[.int T1.p.x T1.u, .int T1.p.y T1.v, .ref T1.r] T1.e), (T2.a, tupObj #[.int T2.p.x T2.u, .int T2.p.y T2.v, .ref T2.r] T2.e), (T3.a, tupObj #[.int T3.p.x T3.u, .int T3.p.y T3.v, .ref T3.r] T3.e)], p ∈ news) :
    MakeOk w 9 143 [.ref hp] news (fun r new => ∃ D e, r = .ref D ∧ new = [(D, listOf (rowsOf (T0, T1, T2, T3)).toArray e)]) := by
  have hK : (hd.heap_39, PySem.Challenge.rw_mr0075_01) = (hd.heap_39, PySem.Challenge.rw_mr0075_01) := by k_fill; rfl
  clear hK
  intro dp un gd cn cs a ccd cl outer A₀ base h₀ L m s p loose mean mg mb Q E B F X N T hk hd hu hret
  refine wpAny_call ?_
  k_dflt (refine' code_defCF ?k1 ?k2 ?k3 ?k4 hsub ?k5 ?kA ?kF ?kK ?k6 ?k7 ?k8 ?k9 ?kB ?kD ?_ ?c2 ?c3 ?c4; (case kA => exact rfl); (case kF => exact rfl); (case kK => assumption); (case k1 => k_asm); (case k2 => k_asm); (case k3 => k_asm); (case k4 => k_asm); (case k5 => k_asm); (case k6 => k_is); (case k7 => k_is); (case k8 => ktr_room); (case k9 => exact BindsTo.of_eq rfl); (case kB => exact rfl); (case kD => decide +kernel); (case c2 => exact rfl); (case c3 => exact rfl); (case c4 => exact rfl); k_whole)
  intro g' L' h' tk' cells' FG' F' N' Y' B' X' T' l1 S'
  (try k_lt l1); k_cells Y'; (try simp only [List.cons_append, List.nil_append] at N'); (try dsimp only); (try k_fold)
  k_steps
  k_here
  k_dflt (refine comp2 (F₀ := by k_asm) (by rfl) (by decide) (by rfl) (by decide) (by rfl) (by rfl) (by decide) (by intro _ _; rfl) ?_)
  k_steps
  refine ⟨_, _, _, _, 4, _, hp, _, ep, fun i j => decide ((pick T0.p.y T1.p.y T2.p.y T3.p.y j) = ((i : Nat) : Int)), fun j => .ref (pick T0.r T1.r T2.r T3.r j), rfl, rfl, by k_asm, by k_asm, by assumption, by decide, by decide, by k_mem, by rw [sizeLine_eq]; exact Nat.le_of_ble_eq_true rfl, ?hin, ?htest, ?helt, ?fin⟩
  case hin =>
    intro C oC m₂ h tk E' hC F2 N2
    k_steps
    exact ⟨_, _, rfl, fun _ _ e => e⟩
  case htest =>
    intro i t j v1 C oC m₂ h tk E' hi hj hC h0 h1 F2 N2
    rcases its4 hj with ⟨rfl, rfl⟩ | ⟨rfl, rfl⟩ | ⟨rfl, rfl⟩ | ⟨rfl, rfl⟩
    all_goals
      k_steps
      · show (_ == _) = decide (_ = _)
        rw [Int.zero_add]
        exact Bool.beq_eq_decide_eq _ _
      · exact ⟨_, _, rfl, fun _ _ e => e⟩
  case helt =>
    intro i t j v1 C oC m₂ h tk E' hi hj hC h0 h1 F2 N2
    rcases its4 hj with ⟨rfl, rfl⟩ | ⟨rfl, rfl⟩ | ⟨rfl, rfl⟩ | ⟨rfl, rfl⟩
    all_goals
      k_steps
      exact ⟨_, _, rfl, fun _ _ e => e⟩
  case fin =>
    intro D h tk F2 N2 off2
    k_steps
    rename Fr h₀ _ _ _ => kF
    rename News h₀ _ _ _ => kN
    rename Fr g' L' _ _ => fF
    rename News g' L' _ _ => fN
    refine hret _ _ _ _ kF (back_all (new := [(D, listOf (rowsOf (T0, T1, T2, T3)).toArray _)]) N hsub S' fF kN (List.forall_mem_singleton.mpr (.head _)) (by lcg_sub)) ⟨_, rfl, apart_all N S' fN (List.forall_mem_singleton.mpr (.head _)) (List.forall_mem_singleton.mpr (notin_map off2)), ⟨D, _, rfl, rfl⟩⟩
end
end Mine

/-! # C3 -/
namespace Mine
theorem fresh_C3 : True := by
  w_top off
  exact True.intro
/-! ## a comprehension whose name is captured by the one within -/
section
variable {prog : Program} {w : World} {A : Around} {E : Value → Shared → Prop} {s : Shared}

theorem newEnvC {M : Model} {scope : Scope} {globals : Addr} {cl : List (Str × Addr)} {qual : Str} {env : Env} {x : Str} {Q : Env → Shared → Prop}
    (hcf : ∀ n acc, cellsFrom n scope.names acc = (x, n) :: acc) (hpc : ∀ h, pushCells h scope.names = h.push { cls := .type "cell", data := .cell none })
    (hQ : Q (newEnv scope s.heap.objs.size globals ((x, s.heap.objs.size + 1) :: cl) qual none .none (some env) builtinsNs) { s with heap := (s.heap.push { cls := .type "dict", data := .dict #[] }).push { cls := .type "cell", data := .cell none } }) :
    wpAny M A (newFunctionEnv scope globals cl [] qual none .none (some env)) Q E s := by
  simp only [newFunctionEnv, Option.isSome_some, if_true]
  refine wpAny_bind (wpAny_alloc ?_)
  refine wpAny_bind (wpAny_layCells _ (fun name kind cells => by cases hkc : kind == NameKind.cell <;> simp [hkc]) _ _ _ _ ?_)
  rw [hcf, hpc]
  rw [show ({ s with heap := s.heap.push { cls := .type "dict", data := .dict #[] } } : Shared).heap.objs.size = s.heap.objs.size + 1 from Heap.size_push ..]
  refine wpAny_bind (wpAny_pure (wpAny_pure hQ))

def EndC (h₀ : Heap) (L : Addr) (m : Str → Option Value) (s₂ : Shared) (own : List (Addr × Obj)) (J : Value → List (Addr × Obj) → Prop) (y : Value) (s' : Shared) : Prop :=
  ∃ h' tk' led', s' = { s₂ with heap := h', toks := tk' } ∧ Fr h₀ L h' m ∧ News h₀ L h' (own ++ led') ∧ (∀ p ∈ led', ∀ q ∈ own, p.1 ≠ q.1) ∧ J y led'
theorem EndC.one {h₀ : Heap} {L : Addr} {m : Str → Option Value} {s₂ : Shared} {I C K D T : Addr} {oI oC oK oD o : Obj} {led : List (Addr × Obj)} {J : Value → List (Addr × Obj) → Prop} {y : Value} {h' : Heap} {tk : Nat}
    (F : Fr h₀ L h' m) (N : News h₀ L h' ((T, o) :: (I, oI) :: (C, oC) :: (K, oK) :: (D, oD) :: led)) (hT : @Ne Nat I T ∧ @Ne Nat C T ∧ @Ne Nat K T ∧ @Ne Nat D T) (off : ∀ p ∈ led, ∀ q ∈ [(I, oI), (C, oC), (K, oK), (D, oD)], p.1 ≠ q.1) (hJ : J y ((T, o) :: led)) :
    EndC h₀ L m s₂ [(I, oI), (C, oC), (K, oK), (D, oD)] J y { s₂ with heap := h', toks := tk } := by
  refine ⟨h', tk, (T, o) :: led, rfl, F, fun p hp => N p ?_, ?_, hJ⟩
  · simp only [List.cons_append, List.nil_append, List.mem_cons] at hp ⊢
    rcases hp with e | e | e | e | e | e <;> simp [e]
  · intro p hp
    rcases List.mem_cons.mp hp with rfl | hp
    · intro q hq
      simp only [List.mem_cons, List.not_mem_nil, or_false] at hq
      rcases hq with rfl | rfl | rfl | rfl
      · exact Ne.symm hT.1
      · exact Ne.symm hT.2.1
      · exact Ne.symm hT.2.2.1
      · exact Ne.symm hT.2.2.2
    · exact off p hp

theorem blockC {elt iter : Expr} {x : Str} {px : Pos} {scope : Scope} {cl : List (Str × Addr)} {pos : Pos} {env : Env} {h₀ : Heap} {L I : Addr} {m : Str → Option Value} {fp : List Addr} {n : Nat} {P : Nat → Value → Prop} {St : Nat → Heap → Prop} {S : List (Addr × Obj) → Prop} {news : List (Addr × Obj)}
    {J : Nat → List Value → List (Addr × Obj) → Prop} {RR : Value → Addr → Result → Shared → Prop}
    (W : Walks prog w A I fp [I] n P St) (hsz : n ≤ sizeLine) (hIo : ∀ i h, St i h → ∃ o, h.get? I = some o)
    (hSt : ∀ i h h' o nw, St i h → h.get? I = some o → h'.get? I = some o → (∀ b o, h₀.get? b = some o → h'.get? b = some o) → News h₀ L h' nw → S nw → St i h')
    (hcf : ∀ n acc, cellsFrom n scope.names acc = (x, n) :: acc) (hpc : ∀ h, pushCells h scope.names = h.push { cls := .type "cell", data := .cell none })
    (hkind : scope.kind = .function) (hx : ∀ C K, (compEnvC scope ((x, K) :: cl) C env).kindOf x = some .cell) (hst : St 0 s.heap) (hfp : ∀ b ∈ fp, b < s.heap.objs.size)
    (F : Fr h₀ L s.heap m) (N : News h₀ L s.heap news) (hIL : L ≠ I) (hI₀ : h₀.get? I = none) (off : ∀ p ∈ news, p.1 ≠ I) (hJS : ∀ i ys led, J i ys led → S led) (hJ : J 0 [] news)
    (turn : ∀ i v oI C oC K oK D h tk ys led (E' : Value → Shared → Prop), i < n → P i v → J i ys led → oK.data = .cell (some v) → Fr h₀ L h m → News h₀ L h ((I, oI) :: (C, oC) :: (K, oK) :: (D, LCg.lst ys) :: led) →
      (∀ p ∈ led, ∀ q ∈ [(I, oI), (C, oC), (K, oK), (D, LCg.lst ys)], p.1 ≠ q.1) → (@Ne Nat I C ∧ @Ne Nat I K ∧ @Ne Nat I D ∧ @Ne Nat C K ∧ @Ne Nat C D ∧ @Ne Nat K D) →
      wpAny (model prog w) A (eval elt (compEnvC scope ((x, K) :: cl) C env)) (EndC h₀ L m { s with heap := h, toks := tk } [(I, oI), (C, oC), (K, oK), (D, LCg.lst ys)] (fun y led' => J (i + 1) (ys ++ [y]) led')) E' { s with heap := h, toks := tk })
    (hRR : ∀ D C h tk m' ys led, J n ys led → Fr h₀ L h m → News h₀ L h ((D, LCg.lst ys) :: led) → (∀ p ∈ led, p.1 ≠ D) → h.Ns C m' → h₀.get? C = none → h₀.get? D = none → C ≠ L → D ≠ L → C ≠ D → (∀ p ∈ led, p.1 ≠ C) → RR (.ref D) C (.ok .next) { s with heap := h, toks := tk }) :
    wpAny (model prog w) A (newList []) (fun acc s₃ => wpAny (model prog w) A (newFunctionEnv scope env.globals cl [] env.qual none .none (some env)) (fun cenv s₄ =>
      codeAny (model prog w) A (.compStart (.ListComp elt [⟨.Name x px, iter, [], 0⟩] scope pos) 0 (.ref I) acc { cenv with scope := relabel scope env }) (RR acc cenv.locals) s₄) E s₃) E s := by
  refine wpAny_newObj_type (newEnvC (x := x) hcf hpc ?_)
  dsimp only
  generalize hH2 : s.heap.push { cls := .type "list", dict := none, data := .seq ([] : List Value).toArray } = H2
  generalize hH3 : H2.push { cls := .type "dict", data := .dict #[] } = H3
  generalize hH4 : H3.push { cls := .type "cell", data := .cell none } = h₁
  have hC : H2.objs.size = s.heap.objs.size + 1 := by rw [← hH2, Heap.size_push]
  have hK3 : H3.objs.size = s.heap.objs.size + 2 := by rw [← hH3, Heap.size_push, hC]
  have up2 : ∀ b o, s.heap.get? b = some o → H2.get? b = some o := fun b o e => hH2 ▸ Heap.get?_push_of_some _ e
  have up3 : ∀ b o, H2.get? b = some o → H3.get? b = some o := fun b o e => hH3 ▸ Heap.get?_push_of_some _ e
  have up4 : ∀ b o, H3.get? b = some o → h₁.get? b = some o := fun b o e => hH4 ▸ Heap.get?_push_of_some _ e
  have old : ∀ b o, s.heap.get? b = some o → h₁.get? b = some o := fun b o e => up4 _ _ (up3 _ _ (up2 _ _ e))
  have hns₁ : h₁.Ns H2.objs.size (fun _ => none) := ((hH3 ▸ Heap.Ns.new H2 (.type "dict") : H3.Ns H2.objs.size (fun _ => none))).at' fun o e => up4 _ _ e
  have hK₁ : h₁.IsCell (H2.objs.size + 1) none := by
    have e : H2.objs.size + 1 = H3.objs.size := by rw [← hH3, Heap.size_push]
    rw [e, ← hH4]
    exact ⟨_, Heap.get?_push_size _ rfl, rfl⟩
  have hacc : h₁.get? s.heap.objs.size = some (LCg.lst []) := up4 _ _ (up3 _ _ (hH2 ▸ Heap.get?_push_size _ rfl))
  generalize hD : s.heap.objs.size = D at *
  generalize hCC : H2.objs.size = C at *
  generalize hKK : C + 1 = K at *
  have below : ∀ b, b < D → b ≠ C ∧ b ≠ D ∧ b ≠ K := fun b hb => ⟨by omega, Nat.ne_of_lt hb, by omega⟩
  have hDC : D ≠ C := by omega
  have hDK : D ≠ K := by omega
  have hCK : C ≠ K := by omega
  have hIf : I ∈ fp := W.sub I (List.mem_singleton.mpr rfl)
  have hIlt : I < D := hfp I hIf
  have hst₁ : St 0 h₁ := W.frame _ _ _ hst fun b _ o e => old b o e
  have fresh₀ : ∀ a, D ≤ a → h₀.get? a = none := fun a ha => by
    cases e : h₀.get? a with
    | none => rfl
    | some o' => have h5 := Heap.lt_size (F.keep a o' e); rw [hD] at h5; exact absurd h5 (Nat.not_lt.mpr ha)
  have hD₀ : h₀.get? D = none := fresh₀ _ (Nat.le_refl _)
  have hC₀ : h₀.get? C = none := fresh₀ _ (by omega)
  have hK₀ : h₀.get? K = none := fresh₀ _ (by omega)
  have hLlt : L < D := hD ▸ F.ns.lt
  have hDL : D ≠ L := Ne.symm (below L hLlt).2.1
  have hCL : C ≠ L := Ne.symm (below L hLlt).1
  have hKL : K ≠ L := Ne.symm (below L hLlt).2.2
  have hIC : I ≠ C := (below I hIlt).1
  have hID : I ≠ D := (below I hIlt).2.1
  have hIK : I ≠ K := (below I hIlt).2.2
  have hDf : D ∉ fp := fun hm => Nat.lt_irrefl _ (hfp _ hm)
  have hCf : C ∉ fp := fun hm => absurd (hfp _ hm) (Nat.not_lt.mpr (by omega))
  have hKf : K ∉ fp := fun hm => absurd (hfp _ hm) (Nat.not_lt.mpr (by omega))
  have off₀ : ∀ p ∈ news, p.1 ≠ I ∧ p.1 ≠ C ∧ p.1 ≠ K ∧ p.1 ≠ D := fun p hp => by
    have hlt : p.1 < D := hD ▸ Heap.lt_size (N p hp).1
    exact ⟨off p hp, (below _ hlt).1, (below _ hlt).2.2, (below _ hlt).2.1⟩
  have loop : ∀ s₃ : Shared, s₃ = { s with heap := h₁ } →
      codeAny (model prog w) A (.compLoop (.ListComp elt [⟨.Name x px, iter, [], 0⟩] scope pos) 0 (.ref I) (.ref D) (compEnvC scope ((x, K) :: cl) C env))
        (RR (.ref D) C) s₃ := by
    rintro s₃ rfl
    refine codeAny_compLoop_tests
      (fun k s' => ∃ h' tk i ys led ov, s' = { s with heap := h', toks := tk } ∧ i ≤ n ∧ k = n + 1 - i ∧ ys.length = i ∧ St i h' ∧ Fr h₀ L h' m ∧ h'.Ns C (fun _ => none) ∧ h'.IsCell K ov ∧ News h₀ L h' ((D, LCg.lst ys) :: led) ∧
        (∀ p ∈ led, p.1 ≠ I ∧ p.1 ≠ C ∧ p.1 ≠ K ∧ p.1 ≠ D) ∧ J i ys led) ?_ (n + 1)
      ⟨h₁, _, 0, [], news, none, rfl, Nat.zero_le _, rfl, rfl, hst₁, F.keeps old, hns₁, hK₁, fun p hp => ?_, off₀, hJ⟩
    · rintro k s' ⟨h', tk, i, ys, led, ov, rfl, hi, rfl, hyl, hst', F', hn', hK', N', off', J'⟩
      k_fold
      by_cases hlt : i < n
      · refine W.item i _ _ _ hlt hst' fun v h₂ tk₂ hPv hst₂ hk₂ => ?_
        obtain ⟨oK₀, eK₀, dK₀⟩ := hK'
        (try k_unfold)
        (try dsimp only)
        refine wpAny_assign_Name (wpAny_storeName_cell (c := K) (v₀ := ov) hkind (hx C K) (by simp [compEnvC]) ⟨oK₀, hk₂ _ _ (by simpa using Ne.symm hIK) eK₀, dK₀⟩ (fun h₃ hK₃ hs₃ => ?_))
        refine wpAny_tests_nil ?_
        simp only [if_true]
        k_fold
        have hst₃ : St (i + 1) h₃ := W.frame _ _ _ hst₂ fun b hb o e => hs₃.extBut b o (fun q => hKf (by have q' : b = K := q; rw [← q']; exact hb)) e
        obtain ⟨oI, heI⟩ := hIo _ _ hst₃
        obtain ⟨oK, heK, dK⟩ := hK₃
        obtain ⟨oC, heC, hoC⟩ := LCg.ns_obj hn'
        have heC₃ : h₃.get? C = some oC := hs₃.extBut _ _ hCK (hk₂ _ _ (by simpa using Ne.symm hIC) heC)
        have F₃ : Fr h₀ L h₃ m := (LCg.fr_but F' hk₂ hIL hI₀).change hs₃ hKL hK₀
        have N₂ : News h₀ L h₂ ((D, LCg.lst ys) :: led) := LCg.news_but N' hk₂ fun p hp => by
          rcases List.mem_cons.mp hp with rfl | hp
          · exact Ne.symm hID
          · exact (off' p hp).1
        have N₃ : News h₀ L h₃ ((I, oI) :: (C, oC) :: (K, oK) :: (D, LCg.lst ys) :: led) := fun p hp => by
          rcases List.mem_cons.mp hp with rfl | hp
          · exact ⟨heI, Ne.symm hIL, hI₀⟩
          rcases List.mem_cons.mp hp with rfl | hp
          · exact ⟨heC₃, hCL, hC₀⟩
          rcases List.mem_cons.mp hp with rfl | hp
          · exact ⟨heK, hKL, hK₀⟩
          · have z := N₂ p hp
            refine ⟨hs₃.extBut _ _ ?_ z.1, z.2⟩
            rcases List.mem_cons.mp hp with rfl | hp
            · exact hDK
            · exact (off' p hp).2.2.1
        have offq : ∀ p ∈ led, ∀ q ∈ [(I, oI), (C, oC), (K, oK), (D, LCg.lst ys)], p.1 ≠ q.1 := by
          intro p hp q hq
          have := off' p hp
          simp only [List.mem_cons, List.not_mem_nil, or_false] at hq
          rcases hq with rfl | rfl | rfl | rfl
          · exact this.1
          · exact this.2.1
          · exact this.2.2.1
          · exact this.2.2.2
        refine wpAny_mono (turn i v oI C oC K oK D h₃ _ ys led _ hlt hPv J' dK F₃ N₃ offq ⟨hIC, hIK, hID, hCK, Ne.symm hDC, Ne.symm hDK⟩) (fun y s₄ h₄ => ?_) fun _ _ e => e
        obtain ⟨h₄, tk₄, led₄, rfl, F₄, N₄, off₄, J₄⟩ := h₄
        have zI := (N₄ (I, oI) (.head _)).1
        have zC := (N₄ (C, oC) (.tail _ (.head _))).1
        have zK := (N₄ (K, oK) (.tail _ (.tail _ (.head _)))).1
        have zD := (N₄ (D, LCg.lst ys) (.tail _ (.tail _ (.tail _ (.head _))))).1
        have N₄' : News h₀ L h₄ led₄ := fun p hp => N₄ p (List.mem_append_right _ hp)
        have hst₄ : St (i + 1) h₄ := hSt _ _ _ _ _ hst₃ heI zI F₄.keep N₄' (hJS _ _ _ J₄)
        (try k_unfold)
        (try dsimp only)
        refine append_at (hsz := by show ys.toArray.size ≤ sizeLine; rw [List.size_toArray, hyl]; exact Nat.le_trans hi hsz) zD fun h₅ hs₅ hD₅ => ?_
        have o4 : ∀ p ∈ led₄, p.1 ≠ I ∧ p.1 ≠ C ∧ p.1 ≠ K ∧ p.1 ≠ D := fun p hp => ⟨off₄ p hp _ (.head _), off₄ p hp _ (.tail _ (.head _)), off₄ p hp _ (.tail _ (.tail _ (.head _))), off₄ p hp _ (.tail _ (.tail _ (.tail _ (.head _))))⟩
        refine ⟨n + 1 - (i + 1), by omega, h₅, tk₄, i + 1, ys ++ [y], led₄, some v, rfl, hlt, rfl, by rw [List.length_append, List.length_singleton, hyl], W.frame _ _ _ hst₄ fun b hb o e => hs₅.extBut b o (fun q => hDf (q ▸ hb)) e, F₄.change hs₅ hDL hD₀,
          (hoC.ns zC).sameBut hs₅ (Ne.symm hDC), ⟨oK, hs₅.extBut _ _ (Ne.symm hDK) zK, dK⟩, fun p hp => ?_, o4, J₄⟩
        rcases List.mem_cons.mp hp with rfl | hp
        · exact ⟨hD₅.trans (congrArg some (LCg.lst_snoc ys y)), hDL, hD₀⟩
        · exact ⟨hs₅.extBut _ _ (o4 p hp).2.2.2 (N₄' p hp).1, (N₄' p hp).2⟩
      · obtain rfl : i = n := Nat.le_antisymm hi (Nat.not_lt.mp hlt)
        refine W.done _ _ _ hst' fun h₂ tk₂ hk₂ => ?_
        exact hRR _ _ h₂ tk₂ _ ys led J' (LCg.fr_but F' hk₂ hIL hI₀) (LCg.news_but N' hk₂ fun p hp => by
          rcases List.mem_cons.mp hp with rfl | hp
          · exact Ne.symm hID
          · exact (off' p hp).1) (fun p hp => (off' p hp).2.2.2) (hn'.at' fun o e => hk₂ _ o (by simpa using Ne.symm hIC) e) hC₀ hD₀ hCL hDL (Ne.symm hDC) (fun p hp => (off' p hp).2.1)
    · rcases List.mem_cons.mp hp with rfl | hp
      · exact ⟨hacc, hDL, hD₀⟩
      · exact ⟨old _ _ (N p hp).1, (N p hp).2⟩
  exact codeAny_compStart_list (loop _ rfl) (W.self 0 _ _ _ hst₁ (loop _ rfl))

/-- where a comprehension with a captured name stands when its iterable is known -/
def SrcC (prog : Program) (w : World) (A : Around) (h₀ : Heap) (L : Addr) (m : Str → Option Value) (env : Env) (elt : Expr) (x : Str) (scope : Scope) (cl : List (Str × Addr)) (Q : Value → Shared → Prop) (xv : Value) (s₁ : Shared) : Prop :=
  ∃ (n : Nat) (news : List (Addr × Obj)) (P : Nat → Value → Prop) (J : Nat → List Value → List (Addr × Obj) → Prop), A.handled = none ∧ Fr h₀ L s₁.heap m ∧ News h₀ L s₁.heap news ∧ n ≤ sizeLine ∧
    ((∃ r t u v, xv = .ref r ∧ IsRange s₁.heap r 0 ((n : Nat) : Int) 1 t u v ∧ Builtin.Range.small 0 ((n : Nat) : Int) 1 = true ∧ Builtin.Range.rangeSize 0 ((n : Nat) : Int) 1 = ((n : Nat) : Int) ∧ P = fun (i : Nat) v => ∃ t, v = .int (0 + (i : Int)) t) ∨
     (∃ ax its ka, xv = .ref ax ∧ its.size = n ∧ (ax, listOf its ka) ∈ news ∧ (∀ i ys led, J i ys led → (ax, listOf its ka) ∈ led) ∧ P = fun (i : Nat) v => its[i]? = some v)) ∧
    J 0 [] news ∧
    (∀ i v I oI C oC K oK D h tk ys led (E' : Value → Shared → Prop), i < n → P i v → J i ys led → oK.data = .cell (some v) → Fr h₀ L h m → News h₀ L h ((I, oI) :: (C, oC) :: (K, oK) :: (D, LCg.lst ys) :: led) →
      (∀ p ∈ led, ∀ q ∈ [(I, oI), (C, oC), (K, oK), (D, LCg.lst ys)], p.1 ≠ q.1) → (@Ne Nat I C ∧ @Ne Nat I K ∧ @Ne Nat I D ∧ @Ne Nat C K ∧ @Ne Nat C D ∧ @Ne Nat K D) →
      wpAny (model prog w) A (eval elt (compEnvC scope ((x, K) :: cl) C env)) (EndC h₀ L m { s₁ with heap := h, toks := tk } [(I, oI), (C, oC), (K, oK), (D, LCg.lst ys)] (fun y led' => J (i + 1) (ys ++ [y]) led')) E' { s₁ with heap := h, toks := tk }) ∧
    (∀ D h tk ys led, J n ys led → Fr h₀ L h m → News h₀ L h ((D, LCg.lst ys) :: led) → (∀ p ∈ led, p.1 ≠ D) → Q (.ref D) { s₁ with heap := h, toks := tk })

theorem compC {elt iter : Expr} {x : Str} {px : Pos} {scope : Scope} {cl : List (Str × Addr)} {pos : Pos} {env : Env} {h₀ : Heap} {L : Addr} {m : Str → Option Value} {Q : Value → Shared → Prop} (F₀ : Fr h₀ L s.heap m)
    (hclos : closureFor scope env = pure cl) (hcf : ∀ n acc, cellsFrom n scope.names acc = (x, n) :: acc) (hpc : ∀ h, pushCells h scope.names = h.push { cls := .type "cell", data := .cell none }) (hkind : scope.kind = .function)
    (hnames : ∀ y ∈ scope.names, y.2 = .local → scope.names.lookup y.1 = some .local) (hx : ∀ C K, (compEnvC scope ((x, K) :: cl) C env).kindOf x = some .cell)
    (h : wpAny (model prog w) A (eval iter env) (SrcC prog w A h₀ L m env elt x scope cl Q) E s)
    (hs : ∀ x, foldedSetIterable iter env x = pure x := by intro _; rfl) :
    wpAny (model prog w) A (eval (.ListComp elt [⟨.Name x px, iter, [], 0⟩] scope pos) env) Q E s := by
  rw [eval_ListComp]
  refine wpAny_comprehension_free (use := none) rfl hs hclos hkind hnames (wpAny_mono h (fun xv s₁ h₁ => ?_) fun _ _ e => e)
  obtain ⟨n, news, P, J, hh, F, N, hsz, hsrc, hJ, turn, fin⟩ := h₁
  have last : ∀ (s₂ : Shared), (∃ g, s₂ = { s₁ with heap := g }) → ∀ D C h tk m' ys led, J n ys led → Fr h₀ L h m → News h₀ L h ((D, LCg.lst ys) :: led) → (∀ p ∈ led, p.1 ≠ D) → h.Ns C m' → h₀.get? C = none → h₀.get? D = none → C ≠ L → D ≠ L → C ≠ D → (∀ p ∈ led, p.1 ≠ C) →
      compPost (model prog w) A E none Q (.ref D) C (.ok .next) { s₂ with heap := h, toks := tk } := by
    rintro s₂ ⟨g, rfl⟩ D C h tk m' ys led hJ' F' N' o1 hn hC₀ hD₀ hCL hDL hCD offC
    refine ⟨m', hn, fun h'' hs'' => fin D h'' tk ys led hJ' (F'.change hs'' hCL hC₀) (fun p hp => ?_) o1⟩
    refine ⟨hs''.extBut _ _ ?_ (N' p hp).1, (N' p hp).2⟩
    rcases List.mem_cons.mp hp with rfl | hp
    · exact Ne.symm hCD
    · exact offC p hp
  rcases hsrc with ⟨r, t, u, v, rfl, hr, hsm, hn, rfl⟩ | ⟨ax, its, ka, rfl, rfl, hax, hJS, rfl⟩
  · refine wpAny_pyIter_range hr hsm ?_
    refine blockC (s := { s₁ with heap := _ }) (S := fun _ => True) (J := J) (LCg.range_walks hh 0 n) hsz (fun i h st => ⟨_, st⟩) LCg.range_st hcf hpc hkind hx (by show IsRangeIter _ _ _ _ _; rw [hn]; simpa using Heap.get?_push_size _ rfl) (fun b hb => ?_)
      (F.keeps fun _ _ e => Heap.get?_push_of_some _ e) (N.grown fun _ _ e => Heap.get?_push_of_some _ e) (Nat.ne_of_lt F.ns.lt) (next_is_new F) (fun p hp => Nat.ne_of_lt (Heap.lt_size (N p hp).1)) (fun _ _ _ _ => trivial) hJ
      (fun i v oI C oC K oK D h tk ys led E' => turn i v _ oI C oC K oK D h tk ys led E') (last _ ⟨_, rfl⟩)
    rw [List.mem_singleton.mp hb]
    show s₁.heap.objs.size < (s₁.heap.push _).objs.size
    rw [Heap.size_push]; exact Nat.lt_succ_self _
  · have hl : s₁.heap.IsList ax its := ⟨_, (N _ hax).1, rfl, ka, rfl⟩
    have hlt : ax < s₁.heap.objs.size := by obtain ⟨_, e, _⟩ := hl; exact Heap.lt_size e
    refine wpAny_pyIter_list hl ?_
    have up : ∀ b o, s₁.heap.get? b = some o → (s₁.heap.push { cls := .type "list_iterator", data := .fields #[.ref ax, .int 0 0] }).get? b = some o := fun b o e => Heap.get?_push_of_some _ e
    refine blockC (s := { s₁ with heap := _ }) (J := J) (Walks.list hh s₁.heap.objs.size ax (Nat.ne_of_lt hlt) its) hsz (fun i h st => by obtain ⟨o, e, _⟩ := st.1; exact ⟨o, e⟩) (LCg.list_st (ax := ax)) hcf hpc hkind hx ⟨⟨_, Heap.get?_push_size _ rfl, rfl, rfl⟩, hl.push _⟩ (fun b hb => ?_)
      (F.keeps up) (N.grown up) (Nat.ne_of_lt F.ns.lt) (next_is_new F) (fun p hp => Nat.ne_of_lt (Heap.lt_size (N p hp).1)) (fun i ys led hj => .inr ⟨_, hJS i ys led hj, rfl, _, rfl⟩) hJ
      (fun i v oI C oC K oK D h tk ys led E' => turn i v _ oI C oC K oK D h tk ys led E') (last _ ⟨_, rfl⟩)
    show b < (s₁.heap.push _).objs.size
    rw [Heap.size_push]
    rcases List.mem_cons.mp hb with rfl | hb
    · exact Nat.lt_succ_self _
    · rw [List.mem_singleton.mp hb]; exact Nat.lt_succ_of_lt hlt
end
end Mine

/-! # L16 -/
namespace Mine
theorem fresh_L16 : True := by
  w_top off
  exact True.intro

def Rw.Small (R : Rw) : Prop := Builtin.Int.intBits R.c0 ≤ 2 ^ 20 ∧ Builtin.Int.intBits R.c1 ≤ 2 ^ 20 ∧ Builtin.Int.intBits R.c2 ≤ 2 ^ 20 ∧ Builtin.Int.intBits R.c3 ≤ 2 ^ 20
def dotE (a b : Ent) : Int := a.1 * b.1 + (a.2.1 * b.2.1 + (a.2.2.1 * b.2.2.1 + (a.2.2.2 * b.2.2.2 + 0)))
def prodRow (b r0 r1 r2 r3 : Ent) : Ent := (dotE b (r0.1, r1.1, r2.1, r3.1), dotE b (r0.2.1, r1.2.1, r2.2.1, r3.2.1), dotE b (r0.2.2.1, r1.2.2.1, r2.2.2.1, r3.2.2.1), dotE b (r0.2.2.2, r1.2.2.2, r2.2.2.2, r3.2.2.2))
theorem Rw.small_of (C : Rw) {a b c d : Int} (h : C.row = (a, b, c, d)) (ha : Builtin.Int.intBits a ≤ 2 ^ 20) (hb : Builtin.Int.intBits b ≤ 2 ^ 20) (hc : Builtin.Int.intBits c ≤ 2 ^ 20) (hd : Builtin.Int.intBits d ≤ 2 ^ 20) : C.Small := by
  simp only [Rw.row, Prod.mk.injEq] at h
  obtain ⟨rfl, rfl, rfl, rfl⟩ := h
  exact ⟨ha, hb, hc, hd⟩
theorem compEnd0 {h₀ : Heap} {L : Addr} {m : Str → Option Value} {news : List (Addr × Obj)} {I C D : Addr} {s₁ : Shared} {oI oC oD : Obj} {S : List (Addr × Obj) → Prop} {rest : Value → List (Addr × Obj) → Prop} {y : Value} {h' : Heap} {tk : Nat}
    (F : Fr h₀ L h' m) (N : News h₀ L h' ((I, oI) :: (C, oC) :: (D, oD) :: news)) (off : LCg.Off3 I C D news) (hS : S news) (r : rest y news) :
    LCg.CompEnd h₀ L m s₁ I oI C oC D oD S rest y { s₁ with heap := h', toks := tk } := LCg.CompEnd.intro F N news (fun _ h => h) off hS r
/-- rows made one after another: what they hold -/
def JU (news₀ : List (Addr × Obj)) (f : Nat → Ent) : Nat → List Value → List (Addr × Obj) → Prop := JM Rw.a (fun T => [rowP T]) (fun j T => T.row = f j) news₀
theorem JU.next {news₀ led : List (Addr × Obj)} {f : Nat → Ent} {i : Nat} {ys : List Value} (h : JU news₀ f i ys led) (T : Rw) (hT : ∀ p ∈ led, @Ne Nat p.1 T.a) (hf : T.row = f i) : JU news₀ f (i + 1) (ys ++ [.ref T.a]) (rowP T :: led) :=
  JM.next h T (fun p hp => List.forall_mem_singleton.mpr (hT p hp)) hf
theorem JU.four {news₀ led : List (Addr × Obj)} {f : Nat → Ent} {ys : List Value} (h : JU news₀ f 4 ys led) : ∃ T0 T1 T2 T3 : Rw, ys = [.ref T0.a, .ref T1.a, .ref T2.a, .ref T3.a] ∧
    (∀ p ∈ rowP T0 :: rowP T1 :: rowP T2 :: rowP T3 :: news₀, p ∈ led) ∧ (∀ p ∈ news₀, @Ne Nat p.1 T0.a ∧ @Ne Nat p.1 T1.a ∧ @Ne Nat p.1 T2.a ∧ @Ne Nat p.1 T3.a) ∧ T0.row = f 0 ∧ T1.row = f 1 ∧ T2.row = f 2 ∧ T3.row = f 3 := by
  obtain ⟨T0, T1, T2, T3, e, hin, hne, f⟩ := JM.four h
  exact ⟨T0, T1, T2, T3, e, hin, fun p hp => ⟨(hne p hp).1 _ (.head _), (hne p hp).2.1 _ (.head _), (hne p hp).2.2.1 _ (.head _), (hne p hp).2.2.2 _ (.head _)⟩, f⟩
theorem its4w {T0 T1 T2 T3 : Rw} {i : Nat} {v : Value} (hi : i < 4) (h : (#[.ref T0.a, .ref T1.a, .ref T2.a, .ref T3.a] : Array Value)[i]? = some v) : v = .ref (pick T0 T1 T2 T3 i).a :=
  match i, hi, h with
  | 0, _, h => (Option.some.inj h).symm
  | 1, _, h => (Option.some.inj h).symm
  | 2, _, h => (Option.some.inj h).symm
  | 3, _, h => (Option.some.inj h).symm
theorem pick_row {T0 T1 T2 T3 : Rw} (i : Nat) : pick T0.row T1.row T2.row T3.row i = (pick T0 T1 T2 T3 i).row :=
  match i with
  | 0 => rfl
  | 1 => rfl
  | 2 => rfl
  | _ + 3 => rfl
section
local macro_rules | `(tactic| k_units) => `(tactic| ktr_units)
local macro_rules | `(tactic| k_mem) => `(tactic| (repeat (first | assumption | exact List.Mem.head _ | refine List.Mem.tail _ ?_)))

theorem undone {w : World} {bl rl : Addr} {B0 B1 B2 B3 R0 R1 R2 R3 : Rw} {eb er : Nat} {news : List (Addr × Obj)}
    (b0 : B0.Small) (b1 : B1.Small) (b2 : B2.Small) (b3 : B3.Small) (r0 : R0.Small) (r1 : R1.Small) (r2 : R2.Small) (r3 : R3.Small)
    (hsub : ∀ p ∈ [(bl, listOf #[.ref B0.a, .ref B1.a, .ref B2.a, .ref B3.a] eb), rowP B0, rowP B1, rowP B2, rowP B3, (rl, listOf #[.ref R0.a, .ref R1.a, .ref R2.a, .ref R3.a] er), rowP R0, rowP R1, rowP R2, rowP R3], p ∈ news) :
    MakeOk w 24 138 [.ref bl, .ref rl] news (fun r new => ∃ D U0 U1 U2 U3, r = .ref D ∧ new = [(D, listOf #[.ref U0.a, .ref U1.a, .ref U2.a, .ref U3.a] 4), rowP U0, rowP U1, rowP U2, rowP U3] ∧
      U0.row = prodRow B0.row R0.row R1.row R2.row R3.row ∧ U1.row = prodRow B1.row R0.row R1.row R2.row R3.row ∧ U2.row = prodRow B2.row R0.row R1.row R2.row R3.row ∧ U3.row = prodRow B3.row R0.row R1.row R2.row R3.row) := by
  have hK : (hd.heap_39, PySem.Challenge.rw_mr0075_01) = (hd.heap_39, PySem.Challenge.rw_mr0075_01) := by k_fill; rfl
  clear hK
  intro dp un gd cn cs a ccd cl outer A₀ base h₀ L m s p loose mean mg mb Q E B F X N T hk hd hu hret
  refine wpAny_call ?_
  k_dflt (refine' code_defCF ?k1 ?k2 ?k3 ?k4 hsub ?k5 ?kA ?kF ?kK ?k6 ?k7 ?k8 ?k9 ?kB ?kD ?_ ?c2 ?c3 ?c4; (case kA => exact rfl); (case kF => exact rfl); (case kK => assumption); (case k1 => k_asm); (case k2 => k_asm); (case k3 => k_asm); (case k4 => k_asm); (case k5 => k_asm); (case k6 => k_is); (case k7 => k_is); (case k8 => ktr_room); (case k9 => exact BindsTo.of_eq rfl); (case kB => exact rfl); (case kD => decide +kernel); (case c2 => exact rfl); (case c3 => exact rfl); (case c4 => exact rfl); k_whole)
  intro g' L' h' tk' cells' FG' F' N' Y' B' X' T' l1 S'
  (try k_lt l1); k_cells Y'; (try simp only [List.cons_append, List.nil_append] at N'); (try dsimp only); (try k_fold)
  repeat' (first | (k_unfold; (try dsimp only)) | (k_end; wrow_close) | ((first | ((with_reducible show wpAny _ _ (call (Value.ref _) _) _ _ _); first | (k_here; (with_reducible show wpAny _ _ (call (Value.ref 133) _) _ _ _); k_dflt (refine' CallOk.use (times (hsub := ?q0) (z0 := ?q1) (z1 := ?q2) (z2 := ?q3) (z3 := ?q4)) ?kB ?kF ?kX ?kN ?kT ?kk ?kd ?ku ?_; (case kN => k_asm); (case q0 => lcg_sub); (case q1 => exact IntMulOk.of_bits (by assumption) (by assumption)); (case q2 => exact IntMulOk.of_bits (by assumption) (by assumption)); (case q3 => exact IntMulOk.of_bits (by assumption) (by assumption)); (case q4 => exact IntMulOk.of_bits (by assumption) (by assumption)); (case kB => k_asm); (case kF => k_asm); (case kX => k_asm); (case kT => k_asm); (case kk => exact rfl); (case kd => ktr_room); (case ku => ktr_units); k_whole); intro r9_w n9_w h9_w tk9_w F9_w N9_w P9_w; obtain ⟨P8_w, t9_w, P9_w⟩ := P9_w; subst P8_w; subst P9_w; (try k_sweep); (try dsimp only))) | (k_here; (with_reducible show wpAny _ _ (subscriptTail _ _ (Value.ref _) (Value.int _ _)) _ _ _); (with_unfolding_all refine' item_led ?N ?m ?a ?b ?x ?_ ?z; (case N => k_asm); (case m => k_mem); (case a => decide); (case b => decide); (case x => rfl); (case z => with_unfolding_all rfl); k_whole)) | ((with_reducible show LCg.CompEnd _ _ _ _ _ _ _ _ _ _ _ _ _ _); (refine' compEnd0 ?F ?N ?O ?S ?_; (case N => assumption); (case F => assumption); (case O => assumption); (case S => lcg_src))) | ((with_reducible show LCg.CompRest _ _ _ _ _ _ _ _ _ _ _ _ _ _ _ _ _ _ _); (with_unfolding_all first | (refine LCg.CompRest.succ ?_; intro v_wp I_wp oI_wp C_wp oC_wp D_wp m_wp h_wp tk_wp E_wp hv_wp hC_wp hx_wp F_wp N_wp off_wp ne_wp; clear ne_wp; (first | lcg_open hv_wp | (obtain ⟨t9_wp, hv9_wp⟩ := hv_wp; subst hv9_wp))) | refine LCg.CompRest.zero ?_)) | ((with_reducible show LCg.CompSrc _ _ _ _ _ _ _ _ _ _ _ _ _ _); (k_here; k_dflt (first | (refine LCg.CompSrc.ledger (by rfl) (by k_asm) (by k_asm) (by k_mem) (by first | size_fits | exact Nat.le_of_ble_eq_true rfl) ?_; intro g_wp; lcg_lit) | (refine LCg.CompSrc.range (by rfl) (by k_asm) (by k_asm) (by assumption) (by first | decide | rfl) (by first | rfl | decide) (by first | size_fits | exact Nat.le_of_ble_eq_true rfl) ?_; intro g_wp; lcg_lit)))) | ((with_reducible show wpAny _ _ (eval (Expr.ListComp _ _ _ _) _) _ _ _); (k_here; k_dflt (refine LCg.ListComp_U (F₀ := by k_asm) (by with_unfolding_all rfl) (by decide) (by rfl) (by decide) (by rfl) ?_); k_dflt lcg_toSrc)))) | (walk1) | (dsimp only; walk1) | (leave1; (try dsimp only)))
  k_here
  k_dflt (refine compC (F₀ := by k_asm) (by with_unfolding_all rfl) (by intro _ _; rfl) (by intro _; rfl) (by rfl) (by decide) (by intro _ _; rfl) ?_)
  repeat' (first | (k_unfold; (try dsimp only)) | (k_end; wrow_close) | ((first | ((with_reducible show wpAny _ _ (call (Value.ref _) _) _ _ _); first | (k_here; (with_reducible show wpAny _ _ (call (Value.ref 133) _) _ _ _); k_dflt (refine' CallOk.use (times (hsub := ?q0) (z0 := ?q1) (z1 := ?q2) (z2 := ?q3) (z3 := ?q4)) ?kB ?kF ?kX ?kN ?kT ?kk ?kd ?ku ?_; (case kN => k_asm); (case q0 => lcg_sub); (case q1 => exact IntMulOk.of_bits (by assumption) (by assumption)); (case q2 => exact IntMulOk.of_bits (by assumption) (by assumption)); (case q3 => exact IntMulOk.of_bits (by assumption) (by assumption)); (case q4 => exact IntMulOk.of_bits (by assumption) (by assumption)); (case kB => k_asm); (case kF => k_asm); (case kX => k_asm); (case kT => k_asm); (case kk => exact rfl); (case kd => ktr_room); (case ku => ktr_units); k_whole); intro r9_w n9_w h9_w tk9_w F9_w N9_w P9_w; obtain ⟨P8_w, t9_w, P9_w⟩ := P9_w; subst P8_w; subst P9_w; (try k_sweep); (try dsimp only))) | (k_here; (with_reducible show wpAny _ _ (subscriptTail _ _ (Value.ref _) (Value.int _ _)) _ _ _); (with_unfolding_all refine' item_led ?N ?m ?a ?b ?x ?_ ?z; (case N => k_asm); (case m => k_mem); (case a => decide); (case b => decide); (case x => rfl); (case z => with_unfolding_all rfl); k_whole)) | ((with_reducible show LCg.CompEnd _ _ _ _ _ _ _ _ _ _ _ _ _ _); (refine' compEnd0 ?F ?N ?O ?S ?_; (case N => assumption); (case F => assumption); (case O => assumption); (case S => lcg_src))) | ((with_reducible show LCg.CompRest _ _ _ _ _ _ _ _ _ _ _ _ _ _ _ _ _ _ _); (with_unfolding_all first | (refine LCg.CompRest.succ ?_; intro v_wp I_wp oI_wp C_wp oC_wp D_wp m_wp h_wp tk_wp E_wp hv_wp hC_wp hx_wp F_wp N_wp off_wp ne_wp; clear ne_wp; (first | lcg_open hv_wp | (obtain ⟨t9_wp, hv9_wp⟩ := hv_wp; subst hv9_wp))) | refine LCg.CompRest.zero ?_)) | ((with_reducible show LCg.CompSrc _ _ _ _ _ _ _ _ _ _ _ _ _ _); (k_here; k_dflt (first | (refine LCg.CompSrc.ledger (by rfl) (by k_asm) (by k_asm) (by k_mem) (by first | size_fits | exact Nat.le_of_ble_eq_true rfl) ?_; intro g_wp; lcg_lit) | (refine LCg.CompSrc.range (by rfl) (by k_asm) (by k_asm) (by assumption) (by first | decide | rfl) (by first | rfl | decide) (by first | size_fits | exact Nat.le_of_ble_eq_true rfl) ?_; intro g_wp; lcg_lit)))) | ((with_reducible show wpAny _ _ (eval (Expr.ListComp _ _ _ _) _) _ _ _); (k_here; k_dflt (refine LCg.ListComp_U (F₀ := by k_asm) (by with_unfolding_all rfl) (by decide) (by rfl) (by decide) (by rfl) ?_); k_dflt lcg_toSrc)))) | (walk1) | (dsimp only; walk1) | (leave1; (try dsimp only)))
  rename Obj.data _ = _ => d2
  rename Obj.data _ = _ => d1
  refine ⟨4, _, _, JU _ (fun j => (R0.at j, R1.at j, R2.at j, R3.at j)), rfl, by k_asm, by k_asm, by rw [sizeLine_eq]; exact Nat.le_of_ble_eq_true rfl, .inl ⟨_, _, _, _, rfl, by assumption, by decide, by decide, rfl⟩, ⟨fun p hp => hp, rfl, fun j v hj => by cases hj⟩, ?turn, ?fin⟩
  case turn =>
    intro i v I oI C oC K oK D h tk ys led E' hi hv hJ hd F2 N2 off2 ne2
    obtain ⟨t, rfl⟩ := hv
    have q1 := hJ.1 _ (.head _)
    have q2 := hJ.1 _ (.tail _ (.head _))
    have ql := hJ.1 _ (.tail _ (.tail _ (.tail _ (.tail _ (.tail _ (.tail _ (.tail _ (.head _))))))))
    have qR : ∀ j, rowP (pick R0 R1 R2 R3 j) ∈ led := fun j => pick_all (P := fun R => rowP R ∈ led) (hJ.1 _ (.tail _ (.tail _ (.tail _ (.tail _ (.tail _ (.tail _ (.tail _ (.tail _ (.head _)))))))))) (hJ.1 _ (.tail _ (.tail _ (.tail _ (.tail _ (.tail _ (.tail _ (.tail _ (.tail _ (.tail _ (.head _))))))))))) (hJ.1 _ (.tail _ (.tail _ (.tail _ (.tail _ (.tail _ (.tail _ (.tail _ (.tail _ (.tail _ (.tail _ (.head _)))))))))))) (hJ.1 _ (.tail _ (.tail _ (.tail _ (.tail _ (.tail _ (.tail _ (.tail _ (.tail _ (.tail _ (.tail _ (.tail _ (.head _))))))))))))) j
    repeat' (first | (k_unfold; (try dsimp only [List.nil_append, List.cons_append])) | (k_end; wrow_close) | ((first | ((with_reducible show LCg.CompSrc _ _ _ _ _ _ _ _ _ _ _ _ _ _); (k_here; k_dflt (first | (refine LCg.CompSrc.ledger (by rfl) (by k_asm) (by k_asm) (by k_mem) (by first | size_fits | exact Nat.le_of_ble_eq_true rfl) ?_; intro g_wp; lcg_lit) | (refine LCg.CompSrc.range (by rfl) (by k_asm) (by k_asm) (by assumption) (by first | decide | rfl) (by first | rfl | decide) (by first | size_fits | exact Nat.le_of_ble_eq_true rfl) ?_; intro g_wp; lcg_lit)))) | ((with_reducible show wpAny _ _ (eval (Expr.ListComp _ _ _ _) _) _ _ _); (k_here; k_dflt (refine LCg.ListComp_U (F₀ := by k_asm) (by with_unfolding_all rfl) (by decide) (by rfl) (by decide) (by rfl) ?_); k_dflt lcg_toSrc))); try k_fold) | ((fail_if_success (with_reducible show LCg.CompRest _ _ _ _ _ _ _ _ _ _ _ _ _ _ _ _ _ _ _)); first | (walk1; try k_fold) | (dsimp only; walk1; try k_fold)) | (leave1; (try dsimp only)))
    refine comp_turns (JC (fun j => (pick R0 R1 R2 R3 j).at i) _) JC.zero ?inner ?made
    case inner =>
      intro j zs led2 hj hJ2 v2 I2 oI2 CC2 oC2 DD2 m₂ h2 tk2 E2 hv2 hC2 hx2 F3 N3z off3 ne3
      clear ne3
      have e := hJ2.1
      subst e
      have hv3 := its4w hj hv2
      have qr := qR j
      obtain ⟨R, hR⟩ : ∃ R, R = pick R0 R1 R2 R3 j := ⟨_, rfl⟩
      rw [← hR] at qr hv3
      subst hv3
      repeat' (first | (k_unfold; (try dsimp only [List.nil_append, List.cons_append])) | (k_end; wrow_close) | ((first | ((with_reducible show wpAny _ _ (subscriptTail _ _ (Value.ref _) (Value.int _ _)) _ _ _); (with_unfolding_all refine' item_led ?N ?m ?a ?b ?x ?_ ?z; (case N => k_dflt k_asm); (case m => k_dflt k_mem); (case a => k_dflt (exact i4_lo)); (case b => k_dflt (exact i4_hi hi)); (case x => k_dflt (exact its4i hi)); (case z => with_unfolding_all rfl); k_whole))); try k_fold) | ((fail_if_success (with_reducible show LCg.CompEnd _ _ _ _ _ _ _ _ _ _ _ _ _ _)); first | (walk1; try k_fold) | (dsimp only; walk1; try k_fold)) | (leave1; (try dsimp only)))
      exact compEnd0 (by assumption) (by assumption) off3 (.inr ⟨_, by k_mem, rfl, _, rfl⟩) (hJ2.next' (by rw [← hR]; rfl))
    case made =>
      intro zs led2 hJ2
      obtain ⟨rfl, t0, t1, t2, t3, rfl⟩ := hJ2.four
      repeat' (first | (k_unfold; (try dsimp only [List.nil_append, List.cons_append])) | (k_end; wrow_close) | (walk1; try k_fold) | (dsimp only; walk1; try k_fold) | (leave1; (try dsimp only)))
      rename _ ∧ _ ∧ _ ∧ _ ∧ LCg.Off1 _ led => o9
      rename News g' L' _ _ => kN
      exact EndC.one (by assumption) kN ⟨o9.1, o9.2.1, o9.2.2.1, o9.2.2.2.1⟩ off2 (hJ.next ⟨_, R0.at i, R1.at i, R2.at i, R3.at i, _, _, _, _, _⟩ (off_of o9.2.2.2.2) rfl)
  case fin =>
    intro D h tk ys led hJ F2 N2 off2
    obtain ⟨C0, C1, C2, C3, rfl, hin, hne, f0, f1, f2, f3⟩ := hJ.four
    have N3 := News.sub2 N2 hin
    have nD := neN (off2 _ (hin _ (.tail _ (.tail _ (.tail _ (.tail _ (.head _)))))))
    have nC := hne _ (.head _)
    clear N2 hJ off2
    repeat' (first | (k_unfold; (try dsimp only)) | (k_end; wrow_close) | ((first | ((with_reducible show wpAny _ _ (call (Value.ref _) _) _ _ _); first | (k_here; (with_reducible show wpAny _ _ (call (Value.ref 133) _) _ _ _); k_dflt (refine' CallOk.use (times (hsub := ?q0) (z0 := ?q1) (z1 := ?q2) (z2 := ?q3) (z3 := ?q4)) ?kB ?kF ?kX ?kN ?kT ?kk ?kd ?ku ?_; (case kN => k_asm); (case q0 => lcg_sub); (case q1 => exact IntMulOk.of_bits (by assumption) (by assumption)); (case q2 => exact IntMulOk.of_bits (by assumption) (by assumption)); (case q3 => exact IntMulOk.of_bits (by assumption) (by assumption)); (case q4 => exact IntMulOk.of_bits (by assumption) (by assumption)); (case kB => k_asm); (case kF => k_asm); (case kX => k_asm); (case kT => k_asm); (case kk => exact rfl); (case kd => ktr_room); (case ku => ktr_units); k_whole); intro r9_w n9_w h9_w tk9_w F9_w N9_w P9_w; obtain ⟨P8_w, t9_w, P9_w⟩ := P9_w; subst P8_w; subst P9_w; (try k_sweep); (try dsimp only))) | (k_here; (with_reducible show wpAny _ _ (subscriptTail _ _ (Value.ref _) (Value.int _ _)) _ _ _); (with_unfolding_all refine' item_led ?N ?m ?a ?b ?x ?_ ?z; (case N => k_asm); (case m => k_mem); (case a => decide); (case b => decide); (case x => rfl); (case z => with_unfolding_all rfl); k_whole)) | ((with_reducible show LCg.CompEnd _ _ _ _ _ _ _ _ _ _ _ _ _ _); (refine' compEnd0 ?F ?N ?O ?S ?_; (case N => assumption); (case F => assumption); (case O => assumption); (case S => lcg_src))) | ((with_reducible show LCg.CompRest _ _ _ _ _ _ _ _ _ _ _ _ _ _ _ _ _ _ _); (with_unfolding_all first | (refine LCg.CompRest.succ ?_; intro v_wp I_wp oI_wp C_wp oC_wp D_wp m_wp h_wp tk_wp E_wp hv_wp hC_wp hx_wp F_wp N_wp off_wp ne_wp; clear ne_wp; (first | lcg_open hv_wp | (obtain ⟨t9_wp, hv9_wp⟩ := hv_wp; subst hv9_wp))) | refine LCg.CompRest.zero ?_)) | ((with_reducible show LCg.CompSrc _ _ _ _ _ _ _ _ _ _ _ _ _ _); (k_here; k_dflt (first | (refine LCg.CompSrc.ledger (by rfl) (by k_asm) (by k_asm) (by k_mem) (by first | size_fits | exact Nat.le_of_ble_eq_true rfl) ?_; intro g_wp; lcg_lit) | (refine LCg.CompSrc.range (by rfl) (by k_asm) (by k_asm) (by assumption) (by first | decide | rfl) (by first | rfl | decide) (by first | size_fits | exact Nat.le_of_ble_eq_true rfl) ?_; intro g_wp; lcg_lit)))) | ((with_reducible show wpAny _ _ (eval (Expr.ListComp _ _ _ _) _) _ _ _); (k_here; k_dflt (refine LCg.ListComp_U (F₀ := by k_asm) (by with_unfolding_all rfl) (by decide) (by rfl) (by decide) (by rfl) ?_); k_dflt lcg_toSrc)))) | (walk1) | (dsimp only; walk1) | (leave1; (try dsimp only)))
    have s0 := C0.small_of f0 r0.1 r1.1 r2.1 r3.1
    have s1 := C1.small_of f1 r0.2.1 r1.2.1 r2.2.1 r3.2.1
    have s2 := C2.small_of f2 r0.2.2.1 r1.2.2.1 r2.2.2.1 r3.2.2.1
    have s3 := C3.small_of f3 r0.2.2.2 r1.2.2.2 r2.2.2.2 r3.2.2.2
    have hs : ∀ j, (pick C0 C1 C2 C3 j).Small := pick_all s0 s1 s2 s3
    have hb : ∀ j, (pick B0 B1 B2 B3 j).Small := pick_all b0 b1 b2 b3
    k_here
    k_dflt (refine compC (F₀ := by k_asm) (by with_unfolding_all rfl) (by intro _ _; rfl) (by intro _; rfl) (by rfl) (by decide) (by intro _ _; rfl) ?_)
    repeat' (first | (k_unfold; (try dsimp only)) | (k_end; wrow_close) | ((first | ((with_reducible show wpAny _ _ (call (Value.ref _) _) _ _ _); first | (k_here; (with_reducible show wpAny _ _ (call (Value.ref 133) _) _ _ _); k_dflt (refine' CallOk.use (times (hsub := ?q0) (z0 := ?q1) (z1 := ?q2) (z2 := ?q3) (z3 := ?q4)) ?kB ?kF ?kX ?kN ?kT ?kk ?kd ?ku ?_; (case kN => k_asm); (case q0 => lcg_sub); (case q1 => exact IntMulOk.of_bits (by assumption) (by assumption)); (case q2 => exact IntMulOk.of_bits (by assumption) (by assumption)); (case q3 => exact IntMulOk.of_bits (by assumption) (by assumption)); (case q4 => exact IntMulOk.of_bits (by assumption) (by assumption)); (case kB => k_asm); (case kF => k_asm); (case kX => k_asm); (case kT => k_asm); (case kk => exact rfl); (case kd => ktr_room); (case ku => ktr_units); k_whole); intro r9_w n9_w h9_w tk9_w F9_w N9_w P9_w; obtain ⟨P8_w, t9_w, P9_w⟩ := P9_w; subst P8_w; subst P9_w; (try k_sweep); (try dsimp only))) | (k_here; (with_reducible show wpAny _ _ (subscriptTail _ _ (Value.ref _) (Value.int _ _)) _ _ _); (with_unfolding_all refine' item_led ?N ?m ?a ?b ?x ?_ ?z; (case N => k_asm); (case m => k_mem); (case a => decide); (case b => decide); (case x => rfl); (case z => with_unfolding_all rfl); k_whole)) | ((with_reducible show LCg.CompEnd _ _ _ _ _ _ _ _ _ _ _ _ _ _); (refine' compEnd0 ?F ?N ?O ?S ?_; (case N => assumption); (case F => assumption); (case O => assumption); (case S => lcg_src))) | ((with_reducible show LCg.CompRest _ _ _ _ _ _ _ _ _ _ _ _ _ _ _ _ _ _ _); (with_unfolding_all first | (refine LCg.CompRest.succ ?_; intro v_wp I_wp oI_wp C_wp oC_wp D_wp m_wp h_wp tk_wp E_wp hv_wp hC_wp hx_wp F_wp N_wp off_wp ne_wp; clear ne_wp; (first | lcg_open hv_wp | (obtain ⟨t9_wp, hv9_wp⟩ := hv_wp; subst hv9_wp))) | refine LCg.CompRest.zero ?_)) | ((with_reducible show LCg.CompSrc _ _ _ _ _ _ _ _ _ _ _ _ _ _); (k_here; k_dflt (first | (refine LCg.CompSrc.ledger (by rfl) (by k_asm) (by k_asm) (by k_mem) (by first | size_fits | exact Nat.le_of_ble_eq_true rfl) ?_; intro g_wp; lcg_lit) | (refine LCg.CompSrc.range (by rfl) (by k_asm) (by k_asm) (by assumption) (by first | decide | rfl) (by first | rfl | decide) (by first | size_fits | exact Nat.le_of_ble_eq_true rfl) ?_; intro g_wp; lcg_lit)))) | ((with_reducible show wpAny _ _ (eval (Expr.ListComp _ _ _ _) _) _ _ _); (k_here; k_dflt (refine LCg.ListComp_U (F₀ := by k_asm) (by with_unfolding_all rfl) (by decide) (by rfl) (by decide) (by rfl) ?_); k_dflt lcg_toSrc)))) | (walk1) | (dsimp only; walk1) | (leave1; (try dsimp only)))
    refine ⟨4, _, _, JU _ (fun j => (dotE (pick B0.row B1.row B2.row B3.row j) C0.row, dotE (pick B0.row B1.row B2.row B3.row j) C1.row, dotE (pick B0.row B1.row B2.row B3.row j) C2.row, dotE (pick B0.row B1.row B2.row B3.row j) C3.row)), rfl, by k_asm, by k_asm, by rw [sizeLine_eq]; exact Nat.le_of_ble_eq_true rfl, .inr ⟨bl, _, eb, rfl, rfl, by k_mem, fun i ys led hj => hj.1 _ (by k_mem), rfl⟩, ⟨fun p hp => hp, rfl, fun j v hj => by cases hj⟩, ?turn2, ?fin2⟩
    case turn2 =>
      intro i v I oI C oC K oK D2 h tk ys led E' hi hv hJ hd F2 N2 off2 ne2
      have qd := hJ.1 _ (.head _)
      have qC : ∀ j, rowP (pick C0 C1 C2 C3 j) ∈ led := fun j => pick_all (P := fun R => rowP R ∈ led) (hJ.1 _ (.tail _ (.head _))) (hJ.1 _ (.tail _ (.tail _ (.head _)))) (hJ.1 _ (.tail _ (.tail _ (.tail _ (.head _))))) (hJ.1 _ (.tail _ (.tail _ (.tail _ (.tail _ (.head _)))))) j
      have q1 := hJ.1 _ (.tail _ (.tail _ (.tail _ (.tail _ (.tail _ (.head _))))))
      have q2 := hJ.1 _ (.tail _ (.tail _ (.tail _ (.tail _ (.tail _ (.tail _ (.head _)))))))
      have qB : rowP (pick B0 B1 B2 B3 i) ∈ led := pick_all (P := fun R => rowP R ∈ led) (hJ.1 _ (.tail _ (.tail _ (.tail _ (.tail _ (.tail _ (.tail _ (.tail _ (.tail _ (.head _)))))))))) (hJ.1 _ (.tail _ (.tail _ (.tail _ (.tail _ (.tail _ (.tail _ (.tail _ (.tail _ (.tail _ (.head _))))))))))) (hJ.1 _ (.tail _ (.tail _ (.tail _ (.tail _ (.tail _ (.tail _ (.tail _ (.tail _ (.tail _ (.tail _ (.head _)))))))))))) (hJ.1 _ (.tail _ (.tail _ (.tail _ (.tail _ (.tail _ (.tail _ (.tail _ (.tail _ (.tail _ (.tail _ (.tail _ (.head _))))))))))))) i
      have hv' := its4w hi hv
      have bS := hb i
      obtain ⟨B, hB⟩ : ∃ B, B = pick B0 B1 B2 B3 i := ⟨_, rfl⟩
      rw [← hB] at qB bS hv'
      subst hv'
      repeat' (first | (k_unfold; (try dsimp only [List.nil_append, List.cons_append])) | (k_end; wrow_close) | ((first | ((with_reducible show LCg.CompSrc _ _ _ _ _ _ _ _ _ _ _ _ _ _); (k_here; k_dflt (first | (refine LCg.CompSrc.ledger (by rfl) (by k_asm) (by k_asm) (by k_mem) (by first | size_fits | exact Nat.le_of_ble_eq_true rfl) ?_; intro g_wp; lcg_lit) | (refine LCg.CompSrc.range (by rfl) (by k_asm) (by k_asm) (by assumption) (by first | decide | rfl) (by first | rfl | decide) (by first | size_fits | exact Nat.le_of_ble_eq_true rfl) ?_; intro g_wp; lcg_lit)))) | ((with_reducible show wpAny _ _ (eval (Expr.ListComp _ _ _ _) _) _ _ _); (k_here; k_dflt (refine LCg.ListComp_U (F₀ := by k_asm) (by with_unfolding_all rfl) (by decide) (by rfl) (by decide) (by rfl) ?_); k_dflt lcg_toSrc))); try k_fold) | ((fail_if_success (with_reducible show LCg.CompRest _ _ _ _ _ _ _ _ _ _ _ _ _ _ _ _ _ _ _)); first | (walk1; try k_fold) | (dsimp only; walk1; try k_fold)) | (leave1; (try dsimp only)))
      refine comp_turns (JC (fun j => dotE B.row (pick C0 C1 C2 C3 j).row) _) JC.zero ?inner2 ?made2
      case inner2 =>
        intro j zs led2 hj hJ2 v2 I2 oI2 CC2 oC2 DD2 m₂ h2 tk2 E2 hv2 hC2 hx2 F3 N3z off3 ne3
        clear ne3
        have e := hJ2.1
        subst e
        have hv3 := its4w hj hv2
        have qr := qC j
        have sC := hs j
        obtain ⟨C, hC⟩ : ∃ C, C = pick C0 C1 C2 C3 j := ⟨_, rfl⟩
        rw [← hC] at qr sC hv3
        subst hv3
        repeat' (first | (k_unfold; (try dsimp only [List.nil_append, List.cons_append])) | (k_end; wrow_close) | ((first | ((with_reducible show wpAny _ _ (call (Value.ref _) _) _ _ _); first | (k_here; (with_reducible show wpAny _ _ (call (Value.ref 133) _) _ _ _); k_dflt (refine' CallOk.use (times (hsub := ?q0) (z0 := ?q1) (z1 := ?q2) (z2 := ?q3) (z3 := ?q4)) ?kB ?kF ?kX ?kN ?kT ?kk ?kd ?ku ?_; (case kN => k_asm); (case q0 => lcg_sub); (case q1 => exact IntMulOk.of_bits bS.1 sC.1); (case q2 => exact IntMulOk.of_bits bS.2.1 sC.2.1); (case q3 => exact IntMulOk.of_bits bS.2.2.1 sC.2.2.1); (case q4 => exact IntMulOk.of_bits bS.2.2.2 sC.2.2.2); (case kB => k_asm); (case kF => k_asm); (case kX => k_asm); (case kT => k_asm); (case kk => exact rfl); (case kd => ktr_room); (case ku => ktr_units); k_whole); intro r9_w n9_w h9_w tk9_w F9_w N9_w P9_w; obtain ⟨P8_w, t9_w, P9_w⟩ := P9_w; subst P8_w; subst P9_w; (try k_sweep); (try dsimp only)))); try k_fold) | ((fail_if_success (with_reducible show LCg.CompEnd _ _ _ _ _ _ _ _ _ _ _ _ _ _)); first | (walk1; try k_fold) | (dsimp only; walk1; try k_fold)) | (leave1; (try dsimp only)))
        exact compEnd0 (by assumption) (by assumption) off3 (.inr ⟨_, by k_mem, rfl, _, rfl⟩) (hJ2.next' (by rw [← hC]; rfl))
      case made2 =>
        intro zs led2 hJ2
        obtain ⟨rfl, t0, t1, t2, t3, rfl⟩ := hJ2.four
        repeat' (first | (k_unfold; (try dsimp only [List.nil_append, List.cons_append])) | (k_end; wrow_close) | (walk1; try k_fold) | (dsimp only; walk1; try k_fold) | (leave1; (try dsimp only)))
        rename _ ∧ _ ∧ _ ∧ _ ∧ LCg.Off1 _ led => o9
        rename News g' L' _ _ => kN
        exact EndC.one (by assumption) kN ⟨o9.1, o9.2.1, o9.2.2.1, o9.2.2.2.1⟩ off2 (hJ.next ⟨_, _, _, _, _, _, _, _, _, _⟩ (off_of o9.2.2.2.2) (by rw [pick_row, ← hB]; rfl))
    case fin2 =>
      intro D2 h tk ys led hJ F2 N2 off2
      obtain ⟨U0, U1, U2, U3, rfl, hin2, hne2, g0, g1, g2, g3⟩ := hJ.four
      have N3' := News.sub2 N2 hin2
      clear N2
      repeat' (first | (k_unfold; (try dsimp only)) | (k_end; wrow_close) | ((first | ((with_reducible show wpAny _ _ (call (Value.ref _) _) _ _ _); first | (k_here; (with_reducible show wpAny _ _ (call (Value.ref 133) _) _ _ _); k_dflt (refine' CallOk.use (times (hsub := ?q0) (z0 := ?q1) (z1 := ?q2) (z2 := ?q3) (z3 := ?q4)) ?kB ?kF ?kX ?kN ?kT ?kk ?kd ?ku ?_; (case kN => k_asm); (case q0 => lcg_sub); (case q1 => exact IntMulOk.of_bits (by assumption) (by assumption)); (case q2 => exact IntMulOk.of_bits (by assumption) (by assumption)); (case q3 => exact IntMulOk.of_bits (by assumption) (by assumption)); (case q4 => exact IntMulOk.of_bits (by assumption) (by assumption)); (case kB => k_asm); (case kF => k_asm); (case kX => k_asm); (case kT => k_asm); (case kk => exact rfl); (case kd => ktr_room); (case ku => ktr_units); k_whole); intro r9_w n9_w h9_w tk9_w F9_w N9_w P9_w; obtain ⟨P8_w, t9_w, P9_w⟩ := P9_w; subst P8_w; subst P9_w; (try k_sweep); (try dsimp only))) | (k_here; (with_reducible show wpAny _ _ (subscriptTail _ _ (Value.ref _) (Value.int _ _)) _ _ _); (with_unfolding_all refine' item_led ?N ?m ?a ?b ?x ?_ ?z; (case N => k_asm); (case m => k_mem); (case a => decide); (case b => decide); (case x => rfl); (case z => with_unfolding_all rfl); k_whole)) | ((with_reducible show LCg.CompEnd _ _ _ _ _ _ _ _ _ _ _ _ _ _); (refine' compEnd0 ?F ?N ?O ?S ?_; (case N => assumption); (case F => assumption); (case O => assumption); (case S => lcg_src))) | ((with_reducible show LCg.CompRest _ _ _ _ _ _ _ _ _ _ _ _ _ _ _ _ _ _ _); (with_unfolding_all first | (refine LCg.CompRest.succ ?_; intro v_wp I_wp oI_wp C_wp oC_wp D_wp m_wp h_wp tk_wp E_wp hv_wp hC_wp hx_wp F_wp N_wp off_wp ne_wp; clear ne_wp; (first | lcg_open hv_wp | (obtain ⟨t9_wp, hv9_wp⟩ := hv_wp; subst hv9_wp))) | refine LCg.CompRest.zero ?_)) | ((with_reducible show LCg.CompSrc _ _ _ _ _ _ _ _ _ _ _ _ _ _); (k_here; k_dflt (first | (refine LCg.CompSrc.ledger (by rfl) (by k_asm) (by k_asm) (by k_mem) (by first | size_fits | exact Nat.le_of_ble_eq_true rfl) ?_; intro g_wp; lcg_lit) | (refine LCg.CompSrc.range (by rfl) (by k_asm) (by k_asm) (by assumption) (by first | decide | rfl) (by first | rfl | decide) (by first | size_fits | exact Nat.le_of_ble_eq_true rfl) ?_; intro g_wp; lcg_lit)))) | ((with_reducible show wpAny _ _ (eval (Expr.ListComp _ _ _ _) _) _ _ _); (k_here; k_dflt (refine LCg.ListComp_U (F₀ := by k_asm) (by with_unfolding_all rfl) (by decide) (by rfl) (by decide) (by rfl) ?_); k_dflt lcg_toSrc)))) | (walk1) | (dsimp only; walk1) | (leave1; (try dsimp only)))
      rename Fr h₀ _ _ _ => kF
      rename News h₀ _ _ _ => kN
      rename Fr g' L' _ _ => fF
      rename News g' L' _ _ => fN
      rw [f0, f1, f2, f3] at g0 g1 g2 g3
      refine hret _ _ _ _ kF (back_all (new := [(D2, listOf #[.ref U0.a, .ref U1.a, .ref U2.a, .ref U3.a] 4), rowP U0, rowP U1, rowP U2, rowP U3]) N hsub S' fF kN (fun p hp => List.mem_append_left _ hp) (fun p hp => List.mem_append_right [_, _, _, _, _, _, _, _, _, _, _, _] hp)) ⟨_, rfl, apart_all N S' fN (fun p hp => List.mem_append_left _ hp) ?_, ⟨D2, U0, U1, U2, U3, rfl, rfl, g0, g1, g2, g3⟩⟩
      intro d hd hm
      obtain ⟨q, hq, e⟩ := List.mem_map.mp hm
      have n1 := hne2 q (List.mem_append_right [_, _, _, _, _, _, _] hq)
      have n2 := off2 q (hin2 q (List.mem_append_right [_, _, _, _, _, _, _, _, _, _, _] hq))
      simp only [List.mem_cons, List.not_mem_nil, or_false] at hd
      rcases hd with rfl | rfl | rfl | rfl | rfl
      · exact n2 e
      · exact n1.1 e
      · exact n1.2.1 e
      · exact n1.2.2.1 e
      · exact n1.2.2.2 e
end
end Mine

/-! # L17 -/
namespace Mine
theorem fresh_L17 : True := by
  w_top off
  exact True.intro

def PT.row (t : PT) : Ent := (t.c0, t.c1, t.c2, t.c3)
/-- a pair of ints of the ledger -/
def PairAt (l : List (Addr × Obj)) (R : Addr) (x y : Int) : Prop := ∃ k0 k1 e, (R, tupObj #[.int x k0, .int y k1] e) ∈ l
theorem pairAt_of {T : PO} {l : List (Addr × Obj)} {x y : Int} (hx : T.x = x) (hy : T.y = y) (hm : T.pr ∈ l) : PairAt l T.a x y := by
  subst hx
  subst hy
  exact ⟨_, _, _, hm⟩
theorem its4r {T0 T1 T2 T3 : RT} {i : Nat} {v : Value} (hi : i < 4) (h : (#[.ref T0.a, .ref T1.a, .ref T2.a, .ref T3.a] : Array Value)[i]? = some v) : v = .ref (pick T0 T1 T2 T3 i).a :=
  match i, hi, h with
  | 0, _, h => (Option.some.inj h).symm
  | 1, _, h => (Option.some.inj h).symm
  | 2, _, h => (Option.some.inj h).symm
  | 3, _, h => (Option.some.inj h).symm
theorem notin_map' {D : Addr} {l : List (Addr × Obj)} (h : ∀ p ∈ l, @Ne Nat p.1 D) : D ∉ l.map (·.1) := fun hm => by
  obtain ⟨q, hq, e⟩ := List.mem_map.mp hm
  exact h q hq e
section
local macro_rules | `(tactic| k_units) => `(tactic| ktr_units)

local macro_rules | `(tactic| k_mem) => `(tactic| (repeat (first | assumption | exact List.Mem.head _ | refine List.Mem.tail _ ?_)))
theorem ends {w : World} {hp nb : Addr} {T0 T1 T2 T3 : RT} {n0 n1 n2 n3 : Int} {k0 k1 k2 k3 : Tok} {ep en : Nat} {news : List (Addr × Obj)}
    (b0 : Builtin.Int.intBits n0 ≤ 64) (b1 : Builtin.Int.intBits n1 ≤ 64) (b2 : Builtin.Int.intBits n2 ≤ 64) (b3 : Builtin.Int.intBits n3 ≤ 64)
    (hsub : ∀ p ∈ [(hp, listOf #[.ref T0.a, .ref T1.a, .ref T2.a, .ref T3.a] ep), (T0.a, tupObj #[.int T0.p.x T0.u, .int T0.p.y T0.v, .ref T0.r] T0.e), (T1.a, tupObj #[.int T1.p.x T1.u, .int T1.p.y T1.v, .ref T1.r] T1.e), (T2.a, tupObj #[.int T2.p.x T2.u, .int T2.p.y T2.v, .ref T2.r] T2.e), (T3.a, tupObj #[.int T3.p.x T3.u, .int T3.p.y T3.v, .ref T3.r] T3.e), (T0.r, listOf #[.int T0.p.c0 T0.k0, .int T0.p.c1 T0.k1, .int T0.p.c2 T0.k2, .int T0.p.c3 T0.k3] T0.f), (T1.r, listOf #[.int T1.p.c0 T1.k0, .int T1.p.c1 T1.k1, .int T1.p.c2 T1.k2, .int T1.p.c3 T1.k3] T1.f), (T2.r, listOf #[.int T2.p.c0 T2.k0, .int T2.p.c1 T2.k1, .int T2.p.c2 T2.k2, .int T2.p.c3 T2.k3] T2.f), (T3.r, listOf #[.int T3.p.c0 T3.k0, .int T3.p.c1 T3.k1, .int T3.p.c2 T3.k2, .int T3.p.c3 T3.k3] T3.f), (nb, listOf #[.int n0 k0, .int n1 k1, .int n2 k2, .int n3 k3] en)], p ∈ news) :
    MakeOk w 14 153 [.ref hp, .ref nb] news (fun r new => ∃ D A0 A1 A2 A3 e l, r = .ref D ∧ new = (D, listOf #[.ref A0, .ref A1, .ref A2, .ref A3] e) :: l ∧
      PairAt l A0 T0.p.x (dotE T0.p.row (n0, n1, n2, n3)) ∧ PairAt l A1 T1.p.x (dotE T1.p.row (n0, n1, n2, n3)) ∧ PairAt l A2 T2.p.x (dotE T2.p.row (n0, n1, n2, n3)) ∧ PairAt l A3 T3.p.x (dotE T3.p.row (n0, n1, n2, n3))) := by
  have hK : (hd.heap_39, PySem.Challenge.rw_mr0075_01) = (hd.heap_39, PySem.Challenge.rw_mr0075_01) := by k_fill; rfl
  clear hK
  intro dp un gd cn cs a ccd cl outer A₀ base h₀ L m s p loose mean mg mb Q E B F X N T hk hd hu hret
  refine wpAny_call ?_
  k_dflt (refine' code_defCF ?k1 ?k2 ?k3 ?k4 hsub ?k5 ?kA ?kF ?kK ?k6 ?k7 ?k8 ?k9 ?kB ?kD ?_ ?c2 ?c3 ?c4; (case kA => exact rfl); (case kF => exact rfl); (case kK => assumption); (case k1 => k_asm); (case k2 => k_asm); (case k3 => k_asm); (case k4 => k_asm); (case k5 => k_asm); (case k6 => k_is); (case k7 => k_is); (case k8 => ktr_room); (case k9 => exact BindsTo.of_eq rfl); (case kB => exact rfl); (case kD => decide +kernel); (case c2 => exact rfl); (case c3 => exact rfl); (case c4 => exact rfl); k_whole)
  intro g' L' h' tk' cells' FG' F' N' Y' B' X' T' l1 S'
  (try k_lt l1); k_cells Y'; (try simp only [List.cons_append, List.nil_append] at N'); (try dsimp only); (try k_fold)
  repeat' (first | (k_unfold; (try dsimp only)) | (k_end; wrow_close) | ((first | ((with_reducible show LCg.CompSrc _ _ _ _ _ _ _ _ _ _ _ _ _ _); (k_here; k_dflt (refine LCg.CompSrc.ledger (by rfl) (by k_asm) (by k_asm) (by k_mem) (by first | size_fits | exact Nat.le_of_ble_eq_true rfl) ?_; intro g_wp; lcg_lit))))) | ((fail_if_success (with_reducible show LCg.CompRest _ _ _ _ _ _ _ _ _ _ _ _ _ _ _ _ _ _ _)); first | (walk1) | (dsimp only; walk1)) | (leave1; (try dsimp only)))
  refine comp_turns (JM PO.a (fun T => [T.pr]) (fun j T => T.x = (pick T0 T1 T2 T3 j).p.x ∧ T.y = dotE (pick T0 T1 T2 T3 j).p.row (n0, n1, n2, n3)) _) JM.zero ?turn ?fin
  case turn =>
    intro i ys led hi hJ v I oI C oC D m₂ h tk E' hv hC hx F2 N2 off ne
    clear ne
    have qc := hJ.1 _ (.head _)
    have qh := hJ.1 _ (.tail _ (.head _))
    have qn := hJ.1 _ (.tail _ (.tail _ (.tail _ (.tail _ (.tail _ (.tail _ (.tail _ (.tail _ (.tail _ (.tail _ (.head _)))))))))))
    have qT : RT.In led (pick T0 T1 T2 T3 i) := pick_all ⟨hJ.1 _ (.tail _ (.tail _ (.head _))), hJ.1 _ (.tail _ (.tail _ (.tail _ (.tail _ (.tail _ (.tail _ (.head _)))))))⟩ ⟨hJ.1 _ (.tail _ (.tail _ (.tail _ (.head _)))), hJ.1 _ (.tail _ (.tail _ (.tail _ (.tail _ (.tail _ (.tail _ (.tail _ (.head _))))))))⟩ ⟨hJ.1 _ (.tail _ (.tail _ (.tail _ (.tail _ (.head _))))), hJ.1 _ (.tail _ (.tail _ (.tail _ (.tail _ (.tail _ (.tail _ (.tail _ (.tail _ (.head _)))))))))⟩ ⟨hJ.1 _ (.tail _ (.tail _ (.tail _ (.tail _ (.tail _ (.head _)))))), hJ.1 _ (.tail _ (.tail _ (.tail _ (.tail _ (.tail _ (.tail _ (.tail _ (.tail _ (.tail _ (.head _))))))))))⟩ i
    have hv' := its4r hi hv
    obtain ⟨T, hT⟩ : ∃ T, T = pick T0 T1 T2 T3 i := ⟨_, rfl⟩
    rw [← hT] at qT hv'
    subst hv'
    obtain ⟨qt, qr⟩ := qT
    repeat' (first | (k_unfold; (try dsimp only)) | (k_end; wrow_close) | ((first | ((with_reducible show wpAny _ _ (call (Value.ref _) _) _ _ _); first | (k_here; (with_reducible show wpAny _ _ (call (Value.ref 133) _) _ _ _); k_dflt (refine' CallOk.use (times (hsub := ?q0) (z0 := ?q1) (z1 := ?q2) (z2 := ?q3) (z3 := ?q4)) ?kB ?kF ?kX ?kN ?kT ?kk ?kd ?ku ?_; (case kN => k_asm); (case q0 => lcg_sub); (case q1 => exact IntMulOk.of_right (by assumption)); (case q2 => exact IntMulOk.of_right (by assumption)); (case q3 => exact IntMulOk.of_right (by assumption)); (case q4 => exact IntMulOk.of_right (by assumption)); (case kB => k_asm); (case kF => k_asm); (case kX => k_asm); (case kT => k_asm); (case kk => exact rfl); (case kd => ktr_room); (case ku => ktr_units); k_whole); intro r9_w n9_w h9_w tk9_w F9_w N9_w P9_w; obtain ⟨P8_w, t9_w, P9_w⟩ := P9_w; subst P8_w; subst P9_w; (try k_sweep); (try dsimp only))) | ((with_reducible show wpAny _ _ (newTuple _) _ _ _); (k_here; k_dflt (refine' kup_newTuple ?F ?N ?_ ?z; (case F => k_asm); (case N => k_asm); (case z => kmk_size)); intro D_wp h_wp F_wp N_wp l1_w; (rcases allLt_of l1_w with l2_w); clear l1_w; (simp only [AllLt, and_true] at l2_w); (try k_sweep))))) | ((fail_if_success (with_reducible show LCg.CompEnd _ _ _ _ _ _ _ _ _ _ _ _ _ _)); first | (walk1) | (dsimp only; walk1)) | (leave1; (try dsimp only)))
    rename _ ∧ _ ∧ _ ∧ AllLt _ led => l9
    exact compEnd1 (by assumption) (by assumption) ⟨l9.1, l9.2.1, l9.2.2.1⟩ off (.inr ⟨_, List.Mem.tail _ qh, rfl, _, rfl⟩) (hJ.next ⟨_, _, _, _, _, _⟩ (fun p hp => List.forall_mem_singleton.mpr (allLt_ne l9.2.2.2 p hp)) ⟨by rw [← hT], by rw [← hT]; rfl⟩)
  case fin =>
    intro ys led hJ
    obtain ⟨C0, C1, C2, C3, rfl, hin, hne, f0, f1, f2, f3⟩ := hJ.four
    unfold LCg.FinE
    intro D h tk F2 N2 off2
    have N3 := News.sub2 N2 hin
    have nD := off_of off2
    clear N2 off2
    repeat' (first | (k_unfold; (try dsimp only)) | (k_end; wrow_close) | (walk1) | (dsimp only; walk1) | (leave1; (try dsimp only)))
    rename Fr h₀ _ _ _ => kF
    rename News h₀ _ _ _ => kN
    rename Fr g' L' _ _ => fF
    rename News g' L' _ _ => fN
    refine hret _ _ _ _ kF (back_all (new := [_, _, _, _, _]) N hsub S' fF kN (fun p hp => List.mem_append_left _ hp) (by lcg_sub)) ⟨_, rfl, apart_all N S' fN (fun p hp => List.mem_append_left _ hp) ?_, ⟨_, _, _, _, _, _, _, rfl, rfl, pairAt_of f0.1 f0.2 (.head _), pairAt_of f1.1 f1.2 (.tail _ (.head _)), pairAt_of f2.1 f2.2 (.tail _ (.tail _ (.head _))), pairAt_of f3.1 f3.2 (.tail _ (.tail _ (.tail _ (.head _))))⟩⟩
    exact List.forall_mem_cons.mpr ⟨notin_map' fun p hp => nD p (hin p (.tail _ (.tail _ (.tail _ (.tail _ (.tail _ hp)))))), List.forall_mem_cons.mpr ⟨notin_map' fun p hp => (hne p (.tail _ hp)).1 _ (.head _), List.forall_mem_cons.mpr ⟨notin_map' fun p hp => (hne p (.tail _ hp)).2.1 _ (.head _), List.forall_mem_cons.mpr ⟨notin_map' fun p hp => (hne p (.tail _ hp)).2.2.1 _ (.head _), List.forall_mem_singleton.mpr (notin_map' fun p hp => (hne p (.tail _ hp)).2.2.2 _ (.head _))⟩⟩⟩⟩
end
end Mine

/-! # R1 -/
namespace Mine
theorem fresh_R1 : True := by
  w_top off
  exact True.intro
/-! ## a for over a list from its end, its items unpacked -/
section
variable {prog : Program} {w : World} {A : Around} {E : Value → Shared → Prop} {s : Shared} {env : Env} {h₀ : Heap} {body : List Stmt} {Q : Flow → Shared → Prop}
theorem letgo_rev {elts : List Expr} {x1} {pos : Pos} {I l : Addr} {i : Int} {v : Value} {Q : Unit → Shared → Prop} (hit : s.heap.IsRevIter I l i) (hQ : Q () s) :
    wpAny (model prog w) A (letOwnedTupleGo (.Tuple elts x1 pos) (.ref I) v) Q E s := by
  obtain ⟨o, ho, hc, hd⟩ := hit
  cases v with
  | ref T =>
    unfold letOwnedTupleGo
    refine wpAny_bind (wpAny_load ho ?_)
    rw [hc, hd]
    show wpAny _ A (if (["enumerate", "zip", "dict_itemiterator", "dict_reverseitemiterator", "odict_iterator", "itertools.zip_longest", "itertools.pairwise"].contains "list_reverseiterator" &&
        (#[.ref l, rawInt i] : Array Value)[0]? == some (rawInt T)) = true then _ else _) Q E s
    rw [if_neg (by
      intro h
      rw [show (["enumerate", "zip", "dict_itemiterator", "dict_reverseitemiterator", "odict_iterator", "itertools.zip_longest", "itertools.pairwise"].contains "list_reverseiterator") = false from by decide, Bool.false_and] at h
      cases h)]
    exact wpAny_pure hQ
  | _ => exact wpAny_pure hQ

def StepT (h₀ : Heap) (L : Addr) (s₁ : Shared) (I : Addr) (it : Obj) (rest : (Str → Option Value) → List (Addr × Obj) → Prop) (f : Flow) (s₂ : Shared) : Prop := f = .next ∧ UnrEnd h₀ L s₁ I it rest s₂

theorem iter_revT {elts : List Expr} {x1} {tp : Pos} {lg D : Addr} {lv : List Value} {en : Nat} {m₀ : Str → Option Value} {news : List (Addr × Obj)} (stored : List Str) (J : Nat → List (Addr × Obj) → Prop)
    (hh : A.handled = none) (F : Fr h₀ env.locals s.heap m₀) (N : News h₀ env.locals s.heap ((D, revObj lg ((lv.length : Int) - 1)) :: news)) (off : ∀ p ∈ news, p.1 ≠ D) (hj : J 0 news) (hJl : ∀ i l, J i l → (lg, listOf lv.toArray en) ∈ l)
    (turn : ∀ i v (u : Str → Option Value) news₁ (sg : Shared) h tk o, i < lv.length → lv[lv.length - 1 - i]? = some v → J i news₁ → (∀ p ∈ news₁, p.1 ≠ D) → Fr h₀ env.locals h (fun y => if stored.contains y then u y else m₀ y) → News h₀ env.locals h ((D, o) :: news₁) →
      wpAny (model prog w) A (assign (.Tuple elts x1 tp) env v) (fun _ s₃ => wpAny (model prog w) A (execs body env) (StepT h₀ env.locals { sg with heap := h, toks := tk } D o (fun m' news' => (∀ y, stored.contains y = false → m' y = m₀ y) ∧ J (i + 1) news')) E s₃) E { sg with heap := h, toks := tk })
    (done : ∀ (u : Str → Option Value) news₁ h tk, J lv.length news₁ → Fr h₀ env.locals h (fun y => if stored.contains y then u y else m₀ y) → News h₀ env.locals h news₁ → Q .next { s with heap := h, toks := tk }) :
    wpAny (model prog w) A (pyIter (.ref D)) (fun it s₂ => LoopAtT prog w A h₀ env (.Tuple elts x1 tp) body Q E it s₂) E s := by
  have zD := N _ (.head _)
  have hlg : (lg, listOf lv.toArray en) ∈ news := hJl _ _ hj
  have zl := N _ (.tail _ hlg)
  have hit : s.heap.IsRevIter D lg ((lv.length : Int) - 1) := ⟨_, zD.1, rfl, rfl⟩
  have hne : lg ≠ D := off _ hlg
  have same : ∀ (m₁ : Str → Option Value), (∀ y, stored.contains y = false → m₁ y = m₀ y) → m₁ = fun y => if stored.contains y then m₁ y else m₀ y := by
    intro m₁ hm
    funext y
    cases h2 : stored.contains y with
    | true => simp
    | false => simp only [Bool.false_eq_true, if_false]; exact hm y h2
  refine wpAny_pyIter_revIter hit ?_
  refine ⟨D, [D, lg], [D], lv.toArray.size, _, _, m₀, news, (fun i m' news' => (∀ y, stored.contains y = false → m' y = m₀ y) ∧ J i news'), rfl, Walks.listRev hh D lg hne lv.toArray, ?_, ?_, ?_, ?_, F, fun p hp => N p (.tail _ hp), ?_, ⟨fun _ _ => rfl, hj⟩, ?_, ?_⟩
  · intro hm
    rcases List.mem_cons.mp hm with e | hm
    · exact zD.2.1 e.symm
    · exact zl.2.1 (List.mem_singleton.mp hm).symm
  · intro b hb
    rw [List.mem_singleton.mp hb]; exact zD.2.2
  · intro p hp hm
    exact off p hp (List.mem_singleton.mp hm)
  · refine ⟨Nat.zero_le _, ?_, ⟨_, zl.1, rfl, en, rfl⟩⟩
    rw [List.size_toArray]
    have e : (lv.length : Int) - 1 - ((0 : Nat) : Int) = (lv.length : Int) - 1 := by omega
    rw [e]; exact hit
  · intro i s' v Q' st q
    exact letgo_rev st.2.1 q
  · intro i v m₁ news₁ s₁ own hi hP hJ hoff hown hget hall hst F₁ N₁
    rw [List.size_toArray] at hi hP
    obtain ⟨o, ho, _⟩ := hst.2.1
    have hmem := hall D (.head _) zD.2.2 o ho
    have N₂ : News h₀ env.locals s₁.heap ((D, o) :: news₁) := fun p hp => by
      rcases List.mem_cons.mp hp with rfl | hp
      · exact N₁ _ (List.mem_append_left _ hmem)
      · exact N₁ _ (List.mem_append_right _ hp)
    have F₂ := F₁
    rw [same m₁ hJ.1] at F₂
    refine wpAny_mono (turn i v m₁ news₁ s₁ s₁.heap s₁.toks o hi (by simpa using hP) hJ.2 (fun p hp e => hoff p hp (List.mem_singleton.mpr e)) F₂ N₂) (fun _ s₃ h₃ => wpAny_mono h₃ (fun f s₂ h₂ => ?_) fun _ _ e => e) fun _ _ e => e
    obtain ⟨rfl, h', tk, m', news', rfl, F', N', ho', r⟩ := h₂
    refine ⟨rfl, h', tk, m', news', rfl, F', fun p hp => ?_, fun p hp hm => ho' p hp (List.mem_singleton.mp hm), r⟩
    rcases List.mem_append.mp hp with hp | hp
    · have h1 := hown p hp
      have h2 := hget p hp
      rcases List.mem_cons.mp h1 with h1 | h1
      · rw [h1, ho] at h2
        have e : p = (D, o) := Prod.ext h1 (Option.some.inj h2).symm
        rw [e]; exact N' _ (.head _)
      · have h1 := List.mem_singleton.mp h1
        rw [h1, (N₁ _ (List.mem_append_right _ (hJl _ _ hJ.2))).1] at h2
        have e : p = (lg, listOf lv.toArray en) := Prod.ext h1 (Option.some.inj h2).symm
        rw [e]; exact N' _ (.tail _ (hJl _ _ r.2))
    · exact N' _ (.tail _ hp)
  · intro h' tk m' news' F' N' _ hJ
    rw [List.size_toArray] at hJ
    rw [same m' hJ.1] at F'
    exact done m' news' h' tk hJ.2 F' N'
end
/-! ## the rows that undo, made from the end back -/
def addRow (a : Ent) (q : Int) (b : Ent) : Ent := (a.1 + q * b.1, a.2.1 + q * b.2.1, a.2.2.1 + q * b.2.2.1, a.2.2.2 + q * b.2.2.2)
def put4' {α : Type} (X : Four α) (d : Nat) (v : α) : Four α := match d with
  | 0 => (v, X.2.1, X.2.2.1, X.2.2.2) | 1 => (X.1, v, X.2.2.1, X.2.2.2) | 2 => (X.1, X.2.1, v, X.2.2.2) | _ => (X.1, X.2.1, X.2.2.1, v)
abbrev at4' {α : Type} (X : Four α) : Nat → α := pick X.1 X.2.1 X.2.2.1 X.2.2.2
def backStep (e : Ent) (X : Four Ent) : Four Ent := put4' X e.2.1.toNat (addRow (at4' X e.2.1.toNat) e.2.2.2 (at4' X e.2.2.1.toNat))
def unitE : Four Ent := ((1, 0, 0, 0), (0, 1, 0, 0), (0, 0, 1, 0), (0, 0, 0, 1))
def backs (log : List Ent) : Four Ent := log.foldr backStep unitE
/-- places within the four, a quotient of few bits -/
def EntOk (e : Ent) : Prop := (0 ≤ e.2.1 ∧ e.2.1 < 4) ∧ (0 ≤ e.2.2.1 ∧ e.2.2.1 < 4) ∧ Builtin.Int.intBits e.2.2.2 ≤ 64
theorem LogIn.at {l : List (Addr × Obj)} {vs : List Value} {es : List Ent} (h : LogIn l vs es) : ∀ (j : Nat) (v : Value), vs[j]? = some v → ∃ e, es[j]? = some e ∧ EntIn l v e := by
  induction h with
  | nil => intro j v hj; cases hj
  | cons h _ ih =>
    intro j v hj
    cases j with
    | zero => cases hj; exact ⟨_, rfl, h⟩
    | succ j => exact ih j v hj
theorem foldr_drop {log : List Ent} {n i : Nat} {e : Ent} (hn : log.length = n) (hi : i < n) (he : log[n - 1 - i]? = some e) : (log.drop (n - (i + 1))).foldr backStep unitE = backStep e ((log.drop (n - i)).foldr backStep unitE) := by
  have h1 : n - (i + 1) = n - 1 - i := by omega
  have h2 : n - i = n - 1 - i + 1 := by omega
  have h3 : n - 1 - i < log.length := by omega
  rw [h1, h2, List.drop_eq_getElem_cons h3]
  have h4 : log[n - 1 - i] = e := by
    rw [List.getElem?_eq_getElem h3] at he
    exact Option.some.inj he
  rw [h4]; rfl
end Mine

/-! # L18 -/
namespace Mine
theorem fresh_L18 : True := by
  w_top off
  exact True.intro

def NeF (a b : Nat) : Prop := a ≠ b
theorem NeF.out {a b : Nat} (h : NeF a b) : a ≠ b := h
theorem NeF.mk' {a b : Nat} (h : a ≠ b) : NeF b a := Ne.symm h
theorem NeF.symm {a b : Nat} (h : NeF a b) : NeF b a := Ne.symm h
abbrev L1' (Lx : Addr) : Addr := Lx + 1
def RowOff (D9 Lx : Addr) (core : List (Addr × Obj)) (Q : Rw) : Prop := NeF Q.a D9 ∧ NeF Q.a (Lx + 1) ∧ NeF Q.a (Lx + 1 + 1) ∧ NeF Q.a (Lx + 1 + 1 + 1) ∧ NeF Q.a (Lx + 1 + 1 + 1 + 1) ∧ (∀ p ∈ core, NeF p.1 Q.a)
/-- before the turn i of _law_back -/
def JB (log : List Ent) (D9 Lx : Addr) (orows : Obj) (core : List (Addr × Obj)) (i : Nat) (news₁ : List (Addr × Obj)) : Prop :=
  ∃ (o1 o2 o3 : Obj) (v1 v2 v3 : Option Value) (Q : Four Rw) (e : Nat), news₁ = (D9, listOf #[.ref Q.1.a, .ref Q.2.1.a, .ref Q.2.2.1.a, .ref Q.2.2.2.a] e) :: (Lx + 1 + 1 + 1 + 1, o1) :: (Lx + 1 + 1 + 1, o2) :: (Lx + 1 + 1, o3) :: (Lx + 1, orows) :: rowP Q.1 :: rowP Q.2.1 :: rowP Q.2.2.1 :: rowP Q.2.2.2 :: core ∧
    o1.data = .cell v1 ∧ o2.data = .cell v2 ∧ o3.data = .cell v3 ∧ Four.All (RowOff D9 Lx core) Q ∧ Four.map Rw.row Q = (log.drop (log.length - i)).foldr backStep unitE
theorem put_all {α : Type} {P : α → Prop} {Q : Four α} {v : α} (hQ : Four.All P Q) (hv : P v) (d : Nat) : Four.All P (put4' Q d v) :=
  match d with
  | 0 => ⟨hv, hQ.2⟩
  | 1 => ⟨hQ.1, hv, hQ.2.2⟩
  | 2 => ⟨hQ.1, hQ.2.1, hv, hQ.2.2.2⟩
  | _ + 3 => ⟨hQ.1, hQ.2.1, hQ.2.2.1, hv⟩
theorem put_map {α β : Type} (f : α → β) (Q : Four α) (v : α) (d : Nat) : Four.map f (put4' Q d v) = put4' (Four.map f Q) d (f v) :=
  match d with
  | 0 => rfl
  | 1 => rfl
  | 2 => rfl
  | _ + 3 => rfl
theorem at_map {α β : Type} (f : α → β) (Q : Four α) (d : Nat) : at4' (Four.map f Q) d = f (at4' Q d) :=
  match d with
  | 0 => rfl
  | 1 => rfl
  | 2 => rfl
  | _ + 3 => rfl
theorem put_set {Q : Four Rw} {a : Rw} {d : Nat} (hd : d < 4) : (([.ref Q.1.a, .ref Q.2.1.a, .ref Q.2.2.1.a, .ref Q.2.2.2.a] : List Value).set d (.ref a.a)).toArray = #[.ref (put4' Q d a).1.a, .ref (put4' Q d a).2.1.a, .ref (put4' Q d a).2.2.1.a, .ref (put4' Q d a).2.2.2.a] :=
  match d, hd with
  | 0, _ => rfl
  | 1, _ => rfl
  | 2, _ => rfl
  | 3, _ => rfl
theorem sub9 {α : Type} {x d c4 c3 c2 c1 r0 r1 r2 r3 q0 q1 q2 q3 : α} {core : List α} (h0 : r0 ∈ [x, q0, q1, q2, q3]) (h1 : r1 ∈ [x, q0, q1, q2, q3]) (h2 : r2 ∈ [x, q0, q1, q2, q3]) (h3 : r3 ∈ [x, q0, q1, q2, q3]) :
    ∀ p ∈ d :: c4 :: c3 :: c2 :: c1 :: r0 :: r1 :: r2 :: r3 :: core, p ∈ x :: d :: c4 :: c3 :: c2 :: c1 :: q0 :: q1 :: q2 :: q3 :: core := by
  have up : ∀ p ∈ [x, q0, q1, q2, q3], p ∈ x :: d :: c4 :: c3 :: c2 :: c1 :: q0 :: q1 :: q2 :: q3 :: core :=
    List.forall_mem_cons.mpr ⟨.head _, fun p hp => .tail _ (.tail _ (.tail _ (.tail _ (.tail _ (.tail _ (List.mem_append_left core hp))))))⟩
  intro p hp
  rcases List.mem_append.mp (show p ∈ [d, c4, c3, c2, c1] ++ ([r0, r1, r2, r3] ++ core) from hp) with h | h
  · exact .tail _ (List.mem_append_left (q0 :: q1 :: q2 :: q3 :: core) h)
  rcases List.mem_append.mp h with h | h
  · exact up p (List.forall_mem_cons.mpr ⟨h0, List.forall_mem_cons.mpr ⟨h1, List.forall_mem_cons.mpr ⟨h2, List.forall_mem_singleton.mpr h3⟩⟩⟩ p h)
  · exact List.mem_append_right [x, d, c4, c3, c2, c1, q0, q1, q2, q3] h
theorem cons5 {α : Type} {P : α → Prop} {d c4 c3 c2 c1 q0 q1 q2 q3 d' r0 r1 r2 r3 : α} {core : List α} (h : ∀ p ∈ d :: c4 :: c3 :: c2 :: c1 :: q0 :: q1 :: q2 :: q3 :: core, P p) (hd : P d') (h0 : P r0) (h1 : P r1) (h2 : P r2) (h3 : P r3) :
    ∀ p ∈ d' :: c4 :: c3 :: c2 :: c1 :: r0 :: r1 :: r2 :: r3 :: core, P p := by
  intro p hp
  rcases List.mem_cons.mp hp with e | hp
  · exact e ▸ hd
  rcases List.mem_append.mp (show p ∈ [c4, c3, c2, c1] ++ ([r0, r1, r2, r3] ++ core) from hp) with h' | h'
  · exact h p (.tail _ (List.mem_append_left (q0 :: q1 :: q2 :: q3 :: core) h'))
  rcases List.mem_append.mp h' with h' | h'
  · exact List.forall_mem_cons.mpr ⟨h0, List.forall_mem_cons.mpr ⟨h1, List.forall_mem_cons.mpr ⟨h2, List.forall_mem_singleton.mpr h3⟩⟩⟩ p h'
  · exact h p (List.mem_append_right [d, c4, c3, c2, c1, q0, q1, q2, q3] h')
theorem JB_next {log : List Ent} {D D9 Lx : Addr} {o1 o2 o3 orows : Obj} {v1 v2 v3 : Option Value} {core : List (Addr × Obj)} {i e : Nat} {Q : Four Rw} {en : Ent} (T : Rw) (hi : i < log.length) (hen : log[log.length - 1 - i]? = some en) (hok : EntOk en)
    (d1 : o1.data = .cell v1) (d2 : o2.data = .cell v2) (d3 : o3.data = .cell v3) (hQ : Four.All (RowOff D9 Lx core) Q) (hT : RowOff D9 Lx core T) (hX : Four.map Rw.row Q = (log.drop (log.length - i)).foldr backStep unitE)
    (hr : T.row = addRow (at4' Q en.2.1.toNat).row en.2.2.2 (at4' Q en.2.2.1.toNat).row)
    (hD : ∀ p ∈ (D9, listOf #[.ref Q.1.a, .ref Q.2.1.a, .ref Q.2.2.1.a, .ref Q.2.2.2.a] e) :: (Lx + 1 + 1 + 1 + 1, o1) :: (Lx + 1 + 1 + 1, o2) :: (Lx + 1 + 1, o3) :: (Lx + 1, orows) :: rowP Q.1 :: rowP Q.2.1 :: rowP Q.2.2.1 :: rowP Q.2.2.2 :: core, p.1 ≠ D) (hTD : T.a ≠ D) :
    ∃ news', (∀ p ∈ news', p ∈ rowP T :: (D9, listOf (([.ref Q.1.a, .ref Q.2.1.a, .ref Q.2.2.1.a, .ref Q.2.2.2.a] : List Value).set en.2.1.toNat (.ref T.a)).toArray e) :: (Lx + 1 + 1 + 1 + 1, o1) :: (Lx + 1 + 1 + 1, o2) :: (Lx + 1 + 1, o3) :: (Lx + 1, orows) :: rowP Q.1 :: rowP Q.2.1 :: rowP Q.2.2.1 :: rowP Q.2.2.2 :: core) ∧
      (∀ p ∈ news', p.1 ≠ D) ∧ JB log D9 Lx orows core (i + 1) news' := by
  have hd : en.2.1.toNat < 4 := by have := hok.1; omega
  have hm : Four.All (fun R : Rw => rowP R ∈ [rowP T, rowP Q.1, rowP Q.2.1, rowP Q.2.2.1, rowP Q.2.2.2]) (put4' Q en.2.1.toNat T) :=
    put_all ⟨.tail _ (.head _), .tail _ (.tail _ (.head _)), .tail _ (.tail _ (.tail _ (.head _))), .tail _ (.tail _ (.tail _ (.tail _ (.head _))))⟩ (.head _) _
  have hn : Four.All (fun R : Rw => R.a ≠ D) (put4' Q en.2.1.toNat T) :=
    put_all (P := fun R : Rw => R.a ≠ D) ⟨hD _ (.tail _ (.tail _ (.tail _ (.tail _ (.tail _ (.head _)))))), hD _ (.tail _ (.tail _ (.tail _ (.tail _ (.tail _ (.tail _ (.head _))))))), hD _ (.tail _ (.tail _ (.tail _ (.tail _ (.tail _ (.tail _ (.tail _ (.head _)))))))), hD _ (.tail _ (.tail _ (.tail _ (.tail _ (.tail _ (.tail _ (.tail _ (.tail _ (.head _)))))))))⟩ hTD _
  have hs : Four.map Rw.row (put4' Q en.2.1.toNat T) = (log.drop (log.length - (i + 1))).foldr backStep unitE := by
    have e : _ = put4' (Four.map Rw.row Q) en.2.1.toNat (addRow (at4' (Four.map Rw.row Q) en.2.1.toNat) en.2.2.2 (at4' (Four.map Rw.row Q) en.2.2.1.toNat)) := (foldr_drop rfl hi hen).trans (congrArg (backStep en) hX.symm)
    rw [put_map, e, at_map, at_map, ← hr]
  rw [put_set hd]
  exact ⟨_, sub9 hm.1 hm.2.1 hm.2.2.1 hm.2.2.2, cons5 hD (show D9 ≠ D from hD _ (.head _)) hn.1 hn.2.1 hn.2.2.1 hn.2.2.2, o1, o2, o3, v1, v2, v3, _, e, rfl, d1, d2, d3, put_all hQ hT _, hs⟩
theorem notin_of {D : Addr} {core : List (Addr × Obj)} (h : ∀ p ∈ core, NeF p.1 D) : D ∉ core.map (·.1) := fun hm => by
  obtain ⟨q, hq, e⟩ := List.mem_map.mp hm
  exact h q hq e
theorem subB {α : Type} {d q0 q1 q2 q3 c4 c3 c2 c1 : α} {core : List α} : ∀ p ∈ [d, q0, q1, q2, q3], p ∈ d :: c4 :: c3 :: c2 :: c1 :: q0 :: q1 :: q2 :: q3 :: core :=
  List.forall_mem_cons.mpr ⟨.head _, fun p hp => .tail _ (.tail _ (.tail _ (.tail _ (.tail _ (List.mem_append_left core hp)))))⟩
theorem permE {α : Type} {x t d q0 q1 q2 q3 c4 c3 c2 c1 u v : α} {core : List α} : ∀ p ∈ t :: d :: c4 :: c3 :: c2 :: c1 :: q0 :: q1 :: q2 :: q3 :: core, p ∈ t :: x :: d :: c4 :: c3 :: c2 :: c1 :: u :: v :: q0 :: q1 :: q2 :: q3 :: core :=
  List.forall_mem_cons.mpr ⟨.head _, fun p hp => .tail _ (.tail _ (by
    rcases List.mem_append.mp (show p ∈ [d, c4, c3, c2, c1] ++ (q0 :: q1 :: q2 :: q3 :: core) from hp) with h | h
    · exact List.mem_append_left (u :: v :: q0 :: q1 :: q2 :: q3 :: core) h
    · exact List.mem_append_right [d, c4, c3, c2, c1, u, v] h))⟩
theorem back_turn {log : List Ent} {g h : Heap} {L D D9 Lx Ta : Addr} {s₁ : Shared} {tk : Nat} {o o1 o2 o3 orows : Obj} {v1 v2 v3 : Option Value} {core : List (Addr × Obj)} {i e te : Nat} {Q0 Q1 Q2 Q3 P O : Rw} {n1 n2 n3 n4 x0 x1 x2 x3 : Int} {k0 k1 k2 k3 : Tok} {m' : Str → Option Value} {R : (Str → Option Value) → Prop}
    (F : Fr g L h m') (N : News g L h ((Ta, listOf #[.int x0 k0, .int x1 k1, .int x2 k2, .int x3 k3] te) :: (D, o) :: (D9, listOf (([.ref Q0.a, .ref Q1.a, .ref Q2.a, .ref Q3.a] : List Value).set n2.toNat (.ref Ta)).toArray e) :: (Lx + 1 + 1 + 1 + 1, o1) :: (Lx + 1 + 1 + 1, o2) :: (Lx + 1 + 1, o3) :: (Lx + 1, orows) :: rowP P :: rowP O :: rowP Q0 :: rowP Q1 :: rowP Q2 :: rowP Q3 :: core))
    (hi : i < log.length) (hen : log[log.length - 1 - i]? = some (n1, n2, n3, n4)) (hok : EntOk (n1, n2, n3, n4)) (d1 : o1.data = .cell v1) (d2 : o2.data = .cell v2) (d3 : o3.data = .cell v3) (hQ : Four.All (RowOff D9 Lx core) (Q0, Q1, Q2, Q3))
    (hX : Four.map Rw.row (Q0, Q1, Q2, Q3) = (log.drop (log.length - i)).foldr backStep unitE) (hP : at4' (Q0, Q1, Q2, Q3) n2.toNat = P) (hO : at4' (Q0, Q1, Q2, Q3) n3.toNat = O)
    (hx : (x0, x1, x2, x3) = addRow P.row n4 O.row) (hT : RowOff D9 Lx core ⟨Ta, x0, x1, x2, x3, k0, k1, k2, k3, te⟩) (hTD : Ta ≠ D)
    (hD : ∀ p ∈ (D9, listOf #[.ref Q0.a, .ref Q1.a, .ref Q2.a, .ref Q3.a] e) :: (Lx + 1 + 1 + 1 + 1, o1) :: (Lx + 1 + 1 + 1, o2) :: (Lx + 1 + 1, o3) :: (Lx + 1, orows) :: rowP Q0 :: rowP Q1 :: rowP Q2 :: rowP Q3 :: core, p.1 ≠ D) (hR : R m') :
    StepT g L s₁ D o (fun m' news' => R m' ∧ JB log D9 Lx orows core (i + 1) news') .next { s₁ with heap := h, toks := tk } := by
  obtain ⟨news', h1, h2, h3⟩ := JB_next (Q := (Q0, Q1, Q2, Q3)) ⟨Ta, x0, x1, x2, x3, k0, k1, k2, k3, te⟩ hi hen hok d1 d2 d3 hQ hT hX (by rw [hP, hO]; exact hx) hD hTD
  refine ⟨rfl, UnrEnd.intro F N news' ?_ h2 ⟨hR, h3⟩⟩
  intro p hp
  rcases List.mem_cons.mp hp with rfl | hp
  · exact .tail _ (.head _)
  · exact permE p (h1 p hp)
theorem at4_get {Q0 Q1 Q2 Q3 : Rw} {k : Int} (h : 0 ≤ k ∧ k < 4) : (#[.ref Q0.a, .ref Q1.a, .ref Q2.a, .ref Q3.a] : Array Value)[k.toNat]? = some (.ref (at4' (Q0, Q1, Q2, Q3) k.toNat).a) := by
  have hd : k.toNat < 4 := by omega
  generalize k.toNat = d at *
  match d, hd with
  | 0, _ => rfl
  | 1, _ => rfl
  | 2, _ => rfl
  | 3, _ => rfl
theorem g4_0 {a b c d : Value} {k : Int} (h : k = 0) : (#[a, b, c, d] : Array Value)[k.toNat]? = some a := by subst h; rfl
theorem g4_1 {a b c d : Value} {k : Int} (h : k = 1) : (#[a, b, c, d] : Array Value)[k.toNat]? = some b := by subst h; rfl
theorem g4_2 {a b c d : Value} {k : Int} (h : k = 2) : (#[a, b, c, d] : Array Value)[k.toNat]? = some c := by subst h; rfl
theorem g4_3 {a b c d : Value} {k : Int} (h : k = 3) : (#[a, b, c, d] : Array Value)[k.toNat]? = some d := by subst h; rfl
theorem News.two {h₀ h : Heap} {L : Addr} {x d c4 c3 c2 c1 u v : Addr × Obj} {l : List (Addr × Obj)} (N : News h₀ L h (x :: d :: c4 :: c3 :: c2 :: c1 :: l)) (hu : u ∈ l) (hv : v ∈ l) : News h₀ L h (x :: d :: c4 :: c3 :: c2 :: c1 :: u :: v :: l) := fun p hp => N p (by
  rcases List.mem_append.mp (show p ∈ [x, d, c4, c3, c2, c1] ++ (u :: v :: l) from hp) with h | h
  · exact List.mem_append_left l h
  · exact List.mem_append_right [x, d, c4, c3, c2, c1] (List.forall_mem_cons.mpr ⟨hu, List.forall_mem_cons.mpr ⟨hv, fun _ h => h⟩⟩ p h))
theorem permB {α : Type} {x d q0 q1 q2 q3 c4 c3 c2 c1 : α} {core : List α} : ∀ p ∈ x :: d :: c4 :: c3 :: c2 :: c1 :: q0 :: q1 :: q2 :: q3 :: core, p ∈ x :: d :: q0 :: q1 :: q2 :: q3 :: c4 :: c3 :: c2 :: c1 :: core :=
  List.forall_mem_cons.mpr ⟨.head _, List.forall_mem_cons.mpr ⟨.tail _ (.head _), fun p hp => .tail _ (.tail _ (by
    rcases List.mem_append.mp (show p ∈ [c4, c3, c2, c1] ++ ([q0, q1, q2, q3] ++ core) from hp) with h | h
    · exact List.mem_append_right [q0, q1, q2, q3] (List.mem_append_left core h)
    rcases List.mem_append.mp h with h | h
    · exact List.mem_append_left (c4 :: c3 :: c2 :: c1 :: core) h
    · exact List.mem_append_right [q0, q1, q2, q3, c4, c3, c2, c1] h))⟩⟩
theorem permB' {α : Type} {d q0 q1 q2 q3 c4 c3 c2 c1 : α} {core : List α} : ∀ p ∈ d :: c4 :: c3 :: c2 :: c1 :: q0 :: q1 :: q2 :: q3 :: core, p ∈ d :: q0 :: q1 :: q2 :: q3 :: c4 :: c3 :: c2 :: c1 :: core :=
  fun p hp => (List.mem_cons.mp (permB (x := d) p (.tail _ hp))).elim (fun e => e ▸ .head _) id
theorem rowAt {Q0 Q1 Q2 Q3 : Rw} {core : List (Addr × Obj)} (k : Nat) : rowP (at4' (Q0, Q1, Q2, Q3) k) ∈ rowP Q0 :: rowP Q1 :: rowP Q2 :: rowP Q3 :: core :=
  pick_all (P := fun R : Rw => rowP R ∈ rowP Q0 :: rowP Q1 :: rowP Q2 :: rowP Q3 :: core) (.head _) (.tail _ (.head _)) (.tail _ (.tail _ (.head _))) (.tail _ (.tail _ (.tail _ (.head _)))) k
theorem CallOk.shrink {w : World} {k : Nat} {f : Addr} {args : List Value} {news : List (Addr × Obj)} {Post Post' : Value → List (Addr × Obj) → Prop} (C : CallOk w k f args news Post) (hp : ∀ r n, Post r n → ∃ n', (∀ p ∈ n', p ∈ n) ∧ Post' r n') : CallOk w k f args news Post' :=
  fun dp un gd cn cs a ccd cl outer A₀ base h₀ L m s p loose mean mg mb Q E B F X N T hc hd hu ret =>
    C _ _ _ _ _ _ _ _ _ _ _ _ _ _ _ _ _ _ _ _ _ _ B F X N T hc hd hu fun r n h' tk' F' N' P => by
      obtain ⟨n', hs, P'⟩ := hp r n P
      exact ret r n' h' tk' F' (fun p hp => N' p (hs p hp)) P'
theorem unitsX {w : World} {news : List (Addr × Obj)} :
    CallOk w 14 148 [] news (fun r n => ∃ D Q0 Q1 Q2 Q3 e, r = .ref D ∧ n = (D, listOf #[.ref Q0.a, .ref Q1.a, .ref Q2.a, .ref Q3.a] e) :: rowP Q0 :: rowP Q1 :: rowP Q2 :: rowP Q3 :: news ∧
      Q0.row = (1, 0, 0, 0) ∧ Q1.row = (0, 1, 0, 0) ∧ Q2.row = (0, 0, 1, 0) ∧ Q3.row = (0, 0, 0, 1) ∧ (NeF Q0.a D ∧ NeF Q1.a D ∧ NeF Q2.a D ∧ NeF Q3.a D) ∧
      (∀ p ∈ news, NeF p.1 D ∧ NeF p.1 Q0.a ∧ NeF p.1 Q1.a ∧ NeF p.1 Q2.a ∧ NeF p.1 Q3.a)) := by
  refine CallOk.shrink (units (w := w) (news := news)) ?_
  rintro r n ⟨new, rfl, ap, D, R0, R1, R2, R3, e, l, rfl, rfl, ⟨a0, a1, a2, a3, a4, ha⟩, ⟨b0, b1, b2, b3, b4, hb⟩, ⟨c0, c1, c2, c3, c4, hc⟩, ⟨d0, d1, d2, d3, d4, hd⟩, hD⟩
  refine ⟨(D, listOf #[.ref R0, .ref R1, .ref R2, .ref R3] e) :: rowP ⟨R0, 1, 0, 0, 0, a0, a1, a2, a3, a4⟩ :: rowP ⟨R1, 0, 1, 0, 0, b0, b1, b2, b3, b4⟩ :: rowP ⟨R2, 0, 0, 1, 0, c0, c1, c2, c3, c4⟩ :: rowP ⟨R3, 0, 0, 0, 1, d0, d1, d2, d3, d4⟩ :: news, ?_, D, ⟨R0, 1, 0, 0, 0, a0, a1, a2, a3, a4⟩, ⟨R1, 0, 1, 0, 0, b0, b1, b2, b3, b4⟩, ⟨R2, 0, 0, 1, 0, c0, c1, c2, c3, c4⟩, ⟨R3, 0, 0, 0, 1, d0, d1, d2, d3, d4⟩, e, rfl, rfl, rfl, rfl, rfl, rfl, ⟨hD _ ha, hD _ hb, hD _ hc, hD _ hd⟩, fun p hp => ⟨ap p hp _ (.head _), ap p hp _ (.tail _ ha), ap p hp _ (.tail _ hb), ap p hp _ (.tail _ hc), ap p hp _ (.tail _ hd)⟩⟩
  intro p hp
  rcases List.mem_cons.mp hp with rfl | hp
  · exact .head _
  rcases List.mem_cons.mp hp with rfl | hp
  · exact .tail _ (List.mem_append_left _ ha)
  rcases List.mem_cons.mp hp with rfl | hp
  · exact .tail _ (List.mem_append_left _ hb)
  rcases List.mem_cons.mp hp with rfl | hp
  · exact .tail _ (List.mem_append_left _ hc)
  rcases List.mem_cons.mp hp with rfl | hp
  · exact .tail _ (List.mem_append_left _ hd)
  · exact .tail _ (List.mem_append_right _ hp)
theorem allLt_lt {d : Addr} : ∀ {l : List (Addr × Obj)}, AllLt d l → ∀ q ∈ l, q.1 < d
  | [], _, _, h => nomatch h
  | _ :: _, x, q, h => by
    rcases List.mem_cons.mp h with rfl | h
    · exact x.1
    · exact allLt_lt x.2 q h
section
local macro_rules | `(tactic| k_all) => `(tactic| assumption)
local macro_rules | `(tactic| k_units) => `(tactic| ktr_units)
local macro_rules | `(tactic| k_mem) => `(tactic| (repeat (first | assumption | exact List.Mem.head _ | refine List.Mem.tail _ ?_)))
local macro_rules | `(tactic| k_ne) => `(tactic| (refine NeF.out ?_; assumption))
local macro_rules | `(tactic| walk_at "CompSrc") => `(tactic| (k_here; k_dflt (refine srcR (by rfl) (by k_asm) (by k_asm) (by assumption) ?_; intro g'; lcg_lit)))

theorem back {w : World} {lg : Addr} {lv : List Value} {en : Nat} {log : List Ent} {rest news : List (Addr × Obj)} (hlog : LogIn rest lv log) (hall : ∀ e ∈ log, EntOk e)
    (hsub : ∀ p ∈ (lg, listOf lv.toArray en) :: rest, p ∈ news) :
    MakeOk w 24 128 [.ref lg] news (fun r new => ∃ D Q0 Q1 Q2 Q3 e, r = .ref D ∧ new = [(D, listOf #[.ref Q0.a, .ref Q1.a, .ref Q2.a, .ref Q3.a] e), rowP Q0, rowP Q1, rowP Q2, rowP Q3] ∧ Four.map Rw.row (Q0, Q1, Q2, Q3) = backs log) := by
  have hK : (hd.heap_39, PySem.Challenge.rw_mr0075_01) = (hd.heap_39, PySem.Challenge.rw_mr0075_01) := by k_fill; rfl
  clear hK
  intro dp un gd cn cs a ccd cl outer A₀ base h₀ L m s p loose mean mg mb Q E B F X N T hk hd hu hret
  refine wpAny_call ?_
  k_dflt (refine' code_defCF ?k1 ?k2 ?k3 ?k4 hsub ?k5 ?kA ?kF ?kK ?k6 ?k7 ?k8 ?k9 ?kB ?kD ?_ ?c2 ?c3 ?c4; (case kA => exact rfl); (case kF => exact rfl); (case kK => assumption); (case k1 => k_asm); (case k2 => k_asm); (case k3 => k_asm); (case k4 => k_asm); (case k5 => k_asm); (case k6 => k_is); (case k7 => k_is); (case k8 => ktr_room); (case k9 => exact BindsTo.of_eq rfl); (case kB => exact rfl); (case kD => decide +kernel); (case c2 => exact rfl); (case c3 => exact rfl); (case c4 => exact rfl); k_whole)
  intro g' L' h' tk' cells' FG' F' N' Y' B' X' T' l1 S'
  (try k_lt l1); k_cells Y'; (try simp only [List.cons_append, List.nil_append] at N'); (try dsimp only); (try k_fold)
  repeat' (first | (k_unfold; (try dsimp only [List.nil_append, List.cons_append])) | (k_end; wrow_close) | ((fail_if_success (with_reducible show wpAny _ _ (pyIter (Value.ref _)) _ _ _)); first | ((first | ((with_reducible show wpAny _ _ (call (Value.ref _) _) _ _ _); first | (k_here; (with_reducible show wpAny _ _ (call (Value.ref 148) _) _ _ _); k_dflt (refine' CallOk.use (unitsX ) ?kB ?kF ?kX ?kN ?kT ?kk ?kd ?ku ?_; (case kN => k_asm); (case kB => k_asm); (case kF => k_asm); (case kX => k_asm); (case kT => k_asm); (case kk => exact rfl); (case kd => ktr_room); (case ku => ktr_units); k_whole); intro r9_w n9_w h9_w tk9_w F9_w N9_w P9_w; obtain ⟨D9_w, Q90_w, Q91_w, Q92_w, Q93_w, e9_w, P6_w, P5_w, P4_w, P3_w, P2_w, P1_w, P0_w, P7_w⟩ := P9_w; subst P6_w; subst P5_w; (try k_sweep); (try dsimp only))) | ((with_reducible show wpAny _ _ (setItem (Value.ref _) (Value.int _ _) _) _ _ _); (k_here; k_dflt (refine' setL ?F ?N ?U ?a ?b ?c ?_; (case F => k_asm); (case N => k_asm); (case U => k_upd); (case a => assumption); (case b => assumption); (case c => assumption); k_whole); intro h_wp F_wp N_wp; (try k_sweep))) | ((with_reducible show wpAny _ _ (binaryOp Operator.Mult (Value.int _ _) (Value.int _ _)) _ _ _); (refine PyProof.Rows.mul_int ?_ (IntMulOk.of_left (by assumption)))) | (k_here; (with_reducible show wpAny _ _ (subscriptTail _ _ (Value.ref _) (Value.int _ _)) _ _ _); (with_unfolding_all refine' item_led ?N ?m ?a ?b ?x ?_ ?z; (case N => k_dflt k_asm); (case m => k_dflt k_mem); (case a => k_dflt (first | assumption | decide)); (case b => k_dflt (first | assumption | decide)); (case x => k_dflt (first | exact g4_0 (by decide) | exact g4_1 (by decide) | exact g4_2 (by decide) | exact g4_3 (by decide) | assumption)); (case z => with_unfolding_all rfl); k_whole)) | (k_here; (with_reducible show wpAny _ _ (subscriptTail _ _ (Value.ref _) (Value.int _ _)) _ _ _); (with_unfolding_all refine' item_led ?N ?m ?a ?b ?x ?_ ?z; (case N => k_dflt k_asm); (case m => k_dflt k_mem); (case a => k_dflt (first | assumption | decide)); (case b => k_dflt (first | assumption | decide)); (case x => k_dflt (first | exact g4_0 (by decide) | exact g4_1 (by decide) | exact g4_2 (by decide) | exact g4_3 (by decide) | assumption)); (case z => with_unfolding_all rfl); k_whole)) | (k_here; (with_reducible show wpAny _ _ (subscriptTail _ _ (Value.ref _) (Value.int _ _)) _ _ _); (with_unfolding_all refine' item_led ?N ?m ?a ?b ?x ?_ ?z; (case N => k_dflt k_asm); (case m => k_dflt k_mem); (case a => k_dflt (first | assumption | decide)); (case b => k_dflt (first | assumption | decide)); (case x => k_dflt (first | exact g4_0 (by decide) | exact g4_1 (by decide) | exact g4_2 (by decide) | exact g4_3 (by decide) | assumption)); (case z => with_unfolding_all rfl); k_whole)) | ((with_reducible show LCg.CompEnd _ _ _ _ _ _ _ _ _ _ _ _ _ _); (refine' compEnd0 ?F ?N ?O ?S ?_; (case N => assumption); (case F => assumption); (case O => assumption); (case S => lcg_src))) | ((with_reducible show LCg.CompRest _ _ _ _ _ _ _ _ _ _ _ _ _ _ _ _ _ _ _); (with_unfolding_all first | (refine LCg.CompRest.succ ?_; intro v_wp I_wp oI_wp C_wp oC_wp D_wp m_wp h_wp tk_wp E_wp hv_wp hC_wp hx_wp F_wp N_wp off_wp ne_wp; clear ne_wp; (first | lcg_open hv_wp | (obtain ⟨t9_wp, hv9_wp⟩ := hv_wp; subst hv9_wp))) | refine LCg.CompRest.zero ?_)) | ((with_reducible show wpAny _ _ (eval (Expr.ListComp _ _ _ _) _) _ _ _); (k_here; k_dflt (refine LCg.ListComp_U (F₀ := by k_asm) (by with_unfolding_all rfl) (by decide) (by rfl) (by decide) (by rfl) ?_); k_dflt lcg_toSrc))); try k_fold) | (walk1; try k_fold) | (dsimp only; walk1; try k_fold)) | (leave1; (try dsimp only)))
  rename ∀ p ∈ _, _ ∧ _ ∧ _ ∧ _ ∧ _ => P7
  have x4 := P7 _ (.head _)
  have x3 := P7 _ (.tail _ (.head _))
  have x2 := P7 _ (.tail _ (.tail _ (.head _)))
  have x1 := P7 _ (.tail _ (.tail _ (.tail _ (.head _))))
  have xlg := P7 _ (.tail _ (.tail _ (.tail _ (.tail _ (.head _)))))
  have xr := fun p hp => P7 p (.tail _ (.tail _ (.tail _ (.tail _ (.tail _ hp)))))
  have x10 := x1.1
  have x11 := x1.2.1
  have x12 := x1.2.2.1
  have x13 := x1.2.2.2.1
  have x14 := x1.2.2.2.2
  have x20 := x2.1
  have x21 := x2.2.1
  have x22 := x2.2.2.1
  have x23 := x2.2.2.2.1
  have x24 := x2.2.2.2.2
  have x30 := x3.1
  have x31 := x3.2.1
  have x32 := x3.2.2.1
  have x33 := x3.2.2.2.1
  have x34 := x3.2.2.2.2
  have x40 := x4.1
  have x41 := x4.2.1
  have x42 := x4.2.2.1
  have x43 := x4.2.2.2.1
  have x44 := x4.2.2.2.2
  have x10s := x10.symm
  have x11s := x11.symm
  have x12s := x12.symm
  have x13s := x13.symm
  have x14s := x14.symm
  have c41' : NeF (L' + 1 + 1 + 1 + 1) (L' + 1) := by unfold NeF; omega
  have c31' : NeF (L' + 1 + 1 + 1) (L' + 1) := by unfold NeF; omega
  have c21' : NeF (L' + 1 + 1) (L' + 1) := by unfold NeF; omega
  have zl1 : NeF lg (L' + 1) := Nat.ne_of_lt (by omega)
  have y1 : ∀ p ∈ rest, p.1 ≠ L' + 1 := fun p hp => Nat.ne_of_lt (Nat.lt_succ_of_lt (allLt_lt l1.2 p hp))
  have y2 : ∀ p ∈ rest, p.1 ≠ L' + 1 + 1 := fun p hp => Nat.ne_of_lt (Nat.lt_succ_of_lt (Nat.lt_succ_of_lt (allLt_lt l1.2 p hp)))
  have y3 : ∀ p ∈ rest, p.1 ≠ L' + 1 + 1 + 1 := fun p hp => Nat.ne_of_lt (Nat.lt_succ_of_lt (Nat.lt_succ_of_lt (Nat.lt_succ_of_lt (allLt_lt l1.2 p hp))))
  have y4 : ∀ p ∈ rest, p.1 ≠ L' + 1 + 1 + 1 + 1 := fun p hp => Nat.ne_of_lt (Nat.lt_succ_of_lt (Nat.lt_succ_of_lt (Nat.lt_succ_of_lt (Nat.lt_succ_of_lt (allLt_lt l1.2 p hp)))))
  repeat' (first | (k_unfold; (try dsimp only [List.nil_append, List.cons_append])) | (k_end; wrow_close) | ((fail_if_success (with_reducible show wpAny _ _ (pyIter (Value.ref _)) _ _ _)); first | ((first | ((with_reducible show wpAny _ _ (call (Value.ref _) _) _ _ _); first | (k_here; (with_reducible show wpAny _ _ (call (Value.ref 148) _) _ _ _); k_dflt (refine' CallOk.use (unitsX ) ?kB ?kF ?kX ?kN ?kT ?kk ?kd ?ku ?_; (case kN => k_asm); (case kB => k_asm); (case kF => k_asm); (case kX => k_asm); (case kT => k_asm); (case kk => exact rfl); (case kd => ktr_room); (case ku => ktr_units); k_whole); intro r9_w n9_w h9_w tk9_w F9_w N9_w P9_w; obtain ⟨D9_w, Q90_w, Q91_w, Q92_w, Q93_w, e9_w, P6_w, P5_w, P4_w, P3_w, P2_w, P1_w, P0_w, P7_w⟩ := P9_w; subst P6_w; subst P5_w; (try k_sweep); (try dsimp only))) | ((with_reducible show wpAny _ _ (setItem (Value.ref _) (Value.int _ _) _) _ _ _); (k_here; k_dflt (refine' setL ?F ?N ?U ?a ?b ?c ?_; (case F => k_asm); (case N => k_asm); (case U => k_upd); (case a => assumption); (case b => assumption); (case c => assumption); k_whole); intro h_wp F_wp N_wp; (try k_sweep))) | ((with_reducible show wpAny _ _ (binaryOp Operator.Mult (Value.int _ _) (Value.int _ _)) _ _ _); (refine PyProof.Rows.mul_int ?_ (IntMulOk.of_left (by assumption)))) | (k_here; (with_reducible show wpAny _ _ (subscriptTail _ _ (Value.ref _) (Value.int _ _)) _ _ _); (with_unfolding_all refine' item_led ?N ?m ?a ?b ?x ?_ ?z; (case N => k_dflt k_asm); (case m => k_dflt k_mem); (case a => k_dflt (first | assumption | decide)); (case b => k_dflt (first | assumption | decide)); (case x => k_dflt (first | exact g4_0 (by decide) | exact g4_1 (by decide) | exact g4_2 (by decide) | exact g4_3 (by decide) | assumption)); (case z => with_unfolding_all rfl); k_whole)) | (k_here; (with_reducible show wpAny _ _ (subscriptTail _ _ (Value.ref _) (Value.int _ _)) _ _ _); (with_unfolding_all refine' item_led ?N ?m ?a ?b ?x ?_ ?z; (case N => k_dflt k_asm); (case m => k_dflt k_mem); (case a => k_dflt (first | assumption | decide)); (case b => k_dflt (first | assumption | decide)); (case x => k_dflt (first | exact g4_0 (by decide) | exact g4_1 (by decide) | exact g4_2 (by decide) | exact g4_3 (by decide) | assumption)); (case z => with_unfolding_all rfl); k_whole)) | (k_here; (with_reducible show wpAny _ _ (subscriptTail _ _ (Value.ref _) (Value.int _ _)) _ _ _); (with_unfolding_all refine' item_led ?N ?m ?a ?b ?x ?_ ?z; (case N => k_dflt k_asm); (case m => k_dflt k_mem); (case a => k_dflt (first | assumption | decide)); (case b => k_dflt (first | assumption | decide)); (case x => k_dflt (first | exact g4_0 (by decide) | exact g4_1 (by decide) | exact g4_2 (by decide) | exact g4_3 (by decide) | assumption)); (case z => with_unfolding_all rfl); k_whole)) | ((with_reducible show LCg.CompEnd _ _ _ _ _ _ _ _ _ _ _ _ _ _); (refine' compEnd0 ?F ?N ?O ?S ?_; (case N => assumption); (case F => assumption); (case O => assumption); (case S => lcg_src))) | ((with_reducible show LCg.CompRest _ _ _ _ _ _ _ _ _ _ _ _ _ _ _ _ _ _ _); (with_unfolding_all first | (refine LCg.CompRest.succ ?_; intro v_wp I_wp oI_wp C_wp oC_wp D_wp m_wp h_wp tk_wp E_wp hv_wp hC_wp hx_wp F_wp N_wp off_wp ne_wp; clear ne_wp; (first | lcg_open hv_wp | (obtain ⟨t9_wp, hv9_wp⟩ := hv_wp; subst hv9_wp))) | refine LCg.CompRest.zero ?_)) | ((with_reducible show wpAny _ _ (eval (Expr.ListComp _ _ _ _) _) _ _ _); (k_here; k_dflt (refine LCg.ListComp_U (F₀ := by k_asm) (by with_unfolding_all rfl) (by decide) (by rfl) (by decide) (by rfl) ?_); k_dflt lcg_toSrc))); try k_fold) | (walk1; try k_fold) | (dsimp only; walk1; try k_fold)) | (leave1; (try dsimp only)))
  k_here
  k_dflt (refine For_invTF (by k_asm) ?_ (by intro _; rfl))
  repeat' (first | (k_unfold; (try dsimp only [List.nil_append, List.cons_append])) | (k_end; wrow_close) | ((fail_if_success (with_reducible show wpAny _ _ (pyIter (Value.ref _)) _ _ _)); first | ((first | ((with_reducible show wpAny _ _ (call (Value.ref _) _) _ _ _); first | (k_here; (with_reducible show wpAny _ _ (call (Value.ref 148) _) _ _ _); k_dflt (refine' CallOk.use (unitsX ) ?kB ?kF ?kX ?kN ?kT ?kk ?kd ?ku ?_; (case kN => k_asm); (case kB => k_asm); (case kF => k_asm); (case kX => k_asm); (case kT => k_asm); (case kk => exact rfl); (case kd => ktr_room); (case ku => ktr_units); k_whole); intro r9_w n9_w h9_w tk9_w F9_w N9_w P9_w; obtain ⟨D9_w, Q90_w, Q91_w, Q92_w, Q93_w, e9_w, P6_w, P5_w, P4_w, P3_w, P2_w, P1_w, P0_w, P7_w⟩ := P9_w; subst P6_w; subst P5_w; (try k_sweep); (try dsimp only))) | ((with_reducible show wpAny _ _ (setItem (Value.ref _) (Value.int _ _) _) _ _ _); (k_here; k_dflt (refine' setL ?F ?N ?U ?a ?b ?c ?_; (case F => k_asm); (case N => k_asm); (case U => k_upd); (case a => assumption); (case b => assumption); (case c => assumption); k_whole); intro h_wp F_wp N_wp; (try k_sweep))) | ((with_reducible show wpAny _ _ (binaryOp Operator.Mult (Value.int _ _) (Value.int _ _)) _ _ _); (refine PyProof.Rows.mul_int ?_ (IntMulOk.of_left (by assumption)))) | (k_here; (with_reducible show wpAny _ _ (subscriptTail _ _ (Value.ref _) (Value.int _ _)) _ _ _); (with_unfolding_all refine' item_led ?N ?m ?a ?b ?x ?_ ?z; (case N => k_dflt k_asm); (case m => k_dflt k_mem); (case a => k_dflt (first | assumption | decide)); (case b => k_dflt (first | assumption | decide)); (case x => k_dflt (first | exact g4_0 (by decide) | exact g4_1 (by decide) | exact g4_2 (by decide) | exact g4_3 (by decide) | assumption)); (case z => with_unfolding_all rfl); k_whole)) | (k_here; (with_reducible show wpAny _ _ (subscriptTail _ _ (Value.ref _) (Value.int _ _)) _ _ _); (with_unfolding_all refine' item_led ?N ?m ?a ?b ?x ?_ ?z; (case N => k_dflt k_asm); (case m => k_dflt k_mem); (case a => k_dflt (first | assumption | decide)); (case b => k_dflt (first | assumption | decide)); (case x => k_dflt (first | exact g4_0 (by decide) | exact g4_1 (by decide) | exact g4_2 (by decide) | exact g4_3 (by decide) | assumption)); (case z => with_unfolding_all rfl); k_whole)) | (k_here; (with_reducible show wpAny _ _ (subscriptTail _ _ (Value.ref _) (Value.int _ _)) _ _ _); (with_unfolding_all refine' item_led ?N ?m ?a ?b ?x ?_ ?z; (case N => k_dflt k_asm); (case m => k_dflt k_mem); (case a => k_dflt (first | assumption | decide)); (case b => k_dflt (first | assumption | decide)); (case x => k_dflt (first | exact g4_0 (by decide) | exact g4_1 (by decide) | exact g4_2 (by decide) | exact g4_3 (by decide) | assumption)); (case z => with_unfolding_all rfl); k_whole)) | ((with_reducible show LCg.CompEnd _ _ _ _ _ _ _ _ _ _ _ _ _ _); (refine' compEnd0 ?F ?N ?O ?S ?_; (case N => assumption); (case F => assumption); (case O => assumption); (case S => lcg_src))) | ((with_reducible show LCg.CompRest _ _ _ _ _ _ _ _ _ _ _ _ _ _ _ _ _ _ _); (with_unfolding_all first | (refine LCg.CompRest.succ ?_; intro v_wp I_wp oI_wp C_wp oC_wp D_wp m_wp h_wp tk_wp E_wp hv_wp hC_wp hx_wp F_wp N_wp off_wp ne_wp; clear ne_wp; (first | lcg_open hv_wp | (obtain ⟨t9_wp, hv9_wp⟩ := hv_wp; subst hv9_wp))) | refine LCg.CompRest.zero ?_)) | ((with_reducible show wpAny _ _ (eval (Expr.ListComp _ _ _ _) _) _ _ _); (k_here; k_dflt (refine LCg.ListComp_U (F₀ := by k_asm) (by with_unfolding_all rfl) (by decide) (by rfl) (by decide) (by rfl) ?_); k_dflt lcg_toSrc))); try k_fold) | (walk1; try k_fold) | (dsimp only; walk1; try k_fold)) | (leave1; (try dsimp only)))
  rename _ ∧ _ ∧ _ ∧ _ ∧ _ ∧ _ ∧ _ ∧ _ ∧ _ ∧ _ ∧ AllLt _ rest => lD
  rename NeF _ _ ∧ NeF _ _ ∧ NeF _ _ ∧ NeF _ _ => P0
  rename Rw.row _ = (1, 0, 0, 0) => w0
  rename Rw.row _ = (0, 1, 0, 0) => w1
  rename Rw.row _ = (0, 0, 1, 0) => w2
  rename Rw.row _ = (0, 0, 0, 1) => w3
  rename News g' L' _ _ => kN
  have hlen := hlog.len
  have c21 : NeF (L' + 1 + 1) (L' + 1) := by unfold NeF; omega
  have c31 : NeF (L' + 1 + 1 + 1) (L' + 1) := by unfold NeF; omega
  have c41 : NeF (L' + 1 + 1 + 1 + 1) (L' + 1) := by unfold NeF; omega
  have c32 : NeF (L' + 1 + 1 + 1) (L' + 1 + 1) := by unfold NeF; omega
  have c42 : NeF (L' + 1 + 1 + 1 + 1) (L' + 1 + 1) := by unfold NeF; omega
  have c43 : NeF (L' + 1 + 1 + 1 + 1) (L' + 1 + 1 + 1) := by unfold NeF; omega
  have c12 := c21.symm
  have c13 := c31.symm
  have c14 := c41.symm
  have c23 := c32.symm
  have c24 := c42.symm
  have c34 := c43.symm
  have z2 : NeF lg (L' + 1 + 1) := Nat.ne_of_lt (by omega)
  have z3 : NeF lg (L' + 1 + 1 + 1) := Nat.ne_of_lt (by omega)
  have z4 : NeF lg (L' + 1 + 1 + 1 + 1) := Nat.ne_of_lt (by omega)
  have zD := xlg.1
  have yD : ∀ p ∈ rest, NeF p.1 _ := fun p hp => (xr p hp).1
  have x20s := x20.symm
  have x30s := x30.symm
  have x40s := x40.symm
  k_dflt (refine iter_revT (en := en) [Str.ofString "number"] (JB log _ L' _ ((lg, listOf lv.toArray en) :: rest)) rfl (by k_asm) (fun p hp => kN p (permB p hp)) (fun p hp => allLt_ne (by exact lD) p (permB' p hp)) ⟨_, _, _, _, _, _, (_, _, _, _), _, rfl, by assumption, by assumption, by assumption, ⟨⟨P0.1, x11.symm, x21.symm, x31.symm, x41.symm, List.forall_mem_cons.mpr ⟨xlg.2.1, fun p hp => (xr p hp).2.1⟩⟩, ⟨P0.2.1, x12.symm, x22.symm, x32.symm, x42.symm, List.forall_mem_cons.mpr ⟨xlg.2.2.1, fun p hp => (xr p hp).2.2.1⟩⟩, ⟨P0.2.2.1, x13.symm, x23.symm, x33.symm, x43.symm, List.forall_mem_cons.mpr ⟨xlg.2.2.2.1, fun p hp => (xr p hp).2.2.2.1⟩⟩, ⟨P0.2.2.2, x14.symm, x24.symm, x34.symm, x44.symm, List.forall_mem_cons.mpr ⟨xlg.2.2.2.2, fun p hp => (xr p hp).2.2.2.2⟩⟩⟩, ?hX⟩ ?hJl ?turn ?done)
  case hX =>
    show (_, _, _, _) = _
    rw [w0, w1, w2, w3, Nat.sub_zero, List.drop_length]
    rfl
  case hJl =>
    rintro i l ⟨o1, o2, o3, v1, v2, v3, Q, e, rfl, _⟩
    exact List.mem_append_right [_, _, _, _, _, _, _, _, _] (.head _)
  case turn =>
    clear kN P0 xlg w0 w1 w2 w3 lD x11 x12 x13 x14 x21 x22 x23 x24 x31 x32 x33 x34 x41 x42 x43 x44
    intro i v u news₁ sg h tk o hi hv hJ hI F2 N2
    (try k_fold)
    obtain ⟨o1, o2, o3, v1, v2, v3, ⟨Q0, Q1, Q2, Q3⟩, e, rfl, hJ⟩ := hJ
    have e1 := hJ.1
    have e2 := hJ.2.1
    have e3 := hJ.2.2.1
    have qs := hJ.2.2.2.1
    have hX := hJ.2.2.2.2
    have q0 := qs.1
    have q1 := qs.2.1
    have q2 := qs.2.2.1
    have q3 := qs.2.2.2
    obtain ⟨⟨n1, n2, n3, n4⟩, hen, a', t1, t2, t3, t4, z, rfl, hm⟩ := hlog.at _ _ hv
    dsimp only at hm N2 hI q0 q1 q2 q3
    rw [hlen] at hen
    have hok := hall _ (List.mem_of_getElem? hen)
    have p0 : 0 ≤ n2 := hok.1.1
    have p1 : n2 < 4 := hok.1.2
    have r0 : 0 ≤ n3 := hok.2.1.1
    have r1 : n3 < 4 := hok.2.1.2
    have hz := hok.2.2
    dsimp only at hz
    have p2 : n2 < 2 ^ 63 := by omega
    have r2 : n3 < 2 ^ 63 := by omega
    have p3 : n2 < (([.ref Q0.a, .ref Q1.a, .ref Q2.a, .ref Q3.a] : List Value).length : Int) := p1
    have hP := at4_get (Q0 := Q0) (Q1 := Q1) (Q2 := Q2) (Q3 := Q3) (k := n2) ⟨p0, p1⟩
    have hO := at4_get (Q0 := Q0) (Q1 := Q1) (Q2 := Q2) (Q3 := Q3) (k := n3) ⟨r0, r1⟩
    have N2 := News.two N2 (rowAt (Q0 := Q0) (Q1 := Q1) (Q2 := Q2) (Q3 := Q3) (core := (lg, listOf lv.toArray en) :: rest) n2.toNat) (rowAt (Q0 := Q0) (Q1 := Q1) (Q2 := Q2) (Q3 := Q3) (core := (lg, listOf lv.toArray en) :: rest) n3.toNat)
    have uu : RowOff _ L' ((lg, listOf lv.toArray en) :: rest) (at4' (Q0, Q1, Q2, Q3) n2.toNat) := pick_all q0 q1 q2 q3 n2.toNat
    have u0 := uu.1
    have u1 := uu.2.1
    have u2 := uu.2.2.1
    have u3 := uu.2.2.2.1
    have u4 := uu.2.2.2.2.1
    have gg : RowOff _ L' ((lg, listOf lv.toArray en) :: rest) (at4' (Q0, Q1, Q2, Q3) n3.toNat) := pick_all q0 q1 q2 q3 n3.toNat
    have g0 := gg.1
    have g1 := gg.2.1
    have g2 := gg.2.2.1
    have g3 := gg.2.2.2.1
    have g4 := gg.2.2.2.2.1
    have q00 := q0.1
    have q01 := q0.2.1
    have q02 := q0.2.2.1
    have q03 := q0.2.2.2.1
    have q04 := q0.2.2.2.2.1
    have q10 := q1.1
    have q11 := q1.2.1
    have q12 := q1.2.2.1
    have q13 := q1.2.2.2.1
    have q14 := q1.2.2.2.2.1
    have q20 := q2.1
    have q21 := q2.2.1
    have q22 := q2.2.2.1
    have q23 := q2.2.2.2.1
    have q24 := q2.2.2.2.2.1
    have q30 := q3.1
    have q31 := q3.2.1
    have q32 := q3.2.2.1
    have q33 := q3.2.2.2.1
    have q34 := q3.2.2.2.2.1
    have i0 := hI _ (.head _)
    have i4 := hI _ (.tail _ (.head _))
    have i3 := hI _ (.tail _ (.tail _ (.head _)))
    have i2 := hI _ (.tail _ (.tail _ (.tail _ (.head _))))
    have i1 := hI _ (.tail _ (.tail _ (.tail _ (.tail _ (.head _)))))
    have j0 := hI _ (.tail _ (.tail _ (.tail _ (.tail _ (.tail _ (.head _))))))
    have j1 := hI _ (.tail _ (.tail _ (.tail _ (.tail _ (.tail _ (.tail _ (.head _)))))))
    have j2 := hI _ (.tail _ (.tail _ (.tail _ (.tail _ (.tail _ (.tail _ (.tail _ (.head _))))))))
    have j3 := hI _ (.tail _ (.tail _ (.tail _ (.tail _ (.tail _ (.tail _ (.tail _ (.tail _ (.head _)))))))))
    have jl := hI _ (.tail _ (.tail _ (.tail _ (.tail _ (.tail _ (.tail _ (.tail _ (.tail _ (.tail _ (.head _))))))))))
    have jr := fun p hp => hI p (List.mem_append_right [_, _, _, _, _, _, _, _, _, _] hp)
    have i0s : NeF _ _ := Ne.symm i0
    have i4s : NeF _ _ := Ne.symm i4
    have i3s : NeF _ _ := Ne.symm i3
    have i2s : NeF _ _ := Ne.symm i2
    have hpk := And.intro hen (And.intro hok (And.intro hX (And.intro i0 (And.intro i4 (And.intro i3 (And.intro i2 (And.intro i1 (And.intro j0 (And.intro j1 (And.intro j2 (And.intro j3 (And.intro jl jr))))))))))))
    have hqk : Four.All (RowOff _ L' ((lg, listOf lv.toArray en) :: rest)) (Q0, Q1, Q2, Q3) := ⟨q0, q1, q2, q3⟩
    generalize hPe : at4' (Q0, Q1, Q2, Q3) n2.toNat = P at *
    generalize hOe : at4' (Q0, Q1, Q2, Q3) n3.toNat = O at *
    have hpo := And.intro hPe hOe
    clear hPe hOe uu gg qs hJ hen hok hX i0 i4 i3 i2 i1 j0 j1 j2 j3 jl jr q0 q1 q2 q3 hI hv
    repeat' (first | (k_unfold; (try dsimp only [List.nil_append, List.cons_append])) | (k_end; wrow_close) | ((first | ((with_reducible show wpAny _ _ (call (Value.ref _) _) _ _ _); first | (k_here; (with_reducible show wpAny _ _ (call (Value.ref 148) _) _ _ _); k_dflt (refine' CallOk.use (unitsX ) ?kB ?kF ?kX ?kN ?kT ?kk ?kd ?ku ?_; (case kN => k_asm); (case kB => k_asm); (case kF => k_asm); (case kX => k_asm); (case kT => k_asm); (case kk => exact rfl); (case kd => ktr_room); (case ku => ktr_units); k_whole); intro r9_w n9_w h9_w tk9_w F9_w N9_w P9_w; obtain ⟨D9_w, Q90_w, Q91_w, Q92_w, Q93_w, e9_w, P6_w, P5_w, P4_w, P3_w, P2_w, P1_w, P0_w, P7_w⟩ := P9_w; subst P6_w; subst P5_w; (try k_sweep); (try dsimp only))) | ((with_reducible show wpAny _ _ (setItem (Value.ref _) (Value.int _ _) _) _ _ _); (k_here; k_dflt (refine' setL ?F ?N ?U ?a ?b ?c ?_; (case F => k_asm); (case N => k_asm); (case U => k_upd); (case a => assumption); (case b => assumption); (case c => assumption); k_whole); intro h_wp F_wp N_wp; (try k_sweep))) | ((with_reducible show wpAny _ _ (binaryOp Operator.Mult (Value.int _ _) (Value.int _ _)) _ _ _); (refine PyProof.Rows.mul_int ?_ (IntMulOk.of_left (by assumption)))) | ((with_reducible show wpAny _ _ (eval (Expr.ListComp _ _ _ _) _) _ _ _); (k_here; k_dflt (refine LCg.ListComp_U (F₀ := by k_asm) (by with_unfolding_all rfl) (by decide) (by rfl) (by decide) (by rfl) ?_); k_dflt lcg_toSrc))); try k_fold) | ((fail_if_success (with_reducible show LCg.CompRest _ _ _ _ _ _ _ _ _ _ _ _ _ _ _ _ _ _ _)); first | (walk1; try k_fold) | (dsimp only; walk1; try k_fold)) | (leave1; (try dsimp only)))
    refine comp_turns (JC (fun j => P.at j + n4 * O.at j) _) JC.zero ?inner ?made
    case inner =>
      intro j zs led2 hj hJ2 v2 I2 oI2 CC2 oC2 DD2 m₂ h2 tk2 E2 hv2 hC2 hx2 F3 N3z off3 ne3
      clear ne3
      have e := hJ2.1
      subst e
      obtain ⟨t9, rfl⟩ := hv2
      repeat' (first | (k_unfold; (try dsimp only [List.nil_append, List.cons_append])) | (k_end; wrow_close) | ((first | ((with_reducible show wpAny _ _ (call (Value.ref _) _) _ _ _); first | (k_here; (with_reducible show wpAny _ _ (call (Value.ref 148) _) _ _ _); k_dflt (refine' CallOk.use (unitsX ) ?kB ?kF ?kX ?kN ?kT ?kk ?kd ?ku ?_; (case kN => k_asm); (case kB => k_asm); (case kF => k_asm); (case kX => k_asm); (case kT => k_asm); (case kk => exact rfl); (case kd => ktr_room); (case ku => ktr_units); k_whole); intro r9_w n9_w h9_w tk9_w F9_w N9_w P9_w; obtain ⟨D9_w, Q90_w, Q91_w, Q92_w, Q93_w, e9_w, P6_w, P5_w, P4_w, P3_w, P2_w, P1_w, P0_w, P7_w⟩ := P9_w; subst P6_w; subst P5_w; (try k_sweep); (try dsimp only))) | ((with_reducible show wpAny _ _ (setItem (Value.ref _) (Value.int _ _) _) _ _ _); (k_here; k_dflt (refine' setL ?F ?N ?U ?a ?b ?c ?_; (case F => k_asm); (case N => k_asm); (case U => k_upd); (case a => assumption); (case b => assumption); (case c => assumption); k_whole); intro h_wp F_wp N_wp; (try k_sweep))) | ((with_reducible show wpAny _ _ (binaryOp Operator.Mult (Value.int _ _) (Value.int _ _)) _ _ _); (refine PyProof.Rows.mul_int ?_ (IntMulOk.of_left (by assumption)))) | ((with_reducible show wpAny _ _ (eval (Expr.ListComp _ _ _ _) _) _ _ _); (k_here; k_dflt (refine LCg.ListComp_U (F₀ := by k_asm) (by with_unfolding_all rfl) (by decide) (by rfl) (by decide) (by rfl) ?_); k_dflt lcg_toSrc)) | ((with_reducible show wpAny _ _ (subscriptTail _ _ (Value.ref _) (Value.int (0 + _) _)) _ _ _); (with_unfolding_all refine' item_led ?N ?m ?a ?b ?x ?_ ?z; (case N => k_dflt k_asm); (case m => k_dflt k_mem); (case a => k_dflt (exact i4_lo)); (case b => k_dflt (exact i4_hi hj)); (case x => k_dflt (exact its4i hj)); (case z => with_unfolding_all rfl); k_whole)) | ((with_reducible show wpAny _ _ (subscriptTail _ _ (Value.ref _) (Value.int _ _)) _ _ _); (with_unfolding_all refine' item_led ?N ?m ?a ?b ?x ?_ ?z; (case N => k_dflt k_asm); (case m => k_dflt k_mem); (case a => k_dflt assumption); (case b => k_dflt assumption); (case x => k_dflt assumption); (case z => with_unfolding_all rfl); k_whole))); try k_fold) | ((fail_if_success (with_reducible show LCg.CompEnd _ _ _ _ _ _ _ _ _ _ _ _ _ _)); first | (walk1; try k_fold) | (dsimp only; walk1; try k_fold)) | (leave1; (try dsimp only)))
      exact compEnd0 (by assumption) (by assumption) off3 trivial hJ2.next
    intro zs led2 hJ2
    obtain ⟨rfl, t0, t1, t2, t3, rfl⟩ := hJ2.four
    repeat' (first | (k_unfold; (try dsimp only [List.nil_append, List.cons_append])) | (k_end; wrow_close) | ((first | ((with_reducible show wpAny _ _ (call (Value.ref _) _) _ _ _); first | (k_here; (with_reducible show wpAny _ _ (call (Value.ref 148) _) _ _ _); k_dflt (refine' CallOk.use (unitsX ) ?kB ?kF ?kX ?kN ?kT ?kk ?kd ?ku ?_; (case kN => k_asm); (case kB => k_asm); (case kF => k_asm); (case kX => k_asm); (case kT => k_asm); (case kk => exact rfl); (case kd => ktr_room); (case ku => ktr_units); k_whole); intro r9_w n9_w h9_w tk9_w F9_w N9_w P9_w; obtain ⟨D9_w, Q90_w, Q91_w, Q92_w, Q93_w, e9_w, P6_w, P5_w, P4_w, P3_w, P2_w, P1_w, P0_w, P7_w⟩ := P9_w; subst P6_w; subst P5_w; (try k_sweep); (try dsimp only))) | ((with_reducible show wpAny _ _ (setItem (Value.ref _) (Value.int _ _) _) _ _ _); (k_here; k_dflt (refine' setL ?F ?N ?U ?a ?b ?c ?_; (case F => k_asm); (case N => k_asm); (case U => k_upd); (case a => assumption); (case b => assumption); (case c => assumption); k_whole); intro h_wp F_wp N_wp; (try k_sweep))) | ((with_reducible show wpAny _ _ (binaryOp Operator.Mult (Value.int _ _) (Value.int _ _)) _ _ _); (refine PyProof.Rows.mul_int ?_ (IntMulOk.of_left (by assumption)))) | ((with_reducible show wpAny _ _ (eval (Expr.ListComp _ _ _ _) _) _ _ _); (k_here; k_dflt (refine LCg.ListComp_U (F₀ := by k_asm) (by with_unfolding_all rfl) (by decide) (by rfl) (by decide) (by rfl) ?_); k_dflt lcg_toSrc))); try k_fold) | (walk1; try k_fold) | (dsimp only; walk1; try k_fold) | (leave1; (try dsimp only)))
    rename _ ∧ _ ∧ _ ∧ _ ∧ _ ∧ _ ∧ _ ∧ _ ∧ _ ∧ _ ∧ _ ∧ _ ∧ _ ∧ LCg.Off1 _ rest => o9
    have w0 := o9.1
    have w1 := o9.2.1
    have w2 := o9.2.2.1
    have w3 := o9.2.2.2.1
    have w4 := o9.2.2.2.2.1
    have w5 := o9.2.2.2.2.2.1
    have w6 := o9.2.2.2.2.2.2.2.2.2.2.2.2.1
    have w7 := o9.2.2.2.2.2.2.2.2.2.2.2.2.2
    have hen := hpk.1
    have hok := hpk.2.1
    have hX := hpk.2.2.1
    have i0 := hpk.2.2.2.1
    have i4 := hpk.2.2.2.2.1
    have i3 := hpk.2.2.2.2.2.1
    have i2 := hpk.2.2.2.2.2.2.1
    have i1 := hpk.2.2.2.2.2.2.2.1
    have j0 := hpk.2.2.2.2.2.2.2.2.1
    have j1 := hpk.2.2.2.2.2.2.2.2.2.1
    have j2 := hpk.2.2.2.2.2.2.2.2.2.2.1
    have j3 := hpk.2.2.2.2.2.2.2.2.2.2.2.1
    have jl := hpk.2.2.2.2.2.2.2.2.2.2.2.2.1
    have jr := hpk.2.2.2.2.2.2.2.2.2.2.2.2.2
    have hPe := hpo.1
    have hOe := hpo.2
    rename News g' _ _ _ => kN
    refine back_turn (by assumption) kN (hlen ▸ hi) hen hok (by assumption) (by assumption) (by assumption) hqk hX hPe hOe rfl ⟨Ne.symm w1, Ne.symm w5, Ne.symm w4, Ne.symm w3, Ne.symm w2, List.forall_mem_cons.mpr ⟨w6, off_of w7⟩⟩ (Ne.symm w0) ?_ ?_
    · exact List.forall_mem_cons.mpr ⟨i0, List.forall_mem_cons.mpr ⟨i4, List.forall_mem_cons.mpr ⟨i3, List.forall_mem_cons.mpr ⟨i2, List.forall_mem_cons.mpr ⟨i1, List.forall_mem_cons.mpr ⟨j0, List.forall_mem_cons.mpr ⟨j1, List.forall_mem_cons.mpr ⟨j2, List.forall_mem_cons.mpr ⟨j3, List.forall_mem_cons.mpr ⟨jl, jr⟩⟩⟩⟩⟩⟩⟩⟩⟩⟩
    · intro y h2
      have q0 : y ≠ Str.ofString "number" := by rintro rfl; revert h2; decide
      simp only [if_neg q0, h2, Bool.false_eq_true, if_false]
  case done =>
    intro u news₁ h tk hJ F2 N2
    obtain ⟨o1, o2, o3, v1, v2, v3, ⟨Q0, Q1, Q2, Q3⟩, e, rfl, hJ⟩ := hJ
    have e1 := hJ.1
    have e2 := hJ.2.1
    have e3 := hJ.2.2.1
    have qs := hJ.2.2.2.1
    have hX := hJ.2.2.2.2
    have q0 := qs.1
    have q1 := qs.2.1
    have q2 := qs.2.2.1
    have q3 := qs.2.2.2
    dsimp only at N2 q0 q1 q2 q3
    repeat' (first | (k_unfold; (try dsimp only [List.nil_append, List.cons_append])) | (k_end; wrow_close) | ((first | ((with_reducible show wpAny _ _ (call (Value.ref _) _) _ _ _); first | (k_here; (with_reducible show wpAny _ _ (call (Value.ref 148) _) _ _ _); k_dflt (refine' CallOk.use (unitsX ) ?kB ?kF ?kX ?kN ?kT ?kk ?kd ?ku ?_; (case kN => k_asm); (case kB => k_asm); (case kF => k_asm); (case kX => k_asm); (case kT => k_asm); (case kk => exact rfl); (case kd => ktr_room); (case ku => ktr_units); k_whole); intro r9_w n9_w h9_w tk9_w F9_w N9_w P9_w; obtain ⟨D9_w, Q90_w, Q91_w, Q92_w, Q93_w, e9_w, P6_w, P5_w, P4_w, P3_w, P2_w, P1_w, P0_w, P7_w⟩ := P9_w; subst P6_w; subst P5_w; (try k_sweep); (try dsimp only))) | ((with_reducible show wpAny _ _ (setItem (Value.ref _) (Value.int _ _) _) _ _ _); (k_here; k_dflt (refine' setL ?F ?N ?U ?a ?b ?c ?_; (case F => k_asm); (case N => k_asm); (case U => k_upd); (case a => assumption); (case b => assumption); (case c => assumption); k_whole); intro h_wp F_wp N_wp; (try k_sweep))) | ((with_reducible show wpAny _ _ (binaryOp Operator.Mult (Value.int _ _) (Value.int _ _)) _ _ _); (refine PyProof.Rows.mul_int ?_ (IntMulOk.of_left (by assumption)))) | (k_here; (with_reducible show wpAny _ _ (subscriptTail _ _ (Value.ref _) (Value.int _ _)) _ _ _); (with_unfolding_all refine' item_led ?N ?m ?a ?b ?x ?_ ?z; (case N => k_dflt k_asm); (case m => k_dflt k_mem); (case a => k_dflt (first | assumption | decide)); (case b => k_dflt (first | assumption | decide)); (case x => k_dflt (first | exact g4_0 (by decide) | exact g4_1 (by decide) | exact g4_2 (by decide) | exact g4_3 (by decide) | assumption)); (case z => with_unfolding_all rfl); k_whole)) | (k_here; (with_reducible show wpAny _ _ (subscriptTail _ _ (Value.ref _) (Value.int _ _)) _ _ _); (with_unfolding_all refine' item_led ?N ?m ?a ?b ?x ?_ ?z; (case N => k_dflt k_asm); (case m => k_dflt k_mem); (case a => k_dflt (first | assumption | decide)); (case b => k_dflt (first | assumption | decide)); (case x => k_dflt (first | exact g4_0 (by decide) | exact g4_1 (by decide) | exact g4_2 (by decide) | exact g4_3 (by decide) | assumption)); (case z => with_unfolding_all rfl); k_whole)) | (k_here; (with_reducible show wpAny _ _ (subscriptTail _ _ (Value.ref _) (Value.int _ _)) _ _ _); (with_unfolding_all refine' item_led ?N ?m ?a ?b ?x ?_ ?z; (case N => k_dflt k_asm); (case m => k_dflt k_mem); (case a => k_dflt (first | assumption | decide)); (case b => k_dflt (first | assumption | decide)); (case x => k_dflt (first | exact g4_0 (by decide) | exact g4_1 (by decide) | exact g4_2 (by decide) | exact g4_3 (by decide) | assumption)); (case z => with_unfolding_all rfl); k_whole)) | ((with_reducible show LCg.CompEnd _ _ _ _ _ _ _ _ _ _ _ _ _ _); (refine' compEnd0 ?F ?N ?O ?S ?_; (case N => assumption); (case F => assumption); (case O => assumption); (case S => lcg_src))) | ((with_reducible show LCg.CompRest _ _ _ _ _ _ _ _ _ _ _ _ _ _ _ _ _ _ _); (with_unfolding_all first | (refine LCg.CompRest.succ ?_; intro v_wp I_wp oI_wp C_wp oC_wp D_wp m_wp h_wp tk_wp E_wp hv_wp hC_wp hx_wp F_wp N_wp off_wp ne_wp; clear ne_wp; (first | lcg_open hv_wp | (obtain ⟨t9_wp, hv9_wp⟩ := hv_wp; subst hv9_wp))) | refine LCg.CompRest.zero ?_)) | ((with_reducible show wpAny _ _ (eval (Expr.ListComp _ _ _ _) _) _ _ _); (k_here; k_dflt (refine LCg.ListComp_U (F₀ := by k_asm) (by with_unfolding_all rfl) (by decide) (by rfl) (by decide) (by rfl) ?_); k_dflt lcg_toSrc))); try k_fold) | (walk1; try k_fold) | (dsimp only; walk1; try k_fold) | (leave1; (try dsimp only)))
    rename Fr h₀ _ _ _ => kF
    rename News h₀ _ _ _ => kN
    rename Fr g' L' _ _ => fF
    rename News g' L' _ _ => fN
    refine hret _ _ _ _ kF (back_all (new := [(_, listOf #[.ref Q0.a, .ref Q1.a, .ref Q2.a, .ref Q3.a] e), rowP Q0, rowP Q1, rowP Q2, rowP Q3]) N hsub S' fF kN subB (fun p hp => List.mem_append_right [_, _, _, _, _, _, _, _, _] hp)) ⟨_, rfl, apart_all N S' fN subB ?_, ⟨_, Q0, Q1, Q2, Q3, e, rfl, rfl, ?_⟩⟩
    · intro d hd
      simp only [List.mem_cons, List.not_mem_nil, or_false] at hd
      rcases hd with rfl | rfl | rfl | rfl | rfl
      · exact notin_of (List.forall_mem_cons.mpr ⟨zD, yD⟩)
      · exact notin_of q0.2.2.2.2.2
      · exact notin_of q1.2.2.2.2.2
      · exact notin_of q2.2.2.2.2.2
      · exact notin_of q3.2.2.2.2.2
    · rw [hX, hlen, Nat.sub_self]; rfl
end
end Mine

/-! # L19 -/
namespace Mine
theorem fresh_L19 : True := by
  w_top off
  exact True.intro

/-- a call of one of the text's defs that reads a list of the base -/
def CallOkL (w : World) (k : Nat) (f : Addr) (args : List Value) (news : List (Addr × Obj)) (sc : Addr) (vs : List Value) (Post : Value → List (Addr × Obj) → Prop) : Prop :=
  ∀ (dp un : Nat) (gd : Option (List Code)) (cn : Str) (cs : Scope) (a : Addr) (ccd : Value) (cl : List (Str × Addr)) (outer : List Env) (A₀ : Around) (base h₀ : Heap) (L : Addr) (m : Str → Option Value) (s : Shared)
    (p : Program) (loose : List Str) (mean : ExcName → Option Value) (mg mb : Str → Option Value) (Q E : Value → Shared → Prop),
    h₀.IsList sc vs.toArray → Below A₀ base outer h₀ → Fr h₀ L s.heap m → (hd.heap_39 w.params).In h₀ → News h₀ L s.heap news → Top p loose mean mg mb h₀ → cs.kind = .function → dp + k < recursionLimit → un + 8 * k + 100 < cLine →
    (∀ r news' h' tk', Fr h₀ L h' m → News h₀ L h' news' → Post r news' → Q r { s with heap := h', toks := tk' }) →
    wpAny (model PySem.Challenge.rw_mr0075_01.row.prog w) (ktrTop dp un gd cn cs L a ccd cl outer) (call (.ref f) args) Q E s
theorem CallOkL.use {w : World} {k : Nat} {f : Addr} {args : List Value} {news : List (Addr × Obj)} {sc : Addr} {vs : List Value} {Post : Value → List (Addr × Obj) → Prop} (C : CallOkL w k f args news sc vs Post)
    {dp un : Nat} {gd : Option (List Code)} {cn : Str} {cs : Scope} {a : Addr} {ccd : Value} {cl : List (Str × Addr)} {outer : List Env} {A₀ : Around} {base h₀ : Heap} {L : Addr} {m : Str → Option Value} {s : Shared}
    {p : Program} {loose : List Str} {mean : ExcName → Option Value} {mg mb : Str → Option Value} {Q E : Value → Shared → Prop}
    (hl : h₀.IsList sc vs.toArray) (B : Below A₀ base outer h₀) (F : Fr h₀ L s.heap m) (X : (hd.heap_39 w.params).In h₀) (N : News h₀ L s.heap news) (T : Top p loose mean mg mb h₀) (hk : cs.kind = .function) (hd : dp + k < recursionLimit) (hu : un + 8 * k + 100 < cLine)
    (ret : ∀ r news' h' tk', Fr h₀ L h' m → News h₀ L h' news' → Post r news' → Q r { s with heap := h', toks := tk' }) :
    wpAny (model PySem.Challenge.rw_mr0075_01.row.prog w) (ktrTop dp un gd cn cs L a ccd cl outer) (call (.ref f) args) Q E s :=
  C _ _ _ _ _ _ _ _ _ _ _ _ _ _ _ _ _ _ _ _ _ _ hl B F X N T hk hd hu ret
theorem sumP {prog : Program} {w : World} {A : Around} {E : Value → Shared → Prop} {s : Shared} {h₀ : Heap} {L : Addr} {m : Str → Option Value} {news : List (Addr × Obj)} {l : Addr} {vs : List Value} {ns : List Int} {lo hi st : Option Int} {k : Nat} {Q : Value → Shared → Prop} (hh : A.handled = none) (F : Fr h₀ L s.heap m) (N : News h₀ L s.heap news)
    (hm : (l, ({ cls := .type "list", data := .seq (slicePick vs.toArray lo hi st) k } : Obj)) ∈ news) (hi' : IntsAre vs ns)
    (h : ∀ h' tk t' z, Fr h₀ L h' m → News h₀ L h' news → Q (.int z t') { s with heap := h', toks := tk }) :
    wpAny (model prog w) A (call (.builtin "sum") [.ref l]) Q E s :=
  sumK hh F N ⟨_, (N _ hm).1, rfl, k, rfl⟩ (hi'.pick lo hi st) (fun h' tk t' F' N' => h h' tk t' _ F' N')
theorem mod_in (z : Int) : 0 ≤ z.fmod 10000 ∧ z.fmod 10000 < 10000 := ⟨Int.fmod_nonneg_of_pos z (by decide), Int.fmod_lt_of_pos z (by decide)⟩
section
local macro_rules | `(tactic| k_units) => `(tactic| ktr_units)
local macro_rules | `(tactic| walk_at "CompSrc") => `(tactic| (k_here; k_dflt (refine srcR (by rfl) (by k_asm) (by k_asm) (by assumption) ?_; intro g'; lcg_lit)))

theorem numbers {w : World} {sc : Addr} {vs : List Value} {ns : List Int} {news : List (Addr × Obj)} (hv : IntsAre vs ns) (hlen : ns.length ≤ 63) :
    CallOkL w 9 82 [.ref sc] news sc vs (fun r n => ∃ D n0 n1 n2 n3 k0 k1 k2 k3 e, r = .ref D ∧ n = (D, listOf #[.int n0 k0, .int n1 k1, .int n2 k2, .int n3 k3] e) :: news ∧ (0 ≤ n0 ∧ n0 < 10000) ∧ (0 ≤ n1 ∧ n1 < 10000) ∧ (0 ≤ n2 ∧ n2 < 10000) ∧ (0 ≤ n3 ∧ n3 < 10000) ∧ (∀ q ∈ news, q.1 ≠ D)) := by
  have hsub : ∀ p ∈ ([] : List (Addr × Obj)), p ∈ news := fun _ h => nomatch h
  have hK : (hd.heap_39, PySem.Challenge.rw_mr0075_01) = (hd.heap_39, PySem.Challenge.rw_mr0075_01) := by k_fill; rfl
  clear hK
  intro dp un gd cn cs a ccd cl outer A₀ base h₀ L m s p loose mean mg mb Q E hl B F X N T hk hd hu hret
  refine wpAny_call ?_
  k_dflt (refine' code_defCF ?k1 ?k2 ?k3 ?k4 hsub ?k5 ?kA ?kF ?kK ?k6 ?k7 ?k8 ?k9 ?kB ?kD ?_ ?c2 ?c3 ?c4; (case kA => exact rfl); (case kF => exact rfl); (case kK => assumption); (case k1 => k_asm); (case k2 => k_asm); (case k3 => k_asm); (case k4 => k_asm); (case k5 => k_asm); (case k6 => k_is); (case k7 => k_is); (case k8 => ktr_room); (case k9 => exact BindsTo.of_eq rfl); (case kB => exact rfl); (case kD => decide +kernel); (case c2 => exact rfl); (case c3 => exact rfl); (case c4 => exact rfl); k_whole)
  intro g' L' h' tk' cells' FG' F' N' Y' B' X' T' l1 S'
  (try k_lt l1); k_cells Y'; (try simp only [List.cons_append, List.nil_append] at N'); (try dsimp only); (try k_fold)
  have hl' : g'.IsList sc vs.toArray := hl.at fun o e => FG'.keep _ _ e
  repeat' (first | (k_unfold; (try dsimp only)) | (k_end; wrow_close) | ((first | ((with_reducible show wpAny _ _ (eval (Expr.ListComp _ _ _ _) _) _ _ _); (k_here; k_dflt (refine LCg.ListComp_U (F₀ := by k_asm) (by with_unfolding_all rfl) (by decide) (by rfl) (by decide) (by rfl) ?_); k_dflt lcg_toSrc)))) | ((fail_if_success (with_reducible show LCg.CompRest _ _ _ _ _ _ _ _ _ _ _ _ _ _ _ _ _ _ _)); first | (walk1) | (dsimp only; walk1)) | (leave1; (try dsimp only)))
  refine comp_turns (JN (fun z => 0 ≤ z ∧ z < 10000) _) JN.zero ?turn ?fin
  case turn =>
    intro i ys led hi hJ v I oI C oC D m₂ h tk E' hv hC hx F2 N2 off ne
    clear ne
    have e := hJ.1
    subst e
    obtain ⟨t, rfl⟩ := hv
    repeat' (first | (k_unfold; (try dsimp only)) | (k_end; wrow_close) | ((first | (k_here; (with_reducible show wpAny _ _ (call (Value.builtin "sum") [Value.ref _]) _ _ _); k_dflt (refine' sumP ?k0 ?k1 ?k2 ?k3 ?k4 ?_; (case k0 => rfl); (case k1 => k_asm); (case k2 => k_asm); (case k3 => exact List.Mem.head _); (case k4 => assumption); k_whole); intro h_wp tk_wp t_wp z_wp F_wp N_wp; (try k_sweep)) | ((with_reducible show wpAny _ _ (subscriptTail _ _ (Value.ref _) (Value.int _ _)) _ _ _); (with_unfolding_all refine' item_led ?N ?m ?a ?b ?x ?_ ?z; (case N => k_dflt k_asm); (case m => k_dflt k_mem); (case a => k_dflt (exact i4_lo)); (case b => k_dflt (exact i4_hi (by assumption))); (case x => k_dflt (exact its4i (by assumption))); (case z => with_unfolding_all rfl); k_whole)))) | ((fail_if_success (with_reducible show LCg.CompEnd _ _ _ _ _ _ _ _ _ _ _ _ _ _)); first | (walk1) | (dsimp only; walk1)) | (leave1; (try dsimp only)))
    exact LCg.CompEnd.intro (by assumption) (by assumption) _ (fun p hp => List.Mem.tail _ hp) off trivial (hJ.next (mod_in _))
  case fin =>
    intro ys led hJ
    obtain ⟨rfl, n0, n1, n2, n3, t0, t1, t2, t3, rfl, p0, p1, p2, p3⟩ := hJ.four
    repeat' (first | (k_unfold; (try dsimp only)) | (k_end; wrow_close) | (walk1) | (dsimp only; walk1) | (leave1; (try dsimp only)))
    rename Fr h₀ _ _ _ => kF
    rename News h₀ _ _ _ => kN
    rename Fr g' L' _ _ => fF
    rename News g' L' _ _ => fN
    refine hret _ _ _ _ kF (back_all (new := [(_, listOf #[.int _ _, .int _ _, .int _ _, .int _ _] _)]) N hsub S' fF kN (List.forall_mem_singleton.mpr (.head _)) (List.forall_mem_nil _)) ⟨_, _, _, _, _, _, _, _, _, _, rfl, rfl, p0, p1, p2, p3, ?_⟩
    exact fun q hq => apart_all N S' fN (List.forall_mem_singleton.mpr (.head _)) (List.forall_mem_singleton.mpr List.not_mem_nil) q hq _ (.head _)
end
end Mine

/-! # PL -/
namespace Mine
theorem fresh_PL : True := by
  w_top off
  exact True.intro
/-! ## the plain law -/
/-- s stands above t -/
def gtp (s t : PT) : Prop := t.x < s.x ∨ (t.x = s.x ∧ t.y < s.y)
theorem lt_iff {s t : PT} : PT.lt s t = true ↔ gtp t s := by unfold PT.lt lx gtp; simp
theorem lt_false {s t : PT} (h : PT.lt s t = false) (hy : s.y ≠ t.y) : gtp s t := by
  unfold PT.lt lx at h
  unfold gtp
  simp only [decide_eq_false_iff_not] at h
  omega
def HeapOk (H : Four PT) : Prop := gtp H.1 H.2.1 ∧ gtp H.1 H.2.2.1 ∧ gtp H.2.1 H.2.2.2
theorem gtp_trans {a b c : PT} (h1 : gtp a b) (h2 : gtp b c) : gtp a c := by unfold gtp at *; omega
theorem su_heap {p q r t : PT} (h : Okay (p, q, r, t)) (hqt : gtp q t) : HeapOk (gsu0 PT.lt p q r t) := by
  obtain ⟨_, a, b, c, d, e, f⟩ := h
  dsimp only at a b c d e f
  unfold gsu0 gsd03 gsd02
  cases h1 : PT.lt r q
  · have g1 := lt_false h1 (Ne.symm d)
    cases h2 : PT.lt r p
    · have g2 := lt_false h2 (Ne.symm b)
      exact ⟨g1, g2, hqt⟩
    · have g2 := lt_iff.mp h2
      exact ⟨gtp_trans g2 g1, g2, hqt⟩
  · have g1 := lt_iff.mp h1
    cases h2 : PT.lt t p
    · have g2 := lt_false h2 (Ne.symm c)
      exact ⟨hqt, g1, g2⟩
    · have g2 := lt_iff.mp h2
      cases h3 : PT.lt q p
      · have g3 := lt_false h3 (Ne.symm a)
        exact ⟨g3, g1, g2⟩
      · have g3 := lt_iff.mp h3
        exact ⟨g3, gtp_trans g3 g1, hqt⟩
theorem hpf_heap {p q r t : PT} (h : Okay (p, q, r, t)) : HeapOk (ghpf PT.lt p q r t) := by
  unfold ghpf
  cases h1 : PT.lt t q
  · obtain ⟨⟨i1, i2, i3, i4⟩, a, b, c, d, e, f⟩ := h
    refine su_heap ⟨⟨i1, i4, i3, i2⟩, c, b, a, Ne.symm f, Ne.symm e, Ne.symm d⟩ (lt_false h1 (Ne.symm e))
  · exact su_heap h (lt_iff.mp h1)
theorem hpf_okay {p q r t : PT} (h : Okay (p, q, r, t)) : Okay (ghpf PT.lt p q r t) := by
  unfold ghpf
  cases h1 : PT.lt t q
  · obtain ⟨⟨i1, i2, i3, i4⟩, a, b, c, d, e, f⟩ := h
    exact Okay.su ⟨⟨i1, i4, i3, i2⟩, c, b, a, Ne.symm f, Ne.symm e, Ne.symm d⟩
  · exact Okay.su h
theorem step_heap {H : Four PT} (h : Okay H) (hh : HeapOk H) (hs : (second PT.lt H).x ≠ 0) : HeapOk (pstep H) := by
  unfold pstep
  refine su_heap ⟨⟨?_, h.1.2⟩, h.2⟩ hh.2.2
  have h2 := second_all (P := fun t => 0 ≤ t.x ∧ t.x < 10000) h.1.2.1 h.1.2.2.1
  show 0 ≤ Int.fmod _ _ ∧ Int.fmod _ _ < 10000
  have := Int.fmod_nonneg_of_pos H.1.x (b := (second PT.lt H).x) (by omega)
  have := Int.fmod_lt_of_pos H.1.x (b := (second PT.lt H).x) (by omega)
  omega
theorem Run.heap {H₀ H : Four PT} {i : Nat} {log : List Ent} (h : Run H₀ i H log) (h0 : Okay H₀) (hh : HeapOk H₀) : HeapOk H := by
  induction h with
  | zero => exact hh
  | succ hr hs ih => exact step_heap (hr.okay h0) ih hs

/-! ### by place -/
theorem at_put {α : Type} {X : Four α} {v : α} {k d : Nat} (hk : k < 4) (hd : d < 4) : at4' (put4' X d v) k = if k = d then v else at4' X k := by
  have hk' : k = 0 ∨ k = 1 ∨ k = 2 ∨ k = 3 := by omega
  have hd' : d = 0 ∨ d = 1 ∨ d = 2 ∨ d = 3 := by omega
  rcases hk' with rfl | rfl | rfl | rfl <;> rcases hd' with rfl | rfl | rfl | rfl <;> rfl
theorem put4_eq (X : Ent) (d : Nat) (v : Int) : put4 X d v = put4' X d v := by
  match d with
  | 0 => rfl
  | 1 => rfl
  | 2 => rfl
  | _ + 3 => rfl
def subRow (a : Ent) (q : Int) (b : Ent) : Ent := (a.1 - q * b.1, a.2.1 - q * b.2.1, a.2.2.1 - q * b.2.2.1, a.2.2.2 - q * b.2.2.2)
/-- what a thing says of its place -/
def Says (X : Ent) (M : Four Ent) (t : PT) : Prop := ∃ k : Nat, k < 4 ∧ t.y = (k : Int) ∧ at4' X k = t.x ∧ at4' M k = t.row
/-- the top and the second one -/
theorem tops {H : Four PT} (h : Okay H) (hh : HeapOk H) : gtp H.1 (second PT.lt H) ∧ (second PT.lt H).y ≠ H.1.y ∧ Four.All (fun t => t.y ≠ H.1.y → t.y ≠ (second PT.lt H).y → gtp (second PT.lt H) t) H ∧ Four.All (fun t => t.y ≠ H.1.y → gtp H.1 t) H := by
  obtain ⟨p, q, r, t⟩ := H
  obtain ⟨_, a, b, c, d, e, f⟩ := h
  obtain ⟨g1, g2, g3⟩ := hh
  dsimp only at *
  unfold second
  dsimp only
  cases h1 : PT.lt r q
  · have := lt_false h1 (Ne.symm d)
    exact ⟨g2, Ne.symm b, ⟨fun h => absurd rfl h, fun _ _ => this, fun _ h => absurd rfl h, fun _ _ => gtp_trans this g3⟩, ⟨fun h => absurd rfl h, fun _ => g1, fun _ => g2, fun _ => gtp_trans g1 g3⟩⟩
  · have := lt_iff.mp h1
    exact ⟨g1, Ne.symm a, ⟨fun h => absurd rfl h, fun _ h => absurd rfl h, fun _ _ => this, fun _ _ => g3⟩, ⟨fun h => absurd rfl h, fun _ => g1, fun _ => g2, fun _ => gtp_trans g1 g3⟩⟩
theorem nf4 {m n : Nat} (hm : m < 4) (hn : n < 4) (h : m ≠ n) : (⟨m, hm⟩ : Fin 4) ≠ ⟨n, hn⟩ := fun e => h (congrArg Fin.val e)
theorem cover4F : ∀ k a b c d : Fin 4, a ≠ b → a ≠ c → a ≠ d → b ≠ c → b ≠ d → c ≠ d → k = a ∨ k = b ∨ k = c ∨ k = d := by decide +kernel
theorem cover4 {k a b c d : Nat} (hk : k < 4) (ha : a < 4) (hb : b < 4) (hc : c < 4) (hd : d < 4) (ab : a ≠ b) (ac : a ≠ c) (ad : a ≠ d) (bc : b ≠ c) (bd : b ≠ d) (cd : c ≠ d) : k = a ∨ k = b ∨ k = c ∨ k = d :=
  (cover4F ⟨k, hk⟩ ⟨a, ha⟩ ⟨b, hb⟩ ⟨c, hc⟩ ⟨d, hd⟩ (nf4 _ _ ab) (nf4 _ _ ac) (nf4 _ _ ad) (nf4 _ _ bc) (nf4 _ _ bd) (nf4 _ _ cd)).imp (congrArg Fin.val) (Or.imp (congrArg Fin.val) (Or.imp (congrArg Fin.val) (congrArg Fin.val)))
theorem lex_tr {x y x' y' x'' y'' : Int} (h : x < x' ∨ x = x' ∧ y < y') (g : x' < x'' ∨ x' = x'' ∧ y' < y'') : x < x'' ∨ x = x'' ∧ y < y'' := by omega
theorem lex_no {x y x' y' : Int} (h : x < x' ∨ x = x' ∧ y < y') (g : x' < x ∨ x' = x ∧ y' < y) : False := by omega
theorem ne_nat {a b : Int} {i j : Nat} (h : a ≠ b) (ha : a = (i : Int)) (hb : b = (j : Int)) : i ≠ j := fun e => h (by rw [ha, hb, e])
theorem ne_int {a b : Int} {i j : Nat} (h : i ≠ j) (ha : a = (i : Int)) (hb : b = (j : Int)) : a ≠ b := fun e => h (Int.ofNat.inj (ha.symm.trans (e.trans hb)))
/-- every place is some thing's -/
theorem every {H : Four PT} {X : Ent} {M : Four Ent} (h : Okay H) (hX : Four.All (Says X M) H) {P : PT → Prop} (hP : Four.All P H) (k : Nat) (hk : k < 4) : ∃ t, P t ∧ t.y = (k : Int) ∧ at4' X k = t.x ∧ at4' M k = t.row := by
  obtain ⟨_, a, b, c, d, e, f⟩ := h
  obtain ⟨⟨k0, l0, y0, x0, m0⟩, ⟨k1, l1, y1, x1, m1⟩, ⟨k2, l2, y2, x2, m2⟩, ⟨k3, l3, y3, x3, m3⟩⟩ := hX
  rcases cover4 hk l0 l1 l2 l3 (ne_nat a y0 y1) (ne_nat b y0 y2) (ne_nat c y0 y3) (ne_nat d y1 y2) (ne_nat e y1 y3) (ne_nat f y2 y3) with rfl | rfl | rfl | rfl
  · exact ⟨_, hP.1, y0, x0, m0⟩
  · exact ⟨_, hP.2.1, y1, x1, m1⟩
  · exact ⟨_, hP.2.2.1, y2, x2, m2⟩
  · exact ⟨_, hP.2.2.2, y3, x3, m3⟩
theorem ord_tops {H : Four PT} {X : Ent} {M : Four Ent} (h : Okay H) (hh : HeapOk H) (hX : Four.All (Says X M) H) {kp ko : Nat} (hp : kp < 4) (ho : ko < 4) (yp : H.1.y = (kp : Int)) (yo : (second PT.lt H).y = (ko : Int)) (xp : at4' X kp = H.1.x) (xo : at4' X ko = (second PT.lt H).x) :
    ∃ a b, ord4 (at4 X) (fun i => (i : Int)) = [a, b, ko, kp] := by
  obtain ⟨t1, t2, t3, t4⟩ := tops h hh
  have allp : ∀ k, k < 4 → k ≠ kp → at4 X k < at4 X kp ∨ (at4 X k = at4 X kp ∧ (k : Int) < kp) := by
    intro k hk hne
    obtain ⟨t, g, ty, tx, _⟩ := every h hX t4 k hk
    rw [show at4 X kp = H.1.x from xp, show at4 X k = t.x from tx, ← ty, ← yp]
    exact g (ne_int hne ty yp)
  have allo : ∀ k, k < 4 → k ≠ kp → k ≠ ko → at4 X k < at4 X ko ∨ (at4 X k = at4 X ko ∧ (k : Int) < ko) := by
    intro k hk hne hne'
    obtain ⟨t, g, ty, tx, _⟩ := every h hX t3 k hk
    rw [show at4 X ko = (second PT.lt H).x from xo, show at4 X k = t.x from tx, ← ty, ← yo]
    exact g (ne_int hne ty yp) (ne_int hne' ty yo)
  have hpo : ko ≠ kp := ne_nat t2 yo yp
  obtain ⟨a, b, c, d, he, ab, bc, cd, a4, b4, c4, d4, nab, nac, nad, nbc, nbd, ncd⟩ := ord4_spec (x := at4 X) (y := fun i => (i : Int)) (by intro i j _ _ hij e; exact hij (Int.ofNat.inj e))
  replace ab := of_decide_eq_true ab
  replace bc := of_decide_eq_true bc
  replace cd := of_decide_eq_true cd
  have dp : d = kp := by
    rcases cover4 hp a4 b4 c4 d4 nab nac nad nbc nbd ncd with e | e | e | e
    · rw [e] at allp; exact (lex_no (lex_tr ab (lex_tr bc cd)) (allp d d4 (Ne.symm nad))).elim
    · rw [e] at allp; exact (lex_no (lex_tr bc cd) (allp d d4 (Ne.symm nbd))).elim
    · rw [e] at allp; exact (lex_no cd (allp d d4 (Ne.symm ncd))).elim
    · exact e.symm
  rw [← dp] at allo hpo ⊢
  have co : c = ko := by
    rcases cover4 ho a4 b4 c4 d4 nab nac nad nbc nbd ncd with e | e | e | e
    · rw [e] at allo; exact (lex_no (lex_tr ab bc) (allo c c4 ncd (Ne.symm nac))).elim
    · rw [e] at allo; exact (lex_no bc (allo c c4 ncd (Ne.symm nbc))).elim
    · exact e.symm
    · exact absurd e hpo
  exact ⟨a, b, co ▸ he⟩
end Mine

/-! # PL2 -/
namespace Mine
theorem fresh_PL2 : True := by
  w_top off
  exact True.intro
/-- the turns, by place: numbers and rows -/
inductive XRun (N : Ent) : Nat → Ent → Four Ent → List Ent → Prop
  | zero : XRun N 0 N unitE []
  | succ {i : Nat} {X : Ent} {M : Four Ent} {log : List Ent} {p o : Nat} : XRun N i X M log → p < 4 → o < 4 → p ≠ o → 0 < at4' X o → at4' X o ≤ at4' X p → at4' X p < 10000 →
      XRun N (i + 1) (put4' X p (at4' X p - (at4' X p).fdiv (at4' X o) * at4' X o)) (put4' M p (subRow (at4' M p) ((at4' X p).fdiv (at4' X o)) (at4' M o))) (log ++ [(at4' X p, (p : Int), (o : Int), (at4' X p).fdiv (at4' X o))])
theorem fmod_sub (a b : Int) : a.fmod b = a - a.fdiv b * b := by
  have := Int.mul_fdiv_add_fmod a b
  rw [Int.mul_comm] at this
  omega
theorem Says.put {X : Ent} {M : Four Ent} {t : PT} {p : Nat} {v : Int} {r : Ent} (h : Says X M t) (hp : p < 4) (hne : t.y ≠ (p : Int)) : Says (put4' X p v) (put4' M p r) t := by
  obtain ⟨k, k4, ky, kx, km⟩ := h
  have hk : k ≠ p := by omega
  exact ⟨k, k4, ky, by rw [at_put k4 hp, if_neg hk]; exact kx, by rw [at_put k4 hp, if_neg hk]; exact km⟩
theorem bisim {H₀ H : Four PT} {i : Nat} {log : List Ent} {N : Ent} (hr : Run H₀ i H log) (h0 : Okay H₀) (hh : HeapOk H₀) (hS : Four.All (Says N unitE) H₀) :
    ∃ X M, XRun N i X M log ∧ PRun N i X log ∧ Four.All (Says X M) H := by
  induction hr with
  | zero => exact ⟨N, unitE, .zero, .zero, hS⟩
  | @succ i H log hr hs ih =>
    obtain ⟨X, M, hx, hp, hsay⟩ := ih
    have ho := hr.okay h0
    have hp' := hr.heap h0 hh
    obtain ⟨kp, p4, py, px, pm⟩ := hsay.1
    obtain ⟨ko, o4, oy, ox, om⟩ := second_all (P := Says X M) hsay.2.1 hsay.2.2.1
    obtain ⟨t1, t2, t3, t4⟩ := tops ho hp'
    have b2 := second_all (P := fun t => 0 ≤ t.x ∧ t.x < 10000) ho.1.2.1 ho.1.2.2.1
    have b1 := ho.1.1
    have hpo : kp ≠ ko := by omega
    have hle : at4' X ko ≤ at4' X kp := by rw [px, ox]; unfold gtp at t1; omega
    have hlog : log ++ [entry H] = log ++ [(at4' X kp, (kp : Int), (ko : Int), (at4' X kp).fdiv (at4' X ko))] := by unfold entry; rw [px, ox, py, oy]
    rw [hlog]
    refine ⟨_, _, .succ hx p4 o4 hpo (by rw [ox]; omega) hle (by rw [px]; exact b1.2), ?_, ?_⟩
    · obtain ⟨a, b, he⟩ := ord_tops ho hp' hsay p4 o4 py oy px ox
      rw [← put4_eq]
      exact PRun.succ hp he o4 p4 (Ne.symm hpo) (by show at4' X ko ≠ 0; rw [ox]; exact hs)
    · unfold pstep
      have e1 : at4' X kp - (at4' X kp).fdiv (at4' X ko) * at4' X ko = (newThing H.1 (second PT.lt H)).x := by rw [px, ox, ← fmod_sub]; rfl
      have e2 : subRow (at4' M kp) ((at4' X kp).fdiv (at4' X ko)) (at4' M ko) = (newThing H.1 (second PT.lt H)).row := by rw [px, ox, pm, om]; rfl
      obtain ⟨_, a, b, c, _⟩ := ho
      refine gsu0_all ⟨kp, p4, py, by rw [at_put p4 p4, if_pos rfl]; exact e1, by rw [at_put p4 p4, if_pos rfl]; exact e2⟩ (hsay.2.1.put p4 (by omega)) (hsay.2.2.1.put p4 (by omega)) (hsay.2.2.2.put p4 (by omega))

/-! ### what is undone -/
theorem put_put {α : Type} (X : Four α) (p : Nat) (v u : α) : put4' (put4' X p v) p u = put4' X p u := by
  match p with
  | 0 => rfl
  | 1 => rfl
  | 2 => rfl
  | _ + 3 => rfl
theorem put_self {α : Type} (X : Four α) (p : Nat) : put4' X p (at4' X p) = X := by
  match p with
  | 0 => rfl
  | 1 => rfl
  | 2 => rfl
  | _ + 3 => rfl
theorem add_sub_row (a b : Ent) (q : Int) : addRow (subRow a q b) q b = a := by
  unfold addRow subRow
  obtain ⟨a0, a1, a2, a3⟩ := a
  simp only [Prod.mk.injEq]
  exact ⟨by omega, by omega, by omega, by omega⟩
theorem XRun.undo {N X : Ent} {M : Four Ent} {i : Nat} {log : List Ent} (h : XRun N i X M log) : log.foldr backStep M = unitE := by
  induction h with
  | zero => rfl
  | @succ i X M log p o hr p4 o4 hpo h1 h2 h3 ih =>
    rw [List.foldr_append, List.foldr_cons, List.foldr_nil]
    have e : backStep (at4' X p, (p : Int), (o : Int), (at4' X p).fdiv (at4' X o)) (put4' M p (subRow (at4' M p) ((at4' X p).fdiv (at4' X o)) (at4' M o))) = M := by
      unfold backStep
      simp only [Int.toNat_natCast]
      rw [at_put p4 p4, if_pos rfl, at_put o4 p4, if_neg (Ne.symm hpo), add_sub_row, put_put, put_self]
    rw [e]; exact ih
theorem dot_add (a b c : Ent) (q : Int) : dotE (addRow a q b) c = dotE a c + q * dotE b c := by
  unfold dotE addRow
  simp only [Int.add_mul, Int.mul_add, Int.mul_assoc, Int.mul_zero]
  omega
theorem dot_sub (a b c : Ent) (q : Int) : dotE (subRow a q b) c = dotE a c - q * dotE b c := by
  unfold dotE subRow
  simp only [Int.sub_mul, Int.mul_add, Int.mul_assoc, Int.mul_zero]
  omega
def mulE (X Y : Four Ent) : Four Ent := (prodRow X.1 Y.1 Y.2.1 Y.2.2.1 Y.2.2.2, prodRow X.2.1 Y.1 Y.2.1 Y.2.2.1 Y.2.2.2, prodRow X.2.2.1 Y.1 Y.2.1 Y.2.2.1 Y.2.2.2, prodRow X.2.2.2 Y.1 Y.2.1 Y.2.2.1 Y.2.2.2)
theorem prod_add (a b r0 r1 r2 r3 : Ent) (q : Int) : prodRow (addRow a q b) r0 r1 r2 r3 = addRow (prodRow a r0 r1 r2 r3) q (prodRow b r0 r1 r2 r3) := by
  unfold prodRow
  rw [dot_add, dot_add, dot_add, dot_add]; rfl
theorem at_mul (X Y : Four Ent) (k : Nat) : at4' (mulE X Y) k = prodRow (at4' X k) Y.1 Y.2.1 Y.2.2.1 Y.2.2.2 := by
  match k with
  | 0 => rfl
  | 1 => rfl
  | 2 => rfl
  | _ + 3 => rfl
theorem mul_put (X Y : Four Ent) (p : Nat) (v : Ent) : mulE (put4' X p v) Y = put4' (mulE X Y) p (prodRow v Y.1 Y.2.1 Y.2.2.1 Y.2.2.2) := by
  match p with
  | 0 => rfl
  | 1 => rfl
  | 2 => rfl
  | _ + 3 => rfl
theorem mul_back (e : Ent) (X Y : Four Ent) : mulE (backStep e X) Y = backStep e (mulE X Y) := by
  unfold backStep
  rw [mul_put, prod_add, at_mul, at_mul]
theorem mul_unit (Y : Four Ent) : mulE unitE Y = Y := by
  obtain ⟨⟨a0, a1, a2, a3⟩, ⟨b0, b1, b2, b3⟩, ⟨c0, c1, c2, c3⟩, ⟨d0, d1, d2, d3⟩⟩ := Y
  simp [mulE, unitE, prodRow, dotE]
theorem mul_foldr (log : List Ent) (X Y : Four Ent) : mulE (log.foldr backStep X) Y = log.foldr backStep (mulE X Y) := by
  induction log with
  | nil => rfl
  | cons e l ih => rw [List.foldr_cons, List.foldr_cons, mul_back, ih]
theorem XRun.inverse {N X : Ent} {M : Four Ent} {i : Nat} {log : List Ent} (h : XRun N i X M log) : mulE (backs log) M = unitE := by
  unfold backs
  rw [mul_foldr, mul_unit, h.undo]
theorem XRun.linear {N X : Ent} {M : Four Ent} {i : Nat} {log : List Ent} (h : XRun N i X M log) : ∀ k, k < 4 → dotE (at4' M k) N = at4' X k := by
  induction h with
  | zero =>
    intro k hk
    obtain ⟨n0, n1, n2, n3⟩ := N
    have : k = 0 ∨ k = 1 ∨ k = 2 ∨ k = 3 := by omega
    rcases this with rfl | rfl | rfl | rfl <;> simp [at4', pick, unitE, dotE]
  | @succ i X M log p o hr p4 o4 hpo h1 h2 h3 ih =>
    intro k hk
    rw [at_put hk p4, at_put hk p4]
    by_cases e : k = p
    · rw [if_pos e, if_pos e, dot_sub, ih p p4, ih o o4]
    · rw [if_neg e, if_neg e]; exact ih k hk
end Mine

/-! # PL3 -/
namespace Mine
theorem fresh_PL3 : True := by
  w_top off
  exact True.intro
theorem quot_in {a b : Int} (h1 : 0 < b) (h2 : b ≤ a) (h3 : a < 10000) : 1 ≤ a.fdiv b ∧ a.fdiv b < 10000 := by
  have e : a.fdiv b = a / b := Int.fdiv_eq_ediv_of_nonneg a (by omega)
  rw [e]
  constructor
  · exact (Int.le_ediv_iff_mul_le h1).mpr (by omega)
  · exact Int.lt_of_le_of_lt (Int.ediv_le_self b (by omega)) h3
theorem XRun.ok {N X : Ent} {M : Four Ent} {i : Nat} {log : List Ent} (h : XRun N i X M log) : ∀ e ∈ log, EntOk e := by
  induction h with
  | zero => exact List.forall_mem_nil _
  | @succ i X M log p o hr p4 o4 hpo h1 h2 h3 ih =>
    intro e he
    rcases List.mem_append.mp he with he | he
    · exact ih e he
    · rw [List.mem_singleton.mp he]
      have q := quot_in h1 h2 h3
      exact ⟨⟨by show (0 : Int) ≤ p; omega, by show (p : Int) < 4; omega⟩, ⟨by show (0 : Int) ≤ o; omega, by show (o : Int) < 4; omega⟩, bits_small (Int.le_trans (by decide : (0 : Int) ≤ 1) q.1) q.2⟩
/-- the number of turns -/
theorem half {a b : Int} (h1 : 0 < b) (h2 : b ≤ a) : 0 ≤ a - a.fdiv b * b ∧ 2 * (a - a.fdiv b * b) < a := by
  rw [← fmod_sub]
  have f1 := Int.fmod_nonneg_of_pos a h1
  have f2 := Int.fmod_lt_of_pos a h1
  have f3 := Int.mul_fdiv_add_fmod a b
  have q : 1 ≤ a.fdiv b := by
    have e : a.fdiv b = a / b := Int.fdiv_eq_ediv_of_nonneg a (by omega)
    rw [e]; exact (Int.le_ediv_iff_mul_le h1).mpr (by omega)
  have m : b * 1 ≤ b * a.fdiv b := Int.mul_le_mul_of_nonneg_left q (by omega)
  omega
def sum4 (b : Four Nat) : Nat := b.1 + b.2.1 + b.2.2.1 + b.2.2.2
theorem sum_put {b : Four Nat} {p v : Nat} (hp : p < 4) (h : v + 1 = at4' b p) : sum4 (put4' b p v) + 1 = sum4 b := by
  have : p = 0 ∨ p = 1 ∨ p = 2 ∨ p = 3 := by omega
  rcases this with rfl | rfl | rfl | rfl <;> simp only [at4', pick, put4', sum4] at * <;> omega
theorem XRun.turns {N X : Ent} {M : Four Ent} {i : Nat} {log : List Ent} (h : XRun N i X M log) (hN : In4 N) : ∃ b : Four Nat, (∀ k, k < 4 → 0 ≤ at4' X k ∧ at4' X k < ((2 ^ at4' b k : Nat) : Int)) ∧ sum4 b + i = 56 := by
  induction h with
  | zero =>
    refine ⟨(14, 14, 14, 14), ?_, rfl⟩
    intro k hk
    have hb : at4' ((14, 14, 14, 14) : Four Nat) k = 14 := by
      have : k = 0 ∨ k = 1 ∨ k = 2 ∨ k = 3 := by omega
      rcases this with rfl | rfl | rfl | rfl <;> rfl
    rw [hb]
    have h1 : 0 ≤ at4' N k ∧ at4' N k < 10000 := hN k
    exact ⟨h1.1, Int.lt_trans h1.2 (by decide)⟩
  | @succ i X M log p o hr p4 o4 hpo h1 h2 h3 ih =>
    obtain ⟨b, hb, hs⟩ := ih
    have hp := (hb p p4).2
    obtain ⟨v, hv⟩ : ∃ v, v + 1 = at4' b p := by
      cases e : at4' b p with
      | zero => rw [e] at hp; have : at4' X p < 1 := hp; omega
      | succ v => exact ⟨v, rfl⟩
    have hf := half h1 h2
    refine ⟨put4' b p v, ?_, by have := sum_put p4 hv; omega⟩
    intro k hk
    rw [at_put hk p4, at_put hk p4]
    by_cases e : k = p
    · rw [if_pos e, if_pos e]
      refine ⟨hf.1, ?_⟩
      rw [← hv, Nat.pow_succ] at hp
      have : (((2 ^ v * 2 : Nat)) : Int) = ((2 ^ v : Nat) : Int) * 2 := by push_cast; rfl
      rw [this] at hp
      omega
    · rw [if_neg e, if_neg e]; exact hb k hk
theorem XRun.few {N X : Ent} {M : Four Ent} {i : Nat} {log : List Ent} (h : XRun N i X M log) (hN : In4 N) : i ≤ 56 := by
  obtain ⟨b, _, hs⟩ := h.turns hN
  omega
/-- the plain table's turns are a function -/
theorem PRun.same {N : Ent} : ∀ {i : Nat} {X X' : Ent} {log log' : List Ent}, PRun N i X log → PRun N i X' log' → X = X' ∧ log = log' := by
  intro i
  induction i with
  | zero =>
    intro X X' log log' h h'
    cases h; cases h'
    exact ⟨rfl, rfl⟩
  | succ i ih =>
    intro X X' log log' h h'
    cases h with
    | succ h ho c4 d4 cd hne =>
      cases h' with
      | succ h' ho' c4' d4' cd' hne' =>
        obtain ⟨rfl, rfl⟩ := ih h h'
        rw [ho] at ho'
        simp only [List.cons.injEq, and_true] at ho'
        obtain ⟨rfl, rfl, rfl, rfl⟩ := ho'
        exact ⟨rfl, rfl⟩
/-- an end: no further turn -/
theorem PRun.cut {N : Ent} : ∀ {j i : Nat} {X : Ent} {log : List Ent}, PRun N j X log → i ≤ j → ∃ Y l, PRun N i Y l ∧ (i < j → ∃ a b c d, ord4 (at4 Y) (fun i => (i : Int)) = [a, b, c, d] ∧ at4 Y c ≠ 0) := by
  intro j
  induction j with
  | zero =>
    intro i X log h hi
    obtain rfl : i = 0 := by omega
    exact ⟨X, log, h, fun h => absurd h (by omega)⟩
  | succ j ih =>
    intro i X log h hi
    by_cases e : i = j + 1
    · subst e; exact ⟨X, log, h, fun h => absurd h (by omega)⟩
    · cases h with
      | succ h ho c4 d4 cd hne =>
        by_cases e2 : i = j
        · subst e2; exact ⟨_, _, h, fun _ => ⟨_, _, _, _, ho, hne⟩⟩
        · obtain ⟨Y, l, hY, hn⟩ := ih h (i := i) (by omega)
          exact ⟨Y, l, hY, fun _ => hn (by omega)⟩
def PEnd (X : Ent) : Prop := ∃ a b c d, ord4 (at4 X) (fun i => (i : Int)) = [a, b, c, d] ∧ at4 X c = 0
theorem PEnd.no {X : Ent} (h : PEnd X) : ¬ ∃ a b c d, ord4 (at4 X) (fun i => (i : Int)) = [a, b, c, d] ∧ at4 X c ≠ 0 := by
  rintro ⟨a, b, c, d, h1, h2⟩
  obtain ⟨a', b', c', d', h1', h2'⟩ := h
  rw [h1] at h1'
  simp only [List.cons.injEq, and_true] at h1'
  obtain ⟨rfl, rfl, rfl, rfl⟩ := h1'
  exact h2 h2'
theorem PRun.ends {N : Ent} {i j : Nat} {X Y : Ent} {log log' : List Ent} (h : PRun N i X log) (h' : PRun N j Y log') (e : PEnd X) (e' : PEnd Y) : log = log' := by
  have key : ∀ {i j : Nat} {X Y : Ent} {log log' : List Ent}, PRun N i X log → PRun N j Y log' → PEnd X → i < j → False := by
    intro i j X Y log log' h h' e hlt
    obtain ⟨Z, l, hZ, hn⟩ := h'.cut (i := i) (by omega)
    obtain ⟨rfl, _⟩ := hZ.same h
    exact e.no (hn hlt)
  have : ¬ i < j := fun hlt => key h h' e hlt
  have : ¬ j < i := fun hlt => key h' h e' hlt
  obtain rfl : i = j := by omega
  exact (h.same h').2

/-! ### sizes -/
def Low (B : Nat) (r : Ent) : Prop := r.1.natAbs ≤ B ∧ r.2.1.natAbs ≤ B ∧ r.2.2.1.natAbs ≤ B ∧ r.2.2.2.natAbs ≤ B
theorem low1 {a b q : Int} {B : Nat} (ha : a.natAbs ≤ B) (hb : b.natAbs ≤ B) (hq : q.natAbs ≤ 10000) : (a + q * b).natAbs ≤ 10001 * B ∧ (a - q * b).natAbs ≤ 10001 * B := by
  have h1 : (q * b).natAbs = q.natAbs * b.natAbs := Int.natAbs_mul ..
  have h2 : q.natAbs * b.natAbs ≤ 10000 * B := Nat.mul_le_mul hq hb
  omega
theorem low_sub {a b : Ent} {q : Int} {B : Nat} (ha : Low B a) (hb : Low B b) (hq : q.natAbs ≤ 10000) : Low (10001 * B) (subRow a q b) :=
  ⟨(low1 ha.1 hb.1 hq).2, (low1 ha.2.1 hb.2.1 hq).2, (low1 ha.2.2.1 hb.2.2.1 hq).2, (low1 ha.2.2.2 hb.2.2.2 hq).2⟩
theorem low_add {a b : Ent} {q : Int} {B : Nat} (ha : Low B a) (hb : Low B b) (hq : q.natAbs ≤ 10000) : Low (10001 * B) (addRow a q b) :=
  ⟨(low1 ha.1 hb.1 hq).1, (low1 ha.2.1 hb.2.1 hq).1, (low1 ha.2.2.1 hb.2.2.1 hq).1, (low1 ha.2.2.2 hb.2.2.2 hq).1⟩
theorem low_up {r : Ent} {B : Nat} (h : Low B r) : Low (10001 * B) r := by unfold Low at *; omega
theorem low_unit (k : Nat) : Low 1 (at4' unitE k) := pick_all (P := Low 1) ⟨by decide, by decide, by decide, by decide⟩ ⟨by decide, by decide, by decide, by decide⟩ ⟨by decide, by decide, by decide, by decide⟩ ⟨by decide, by decide, by decide, by decide⟩ k
theorem low_put {X : Four Ent} {p B : Nat} {v : Ent} (hX : ∀ k, Low B (at4' X k)) (hv : Low B v) : ∀ k, Low B (at4' (put4' X p v) k) := by
  have h0 := hX 0
  have h1 := hX 1
  have h2 := hX 2
  have h3 := hX 3
  match p with
  | 0 => exact pick_all (P := Low B) hv h1 h2 h3
  | 1 => exact pick_all (P := Low B) h0 hv h2 h3
  | 2 => exact pick_all (P := Low B) h0 h1 hv h3
  | _ + 3 => exact pick_all (P := Low B) h0 h1 h2 hv
theorem XRun.low {N X : Ent} {M : Four Ent} {i : Nat} {log : List Ent} (h : XRun N i X M log) : ∀ k, Low (10001 ^ i) (at4' M k) := by
  induction h with
  | zero => exact low_unit
  | @succ i X M log p o hr p4 o4 hpo h1 h2 h3 ih =>
    rw [Nat.pow_succ, Nat.mul_comm]
    have q := quot_in h1 h2 h3
    exact low_put (fun k => low_up (ih k)) (low_sub (ih p) (ih o) (by omega))
theorem backs_low : ∀ (log : List Ent), (∀ e ∈ log, e.2.2.2.natAbs ≤ 10000) → ∀ k, Low (10001 ^ log.length) (at4' (backs log) k)
  | [], _ => low_unit
  | e :: l, h => by
    have ih := backs_low l fun e he => h e (.tail _ he)
    rw [List.length_cons, Nat.pow_succ, Nat.mul_comm]
    exact low_put (fun k => low_up (ih k)) (low_add (ih _) (ih _) (h e (.head _)))
theorem XRun.quots {N X : Ent} {M : Four Ent} {i : Nat} {log : List Ent} (h : XRun N i X M log) : (∀ e ∈ log, e.2.2.2.natAbs ≤ 10000) ∧ log.length = i := by
  induction h with
  | zero => exact ⟨List.forall_mem_nil _, rfl⟩
  | @succ i X M log p o hr p4 o4 hpo h1 h2 h3 ih =>
    refine ⟨?_, by simp [ih.2]⟩
    intro e he
    rcases List.mem_append.mp he with he | he
    · exact ih.1 e he
    · rw [List.mem_singleton.mp he]
      have q := quot_in h1 h2 h3
      show (Int.fdiv _ _).natAbs ≤ 10000
      omega
theorem low_bits {x : Int} {i : Nat} (h : x.natAbs ≤ 10001 ^ i) (hi : i ≤ 56) : Builtin.Int.intBits x ≤ 2 ^ 20 := by
  have h1 : 10001 ^ i ≤ 10001 ^ 56 := Nat.pow_le_pow_right (by decide) hi
  have h2 : 10001 ^ 56 < 2 ^ 1000 := by decide +kernel
  have h3 : Builtin.Int.intBits x ≤ 1000 := bits_lt (Nat.lt_of_le_of_lt (Nat.le_trans h h1) h2)
  exact Nat.le_trans h3 (by decide)
theorem Rw.small_low {R : Rw} {i : Nat} (h : Low (10001 ^ i) R.row) (hi : i ≤ 56) : R.Small := ⟨low_bits h.1 hi, low_bits h.2.1 hi, low_bits h.2.2.1 hi, low_bits h.2.2.2 hi⟩

/-! ### the measure -/
def Div4 (d : Int) (X : Ent) : Prop := ∀ k, k < 4 → d ∣ at4' X k
theorem XRun.div {N X : Ent} {M : Four Ent} {i : Nat} {log : List Ent} (h : XRun N i X M log) (d : Int) : Div4 d X ↔ Div4 d N := by
  induction h with
  | zero => exact Iff.rfl
  | @succ i X M log p o hr p4 o4 hpo h1 h2 h3 ih =>
    rw [← ih]
    constructor
    · intro h k hk
      have ho : d ∣ at4' X o := by have := h o o4; rwa [at_put o4 p4, if_neg (Ne.symm hpo)] at this
      by_cases e : k = p
      · subst e
        have := h k hk
        rw [at_put hk hk, if_pos rfl] at this
        have h5 := Int.dvd_add this (Int.dvd_mul_of_dvd_right (b := (at4' X k).fdiv (at4' X o)) ho)
        rwa [Int.sub_add_cancel] at h5
      · have := h k hk
        rwa [at_put hk p4, if_neg e] at this
    · intro h k hk
      rw [at_put hk p4]
      by_cases e : k = p
      · rw [if_pos e]; exact Int.dvd_sub (h p p4) (Int.dvd_mul_of_dvd_right (h o o4))
      · rw [if_neg e]; exact h k hk
theorem dvd_meas {d n0 n1 n2 n3 : Int} : d ∣ meas n0 n1 n2 n3 ↔ Div4 d (n0, n1, n2, n3) := by
  unfold meas
  rw [Int.dvd_coe_gcd_iff, Int.dvd_coe_gcd_iff, Int.dvd_coe_gcd_iff, Int.dvd_coe_gcd_iff]
  constructor
  · rintro ⟨⟨⟨⟨_, a⟩, b⟩, c⟩, e⟩ k hk
    have : k = 0 ∨ k = 1 ∨ k = 2 ∨ k = 3 := by omega
    rcases this with rfl | rfl | rfl | rfl <;> assumption
  · intro h
    exact ⟨⟨⟨⟨Int.dvd_zero d, h 0 (by decide)⟩, h 1 (by decide)⟩, h 2 (by decide)⟩, h 3 (by decide)⟩
theorem meas_nonneg (n0 n1 n2 n3 : Int) : 0 ≤ meas n0 n1 n2 n3 := Int.natCast_nonneg _
/-- one number left -/
theorem meas_end {n0 n1 n2 n3 g : Int} (hg : 0 ≤ g) (h : ∀ d, d ∣ g ↔ Div4 d (n0, n1, n2, n3)) : g = meas n0 n1 n2 n3 := by
  have h1 : g ∣ meas n0 n1 n2 n3 := dvd_meas.mpr ((h g).mp (Int.dvd_refl g))
  have h2 : meas n0 n1 n2 n3 ∣ g := (h _).mpr (dvd_meas.mp (Int.dvd_refl _))
  exact Int.dvd_antisymm hg (meas_nonneg _ _ _ _) h1 h2
end Mine

/-! # PL4 -/
namespace Mine
theorem fresh_PL4 : True := by
  w_top off
  exact True.intro
def start (n0 n1 n2 n3 : Int) : Four PT := (⟨n0, 0, 1, 0, 0, 0⟩, ⟨n1, 1, 0, 1, 0, 0⟩, ⟨n2, 2, 0, 0, 1, 0⟩, ⟨n3, 3, 0, 0, 0, 1⟩)
def heap0 (n0 n1 n2 n3 : Int) : Four PT := ghpf PT.lt ⟨n0, 0, 1, 0, 0, 0⟩ ⟨n1, 1, 0, 1, 0, 0⟩ ⟨n2, 2, 0, 0, 1, 0⟩ ⟨n3, 3, 0, 0, 0, 1⟩
theorem start_okay {n0 n1 n2 n3 : Int} (hN : In4 (n0, n1, n2, n3)) : Okay (start n0 n1 n2 n3) :=
  ⟨⟨hN 0, hN 1, hN 2, hN 3⟩, show (0 : Int) ≠ 1 by decide, show (0 : Int) ≠ 2 by decide, show (0 : Int) ≠ 3 by decide, show (1 : Int) ≠ 2 by decide, show (1 : Int) ≠ 3 by decide, show (2 : Int) ≠ 3 by decide⟩
theorem heap0_okay {n0 n1 n2 n3 : Int} (hN : In4 (n0, n1, n2, n3)) : Okay (heap0 n0 n1 n2 n3) := hpf_okay (start_okay hN)
theorem heap0_heap {n0 n1 n2 n3 : Int} (hN : In4 (n0, n1, n2, n3)) : HeapOk (heap0 n0 n1 n2 n3) := hpf_heap (start_okay hN)
theorem heap0_says {n0 n1 n2 n3 : Int} : Four.All (Says (n0, n1, n2, n3) unitE) (heap0 n0 n1 n2 n3) :=
  ghpf_all ⟨0, by decide, rfl, rfl, rfl⟩ ⟨1, by decide, rfl, rfl, rfl⟩ ⟨2, by decide, rfl, rfl, rfl⟩ ⟨3, by decide, rfl, rfl, rfl⟩
theorem zeros {H : Four PT} (h : Okay H) (hh : HeapOk H) (hs : (second PT.lt H).x = 0) : H.2.1.x = 0 ∧ H.2.2.1.x = 0 ∧ H.2.2.2.x = 0 := by
  obtain ⟨p, q, r, t⟩ := H
  obtain ⟨⟨i1, i2, i3, i4⟩, a, b, c, d, e, f⟩ := h
  obtain ⟨g1, g2, g3⟩ := hh
  dsimp only at *
  unfold second at hs
  dsimp only at hs
  unfold gtp at g1 g2 g3
  cases h1 : PT.lt r q
  · rw [h1] at hs
    have hs' : r.x = 0 := hs
    have := lt_false h1 (Ne.symm d)
    unfold gtp at this
    omega
  · rw [h1] at hs
    have hs' : q.x = 0 := hs
    have := lt_iff.mp h1
    unfold gtp at this
    omega
theorem plaw {n0 n1 n2 n3 : Int} (hN : In4 (n0, n1, n2, n3)) {H : Four PT} {i i' : Nat} {log log' : List Ent} {X' : Ent} (hr : Run (heap0 n0 n1 n2 n3) i H log) (he : i = 60 ∨ (second PT.lt H).x = 0)
    (hp : PRun (n0, n1, n2, n3) i' X' log') (he' : i' = 60 ∨ PEnd X') :
    log = log' ∧ (∀ e ∈ log, EntOk e) ∧ H.1.x = meas n0 n1 n2 n3 ∧ H.2.1.x = 0 ∧ H.2.2.1.x = 0 ∧ H.2.2.2.x = 0 ∧ Four.All (fun t => dotE t.row (n0, n1, n2, n3) = t.x) H ∧ Okay H ∧
    ∃ X M, Four.All (Says X M) H ∧ mulE (backs log) M = unitE ∧ i ≤ 56 ∧ (∀ k, Low (10001 ^ i) (at4' M k)) ∧ ∀ k, Low (10001 ^ i) (at4' (backs log) k) := by
  obtain ⟨X, M, hx, hpx, hsay⟩ := bisim hr (heap0_okay hN) (heap0_heap hN) heap0_says
  have few := hx.few hN
  have hs : (second PT.lt H).x = 0 := by rcases he with he | he; · omega
                                         · exact he
  have ho := hr.okay (heap0_okay hN)
  have hh := hr.heap (heap0_okay hN) (heap0_heap hN)
  have hz := zeros ho hh hs
  obtain ⟨kp, p4, py, px, pm⟩ := hsay.1
  obtain ⟨ko, o4, oy, ox, om⟩ := second_all (P := Says X M) hsay.2.1 hsay.2.2.1
  have hE : PEnd X := by
    obtain ⟨a, b, hab⟩ := ord_tops ho hh hsay p4 o4 py oy px ox
    exact ⟨a, b, ko, kp, hab, ox.trans hs⟩
  have hE' : PEnd X' := by
    rcases he' with he' | he'
    · obtain ⟨Z, l, hZ, hn⟩ := hp.cut (i := i) (by omega)
      obtain ⟨rfl, _⟩ := hZ.same hpx
      exact absurd (hn (by omega)) hE.no
    · exact he'
  have lin := hx.linear
  have dots : ∀ t, Says X M t → dotE t.row (n0, n1, n2, n3) = t.x := by
    rintro t ⟨k, k4, _, kx, km⟩
    rw [← km, lin k k4, kx]
  have hdiv : ∀ d, d ∣ H.1.x ↔ Div4 d (n0, n1, n2, n3) := by
    intro d
    rw [← hx.div d]
    constructor
    · intro hd k hk
      obtain ⟨t, ht, _, tx, _⟩ := every ho hsay (P := fun t => t.x = H.1.x ∨ t.x = 0) ⟨.inl rfl, .inr hz.1, .inr hz.2.1, .inr hz.2.2⟩ k hk
      rw [tx]
      rcases ht with e | e
      · rw [e]; exact hd
      · rw [e]; exact Int.dvd_zero d
    · intro hd
      rw [← px]; exact hd kp p4
  have qs := hx.quots
  have bl := backs_low log qs.1
  rw [qs.2] at bl
  exact ⟨hpx.ends hp hE hE', hx.ok, meas_end ho.1.1.1 hdiv, hz.1, hz.2.1, hz.2.2, ⟨dots _ hsay.1, dots _ hsay.2.1, dots _ hsay.2.2.1, dots _ hsay.2.2.2⟩, ho, X, M, hsay, hx.inverse, few, hx.low, bl⟩
theorem pick_cast {k0 k1 k2 k3 : Nat} (j : Nat) : pick (k0 : Int) k1 k2 k3 j = ((pick k0 k1 k2 k3 j : Nat) : Int) :=
  match j with
  | 0 => rfl
  | 1 => rfl
  | 2 => rfl
  | _ + 3 => rfl
theorem pick_inj {k0 k1 k2 k3 : Nat} (a : k0 ≠ k1) (b : k0 ≠ k2) (c : k0 ≠ k3) (d : k1 ≠ k2) (e : k1 ≠ k3) (f : k2 ≠ k3) {i j : Nat} (hi : i < 4) (hj : j < 4) (h : pick k0 k1 k2 k3 i = pick k0 k1 k2 k3 j) : i = j :=
  (match i, hi with
  | 0, _ => match j, hj with
    | 0, _ => fun _ => rfl
    | 1, _ => fun h => absurd h a
    | 2, _ => fun h => absurd h b
    | 3, _ => fun h => absurd h c
  | 1, _ => match j, hj with
    | 0, _ => fun h => absurd (Eq.symm h) a
    | 1, _ => fun _ => rfl
    | 2, _ => fun h => absurd h d
    | 3, _ => fun h => absurd h e
  | 2, _ => match j, hj with
    | 0, _ => fun h => absurd (Eq.symm h) b
    | 1, _ => fun h => absurd (Eq.symm h) d
    | 2, _ => fun _ => rfl
    | 3, _ => fun h => absurd h f
  | 3, _ => match j, hj with
    | 0, _ => fun h => absurd (Eq.symm h) c
    | 1, _ => fun h => absurd (Eq.symm h) e
    | 2, _ => fun h => absurd (Eq.symm h) f
    | 3, _ => fun _ => rfl : pick k0 k1 k2 k3 i = pick k0 k1 k2 k3 j → i = j) h
theorem filt_one {b : Nat → Bool} {j : Nat} (hj : j < 4) (h : ∀ i, i < 4 → b i = decide (i = j)) : (List.range 4).filter b = [j] :=
  (List.filter_congr (fun i hi => h i (List.mem_range.mp hi))).trans (match j, hj with
  | 0, _ => rfl
  | 1, _ => rfl
  | 2, _ => rfl
  | 3, _ => rfl)
theorem rows_list {r0 r1 r2 r3 : Addr} {k0 k1 k2 k3 : Nat} (h0 : k0 < 4) (h1 : k1 < 4) (h2 : k2 < 4) (h3 : k3 < 4) (a : k0 ≠ k1) (b : k0 ≠ k2) (c : k0 ≠ k3) (d : k1 ≠ k2) (e : k1 ≠ k3) (f : k2 ≠ k3) :
    ∃ j0 j1 j2 j3 : Nat, flat2 (fun i j => decide ((pick (k0 : Int) k1 k2 k3 j) = ((i : Nat) : Int))) (fun j => Value.ref (pick r0 r1 r2 r3 j)) 4 4 = [.ref (pick r0 r1 r2 r3 j0), .ref (pick r0 r1 r2 r3 j1), .ref (pick r0 r1 r2 r3 j2), .ref (pick r0 r1 r2 r3 j3)] ∧
      pick k0 k1 k2 k3 j0 = 0 ∧ pick k0 k1 k2 k3 j1 = 1 ∧ pick k0 k1 k2 k3 j2 = 2 ∧ pick k0 k1 k2 k3 j3 = 3 := by
  have one : ∀ i, i < 4 → ∃ j, pick k0 k1 k2 k3 j = i ∧ (List.range 4).filter (fun j => decide ((pick (k0 : Int) k1 k2 k3 j) = ((i : Nat) : Int))) = [j] := by
    intro i hi
    have hs : ∃ j, j < 4 ∧ pick k0 k1 k2 k3 j = i :=
      (cover4 hi h0 h1 h2 h3 a b c d e f).elim (fun x => ⟨0, by decide, x.symm⟩) (Or.rec (fun x => ⟨1, by decide, x.symm⟩) (Or.rec (fun x => ⟨2, by decide, x.symm⟩) (fun x => ⟨3, by decide, x.symm⟩)))
    obtain ⟨j, hj, hp⟩ := hs
    refine ⟨j, hp, filt_one hj fun i' hi' => ?_⟩
    rw [pick_cast, ← hp]
    exact decide_eq_decide.mpr ⟨fun x => pick_inj a b c d e f hi' hj (Int.ofNat.inj x), fun x => by rw [x]⟩
  obtain ⟨j0, p0, f0⟩ := one 0 (by decide)
  obtain ⟨j1, p1, f1⟩ := one 1 (by decide)
  obtain ⟨j2, p2, f2⟩ := one 2 (by decide)
  obtain ⟨j3, p3, f3⟩ := one 3 (by decide)
  refine ⟨j0, j1, j2, j3, ?_, p0, p1, p2, p3⟩
  show List.map _ _ ++ (List.map _ _ ++ (List.map _ _ ++ (List.map _ _ ++ []))) = _
  rw [f0, f1, f2, f3]
  rfl
/-- the rows in the order of their places -/
theorem rows_by {S : Four RT} {X : Ent} {M : Four Ent} {l : List (Addr × Obj)} (hO : Okay (Four.map RT.p S)) (hS : Four.All (Says X M) (Four.map RT.p S)) (hI : Four.All (RT.In l) S) :
    ∃ R0 R1 R2 R3 : Rw, rowsOf S = [.ref R0.a, .ref R1.a, .ref R2.a, .ref R3.a] ∧ (∀ p ∈ [rowP R0, rowP R1, rowP R2, rowP R3], p ∈ l) ∧ (R0.row, R1.row, R2.row, R3.row) = M := by
  obtain ⟨T0, T1, T2, T3⟩ := S
  obtain ⟨_, a, b, c, d, e, f⟩ := hO
  obtain ⟨⟨k0, l0, y0, x0, m0⟩, ⟨k1, l1, y1, x1, m1⟩, ⟨k2, l2, y2, x2, m2⟩, ⟨k3, l3, y3, x3, m3⟩⟩ := hS
  dsimp only [Four.map] at *
  obtain ⟨j0, j1, j2, j3, hl, q0, q1, q2, q3⟩ := rows_list (r0 := T0.r) (r1 := T1.r) (r2 := T2.r) (r3 := T3.r) l0 l1 l2 l3 (ne_nat a y0 y1) (ne_nat b y0 y2) (ne_nat c y0 y3) (ne_nat d y1 y2) (ne_nat e y1 y3) (ne_nat f y2 y3)
  let W : RT → Rw := fun T => ⟨T.r, T.p.c0, T.p.c1, T.p.c2, T.p.c3, T.k0, T.k1, T.k2, T.k3, T.f⟩
  have hr : ∀ j, (W (pick T0 T1 T2 T3 j)).a = pick T0.r T1.r T2.r T3.r j := by
    intro j
    match j with
    | 0 => rfl
    | 1 => rfl
    | 2 => rfl
    | _ + 3 => rfl
  have hm : ∀ j, at4' M (pick k0 k1 k2 k3 j) = (W (pick T0 T1 T2 T3 j)).row := by
    intro j
    match j with
    | 0 => exact m0
    | 1 => exact m1
    | 2 => exact m2
    | _ + 3 => exact m3
  have hin : ∀ j, rowP (W (pick T0 T1 T2 T3 j)) ∈ l := by
    intro j
    exact pick_all (P := fun T => rowP (W T) ∈ l) hI.1.2 hI.2.1.2 hI.2.2.1.2 hI.2.2.2.2 j
  refine ⟨W (pick T0 T1 T2 T3 j0), W (pick T0 T1 T2 T3 j1), W (pick T0 T1 T2 T3 j2), W (pick T0 T1 T2 T3 j3), ?_, ?_, ?_⟩
  · rw [hr, hr, hr, hr, ← hl]
    unfold rowsOf
    dsimp only
    rw [y0, y1, y2, y3]
  · exact List.forall_mem_cons.mpr ⟨hin j0, List.forall_mem_cons.mpr ⟨hin j1, List.forall_mem_cons.mpr ⟨hin j2, List.forall_mem_cons.mpr ⟨hin j3, List.forall_mem_nil _⟩⟩⟩⟩
  · rw [← hm, ← hm, ← hm, ← hm, q0, q1, q2, q3]; rfl
end Mine

/-! # EQ1 -/
namespace Mine
theorem fresh_EQ1 : True := by
  w_top off
  exact True.intro
/-! ## == of two things that read the same -/
section
variable {prog : Program} {w : World} {A : Around} {E : Value → Shared → Prop} {s : Shared}
theorem eqSame {a b : Value} {d : PyData} {as bs : List Addr} {Q : Value → Shared → Prop} (ra : Reads s.heap a d as) (rb : Reads s.heap b d bs) (hd : SeqAt.shaped d = true) (hu : A.units + 64 < cLine) (h : Q (.bool true) s) :
    wpAny (model prog w) A (compareOp .Eq a b) Q E s :=
  eq_dataH ra rb hd hd hu (by rw [SeqAt.eqv_refl d (SeqAt.canLay_of_shaped hd)]; exact h)
end
def entD (e : Ent) : PyData := .tuple [.int e.1, .int e.2.1, .int e.2.2.1, .int e.2.2.2]
theorem reads_log {h₀ h : Heap} {L : Addr} {l : List (Addr × Obj)} {lv : List Value} {log : List Ent} (N : News h₀ L h l) (hl : LogIn l lv log) : ∃ as, ReadsAll h lv (log.map entD) as := by
  induction hl with
  | nil => exact ⟨_, .nil⟩
  | cons he _ ih =>
    obtain ⟨as, ih⟩ := ih
    obtain ⟨a, k1, k2, k3, k4, n, rfl, hm⟩ := he
    exact ⟨_, .cons (reads_tuple_at (N _ hm).1 rfl rfl (.cons (.int _ _) (.cons (.int _ _) (.cons (.int _ _) (.cons (.int _ _) .nil))))) ih⟩
theorem lay_log (log : List Ent) : PyData.canLayAll0 (log.map entD) = true := by
  induction log with
  | nil => rfl
  | cons e l ih => simp [PyData.canLayAll0, PyData.canLay0, entD]; simpa [entD] using ih
theorem depth_log (log : List Ent) : PyData.depthAll (log.map entD) ≤ 4 := by
  induction log with
  | nil => simp [PyData.depthAll]
  | cons e l ih =>
    simp only [List.map_cons, PyData.depthAll]
    have : (entD e).depth ≤ 4 := by simp [entD, PyData.depth, PyData.depthAll]
    omega
theorem shaped_log (log : List Ent) : SeqAt.shaped (.list (log.map entD)) = true := by
  unfold SeqAt.shaped
  have h1 := lay_log log
  have h2 := depth_log log
  simp only [PyData.canLay0, PyData.depth, h1, Bool.true_and]
  exact decide_eq_true (by omega)
theorem reads_list {h₀ h : Heap} {L : Addr} {l : List (Addr × Obj)} {a : Addr} {vs : Array Value} {n : Nat} {ds : List PyData} {as : List Addr} (N : News h₀ L h l) (hm : (a, listOf vs n) ∈ l) (hr : ReadsAll h vs.toList ds as) : Reads h (.ref a) (.list ds) (a :: as) := reads_list_at (N _ hm).1 rfl rfl hr
end Mine

/-! # LW -/
namespace Mine
theorem fresh_LW : True := by
  w_top off
  exact True.intro
/-! ## the contracts as the law asks them: what is known after a call, said from the caller's side -/
abbrev Led := List (Addr × Obj)
def CallOkE (w : World) (k : Nat) (f : Addr) (args : List Value) (news : Led) (R : (Value → Led → Prop) → Prop) : Prop :=
  ∀ (dp un : Nat) (gd : Option (List Code)) (cn : Str) (cs : Scope) (a : Addr) (ccd : Value) (cl : List (Str × Addr)) (outer : List Env) (A₀ : Around) (base h₀ : Heap) (L : Addr) (m : Str → Option Value) (s : Shared)
    (p : Program) (loose : List Str) (mean : ExcName → Option Value) (mg mb : Str → Option Value) (Q E : Value → Shared → Prop),
    Below A₀ base outer h₀ → Fr h₀ L s.heap m → (hd.heap_39 w.params).In h₀ → News h₀ L s.heap news → Top p loose mean mg mb h₀ → cs.kind = .function → dp + k < recursionLimit → un + 8 * k + 100 < cLine →
    R (fun r n => ∀ h' tk', Fr h₀ L h' m → News h₀ L h' n → Q r { s with heap := h', toks := tk' }) →
    wpAny (model PySem.Challenge.rw_mr0075_01.row.prog w) (ktrTop dp un gd cn cs L a ccd cl outer) (call (.ref f) args) Q E s
theorem CallOkE.use {w : World} {k : Nat} {f : Addr} {args : List Value} {news : Led} {R : (Value → Led → Prop) → Prop} (C : CallOkE w k f args news R)
    {dp un : Nat} {gd : Option (List Code)} {cn : Str} {cs : Scope} {a : Addr} {ccd : Value} {cl : List (Str × Addr)} {outer : List Env} {A₀ : Around} {base h₀ : Heap} {L : Addr} {m : Str → Option Value} {s : Shared}
    {p : Program} {loose : List Str} {mean : ExcName → Option Value} {mg mb : Str → Option Value} {Q E : Value → Shared → Prop}
    (B : Below A₀ base outer h₀) (F : Fr h₀ L s.heap m) (X : (hd.heap_39 w.params).In h₀) (N : News h₀ L s.heap news) (T : Top p loose mean mg mb h₀) (hk : cs.kind = .function) (hd : dp + k < recursionLimit) (hu : un + 8 * k + 100 < cLine)
    (ret : R (fun r n => ∀ h' tk', Fr h₀ L h' m → News h₀ L h' n → Q r { s with heap := h', toks := tk' })) :
    wpAny (model PySem.Challenge.rw_mr0075_01.row.prog w) (ktrTop dp un gd cn cs L a ccd cl outer) (call (.ref f) args) Q E s :=
  C _ _ _ _ _ _ _ _ _ _ _ _ _ _ _ _ _ _ _ _ _ _ B F X N T hk hd hu ret
theorem CallOk.toE {w : World} {k : Nat} {f : Addr} {args : List Value} {news : Led} {Post : Value → Led → Prop} {R : (Value → Led → Prop) → Prop} (C : CallOk w k f args news Post)
    (hR : ∀ G : Value → Led → Prop, R G → ∀ r n, Post r n → ∃ n', (∀ p ∈ n', p ∈ n) ∧ G r n') : CallOkE w k f args news R :=
  fun dp un gd cn cs a ccd cl outer A₀ base h₀ L m s p loose mean mg mb Q E B F X N T hc hd hu ret =>
    C _ _ _ _ _ _ _ _ _ _ _ _ _ _ _ _ _ _ _ _ _ _ B F X N T hc hd hu fun r n h' tk' F' N' P => by
      obtain ⟨n', hs, g⟩ := hR _ ret r n P
      exact g h' tk' F' fun p hp => N' p (hs p hp)
theorem MakeOk.toE {w : World} {k : Nat} {f : Addr} {args : List Value} {l : Led} {Post : Value → Led → Prop} {R : (Value → Led → Prop) → Prop} (C : MakeOk w k f args l Post)
    (hR : ∀ G : Value → Led → Prop, R G → ∀ r new l', (∀ p ∈ l, p ∈ l') → (∀ p ∈ new, p ∈ l') → Post r new → G r l') : CallOkE w k f args l R :=
  CallOk.toE C fun G g r n ⟨new, e, ap, P⟩ => ⟨n, fun _ h => h, hR G g r new n (fun p hp => e ▸ List.mem_append_right _ hp) (fun p hp => e ▸ List.mem_append_left _ hp) P⟩

/-- the numbers, the heap of things and what lies under it -/
def LawAt (R : Rw) (hp : Addr) (S : Four RT) (rest : Led) : Prop := (∀ p ∈ rest, p.1 ≠ hp) ∧ rowP R ∈ rest ∧ Four.All (RT.In rest) S
def LogAt (l : Led) (a : Addr) (log : List Ent) : Prop := ∃ lv n, (a, listOf lv.toArray n) ∈ l ∧ LogIn l lv log
def Known (R : Rw) (hp : Addr) (V : Four RT) (lg : Addr) (log : List Ent) (l : Led) : Prop := rowP R ∈ l ∧ (∃ e, (hp, listOf (vals V) e) ∈ l) ∧ Four.All (RT.In l) V ∧ LogAt l lg log
def RowsAt (l : Led) (a : Addr) (B : Four Rw) : Prop := (∃ e, (a, listOf #[.ref B.1.a, .ref B.2.1.a, .ref B.2.2.1.a, .ref B.2.2.2.a] e) ∈ l) ∧ Four.All (fun r => rowP r ∈ l) B
def EndsAt (l : Led) (a : Addr) (m : Int) : Prop := ∃ A0 A1 A2 A3 e, (a, listOf #[.ref A0, .ref A1, .ref A2, .ref A3] e) ∈ l ∧ PairAt l A0 m m ∧ PairAt l A1 0 0 ∧ PairAt l A2 0 0 ∧ PairAt l A3 0 0
theorem LogAt.mono {l l' : Led} {a : Addr} {log : List Ent} (h : LogAt l a log) (hs : ∀ p ∈ l, p ∈ l') : LogAt l' a log := by
  obtain ⟨lv, n, a, b⟩ := h
  exact ⟨lv, n, hs _ a, b.mono hs⟩
theorem allIn_mono {l l' : Led} {S : Four RT} (h : Four.All (RT.In l) S) (hs : ∀ p ∈ l, p ∈ l') : Four.All (RT.In l') S := ⟨h.1.mono hs, h.2.1.mono hs, h.2.2.1.mono hs, h.2.2.2.mono hs⟩
theorem Known.mono {R : Rw} {hp lg : Addr} {V : Four RT} {log : List Ent} {l l' : Led} (h : Known R hp V lg log l) (hs : ∀ p ∈ l, p ∈ l') : Known R hp V lg log l' := by
  obtain ⟨a, ⟨e, b⟩, c, d⟩ := h
  exact ⟨hs _ a, ⟨e, hs _ b⟩, allIn_mono c hs, d.mono hs⟩
theorem Known.log {R : Rw} {hp lg : Addr} {V : Four RT} {log : List Ent} {l : Led} (h : Known R hp V lg log l) : LogAt l lg log := h.2.2.2
theorem RowsAt.mono {l l' : Led} {a : Addr} {B : Four Rw} (h : RowsAt l a B) (hs : ∀ p ∈ l, p ∈ l') : RowsAt l' a B := by
  obtain ⟨⟨e, b⟩, c⟩ := h
  exact ⟨⟨e, hs _ b⟩, hs _ c.1, hs _ c.2.1, hs _ c.2.2.1, hs _ c.2.2.2⟩

theorem mem5c {α : Type} {l : List α} {a b c d e : α} (ha : a ∈ l) (hb : b ∈ l) (hc : c ∈ l) (hd : d ∈ l) (he : e ∈ l) : ∀ p ∈ [a, b, c, d, e], p ∈ l :=
  List.forall_mem_cons.mpr ⟨ha, List.forall_mem_cons.mpr ⟨hb, List.forall_mem_cons.mpr ⟨hc, List.forall_mem_cons.mpr ⟨hd, List.forall_mem_singleton.mpr he⟩⟩⟩⟩
theorem mem10c {α : Type} {l : List α} {a b c d e f g h i j : α} (ha : a ∈ l) (hb : b ∈ l) (hc : c ∈ l) (hd : d ∈ l) (he : e ∈ l) (hf : f ∈ l) (hg : g ∈ l) (hh : h ∈ l) (hi : i ∈ l) (hj : j ∈ l) : ∀ p ∈ [a, b, c, d, e, f, g, h, i, j], p ∈ l :=
  List.forall_mem_cons.mpr ⟨ha, List.forall_mem_cons.mpr ⟨hb, List.forall_mem_cons.mpr ⟨hc, List.forall_mem_cons.mpr ⟨hd, List.forall_mem_cons.mpr ⟨he, mem5c hf hg hh hi hj⟩⟩⟩⟩⟩
theorem of5 {l l' : Led} {a : Addr} {B : Four Rw} {e : Nat} (hn : ∀ p ∈ [(a, listOf #[.ref B.1.a, .ref B.2.1.a, .ref B.2.2.1.a, .ref B.2.2.2.a] e), rowP B.1, rowP B.2.1, rowP B.2.2.1, rowP B.2.2.2], p ∈ l') : RowsAt l' a B :=
  ⟨⟨e, hn _ (.head _)⟩, hn _ (.tail _ (.head _)), hn _ (.tail _ (.tail _ (.head _))), hn _ (.tail _ (.tail _ (.tail _ (.head _)))), hn _ (.tail _ (.tail _ (.tail _ (.tail _ (.head _)))))⟩
theorem PairAt.up {l l' : Led} {a : Addr} {x y m n : Int} (h : PairAt l a x y) (hs : ∀ p ∈ l, p ∈ l') (ex : x = m) (ey : y = n) : PairAt l' a m n := by
  obtain ⟨u, v, w, hp⟩ := h
  subst ex; subst ey
  exact ⟨u, v, w, hs _ hp⟩
theorem numbersE {w : World} {sc : Addr} {vs : List Value} {ns : List Int} (hv : IntsAre vs ns) (hlen : ns.length ≤ 63)
    {dp un : Nat} {gd : Option (List Code)} {cn : Str} {cs : Scope} {a : Addr} {ccd : Value} {cl : List (Str × Addr)} {outer : List Env} {A₀ : Around} {base h₀ : Heap} {L : Addr} {m : Str → Option Value} {s : Shared}
    {p : Program} {loose : List Str} {mean : ExcName → Option Value} {mg mb : Str → Option Value} {Q E : Value → Shared → Prop}
    (hl : h₀.IsList sc vs.toArray) (B : Below A₀ base outer h₀) (F : Fr h₀ L s.heap m) (X : (hd.heap_39 w.params).In h₀) (N : News h₀ L s.heap []) (T : Top p loose mean mg mb h₀) (hk : cs.kind = .function) (hd : dp + 9 < recursionLimit) (hu : un + 8 * 9 + 100 < cLine)
    (ret : ∀ R : Rw, In4 R.row → ∀ h' tk', Fr h₀ L h' m → News h₀ L h' [rowP R] → Q (.ref R.a) { s with heap := h', toks := tk' }) :
    wpAny (model PySem.Challenge.rw_mr0075_01.row.prog w) (ktrTop dp un gd cn cs L a ccd cl outer) (call (.ref 82) [.ref sc]) Q E s :=
  CallOkL.use (numbers hv hlen) hl B F X N T hk hd hu fun r n h' tk' F' N' P => by
    obtain ⟨nb, n0, n1, n2, n3, k0, k1, k2, k3, en, e1, e2, b0, b1, b2, b3, _⟩ := P
    subst e1; subst e2
    exact ret ⟨nb, n0, n1, n2, n3, k0, k1, k2, k3, en⟩ (pick_all (P := fun z : Int => 0 ≤ z ∧ z < 10000) b0 b1 b2 b3) h' tk' F' N'
theorem thingsE {w : World} {R : Rw} : CallOkE w 14 92 [.ref R.a] [rowP R] (fun G => ∀ hp S ep rest, LawAt R hp S rest → Four.map RT.p S = start R.c0 R.c1 R.c2 R.c3 → G (.ref hp) ((hp, listOf (vals S) ep) :: rest)) := by
  refine CallOk.toE (things (nb := R.a) (n0 := R.c0) (n1 := R.c1) (n2 := R.c2) (n3 := R.c3) (k0 := R.k0) (k1 := R.k1) (k2 := R.k2) (k3 := R.k3) (en := R.e) (news := [rowP R]) (fun p hp => hp)) ?_
  rintro G g r n ⟨new, rfl, ap, hp, S, ep, l, rfl, rfl, hin, hmap, hoff⟩
  refine ⟨_, fun _ h => h, g hp S ep (l ++ [rowP R]) ⟨?_, List.mem_append_right _ (.head _), allIn_mono hin fun p hp => List.mem_append_left _ hp⟩ hmap⟩
  intro p hp'
  rcases List.mem_append.mp hp' with h | h
  · exact hoff p h
  · rw [List.mem_singleton.mp h]; exact ap _ (.head _) _ (.head _)
theorem hpf_vals (T0 T1 T2 T3 : RT) : vals4 (hpf T0.th T1.th T2.th T3.th) = vals (ghpf RT.lt T0 T1 T2 T3) := by
  show vals4 (ghpf Th.lt T0.th T1.th T2.th T3.th) = _
  rw [ghpf_map RT.th Th.lt (lt := RT.lt) (fun a b => rfl)]; rfl
theorem hpf_p (T0 T1 T2 T3 : RT) : Four.map RT.p (ghpf RT.lt T0 T1 T2 T3) = ghpf PT.lt T0.p T1.p T2.p T3.p := (ghpf_map RT.p PT.lt (lt := RT.lt) (fun a b => rfl) T0 T1 T2 T3).symm
theorem heapifyE {w : World} {R : Rw} {hp : Addr} {S : Four RT} {ep : Nat} {rest : Led} (h : LawAt R hp S rest) (hm : Four.map RT.p S = start R.c0 R.c1 R.c2 R.c3) (hN : In4 R.row) :
    CallOkE w 9 28 [.ref hp] ((hp, listOf (vals S) ep) :: rest) (fun G => ∀ S', LawAt R hp S' rest → Four.map RT.p S' = heap0 R.c0 R.c1 R.c2 R.c3 → G .none ((hp, listOf (vals S') ep) :: rest)) := by
  obtain ⟨hrest, hR, i⟩ := h
  obtain ⟨T0, T1, T2, T3⟩ := S
  have ho := start_okay hN
  rw [← hm] at ho
  refine CallOk.toE (heapify hrest i.1.1 i.2.1.1 i.2.2.1.1 i.2.2.2.1 (fun h => ho.2.1 h.2) (fun h => ho.2.2.1 h.2) (fun h => ho.2.2.2.1 h.2) (fun h => ho.2.2.2.2.1 h.2) (fun h => ho.2.2.2.2.2.1 h.2) (fun h => ho.2.2.2.2.2.2 h.2)) ?_
  rintro G g r n ⟨rfl, rfl⟩
  refine ⟨_, fun _ h => h, ?_⟩
  have k := g (ghpf RT.lt T0 T1 T2 T3) ⟨hrest, hR, ghpf_all (lt := RT.lt) (P := RT.In rest) i.1 i.2.1 i.2.2.1 i.2.2.2⟩ (by
    rw [hpf_p]
    simp only [Four.map, start, Prod.mk.injEq] at hm
    obtain ⟨a, b, c, d⟩ := hm
    rw [a, b, c, d]; rfl)
  rw [← hpf_vals] at k
  exact k
theorem overE {w : World} {R : Rw} {hp : Addr} {S : Four RT} {ep : Nat} {rest : Led} (h : LawAt R hp S rest) (hm : Four.map RT.p S = heap0 R.c0 R.c1 R.c2 R.c3) (hN : In4 R.row) :
    CallOkE w 20 104 [.ref hp] ((hp, listOf (vals S) ep) :: rest) (fun G => ∀ rest', LawAt R hp S rest' → G (.bool true) ((hp, listOf (vals S) ep) :: rest')) := by
  obtain ⟨hrest, hR, i⟩ := h
  obtain ⟨T0, T1, T2, T3⟩ := S
  have hO := heap0_okay hN
  have hH := heap0_heap hN
  rw [← hm] at hO hH
  refine CallOk.toE (over hrest i.1 i.2.1 i.2.2.1 i.2.2.2 (fun h => hO.2.2.2.2.1 h.2) hH.1 hH.2.1 (gtp_trans hH.1 hH.2.2)) ?_
  rintro G g r n ⟨rfl, rest', rfl, hs, hr'⟩
  exact ⟨_, fun _ h => h, g rest' ⟨hr', hs _ hR, allIn_mono i hs⟩⟩
theorem downE {w : World} {R : Rw} {hp : Addr} {S : Four RT} {ep : Nat} {rest : Led} (h : LawAt R hp S rest) (hm : Four.map RT.p S = heap0 R.c0 R.c1 R.c2 R.c3) (hN : In4 R.row) :
    CallOkE w 20 111 [.ref hp] ((hp, listOf (vals S) ep) :: rest) (fun G => ∀ lg V log i l, Known R hp V lg log l → Run (heap0 R.c0 R.c1 R.c2 R.c3) i (Four.map RT.p V) log → (i = 60 ∨ (second PT.lt (Four.map RT.p V)).x = 0) → G (.ref lg) l) := by
  obtain ⟨hrest, hR, i⟩ := h
  have hO := heap0_okay hN
  rw [← hm] at hO
  refine CallOk.toE (down hrest i hO) ?_
  rintro G g r n ⟨lg, i, V, lv, log, ln, rest2, rfl, hlh, _, ⟨rfl, hs2, hrest2, hrest2', hS2, hlog, hrun⟩, hend⟩
  have up : ∀ p ∈ rest2, p ∈ (lg, listOf lv.toArray ln) :: (hp, listOf (vals V) ep) :: rest2 := fun p hp => .tail _ (.tail _ hp)
  exact ⟨_, fun _ h => h, g lg V log i _ ⟨up _ (hs2 _ hR), ⟨_, .tail _ (.head _)⟩, allIn_mono hS2 up, lv, ln, .head _, hlog.mono up⟩ (hm ▸ hrun) hend⟩
theorem measureE {w : World} {R : Rw} {hp lg : Addr} {V : Four RT} {log : List Ent} {l : Led} (h : Known R hp V lg log l) (hN : In4 R.row) :
    CallOkE w 9 123 [.ref R.a] l (fun G => ∀ tk, G (.int (meas R.c0 R.c1 R.c2 R.c3) tk) l) := by
  refine CallOk.toE (measure (nb := R.a) (n0 := R.c0) (n1 := R.c1) (n2 := R.c2) (n3 := R.c3) (k0 := R.k0) (k1 := R.k1) (k2 := R.k2) (k3 := R.k3) (en := R.e) (hN 0).1 (hN 1).1 (hN 2).1 (hN 3).1 (List.forall_mem_singleton.mpr h.1)) ?_
  rintro G g r n ⟨rfl, tk, rfl⟩
  exact ⟨_, fun _ h => h, g tk⟩
/-- what the turns come to (Brun) -/
def Brun (R : Rw) (V : Four RT) (log : List Ent) : Prop :=
  ∃ i, (∀ e ∈ log, EntOk e) ∧ V.1.p.x = meas R.c0 R.c1 R.c2 R.c3 ∧ V.2.1.p.x = 0 ∧ V.2.2.1.p.x = 0 ∧ V.2.2.2.p.x = 0 ∧ Four.All (fun t => dotE t.row R.row = t.x) (Four.map RT.p V) ∧ Okay (Four.map RT.p V) ∧
    ∃ X M, Four.All (Says X M) (Four.map RT.p V) ∧ mulE (backs log) M = unitE ∧ i ≤ 56 ∧ (∀ k, Low (10001 ^ i) (at4' M k)) ∧ ∀ k, Low (10001 ^ i) (at4' (backs log) k)
theorem Brun.ok {R : Rw} {V : Four RT} {log : List Ent} (h : Brun R V log) : ∀ e ∈ log, EntOk e := by obtain ⟨_, a, _⟩ := h; exact a
theorem Brun.x {R : Rw} {V : Four RT} {log : List Ent} (h : Brun R V log) : V.1.p.x = meas R.c0 R.c1 R.c2 R.c3 ∧ V.2.1.p.x = 0 ∧ V.2.2.1.p.x = 0 ∧ V.2.2.2.p.x = 0 := by
  obtain ⟨_, _, a, b, c, d, _⟩ := h
  exact ⟨a, b, c, d⟩
theorem Brun.y {R : Rw} {V : Four RT} {log : List Ent} (h : Brun R V log) : dotE V.1.p.row R.row = meas R.c0 R.c1 R.c2 R.c3 ∧ dotE V.2.1.p.row R.row = 0 ∧ dotE V.2.2.1.p.row R.row = 0 ∧ dotE V.2.2.2.p.row R.row = 0 := by
  obtain ⟨_, _, a, b, c, d, e, _⟩ := h
  exact ⟨e.1.trans a, e.2.1.trans b, e.2.2.1.trans c, e.2.2.2.trans d⟩
theorem plainE {w : World} {R : Rw} {hp lg : Addr} {V : Four RT} {log : List Ent} {l : Led} {i : Nat} (h : Known R hp V lg log l) (hN : In4 R.row) (hrun : Run (heap0 R.c0 R.c1 R.c2 R.c3) i (Four.map RT.p V) log) (hend : i = 60 ∨ (second PT.lt (Four.map RT.p V)).x = 0) :
    CallOkE w 20 116 [.ref R.a] l (fun G => ∀ pl l', Known R hp V lg log l' → LogAt l' pl log → Brun R V log → G (.ref pl) l') := by
  refine MakeOk.toE (plain (nb := R.a) (n0 := R.c0) (n1 := R.c1) (n2 := R.c2) (n3 := R.c3) (k0 := R.k0) (k1 := R.k1) (k2 := R.k2) (k3 := R.k3) (en := R.e) hN (List.forall_mem_singleton.mpr h.1)) ?_
  rintro G g r new l' hs hn ⟨pl, lv, ln, log', i', X', rst, er, en, _, hlog', hprun, hpend⟩
  obtain ⟨e, hb⟩ := plaw hN hrun hend hprun hpend
  subst e; subst er; subst en
  exact g pl l' (h.mono hs) ⟨lv, ln, hn _ (.head _), hlog'.mono fun p hp' => hn p (.tail _ hp')⟩ ⟨i, hb⟩
theorem eqLogs {prog : Program} {w : World} {A : Around} {E : Value → Shared → Prop} {s : Shared} {h₀ : Heap} {L : Addr} {l : Led} {a b : Addr} {log : List Ent} {Q : Value → Shared → Prop} (N : News h₀ L s.heap l) (ha : LogAt l a log) (hb : LogAt l b log) (hu : A.units + 64 < cLine) (h : Q (.bool true) s) :
    wpAny (model prog w) A (compareOp .Eq (.ref a) (.ref b)) Q E s := by
  obtain ⟨va, na, ma, la⟩ := ha
  obtain ⟨vb, nb, mb, lb⟩ := hb
  obtain ⟨as1, ra⟩ := reads_log N la
  obtain ⟨as2, rb⟩ := reads_log N lb
  exact eqSame (reads_list N ma ra) (reads_list N mb rb) (shaped_log log) hu h
theorem endsE {w : World} {R : Rw} {hp lg : Addr} {V : Four RT} {log : List Ent} {l : Led} (h : Known R hp V lg log l) (hN : In4 R.row) (hb : Brun R V log) :
    CallOkE w 14 153 [.ref hp, .ref R.a] l (fun G => ∀ D l', Known R hp V lg log l' → EndsAt l' D (meas R.c0 R.c1 R.c2 R.c3) → G (.ref D) l') := by
  have bx := hb.x
  have by' := hb.y
  have hk := h
  obtain ⟨hR, ⟨ep, hh⟩, i, _⟩ := hk
  refine MakeOk.toE (ends (T0 := V.1) (T1 := V.2.1) (T2 := V.2.2.1) (T3 := V.2.2.2) (n0 := R.c0) (n1 := R.c1) (n2 := R.c2) (n3 := R.c3) (k0 := R.k0) (k1 := R.k1) (k2 := R.k2) (k3 := R.k3) (en := R.e)
    (bits_small (hN 0).1 (hN 0).2) (bits_small (hN 1).1 (hN 1).2) (bits_small (hN 2).1 (hN 2).2) (bits_small (hN 3).1 (hN 3).2)
    (mem10c hh i.1.1 i.2.1.1 i.2.2.1.1 i.2.2.2.1 i.1.2 i.2.1.2 i.2.2.1.2 i.2.2.2.2 hR)) ?_
  rintro G g r new l' hs hn ⟨D, A0, A1, A2, A3, e, l5, er, en, ha, hb', hc, hd'⟩
  subst er; subst en
  have up : ∀ p ∈ l5, p ∈ l' := fun p hp => hn p (.tail _ hp)
  exact g D l' (h.mono hs) ⟨A0, A1, A2, A3, e, hn _ (.head _), ha.up up bx.1 by'.1, hb'.up up bx.2.1 by'.2.1, hc.up up bx.2.2.1 by'.2.2.1, hd'.up up bx.2.2.2 by'.2.2.2⟩
theorem eqEnds {prog : Program} {w : World} {A : Around} {E : Value → Shared → Prop} {s : Shared} {h₀ : Heap} {L : Addr} {l : Led} {a : Addr} {b : Value} {bs : List Addr} {m : Int} {Q : Value → Shared → Prop} (N : News h₀ L s.heap l) (ha : EndsAt l a m)
    (rb : Reads s.heap b (.list [.tuple [.int m, .int m], .tuple [.int 0, .int 0], .tuple [.int 0, .int 0], .tuple [.int 0, .int 0]]) bs) (hu : A.units + 64 < cLine) (h : Q (.bool true) s) :
    wpAny (model prog w) A (compareOp .Eq (.ref a) b) Q E s := by
  obtain ⟨A0, A1, A2, A3, e, hD, ⟨u0, v0, w0, ha⟩, ⟨u1, v1, w1, hb⟩, ⟨u2, v2, w2, hc⟩, ⟨u3, v3, w3, hd⟩⟩ := ha
  exact eqSame (reads_list N hD (.cons (reads_tuple_at (N _ ha).1 rfl rfl (.cons (.int _ _) (.cons (.int _ _) .nil))) (.cons (reads_tuple_at (N _ hb).1 rfl rfl (.cons (.int _ _) (.cons (.int _ _) .nil))) (.cons (reads_tuple_at (N _ hc).1 rfl rfl (.cons (.int _ _) (.cons (.int _ _) .nil))) (.cons (reads_tuple_at (N _ hd).1 rfl rfl (.cons (.int _ _) (.cons (.int _ _) .nil))) .nil))))) rb (by rfl) hu h
theorem backE {w : World} {R : Rw} {hp lg : Addr} {V : Four RT} {log : List Ent} {l : Led} (h : Known R hp V lg log l) (hb : Brun R V log) :
    CallOkE w 24 128 [.ref lg] l (fun G => ∀ bl B l', Known R hp V lg log l' → RowsAt l' bl B → Four.map Rw.row B = backs log → G (.ref bl) l') := by
  have hk := h
  obtain ⟨_, _, _, lv, ln, hm, hlog⟩ := hk
  refine MakeOk.toE (back (rest := l) hlog hb.ok (List.forall_mem_cons.mpr ⟨hm, fun p hp => hp⟩)) ?_
  rintro G g r new l' hs hn ⟨D, Q0, Q1, Q2, Q3, e, er, en, hB⟩
  subst er; subst en
  exact g D (Q0, Q1, Q2, Q3) l' (h.mono hs) (of5 (l := l) (B := (Q0, Q1, Q2, Q3)) hn) hB
theorem rowsE {w : World} {R : Rw} {hp lg bl : Addr} {V : Four RT} {B : Four Rw} {log : List Ent} {l : Led} (h : Known R hp V lg log l) (hb : Brun R V log) (hB : RowsAt l bl B) (eB : Four.map Rw.row B = backs log) :
    CallOkE w 9 143 [.ref hp] l (fun G => ∀ rl P l', RowsAt l' bl B → RowsAt l' rl P → Four.All Rw.Small B → Four.All Rw.Small P → mulE (Four.map Rw.row B) (Four.map Rw.row P) = unitE → G (.ref rl) l') := by
  obtain ⟨_, ⟨ep, hh⟩, i, _⟩ := h
  obtain ⟨j, _, _, _, _, _, _, hOk, X, M, hsay, hinv, few, lowM, lowB⟩ := hb
  obtain ⟨R0, R1, R2, R3, hrl, hRin, hM⟩ := rows_by hOk hsay i
  rw [← eB] at hinv lowB
  rw [← hM] at hinv lowM
  have sB : Four.All Rw.Small B := ⟨Rw.small_low (lowB 0) few, Rw.small_low (lowB 1) few, Rw.small_low (lowB 2) few, Rw.small_low (lowB 3) few⟩
  have sP : Four.All Rw.Small (R0, R1, R2, R3) := ⟨Rw.small_low (lowM 0) few, Rw.small_low (lowM 1) few, Rw.small_low (lowM 2) few, Rw.small_low (lowM 3) few⟩
  clear lowM lowB few hsay hOk hM
  refine MakeOk.toE (rows (T0 := V.1) (T1 := V.2.1) (T2 := V.2.2.1) (T3 := V.2.2.2) (mem5c hh i.1.1 i.2.1.1 i.2.2.1.1 i.2.2.2.1)) ?_
  rintro G g r new l' hs hn ⟨D, e, er, en⟩
  subst er; subst en
  have hm := hn _ (.head _)
  rw [show rowsOf (V.1, V.2.1, V.2.2.1, V.2.2.2) = _ from hrl] at hm
  exact g D (R0, R1, R2, R3) l' (hB.mono hs) ⟨⟨e, hm⟩, hs _ (hRin _ (.head _)), hs _ (hRin _ (.tail _ (.head _))), hs _ (hRin _ (.tail _ (.tail _ (.head _)))), hs _ (hRin _ (.tail _ (.tail _ (.tail _ (.head _)))))⟩ sB sP hinv
theorem undoneE {w : World} {bl rl : Addr} {B P : Four Rw} {l : Led} (hB : RowsAt l bl B) (hP : RowsAt l rl P) (sB : Four.All Rw.Small B) (sP : Four.All Rw.Small P) (hm : mulE (Four.map Rw.row B) (Four.map Rw.row P) = unitE) :
    CallOkE w 24 138 [.ref bl, .ref rl] l (fun G => ∀ D W l', RowsAt l' D W → Four.map Rw.row W = unitE → G (.ref D) l') := by
  obtain ⟨⟨eb, hb⟩, ib⟩ := hB
  obtain ⟨⟨er, hr⟩, ir⟩ := hP
  refine MakeOk.toE (undone sB.1 sB.2.1 sB.2.2.1 sB.2.2.2 sP.1 sP.2.1 sP.2.2.1 sP.2.2.2
    (mem10c hb ib.1 ib.2.1 ib.2.2.1 ib.2.2.2 hr ir.1 ir.2.1 ir.2.2.1 ir.2.2.2)) ?_
  rintro G g r new l' hs hn ⟨D, W0, W1, W2, W3, er, en, g0, g1, g2, g3⟩
  subst er; subst en
  refine g D (W0, W1, W2, W3) l' (of5 (l := l) (B := (W0, W1, W2, W3)) hn) ?_
  show (W0.row, W1.row, W2.row, W3.row) = unitE
  rw [g0, g1, g2, g3]
  exact hm
theorem unitsE {w : World} {D : Addr} {W : Four Rw} {l : Led} (hW : RowsAt l D W) :
    CallOkE w 14 148 [] l (fun G => ∀ D' W' l', RowsAt l' D W → RowsAt l' D' W' → Four.map Rw.row W' = unitE → G (.ref D') l') := by
  refine CallOk.toE (unitsX (news := l)) ?_
  rintro G g r n ⟨D9, Q0, Q1, Q2, Q3, e9, rfl, rfl, q0, q1, q2, q3, _, _⟩
  refine ⟨_, fun _ h => h, g D9 (Q0, Q1, Q2, Q3) _ (hW.mono ?_) ⟨⟨e9, .head _⟩, .tail _ (.head _), .tail _ (.tail _ (.head _)), .tail _ (.tail _ (.tail _ (.head _))), .tail _ (.tail _ (.tail _ (.tail _ (.head _))))⟩ ?_⟩
  · exact fun p hp => .tail _ (.tail _ (.tail _ (.tail _ (.tail _ hp))))
  · show (Q0.row, Q1.row, Q2.row, Q3.row) = unitE
    rw [q0, q1, q2, q3]; rfl
theorem reads_rows {h₀ h : Heap} {L : Addr} {l : Led} {a : Addr} {W : Four Rw} (N : News h₀ L h l) (hW : RowsAt l a W) (e : Four.map Rw.row W = unitE) :
    ∃ as, Reads h (.ref a) (.list [.list [.int 1, .int 0, .int 0, .int 0], .list [.int 0, .int 1, .int 0, .int 0], .list [.int 0, .int 0, .int 1, .int 0], .list [.int 0, .int 0, .int 0, .int 1]]) as := by
  have row : ∀ {R : Rw} {a b c d : Int}, rowP R ∈ l → R.row = (a, b, c, d) → Reads h (.ref R.a) (.list [.int a, .int b, .int c, .int d]) (R.a :: ([] ++ ([] ++ ([] ++ ([] ++ []))))) := by
    intro R a b c d hm hr
    simp only [Rw.row, Prod.mk.injEq] at hr
    obtain ⟨rfl, rfl, rfl, rfl⟩ := hr
    exact reads_list N hm (.cons (.int _ _) (.cons (.int _ _) (.cons (.int _ _) (.cons (.int _ _) .nil))))
  obtain ⟨⟨n, hm⟩, i⟩ := hW
  have e' : (W.1.row, W.2.1.row, W.2.2.1.row, W.2.2.2.row) = ((1, 0, 0, 0), (0, 1, 0, 0), (0, 0, 1, 0), (0, 0, 0, 1)) := e
  simp only [Prod.mk.injEq] at e'
  exact ⟨_, reads_list N hm (.cons (row i.1 e'.1) (.cons (row i.2.1 e'.2.1) (.cons (row i.2.2.1 e'.2.2.1) (.cons (row i.2.2.2 e'.2.2.2) .nil))))⟩
theorem eqRows {prog : Program} {w : World} {A : Around} {E : Value → Shared → Prop} {s : Shared} {h₀ : Heap} {L : Addr} {l : Led} {a b : Addr} {W W' : Four Rw} {Q : Value → Shared → Prop} (N : News h₀ L s.heap l) (ha : RowsAt l a W) (ea : Four.map Rw.row W = unitE) (hb : RowsAt l b W') (eb : Four.map Rw.row W' = unitE)
    (hu : A.units + 64 < cLine) (h : Q (.bool true) s) :
    wpAny (model prog w) A (compareOp .Eq (.ref a) (.ref b)) Q E s := by
  obtain ⟨as, ra⟩ := reads_rows N ha ea
  obtain ⟨bs, rb⟩ := reads_rows N hb eb
  exact eqSame ra rb (by rfl) hu h
end Mine

/-! # L20 -/
namespace Mine
theorem fresh_L20 : True := by
  w_top off
  exact True.intro
theorem law_try : PySem.Challenge.rw_mr0075_01.Holds := Mine.hd (by
  k_fill
  k_go0
  (all_goals try k_fold)
  repeat' (first | (k_unfold; (try dsimp only)) | (k_end; wrow_close) | ((fail_if_success (with_reducible show wpAny _ _ (call (Value.ref _) _) _ _ _)); (fail_if_success (with_reducible show wpAny _ _ (compareOp CmpOp.Eq (Value.ref _) (Value.ref _)) _ _ _)); first | (walk1; try k_fold) | (dsimp only; walk1; try k_fold)) | (leave1; (try dsimp only)))
  rename IntsAre _ _ => hints
  k_dflt (refine' numbersE hints (by omega) (by assumption) ?kB ?kF ?kX ?kN ?kT ?kk ?kd ?ku ?_; (case kN => k_asm); (case kB => k_asm); (case kF => k_asm); (case kX => k_asm); (case kT => k_asm); (case kk => exact rfl); (case kd => decide); (case ku => decide); k_whole)
  intro R hN h1 tk1 F1 N1
  repeat' (first | (k_unfold; (try dsimp only)) | (k_end; wrow_close) | ((fail_if_success (with_reducible show wpAny _ _ (call (Value.ref _) _) _ _ _)); (fail_if_success (with_reducible show wpAny _ _ (compareOp CmpOp.Eq (Value.ref _) (Value.ref _)) _ _ _)); first | (walk1; try k_fold) | (dsimp only; walk1; try k_fold)) | (leave1; (try dsimp only)))
  k_dflt (refine' CallOkE.use (thingsE) ?kB ?kF ?kX ?kN ?kT ?kk ?kd ?ku ?_; (case kN => k_asm); (case kB => k_asm); (case kF => k_asm); (case kX => k_asm); (case kT => k_asm); (case kk => exact rfl); (case kd => decide); (case ku => decide); k_whole)
  intro hp S ep rest hL hm h2 tk2 F2 N2
  repeat' (first | (k_unfold; (try dsimp only)) | (k_end; wrow_close) | ((fail_if_success (with_reducible show wpAny _ _ (call (Value.ref _) _) _ _ _)); (fail_if_success (with_reducible show wpAny _ _ (compareOp CmpOp.Eq (Value.ref _) (Value.ref _)) _ _ _)); first | (walk1; try k_fold) | (dsimp only; walk1; try k_fold)) | (leave1; (try dsimp only)))
  k_dflt (refine' CallOkE.use (heapifyE hL hm hN) ?kB ?kF ?kX ?kN ?kT ?kk ?kd ?ku ?_; (case kN => k_asm); (case kB => k_asm); (case kF => k_asm); (case kX => k_asm); (case kT => k_asm); (case kk => exact rfl); (case kd => decide); (case ku => decide); k_whole)
  intro S3 hL3 hm3 h3 tk3 F3 N3
  repeat' (first | (k_unfold; (try dsimp only)) | (k_end; wrow_close) | ((fail_if_success (with_reducible show wpAny _ _ (call (Value.ref _) _) _ _ _)); (fail_if_success (with_reducible show wpAny _ _ (compareOp CmpOp.Eq (Value.ref _) (Value.ref _)) _ _ _)); first | (walk1; try k_fold) | (dsimp only; walk1; try k_fold)) | (leave1; (try dsimp only)))
  k_dflt (refine' CallOkE.use (overE hL3 hm3 hN) ?kB ?kF ?kX ?kN ?kT ?kk ?kd ?ku ?_; (case kN => k_asm); (case kB => k_asm); (case kF => k_asm); (case kX => k_asm); (case kT => k_asm); (case kk => exact rfl); (case kd => decide); (case ku => decide); k_whole)
  intro rest4 hL4 h4 tk4 F4 N4
  repeat' (first | (k_unfold; (try dsimp only)) | (k_end; wrow_close) | ((fail_if_success (with_reducible show wpAny _ _ (call (Value.ref _) _) _ _ _)); (fail_if_success (with_reducible show wpAny _ _ (compareOp CmpOp.Eq (Value.ref _) (Value.ref _)) _ _ _)); first | (walk1; try k_fold) | (dsimp only; walk1; try k_fold)) | (leave1; (try dsimp only)))
  k_dflt (refine' CallOkE.use (downE hL4 hm3 hN) ?kB ?kF ?kX ?kN ?kT ?kk ?kd ?ku ?_; (case kN => k_asm); (case kB => k_asm); (case kF => k_asm); (case kX => k_asm); (case kT => k_asm); (case kk => exact rfl); (case kd => decide); (case ku => decide); k_whole)
  intro lg V log i l5 hK5 hrun hend h5 tk5 F5 N5
  repeat' (first | (k_unfold; (try dsimp only)) | (k_end; wrow_close) | ((fail_if_success (with_reducible show wpAny _ _ (call (Value.ref _) _) _ _ _)); (fail_if_success (with_reducible show wpAny _ _ (compareOp CmpOp.Eq (Value.ref _) (Value.ref _)) _ _ _)); first | (walk1; try k_fold) | (dsimp only; walk1; try k_fold)) | (leave1; (try dsimp only)))
  k_dflt (refine' CallOkE.use (measureE hK5 hN) ?kB ?kF ?kX ?kN ?kT ?kk ?kd ?ku ?_; (case kN => k_asm); (case kB => k_asm); (case kF => k_asm); (case kX => k_asm); (case kT => k_asm); (case kk => exact rfl); (case kd => decide); (case ku => decide); k_whole)
  intro tkm h6 tk6 F6 N6
  repeat' (first | (k_unfold; (try dsimp only)) | (k_end; wrow_close) | ((fail_if_success (with_reducible show wpAny _ _ (call (Value.ref _) _) _ _ _)); (fail_if_success (with_reducible show wpAny _ _ (compareOp CmpOp.Eq (Value.ref _) (Value.ref _)) _ _ _)); first | (walk1; try k_fold) | (dsimp only; walk1; try k_fold)) | (leave1; (try dsimp only)))
  k_dflt (refine' CallOkE.use (plainE hK5 hN hrun hend) ?kB ?kF ?kX ?kN ?kT ?kk ?kd ?ku ?_; (case kN => k_asm); (case kB => k_asm); (case kF => k_asm); (case kX => k_asm); (case kT => k_asm); (case kk => exact rfl); (case kd => decide); (case ku => decide); k_whole)
  intro pl l7 hK7 hP7 hb h7 tk7 F7 N7
  repeat' (first | (k_unfold; (try dsimp only)) | (k_end; wrow_close) | ((fail_if_success (with_reducible show wpAny _ _ (call (Value.ref _) _) _ _ _)); (fail_if_success (with_reducible show wpAny _ _ (compareOp CmpOp.Eq (Value.ref _) (Value.ref _)) _ _ _)); first | (walk1; try k_fold) | (dsimp only; walk1; try k_fold)) | (leave1; (try dsimp only)))
  rename News _ _ _ _ => kN7
  k_dflt (refine' eqLogs kN7 (Known.log hK7) hP7 (by ke_room) ?_)
  repeat' (first | (k_unfold; (try dsimp only)) | (k_end; wrow_close) | ((fail_if_success (with_reducible show wpAny _ _ (call (Value.ref _) _) _ _ _)); (fail_if_success (with_reducible show wpAny _ _ (compareOp CmpOp.Eq (Value.ref _) (Value.ref _)) _ _ _)); first | (walk1; try k_fold) | (dsimp only; walk1; try k_fold)) | (leave1; (try dsimp only)))
  k_dflt (refine' CallOkE.use (endsE hK7 hN hb) ?kB ?kF ?kX ?kN ?kT ?kk ?kd ?ku ?_; (case kN => k_asm); (case kB => k_asm); (case kF => k_asm); (case kX => k_asm); (case kT => k_asm); (case kk => exact rfl); (case kd => decide); (case ku => decide); k_whole)
  intro D l8 hK8 hE8 h8 tk8 F8 N8
  repeat' (first | (k_unfold; (try dsimp only)) | (k_end; wrow_close) | ((fail_if_success (with_reducible show wpAny _ _ (call (Value.ref _) _) _ _ _)); (fail_if_success (with_reducible show wpAny _ _ (compareOp CmpOp.Eq (Value.ref _) (Value.ref _)) _ _ _)); first | (walk1; try k_fold) | (dsimp only; walk1; try k_fold)) | (leave1; (try dsimp only)))
  rename News _ _ _ _ => kN8
  k_dflt (refine' eqEnds (fun p hp' => kN8 p (List.mem_append_right [_, _, _, _, _] hp')) hE8 (by ked_read) (by ke_room) ?_)
  repeat' (first | (k_unfold; (try dsimp only)) | (k_end; wrow_close) | ((fail_if_success (with_reducible show wpAny _ _ (call (Value.ref _) _) _ _ _)); (fail_if_success (with_reducible show wpAny _ _ (compareOp CmpOp.Eq (Value.ref _) (Value.ref _)) _ _ _)); first | (walk1; try k_fold) | (dsimp only; walk1; try k_fold)) | (leave1; (try dsimp only)))
  rename News _ _ _ _ => kN9
  have kN10 : News _ _ _ l8 := fun p hp' => kN9 p (List.mem_append_right [_, _, _, _, _] hp')
  clear kN9
  k_dflt (refine' CallOkE.use (backE hK8 hb) ?kB ?kF ?kX ?kN ?kT ?kk ?kd ?ku ?_; (case kN => k_asm); (case kB => k_asm); (case kF => k_asm); (case kX => k_asm); (case kT => k_asm); (case kk => exact rfl); (case kd => decide); (case ku => decide); k_whole)
  intro bl B l9 hK9 hB9 eB h9 tk9 F9 N9
  repeat' (first | (k_unfold; (try dsimp only)) | (k_end; wrow_close) | ((fail_if_success (with_reducible show wpAny _ _ (call (Value.ref _) _) _ _ _)); (fail_if_success (with_reducible show wpAny _ _ (compareOp CmpOp.Eq (Value.ref _) (Value.ref _)) _ _ _)); first | (walk1; try k_fold) | (dsimp only; walk1; try k_fold)) | (leave1; (try dsimp only)))
  k_dflt (refine' CallOkE.use (rowsE hK9 hb hB9 eB) ?kB ?kF ?kX ?kN ?kT ?kk ?kd ?ku ?_; (case kN => k_asm); (case kB => k_asm); (case kF => k_asm); (case kX => k_asm); (case kT => k_asm); (case kk => exact rfl); (case kd => decide); (case ku => decide); k_whole)
  intro rl P l10 hB10 hP10 sB sP hm10 h10 tk10 F10 N10
  repeat' (first | (k_unfold; (try dsimp only)) | (k_end; wrow_close) | ((fail_if_success (with_reducible show wpAny _ _ (call (Value.ref _) _) _ _ _)); (fail_if_success (with_reducible show wpAny _ _ (compareOp CmpOp.Eq (Value.ref _) (Value.ref _)) _ _ _)); first | (walk1; try k_fold) | (dsimp only; walk1; try k_fold)) | (leave1; (try dsimp only)))
  k_dflt (refine' CallOkE.use (undoneE hB10 hP10 sB sP hm10) ?kB ?kF ?kX ?kN ?kT ?kk ?kd ?ku ?_; (case kN => k_asm); (case kB => k_asm); (case kF => k_asm); (case kX => k_asm); (case kT => k_asm); (case kk => exact rfl); (case kd => decide); (case ku => decide); k_whole)
  intro D11 W11 l11 hW11 eW h11 tk11 F11 N11
  repeat' (first | (k_unfold; (try dsimp only)) | (k_end; wrow_close) | ((fail_if_success (with_reducible show wpAny _ _ (call (Value.ref _) _) _ _ _)); (fail_if_success (with_reducible show wpAny _ _ (compareOp CmpOp.Eq (Value.ref _) (Value.ref _)) _ _ _)); first | (walk1; try k_fold) | (dsimp only; walk1; try k_fold)) | (leave1; (try dsimp only)))
  k_dflt (refine' CallOkE.use (unitsE hW11) ?kB ?kF ?kX ?kN ?kT ?kk ?kd ?ku ?_; (case kN => k_asm); (case kB => k_asm); (case kF => k_asm); (case kX => k_asm); (case kT => k_asm); (case kk => exact rfl); (case kd => decide); (case ku => decide); k_whole)
  intro D12 W12 l12 hX12 hW12 eX h12 tk12 F12 N12
  repeat' (first | (k_unfold; (try dsimp only)) | (k_end; wrow_close) | ((fail_if_success (with_reducible show wpAny _ _ (call (Value.ref _) _) _ _ _)); (fail_if_success (with_reducible show wpAny _ _ (compareOp CmpOp.Eq (Value.ref _) (Value.ref _)) _ _ _)); first | (walk1; try k_fold) | (dsimp only; walk1; try k_fold)) | (leave1; (try dsimp only)))
  rename News _ _ _ _ => kN12
  k_dflt (refine' eqRows kN12 hX12 eW hW12 eX (by ke_room) ?_)
  repeat' (first | (k_unfold; (try dsimp only)) | (k_end; wrow_close) | ((fail_if_success (with_reducible show wpAny _ _ (call (Value.ref _) _) _ _ _)); (fail_if_success (with_reducible show wpAny _ _ (compareOp CmpOp.Eq (Value.ref _) (Value.ref _)) _ _ _)); first | (walk1; try k_fold) | (dsimp only; walk1; try k_fold)) | (leave1; (try dsimp only)))
  done)
end Mine

theorem PySem.Challenge.cw_mr0075_01_holds : PySem.Challenge.rw_mr0075_01.Holds := by
  exact Mine.law_try
