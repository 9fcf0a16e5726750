import PyProof.Rows.All
import Wide.All
import OpenK.AllK
import Wide.FinOn
import PySem.Challenge.RW_ja0045_01
set_option Elab.async false
section
open PySem PySem.W PyProof.Rows
namespace Mine
noncomputable abbrev pickSt (i : Nat) : Stmt := PySem.Challenge.pw_ja0045_01.main.body.getD i (.Pass default)
set_option maxRecDepth 100000 in
/-- the statements of the text that the law reaches -/
noncomputable def viewB : {l : List Stmt // ∀ C : List Stmt → Prop, C [pickSt 0, pickSt 2, pickSt 3, pickSt 4, pickSt 5, pickSt 6, pickSt 8, pickSt 10, pickSt 11, pickSt 12, pickSt 13, pickSt 14] → C l} := by
  refine ⟨?l, ?h⟩
  case h =>
    intro C h
    conv at h in (occs := *) pickSt _ => all_goals whnf
    exact h
noncomputable def view : Program := { PySem.Challenge.pw_ja0045_01 with main := { PySem.Challenge.pw_ja0045_01.main with body := viewB.1 } }
local macro_rules | `(tactic| o_head $H) => `(tactic| (refine holds_open (q := view) (loose := [Str.ofString "_tuplegetter", Str.ofString "Point", Str.ofString "Orientation", Str.ofString "Edge"]) (Xt := fun s => xlAt view [] s && recOk (RowW.records (OpenRow.toRowW (OpenLaw.row PySem.Challenge.rw_ja0045_01))) s) (XP := XL view []) (Yf := Hook.obs $H) (Ya := Hook.val $H) (YP := Hook.says $H) (N := 6270) ?hl (Hook.of $H) (Hook.keeps $H) (fun s e => xl_of s (Bool.and_eq_true_iff.mp e).1) XL.keeps (by rfl) (by rfl) (by rfl) (fun s e => recFacts_of (Bool.and_eq_true_iff.mp e).2) (by rfl) (by first | assumption | decide +kernel) (by decide +kernel) ⟨rfl, rfl, rfl, rfl, rfl, by decide +kernel⟩ ?hw ?hc; (case hl => (intro w; unfold openEnds fencedOpening topFrom; rw [PySem.W.Fast.te14082659384304107361, PySem.W.Fast.te10274390034422433532, PySem.W.Fast.te14364793385576792824]; kernel_rfl))))
set_option maxRecDepth 100000 in
set_option maxHeartbeats 0 in
open_top hd for PySem.Challenge.rw_ja0045_01
end Mine
end
section
open PySem PySem.W PyProof.Rows
set_option maxRecDepth 100000
namespace Mine
noncomputable abbrev PR : Program := RowW.prog (OpenRow.toRowW (OpenLaw.row PySem.Challenge.rw_ja0045_01))
noncomputable abbrev LS : List Str := looseW view [Str.ofString "_tuplegetter", Str.ofString "Point", Str.ofString "Orientation", Str.ofString "Edge"]
noncomputable abbrev tupO (vs : List Value) (n : Nat) : Obj := { cls := .type "tuple", data := .seq vs.toArray n }

/-- a point on the grid, or moved -/
abbrev Pt := Int × Int
abbrev Sg := Pt × Pt
def Small (p : Pt) : Prop := 0 ≤ p.1 ∧ p.1 ≤ 4 ∧ 0 ≤ p.2 ∧ p.2 ≤ 4
def cross (a b c : Pt) : Int := (b.1 - a.1) * (c.2 - a.2) - (b.2 - a.2) * (c.1 - a.1)
def sgn3 (v : Int) : Int := if 0 < v then 1 else if v < 0 then -1 else 0
def side (e : Sg) (p : Pt) : Int := sgn3 (cross e.1 e.2 p)
inductive PtIn (news : List (Addr × Obj)) : Value → Pt → Prop where
  | mk {b : Addr} {x y : Int} {t u n : Nat} : (b, tupO [.int x t, .int y u] n) ∈ news → PtIn news (.ref b) (x, y)
/-- a Point -/
noncomputable abbrev poO (dx : Addr) (vs : List Value) (n : Nat) : Obj := { cls := .ref 132, dict := some dx, data := .seq vs.toArray n }
inductive PoIn (news : List (Addr × Obj)) : Value → Pt → Prop where
  | mk {b dx : Addr} {x y : Int} {t u n : Nat} : (b, poO dx [.int x t, .int y u] n) ∈ news → (dx, dictOf [] 0) ∈ news → PoIn news (.ref b) (x, y)
inductive SgIn (news : List (Addr × Obj)) : Value → Sg → Prop where
  | mk {b c d : Addr} {p q : Pt} {n : Nat} : (b, tupO [.ref c, .ref d] n) ∈ news → PtIn news (.ref c) p → PtIn news (.ref d) q → SgIn news (.ref b) (p, q)

/-- an Edge, its ends and its context -/
inductive EdIn (news : List (Addr × Obj)) : Value → Sg → Prop where
  | mk {b dx c dc l r : Addr} {p q : Pt} {h1 h2 h3 h4 : Int} {t1 t2 t3 t4 : Nat} {i : Bool} :
    (b, instObj 283 dx) ∈ news →
    (dx, dictOf [⟨h1, .str (Str.ofString "context") t1, .ref c⟩, ⟨h2, .str (Str.ofString "interior_to_left") t2, .bool i⟩, ⟨h3, .str (Str.ofString "left") t3, .ref l⟩, ⟨h4, .str (Str.ofString "right") t4, .ref r⟩] 4) ∈ news →
    (c, instObj 238 dc) ∈ news → (dc, dictOf [] 0) ∈ news → PoIn news (.ref l) p → PoIn news (.ref r) q → EdIn news (.ref b) (p, q)
/-- a call's contract: whatever the caller's frame, the call ends; every object of the ledger stands; the answer is told by `out` -/
structure Spec (D : Type) where
  args : D → List (Addr × Obj) → List Value → Prop
  ok : D → Prop
  deep : Nat
  out : D → List (Addr × Obj) → Value → Prop
def Con {D : Type} (f : Addr) (c : Spec D) : Prop :=
  ∀ (w : World) (mean : ExcName → Option Value) (mg mb : Str → Option Value) (dp un : Nat) (gd : Option (List Code)) (cn : Str) (cs : Scope) (a : Addr) (ccd : Value) (cl : List (Str × Addr)) (outer : List Env) (A₀ : Around) (base h₀ : Heap) (L : Addr) (m : Str → Option Value) (news : List (Addr × Obj)) (s : Shared)
    (d : D) (vs : List Value) (Q E : Value → Shared → Prop),
    Below A₀ base outer h₀ → Fr h₀ L s.heap m → (hd.heap_39 w.params).In h₀ → News h₀ L s.heap news → Top view LS mean mg mb h₀ → cs.kind = .function →
    c.args d news vs → c.ok d → dp + c.deep < recursionLimit → un + 8 * c.deep < cLine →
    (∀ v more h' tk', Fr h₀ L h' m → News h₀ L h' (more ++ news) → c.out d more v → Q v { s with heap := h', toks := tk' }) →
    wpAny (model PR w) (ktrTop dp un gd cn cs L a ccd cl outer) (call (.ref f) vs) Q E s
theorem sgn3_pos {v : Int} (h : 0 < v) : sgn3 v = 1 := by unfold sgn3; rw [if_pos h]
theorem sgn3_neg {v : Int} (h : v < 0) : sgn3 v = -1 := by unfold sgn3; rw [if_neg (by omega), if_pos h]
theorem sgn3_zero {v : Int} (h : ¬ 0 < v) (h' : ¬ v < 0) : sgn3 v = 0 := by unfold sgn3; rw [if_neg h, if_neg h']
theorem int_eq {x y : Int} {t : Tok} (h : x = y) : ∃ u, Value.int x t = Value.int y u := ⟨t, by rw [h]⟩
theorem con_use {D : Type} {f : Addr} {c : Spec D} (C : Con f c) {w : World} {mean : ExcName → Option Value} {mg mb : Str → Option Value} {dp un : Nat} {gd : Option (List Code)} {cn : Str} {cs : Scope} {a : Addr} {ccd : Value} {cl : List (Str × Addr)} {outer : List Env} {A₀ : Around} {base h₀ : Heap} {L : Addr} {m : Str → Option Value} {news : List (Addr × Obj)} {s : Shared}
    {d : D} {vs : List Value} {Q E : Value → Shared → Prop}
    (B : Below A₀ base outer h₀) (F : Fr h₀ L s.heap m) (X : (hd.heap_39 w.params).In h₀) (N : News h₀ L s.heap news) (T : Top view LS mean mg mb h₀) (hk : cs.kind = .function)
    (R : c.args d news vs) (ok : c.ok d) (hd : dp + c.deep < recursionLimit) (hu : un + 8 * c.deep < cLine)
    (ret : ∀ v more h' tk', Fr h₀ L h' m → News h₀ L h' (more ++ news) → c.out d more v → Q v { s with heap := h', toks := tk' }) :
    wpAny (model PR w) (ktrTop dp un gd cn cs L a ccd cl outer) (call (.ref f) vs) Q E s := C _ _ _ _ _ _ _ _ _ _ _ _ _ _ _ _ _ _ _ _ _ _ _ _ B F X N T hk R ok hd hu ret
def ltP (p q : Pt) : Bool := decide (p.1 < q.1) || (decide (p.1 = q.1) && decide (p.2 < q.2))
def maxP (p q : Pt) : Pt := if ltP p q then q else p
def minP (p q : Pt) : Pt := if ltP q p then q else p
def letOf (one other : Sg) : Bool :=
  if side one other.1 = 0 ∧ side one other.2 = 0 then !ltP (maxP one.1 other.1) (minP one.2 other.2)
  else decide (0 ≤ side one other.1 * side one other.2) || decide (0 ≤ side other one.1 * side other one.2)
def lowerAt (one other : Sg) (p : Pt) (r : Bool) : Bool :=
  if side other p ≠ 0 then decide (side other p < 0) else if side one p ≠ 0 then decide (0 < side one p) else r
def lowerOf (one other : Sg) : Bool := lowerAt one other (maxP one.1 other.1) (lowerAt one other (minP one.2 other.2) false)
/-- the kinds' addresses -/
def orA (z : Int) : Addr := if 0 < z then 178 else if z < 0 then 172 else 175
theorem orA_pos {v : Int} (h : 0 < v) : orA v = 178 := by unfold orA; rw [if_pos h]
theorem orA_neg {v : Int} (h : v < 0) : orA v = 172 := by unfold orA; rw [if_neg (by omega), if_pos h]
theorem orA_zero {v : Int} (h : ¬ 0 < v) (h' : ¬ v < 0) : orA v = 175 := by unfold orA; rw [if_neg h, if_neg h']
/-- small from one point to another -/
def Near (p q : Pt) : Prop := -4 ≤ q.1 - p.1 ∧ q.1 - p.1 ≤ 4 ∧ -4 ≤ q.2 - p.2 ∧ q.2 - p.2 ≤ 4
/-- what Edge.__lt__ answers; none: not comparable -/
def ltE (e f : Sg) : Option Bool :=
  let ol := orA (cross e.1 e.2 f.1)
  let or := orA (cross e.1 e.2 f.2)
  let l := orA (cross f.1 f.2 e.1)
  let r := orA (cross f.1 f.2 e.2)
  if ol = or then some (decide (ol = 178)) else if ol = 175 then some (decide (or = 178)) else
  if l = r then some (decide (l = 172)) else if l = 175 then some (decide (r = 172)) else
  if or = 175 then some (decide (ol = 178)) else if r = 175 then some (decide (l = 172)) else none
def IsOr (a : Addr) : Prop := a = 172 ∨ a = 175 ∨ a = 178
theorem isOr (z : Int) : IsOr (orA z) := by unfold orA IsOr; split <;> (try split) <;> simp
theorem side_small (e : Sg) (p : Pt) : -1 ≤ side e p ∧ side e p ≤ 1 := by
  unfold side sgn3; split <;> (try split) <;> omega
end Mine
end
section
open PySem PySem.W PyProof.Rows
set_option maxRecDepth 100000
namespace Mine
abbrev sideS : Spec (Sg × Pt) where
  args := fun d news vs => ∃ v u, vs = [v, u] ∧ SgIn news v d.1 ∧ PtIn news u d.2
  ok := fun d => Small d.1.1 ∧ Small d.1.2 ∧ Small d.2
  deep := 1
  out := fun d more v => more = [] ∧ (∃ t, v = .int (side d.1 d.2) t) ∧ -1 ≤ side d.1 d.2 ∧ side d.1 d.2 ≤ 1
set_option maxHeartbeats 40000000 in
theorem side_c : Con 294 sideS := by
  unfold Con; delta PR LS
  k_fill
  intro w mean mg mb dp un gd cn cs a ccd cl outer A₀ base h₀ L m news s d vs Q E B F X N T hk hr hok hd hu hret
  obtain ⟨⟨⟨x1, y1⟩, ⟨x2, y2⟩⟩, ⟨x, y⟩⟩ := d
  obtain ⟨v, u, rfl, hS, hP⟩ := hr
  cases hS with | mk hS hp hq => 
  cases hp with | mk hp =>
  cases hq with | mk hq =>
  cases hP with | mk hP =>
  obtain ⟨⟨b1, b2, b3, b4⟩, ⟨b5, b6, b7, b8⟩, b9, b10, b11, b12⟩ := hok
  dsimp only [sideS] at b1 b2 b3 b4 b5 b6 b7 b8 b9 b10 b11 b12 hd hu
  refine wpAny_call ?_
  k_dflt ktr_enter
  k_steps
  all_goals (
    refine hret _ [] _ _ (by k_asm) (by k_asm) ⟨rfl, int_eq ?_, side_small _ _⟩
    show _ = sgn3 ((x2 - x1) * (y - y1) - (y2 - y1) * (x - x1))
    simp only [decide_eq_true_eq, decide_eq_false_iff_not] at *
    first | exact (sgn3_pos (by omega)).symm | exact (sgn3_neg (by omega)).symm | exact (sgn3_zero (by omega) (by omega)).symm)
end Mine
end
section
open PySem PySem.W PyProof.Rows PySem.Calls
set_option maxRecDepth 100000
namespace Mine
section
variable {prog : Program} {w : World} {A : Around} {E : Value → Shared → Prop} {s : Shared}
theorem rc_ge (a b : Int) (t u : Tok) {Q : Value → Shared → Prop} (h : Q (.bool (decide (b ≤ a))) s) : wpAny (model prog w) A (richCompare .GtE (.int a t) (.int b u)) Q E s :=
  richCompare_gives (op := .GtE) (typeIs_int s _ t) (typeIs_int s _ u) F.slot_int_ge F.entry_int_ge (F.args_int_ge_2 _ _) (gives_int_ge _ _ t u) (fun x => nomatch x) h
/-- an object that bears two ints -/
def PairAt (h : Heap) (a : Addr) (p : Pt) : Prop := ∃ o t u n, h.get? a = some o ∧ o.data = .seq #[.int p.1 t, .int p.2 u] n
theorem PairAt.items {a : Addr} {p : Pt} (h : PairAt s.heap a p) : ∃ t u, ∀ {Q : Option (Array Value) → Shared → Prop} {E : Value → Shared → Prop} {A : Around}, Q (some #[.int p.1 t, .int p.2 u]) s → wpAny (model prog w) A (seqItems? (.ref a)) Q E s := by
  obtain ⟨o, t, u, n, ho, hd⟩ := h
  exact ⟨t, u, fun hq => wpAny_seqItems ho hd hq⟩

theorem eqb_int (a b : Int) (t u : Tok) {Q : Bool → Shared → Prop} (h : Q (a == b) s) : wpAny (model prog w) A (eqBool (.int a t) (.int b u)) Q E s := PySem.SeqAt.EqAt.int_int a t b u prog w E Q h
theorem rc_lt (a b : Int) (t u : Tok) {Q : Value → Shared → Prop} (h : Q (.bool (decide (a < b))) s) : wpAny (model prog w) A (richCompare .Lt (.int a t) (.int b u)) Q E s :=
  (CmpOf.ints_lt (P := fun i v => if i = 0 then v = .int a t else v = .int b u) (fun i => if i = 0 then a else b) (fun i v hv => by
    by_cases e : i = 0
    · simp only [e, if_true] at hv ⊢; exact ⟨t, hv⟩
    · simp only [e, if_false] at hv ⊢; exact ⟨u, hv⟩)) 0 1 _ _ s Q E (by simp) (by simp) (by simpa using h)
theorem rc_gt (a b : Int) (t u : Tok) {Q : Value → Shared → Prop} (h : Q (.bool (decide (b < a))) s) : wpAny (model prog w) A (richCompare .Gt (.int a t) (.int b u)) Q E s :=
  (CmpOf.ints_gt (P := fun i v => if i = 0 then v = .int a t else v = .int b u) (fun i => if i = 0 then a else b) (fun i v hv => by
    by_cases e : i = 0
    · simp only [e, if_true] at hv ⊢; exact ⟨t, hv⟩
    · simp only [e, if_false] at hv ⊢; exact ⟨u, hv⟩)) 0 1 _ _ s Q E (by simp) (by simp) (by simpa using h)

theorem tup_lt {a b : Addr} {p q : Pt} {Q : PySem.Fin → Shared → Prop} (ha : PairAt s.heap a p) (hb : PairAt s.heap b q) (hi : Looks (model prog w) s.heap (isInstance (.ref b) (.type "tuple")) true)
    (h : Q (.done (.ret (.bool (ltP p q)))) s) : wpAny (model prog w) A (Builtin.«tuple.__lt__» ⟨[.ref a, .ref b], []⟩) Q E s := by
  obtain ⟨⟨c1, d1, v1, l1⟩, t1, u1, n1, ea, da⟩ := ha
  obtain ⟨⟨c2, d2, v2, l2⟩, t2, u2, n2, eb, db⟩ := hb
  obtain ⟨hp, g, d, tk, os⟩ := s
  dsimp only at ea eb hi da db
  subst da db
  show wpAny _ _ (do
    if !(← isInstance (.ref b) (.type "tuple")) then return ← ret .notImplemented
    _) _ _ _
  refine wpAny_bind (hi.at ?_)
  simp only [Bool.not_true, Bool.false_eq_true, if_false]
  refine wpAny_bind (wpAny_bind (wpAny_seqItems ea rfl (wpAny_pure ?_)))
  refine wpAny_bind (wpAny_bind (wpAny_seqItems eb rfl (wpAny_pure ?_)))
  show wpAny _ _ (forIn [((Value.int p.1 t1 : Value), (Value.int q.1 t2 : Value)), (Value.int p.2 u1, Value.int q.2 u2)] _ _ >>= _) _ _ _
  rw [List.forIn_cons]
  refine wpAny_bind (wpAny_bind (wpAny_bind (eqb_int _ _ _ _ ?_)))
  by_cases e1 : p.1 = q.1
  · rw [if_neg (by simp [e1])]
    refine wpAny_pure ?_
    show wpAny _ _ (forIn [((Value.int p.2 u1 : Value), (Value.int q.2 u2 : Value))] _ _) _ _ _
    rw [List.forIn_cons]
    refine wpAny_bind (wpAny_bind (eqb_int _ _ _ _ ?_))
    by_cases e2 : p.2 = q.2
    · rw [if_neg (by simp [e2])]
      refine wpAny_pure ?_
      rw [show (ltP p q) = false from by simp [ltP, e1, e2]] at h
      exact wpAny_pure (wpAny_pure h)
    · rw [if_pos (by simp [e2])]
      refine wpAny_bind (wpAny_rule (wpAny_bind (rc_lt _ _ _ _ (wpAny_bind (wpAny_pure (wpAny_pure (wpAny_pure (wpAny_pure ?_))))))))
      have e : (ltP p q) = decide (p.2 < q.2) := by simp [ltP, e1]; try omega
      rw [e] at h; exact h
  · rw [if_pos (by simp [e1])]
    refine wpAny_bind (wpAny_rule (wpAny_bind (rc_lt _ _ _ _ (wpAny_bind (wpAny_pure (wpAny_pure (wpAny_pure (wpAny_pure ?_))))))))
    have e : (ltP p q) = decide (p.1 < q.1) := by simp [ltP, e1, Ne.symm e1]; try omega
    rw [e] at h; exact h
theorem tup_gt {a b : Addr} {p q : Pt} {Q : PySem.Fin → Shared → Prop} (ha : PairAt s.heap a p) (hb : PairAt s.heap b q) (hi : Looks (model prog w) s.heap (isInstance (.ref b) (.type "tuple")) true)
    (h : Q (.done (.ret (.bool (ltP q p)))) s) : wpAny (model prog w) A (Builtin.«tuple.__gt__» ⟨[.ref a, .ref b], []⟩) Q E s := by
  obtain ⟨⟨c1, d1, v1, l1⟩, t1, u1, n1, ea, da⟩ := ha
  obtain ⟨⟨c2, d2, v2, l2⟩, t2, u2, n2, eb, db⟩ := hb
  obtain ⟨hp, g, d, tk, os⟩ := s
  dsimp only at ea eb hi da db
  subst da db
  show wpAny _ _ (do
    if !(← isInstance (.ref b) (.type "tuple")) then return ← ret .notImplemented
    _) _ _ _
  refine wpAny_bind (hi.at ?_)
  simp only [Bool.not_true, Bool.false_eq_true, if_false]
  refine wpAny_bind (wpAny_bind (wpAny_seqItems ea rfl (wpAny_pure ?_)))
  refine wpAny_bind (wpAny_bind (wpAny_seqItems eb rfl (wpAny_pure ?_)))
  show wpAny _ _ (forIn [((Value.int p.1 t1 : Value), (Value.int q.1 t2 : Value)), (Value.int p.2 u1, Value.int q.2 u2)] _ _ >>= _) _ _ _
  rw [List.forIn_cons]
  refine wpAny_bind (wpAny_bind (wpAny_bind (eqb_int _ _ _ _ ?_)))
  by_cases e1 : p.1 = q.1
  · rw [if_neg (by simp [e1])]
    refine wpAny_pure ?_
    show wpAny _ _ (forIn [((Value.int p.2 u1 : Value), (Value.int q.2 u2 : Value))] _ _) _ _ _
    rw [List.forIn_cons]
    refine wpAny_bind (wpAny_bind (eqb_int _ _ _ _ ?_))
    by_cases e2 : p.2 = q.2
    · rw [if_neg (by simp [e2])]
      refine wpAny_pure ?_
      rw [show (ltP q p) = false from by simp [ltP, e1, e2]] at h
      exact wpAny_pure (wpAny_pure h)
    · rw [if_pos (by simp [e2])]
      refine wpAny_bind (wpAny_rule (wpAny_bind (rc_gt _ _ _ _ (wpAny_bind (wpAny_pure (wpAny_pure (wpAny_pure (wpAny_pure ?_))))))))
      have e : (ltP q p) = decide (q.2 < p.2) := by simp [ltP, e1]; try omega
      rw [e] at h; exact h
  · rw [if_pos (by simp [e1])]
    refine wpAny_bind (wpAny_rule (wpAny_bind (rc_gt _ _ _ _ (wpAny_bind (wpAny_pure (wpAny_pure (wpAny_pure (wpAny_pure ?_))))))))
    have e : (ltP q p) = decide (q.1 < p.1) := by simp [ltP, e1, Ne.symm e1]; try omega
    rw [e] at h; exact h
theorem tup_ge {a b : Addr} {p q : Pt} {Q : PySem.Fin → Shared → Prop} (ha : PairAt s.heap a p) (hb : PairAt s.heap b q) (hi : Looks (model prog w) s.heap (isInstance (.ref b) (.type "tuple")) true)
    (h : Q (.done (.ret (.bool (!ltP p q)))) s) : wpAny (model prog w) A (Builtin.«tuple.__ge__» ⟨[.ref a, .ref b], []⟩) Q E s := by
  obtain ⟨⟨c1, d1, v1, l1⟩, t1, u1, n1, ea, da⟩ := ha
  obtain ⟨⟨c2, d2, v2, l2⟩, t2, u2, n2, eb, db⟩ := hb
  obtain ⟨hp, g, d, tk, os⟩ := s
  dsimp only at ea eb hi da db
  subst da db
  show wpAny _ _ (do
    if !(← isInstance (.ref b) (.type "tuple")) then return ← ret .notImplemented
    _) _ _ _
  refine wpAny_bind (hi.at ?_)
  simp only [Bool.not_true, Bool.false_eq_true, if_false]
  refine wpAny_bind (wpAny_bind (wpAny_seqItems ea rfl (wpAny_pure ?_)))
  refine wpAny_bind (wpAny_bind (wpAny_seqItems eb rfl (wpAny_pure ?_)))
  show wpAny _ _ (forIn [((Value.int p.1 t1 : Value), (Value.int q.1 t2 : Value)), (Value.int p.2 u1, Value.int q.2 u2)] _ _ >>= _) _ _ _
  rw [List.forIn_cons]
  refine wpAny_bind (wpAny_bind (wpAny_bind (eqb_int _ _ _ _ ?_)))
  by_cases e1 : p.1 = q.1
  · rw [if_neg (by simp [e1])]
    refine wpAny_pure ?_
    show wpAny _ _ (forIn [((Value.int p.2 u1 : Value), (Value.int q.2 u2 : Value))] _ _) _ _ _
    rw [List.forIn_cons]
    refine wpAny_bind (wpAny_bind (eqb_int _ _ _ _ ?_))
    by_cases e2 : p.2 = q.2
    · rw [if_neg (by simp [e2])]
      refine wpAny_pure ?_
      rw [show (!ltP p q) = true from by simp [ltP, e1, e2]] at h
      exact wpAny_pure (wpAny_pure h)
    · rw [if_pos (by simp [e2])]
      refine wpAny_bind (wpAny_rule (wpAny_bind (rc_ge _ _ _ _ (wpAny_bind (wpAny_pure (wpAny_pure (wpAny_pure (wpAny_pure ?_))))))))
      have e : (!ltP p q) = decide (q.2 ≤ p.2) := by simp [ltP, e1]; rw [Bool.eq_iff_iff]; simp
      rw [e] at h; exact h
  · rw [if_pos (by simp [e1])]
    refine wpAny_bind (wpAny_rule (wpAny_bind (rc_ge _ _ _ _ (wpAny_bind (wpAny_pure (wpAny_pure (wpAny_pure (wpAny_pure ?_))))))))
    have e : (!ltP p q) = decide (q.1 ≤ p.1) := by simp [ltP, e1]; rw [Bool.eq_iff_iff]; simp
    rw [e] at h; exact h

def TupAt (h : Heap) (a : Addr) (p : Pt) : Prop := ∃ t u n, h.get? a = some (tupO [.int p.1 t, .int p.2 u] n)
theorem TupAt.pair {h : Heap} {a : Addr} {p : Pt} (x : TupAt h a p) : PairAt h a p := let ⟨t, u, n, e⟩ := x; ⟨_, t, u, n, e, rfl⟩
theorem TupAt.isTup {h : Heap} {a : Addr} {p : Pt} (x : TupAt h a p) : ∃ xs, IsTup h a xs := let ⟨t, u, n, e⟩ := x; ⟨_, _, e, rfl, n, rfl⟩
theorem TupAt.looks {M : Model} {h : Heap} {a : Addr} {p : Pt} (x : TupAt h a p) : Looks M h (isInstance (.ref a) (.type "tuple")) true := by
  obtain ⟨t, u, n, e⟩ := x
  refine Looks.andThen (a := .type "tuple") ((Looks.ld e).andThen .now) (Looks.of_pure ?_)
  rw [isSubtype_type]; kernel_rfl
theorem TupAt.typeIs {a : Addr} {p : Pt} (x : TupAt s.heap a p) : s.TypeIs (.ref a) "tuple" := by
  obtain ⟨xs, h⟩ := x.isTup
  exact IsTup.typeIs h
theorem lt_tt {a b : Addr} {p q : Pt} {Q : Value → Shared → Prop} (ha : TupAt s.heap a p) (hb : TupAt s.heap b q) (hu : A.units < cLine) (h : Q (.bool (ltP p q)) s) : wpAny (model prog w) A (richCompare .Lt (.ref a) (.ref b)) Q E s :=
  wpAny_richCompare_same_room ha.typeIs hb.typeIs PySem.F.slot_tuple_lt (wpAny_call_entry PySem.F.slot_tuple_lt ha.typeIs PySem.F.entry_tuple_lt (tup_lt ha.pair hb.pair hb.looks ⟨_, rfl, Value.noConfusion, h⟩) (PySem.F.args_tuple_lt_2 _ _)) hu
theorem gt_tt {a b : Addr} {p q : Pt} {Q : Value → Shared → Prop} (ha : TupAt s.heap a p) (hb : TupAt s.heap b q) (hu : A.units < cLine) (h : Q (.bool (ltP q p)) s) : wpAny (model prog w) A (richCompare .Gt (.ref a) (.ref b)) Q E s :=
  wpAny_richCompare_same_room ha.typeIs hb.typeIs PySem.F.slot_tuple_gt (wpAny_call_entry PySem.F.slot_tuple_gt ha.typeIs PySem.F.entry_tuple_gt (tup_gt ha.pair hb.pair hb.looks ⟨_, rfl, Value.noConfusion, h⟩) (PySem.F.args_tuple_gt_2 _ _)) hu
theorem ge_tt {a b : Addr} {p q : Pt} {Q : Value → Shared → Prop} (ha : TupAt s.heap a p) (hb : TupAt s.heap b q) (hu : A.units < cLine) (h : Q (.bool (!ltP p q)) s) : wpAny (model prog w) A (richCompare .GtE (.ref a) (.ref b)) Q E s :=
  wpAny_richCompare_same_room ha.typeIs hb.typeIs PySem.F.slot_tuple_ge (wpAny_call_entry PySem.F.slot_tuple_ge ha.typeIs PySem.F.entry_tuple_ge (tup_ge ha.pair hb.pair hb.looks ⟨_, rfl, Value.noConfusion, h⟩) (PySem.F.args_tuple_ge_2 _ _)) hu
theorem TupAt.keeps {h h' : Heap} {a : Addr} {p : Pt} (x : TupAt h a p) (k : ∀ o, h.get? a = some o → h'.get? a = some o) : TupAt h' a p := let ⟨t, u, n, e⟩ := x; ⟨t, u, n, k _ e⟩

theorem max_step {I T S a b : Addr} {p q : Pt} {R : Result → Shared → Prop} {c : Nat} {s : Shared} (hh : A.handled = none) (ha : TupAt s.heap a p) (hb : TupAt s.heap b q) (hu : A.in1.units < cLine)
    (hIT : T ≠ I) (hSI : S ≠ I) (hST : S ≠ T) (hIa : a ≠ I) (hIb : b ≠ I) (hSa : a ≠ S) (hSb : b ≠ S)
    (hI : s.heap.IsTupleIter I T 0) (hT : s.heap.IsTuple T #[.ref a, .ref b]) (hS : s.heap.get? S = some { cls := .type "list", dict := none, data := .seq #[] c, slots := #[] })
    (hR : ∀ h' tk, (∀ x o, x ≠ I → x ≠ S → s.heap.get? x = some o → h'.get? x = some o) → R (.ok (.ret (if ltP p q then .ref b else .ref a))) { s with heap := h', toks := tk }) :
    codeAny (model prog w) A (.builtin "max.loop" ⟨[.ref I, .none, .ref S], []⟩) R s := by
  have hname : (toString "max" ++ toString ".loop" : String) = "max.loop" := by decide
  have W := Walks.tuple (prog := prog) (w := w) (A := A.in1) hh I T hIT #[.ref a, .ref b]
  refine codeAny_builtin F.entry_max_loop ?_
  rw [Around.under_plainId F.plain_max_loop _]
  show wpAny _ A.in1 (seqItems? (.ref S) >>= _) _ _ s
  refine wpAny_bind (wpAny_seqItems hS rfl ?_)
  show wpAny _ A.in1 (tryCatch (pyNext (.ref I)) _ >>= _) _ _ s
  refine wpAny_bind (wpAny_tryCatch (W.item 0 s _ _ (by simp) ⟨hI, hT⟩ fun v h1 tk1 hP st1 k1 => ?_))
  have hv : v = .ref a := by simpa using hP.symm
  subst hv
  have hS1 := k1 S _ (by simpa using hSI) hS
  show wpAny _ A.in1 (updateSeq S (fun _ => #[.ref a, .ref a]) >>= _) _ _ _
  refine wpAny_bind ?_
  refine wpAny_updateSeq hS1 rfl ?_
  rw [hname]
  have sb1 := Heap.SameBut.update h1 S (Obj.mapSeq fun _ => (#[.ref a, .ref a] : Array Value))
  have g1 : ∀ x o, x ≠ I → x ≠ S → s.heap.get? x = some o → (h1.update S (Obj.mapSeq fun _ => (#[.ref a, .ref a] : Array Value))).get? x = some o := fun x o e1 e2 e => (sb1.2 x e2).trans (k1 x o (by simpa using e1) e)
  refine wpAny_pure ⟨plainId_quiet F.plain_max_loop _, codeAny_builtin F.entry_max_loop ?_⟩
  rw [Around.under_plainId F.plain_max_loop _]
  have hS2 := Heap.get?_update_self (Obj.mapSeq fun _ => (#[.ref a, .ref a] : Array Value)) hS1 rfl
  show wpAny _ A.in1 (seqItems? (.ref S) >>= _) _ _ _
  refine wpAny_bind (wpAny_seqItems hS2 rfl ?_)
  show wpAny _ A.in1 (tryCatch (pyNext (.ref I)) _ >>= _) _ _ _
  refine wpAny_bind (wpAny_tryCatch (W.item 1 _ _ _ (by simp) (W.frame _ _ _ st1 fun x hx o e => (sb1.2 x (by rcases List.mem_cons.mp hx with rfl | hx; exact Ne.symm hSI; exact (List.mem_singleton.mp hx) ▸ Ne.symm hST)).trans e) fun v h2 tk2 hP st2 k2 => ?_))
  have hv : v = .ref b := by simpa using hP.symm
  subst hv
  have hS3 := k2 S _ (by simpa using hSI) hS2
  have g2 : ∀ x o, x ≠ I → x ≠ S → s.heap.get? x = some o → h2.get? x = some o := fun x o e1 e2 e => k2 x o (by simpa using e1) (g1 x o e1 e2 e)
  show wpAny _ A.in1 (tryCatch (holding [.ref b, .ref b] (richCompare .Gt (.ref b) (.ref a) >>= _)) _ >>= _) _ _ _
  refine wpAny_bind (wpAny_tryCatch (wpAny_holding (wpAny_bind (gt_tt (p := q) (q := p) (hb.keeps fun o e => g2 b o hIb hSb e) (ha.keeps fun o e => g2 a o hIa hSa e) hu ?_))))
  refine wpAny_bind (wpAny_holding (wpAny_truthy_bool ?_))
  refine wpAny_bind (wpAny_letGo (wpAny_pure ?_))
  have fin : ∀ (v : Value) (h3 : Heap) (c3 : Nat), h3.get? S = some { cls := .type "list", dict := none, data := .seq #[v, v] c3, slots := #[] } → (∀ x o, x ≠ I → x ≠ S → s.heap.get? x = some o → h3.get? x = some o) →
      (h3.IsTupleIter I T 2 ∧ h3.IsTuple T #[.ref a, .ref b]) → v = (if ltP p q then Value.ref b else Value.ref a) → codeAny (model prog w) A (.builtin "max.loop" ⟨[.ref I, .none, .ref S], []⟩) R { s with heap := h3, toks := tk2 } := by
    intro v h3 c3 hS3 g3 st3 ev
    refine codeAny_builtin F.entry_max_loop ?_
    rw [Around.under_plainId F.plain_max_loop _]
    show wpAny _ A.in1 (seqItems? (.ref S) >>= _) _ _ _
    refine wpAny_bind (wpAny_seqItems hS3 rfl ?_)
    show wpAny _ A.in1 (tryCatch (pyNext (.ref I)) _ >>= _) _ _ _
    refine wpAny_bind (wpAny_tryCatch (W.done _ _ _ st3 fun h4 tk4 k4 => ?_))
    have hS4 := k4 S _ (by simpa using hSI) hS3
    show wpAny _ A.in1 (updateSeq S (fun _ => #[]) >>= _) _ _ _
    refine wpAny_bind ?_
    refine wpAny_updateSeq hS4 rfl (wpAny_bind (wpAny_letGo (wpAny_pure ?_)))
    rw [ev]
    refine hR _ _ fun x o e1 e2 e => ?_
    exact (Heap.get?_update_other _ _ (Ne.symm e2)).trans (k4 x o (by simpa using e1) (g3 x o e1 e2 e))
  cases hb : (ltP p q) with
  | true =>
    simp only [if_true]
    refine wpAny_bind ?_
    refine wpAny_updateSeq hS3 rfl (wpAny_bind (wpAny_letGo ?_))
    rw [hname]
    have sb3 := Heap.SameBut.update h2 S (Obj.mapSeq fun _ => (#[.ref b, .ref b] : Array Value))
    refine wpAny_pure ⟨plainId_quiet F.plain_max_loop _, fin (.ref b) _ _ (Heap.get?_update_self _ hS3 rfl) (fun x o e1 e2 e => (sb3.2 x e2).trans (g2 x o e1 e2 e)) (W.frame _ _ _ st2 fun x hx o e => (sb3.2 x (by rcases List.mem_cons.mp hx with rfl | hx; exact Ne.symm hSI; exact (List.mem_singleton.mp hx) ▸ Ne.symm hST)).trans e) (by rw [hb]; rfl)⟩
  | false =>
    simp only [Bool.false_eq_true, if_false]
    refine wpAny_bind (wpAny_letGo ?_)
    rw [hname]
    exact wpAny_pure ⟨plainId_quiet F.plain_max_loop _, fin (.ref a) _ _ hS3 g2 st2 (by rw [hb]; rfl)⟩

theorem max_tt {a b : Addr} {p q : Pt} {Q : Value → Shared → Prop} (hh : A.handled = none) (ha : TupAt s.heap a p) (hb : TupAt s.heap b q) (hu : A.units + 1 < cLine)
    (h : ∀ h' tk, (∀ x o, s.heap.get? x = some o → h'.get? x = some o) → Q (if ltP p q then .ref b else .ref a) { s with heap := h', toks := tk }) :
    wpAny (model prog w) A (call (.builtin "max") [.ref a, .ref b]) Q E s := by
  have hname : (toString "max" ++ toString ".loop" : String) = "max.loop" := by decide
  refine call_function_tree F.kind_max F.plain_max F.entry_max (F.args_max2 _ _) ?_
  show wpAny _ A.in1 (Builtin.Builtins.bindParams "max" ["key", "default"] 0 ⟨[], []⟩ >>= _) _ _ s
  refine wpAny_bind (wpAny_of_eq (show Builtin.Builtins.bindParams "max" ["key", "default"] 0 ⟨[], []⟩ = pure [none, none] from rfl) ?_)
  show wpAny _ A.in1 (newTuple [.ref a, .ref b] >>= _) _ _ s
  refine wpAny_bind (wpAny_newObj_type ?_)
  have hT : (s.heap.push { cls := .type "tuple", data := .seq #[.ref a, .ref b] }).IsTuple s.heap.objs.size #[.ref a, .ref b] := ⟨_, Heap.get?_push_size _ rfl, rfl, 0, rfl⟩
  have la : @LT.lt Nat _ a s.heap.objs.size := by obtain ⟨_, _, _, e⟩ := ha; exact ltN (Heap.lt_size e)
  have lb : @LT.lt Nat _ b s.heap.objs.size := by obtain ⟨_, _, _, e⟩ := hb; exact ltN (Heap.lt_size e)
  refine wpAny_bind (wpAny_pyIter_tuple hT ?_)
  refine wpAny_bind (wpAny_newObj_type ?_)
  rw [hname]
  have up : ∀ x o, s.heap.get? x = some o → (((s.heap.push { cls := .type "tuple", data := .seq #[.ref a, .ref b] }).push { cls := .type "tuple_iterator", data := .fields #[.ref s.heap.objs.size, .int 0 0] }).push { cls := .type "list", data := .seq #[] }).get? x = some o := fun x o e => Heap.get?_push_of_some _ (Heap.get?_push_of_some _ (Heap.get?_push_of_some _ e))
  have z1 : (s.heap.push { cls := .type "tuple", data := .seq #[.ref a, .ref b] }).objs.size = s.heap.objs.size + 1 := Heap.size_push ..
  have z2 : ((s.heap.push { cls := .type "tuple", data := .seq #[.ref a, .ref b] }).push { cls := .type "tuple_iterator", data := .fields #[.ref s.heap.objs.size, .int 0 0] }).objs.size = s.heap.objs.size + 2 := by rw [Heap.size_push, z1]
  refine wpAny_pure ⟨plainId_quiet F.plain_max_loop _, max_step (I := (s.heap.push { cls := .type "tuple", data := .seq #[.ref a, .ref b] }).objs.size) (T := s.heap.objs.size) (S := ((s.heap.push { cls := .type "tuple", data := .seq #[.ref a, .ref b] }).push { cls := .type "tuple_iterator", data := .fields #[.ref s.heap.objs.size, .int 0 0] }).objs.size) (s := { s with heap := (((s.heap.push { cls := .type "tuple", data := .seq #[.ref a, .ref b] }).push { cls := .type "tuple_iterator", data := .fields #[.ref s.heap.objs.size, .int 0 0] }).push { cls := .type "list", data := .seq #[] }) }) (p := p) (q := q) hh (ha.keeps fun o e => up _ o e) (hb.keeps fun o e => up _ o e) hu (neN (by rw [z1]; omega)) (neN (by rw [z1, z2]; omega)) (neN (by rw [z2]; omega)) (neN (by rw [z1]; omega)) (neN (by rw [z1]; omega)) (neN (by rw [z2]; omega)) (neN (by rw [z2]; omega)) ?_ ?_ (c := 0) ?_ fun h' tk k => h h' tk fun x o e => ?_⟩
  · exact ⟨_, Heap.get?_push_of_some _ (Heap.get?_push_size _ rfl), rfl, rfl⟩
  · exact (hT.push _).push _
  · exact Heap.get?_push_size _ rfl
  · have l := ltN (Heap.lt_size e)
    exact k x o (neN (by rw [z1]; omega)) (neN (by rw [z2]; omega)) (up x o e)

theorem min_step {I T S a b : Addr} {p q : Pt} {R : Result → Shared → Prop} {c : Nat} {s : Shared} (hh : A.handled = none) (ha : TupAt s.heap a p) (hb : TupAt s.heap b q) (hu : A.in1.units < cLine)
    (hIT : T ≠ I) (hSI : S ≠ I) (hST : S ≠ T) (hIa : a ≠ I) (hIb : b ≠ I) (hSa : a ≠ S) (hSb : b ≠ S)
    (hI : s.heap.IsTupleIter I T 0) (hT : s.heap.IsTuple T #[.ref a, .ref b]) (hS : s.heap.get? S = some { cls := .type "list", dict := none, data := .seq #[] c, slots := #[] })
    (hR : ∀ h' tk, (∀ x o, x ≠ I → x ≠ S → s.heap.get? x = some o → h'.get? x = some o) → R (.ok (.ret (if ltP q p then .ref b else .ref a))) { s with heap := h', toks := tk }) :
    codeAny (model prog w) A (.builtin "min.loop" ⟨[.ref I, .none, .ref S], []⟩) R s := by
  have hname : (toString "min" ++ toString ".loop" : String) = "min.loop" := by decide
  have W := Walks.tuple (prog := prog) (w := w) (A := A.in1) hh I T hIT #[.ref a, .ref b]
  refine codeAny_builtin F.entry_min_loop ?_
  rw [Around.under_plainId F.plain_min_loop _]
  show wpAny _ A.in1 (seqItems? (.ref S) >>= _) _ _ s
  refine wpAny_bind (wpAny_seqItems hS rfl ?_)
  show wpAny _ A.in1 (tryCatch (pyNext (.ref I)) _ >>= _) _ _ s
  refine wpAny_bind (wpAny_tryCatch (W.item 0 s _ _ (by simp) ⟨hI, hT⟩ fun v h1 tk1 hP st1 k1 => ?_))
  have hv : v = .ref a := by simpa using hP.symm
  subst hv
  have hS1 := k1 S _ (by simpa using hSI) hS
  show wpAny _ A.in1 (updateSeq S (fun _ => #[.ref a, .ref a]) >>= _) _ _ _
  refine wpAny_bind ?_
  refine wpAny_updateSeq hS1 rfl ?_
  rw [hname]
  have sb1 := Heap.SameBut.update h1 S (Obj.mapSeq fun _ => (#[.ref a, .ref a] : Array Value))
  have g1 : ∀ x o, x ≠ I → x ≠ S → s.heap.get? x = some o → (h1.update S (Obj.mapSeq fun _ => (#[.ref a, .ref a] : Array Value))).get? x = some o := fun x o e1 e2 e => (sb1.2 x e2).trans (k1 x o (by simpa using e1) e)
  refine wpAny_pure ⟨plainId_quiet F.plain_min_loop _, codeAny_builtin F.entry_min_loop ?_⟩
  rw [Around.under_plainId F.plain_min_loop _]
  have hS2 := Heap.get?_update_self (Obj.mapSeq fun _ => (#[.ref a, .ref a] : Array Value)) hS1 rfl
  show wpAny _ A.in1 (seqItems? (.ref S) >>= _) _ _ _
  refine wpAny_bind (wpAny_seqItems hS2 rfl ?_)
  show wpAny _ A.in1 (tryCatch (pyNext (.ref I)) _ >>= _) _ _ _
  refine wpAny_bind (wpAny_tryCatch (W.item 1 _ _ _ (by simp) (W.frame _ _ _ st1 fun x hx o e => (sb1.2 x (by rcases List.mem_cons.mp hx with rfl | hx; exact Ne.symm hSI; exact (List.mem_singleton.mp hx) ▸ Ne.symm hST)).trans e) fun v h2 tk2 hP st2 k2 => ?_))
  have hv : v = .ref b := by simpa using hP.symm
  subst hv
  have hS3 := k2 S _ (by simpa using hSI) hS2
  have g2 : ∀ x o, x ≠ I → x ≠ S → s.heap.get? x = some o → h2.get? x = some o := fun x o e1 e2 e => k2 x o (by simpa using e1) (g1 x o e1 e2 e)
  show wpAny _ A.in1 (tryCatch (holding [.ref b, .ref b] (richCompare .Lt (.ref b) (.ref a) >>= _)) _ >>= _) _ _ _
  refine wpAny_bind (wpAny_tryCatch (wpAny_holding (wpAny_bind (lt_tt (p := q) (q := p) (hb.keeps fun o e => g2 b o hIb hSb e) (ha.keeps fun o e => g2 a o hIa hSa e) hu ?_))))
  refine wpAny_bind (wpAny_holding (wpAny_truthy_bool ?_))
  refine wpAny_bind (wpAny_letGo (wpAny_pure ?_))
  have fin : ∀ (v : Value) (h3 : Heap) (c3 : Nat), h3.get? S = some { cls := .type "list", dict := none, data := .seq #[v, v] c3, slots := #[] } → (∀ x o, x ≠ I → x ≠ S → s.heap.get? x = some o → h3.get? x = some o) →
      (h3.IsTupleIter I T 2 ∧ h3.IsTuple T #[.ref a, .ref b]) → v = (if ltP q p then Value.ref b else Value.ref a) → codeAny (model prog w) A (.builtin "min.loop" ⟨[.ref I, .none, .ref S], []⟩) R { s with heap := h3, toks := tk2 } := by
    intro v h3 c3 hS3 g3 st3 ev
    refine codeAny_builtin F.entry_min_loop ?_
    rw [Around.under_plainId F.plain_min_loop _]
    show wpAny _ A.in1 (seqItems? (.ref S) >>= _) _ _ _
    refine wpAny_bind (wpAny_seqItems hS3 rfl ?_)
    show wpAny _ A.in1 (tryCatch (pyNext (.ref I)) _ >>= _) _ _ _
    refine wpAny_bind (wpAny_tryCatch (W.done _ _ _ st3 fun h4 tk4 k4 => ?_))
    have hS4 := k4 S _ (by simpa using hSI) hS3
    show wpAny _ A.in1 (updateSeq S (fun _ => #[]) >>= _) _ _ _
    refine wpAny_bind ?_
    refine wpAny_updateSeq hS4 rfl (wpAny_bind (wpAny_letGo (wpAny_pure ?_)))
    rw [ev]
    refine hR _ _ fun x o e1 e2 e => ?_
    exact (Heap.get?_update_other _ _ (Ne.symm e2)).trans (k4 x o (by simpa using e1) (g3 x o e1 e2 e))
  cases hb : (ltP q p) with
  | true =>
    simp only [if_true]
    refine wpAny_bind ?_
    refine wpAny_updateSeq hS3 rfl (wpAny_bind (wpAny_letGo ?_))
    rw [hname]
    have sb3 := Heap.SameBut.update h2 S (Obj.mapSeq fun _ => (#[.ref b, .ref b] : Array Value))
    refine wpAny_pure ⟨plainId_quiet F.plain_min_loop _, fin (.ref b) _ _ (Heap.get?_update_self _ hS3 rfl) (fun x o e1 e2 e => (sb3.2 x e2).trans (g2 x o e1 e2 e)) (W.frame _ _ _ st2 fun x hx o e => (sb3.2 x (by rcases List.mem_cons.mp hx with rfl | hx; exact Ne.symm hSI; exact (List.mem_singleton.mp hx) ▸ Ne.symm hST)).trans e) (by rw [hb]; rfl)⟩
  | false =>
    simp only [Bool.false_eq_true, if_false]
    refine wpAny_bind (wpAny_letGo ?_)
    rw [hname]
    exact wpAny_pure ⟨plainId_quiet F.plain_min_loop _, fin (.ref a) _ _ hS3 g2 st2 (by rw [hb]; rfl)⟩

theorem min_tt {a b : Addr} {p q : Pt} {Q : Value → Shared → Prop} (hh : A.handled = none) (ha : TupAt s.heap a p) (hb : TupAt s.heap b q) (hu : A.units + 1 < cLine)
    (h : ∀ h' tk, (∀ x o, s.heap.get? x = some o → h'.get? x = some o) → Q (if ltP q p then .ref b else .ref a) { s with heap := h', toks := tk }) :
    wpAny (model prog w) A (call (.builtin "min") [.ref a, .ref b]) Q E s := by
  have hname : (toString "min" ++ toString ".loop" : String) = "min.loop" := by decide
  refine call_function_tree F.kind_min F.plain_min F.entry_min (F.args_min2 _ _) ?_
  show wpAny _ A.in1 (Builtin.Builtins.bindParams "min" ["key", "default"] 0 ⟨[], []⟩ >>= _) _ _ s
  refine wpAny_bind (wpAny_of_eq (show Builtin.Builtins.bindParams "min" ["key", "default"] 0 ⟨[], []⟩ = pure [none, none] from rfl) ?_)
  show wpAny _ A.in1 (newTuple [.ref a, .ref b] >>= _) _ _ s
  refine wpAny_bind (wpAny_newObj_type ?_)
  have hT : (s.heap.push { cls := .type "tuple", data := .seq #[.ref a, .ref b] }).IsTuple s.heap.objs.size #[.ref a, .ref b] := ⟨_, Heap.get?_push_size _ rfl, rfl, 0, rfl⟩
  have la : @LT.lt Nat _ a s.heap.objs.size := by obtain ⟨_, _, _, e⟩ := ha; exact ltN (Heap.lt_size e)
  have lb : @LT.lt Nat _ b s.heap.objs.size := by obtain ⟨_, _, _, e⟩ := hb; exact ltN (Heap.lt_size e)
  refine wpAny_bind (wpAny_pyIter_tuple hT ?_)
  refine wpAny_bind (wpAny_newObj_type ?_)
  rw [hname]
  have up : ∀ x o, s.heap.get? x = some o → (((s.heap.push { cls := .type "tuple", data := .seq #[.ref a, .ref b] }).push { cls := .type "tuple_iterator", data := .fields #[.ref s.heap.objs.size, .int 0 0] }).push { cls := .type "list", data := .seq #[] }).get? x = some o := fun x o e => Heap.get?_push_of_some _ (Heap.get?_push_of_some _ (Heap.get?_push_of_some _ e))
  have z1 : (s.heap.push { cls := .type "tuple", data := .seq #[.ref a, .ref b] }).objs.size = s.heap.objs.size + 1 := Heap.size_push ..
  have z2 : ((s.heap.push { cls := .type "tuple", data := .seq #[.ref a, .ref b] }).push { cls := .type "tuple_iterator", data := .fields #[.ref s.heap.objs.size, .int 0 0] }).objs.size = s.heap.objs.size + 2 := by rw [Heap.size_push, z1]
  refine wpAny_pure ⟨plainId_quiet F.plain_min_loop _, min_step (I := (s.heap.push { cls := .type "tuple", data := .seq #[.ref a, .ref b] }).objs.size) (T := s.heap.objs.size) (S := ((s.heap.push { cls := .type "tuple", data := .seq #[.ref a, .ref b] }).push { cls := .type "tuple_iterator", data := .fields #[.ref s.heap.objs.size, .int 0 0] }).objs.size) (s := { s with heap := (((s.heap.push { cls := .type "tuple", data := .seq #[.ref a, .ref b] }).push { cls := .type "tuple_iterator", data := .fields #[.ref s.heap.objs.size, .int 0 0] }).push { cls := .type "list", data := .seq #[] }) }) (p := p) (q := q) hh (ha.keeps fun o e => up _ o e) (hb.keeps fun o e => up _ o e) hu (neN (by rw [z1]; omega)) (neN (by rw [z1, z2]; omega)) (neN (by rw [z2]; omega)) (neN (by rw [z1]; omega)) (neN (by rw [z1]; omega)) (neN (by rw [z2]; omega)) (neN (by rw [z2]; omega)) ?_ ?_ (c := 0) ?_ fun h' tk k => h h' tk fun x o e => ?_⟩
  · exact ⟨_, Heap.get?_push_of_some _ (Heap.get?_push_size _ rfl), rfl, rfl⟩
  · exact (hT.push _).push _
  · exact Heap.get?_push_size _ rfl
  · have l := ltN (Heap.lt_size e)
    exact k x o (neN (by rw [z1]; omega)) (neN (by rw [z2]; omega)) (up x o e)

theorem PtIn.tup {h₀ h : Heap} {L a : Addr} {news : List (Addr × Obj)} {p : Pt} (N : News h₀ L h news) (x : PtIn news (.ref a) p) : TupAt h a p := by
  cases x with | mk x => exact ⟨_, _, _, (N _ x).1⟩
theorem max_K {h₀ : Heap} {L : Addr} {m : Str → Option Value} {news : List (Addr × Obj)} {a b : Addr} {p q : Pt} {Q : Value → Shared → Prop} (hh : A.handled = none) (F : Fr h₀ L s.heap m) (N : News h₀ L s.heap news) (ha : PtIn news (.ref a) p) (hb : PtIn news (.ref b) q) (hu : A.units + 1 < cLine)
    (h : ∀ c h' tk, PtIn news (.ref c) (maxP p q) → Fr h₀ L h' m → News h₀ L h' news → Q (.ref c) { s with heap := h', toks := tk }) : wpAny (model prog w) A (call (.builtin "max") [.ref a, .ref b]) Q E s :=
  max_tt hh (ha.tup N) (hb.tup N) hu fun h' tk k => by
    unfold maxP at h
    cases e : ltP p q with
    | true => rw [e] at h; exact h b h' tk hb (F.grownK k) (N.grown k)
    | false => rw [e] at h; exact h a h' tk ha (F.grownK k) (N.grown k)
theorem min_K {h₀ : Heap} {L : Addr} {m : Str → Option Value} {news : List (Addr × Obj)} {a b : Addr} {p q : Pt} {Q : Value → Shared → Prop} (hh : A.handled = none) (F : Fr h₀ L s.heap m) (N : News h₀ L s.heap news) (ha : PtIn news (.ref a) p) (hb : PtIn news (.ref b) q) (hu : A.units + 1 < cLine)
    (h : ∀ c h' tk, PtIn news (.ref c) (minP p q) → Fr h₀ L h' m → News h₀ L h' news → Q (.ref c) { s with heap := h', toks := tk }) : wpAny (model prog w) A (call (.builtin "min") [.ref a, .ref b]) Q E s :=
  min_tt hh (ha.tup N) (hb.tup N) hu fun h' tk k => by
    unfold minP at h
    cases e : ltP q p with
    | true => rw [e] at h; exact h b h' tk hb (F.grownK k) (N.grown k)
    | false => rw [e] at h; exact h a h' tk ha (F.grownK k) (N.grown k)
theorem ge_K {h₀ : Heap} {L : Addr} {news : List (Addr × Obj)} {a b : Addr} {p q : Pt} {Q : Value → Shared → Prop} (N : News h₀ L s.heap news) (ha : PtIn news (.ref a) p) (hb : PtIn news (.ref b) q) (hu : A.units < cLine)
    (h : Q (.bool (!ltP p q)) s) : wpAny (model prog w) A (compareOp .GtE (.ref a) (.ref b)) Q E s := ge_tt (ha.tup N) (hb.tup N) hu h
theorem lt_K {h₀ : Heap} {L : Addr} {news : List (Addr × Obj)} {a b : Addr} {p q : Pt} {Q : Value → Shared → Prop} (N : News h₀ L s.heap news) (ha : PtIn news (.ref a) p) (hb : PtIn news (.ref b) q) (hu : A.units < cLine)
    (h : Q (.bool (ltP p q)) s) : wpAny (model prog w) A (compareOp .Lt (.ref a) (.ref b)) Q E s := lt_tt (ha.tup N) (hb.tup N) hu h
end
end Mine
end
section
open PySem PySem.W PyProof.Rows
set_option maxRecDepth 100000
namespace Mine
local macro_rules | `(tactic| ktr_rel) => `(tactic| first | assumption | exact PtIn.mk (by k_mem) | exact SgIn.mk (by k_mem) (by ktr_rel) (by ktr_rel))
local macro_rules | `(tactic| walk_at "call ref") => `(tactic| (k_here; (with_reducible show wpAny _ _ (call (Value.ref 294) _) _ _ _); k_dflt (refine' con_use (d := (_, _)) side_c ?k1 ?k2 ?k3 ?k4 ?k5 ?kK ?kR ?ko ?kd ?ku ?_; (case k1 => k_asm); (case k2 => k_asm); (case k3 => k_asm); (case k4 => k_asm); (case k5 => k_asm); (case kK => first | exact rfl | assumption); (case kR => exact ⟨_, _, rfl, by ktr_rel, by ktr_rel⟩); (case ko => (dsimp only [sideS]; refine ⟨?_, ?_, ?_⟩ <;> first | assumption | (constructor <;> omega))); (case kd => (dsimp only [sideS]; ktr_room)); (case ku => (dsimp only [sideS]; ktr_units)); k_whole; intro v9 m9 h9 tk9 F9 N9 ho9; (obtain ⟨hm9, ⟨t9, hv9⟩, s9, s9'⟩ := ho9); subst hm9; subst hv9; (dsimp only [List.nil_append] at N9); (try dsimp only); (try k_sweep))))
local macro_rules | `(tactic| walk_at "call builtin:max") => `(tactic| (k_here; (with_reducible show wpAny _ _ (call _ [Value.ref _, Value.ref _]) _ _ _); k_dflt (refine' max_K ?kh ?k1 ?k2 ?k3 ?k4 ?k5 ?_; (case kh => exact rfl); (case k1 => k_asm); (case k2 => k_asm); (case k3 => ktr_rel); (case k4 => ktr_rel); (case k5 => ktr_units); k_whole; intro c9 h9 tk9 P9 F9 N9; (try k_sweep))))
local macro_rules | `(tactic| walk_at "call builtin:min") => `(tactic| (k_here; (with_reducible show wpAny _ _ (call _ [Value.ref _, Value.ref _]) _ _ _); k_dflt (refine' min_K ?kh ?k1 ?k2 ?k3 ?k4 ?k5 ?_; (case kh => exact rfl); (case k1 => k_asm); (case k2 => k_asm); (case k3 => ktr_rel); (case k4 => ktr_rel); (case k5 => ktr_units); k_whole; intro c9 h9 tk9 P9 F9 N9; (try k_sweep))))
local macro_rules | `(tactic| walk_at "compareOp GtE ref ref") => `(tactic| (k_here; k_dflt (refine' ge_K ?k2 ?k3 ?k4 ?k5 ?_; (case k2 => k_asm); (case k3 => ktr_rel); (case k4 => ktr_rel); (case k5 => ktr_units); k_whole)))
local macro_rules | `(tactic| walk_at "compareOp Lt ref ref") => `(tactic| (k_here; k_dflt (refine' lt_K ?k2 ?k3 ?k4 ?k5 ?_; (case k2 => k_asm); (case k3 => ktr_rel); (case k4 => ktr_rel); (case k5 => ktr_units); k_whole)))
abbrev letS : Spec (Sg × Sg) where
  args := fun d news vs => ∃ v u, vs = [v, u] ∧ SgIn news v d.1 ∧ SgIn news u d.2
  ok := fun d => (Small d.1.1 ∧ Small d.1.2) ∧ Small d.2.1 ∧ Small d.2.2
  deep := 2
  out := fun d more v => more = [] ∧ v = .bool (letOf d.1 d.2)
set_option maxHeartbeats 40000000 in
theorem let_c : Con 301 letS := by
  unfold Con; delta PR LS
  k_fill
  intro w mean mg mb dp un gd cn cs a ccd cl outer A₀ base h₀ L m news s d vs Q E B F X N T hk hr hok hd hu hret
  obtain ⟨⟨p1, p2⟩, ⟨p3, p4⟩⟩ := d
  obtain ⟨v, u, rfl, hS, hR⟩ := hr
  cases hS with | mk hS hp1 hp2 => 
  cases hR with | mk hR hp3 hp4 => 
  obtain ⟨⟨b1, b2⟩, b3, b4⟩ := hok
  dsimp only [letS] at b1 b2 b3 b4 hd hu
  refine wpAny_call ?_
  k_dflt ktr_enter
  k_steps
  all_goals (
    refine hret _ [] _ _ (by k_asm) (by k_asm) ⟨rfl, congrArg Value.bool ?_⟩
    clear hret
    dsimp only [letOf]
    simp_all only [decide_eq_true_eq, decide_eq_false_iff_not, and_self, and_false, false_and, if_true, if_false, Bool.or_true, Bool.true_or, Bool.false_or, Bool.or_false, decide_true, decide_false])
end Mine
end
section
open PySem PySem.W PyProof.Rows PySem.Calls
set_option maxRecDepth 100000
namespace Mine
theorem PtIn.mono {l l' : List (Addr × Obj)} {v : Value} {p : Pt} (h : PtIn l v p) (hs : ∀ q ∈ l, q ∈ l') : PtIn l' v p := by cases h with | mk h => exact .mk (hs _ h)
theorem SgIn.mono {l l' : List (Addr × Obj)} {v : Value} {e : Sg} (h : SgIn l v e) (hs : ∀ q ∈ l, q ∈ l') : SgIn l' v e := by cases h with | mk h a b => exact .mk (hs _ h) (a.mono hs) (b.mono hs)
theorem PtIn.up {l : List (Addr × Obj)} {x : Addr × Obj} {v : Value} {p : Pt} (h : PtIn l v p) : PtIn (x :: l) v p := h.mono fun _ => List.mem_cons_of_mem _
theorem SgIn.up {l : List (Addr × Obj)} {x : Addr × Obj} {v : Value} {p : Sg} (h : SgIn l v p) : SgIn (x :: l) v p := h.mono fun _ => List.mem_cons_of_mem _

/-- a map of the frame whose one name may have turned -/
def But (x : Str) (m₀ m : Str → Option Value) : Prop := ∃ u, m = fun y => if y = x then u else m₀ y
theorem But.refl {x : Str} {m₀ : Str → Option Value} : But x m₀ m₀ := ⟨m₀ x, funext fun y => by split <;> simp_all⟩
theorem But.store {x : Str} {m₀ : Str → Option Value} {u v : Option Value} : But x m₀ (fun y => if y = x then v else if y = x then u else m₀ y) := ⟨v, funext fun y => by split <;> rfl⟩
def TurnEnd (h₀ : Heap) (L : Addr) (inv : (Str → Option Value) → Prop) (news : List (Addr × Obj)) (s₁ : Shared) (Q : Flow → Shared → Prop) (f : Flow) (s₂ : Shared) : Prop :=
  match f with
  | .ret v => Q (.ret v) s₂
  | .brk => Q .next s₂
  | _ => ∃ h' tk m' news', s₂ = { s₁ with heap := h', toks := tk } ∧ Fr h₀ L h' m' ∧ News h₀ L h' news' ∧ (∀ p ∈ news, p ∈ news') ∧ inv m'

section
variable {prog : Program} {w : World} {A : Around} {E : Value → Shared → Prop} {s : Shared} {env : Env} {h₀ : Heap} {x : Str} {px : Pos} {body : List Stmt} {Q : Flow → Shared → Prop} {m₀ : Str → Option Value} {news : List (Addr × Obj)}

theorem turns_keep {I : Addr} {fp wr : List Addr} {n : Nat} {P : Nat → Value → Prop} {St : Nat → Heap → Prop} (W : Walks prog w A I fp wr n P St)
    (hL : env.locals ∉ fp) (hw : ∀ b ∈ wr, h₀.get? b = none) (hnw : ∀ p ∈ news, p.1 ∉ wr) (hst : St 0 s.heap) (F : Fr h₀ env.locals s.heap m₀) (N : News h₀ env.locals s.heap news)
    (inv : Nat → (Str → Option Value) → Prop) (h0 : inv 0 m₀)
    (turn : ∀ i v m₁ news₁ h tk, i < n → P i v → inv i m₁ → (∀ p ∈ news, p ∈ news₁) → Fr h₀ env.locals h m₁ → News h₀ env.locals h news₁ →
      wpAny (model prog w) A (assign (.Name x px) env v) (fun _ s₃ => wpAny (model prog w) A (execs body env) (TurnEnd h₀ env.locals (inv (i + 1)) news₁ { s with heap := h, toks := tk } Q) E s₃) E { s with heap := h, toks := tk })
    (done : ∀ m' h tk, inv n m' → Fr h₀ env.locals h m' → News h₀ env.locals h news → Q .next { s with heap := h, toks := tk }) :
    TurnsAt prog w A h₀ env (.Name x px) body Q E (.ref I) s := by
  refine ⟨I, fp, wr, n, _, _, St, m₀, news, fun i m nx => nx = news ∧ inv i m, rfl, KTurns.ofWalks W (fun i v s Q E st q => wpAny_pure q), hL, hw, hnw, hst, F, N, ⟨rfl, h0⟩, ?_, ?_⟩
  · rintro i v m₁ news₁ h₁ tk₁ own hin hP ⟨rfl, hJ⟩ hnw1 hown hget hall hst₁ F₁ N₁
    refine wpAny_mono (turn i v m₁ (own ++ news₁) h₁ tk₁ hin hP hJ (fun p hp => List.mem_append_right _ hp) F₁ N₁) (fun _ s₃ h₃ => wpAny_mono h₃ (fun f s₄ h₄ => ?_) fun _ _ e => e) fun _ _ e => e
    have fin : (∃ h' tk m' news', s₄ = { s with heap := h', toks := tk } ∧ Fr h₀ env.locals h' m' ∧ News h₀ env.locals h' news' ∧ (∀ p ∈ own ++ news₁, p ∈ news') ∧ inv (i + 1) m') →
        LoopStepU h₀ env.locals wr own (fun m nx => nx = news₁ ∧ inv (i + 1) m) { s with heap := h₁, toks := tk₁ } .next s₄ := by
      rintro ⟨h', tk, m', news', rfl, F', N', hs, hi⟩
      exact ⟨rfl, h', tk, m', news₁, rfl, F', fun p hp => N' p (hs p hp), hnw1, rfl, hi⟩
    cases f with
    | ret v => exact .ret h₄
    | brk => exact .brk h₄
    | next => exact .next (fin h₄)
    | cont => exact .cont (fin h₄)
  · rintro h' tk m' news' F' N' _ ⟨rfl, hJ⟩
    exact done m' h' tk hJ F' N'

theorem iter_tup_keep {ax : Addr} {vs : List Value} {c : Nat} (hh : A.handled = none) (F : Fr h₀ env.locals s.heap m₀) (N : News h₀ env.locals s.heap news) (hm : (ax, tupO vs c) ∈ news)
    (inv : (Str → Option Value) → Nat → (Str → Option Value) → Prop) (h0 : inv m₀ 0 m₀)
    (turn : ∀ i v m₁ news₁ h tk, vs[i]? = some v → inv m₀ i m₁ → (∀ p ∈ news, p ∈ news₁) → Fr h₀ env.locals h m₁ → News h₀ env.locals h news₁ →
      wpAny (model prog w) A (assign (.Name x px) env v) (fun _ s₃ => wpAny (model prog w) A (execs body env) (TurnEnd h₀ env.locals (inv m₀ (i + 1)) news₁ { s with heap := h, toks := tk } Q) E s₃) E { s with heap := h, toks := tk })
    (done : ∀ m' h tk, inv m₀ vs.length m' → Fr h₀ env.locals h m' → News h₀ env.locals h news → Q .next { s with heap := h, toks := tk }) :
    wpAny (model prog w) A (pyIter (.ref ax)) (fun it s₂ => TurnsAt prog w A h₀ env (.Name x px) body Q E it s₂) E s := by
  have hax := N _ hm
  have hl : s.heap.IsTuple ax vs.toArray := ⟨_, hax.1, rfl, c, rfl⟩
  have hlt : ax < s.heap.objs.size := Heap.lt_size hax.1
  have hne : ax ≠ s.heap.objs.size := Nat.ne_of_lt hlt
  refine wpAny_pyIter_tuple hl ?_
  refine turns_keep (Walks.tuple hh s.heap.objs.size ax hne vs.toArray) ?_ ?_ ?_ ⟨⟨_, Heap.get?_push_size _ rfl, rfl, rfl⟩, hl.at fun o e => Heap.get?_push_of_some _ e⟩ (F.push _) (fun p hp => ⟨Heap.get?_push_of_some _ (N p hp).1, (N p hp).2⟩) (inv m₀) h0 ?_ ?_
  · intro hI
    rcases List.mem_cons.mp hI with e | hI
    · exact absurd F.ns.lt (e ▸ Nat.lt_irrefl _)
    · exact hax.2.1 (List.mem_singleton.mp hI).symm
  · intro b hb
    rw [List.mem_singleton.mp hb]
    exact next_is_new F
  · intro p hp hI
    exact absurd (Heap.lt_size (N p hp).1) ((List.mem_singleton.mp hI) ▸ Nat.lt_irrefl _)
  · intro i v m₁ news₁ h tk hi hP
    exact turn i v m₁ news₁ h tk (by simpa using hP)
  · intro m' h tk hi
    exact done m' h tk (by simpa using hi)

theorem iter_range_keep {r : Addr} {n : Nat} {t₀ u₀ v₀ : Tok} (hh : A.handled = none) (hr : IsRange s.heap r 0 (n : Int) 1 t₀ u₀ v₀) (hsmall : Builtin.Range.small 0 (n : Int) 1 = true) (hn : Builtin.Range.rangeSize 0 (n : Int) 1 = (n : Int)) (F : Fr h₀ env.locals s.heap m₀) (N : News h₀ env.locals s.heap news)
    (inv : (Str → Option Value) → Nat → (Str → Option Value) → Prop) (h0 : inv m₀ 0 m₀)
    (turn : ∀ (i : Nat) t m₁ news₁ h tk, i < n → inv m₀ i m₁ → (∀ p ∈ news, p ∈ news₁) → Fr h₀ env.locals h m₁ → News h₀ env.locals h news₁ →
      wpAny (model prog w) A (assign (.Name x px) env (.int (i : Int) t)) (fun _ s₃ => wpAny (model prog w) A (execs body env) (TurnEnd h₀ env.locals (inv m₀ (i + 1)) news₁ { s with heap := h, toks := tk } Q) E s₃) E { s with heap := h, toks := tk })
    (done : ∀ m' h tk, inv m₀ n m' → Fr h₀ env.locals h m' → News h₀ env.locals h news → Q .next { s with heap := h, toks := tk }) :
    wpAny (model prog w) A (pyIter (.ref r)) (fun it s₂ => TurnsAt prog w A h₀ env (.Name x px) body Q E it s₂) E s := by
  refine wpAny_pyIter_range hr hsmall ?_
  refine turns_keep (Walks.range hh s.heap.objs.size 0 1 n) ?_ ?_ ?_ (by show IsRangeIter _ _ _ _ _; rw [hn]; simpa using Heap.get?_push_size _ rfl) (F.push _) (fun p hp => ⟨Heap.get?_push_of_some _ (N p hp).1, (N p hp).2⟩) (inv m₀) h0 ?_ done
  · intro hm
    exact absurd F.ns.lt ((List.mem_singleton.mp hm) ▸ Nat.lt_irrefl _)
  · intro b hb
    rw [List.mem_singleton.mp hb]
    exact next_is_new F
  · intro p hp hI
    exact absurd (Heap.lt_size (N p hp).1) ((List.mem_singleton.mp hI) ▸ Nat.lt_irrefl _)
  · rintro i v m₁ news₁ h tk hi ⟨t, rfl⟩
    rw [show (0 : Int) + (i : Int) * 1 = (i : Int) by omega]
    exact turn i t m₁ news₁ h tk hi
end
end Mine
end
section
open PySem PySem.W PyProof.Rows
set_option maxRecDepth 100000
namespace Mine
local macro_rules | `(tactic| ktr_rel) => `(tactic| first | assumption | exact PtIn.mk (by k_mem) | exact SgIn.mk (by k_mem) (by ktr_rel) (by ktr_rel))
local macro_rules | `(tactic| walk_at "call ref") => `(tactic| (k_here; (with_reducible show wpAny _ _ (call (Value.ref 294) _) _ _ _); k_dflt (refine' con_use (d := (_, _)) side_c ?k1 ?k2 ?k3 ?k4 ?k5 ?kK ?kR ?ko ?kd ?ku ?_; (case k1 => k_asm); (case k2 => k_asm); (case k3 => k_asm); (case k4 => k_asm); (case k5 => k_asm); (case kK => first | exact rfl | assumption); (case kR => exact ⟨_, _, rfl, by ktr_rel, by ktr_rel⟩); (case ko => (dsimp only [sideS]; refine ⟨?_, ?_, ?_⟩ <;> first | assumption | (constructor <;> omega))); (case kd => (dsimp only [sideS]; ktr_room)); (case ku => (dsimp only [sideS]; ktr_units)); k_whole; intro v9 m9 h9 tk9 F9 N9 ho9; (obtain ⟨hm9, ⟨t9, hv9⟩, s9, s9'⟩ := ho9); subst hm9; subst hv9; (dsimp only [List.nil_append] at N9); (try dsimp only); (try k_sweep))))
local macro_rules | `(tactic| walk_at "call builtin:max") => `(tactic| (k_here; (with_reducible show wpAny _ _ (call _ [Value.ref _, Value.ref _]) _ _ _); k_dflt (refine' max_K ?kh ?k1 ?k2 ?k3 ?k4 ?k5 ?_; (case kh => exact rfl); (case k1 => k_asm); (case k2 => k_asm); (case k3 => ktr_rel); (case k4 => ktr_rel); (case k5 => ktr_units); k_whole; intro c9 h9 tk9 P9 F9 N9; (try k_sweep))))
local macro_rules | `(tactic| walk_at "call builtin:min") => `(tactic| (k_here; (with_reducible show wpAny _ _ (call _ [Value.ref _, Value.ref _]) _ _ _); k_dflt (refine' min_K ?kh ?k1 ?k2 ?k3 ?k4 ?k5 ?_; (case kh => exact rfl); (case k1 => k_asm); (case k2 => k_asm); (case k3 => ktr_rel); (case k4 => ktr_rel); (case k5 => ktr_units); k_whole; intro c9 h9 tk9 P9 F9 N9; (try k_sweep))))
local macro_rules | `(tactic| walk_at "compareOp GtE ref ref") => `(tactic| (k_here; k_dflt (refine' ge_K ?k2 ?k3 ?k4 ?k5 ?_; (case k2 => k_asm); (case k3 => ktr_rel); (case k4 => ktr_rel); (case k5 => ktr_units); k_whole)))
local macro_rules | `(tactic| walk_at "compareOp Lt ref ref") => `(tactic| (k_here; k_dflt (refine' lt_K ?k2 ?k3 ?k4 ?k5 ?_; (case k2 => k_asm); (case k3 => ktr_rel); (case k4 => ktr_rel); (case k5 => ktr_units); k_whole)))
abbrev lowerS : Spec (Sg × Sg) where
  args := fun d news vs => ∃ v u, vs = [v, u] ∧ SgIn news v d.1 ∧ SgIn news u d.2
  ok := fun d => (Small d.1.1 ∧ Small d.1.2) ∧ Small d.2.1 ∧ Small d.2.2
  deep := 2
  out := fun d more v => more = [] ∧ v = .bool (lowerOf d.1 d.2)
def lowRest (one other : Sg) (i : Nat) : Bool := match i with
  | 0 => lowerOf one other
  | 1 => lowerAt one other (minP one.2 other.2) false
  | _ => false
theorem maxP_small {p q : Pt} (hp : Small p) (hq : Small q) : Small (maxP p q) := by unfold maxP; split <;> assumption
theorem minP_small {p q : Pt} (hp : Small p) (hq : Small q) : Small (minP p q) := by unfold minP; split <;> assumption
set_option maxHeartbeats 40000000 in
theorem lower_c : Con 315 lowerS := by
  unfold Con; delta PR LS
  k_fill
  intro w mean mg mb dp un gd cn cs a ccd cl outer A₀ base h₀ L m news s d vs Q E B F X N T hk hr hok hd hu hret
  obtain ⟨⟨p1, p2⟩, ⟨p3, p4⟩⟩ := d
  obtain ⟨v, u, rfl, hS, hR⟩ := hr
  rcases hS with @⟨q1, c1, c2, _, _, n1, hS, hp1, hp2⟩
  rcases hR with @⟨q2, c3, c4, _, _, n2, hR, hp3, hp4⟩
  obtain ⟨⟨b1, b2⟩, b3, b4⟩ := hok
  dsimp only [lowerS] at b1 b2 b3 b4 hd hu
  have b5 := maxP_small b1 b3
  have b6 := minP_small b2 b4
  refine wpAny_call ?_
  k_dflt ktr_enter
  k_steps
  (with_reducible rename Fr _ _ _ _ => F9)
  (with_reducible rename News _ _ _ _ => N9)
  refine iter_tup_keep rfl F9 N9 (List.Mem.head _) (fun m₀ i m => But (Str.ofString "place") m₀ m ∧ lowerOf (p1, p2) (p3, p4) = lowRest (p1, p2) (p3, p4) i) ⟨But.refl, rfl⟩ ?_ ?_
  · rintro i v m₁ news₁ h tk hv ⟨⟨u, rfl⟩, hlow⟩ hsub F8 N8
    obtain ⟨c, pt, rfl, hc, hpt, hrest⟩ : ∃ c pt, v = .ref c ∧ PtIn news₁ (.ref c) pt ∧ Small pt ∧ lowRest (p1, p2) (p3, p4) i = lowerAt (p1, p2) (p3, p4) pt (lowRest (p1, p2) (p3, p4) (i + 1)) := by
      rcases i with _ | _ | i
      · exact ⟨_, _, (Option.some.inj hv).symm, (PtIn.mono (by assumption) fun q hq => hsub q (List.mem_cons_of_mem _ (List.mem_cons_of_mem _ hq))), b5, rfl⟩
      · exact ⟨_, _, (Option.some.inj hv).symm, (PtIn.mono (by assumption) fun q hq => hsub q (List.mem_cons_of_mem _ (List.mem_cons_of_mem _ hq))), b6, rfl⟩
      · cases hv
    have up : ∀ q ∈ news, q ∈ news₁ := fun q hq => hsub q (List.mem_cons_of_mem _ (List.mem_cons_of_mem _ hq))
    replace hS := up _ hS
    replace hR := up _ hR
    replace hp1 := hp1.mono up
    replace hp2 := hp2.mono up
    replace hp3 := hp3.mono up
    replace hp4 := hp4.mono up
    clear F9 N9
    k_steps
    all_goals first
      | (refine ⟨_, _, _, _, rfl, by k_asm, by k_asm, fun _ h => h, But.store, hlow.trans (hrest.trans ?_)⟩
         clear hret
         dsimp only [lowerAt]
         simp_all only [decide_eq_true_eq, decide_eq_false_iff_not, ne_eq, not_true_eq_false, not_false_eq_true, if_true, if_false, Decidable.not_not])
      | (dsimp only [TurnEnd]
         k_steps
         refine hret _ [] _ _ (by k_asm) (cb_drop (by k_asm) up) ⟨rfl, congrArg Value.bool (Eq.symm (hlow.trans (hrest.trans ?_)))⟩
         clear hret
         dsimp only [lowerAt]
         simp_all only [decide_eq_true_eq, decide_eq_false_iff_not, ne_eq, not_true_eq_false, not_false_eq_true, if_true, if_false, Decidable.not_not])
  · rintro m₁ h tk ⟨⟨u, rfl⟩, hlow⟩ F8 N8
    clear F9 N9
    k_steps
    exact hret _ [] _ _ (by k_asm) (cb_drop (by k_asm) fun q hq => List.mem_cons_of_mem _ (List.mem_cons_of_mem _ hq)) ⟨rfl, congrArg Value.bool hlow.symm⟩
end Mine
end
section
open PySem PySem.W PyProof.Rows
set_option maxRecDepth 100000
namespace Mine
def dP (n : Int) : Int := (if n < 0 then -n else n).fmod 25
def dQ (n : Int) : Int := let q := ((if n < 0 then -n else n).fdiv 25).fmod 25; if dP n = q then (q + 1).fmod 25 else q
def drawnOf (n : Int) : Sg :=
  let a : Pt := ((dP n).fmod 5, (dP n).fdiv 5)
  let b : Pt := ((dQ n).fmod 5, (dQ n).fdiv 5)
  if ltP b a then (b, a) else (a, b)
theorem drawn_lt {d p q : Int} (hp : dP d = p) (hq : dQ d = q) (h : q.fmod 5 < p.fmod 5 ∨ q.fmod 5 = p.fmod 5 ∧ q.fdiv 5 < p.fdiv 5) : ((q.fmod 5, q.fdiv 5), (p.fmod 5, p.fdiv 5)) = drawnOf d := by
  dsimp only [drawnOf]
  rw [hp, hq, if_pos (by simpa [ltP] using h)]
theorem drawn_ge {d p q : Int} (hp : dP d = p) (hq : dQ d = q) (h : ¬ (q.fmod 5 < p.fmod 5 ∨ q.fmod 5 = p.fmod 5 ∧ q.fdiv 5 < p.fdiv 5)) : ((p.fmod 5, p.fdiv 5), (q.fmod 5, q.fdiv 5)) = drawnOf d := by
  dsimp only [drawnOf]
  rw [hp, hq, if_neg (by simpa [ltP] using h)]
abbrev drawnS : Spec Int where
  args := fun d news vs => ∃ t, vs = [.int d t]
  ok := fun d => PyData.layable0 (.int d) = true
  deep := 2
  out := fun d more v => SgIn more v (drawnOf d)
theorem allLt_ne {d : Addr} {l : List (Addr × Obj)} (h : AllLt d l) : ∀ p ∈ l, p.1 ≠ d := by
  induction l with
  | nil => intro p hp; cases hp
  | cons q r ih =>
    intro p hp
    rcases List.mem_cons.mp hp with e | hp
    · rw [e]; exact Nat.ne_of_lt h.1
    · exact ih h.2 p hp
local macro_rules | `(tactic| k_all) => `(tactic| (refine allLt_ne ?_; first | assumption | (with_reducible rename _ ∧ _ => hc9; simp only [hc9]; done)))
local macro_rules | `(tactic| walk_at "call builtin:sorted") => `(tactic| (k_here; (with_unfolding_all refine' kat_sorted ?k1 ?k2 ?k3 ?k4 ?k5 ?_; (case k1 => k_asm); (case k2 => k_asm); (case k3 => kso_list); (case k4 => exact Nat.le_of_ble_eq_true rfl); (case k5 => exact Nat.le_of_ble_eq_true rfl); k_whole); intro D' e' h' F' N' l1; (try k_lt l1); (try k_sweep); kat_kinds))
theorem dupN {h₀ h : Heap} {L : Addr} {news full : List (Addr × Obj)} (N : News h₀ L h full) (hs : ∀ p ∈ news, p ∈ full) : News h₀ L h (full ++ news) := fun p hp => (List.mem_append.mp hp).elim (N p) fun q => N p (hs p q)
theorem sg_eq {l : List (Addr × Obj)} {v : Value} {e e' : Sg} (h : SgIn l v e) (q : e = e') : SgIn l v e' := q ▸ h
set_option maxHeartbeats 40000000 in
theorem drawn_c : Con 308 drawnS := by
  unfold Con; delta PR LS
  k_fill
  intro w mean mg mb dp un gd cn cs a ccd cl outer A₀ base h₀ L m news s d vs Q E B F X N T hk hr hok hd hu hret
  obtain ⟨t, rfl⟩ := hr
  dsimp only [drawnS] at hok hd hu
  refine wpAny_call ?_
  k_dflt ktr_enter
  k_steps
  all_goals (
    refine hret _ _ _ _ (by k_asm) (dupN (by k_asm) ?_) (sg_eq (SgIn.mk (by k_mem) (PtIn.mk (by k_mem)) (PtIn.mk (by k_mem))) ?_)
    · intro p hp
      repeat (first | exact hp | refine List.mem_cons_of_mem _ ?_)
    clear hret
    first
      | exact drawn_lt rfl (if_pos (by assumption)) (by omega)
      | exact drawn_ge rfl (if_pos (by assumption)) (by omega)
      | exact drawn_lt rfl (if_neg (by assumption)) (by omega)
      | exact drawn_ge rfl (if_neg (by assumption)) (by omega))
end Mine
end
section
open PySem PySem.W PyProof.Rows PySem.Calls Builtin Builtin.ObjectAttr
set_option maxRecDepth 100000
namespace Mine
section
variable {prog : Program} {w : World} {A : Around} {E : Value → Shared → Prop} {s : Shared} {K : Frag}

theorem call_issub {C : Addr} {Q : Value → Shared → Prop} {oc : Value} {od : Option Addr} {cd : ClassData} {sl : Array (Option Value)} (ho : s.heap.get? C = some ⟨oc, od, .cls cd, sl⟩) (hs : Looks (model prog w) s.heap (isSubtype (.ref C) (.type "tuple")) true) (hq : Q (.bool true) s) :
    wpAny (model prog w) A (call (.builtin "issubclass") [.ref C, .type "tuple"]) Q E s := by
  obtain ⟨hp, g, d, tk, os⟩ := s
  dsimp only at ho hs
  have t2 : typeOf (.type "tuple") = pure (.type "type") := by kernel_rfl
  have t3 : isType (.type "tuple") = pure true := by kernel_rfl
  refine call_function_tree F.kind_issubclass F.plain_issubclass F.entry_issubclass (F.args_issubclass_2 _ _) ?_
  unfold Builtin.«issubclass»
  refine wpAny_bind (m := someArgs "issubclass" 2 2 _) (wpAny_of_eq (show someArgs "issubclass" 2 2 ⟨[Value.ref C, Value.type "tuple"], []⟩ = pure [.ref C, .type "tuple"] from by kernel_rfl) ?_)
  refine wpAny_pure ⟨Code.quiet_builtin _ (by decide +kernel), codeAny_builtin F.entry_issubclass_nested ?_⟩
  rw [Around.under_plain (show (Code.builtin "issubclass.nested" ⟨[.ref C, .type "tuple", rawInt 0], []⟩).weight = 0 from rfl) rfl]
  unfold Builtin.«issubclass.nested»
  have L2 : Looks (model prog w) hp (typeOf (.type "tuple")) (.type "type") := Looks.of_pure t2
  repeat lk
  exact hq

theorem gi_kind : builtinKind "tuple.__getitem__" = some .slot := by decide +kernel
theorem gi_split : splitId "tuple.__getitem__" = some ("tuple", "__getitem__") := by decide +kernel
theorem getitem_tup {b : Addr} {items : Array Value} {n : Nat} {o : Obj} {i : Int} {t : Tok} {v : Value} {Q : Value → Shared → Prop} (hb : s.heap.get? b = some o) (hd : o.data = .seq items n) (ht : Looks (model prog w) s.heap (isInstance (.ref b) (.type "tuple")) true)
    (h0 : 0 ≤ i) (h1 : i < 2 ^ 63) (hk : seqIndex? i items.size = some i.toNat) (hv : items[i.toNat]? = some v) (h : Q v s) : wpAny (model prog w) A (call (.builtin "tuple.__getitem__") [.ref b, .int i t]) Q E s := by
  obtain ⟨c1, d1, v1, l1⟩ := o
  obtain ⟨hp, g, dr, tk, os⟩ := s
  dsimp only at hb hd ht h
  subst hd
  refine wpAny_call ?_
  refine codeAny_call_builtin PySem.F.slot_tuple_getitem.plain PySem.F.entry_tuple_getitem (@check_slot (model prog w) _ _ _ "tuple.__getitem__" "tuple" "__getitem__" (.ref b) [.int i t] [] _ gi_kind gi_split ht (PySem.F.args_tuple_getitem_2 _ _) ?_)
  have f1 := AutoSeq1.idx_int
  have hf : ¬ (decide (i < -2 ^ 63) || decide (i ≥ 2 ^ 63)) = true := by simp; omega
  wp_walk using wpAny_loadPart' hb
  simp only [hk, hv, Option.bind_some]
  refine wpAny_ite_false (by simp; omega) ?_
  wp_walk
  exact h

theorem tga_kind : builtinKind "tuple.__getattribute__" = some .slot := by decide +kernel
theorem tga_split : splitId "tuple.__getattribute__" = some ("tuple", "__getattribute__") := by decide +kernel

/-- reading a field of a Point by its own getter -/
theorem get_pt {x : Addr} {ox : Obj} {od : Option Obj} {C g a : Addr} {name : Str} {expr : Bool} {Q : Value → Shared → Prop} (X : K.In s.heap) (I : InstAt s.heap x ox C od)
    (hga : findIn K (.ref C) "__getattribute__" = some (some (.builtin "tuple.__getattribute__"))) (hgh : findIn K (.ref C) "__getattr__" = some none)
    (hs : subIn K (.ref C) (.type "tuple") = some true) (hf : findObj K C od name = some (.bind (.ref g) (.ref a)))
    (h : wpAny (model prog w) A.in1 (call (.ref g) [.ref a, .ref x, .ref C]) (fun v s' => (∃ i t, v = .int i t) ∧ Q v s') (fun _ _ => False) { s with toks := s.toks + 1 }) :
    wpAny (model prog w) A (getAttr (.ref x) name expr) Q E s := by
  obtain ⟨hh, gg, d, t, os⟩ := s
  have L0 := I.type (M := model prog w)
  have L1 := looks_findIn (M := model prog w) X hga
  have L2 := looks_findIn (M := model prog w) X hgh
  have L3 := looks_find (M := model prog w) X I hf
  have L4 := looks_subIn (M := model prog w) X hs
  have L5 : Looks (model prog w) hh (isInstance (.ref x) (.type "tuple")) true := L0.andThen L4
  unfold getAttr getAttrBy
  refine wpAny_bind (wpAny_mkText (wpAny_holding (wpAny_bind (L0.at (wpAny_bind (L1.at ?_))))))
  show wpAny _ _ (getAttrByItsOwn _ _ _ _ _ _) _ _ _
  unfold getAttrByItsOwn
  refine wpAny_bind (wpAny_mono (show wpAny _ _ (typeLookup (.ref C) "__getattr__") (fun r s' => r = none ∧ s' = _) E _ from L2.at ⟨rfl, rfl⟩) (fun r s' e => ?_) fun _ _ e => e)
  obtain ⟨rfl, rfl⟩ := e
  refine wpAny_bind (wpAny_attempt (wpAny_holding ?_))
  unfold callGetattribute
  rw [if_neg (by cases expr <;> decide)]
  unfold boundAndCalled
  rw [PySem.F.slot_tuple_getattribute.bind]
  refine wpAny_bind (wpAny_pure ?_)
  refine wpAny_call ?_
  refine codeAny_call_builtin PySem.F.slot_tuple_getattribute.plain PySem.am_entry_tuple_getattribute (@check_slot (model prog w) _ _ _ "tuple.__getattribute__" "tuple" "__getattribute__" (.ref x) [.str name t] [] _ tga_kind tga_split L5 (PySem.F.args_tuple_getattribute_2 _ _) ?_)
  unfold Builtin.«object.__getattribute__»
  dsimp only at L0 L3 h
  refine wpAny_bind (wpAny_of_eq (show slotArgs "__getattribute__" 1 ⟨[Value.ref x] ++ [Value.str name t], []⟩ = pure (.ref x, [.str name t]) from rfl) ?_)
  refine wpAny_bind (wpAny_pure ?_)
  refine wpAny_bind (L0.at ?_)
  refine wpAny_bind (L3.at ?_)
  show wpAny _ _ (holding [.ref a] (call (.ref g) [.ref a, .ref x, .ref C]) >>= ret) _ _ _
  refine wpAny_bind (wpAny_holding (wpAny_mono h (fun v s' z => wpAny_pure ?_) fun _ _ z => z.elim))
  obtain ⟨⟨i, u, rfl⟩, q⟩ := z
  exact wpAny_pure q
theorem po_inst {h₀ h : Heap} {L b dx : Addr} {vs : List Value} {n : Nat} {news : List (Addr × Obj)} (N : News h₀ L h news) (h1 : (b, poO dx vs n) ∈ news) (h2 : (dx, dictOf [] 0) ∈ news) : PySem.W.InstAt h b (poO dx vs n) 132 (some (dictOf [] 0)) :=
  ⟨(N _ h1).1, rfl, rfl, (N _ h2).1⟩
theorem po_tup {h₀ h : Heap} {L b dx : Addr} {vs : List Value} {n : Nat} {news : List (Addr × Obj)} {M : Model} (X : K.In h) (N : News h₀ L h news) (h1 : (b, poO dx vs n) ∈ news) (hs : subIn K (.ref 132) (.type "tuple") = some true) : Looks M h (isInstance (.ref b) (.type "tuple")) true :=
  Looks.andThen (a := .ref 132) ((Looks.ld (N _ h1).1).andThen .now) (looks_subIn X hs)
end
end Mine
end
section
open PySem PySem.W PyProof.Rows
set_option maxRecDepth 100000
namespace Mine
local macro_rules | `(tactic| k_inst) => `(tactic| exact po_inst (by k_asm) (by k_mem) (by k_mem))
local macro_rules | `(tactic| walk_at "call builtin:issubclass") => `(tactic| (k_here; k_dflt (refine' call_issub ?ho ?hs ?_; (case ho => exact (show Frag.In _ _ by k_in) _ _ (by k_is)); (case hs => exact looks_subIn (by k_in) (by k_is)))))
local macro_rules | `(tactic| walk_at "call builtin:tuple.__getitem__") => `(tactic| (k_here; k_dflt (refine' getitem_tup ?hb ?hd ?ht ?h0 ?h1 ?hk ?hv ?_; (case hb => exact News.get (by k_asm) (by k_mem)); (case hd => exact rfl); (case ht => exact po_tup (by k_in) (by k_asm) (by k_mem) (by k_is)); (case h0 => decide); (case h1 => decide); (case hk => exact rfl); (case hv => exact rfl))))
theorem meta_tuple : typeOf (.type "tuple") = pure (.type "type") := by kernel_rfl
local macro_rules | `(tactic| walk_at "getMethod type:tuple") => `(tactic| (k_here; refine' method_type ?F ?X ?m (by decide +kernel) ?e ?h ?_; (case F => k_asm); (case X => k_asm); (case m => exact meta_tuple); (case e => k_dflt k_is); (case h => k_handed)))
abbrev getS : Spec (Bool × Pt) where
  args := fun d news vs => ∃ v, vs = [.ref (if d.1 then 124 else 127), v, .ref 132] ∧ PoIn news v d.2
  ok := fun _ => True
  deep := 1
  out := fun d more v => more = [] ∧ ∃ t, v = .int (if d.1 then d.2.1 else d.2.2) t
set_option maxHeartbeats 40000000 in
theorem get_c : Con 43 getS := by
  unfold Con; delta PR LS
  k_fill
  intro w mean mg mb dp un gd cn cs a ccd cl outer A₀ base h₀ L m news s d vs Q E B F X N T hk hr hok hd hu hret
  obtain ⟨i, p⟩ := d
  obtain ⟨v, rfl, hP⟩ := hr
  cases hP with | mk h1 h2 =>
  dsimp only [getS] at hd hu
  cases i
  all_goals (
    simp only [if_true, if_false, Bool.false_eq_true]
    refine wpAny_call ?_
    k_dflt (refine' code_def ?k1 ?k2 ?k3 ?k4 ?k5 ?kA ?kF ?kK ?k6 ?k7 ?k8 ?k9 ?kB ?_ ?c2 ?c3 ?c4 ?c5; (case kA => exact rfl); (case kF => exact rfl); (case kK => assumption); (case k1 => k_asm); (case k2 => k_asm); (case k3 => k_asm); (case k4 => k_asm); (case k5 => k_asm); (case k6 => k_is); (case k7 => k_is); (case k8 => ktr_room); (case k9 => first | exact BindsTo.of_eq rfl | exact binds_K (by k_in) rfl (by k_is) rfl rfl rfl); (case c5 => decide); (case kB => exact locs rfl); (case c2 => exact rfl); (case c3 => exact rfl); (case c4 => exact rfl); k_whole; intro g' L' h' FG' F' N' B' X' T'; (try dsimp only); (try k_fold))
    k_steps)
  all_goals exact hret _ [] _ _ (by k_asm) (by k_asm) ⟨rfl, _, rfl⟩

theorem read_x {w : World} {mean : ExcName → Option Value} {mg mb : Str → Option Value} {dp un : Nat} {gd : Option (List Code)} {cn : Str} {cs : Scope} {a : Addr} {ccd : Value} {cl : List (Str × Addr)} {outer : List Env} {A₀ : Around} {base h₀ : Heap} {L : Addr} {m : Str → Option Value} {news : List (Addr × Obj)} {s : Shared}
    {b : Addr} {p : Pt} {expr : Bool} {Q E : Value → Shared → Prop}
    (B : Below A₀ base outer h₀) (F : Fr h₀ L s.heap m) (X : (hd.heap_39 w.params).In h₀) (N : News h₀ L s.heap news) (T : Top view LS mean mg mb h₀) (hk : cs.kind = .function)
    (P : PoIn news (.ref b) p) (hdp : dp + 1 < recursionLimit) (hu : un + 9 < cLine)
    (ret : ∀ t h' tk', Fr h₀ L h' m → News h₀ L h' news → Q (.int p.1 t) { s with heap := h', toks := tk' }) :
    wpAny (model PR w) (ktrTop dp un gd cn cs L a ccd cl outer) (getAttr (.ref b) (Str.ofString "x") expr) Q E s := by
  have P' := P
  cases P' with | mk h1 h2 =>
  have XX := X.keeps F.keep
  have goal : PySem.Challenge.rw_ja0045_01.Holds ∨ (hd.heap_39 w.params).In s.heap := .inr XX
  revert goal
  k_fill
  intro goal
  refine get_pt XX (po_inst N h1 h2) (g := 43) (a := 124) (by k_is) (by k_is) (by k_is) (findObj_data (by obtain ⟨cd, hc, q⟩ : ∃ cd, clsIn (hd.heap_39 w.params) 132 = some cd ∧ True := ⟨_, by k_is, trivial⟩; rw [hc]; rfl) (by k_is) (by k_is) (by k_is)) ?_
  refine con_use (d := (true, _)) get_c B F X N T hk ⟨_, rfl, P⟩ trivial hdp (by show un + 1 + 8 * 1 < cLine; omega) ?_
  rintro v more h' tk' F' N' ⟨rfl, t, rfl⟩
  exact ⟨⟨_, _, rfl⟩, ret t h' tk' F' N'⟩

theorem read_y {w : World} {mean : ExcName → Option Value} {mg mb : Str → Option Value} {dp un : Nat} {gd : Option (List Code)} {cn : Str} {cs : Scope} {a : Addr} {ccd : Value} {cl : List (Str × Addr)} {outer : List Env} {A₀ : Around} {base h₀ : Heap} {L : Addr} {m : Str → Option Value} {news : List (Addr × Obj)} {s : Shared}
    {b : Addr} {p : Pt} {expr : Bool} {Q E : Value → Shared → Prop}
    (B : Below A₀ base outer h₀) (F : Fr h₀ L s.heap m) (X : (hd.heap_39 w.params).In h₀) (N : News h₀ L s.heap news) (T : Top view LS mean mg mb h₀) (hk : cs.kind = .function)
    (P : PoIn news (.ref b) p) (hdp : dp + 1 < recursionLimit) (hu : un + 9 < cLine)
    (ret : ∀ t h' tk', Fr h₀ L h' m → News h₀ L h' news → Q (.int p.2 t) { s with heap := h', toks := tk' }) :
    wpAny (model PR w) (ktrTop dp un gd cn cs L a ccd cl outer) (getAttr (.ref b) (Str.ofString "y") expr) Q E s := by
  have P' := P
  cases P' with | mk h1 h2 =>
  have XX := X.keeps F.keep
  have goal : PySem.Challenge.rw_ja0045_01.Holds ∨ (hd.heap_39 w.params).In s.heap := .inr XX
  revert goal
  k_fill
  intro goal
  refine get_pt XX (po_inst N h1 h2) (g := 43) (a := 127) (by k_is) (by k_is) (by k_is) (findObj_data (by obtain ⟨cd, hc, q⟩ : ∃ cd, clsIn (hd.heap_39 w.params) 132 = some cd ∧ True := ⟨_, by k_is, trivial⟩; rw [hc]; rfl) (by k_is) (by k_is) (by k_is)) ?_
  refine con_use (d := (false, _)) get_c B F X N T hk ⟨_, rfl, P⟩ trivial hdp (by show un + 1 + 8 * 1 < cLine; omega) ?_
  rintro v more h' tk' F' N' ⟨rfl, t, rfl⟩
  exact ⟨⟨_, _, rfl⟩, ret t h' tk' F' N'⟩
end Mine
end
section
open PySem PySem.W PyProof.Rows
set_option maxRecDepth 100000
namespace Mine
local macro_rules | `(tactic| ktr_rel) => `(tactic| first | assumption | exact PoIn.mk (by k_mem) (by k_mem))
local macro_rules | `(tactic| walk_at "getAttr ref") => `(tactic| (k_here; (with_reducible show wpAny _ _ (getAttr (Value.ref _) (Str.ofString "x") _) _ _ _); k_dflt (refine' read_x ?k1 ?k2 ?k3 ?k4 ?k5 ?kK ?kR ?kd ?ku ?_; (case k1 => k_asm); (case k2 => k_asm); (case k3 => k_asm); (case k4 => k_asm); (case k5 => k_asm); (case kK => first | exact rfl | assumption); (case kR => ktr_rel); (case kd => ktr_room); (case ku => ktr_units); k_whole; intro t9 h9 tk9 F9 N9; (try k_sweep))))
local macro_rules | `(tactic| walk_at "getAttr ref") => `(tactic| (k_here; (with_reducible show wpAny _ _ (getAttr (Value.ref _) (Str.ofString "y") _) _ _ _); k_dflt (refine' read_y ?k1 ?k2 ?k3 ?k4 ?k5 ?kK ?kR ?kd ?ku ?_; (case k1 => k_asm); (case k2 => k_asm); (case k3 => k_asm); (case k4 => k_asm); (case k5 => k_asm); (case kK => first | exact rfl | assumption); (case kR => ktr_rel); (case kd => ktr_room); (case ku => ktr_units); k_whole; intro t9 h9 tk9 F9 N9; (try k_sweep))))
abbrev angS : Spec (Pt × Pt × Pt) where
  args := fun d news vs => ∃ c a b e, vs = [.ref c, .ref a, .ref b, .ref e] ∧ PoIn news (.ref a) d.1 ∧ PoIn news (.ref b) d.2.1 ∧ PoIn news (.ref e) d.2.2
  ok := fun d => Near d.1 d.2.1
  deep := 3
  out := fun d more v => more = [] ∧ v = .ref (orA (cross d.1 d.2.1 d.2.2))
set_option maxHeartbeats 40000000 in
theorem ang_c : Con 228 angS := by
  unfold Con; delta PR LS
  k_fill
  intro w mean mg mb dp un gd cn cs a ccd cl outer A₀ base h₀ L m news s d vs Q E B F X N T hk hr hok hd hu hret
  obtain ⟨p1, p2, p3⟩ := d
  obtain ⟨c, q1, q2, q3, rfl, h1, h2, h3⟩ := hr
  obtain ⟨b1, b2, b3, b4⟩ := hok
  dsimp only [angS] at b1 b2 b3 b4 hd hu
  refine wpAny_call ?_
  k_dflt ktr_enter
  k_steps
  all_goals (
    refine hret _ [] _ _ (by k_asm) (by k_asm) ⟨rfl, congrArg Value.ref (Eq.symm ?_)⟩
    show orA ((p2.1 - p1.1) * (p3.2 - p1.2) - (p2.2 - p1.2) * (p3.1 - p1.1)) = _
    simp only [decide_eq_true_eq, decide_eq_false_iff_not] at *
    first | exact orA_pos (by omega) | exact orA_neg (by omega) | exact orA_zero (by omega) (by omega))
end Mine
end
section
open PySem PySem.W PyProof.Rows
set_option maxRecDepth 100000
namespace Mine
local macro_rules | `(tactic| ktr_rel) => `(tactic| first | assumption | exact PoIn.mk (by k_mem) (by k_mem))
local macro_rules | `(tactic| walk_at "getAttr ref") => `(tactic| (k_here; (with_reducible show wpAny _ _ (getAttr (Value.ref _) (Str.ofString "x") _) _ _ _); k_dflt (refine' read_x ?k1 ?k2 ?k3 ?k4 ?k5 ?kK ?kR ?kd ?ku ?_; (case k1 => k_asm); (case k2 => k_asm); (case k3 => k_asm); (case k4 => k_asm); (case k5 => k_asm); (case kK => first | exact rfl | assumption); (case kR => ktr_rel); (case kd => ktr_room); (case ku => ktr_units); k_whole; intro t9 h9 tk9 F9 N9; (try k_sweep))))
local macro_rules | `(tactic| walk_at "getAttr ref") => `(tactic| (k_here; (with_reducible show wpAny _ _ (getAttr (Value.ref _) (Str.ofString "y") _) _ _ _); k_dflt (refine' read_y ?k1 ?k2 ?k3 ?k4 ?k5 ?kK ?kR ?kd ?ku ?_; (case k1 => k_asm); (case k2 => k_asm); (case k3 => k_asm); (case k4 => k_asm); (case k5 => k_asm); (case kK => first | exact rfl | assumption); (case kR => ktr_rel); (case kd => ktr_room); (case ku => ktr_units); k_whole; intro t9 h9 tk9 F9 N9; (try k_sweep))))
local macro_rules | `(tactic| walk_at "call ref") => `(tactic| (k_here; (with_reducible show wpAny _ _ (call (Value.ref 228) _) _ _ _); k_dflt (refine' con_use (d := (_, _, _)) ang_c ?k1 ?k2 ?k3 ?k4 ?k5 ?kK ?kR ?ko ?kd ?ku ?_; (case k1 => k_asm); (case k2 => k_asm); (case k3 => k_asm); (case k4 => k_asm); (case k5 => k_asm); (case kK => first | exact rfl | assumption); (case kR => exact ⟨_, _, _, _, rfl, by ktr_rel, by ktr_rel, by ktr_rel⟩); (case ko => assumption); (case kd => (dsimp only [angS]; ktr_room)); (case ku => (dsimp only [angS]; ktr_units)); k_whole; intro v9 m9 h9 tk9 F9 N9 ho9; (obtain ⟨hm9, hv9⟩ := ho9); subst hm9; subst hv9; (dsimp only [List.nil_append] at N9); (try dsimp only); (try k_sweep))))
abbrev oriS : Spec (Sg × Pt) where
  args := fun d news vs => ∃ v u, vs = [.ref v, .ref u] ∧ EdIn news (.ref v) d.1 ∧ PoIn news (.ref u) d.2
  ok := fun d => Near d.1.1 d.1.2
  deep := 4
  out := fun d more v => more = [] ∧ v = .ref (orA (cross d.1.1 d.1.2 d.2))
set_option maxHeartbeats 40000000 in
theorem ori_c : Con 280 oriS := by
  unfold Con; delta PR LS
  k_fill
  intro w mean mg mb dp un gd cn cs a ccd cl outer A₀ base h₀ L m news s d vs Q E B F X N T hk hr hok hd hu hret
  obtain ⟨⟨p1, p2⟩, p3⟩ := d
  obtain ⟨v, u, rfl, hE, hP⟩ := hr
  cases hE with | mk e1 e2 e3 e4 e5 e6 =>
  dsimp only [oriS] at hok hd hu
  refine wpAny_call ?_
  k_dflt ktr_enter
  k_steps
  all_goals exact hret _ [] _ _ (by k_asm) (by k_asm) ⟨rfl, rfl⟩
end Mine
end
section
open PySem PySem.W PyProof.Rows
set_option maxRecDepth 100000
namespace Mine
local macro_rules | `(tactic| ktr_rel) => `(tactic| first | assumption | exact PoIn.mk (by k_mem) (by k_mem))
local macro_rules | `(tactic| walk_at "getAttr ref") => `(tactic| (k_here; (with_reducible show wpAny _ _ (getAttr (Value.ref _) (Str.ofString "x") _) _ _ _); k_dflt (refine' read_x ?k1 ?k2 ?k3 ?k4 ?k5 ?kK ?kR ?kd ?ku ?_; (case k1 => k_asm); (case k2 => k_asm); (case k3 => k_asm); (case k4 => k_asm); (case k5 => k_asm); (case kK => first | exact rfl | assumption); (case kR => ktr_rel); (case kd => ktr_room); (case ku => ktr_units); k_whole; intro t9 h9 tk9 F9 N9; (try k_sweep))))
local macro_rules | `(tactic| walk_at "getAttr ref") => `(tactic| (k_here; (with_reducible show wpAny _ _ (getAttr (Value.ref _) (Str.ofString "y") _) _ _ _); k_dflt (refine' read_y ?k1 ?k2 ?k3 ?k4 ?k5 ?kK ?kR ?kd ?ku ?_; (case k1 => k_asm); (case k2 => k_asm); (case k3 => k_asm); (case k4 => k_asm); (case k5 => k_asm); (case kK => first | exact rfl | assumption); (case kR => ktr_rel); (case kd => ktr_room); (case ku => ktr_units); k_whole; intro t9 h9 tk9 F9 N9; (try k_sweep))))
theorem or_obj {w : World} {h : Heap} {a : Addr} (X : (hd.heap_39 w.params).In h) (ha : IsOr a) : ∃ o, h.get? a = some o ∧ o.cls ≠ .type "tuple" := by
  have goal : PySem.Challenge.rw_ja0045_01.Holds ∨ (hd.heap_39 w.params).In h := .inr X
  revert goal
  k_fill
  intro goal
  rcases ha with rfl | rfl | rfl
  · exact ⟨_, X _ _ (by k_is), fun e => Value.noConfusion e⟩
  · exact ⟨_, X _ _ (by k_is), fun e => Value.noConfusion e⟩
  · exact ⟨_, X _ _ (by k_is), fun e => Value.noConfusion e⟩
theorem is_or {M : Model} {A : Around} {E : Value → Shared → Prop} {s : Shared} {Q : Value → Shared → Prop} {w : World} {a b : Addr} (X : (hd.heap_39 w.params).In s.heap) (ha : IsOr a) (hb : IsOr b) (h : Q (.bool (decide (a = b))) s) : wpAny M A (compareOp .Is (.ref a) (.ref b)) Q E s := by
  obtain ⟨oa, e1, e2⟩ := or_obj X ha
  obtain ⟨ob, e3, e4⟩ := or_obj X hb
  by_cases e : a = b
  · subst e
    rw [decide_eq_true rfl] at h
    exact wpAny_is_ref_self h
  · rw [decide_eq_false e] at h
    exact wpAny_is_ref_other e e1 e3 e2 h
local macro_rules | `(tactic| walk_at "compareOp Is ref ref") => `(tactic| (k_here; k_dflt (refine' is_or ?X ?a ?b ?_; (case X => k_in); (case a => first | exact isOr _ | (unfold IsOr; decide)); (case b => first | exact isOr _ | (unfold IsOr; decide)))))
local macro_rules | `(tactic| walk_at "call ref") => `(tactic| (k_here; (with_reducible show wpAny _ _ (call (Value.ref 280) _) _ _ _); k_dflt (refine' con_use (d := (_, _)) ori_c ?k1 ?k2 ?k3 ?k4 ?k5 ?kK ?kR ?ko ?kd ?ku ?_; (case k1 => k_asm); (case k2 => k_asm); (case k3 => k_asm); (case k4 => k_asm); (case k5 => k_asm); (case kK => first | exact rfl | assumption); (case kR => exact ⟨_, _, rfl, by assumption, by ktr_rel⟩); (case ko => assumption); (case kd => (dsimp only [oriS]; ktr_room)); (case ku => (dsimp only [oriS]; ktr_units)); k_whole; intro v9 m9 h9 tk9 F9 N9 ho9; (obtain ⟨hm9, hv9⟩ := ho9); subst hm9; subst hv9; (dsimp only [List.nil_append] at N9); (try dsimp only); (try k_sweep))))
abbrev ltS : Spec ((Sg × Sg) × Bool) where
  args := fun d news vs => ∃ v u, vs = [.ref v, .ref u] ∧ EdIn news (.ref v) d.1.1 ∧ EdIn news (.ref u) d.1.2
  ok := fun d => Near d.1.1.1 d.1.1.2 ∧ Near d.1.2.1 d.1.2.2 ∧ ltE d.1.1 d.1.2 = some d.2
  deep := 5
  out := fun d more v => more = [] ∧ v = .bool d.2
set_option maxHeartbeats 40000000 in
theorem lt_c : Con 273 ltS := by
  unfold Con; delta PR LS
  k_fill
  intro w mean mg mb dp un gd cn cs a ccd cl outer A₀ base h₀ L m news s d vs Q E B F X N T hk hr hok hd hu hret
  obtain ⟨⟨⟨p1, p2⟩, ⟨p3, p4⟩⟩, ans⟩ := d
  obtain ⟨v, u, rfl, hE, hE'⟩ := hr
  obtain ⟨b1, b2, hlt⟩ := hok
  dsimp only [ltS] at b1 b2 hlt hd hu
  have gE := hE
  have gE' := hE'
  cases hE with | mk e1 e2 e3 e4 e5 e6 =>
  cases hE' with | mk f1 f2 f3 f4 f5 f6 =>
  refine wpAny_call ?_
  k_dflt ktr_enter
  k_steps
  all_goals first
    | (refine hret _ [] _ _ (by k_asm) (by k_asm) ⟨rfl, congrArg Value.bool ?_⟩
       clear hret
       dsimp only [ltE] at hlt
       simp_all only [if_true, if_false, Option.some.injEq])
    | (exfalso
       clear hret
       dsimp only [ltE] at hlt
       simp_all only [if_true, if_false, reduceCtorEq])
end Mine
end
section
open PySem PySem.W PyProof.Rows
set_option maxRecDepth 100000
namespace Mine
/-- what a call made lies at new addresses -/
def Fresh (news more : List (Addr × Obj)) : Prop := ∀ p ∈ more, ∀ q ∈ news, q.1 ≠ p.1
def ConF {D : Type} (f : Addr) (c : Spec D) : Prop :=
  ∀ (w : World) (mean : ExcName → Option Value) (mg mb : Str → Option Value) (dp un : Nat) (gd : Option (List Code)) (cn : Str) (cs : Scope) (a : Addr) (ccd : Value) (cl : List (Str × Addr)) (outer : List Env) (A₀ : Around) (base h₀ : Heap) (L : Addr) (m : Str → Option Value) (news : List (Addr × Obj)) (s : Shared)
    (d : D) (vs : List Value) (Q E : Value → Shared → Prop),
    Below A₀ base outer h₀ → Fr h₀ L s.heap m → (hd.heap_39 w.params).In h₀ → News h₀ L s.heap news → Top view LS mean mg mb h₀ → cs.kind = .function →
    c.args d news vs → c.ok d → dp + c.deep < recursionLimit → un + 8 * c.deep < cLine →
    (∀ v more h' tk', Fr h₀ L h' m → News h₀ L h' (more ++ news) → Fresh news more → c.out d more v → Q v { s with heap := h', toks := tk' }) →
    wpAny (model PR w) (ktrTop dp un gd cn cs L a ccd cl outer) (call (.ref f) vs) Q E s
theorem con_of {D : Type} {f : Addr} {c : Spec D} (C : ConF f c) : Con f c :=
  fun w mean mg mb dp un gd cn cs a ccd cl outer A₀ base h₀ L m news s d vs Q E B F X N T hk R ok hd hu ret => C w mean mg mb dp un gd cn cs a ccd cl outer A₀ base h₀ L m news s d vs Q E B F X N T hk R ok hd hu fun v more h' tk' F' N' _ => ret v more h' tk' F' N'
theorem conF_use {D : Type} {f : Addr} {c : Spec D} (C : ConF f c) {w : World} {mean : ExcName → Option Value} {mg mb : Str → Option Value} {dp un : Nat} {gd : Option (List Code)} {cn : Str} {cs : Scope} {a : Addr} {ccd : Value} {cl : List (Str × Addr)} {outer : List Env} {A₀ : Around} {base h₀ : Heap} {L : Addr} {m : Str → Option Value} {news : List (Addr × Obj)} {s : Shared}
    {d : D} {vs : List Value} {Q E : Value → Shared → Prop}
    (B : Below A₀ base outer h₀) (F : Fr h₀ L s.heap m) (X : (hd.heap_39 w.params).In h₀) (N : News h₀ L s.heap news) (T : Top view LS mean mg mb h₀) (hk : cs.kind = .function)
    (R : c.args d news vs) (ok : c.ok d) (hd : dp + c.deep < recursionLimit) (hu : un + 8 * c.deep < cLine)
    (ret : ∀ v more h' tk', Fr h₀ L h' m → News h₀ L h' (more ++ news) → Fresh news more → c.out d more v → Q v { s with heap := h', toks := tk' }) :
    wpAny (model PR w) (ktrTop dp un gd cn cs L a ccd cl outer) (call (.ref f) vs) Q E s := C _ _ _ _ _ _ _ _ _ _ _ _ _ _ _ _ _ _ _ _ _ _ _ _ B F X N T hk R ok hd hu ret
theorem Fresh.nil {news : List (Addr × Obj)} : Fresh news [] := fun _ h => nomatch h
theorem Fresh.new {news more : List (Addr × Obj)} {x : Addr × Obj} (h : ∀ q ∈ news, q.1 < x.1) (r : Fresh news more) : Fresh news (x :: more) := fun p hp => by
  rcases List.mem_cons.mp hp with rfl | hp
  · exact fun q hq => Nat.ne_of_lt (h q hq)
  · exact r p hp
theorem two_of {h₀ h : Heap} {L : Addr} {news full : List (Addr × Obj)} {e1 e2 : Addr × Obj} (N : News h₀ L h full) (h1 : e1 ∈ full) (h2 : e2 ∈ full) (hs : ∀ p ∈ news, p ∈ full) : News h₀ L h ([e1, e2] ++ news) := fun p hp => by
  rcases List.mem_cons.mp hp with rfl | hp
  · exact N _ h1
  · rcases List.mem_cons.mp hp with rfl | hp
    · exact N _ h2
    · exact N _ (hs p hp)
theorem lt_of {a : Addr} {news : List (Addr × Obj)} (h : AllLt a news) : ∀ q ∈ news, q.1 < a := by
  induction news with
  | nil => intro p hp; cases hp
  | cons q r ih =>
    intro p hp
    rcases List.mem_cons.mp hp with e | hp
    · rw [e]; exact h.1
    · exact ih h.2 p hp
theorem lt_up {a b : Addr} {news : List (Addr × Obj)} (h : ∀ q ∈ news, q.1 < a) (hb : a < b) : ∀ q ∈ news, q.1 < b := fun q hq => Nat.lt_trans (h q hq) hb
end Mine
end
section
open PySem PySem.W PyProof.Rows PySem.Calls Builtin Builtin.ObjectAttr
set_option maxRecDepth 100000
namespace Mine
/-- a class of one base, tuple, that makes by a def of its own -/
structure TupCls (h : Heap) (C : Addr) : Prop where
  obj : ∃ oc od cd sl, h.get? C = some ⟨oc, od, .cls cd, sl⟩ ∧ cd.mro = [.ref C, .type "tuple", .type "object"] ∧ cd.bases = [.type "tuple"] ∧ cd.hasDel = false ∧ sl[4]? = some (some .none)
section
variable {prog : Program} {w : World} {A : Around} {E : Value → Shared → Prop} {s : Shared} {K : Frag} {M : Model} {h : Heap} {C : Addr}
theorem TupCls.mroOf (Y : TupCls h C) : Looks M h (mroOf (.ref C)) [.ref C, .type "tuple", .type "object"] := by
  obtain ⟨oc, od, cd, sl, ho, hm, hb, hd, hs⟩ := Y.obj
  exact hm ▸ ((Looks.ld (part := none) ho).andThen .now).andThen .now
theorem TupCls.sub (Y : TupCls h C) : Looks M h (isSubtype (.ref C) (.type "tuple")) true := by
  unfold isSubtype
  exact Y.mroOf.andThen (Looks.of_pure (by kernel_rfl))
theorem TupCls.made (Y : TupCls h C) : Looks M h (Bind.madeBy (.ref C)) none := by
  intro A Q E s k q
  have hm := Y.mroOf (M := M)
  obtain ⟨oc, od, cd, sl, ho, _, hb, hd, hs⟩ := Y.obj
  unfold Bind.madeBy
  refine wpAny_bind (hm A _ E s k ?_)
  rw [List.forIn_cons]
  refine wpAny_bind (wpAny_bind (wpAny_bind (wpAny_bind (wpAny_loadPart (k _ _ ho) (wpAny_pure ?_)))))
  dsimp only
  rw [hs]
  exact wpAny_pure (wpAny_pure (wpAny_pure q))
theorem made_tuple : Bind.madeBy (.type "tuple") = pure (some "tuple.__new__") := PySem.F.called_tuple.made
theorem TupCls.static (Y : TupCls h C) : Looks M h (Bind.staticBase (.ref C)) (.type "tuple") := by
  intro A Q E s k q
  have hm := Y.mroOf (M := M)
  have mk := Y.made (M := M)
  obtain ⟨oc, od, cd, sl, ho, _, hb, hd, hs⟩ := Y.obj
  unfold Bind.staticBase
  refine wpAny_bind (hm A _ E s k ?_)
  rw [List.forIn_cons]
  refine wpAny_bind (wpAny_bind (wpAny_bind (mk A _ E s k ?_)))
  rw [if_neg (by decide)]
  have hcd : Looks M h (classData C) cd := (Looks.ld (part := none) ho).andThen .now
  refine wpAny_bind (hcd A _ E s k ?_)
  rw [hb]
  refine wpAny_bind (wpAny_of_eq (show Slots.bestBase [.type "tuple"] = pure (.type "tuple") from by kernel_rfl) (wpAny_pure ?_))
  dsimp only
  rw [List.forIn_cons, made_tuple]
  exact wpAny_bind (wpAny_bind (wpAny_pure (wpAny_pure (wpAny_pure (wpAny_pure q)))))

theorem tn_kind : builtinKind "tuple.__new__" = some .builtinFn := by decide +kernel
theorem tn_split : splitId "tuple.__new__" = some ("tuple", "__new__") := by decide +kernel
theorem tn_args (a b : Value) : argsOk "tuple.__new__" ⟨[a, b], []⟩ := by unfold argsOk; kernel_rfl
theorem tn_check {s : Shared} {C : Addr} {b : Value} {Q : Unit → Shared → Prop} (Y : TupCls s.heap C) (q : Q () s) : wpAny M A (checkBuiltinCall "tuple.__new__" ⟨[.ref C, b], []⟩) Q E s := by
  obtain ⟨hp, g, d, tk, os⟩ := s
  dsimp only at Y
  have st := Y.static (M := M)
  have sb := Y.sub (M := M)
  obtain ⟨oc, od, cd, sl, hC, _, hb, hdl, hs⟩ := Y.obj
  have L7 : Looks M hp (Bind.madeBy (.type "tuple")) (some "tuple.__new__") := Looks.of_pure made_tuple
  have fin : wpAny M A (match Manifest.signature? "tuple.__new__" with | some sig => Bind.checkArgs "tuple.__new__" sig ⟨[.ref C, b], []⟩ | none => pure ()) Q E ⟨hp, g, d, tk, os⟩ := by
    have ha := tn_args (.ref C) b
    cases hsig : Manifest.signature? "tuple.__new__" with
    | none => exact wpAny_pure q
    | some sig =>
      simp only [argsOk, hsig] at ha
      have h2 : Bind.checkArgs "tuple.__new__" sig ⟨[.ref C, b], []⟩ = pure () := ha
      show wpAny M A (Bind.checkArgs "tuple.__new__" sig ⟨[.ref C, b], []⟩) Q E _
      rw [h2]; exact wpAny_pure q
  simp only [checkBuiltinCall, tn_kind, tn_split]
  repeat (first | exact fin | simp only [bne_self_eq_false, Bool.false_eq_true, if_false] | lk)
/-- tuple.__new__ for such a class, of a tuple of two -/
theorem new_tup {T : Addr} {o : Obj} {x y : Value} {n : Nat} {Q : Value → Shared → Prop} (Y : TupCls s.heap C) (hi : Looks (model prog w) s.heap (typeLookup (.ref C) "__init__") (some (.builtin "object.__init__")))
    (ho : s.heap.get? T = some o) (hc : o.cls = .type "tuple") (hd : o.data = .seq #[x, y] n)
    (h : ∀ h' : Heap, (∀ b o', s.heap.get? b = some o' → h'.get? b = some o') → Q (.ref (h'.objs.size + 1)) { s with heap := (h'.push emptyDict).push { cls := .ref C, dict := some h'.objs.size, data := .seq #[x, y] } }) :
    wpAny (model prog w) A (call (.builtin "tuple.__new__") [.ref C, .ref T]) Q E s := by
  obtain ⟨hp, g, d, tk, os⟩ := s
  dsimp only at ho hi Y h
  have hm := Y.mroOf (M := model prog w)
  have mk := Y.made (M := model prog w)
  have st := Y.static (M := model prog w)
  have sb := Y.sub (M := model prog w)
  obtain ⟨oc, od, cd, sl, hC, _, hb, hdl, hs⟩ := Y.obj
  have L6 : Looks (model prog w) hp (Bind.madeHere "tuple.__new__" (.ref C)) () := st.andThen ((Looks.of_pure made_tuple).andThen (Looks.of_pure (by kernel_rfl)))
  refine wpAny_call ?_
  refine codeAny_call_builtin (by decide +kernel) PySem.F.entry_tuple_new ?_
  refine tn_check Y ?_
  unfold Builtin.«tuple.__new__»
  have T1 : Looks (model prog w) hp (isType (.ref C)) true := (Looks.ld (part := some headPart) hC).andThen .now
  refine wpAny_bind (T1.at ?_)
  refine wpAny_bind (sb.at ?_)
  refine wpAny_bind (L6.at ?_)
  refine wpAny_bind (hi.at ?_)
  rw [if_pos (by decide)]
  refine wpAny_bind (m := noKeywords "tuple" _) (wpAny_pure ?_)
  refine wpAny_bind (m := checkCount "tuple" 0 1 1) (wpAny_pure ?_)
  dsimp only
  rw [if_neg (by simp)]
  refine wpAny_bind (wpAny_collect_seq T (.inr rfl) ho hc hd (fun h' k => ?_) (by show 2 ≤ sizeLine; rw [sizeLine_eq]; omega))
  have hC' := Heap.get?_push_of_some ({ cls := .ref C, dict := some h'.objs.size, data := .seq #[x, y] } : Obj) (Heap.get?_push_of_some emptyDict (k _ _ hC))
  refine wpAny_bind (wpAny_pure ?_)
  refine wpAny_bind (wpAny_alloc ?_)
  refine wpAny_bind ?_
  unfold newObj
  dsimp only
  rw [if_neg (show ¬ (#[x, y] : Array Value).toList.toArray.size > sizeLine from by show ¬ 2 > sizeLine; rw [sizeLine_eq]; omega)]
  unfold newObjAsIs classHasDel
  refine wpAny_bind (wpAny_alloc (wpAny_bind (wpAny_bind (wpAny_load hC' (wpAny_pure ?_)))))
  dsimp only
  rw [hdl]
  refine wpAny_pure (wpAny_pure ?_)
  show Q _ _
  have z := h h' k
  rw [← Heap.size_push h' emptyDict] at z
  exact z
end
theorem po_cls {w : World} {h : Heap} (X : (hd.heap_39 w.params).In h) : TupCls h 132 := by
  have goal : PySem.Challenge.rw_ja0045_01.Holds ∨ (hd.heap_39 w.params).In h := .inr X
  revert goal
  k_fill
  intro goal
  exact ⟨_, _, _, _, X _ _ (by k_is), rfl, rfl, rfl, rfl⟩
theorem new_tup_K {prog : Program} {w : World} {A : Around} {E : Value → Shared → Prop} {s : Shared} {h₀ : Heap} {L T : Addr} {m : Str → Option Value} {news : List (Addr × Obj)} {x y : Value} {n : Nat} {Q : Value → Shared → Prop}
    (F : Fr h₀ L s.heap m) (X₀ : (hd.heap_39 w.params).In h₀) (N : News h₀ L s.heap news) (hi : findIn (hd.heap_39 w.params) (.ref 132) "__init__" = some (some (.builtin "object.__init__"))) (hT : (T, tupO [x, y] n) ∈ news)
    (h : ∀ b dx h', Fr h₀ L h' m → News h₀ L h' ((b, poO dx [x, y] 0) :: (dx, dictOf [] 0) :: news) → (∀ p ∈ news, p.1 < dx) → dx < b → Q (.ref b) { s with heap := h' }) :
    wpAny (model prog w) A (call (.builtin "tuple.__new__") [.ref 132, .ref T]) Q E s := by
  have X := X₀.keeps F.keep
  refine new_tup (po_cls X) (looks_findIn X hi) (N _ hT).1 rfl rfl fun h' k => ?_
  have F' := (F.grownK k).push emptyDict
  have N' := News.push (F.grownK k) (N.grown k) emptyDict
  have N'' := News.push F' N' (poO h'.objs.size [x, y] 0)
  rw [Heap.size_push] at N''
  exact h _ h'.objs.size _ (F'.push _) N'' (fun p hp => Heap.lt_size (N.grown k p hp).1) (Nat.lt_succ_self _)
local macro_rules | `(tactic| walk_at "getMethod type:tuple") => `(tactic| (k_here; refine' method_type ?F ?X ?m (by decide +kernel) ?e ?h ?_; (case F => k_asm); (case X => k_asm); (case m => exact meta_tuple); (case e => k_dflt k_is); (case h => k_handed)))
local macro_rules | `(tactic| walk_at "call builtin:tuple.__new__") => `(tactic| (k_here; k_dflt (refine' new_tup_K ?F ?X ?N ?i ?T ?_; (case F => k_asm); (case X => k_asm); (case N => k_asm); (case i => k_is); (case T => k_mem); k_whole); intro b9 dx9 h9 F9 N9 l8 l9; (try k_lt2 l9); (try k_sweep)))
theorem lt_tail {a : Addr} {x : Addr × Obj} {news : List (Addr × Obj)} (h : ∀ q ∈ x :: news, q.1 < a) : ∀ q ∈ news, q.1 < a := fun q hq => h q (.tail _ hq)
local macro_rules | `(tactic| ktr_rel) => `(tactic| first | assumption | exact lt_tail (by assumption) | exact lt_of (by assumption) | (refine lt_up (a := ?aa) ?h9 ?l9; (case l9 => assumption); ktr_rel) | (refine lt_of ?h9; simp only [*]; done))
local macro_rules | `(tactic| ktr_rel) => `(tactic| first | exact Fresh.nil | (refine Fresh.new ?h8 ?r8; (case h8 => ktr_rel); ktr_rel))
abbrev pnewS : Spec Pt where
  args := fun d _ vs => ∃ t u, vs = [.ref 132, .int d.1 t, .int d.2 u]
  ok := fun _ => True
  deep := 2
  out := fun d more v => PoIn more v d
set_option maxHeartbeats 40000000 in
theorem pnew_cF : ConF 82 pnewS := by
  unfold ConF; delta PR LS
  k_fill
  intro w mean mg mb dp un gd cn cs a ccd cl outer A₀ base h₀ L m news s d vs Q E B F X N T hk hr hok hd hu hret
  obtain ⟨x, y⟩ := d
  obtain ⟨t, u, rfl⟩ := hr
  dsimp only [pnewS] at hd hu
  refine wpAny_call ?_
  k_dflt ktr_enter
  k_steps
  all_goals (
    refine hret _ [(_, poO _ [.int _ _, .int _ _] _), (_, dictOf [] 0)] _ _ (by k_asm) (two_of (by k_asm) (by k_mem) (by k_mem) ?sub) ?fr (PoIn.mk (.head _) (.tail _ (.head _)))
    case fr => ktr_rel
    · intro p hp
      repeat (first | exact hp | refine List.mem_cons_of_mem _ ?_))

theorem PoIn.mono {l l' : List (Addr × Obj)} {v : Value} {p : Pt} (h : PoIn l v p) (hs : ∀ q ∈ l, q ∈ l') : PoIn l' v p := by cases h with | mk h h' => exact .mk (hs _ h) (hs _ h')
theorem oi_args3 (a b c : Value) : argsOk "object.__init__" ⟨[a, b, c], []⟩ := by unfold argsOk; kernel_rfl
abbrev pointS : Spec Pt where
  args := fun d _ vs => ∃ t u, vs = [.int d.1 t, .int d.2 u]
  ok := fun _ => True
  deep := 3
  out := fun d more v => PoIn more v d
set_option maxHeartbeats 40000000 in
theorem point_cF : ConF 132 pointS := by
  unfold ConF; delta PR LS
  k_fill
  intro w mean mg mb dp un gd cn cs a ccd cl outer A₀ base h₀ L m news s d vs Q E B F X₀ N T hk hr hok hdp hu hret
  obtain ⟨x, y⟩ := d
  obtain ⟨t, u, rfl⟩ := hr
  dsimp only [pointS] at hdp hu
  have X := X₀.keeps F.keep
  have Y := po_cls X
  have hcall := looks_specialIn (M := model PR w) X (v := .ref 132) (name := "__call__") (r := some (.builtin "type.__call__")) (by k_is)
  have typ := looks_instIn (M := model PR w) X (v := .ref 132) (base := .type "type") (r := true) (by k_is)
  have hinit := looks_findIn (M := model PR w) X (t := .ref 132) (name := "__init__") (r := some (.builtin "object.__init__")) (by k_is)
  have hm := Y.mroOf (M := model PR w)
  have mk := Y.made (M := model PR w)
  obtain ⟨oc, od, cd, sl, hC, _, hb, hdl, hs⟩ := Y.obj
  refine wpAny_call ?_
  refine codeAny_of_tree ?_
  show wpAny _ _ (callAny (.ref 132) _) _ _ _
  refine nd_load hC ?_
  show wpAny _ _ (callAny.viaDunder (.ref 132) _) _ _ _
  unfold callAny.viaDunder
  refine wpAny_bind (hcall.here ?_)
  dsimp only
  rw [tc_bind]
  refine wpAny_bind (wpAny_pure (wpAny_bind (wpAny_pure ?_)))
  refine wpAny_pure (a := PySem.Fin.again (.call (.builtin "type.__call__") ⟨[.ref 132, .int x t, .int y u], []⟩)) (And.intro rfl ?_)
  refine codeAny_call_builtin_at (Code.quiet_builtin _ (by decide +kernel)) entry_typeCall (check_slot tc_kind tc_split typ (tc_args _ _ _) ?_)
  unfold Builtin.«type.__call__»
  dsimp only
  rw [if_neg (by simp)]
  refine wpAny_bind (hm.here ?_)
  rw [if_neg (by simp)]
  refine wpAny_bind (mk.here ?_)
  dsimp only
  refine wpAny_bind (cls_sm (mc := .type "type") (p := 133) (f := .ref 82) (rest := []) F X₀ (by k_is) (by k_is) (by k_is) (by k_is) rfl ?_)
  refine wpAny_bind (wpAny_holding (conF_use (d := (x, y)) pnew_cF B F X₀ N T hk ⟨t, u, rfl⟩ trivial (by show dp + 1 + 2 < recursionLimit; omega) (by show un + 1 + 8 * 2 < cLine; omega) ?_))
  rintro v more h' tk' F' N' fr' hP
  have P' := hP
  rcases hP with @⟨b, dx, _, _, t1, u1, n1, p1, p2⟩
  have X' := X₀.keeps F'.keep
  have g1 := (N' _ (List.mem_append_left _ p1)).1
  have Y' := po_cls X'
  have mk' := Y'.made (M := model PR w)
  have hinit' := looks_findIn (M := model PR w) X' (t := .ref 132) (name := "__init__") (r := some (.builtin "object.__init__")) (by k_is)
  have sub' := looks_subIn (M := model PR w) X' (t := .ref 132) (base := .ref 132) (r := true) (by k_is)
  have sub2 := looks_subIn (M := model PR w) X' (t := .ref 132) (base := .type "object") (r := true) (by k_is)
  have ty : Looks (model PR w) h' (typeOf (.ref b)) (.ref 132) := (Looks.ld (part := some headPart) g1).andThen .now
  have inst : Looks (model PR w) h' (isInstance (.ref b) (.ref 132)) true := ty.andThen sub'
  have inst2 : Looks (model PR w) h' (isInstance (.ref b) (.type "object")) true := ty.andThen sub2
  refine wpAny_bind (inst.here ?_)
  rw [if_neg (by decide)]
  refine wpAny_bind (wpAny_holding ?_)
  unfold callSpecial? specialOf
  refine wpAny_bind (wpAny_bind (ty.here (hinit'.here ?_)))
  dsimp only
  refine wpAny_holding (wpAny_bind ?_)
  rw [oi_bind]
  refine wpAny_pure (wpAny_bind (wpAny_call ?_))
  refine codeAny_call_builtin oi_plain entry_oi (@check_slot (model PR w) _ _ _ "object.__init__" "object" "__init__" (.ref b) [.int x t, .int y u] [] _ oi_kind oi_split inst2 (oi_args3 _ _ _) ?_)
  unfold Builtin.«object.__init__»
  dsimp only [List.nil_append, List.cons_append]
  rw [if_pos (by rfl)]
  refine wpAny_bind (ty.here ?_)
  refine wpAny_bind (hinit'.here ?_)
  refine wpAny_bind (mk'.here ?_)
  rw [if_neg (by simp)]
  rw [if_neg (by simp)]
  refine wpAny_pure ?_
  refine wpAny_pure ?_
  refine wpAny_pure ?_
  exact hret (.ref b) more h' tk' F' N' fr' P'
theorem point_c : Con 132 pointS := con_of point_cF
end Mine
end
section
open PySem PySem.W PyProof.Rows PySem.Calls Builtin Builtin.ObjectAttr
set_option maxRecDepth 100000
namespace Mine
theorem tl_kind : builtinKind "tuple.__lt__" = some .slot := by decide +kernel
theorem tl_split : splitId "tuple.__lt__" = some ("tuple", "__lt__") := by decide +kernel
theorem PoIn.pair {h₀ h : Heap} {L : Addr} {news : List (Addr × Obj)} {a : Addr} {p : Pt} (N : News h₀ L h news) (x : PoIn news (.ref a) p) : PairAt h a p := by
  cases x with | mk x _ => exact ⟨_, _, _, _, (N _ x).1, rfl⟩
theorem PoIn.type {h₀ h : Heap} {L : Addr} {M : Model} {news : List (Addr × Obj)} {a : Addr} {p : Pt} (N : News h₀ L h news) (x : PoIn news (.ref a) p) : Looks M h (typeOf (.ref a)) (.ref 132) := by
  cases x with | mk x _ => exact (Looks.ld (part := some headPart) (N _ x).1).andThen .now
theorem lt_po {w : World} {A : Around} {E : Value → Shared → Prop} {s : Shared} {h₀ : Heap} {L : Addr} {news : List (Addr × Obj)} {a b : Addr} {p q : Pt} {Q : Value → Shared → Prop} (X : (hd.heap_39 w.params).In s.heap) (N : News h₀ L s.heap news)
    (ha : PoIn news (.ref a) p) (hb : PoIn news (.ref b) q) (hu : A.units < cLine) (h : Q (.bool (ltP p q)) s) : wpAny (model PR w) A (compareOp .Lt (.ref a) (.ref b)) Q E s := by
  have goal : PySem.Challenge.rw_ja0045_01.Holds ∨ (hd.heap_39 w.params).In s.heap := .inr X
  revert goal
  delta PR
  k_fill
  intro goal
  have ta := ha.type (M := model PR w) N
  have tb := hb.type (M := model PR w) N
  have sp := looks_findIn (M := model PR w) X (t := .ref 132) (name := "__lt__") (r := some (.builtin "tuple.__lt__")) (by k_is)
  have sb := looks_subIn (M := model PR w) X (t := .ref 132) (base := .type "tuple") (r := true) (by k_is)
  have ia : Looks (model PR w) s.heap (isInstance (.ref a) (.type "tuple")) true := ta.andThen sb
  have ib : Looks (model PR w) s.heap (isInstance (.ref b) (.type "tuple")) true := tb.andThen sb
  have run : ∀ A (R : Value → Shared → Prop), R (.bool (ltP p q)) s → wpAny (model PR w) A (call (.builtin "tuple.__lt__") [.ref a, .ref b]) R E s := by
    intro A R hR
    refine wpAny_call ?_
    refine codeAny_call_builtin PySem.F.slot_tuple_lt.plain PySem.F.entry_tuple_lt (@check_slot (model PR w) _ _ _ "tuple.__lt__" "tuple" "__lt__" (.ref a) [.ref b] [] _ tl_kind tl_split ia (PySem.F.args_tuple_lt_2 _ _) ?_)
    exact tup_lt (ha.pair N) (hb.pair N) ib hR
  have one : wpAny (model PR w) A (tryCompare (.ref a) "__lt__" (.ref b)) (fun r s' => ∃ v, r = some v ∧ Q v s') E s := by
    unfold tryCompare
    refine wpAny_bind ?_
    simp only [callSpecialIfBound?, bindSpecialIfBound?]
    refine wpAny_holding (wpAny_bind (wpAny_bind (wpAny_bind (ta.here (sp.here ?_)))))
    refine wpAny_bind (wpAny_askSetting (wpAny_ite ?_))
    have fin : wpAny (model PR w) A (call (.builtin "tuple.__lt__") ([.ref a] ++ [.ref b]) >>= fun v => pure (some v)) (fun r s' => wpAny (model PR w) A (match r with | some .notImplemented | none => pure none | some v => pure (some v)) (fun r s' => ∃ v, r = some v ∧ Q v s') E s') E s :=
      wpAny_bind (run _ _ (wpAny_pure (wpAny_pure ⟨_, rfl, h⟩)))
    split
    · refine wpAny_bind ?_
      rw [PySem.F.slot_tuple_lt.bind]
      exact wpAny_pure (wpAny_pure fin)
    · refine wpAny_tryCatch (wpAny_bind ?_)
      rw [PySem.F.slot_tuple_lt.bind]
      exact wpAny_pure (wpAny_pure fin)
  show wpAny _ _ (richCompare .Lt (.ref a) (.ref b)) _ _ _
  unfold richCompare
  simp only [oneThing_ref]
  refine wpAny_holding (wpAny_bind (wpAny_cRoomFor hu ?_))
  refine wpAny_bind (ta.here (wpAny_bind (tb.here ?_)))
  rw [if_neg (by simp)]
  refine wpAny_bind (wpAny_pure ?_)
  simp only [Bool.false_eq_true, if_false]
  refine wpAny_bind (wpAny_mono one (fun r s' z => ?_) fun _ _ e => e)
  obtain ⟨v, rfl, hq⟩ := z
  exact wpAny_pure hq
end Mine
end
section
open PySem PySem.W PyProof.Rows PySem.Calls
set_option maxRecDepth 100000
namespace Mine
theorem PoIn.up {l : List (Addr × Obj)} {x : Addr × Obj} {v : Value} {p : Pt} (h : PoIn l v p) : PoIn (x :: l) v p := h.mono fun _ => List.mem_cons_of_mem _
theorem EdIn.mono {l l' : List (Addr × Obj)} {v : Value} {e : Sg} (h : EdIn l v e) (hs : ∀ q ∈ l, q ∈ l') : EdIn l' v e := by cases h with | mk a b c d e f => exact .mk (hs _ a) (hs _ b) (hs _ c) (hs _ d) (e.mono hs) (f.mono hs)
local macro_rules | `(tactic| ktr_rel) => `(tactic| first | assumption | (refine PoIn.up ?_; ktr_rel))
local macro_rules | `(tactic| k_all) => `(tactic| (refine allLt_ne ?_; first | assumption | (with_reducible rename _ ∧ _ => hc9; simp only [hc9]; done)))
local macro_rules | `(tactic| walk_at "compareOp Lt ref ref") => `(tactic| (k_here; k_dflt (refine' lt_po ?k1 ?k2 ?k3 ?k4 ?k5 ?_; (case k1 => k_in); (case k2 => k_asm); (case k3 => ktr_rel); (case k4 => ktr_rel); (case k5 => ktr_units); k_whole)))
local macro_rules | `(tactic| k_room) => `(tactic| ktr_room)
local macro_rules | `(tactic| ktr_units) => `(tactic| (simp only [units_under_make, units_in1, units_deeper]; (try dsimp only [ktrTop]); omega))
local macro_rules | `(tactic| k_mem) => `(tactic| assumption)
local macro_rules | `(tactic| ktr_rel) => `(tactic| first | assumption | exact lt_tail (by assumption) | exact lt_of (by assumption) | (refine lt_up (a := ?aa) ?h9 ?l9; (case l9 => assumption); ktr_rel) | (refine lt_of ?h9; simp only [*]; done))
local macro_rules | `(tactic| ktr_rel) => `(tactic| first | exact Fresh.nil | (refine Fresh.new ?h8 ?r8; (case h8 => ktr_rel); ktr_rel))
/-- a new Edge -/
inductive EdNew (more : List (Addr × Obj)) (c l r : Addr) : Value → Prop where
  | mk {b dx : Addr} {h1 h2 h3 h4 : Int} {t1 t2 t3 t4 : Nat} {i : Bool} : (b, instObj 283 dx) ∈ more →
    (dx, dictOf [⟨h1, .str (Str.ofString "context") t1, .ref c⟩, ⟨h2, .str (Str.ofString "interior_to_left") t2, .bool i⟩, ⟨h3, .str (Str.ofString "left") t3, .ref l⟩, ⟨h4, .str (Str.ofString "right") t4, .ref r⟩] 4) ∈ more → EdNew more c l r (.ref b)
structure EdArg where
  p : Pt
  q : Pt
  v : Addr
  u : Addr
  ctx : Addr
abbrev edgeS (x : Addr) : Spec EdArg where
  args := fun d news vs => (x, methodObj (.ref 256) (.ref 283)) ∈ news ∧ ∃ dc, vs = [.ref d.v, .ref d.u, .bool false, .ref d.ctx] ∧ PoIn news (.ref d.v) d.p ∧ PoIn news (.ref d.u) d.q ∧ (d.ctx, instObj 238 dc) ∈ news ∧ (dc, dictOf [] 0) ∈ news
  ok := fun d => ltP d.p d.q = true
  deep := 4
  out := fun d more v => EdNew more d.ctx d.v d.u v
set_option maxHeartbeats 40000000 in
theorem edge_cF (x : Addr) : ConF x (edgeS x) := by
  unfold ConF; delta PR LS
  k_fill
  intro w mean mg mb dp un gd cn cs a ccd cl outer A₀ base h₀ L m news s d vs Q E B F X N T hk hr hok hd hu hret
  obtain ⟨p1, p2, v, u, ctx⟩ := d
  obtain ⟨hx, dc, rfl, hv, hu', hc1, hc2⟩ := hr
  dsimp only [edgeS] at hd hu hok hv hu' hc1 hc2
  refine call_meth N hx ?_
  k_dflt ktr_enter
  k_steps
  refine hret _ [(_, instObj 283 _), (_, dictOf [⟨_, .str (Str.ofString "context") _, .ref _⟩, ⟨_, .str (Str.ofString "interior_to_left") _, .bool _⟩, ⟨_, .str (Str.ofString "left") _, .ref _⟩, ⟨_, .str (Str.ofString "right") _, .ref _⟩] 4)] _ _ (by k_asm) (two_of (by k_asm) (by k_mem) (by k_mem) ?sub) ?fr (EdNew.mk (.head _) (.tail _ (.head _)))
  case fr => ktr_rel
  intro p hp
  repeat (first | exact hp | refine List.mem_cons_of_mem _ ?_)
end Mine
end
section
open PySem PySem.W PyProof.Rows
set_option maxRecDepth 100000
namespace Mine
theorem execs_cut {M : Model} {A : Around} {E : Value → Shared → Prop} {s : Shared} {env : Env} {st : Stmt} {rest : List Stmt} {Q : Flow → Shared → Prop} (Mid : Shared → Prop)
    (h1 : wpAny M A (exec st env) (fun f s' => f = .next ∧ Mid s') E s) (h2 : ∀ s', Mid s' → wpAny M A (execs rest env) Q E s') : wpAny M A (execs (st :: rest) env) Q E s :=
  wpAny_execs_cons (wpAny_mono h1 (fun f s' h => by obtain ⟨rfl, h⟩ := h; exact h2 s' h) fun _ _ e => e)
abbrev cellO (o : Obj) (v : Option Value) : Prop := o.data = .cell v
/-- the law's frame between two statements -/
def LawAt (h₀ : Heap) (L : Addr) (s₀ : Shared) (m : Str → Option Value) (news : List (Addr × Obj)) (s : Shared) : Prop :=
  ∃ h tk, s = { s₀ with heap := h, toks := tk } ∧ Fr h₀ L h m ∧ News h₀ L h news
end Mine
end
section
open PySem PySem.W PyProof.Rows
set_option maxRecDepth 100000
namespace Mine
noncomputable def lawStmt : Stmt := PySem.Challenge.pw_ja0045_01.main.body.getLastD (.Pass default)
noncomputable def lawBody : List Stmt := match lawStmt with | .FunctionDef _ _ b _ _ _ _ _ _ _ => b | _ => []
noncomputable def lawScope : Scope := match lawStmt with | .FunctionDef _ _ _ _ _ _ s _ _ _ => s | _ => default
noncomputable def lawSt (i : Nat) : Stmt := lawBody.getD i (.Pass default)
abbrev lawCl (L : Addr) : List (Str × Addr) := [(Str.ofString "context", L + 1 + 1 + 1), (Str.ofString "one", L + 1 + 1), (Str.ofString "away", L + 1)]
noncomputable abbrev lawEnv (L f : Addr) (cd : Value) : Env := envX (Str.ofString "law") lawScope L f cd (lawCl L)
noncomputable abbrev lawA (dp un : Nat) (gd : Option (List Code)) (L f : Addr) (cd : Value) (outer : List Env) : Around := ktrTop dp un gd (Str.ofString "law") lawScope L f cd (lawCl L) outer
/-- the frame's map: the script, the rows, then names that turn -/
abbrev lm0 (l : Addr) : Str → Option Value := fun y => if y = Str.ofString "script" then some (.ref l) else none
set_option maxHeartbeats 40000000 in
theorem st0 {w : World} {mean : ExcName → Option Value} {mg mb : Str → Option Value} {dp un : Nat} {gd : Option (List Code)} {fL : Addr} {ccd : Value} {outer : List Env} {A₀ : Around} {base h₀ : Heap} {L : Addr} {E : Value → Shared → Prop} {s : Shared}
    (B : Below A₀ base outer h₀) (X : (hd.heap_39 w.params).In h₀) (T : Top view LS mean mg mb h₀) (hdp : dp + 40 < recursionLimit) (hu : un + 400 < cLine) {l : Addr} {vs : List Value} {ns : List Int} {o1 o2 o3 : Obj} (hl : h₀.IsList l vs.toArray) (hi : IntsAre vs ns) (hlay : PyData.layable0 (.list (ns.map .int)) = true)
    (d1 : o1.data = .cell none) (F : Fr h₀ L s.heap (lm0 l)) (N : News h₀ L s.heap [(L + 1 + 1 + 1, o3), (L + 1 + 1, o2), (L + 1, o1)]) :
    wpAny (model PR w) (lawA dp un gd L fL ccd outer) (exec (lawSt 0) (lawEnv L fL ccd)) (fun f s' => f = .next ∧ ∃ z t oa, oa.data = .cell (some (.int z t)) ∧ LawAt h₀ L s (lm0 l) [(L + 1 + 1 + 1, o3), (L + 1 + 1, o2), (L + 1, oa)] s') E s := by
  have goal : PySem.Challenge.rw_ja0045_01.Holds ∨ (hd.heap_39 w.params).In h₀ := .inr X
  revert goal
  delta PR LS at *
  k_fill
  intro _
  conv =>
    arg 3
    arg 1
    whnf
  delta lawA lawEnv
  conv in (occs := *) lawScope => all_goals whnf
  refine wpAny_Assign_Name ?_
  refine wpAny_mono (Q := fun v s' => ∃ z t, v = .int z t ∧ LawAt h₀ L s (lm0 l) [(L + 1 + 1 + 1, o3), (L + 1 + 1, o2), (L + 1, o1)] s') ?_ ?_ fun _ _ e => e
  · k_steps
    all_goals exact ⟨_, _, rfl, by k_asm, by k_asm⟩
  · rintro v s' ⟨z, t, rfl, h, tk, rfl, F', N'⟩
    k_steps
    all_goals exact ⟨_, _, rfl, by k_asm, by k_asm⟩
end Mine
end
section
open PySem PySem.W PyProof.Rows
set_option maxRecDepth 100000
namespace Mine
abbrev lmR (l r : Addr) : Str → Option Value := fun y => if y = Str.ofString "rows" then some (.ref r) else lm0 l y
set_option maxHeartbeats 40000000 in
theorem st1 {w : World} {mean : ExcName → Option Value} {mg mb : Str → Option Value} {dp un : Nat} {gd : Option (List Code)} {fL : Addr} {ccd : Value} {outer : List Env} {A₀ : Around} {base h₀ : Heap} {L : Addr} {E : Value → Shared → Prop} {s : Shared} {Q : Flow → Shared → Prop}
    (B : Below A₀ base outer h₀) (X : (hd.heap_39 w.params).In h₀) (T : Top view LS mean mg mb h₀) {l : Addr} {o1 o2 o3 : Obj}
    (F : Fr h₀ L s.heap (lm0 l)) (N : News h₀ L s.heap [(L + 1 + 1 + 1, o3), (L + 1 + 1, o2), (L + 1, o1)])
    (ret : ∀ r h tk, Fr h₀ L h (lmR l r) → News h₀ L h [(r, listOf #[] 0), (L + 1 + 1 + 1, o3), (L + 1 + 1, o2), (L + 1, o1)] → Q .next { s with heap := h, toks := tk }) :
    wpAny (model PR w) (lawA dp un gd L fL ccd outer) (exec (lawSt 1) (lawEnv L fL ccd)) Q E s := by
  have goal : PySem.Challenge.rw_ja0045_01.Holds ∨ (hd.heap_39 w.params).In h₀ := .inr X
  revert goal
  delta PR LS at *
  k_fill
  intro _
  conv =>
    arg 3
    arg 1
    whnf
  delta lawA lawEnv
  conv in (occs := *) lawScope => all_goals whnf
  k_steps
  exact ret _ _ _ (by k_asm) (by k_asm)
end Mine
end
section
open PySem PySem.W PyProof.Rows PySem.Calls
set_option maxRecDepth 100000
namespace Mine
/-- not an iterator -/
def NF (o : Obj) : Prop := match o.data with | .fields _ => False | _ => True
def TurnJ (h₀ : Heap) (L : Addr) (I ax : Addr) (oI oX : Obj) (J : (Str → Option Value) → List (Addr × Obj) → Prop) (s₁ : Shared) (Q : Flow → Shared → Prop) (f : Flow) (s₂ : Shared) : Prop :=
  match f with
  | .ret v => Q (.ret v) s₂
  | .brk => Q .next s₂
  | _ => ∃ h' tk m' news', s₂ = { s₁ with heap := h', toks := tk } ∧ Fr h₀ L h' m' ∧ News h₀ L h' ((I, oI) :: (ax, oX) :: news') ∧ J m' news'
section
variable {prog : Program} {w : World} {A : Around} {E : Value → Shared → Prop} {s : Shared} {env : Env} {h₀ : Heap} {x : Str} {px : Pos} {body : List Stmt} {Q : Flow → Shared → Prop} {m₀ : Str → Option Value} {news : List (Addr × Obj)}
theorem news_ne {h : Heap} {L a b : Addr} {o o' : Obj} {l : List (Addr × Obj)} (N : News h₀ L h l) (ha : (a, o) ∈ l) (hb : (b, o') ∈ l) (hne : o ≠ o') : a ≠ b := by
  intro e
  subst e
  exact hne (Option.some.inj ((N _ ha).1.symm.trans (N _ hb).1))

theorem iter_list_J {ax : Addr} {its : Array Value} {k : Nat} (hh : A.handled = none) (F : Fr h₀ env.locals s.heap m₀) (N : News h₀ env.locals s.heap ((ax, listOf its k) :: news))
    (J : Nat → (Str → Option Value) → List (Addr × Obj) → Prop) (hJ : ∀ i m n, J i m n → ∀ p ∈ n, NF p.2) (h0 : J 0 m₀ news)
    (turn : ∀ i v m₁ news₁ h tk I oI, its[i]? = some v → J i m₁ news₁ → ¬ NF oI → Fr h₀ env.locals h m₁ → News h₀ env.locals h ((I, oI) :: (ax, listOf its k) :: news₁) →
      wpAny (model prog w) A (assign (.Name x px) env v) (fun _ s₃ => wpAny (model prog w) A (execs body env) (TurnJ h₀ env.locals I ax oI (listOf its k) (J (i + 1)) { s with heap := h, toks := tk } Q) E s₃) E { s with heap := h, toks := tk })
    (done : ∀ m' news' h tk, J its.size m' news' → Fr h₀ env.locals h m' → News h₀ env.locals h news' → Q .next { s with heap := h, toks := tk }) :
    wpAny (model prog w) A (pyIter (.ref ax)) (fun it s₂ => TurnsAt prog w A h₀ env (.Name x px) body Q E it s₂) E s := by
  have hax := N _ (List.Mem.head _)
  have hl : s.heap.IsList ax its := ⟨_, hax.1, rfl, k, rfl⟩
  have hlt : ax < s.heap.objs.size := Heap.lt_size hax.1
  have hne : ax ≠ s.heap.objs.size := Nat.ne_of_lt hlt
  refine wpAny_pyIter_list hl ?_
  have up : ∀ b o, s.heap.get? b = some o → (s.heap.push { cls := .type "list_iterator", data := .fields #[.ref ax, .int 0 0] }).get? b = some o := fun b o e => Heap.get?_push_of_some _ e
  refine ⟨s.heap.objs.size, _, _, its.size, _, _, _, m₀, (ax, listOf its k) :: news, fun i m nx => ∃ n', nx = (ax, listOf its k) :: n' ∧ J i m n', rfl, KTurns.ofWalks (Walks.list hh s.heap.objs.size ax hne its) (fun i v s Q E st q => wpAny_pure q), ?_, ?_, ?_, ⟨⟨_, Heap.get?_push_size _ rfl, rfl, rfl⟩, hl.push _⟩, F.keeps up, fun p hp => ⟨up _ _ (N p hp).1, (N p hp).2⟩, ⟨_, rfl, h0⟩, ?_, ?_⟩
  · intro hI
    rcases List.mem_cons.mp hI with e | hI
    · exact absurd F.ns.lt (e ▸ Nat.lt_irrefl _)
    · exact hax.2.1 (List.mem_singleton.mp hI).symm
  · intro b hb
    rw [List.mem_singleton.mp hb]
    exact next_is_new F
  · intro p hp hI
    exact absurd (Heap.lt_size (N p hp).1) ((List.mem_singleton.mp hI) ▸ Nat.lt_irrefl _)
  · rintro i v m₁ news₁ h₁ tk₁ own hin hP ⟨n', rfl, hJ'⟩ hnw1 hown hget hall hst₁ F₁ N₁
    obtain ⟨oI, hoI, hcI, hdI⟩ := hst₁.1
    have mI : (s.heap.objs.size, oI) ∈ own := hall _ (List.Mem.head _) (next_is_new F) _ hoI
    have nI : ¬ NF oI := by unfold NF; rw [hdI]; exact id
    have N₂ : News h₀ env.locals h₁ ((s.heap.objs.size, oI) :: (ax, listOf its k) :: n') := by
      intro p hp
      rcases List.mem_cons.mp hp with rfl | hp
      · exact N₁ _ (List.mem_append_left _ mI)
      · exact N₁ _ (List.mem_append_right _ hp)
    refine wpAny_mono (turn i v m₁ n' h₁ tk₁ _ oI hP hJ' nI F₁ N₂) (fun _ s₃ h₃ => wpAny_mono h₃ (fun f s₄ h₄ => ?_) fun _ _ e => e) fun _ _ e => e
    have fin : (∃ h' tk m' news', s₄ = { ({ s with heap := h₁, toks := tk₁ } : Shared) with heap := h', toks := tk } ∧ Fr h₀ env.locals h' m' ∧ News h₀ env.locals h' ((s.heap.objs.size, oI) :: (ax, listOf its k) :: news') ∧ J (i + 1) m' news') →
        LoopStepU h₀ env.locals [s.heap.objs.size] own (fun m nx => ∃ n', nx = (ax, listOf its k) :: n' ∧ J (i + 1) m n') { s with heap := h₁, toks := tk₁ } .next s₄ := by
      rintro ⟨h', tk, m', news', rfl, F', N', hi⟩
      refine ⟨rfl, h', tk, m', (ax, listOf its k) :: news', rfl, F', fun p hp => ?_, ?_, _, rfl, hi⟩
      · rcases List.mem_append.mp hp with hp | hp
        · have e1 := hget p hp
          rcases List.mem_cons.mp (hown p hp) with e | e
          · have : p = (s.heap.objs.size, oI) := by
              obtain ⟨pa, po⟩ := p
              dsimp only at e e1
              subst e
              rw [hoI] at e1
              rw [Option.some.inj e1]
            rw [this]; exact N' _ (List.Mem.head _)
          · have e := List.mem_singleton.mp e
            have e2 := (N₂ (ax, listOf its k) (List.Mem.tail _ (List.Mem.head _))).1
            have : p = (ax, listOf its k) := by
              obtain ⟨pa, po⟩ := p
              dsimp only at e e1 e2
              subst e
              rw [e2] at e1
              rw [Option.some.inj e1]
            rw [this]; exact N' _ (List.Mem.tail _ (List.Mem.head _))
        · exact N' p (List.Mem.tail _ hp)
      · intro p hp hI
        rcases List.mem_cons.mp hp with rfl | hp
        · exact hne (List.mem_singleton.mp hI)
        · exact news_ne N' (List.Mem.tail _ (List.Mem.tail _ hp)) (List.Mem.head _) (fun e => nI (e ▸ hJ _ _ _ hi p hp)) (List.mem_singleton.mp hI)
    cases f with
    | ret v => exact .ret h₄
    | brk => exact .brk h₄
    | next => exact .next (fin h₄)
    | cont => exact .cont (fin h₄)
  · rintro h' tk m' news' F' N' _ ⟨n', rfl, hJ'⟩
    exact done m' n' h' tk hJ' F' (fun p hp => N' p (List.Mem.tail _ hp))
end
end Mine
end
section
open PySem PySem.W PyProof.Rows PySem.Calls
set_option maxRecDepth 100000
namespace Mine
theorem weight_mem {ns : List Int} {d : Int} (hd : d ∈ ns) : (PyData.int d).weight ≤ PyData.weightAll (ns.map .int) := by
  induction ns with
  | nil => cases hd
  | cons n r ih =>
    show _ ≤ (PyData.int n).weight + 1 + PyData.weightAll (r.map .int)
    rcases List.mem_cons.mp hd with rfl | h
    · omega
    · have := ih h; omega
theorem lay_mem {ns : List Int} {d : Int} (h : (PyData.list (ns.map .int)).layable0 = true) (hd : d ∈ ns) : (PyData.int d).layable0 = true := by
  have h' : (PyData.canLay0 (.list (ns.map .int)) && decide (PyData.depth (.list (ns.map .int)) ≤ 64) && decide (PyData.weight (.list (ns.map .int)) ≤ 2 ^ 20)) = true := h
  rw [Bool.and_eq_true, Bool.and_eq_true, decide_eq_true_eq, decide_eq_true_eq] at h'
  have hw : PyData.weightAll (ns.map .int) ≤ 2 ^ 20 := h'.2
  have := weight_mem hd
  show (PyData.canLay0 (.int d) && decide (PyData.depth (.int d) ≤ 64) && decide (PyData.weight (.int d) ≤ 2 ^ 20)) = true
  rw [Bool.and_eq_true, Bool.and_eq_true, decide_eq_true_eq, decide_eq_true_eq]
  exact ⟨⟨rfl, Nat.zero_le _⟩, Nat.le_trans this hw⟩
theorem ints_get : ∀ {ws : List Value} {ms : List Int} {i : Nat} {v : Value}, IntsAre ws ms → ws[i]? = some v → ∃ d t, v = .int d t ∧ d ∈ ms
  | _, _, i, _, .nil, h => by cases i <;> cases h
  | _, _, 0, v, .cons n t _, h => ⟨n, t, (Option.some.inj h).symm, List.Mem.head _⟩
  | _, _, i + 1, v, .cons n t r, h => let ⟨d, t, e, m⟩ := ints_get (i := i) r h; ⟨d, t, e, List.Mem.tail _ m⟩
theorem lay_take {ns : List Int} {d : Int} (h : (PyData.list (ns.map .int)).layable0 = true) (hd : d ∈ List.take 9 ns ++ [25, 125]) : (PyData.int d).layable0 = true := by
  rcases List.mem_append.mp hd with hd | hd
  · exact lay_mem h (List.mem_of_mem_take hd)
  · rcases List.mem_cons.mp hd with rfl | hd
    · decide
    · rw [List.mem_singleton.mp hd]; decide
def Good (e : Sg) : Prop := Small e.1 ∧ Small e.2 ∧ ltP e.1 e.2 = true
theorem dP_lt (n : Int) : 0 ≤ dP n ∧ dP n < 25 := by
  unfold dP
  rw [Int.fmod_eq_emod_of_nonneg _ (by decide)]
  omega
theorem dQ_lt (n : Int) : 0 ≤ dQ n ∧ dQ n < 25 ∧ dQ n ≠ dP n := by
  have h := dP_lt n
  unfold dQ
  dsimp only
  generalize (if n < 0 then -n else n).fdiv 25 = q
  rw [Int.fmod_eq_emod_of_nonneg _ (by decide), Int.fmod_eq_emod_of_nonneg _ (by decide)]
  split <;> omega
theorem drawn_good (n : Int) : Good (drawnOf n) := by
  have hp := dP_lt n
  have hq := dQ_lt n
  unfold Good drawnOf Small ltP
  dsimp only
  generalize dP n = p at *
  generalize dQ n = q at *
  rw [Int.fmod_eq_emod_of_nonneg _ (by decide), Int.fmod_eq_emod_of_nonneg _ (by decide), Int.fdiv_eq_ediv_of_nonneg _ (by decide), Int.fdiv_eq_ediv_of_nonneg _ (by decide)]
  simp only [Bool.or_eq_true, Bool.and_eq_true, decide_eq_true_eq]
  split <;> dsimp only <;> omega
def Fit (es : List Sg) : Prop := (∀ e ∈ es, Good e) ∧ es.Pairwise (fun held one => letOf one held = true)
theorem Fit.nil : Fit [] := ⟨fun _ h => (nomatch h), .nil⟩
theorem Fit.snoc {es : List Sg} {e : Sg} (h : Fit es) (g : Good e) (hl : ∀ x ∈ es, letOf e x = true) : Fit (es ++ [e]) := by
  refine ⟨fun x hx => ?_, List.pairwise_append.mpr ⟨h.2, List.pairwise_singleton _ _, fun a ha b hb => ?_⟩⟩
  · rcases List.mem_append.mp hx with hx | hx
    · exact h.1 x hx
    · rw [List.mem_singleton.mp hx]; exact g
  · rw [List.mem_singleton.mp hb]; exact hl a ha
theorem Fit.pair {es : List Sg} (h : Fit es) {i j : Nat} {a b : Sg} (hi : es[i]? = some a) (hj : es[j]? = some b) (hne : i ≠ j) : letOf a b = true ∨ letOf b a = true := by
  obtain ⟨hi', rfl⟩ := List.getElem?_eq_some_iff.mp hi
  obtain ⟨hj', rfl⟩ := List.getElem?_eq_some_iff.mp hj
  have := List.pairwise_iff_getElem.mp h.2
  rcases Nat.lt_or_gt_of_ne hne with h | h
  · exact .inr (this i j hi' hj' h)
  · exact .inl (this j i hj' hi' h)
theorem Fit.at {es : List Sg} (h : Fit es) {i : Nat} {a : Sg} (hi : es[i]? = some a) : Good a := by
  obtain ⟨hi', rfl⟩ := List.getElem?_eq_some_iff.mp hi
  exact h.1 _ (List.getElem_mem hi')
def IsTup (o : Obj) : Prop := ∃ vs n, o = tupO vs n
theorem SgIn.three {l : List (Addr × Obj)} {v : Value} {e : Sg} (h : SgIn l v e) : ∃ l', (∀ p ∈ l', p ∈ l) ∧ (∀ p ∈ l', IsTup p.2) ∧ SgIn l' v e := by
  rcases h with @⟨b, c, d, p, q, n, h, h1, h2⟩
  rcases h1 with @⟨b1, x1, y1, t1, u1, n1, h1⟩
  rcases h2 with @⟨b2, x2, y2, t2, u2, n2, h2⟩
  refine ⟨[(b, tupO [.ref c, .ref d] n), (c, tupO [.int x1 t1, .int y1 u1] n1), (d, tupO [.int x2 t2, .int y2 u2] n2)], ?_, ?_, .mk (List.Mem.head _) (.mk (List.Mem.tail _ (List.Mem.head _))) (.mk (List.Mem.tail _ (List.Mem.tail _ (List.Mem.head _))))⟩
  · intro p hp
    simp only [List.mem_cons, List.not_mem_nil, or_false] at hp
    rcases hp with rfl | rfl | rfl <;> assumption
  · intro p hp
    simp only [List.mem_cons, List.not_mem_nil, or_false] at hp
    rcases hp with rfl | rfl | rfl <;> exact ⟨_, _, rfl⟩
abbrev RowsAt (keep : List (Addr × Obj)) (rvs : List Value) (es : List Sg) : Prop := Paired (SgIn keep) rvs es
theorem RowsAt.mono {k k' : List (Addr × Obj)} (hs : ∀ q ∈ k, q ∈ k') : ∀ {rvs : List Value} {es : List Sg}, RowsAt k rvs es → RowsAt k' rvs es
  | _, _, .nil => .nil
  | _, _, .cons h r => .cons (h.mono hs) (RowsAt.mono hs r)
theorem paired_get {α β : Type} {F : α → β → Prop} : ∀ {l₁ : List α} {l₂ : List β} {i : Nat} {a : α}, Paired F l₁ l₂ → l₁[i]? = some a → ∃ b, l₂[i]? = some b ∧ F a b
  | _, _, i, _, .nil, h => by cases i <;> cases h
  | _, _, 0, _, .cons h _, e => ⟨_, rfl, Option.some.inj e ▸ h⟩
  | _, _, i + 1, _, .cons _ r, e => paired_get (i := i) r e
theorem paired_get' {α β : Type} {F : α → β → Prop} : ∀ {l₁ : List α} {l₂ : List β} {i : Nat} {b : β}, Paired F l₁ l₂ → l₂[i]? = some b → ∃ a, l₁[i]? = some a ∧ F a b
  | _, _, i, _, .nil, h => by cases i <;> cases h
  | _, _, 0, _, .cons h _, e => ⟨_, rfl, Option.some.inj e ▸ h⟩
  | _, _, i + 1, _, .cons _ r, e => paired_get' (i := i) r e
end Mine
end
section
open PySem PySem.W PyProof.Rows PySem.Calls PySem.Spec PyProof.Rows.LCg PyProof.Rows.LCt
set_option maxRecDepth 100000
namespace Mine
section
variable {prog : Program} {w : World} {A : Around} {s : Shared} {h₀ : Heap} {L : Addr} {m : Str → Option Value} {env : Env}
theorem comp_end {h₀ : Heap} {L : Addr} {m : Str → Option Value} {s₁ : Shared} {I C D : Addr} {oI oC oD : Obj} {S : List (Addr × Obj) → Prop} {rest rest' : Value → List (Addr × Obj) → Prop} {y y' : Value} {s₂ : Shared} (h : CompEnd h₀ L m s₁ I oI C oC D oD S rest y s₂) (hr : ∀ n, rest y n → rest' y' n) : CompEnd h₀ L m s₁ I oI C oC D oD S rest' y' s₂ := by
  obtain ⟨h', tk, n, e, F, N, o, hS, r⟩ := h
  exact ⟨h', tk, n, e, F, N, o, hS, hr n r⟩
theorem rest_U {elt : Expr} {x : Str} {scope : Scope} {cl : List (Str × Addr)} {S : List (Addr × Obj) → Prop} {P : Nat → Value → Prop} {Fin : List Value → List (Addr × Obj) → Prop} {K : Nat}
    (J : Nat → List Value → List (Addr × Obj) → Prop)
    (fin : ∀ ys news, J K ys news → Fin ys news)
    (step : ∀ i v ys news I oI C oC D m₂ h tk (E' : Value → Shared → Prop), P i v → J i ys news → NsObj oC m₂ → m₂ x = some v → Fr h₀ L h m → News h₀ L h ((I, oI) :: (C, oC) :: (D, lst ys) :: news) → Off3 I C D news → ((@Ne Nat I C) ∧ (@Ne Nat I D) ∧ (@Ne Nat C D)) →
      wpAny (model prog w) A (eval elt (compEnvC scope cl C env)) (CompEnd h₀ L m { s with heap := h, toks := tk } I oI C oC D (lst ys) S (fun y news' => J (i + 1) (ys ++ [y]) news')) E' { s with heap := h, toks := tk }) :
    ∀ n i ys news, i + n = K → J i ys news → CompRest prog w A h₀ L m env elt x scope cl s S P Fin n i ys news := by
  intro n
  induction n with
  | zero => intro i ys news e hJ; obtain rfl : i = K := e; exact CompRest.zero (fin _ _ hJ)
  | succ n ih =>
    intro i ys news e hJ
    refine CompRest.succ fun v I oI C oC D m₂ h tk E' hP hN hx F N off ne => ?_
    exact wpAny_mono (step i v ys news I oI C oC D m₂ h tk E' hP hJ hN hx F N off ne) (fun y s' h' => comp_end h' fun nw hj => ih _ _ _ (by omega) hj) fun _ _ e => e
theorem rest_T {ct elt : Expr} {x : Str} {scope : Scope} {cl : List (Str × Addr)} {S : List (Addr × Obj) → Prop} {P : Nat → Value → Prop} {Fin : List Value → List (Addr × Obj) → Prop} {K : Nat}
    (J : Nat → List Value → List (Addr × Obj) → Prop)
    (fin : ∀ ys news, J K ys news → Fin ys news)
    (step : ∀ i v ys news I oI C oC D m₂ h tk (E' : Value → Shared → Prop), P i v → J i ys news → NsObj oC m₂ → m₂ x = some v → Fr h₀ L h m → News h₀ L h ((I, oI) :: (C, oC) :: (D, lst ys) :: news) → Off3 I C D news → ((@Ne Nat I C) ∧ (@Ne Nat I D) ∧ (@Ne Nat C D)) →
      wpAny (model prog w) A (isTrue ct (compEnvC scope cl C env) (eval ct (compEnvC scope cl C env))) (fun ok s' => if ok = true then
        wpAny (model prog w) A (eval elt (compEnvC scope cl C env)) (CompEnd h₀ L m { s with heap := h, toks := tk } I oI C oC D (lst ys) S (fun y news' => J (i + 1) (ys ++ [y]) news')) E' s'
        else CompEnd h₀ L m { s with heap := h, toks := tk } I oI C oC D (lst ys) S (fun _ news' => J (i + 1) ys news') Value.none s') E' { s with heap := h, toks := tk }) :
    ∀ n i ys news, i + n = K → J i ys news → CompRestT prog w A h₀ L m env ct elt x scope cl s S P Fin n i ys news := by
  intro n
  induction n with
  | zero => intro i ys news e hJ; obtain rfl : i = K := e; exact CompRestT.zero (fin _ _ hJ)
  | succ n ih =>
    intro i ys news e hJ
    refine CompRestT.succ fun v I oI C oC D m₂ h tk E' hP hN hx F N off ne => ?_
    refine wpAny_mono (step i v ys news I oI C oC D m₂ h tk E' hP hJ hN hx F N off ne) (fun ok s' h' => ?_) fun _ _ e => e
    cases ok with
    | true =>
      simp only [if_true] at h' ⊢
      exact wpAny_mono h' (fun y s'' h'' => comp_end h'' fun nw hj => ih _ _ _ (by omega) hj) fun _ _ e => e
    | false =>
      simp only [Bool.false_eq_true, if_false] at h' ⊢
      exact comp_end h' fun nw hj => ih _ _ _ (by omega) hj
end
end Mine
end
section
open PySem PySem.W PyProof.Rows PySem.Calls PySem.Spec PyProof.Rows.LCg PyProof.Rows.LCt
set_option maxRecDepth 100000
namespace Mine
section
variable {prog : Program} {w : World} {A : Around} {E : Value → Shared → Prop} {s : Shared}
theorem eq_len {l b : Addr} {items items2 : Array Value} {n n2 : Nat} {Q : Value → Shared → Prop} (hl : s.heap.get? l = some (listOf items n)) (hb : s.heap.get? b = some (listOf items2 n2)) (hc : (items.size != items2.size) = true) (hu : A.units < cLine)
    (h : Q (.bool false) s) : wpAny (model prog w) A (richCompare .Eq (.ref l) (.ref b)) Q E s :=
  wpAny_richCompare_same_room ⟨_, hl, rfl⟩ ⟨_, hb, rfl⟩ PySem.F.slot_list_eq (wpAny_call_entry PySem.F.slot_list_eq ⟨_, hl, rfl⟩ PySem.F.entry_list_eq (by
    obtain ⟨hp, g, d, tk, os⟩ := s
    have f3 := AutoSeq1.sub_list_list
    dsimp only at hl hb h
    wp_walk using wpAny_loadPart' hl, wpAny_loadPart' hb
    exact ⟨_, rfl, Value.noConfusion, h⟩) (PySem.F.args_list_eq_2 _ _)) hu
theorem eq_nilL {h₀ : Heap} {L : Addr} {news : List (Addr × Obj)} {a b : Addr} {ys : List Value} {k : Nat} {Q : Value → Shared → Prop} (N : News h₀ L s.heap news) (ha : (a, lst ys) ∈ news) (hb : (b, listOf #[] k) ∈ news) (hu : A.units + 64 < cLine)
    (h : Q (.bool ys.isEmpty) s) : wpAny (model prog w) A (compareOp .Eq (.ref a) (.ref b)) Q E s := by
  cases ys with
  | nil => exact eq_intsK (vs := []) (us := []) ⟨_, (N _ ha).1, rfl, _, rfl⟩ .nil ⟨_, (N _ hb).1, rfl, _, rfl⟩ .nil hu h
  | cons y r => exact eq_len (N _ ha).1 (N _ hb).1 (by simp) (Nat.lt_of_le_of_lt (Nat.le_add_right _ _) hu) h
end
end Mine
end
section
open PySem PySem.W PyProof.Rows
set_option maxRecDepth 100000
namespace Mine
/-- the law's frame at the head of the first loop -/
def JR (l r L : Addr) (o1 o3 : Obj) (m : Str → Option Value) (news : List (Addr × Obj)) : Prop :=
  ∃ rvs es k o2 keep, news = (r, listOf (List.toArray rvs) k) :: (L + 1 + 1 + 1, o3) :: (L + 1 + 1, o2) :: (L + 1, o1) :: keep ∧ But (Str.ofString "number") (lmR l r) m ∧ (∃ v, o2.data = .cell v) ∧ RowsAt keep rvs es ∧ Fit es ∧ es.length ≤ 6 ∧ ∀ p ∈ keep, IsTup p.2
theorem nf_cell {o : Obj} {v : Option Value} (h : o.data = .cell v) : NF o := by unfold NF; rw [h]; trivial
theorem nf_tup {o : Obj} (h : IsTup o) : NF o := by obtain ⟨vs, n, rfl⟩ := h; trivial
theorem tup_off {h₀ h : Heap} {L a : Addr} {o : Obj} {l keep : List (Addr × Obj)} (N : News h₀ L h l) (ha : (a, o) ∈ l) (hs : ∀ p ∈ keep, p ∈ l) (hk : ∀ p ∈ keep, IsTup p.2) (hn : ¬ IsTup o) : ∀ p ∈ keep, p.1 ≠ a :=
  fun p hp => news_ne N (hs p hp) ha fun e => hn (e ▸ hk p hp)
theorem cell_notup {o : Obj} {v : Option Value} (h : o.data = .cell v) : ¬ IsTup o := by rintro ⟨vs, n, rfl⟩; cases h
theorem nf_notup {o : Obj} (h : ¬ NF o) : ¬ IsTup o := fun x => h (nf_tup x)
theorem list_notup {its : Array Value} {k : Nat} : ¬ IsTup (listOf its k) := by rintro ⟨vs, n, e⟩; exact absurd (congrArg Obj.cls e) (by simp)
theorem drawn_use {w : World} {mean : ExcName → Option Value} {mg mb : Str → Option Value} {dp un : Nat} {gd : Option (List Code)} {cn : Str} {cs : Scope} {a : Addr} {ccd : Value} {cl : List (Str × Addr)} {outer : List Env} {A₀ : Around} {base h₀ : Heap} {L : Addr} {m : Str → Option Value} {keep : List (Addr × Obj)} {s : Shared}
    {q1 q2 q3 q4 q5 q6 : Addr × Obj} {d : Int} {t : Tok} {Q E : Value → Shared → Prop}
    (B : Below A₀ base outer h₀) (F : Fr h₀ L s.heap m) (X : (hd.heap_39 w.params).In h₀) (N : News h₀ L s.heap (q1 :: q2 :: q3 :: q4 :: q5 :: q6 :: keep)) (T : Top view LS mean mg mb h₀) (hk : cs.kind = .function)
    (tu : ∀ p ∈ keep, IsTup p.2) (n1 : ¬ IsTup q1.2) (n2 : ¬ IsTup q2.2) (n3 : ¬ IsTup q3.2) (n4 : ¬ IsTup q4.2) (n5 : ¬ IsTup q5.2) (n6 : ¬ IsTup q6.2)
    (ok : PyData.layable0 (.int d) = true) (hd : dp + 2 < recursionLimit) (hu : un + 8 * 2 < cLine)
    (ret : ∀ v keep' h' tk', Fr h₀ L h' m → News h₀ L h' (q1 :: q2 :: q3 :: q4 :: q5 :: q6 :: keep') → (∀ p ∈ keep', IsTup p.2) → (∀ p ∈ keep, p ∈ keep') → SgIn keep' v (drawnOf d) →
      (∀ p ∈ keep', p.1 ≠ q1.1) → (∀ p ∈ keep', p.1 ≠ q2.1) → (∀ p ∈ keep', p.1 ≠ q3.1) → (∀ p ∈ keep', p.1 ≠ q4.1) → (∀ p ∈ keep', p.1 ≠ q5.1) → (∀ p ∈ keep', p.1 ≠ q6.1) → Q v { s with heap := h', toks := tk' }) :
    wpAny (model PR w) (ktrTop dp un gd cn cs L a ccd cl outer) (call (.ref 308) [.int d t]) Q E s := by
  refine con_use (d := d) drawn_c B F X N T hk ⟨t, rfl⟩ ok hd hu fun v more h' tk' F' N' hS => ?_
  obtain ⟨l', sub, tl, hS'⟩ := SgIn.three hS
  have ht : ∀ p ∈ l' ++ keep, IsTup p.2 := fun p hp => (List.mem_append.mp hp).elim (tl p) (tu p)
  have N2 : News h₀ L h' (q1 :: q2 :: q3 :: q4 :: q5 :: q6 :: (l' ++ keep)) := fun p hp => N' p (by
    simp only [List.mem_cons, List.mem_append] at hp ⊢
    rcases hp with e | e | e | e | e | e | e | e
    · exact .inr (.inl e)
    · exact .inr (.inr (.inl e))
    · exact .inr (.inr (.inr (.inl e)))
    · exact .inr (.inr (.inr (.inr (.inl e))))
    · exact .inr (.inr (.inr (.inr (.inr (.inl e)))))
    · exact .inr (.inr (.inr (.inr (.inr (.inr (.inl e))))))
    · exact .inl (sub _ e)
    · exact .inr (.inr (.inr (.inr (.inr (.inr (.inr e)))))))
  have sb : ∀ p ∈ l' ++ keep, p ∈ (q1 :: q2 :: q3 :: q4 :: q5 :: q6 :: (l' ++ keep)) := fun p hp => .tail _ (.tail _ (.tail _ (.tail _ (.tail _ (.tail _ hp)))))
  exact ret v (l' ++ keep) h' tk' F' N2 ht (fun p hp => List.mem_append_right _ hp) (hS'.mono fun p hp => List.mem_append_left _ hp)
    (tup_off (o := q1.2) N2 (.head _) sb ht n1) (tup_off (o := q2.2) N2 (.tail _ (.head _)) sb ht n2) (tup_off (o := q3.2) N2 (.tail _ (.tail _ (.head _))) sb ht n3)
    (tup_off (o := q4.2) N2 (.tail _ (.tail _ (.tail _ (.head _)))) sb ht n4) (tup_off (o := q5.2) N2 (.tail _ (.tail _ (.tail _ (.tail _ (.head _))))) sb ht n5) (tup_off (o := q6.2) N2 (.tail _ (.tail _ (.tail _ (.tail _ (.tail _ (.head _)))))) sb ht n6)
theorem pick5 {h₀ h : Heap} {L : Addr} {a b c d e f g : Addr × Obj} (N : News h₀ L h [a, b, c, d, e, f, g]) : News h₀ L h [a, d, e, f, g] := fun p hp => N p (by
  simp only [List.mem_cons] at hp ⊢
  rcases hp with e | e | e | e | e | e
  · exact .inl e
  · exact .inr (.inr (.inr (.inl e)))
  · exact .inr (.inr (.inr (.inr (.inl e))))
  · exact .inr (.inr (.inr (.inr (.inr (.inl e)))))
  · exact .inr (.inr (.inr (.inr (.inr (.inr (.inl e))))))
  · exact nomatch e)
local macro_rules | `(tactic| k_room) => `(tactic| ktr_room)
local macro_rules | `(tactic| k_all) => `(tactic| first | assumption | (refine List.forall_mem_cons.mpr ⟨by k_ne, ?_⟩; k_all))
local macro_rules | `(tactic| walk_at "call ref") => `(tactic| (k_here; (with_reducible show wpAny _ _ (call (Value.ref 308) _) _ _ _); k_dflt (refine' drawn_use ?k1 ?k2 ?k3 ?k4 ?k5 ?kK ?tu ?n1 ?n2 ?n3 ?n4 ?n5 ?n6 ?ok ?kd ?ku ?_; (case k1 => k_asm); (case k2 => k_asm); (case k3 => k_asm); (case k4 => k_asm); (case k5 => k_asm); (case kK => first | exact rfl | assumption); (case tu => assumption); (case n1 => assumption); (case n2 => exact list_notup); (case n3 => exact list_notup); (case n4 => assumption); (case n5 => assumption); (case n6 => assumption); (case ok => assumption); (case kd => ktr_room); (case ku => ktr_units); k_whole; intro v9 k9 h9 tk9 F9 N9 tu9 sub9 S9 e1 e2 e3 e4 e5 e6; (try dsimp only at e1 e2 e3 e4 e5 e6); (try k_sweep))))
local macro_rules | `(tactic| walk_at "call builtin:len") => `(tactic| (k_here; (with_reducible show wpAny _ _ (call (Value.builtin "len") [Value.ref _]) _ _ _); k_dflt (refine' KM.len_K ?k1 ?k2 ?k3 ?k4 ?_; (case k1 => k_asm); (case k2 => k_mem); (case k3 => assumption); (case k4 => omega); k_whole)))
local macro_rules | `(tactic| ktr_rel) => `(tactic| first | assumption | (refine SgIn.up ?_; ktr_rel))
local macro_rules | `(tactic| walk_at "call ref") => `(tactic| (k_here; (with_reducible show wpAny _ _ (call (Value.ref 301) _) _ _ _); k_dflt (refine' con_use (d := (_, _)) let_c ?k1 ?k2 ?k3 ?k4 ?k5 ?kK ?kR ?ko ?kd ?ku ?_; (case k1 => k_asm); (case k2 => k_asm); (case k3 => k_asm); (case k4 => k_asm); (case k5 => k_asm); (case kK => first | exact rfl | assumption); (case kR => exact ⟨_, _, rfl, by ktr_rel, by ktr_rel⟩); (case ko => (dsimp only [letS]; refine ⟨⟨?_, ?_⟩, ?_, ?_⟩ <;> assumption)); (case kd => (dsimp only [letS]; ktr_room)); (case ku => (dsimp only [letS]; ktr_units)); k_whole; intro v9 m9 h9 tk9 F9 N9 ho9; (obtain ⟨hm9, hv9⟩ := ho9); subst hm9; subst hv9; (dsimp only [List.nil_append] at N9); (try dsimp only); (try k_sweep))))
local macro_rules | `(tactic| walk_at "compareOp Eq ref ref") => `(tactic| (k_here; k_dflt (refine' eq_nilL ?k1 ?k2 ?k3 ?k4 ?_; (case k1 => k_asm); (case k2 => k_mem); (case k3 => k_mem); (case k4 => ktr_units); k_whole)))
local macro_rules | `(tactic| walk_at "eval ListComp") => `(tactic| (k_here; lct_look; lcg_calm; k_dflt (refine LCt.ListComp_T (F₀ := by k_asm) (by with_unfolding_all rfl) (by decide) (by rfl) (by decide) (by rfl) ?_); k_dflt lct_toSrc))
local macro_rules | `(tactic| walk_at "CompSrcT") => `(tactic| (k_here; k_dflt (refine LCt.CompSrcT.ledger (by rfl) (by k_asm) (by k_asm) (by k_mem) (by first | assumption | (rw [sizeLine_eq]; omega) | size_fits) ?_; intro g')))
local macro_rules | `(tactic| walk_at "call builtin:list.append") => `(tactic| (k_here; k_dflt (show wpAny _ _ (call (Value.builtin "list.append") [Value.ref _, _]) _ _ _); k_dflt (refine' append_K ?k1 ?k2 ?k3 ?_ ?z; (case k1 => k_asm); (case k2 => k_asm); (case k3 => k_upd); (case z => first | assumption | size_fits); k_whole); intro h' F' N'; (try k_sweep)))
set_option maxHeartbeats 40000000 in
theorem st2 {w : World} {mean : ExcName → Option Value} {mg mb : Str → Option Value} {dp un : Nat} {gd : Option (List Code)} {fL : Addr} {ccd : Value} {outer : List Env} {A₀ : Around} {base h₀ : Heap} {L : Addr} {E : Value → Shared → Prop} {s : Shared} {Q : Flow → Shared → Prop}
    (B : Below A₀ base outer h₀) (X : (hd.heap_39 w.params).In h₀) (T : Top view LS mean mg mb h₀) (hdp : dp + 40 < recursionLimit) (hu : un + 400 < cLine) {l r : Addr} {vs : List Value} {ns : List Int} {o1 o2 o3 : Obj} (hl : h₀.IsList l vs.toArray) (hi : IntsAre vs ns) (hlay : PyData.layable0 (.list (ns.map .int)) = true) (hlen : ¬ 63 < ns.length)
    (hE : PassesOwn (model PR w) (lawA dp un gd L fL ccd outer) (lawEnv L fL ccd) E) (d2 : o2.data = .cell none) {c1 c3 : Option Value} (d1 : o1.data = .cell c1) (d3 : o3.data = .cell c3) (F : Fr h₀ L s.heap (lmR l r)) (N : News h₀ L s.heap [(r, listOf #[] 0), (L + 1 + 1 + 1, o3), (L + 1 + 1, o2), (L + 1, o1)])
    (ret : ∀ m news h tk, JR l r L o1 o3 m news → Fr h₀ L h m → News h₀ L h news → Q .next { s with heap := h, toks := tk }) :
    wpAny (model PR w) (lawA dp un gd L fL ccd outer) (exec (lawSt 2) (lawEnv L fL ccd)) Q E s := by
  have goal : PySem.Challenge.rw_ja0045_01.Holds ∨ (hd.heap_39 w.params).In h₀ := .inr X
  revert goal
  delta PR LS at *
  k_fill
  intro _
  conv =>
    arg 3
    arg 1
    whnf
  delta lawA lawEnv
  conv in (occs := *) lawScope => all_goals whnf
  refine For_turns F ?_ (hE := hE)
  clear hE
  k_steps
  (with_reducible rename Fr _ _ _ _ => F9)
  (with_reducible rename News _ _ _ _ => N9)
  (with_reducible rename IntsAre _ (_ ++ _) => hI9)
  (with_reducible rename _ ∧ _ ∧ r < _ ∧ _ ∧ _ ∧ _ => l9)
  refine iter_list_J rfl F9 (pick5 N9) (fun _ => JR l r L o1 o3) ?_ ⟨[], [], 0, o2, [], rfl, But.refl, ⟨_, d2⟩, .nil, Fit.nil, by decide, fun _ h => nomatch h⟩ ?_ ?_
  · rintro i m n ⟨rvs, es, k, o2', keep, rfl, _, ⟨v, hv⟩, _, _, _, hk⟩ p hp
    simp only [List.mem_cons] at hp
    rcases hp with rfl | rfl | rfl | rfl | hp
    · trivial
    · exact nf_cell d3
    · exact nf_cell hv
    · exact nf_cell d1
    · exact nf_tup (hk p hp)
  · rintro i v m₁ news₁ h tk I oI hv ⟨rvs, es, k, o2', keep, rfl, ⟨u, rfl⟩, ⟨c2, d2'⟩, hrows, hfit, hlen6, hkeep⟩ hNF F8 N8
    have hDr : @Ne Nat _ r := Nat.ne_of_gt l9.2.2.1
    have nt1 := cell_notup d1
    have nt2 := cell_notup d2'
    have nt3 := cell_notup d3
    have ntI := nf_notup hNF
    obtain ⟨d, t, rfl, hd9⟩ := ints_get hI9 (by simpa using hv)
    have hlay9 := lay_take hlay hd9
    have f1 : @Ne Nat I r := news_ne N8 (.head _) (.tail _ (.tail _ (.head _))) (fun e => hNF (e ▸ trivial))
    have f2 : @Ne Nat I (L + 1 + 1) := news_ne N8 (.head _) (.tail _ (.tail _ (.tail _ (.tail _ (.head _))))) (fun e => hNF (e ▸ nf_cell d2'))
    have f3 : @Ne Nat r (L + 1 + 1) := news_ne N8 (.tail _ (.tail _ (.head _))) (.tail _ (.tail _ (.tail _ (.tail _ (.head _))))) (fun e => by rw [← e] at d2'; cases d2')
    have f4 : @Ne Nat _ (L + 1 + 1) := news_ne N8 (.tail _ (.head _)) (.tail _ (.tail _ (.tail _ (.tail _ (.head _))))) (fun e => by rw [← e] at d2'; cases d2')
    have f5 : @Ne Nat r (L + 1 + 1 + 1) := news_ne N8 (.tail _ (.tail _ (.head _))) (.tail _ (.tail _ (.tail _ (.head _)))) (fun e => by rw [← e] at d3; cases d3)
    have f6 : @Ne Nat r (L + 1) := news_ne N8 (.tail _ (.tail _ (.head _))) (.tail _ (.tail _ (.tail _ (.tail _ (.tail _ (.head _)))))) (fun e => by rw [← e] at d1; cases d1)
    have hsz9 : rvs.toArray.size = es.length := by rw [List.size_toArray]; exact hrows.length
    have hszl : rvs.toArray.size ≤ sizeLine := by rw [hsz9, sizeLine_eq]; omega
    clear F9 N9
    k_steps
    · have hgd := drawn_good d
      generalize drawnOf d = e0 at *
      refine rest_T (K := rvs.toArray.size) (fun i ys news => news = _ ∧ (ys = [] ↔ ∀ x ∈ es.take i, letOf e0 x = true)) ?_ ?_ _ 0 [] _ (Nat.zero_add _) ⟨rfl, by simp⟩
      · rintro ys news ⟨rfl, hys⟩ D h8 tk8 F8 N8 off8
        have f7 : @Ne Nat r D := off8.2.2.1
        k_steps
        · (with_reducible rename List.isEmpty _ = true => hemp)
          (with_reducible rename News _ _ _ _ => N9)
          rw [List.push_toArray] at N9
          have hall : ∀ x ∈ es, letOf e0 x = true := fun x hx => hys.mp (List.isEmpty_iff.mp hemp) x (by rw [hsz9, List.take_length]; exact hx)
          dsimp only [TurnJ]
          exact ⟨_, _, _, _, rfl, by k_asm, cb_drop N9 (fun p hp => .tail _ (.tail _ hp)), rvs ++ [_], es ++ [e0], _, _, _, rfl, But.store, ⟨_, by assumption⟩, Paired.snoc (hrows.mono (by assumption)) (by assumption), hfit.snoc hgd hall, by (rw [List.length_append, List.length_singleton]; omega), by assumption⟩
        · (with_reducible rename News _ _ _ _ => N9)
          dsimp only [TurnJ]
          exact ⟨_, _, _, _, rfl, by k_asm, cb_drop N9 (fun p hp => .tail _ (.tail _ hp)), rvs, es, k, _, _, rfl, But.store, ⟨_, by assumption⟩, hrows.mono (by assumption), hfit, hlen6, by assumption⟩
      · rintro i v ys news I8 oI8 C oC D m₂ h8 tk8 E' hP ⟨rfl, hys⟩ hNC hx F8 N8 off8 ne8
        obtain ⟨b, hb, hS8⟩ := paired_get hrows (by simpa using hP)
        have hS8 := hS8.mono (by assumption)
        have hgb := hfit.at hb
        obtain ⟨g1, g2, _⟩ := hgd
        obtain ⟨g3, g4, _⟩ := hgb
        have htk : es.take (i + 1) = es.take i ++ [b] := by rw [List.take_add_one, hb]; rfl
        k_steps
        · (with_reducible rename letOf _ _ = true => hlet)
          exact ⟨_, _, _, rfl, by k_asm, by k_asm, off8, .inr ⟨_, .tail _ (.tail _ (.head _)), rfl, _, rfl⟩, rfl, by rw [htk, hys]; simp [List.mem_append, or_imp, forall_and, hlet]⟩
        · (with_reducible rename letOf _ _ = false => hlet)
          exact ⟨_, _, _, rfl, by k_asm, by k_asm, off8, .inr ⟨_, .tail _ (.tail _ (.head _)), rfl, _, rfl⟩, rfl, by rw [htk]; simp [List.mem_append, or_imp, forall_and, hlet]⟩
    · dsimp only [TurnJ]
      exact ⟨_, _, _, _, rfl, by k_asm, by k_asm, rvs, es, k, _, _, rfl, But.store, ⟨_, by assumption⟩, hrows.mono (by assumption), hfit, hlen6, by assumption⟩
  · intro m' news' h' tk hJ F' N'
    exact ret _ _ _ _ hJ F' N'
end Mine
end
section
open PySem PySem.W PyProof.Rows
set_option maxRecDepth 100000
namespace Mine
local macro_rules | `(tactic| k_room) => `(tactic| ktr_room)
local macro_rules | `(tactic| k_all) => `(tactic| first | assumption | (refine List.forall_mem_cons.mpr ⟨by k_ne, ?_⟩; k_all))
set_option maxHeartbeats 40000000 in
theorem st3 {w : World} {mean : ExcName → Option Value} {mg mb : Str → Option Value} {dp un : Nat} {gd : Option (List Code)} {fL : Addr} {ccd : Value} {outer : List Env} {A₀ : Around} {base h₀ : Heap} {L : Addr} {E : Value → Shared → Prop} {s : Shared} {Q : Flow → Shared → Prop}
    (B : Below A₀ base outer h₀) (X : (hd.heap_39 w.params).In h₀) (T : Top view LS mean mg mb h₀) (hdp : dp + 40 < recursionLimit) (hu : un + 400 < cLine) {l r : Addr} {o1 o2 o3 : Obj} {m : Str → Option Value} {u : Option Value} {rl : Obj} {keep : List (Addr × Obj)}
    {c1 c2 c3 : Option Value} (d1 : o1.data = .cell c1) (d2 : o2.data = .cell c2) (d3 : o3.data = .cell c3) (hk : ∀ p ∈ keep, IsTup p.2) (nr : ∀ v, rl.data ≠ .cell v)
    (F : Fr h₀ L s.heap (fun y => if y = Str.ofString "number" then u else lmR l r y)) (N : News h₀ L s.heap ((r, rl) :: (L + 1 + 1 + 1, o3) :: (L + 1 + 1, o2) :: (L + 1, o1) :: keep))
    (ret : ∀ c dc o3' h tk, o3'.data = .cell (some (.ref c)) → Fr h₀ L h (fun y => if y = Str.ofString "number" then u else lmR l r y) → News h₀ L h ((c, instObj 238 dc) :: (dc, dictOf [] 0) :: (r, rl) :: (L + 1 + 1 + 1, o3') :: (L + 1 + 1, o2) :: (L + 1, o1) :: keep) → Q .next { s with heap := h, toks := tk }) :
    wpAny (model PR w) (lawA dp un gd L fL ccd outer) (exec (lawSt 3) (lawEnv L fL ccd)) Q E s := by
  have goal : PySem.Challenge.rw_ja0045_01.Holds ∨ (hd.heap_39 w.params).In h₀ := .inr X
  revert goal
  delta PR LS at *
  k_fill
  intro _
  conv =>
    arg 3
    arg 1
    whnf
  delta lawA lawEnv
  conv in (occs := *) lawScope => all_goals whnf
  have f1 : @Ne Nat r (L + 1 + 1 + 1) := news_ne N (.head _) (.tail _ (.head _)) (fun e => nr _ (e ▸ d3))
  have off3 := tup_off N (.tail _ (.head _)) (fun p hp => .tail _ (.tail _ (.tail _ (.tail _ hp)))) hk (cell_notup d3)
  k_steps
  exact ret _ _ _ _ _ (by assumption) (by k_asm) (by k_asm)
end Mine
end
section
open PySem PySem.W PyProof.Rows PySem.Calls PySem.Spec PyProof.Rows.LCg
set_option maxRecDepth 100000
namespace Mine
theorem PoIn.two {l : List (Addr × Obj)} {v : Value} {p : Pt} (h : PoIn l v p) : ∃ b dx t u n, v = .ref b ∧ (b, poO dx [.int p.1 t, .int p.2 u] n) ∈ l ∧ (dx, dictOf [] 0) ∈ l := by
  cases h with | mk a b => exact ⟨_, _, _, _, _, rfl, a, b⟩
def moved (z : Int) (e : Sg) : Sg := ((e.1.1 + z, e.1.2 - z), (e.2.1 + z, e.2.2 - z))
section
variable {w : World} {mean : ExcName → Option Value} {mg mb : Str → Option Value} {dp un : Nat} {gd : Option (List Code)} {cn : Str} {cs : Scope} {a : Addr} {ccd : Value} {cl : List (Str × Addr)} {outer : List Env} {A₀ : Around} {base h₀ : Heap} {L : Addr} {m : Str → Option Value} {news : List (Addr × Obj)} {s : Shared} {Q E : Value → Shared → Prop}
theorem point_use {x y : Int} {t u : Tok} (B : Below A₀ base outer h₀) (F : Fr h₀ L s.heap m) (X : (hd.heap_39 w.params).In h₀) (N : News h₀ L s.heap news) (T : Top view LS mean mg mb h₀) (hk : cs.kind = .function)
    (hd : dp + 3 < recursionLimit) (hu : un + 8 * 3 < cLine)
    (ret : ∀ b dx t u n h' tk', Fr h₀ L h' m → News h₀ L h' ((b, poO dx [.int x t, .int y u] n) :: (dx, dictOf [] 0) :: news) → (∀ q ∈ news, q.1 ≠ b) → (∀ q ∈ news, q.1 ≠ dx) → Q (.ref b) { s with heap := h', toks := tk' }) :
    wpAny (model PR w) (ktrTop dp un gd cn cs L a ccd cl outer) (call (.ref 132) [.int x t, .int y u]) Q E s := by
  refine conF_use (d := (x, y)) point_cF B F X N T hk ⟨t, u, rfl⟩ trivial hd hu fun v more h' tk' F' N' fr hP => ?_
  obtain ⟨b, dx, t5, u5, n5, rfl, m1, m2⟩ := hP.two
  refine ret b dx t5 u5 n5 h' tk' F' (fun p hp => ?_) (fr _ m1) (fr _ m2)
  rcases List.mem_cons.mp hp with rfl | hp
  · exact N' _ (List.mem_append_left _ m1)
  · rcases List.mem_cons.mp hp with rfl | hp
    · exact N' _ (List.mem_append_left _ m2)
    · exact N' _ (List.mem_append_right _ hp)
theorem edge_use {x v u ctx dc : Addr} {p q : Pt} (B : Below A₀ base outer h₀) (F : Fr h₀ L s.heap m) (X : (hd.heap_39 w.params).In h₀) (N : News h₀ L s.heap news) (T : Top view LS mean mg mb h₀) (hk : cs.kind = .function)
    (hx : (x, methodObj (.ref 256) (.ref 283)) ∈ news) (hv : PoIn news (.ref v) p) (hw : PoIn news (.ref u) q) (hc : (ctx, instObj 238 dc) ∈ news) (hdc : (dc, dictOf [] 0) ∈ news) (ok : ltP p q = true) (hd : dp + 4 < recursionLimit) (hu : un + 8 * 4 < cLine)
    (ret : ∀ v' e1 e2 h' tk', Fr h₀ L h' m → News h₀ L h' (e1 :: e2 :: news) → (∀ q ∈ news, q.1 ≠ e1.1) → (∀ q ∈ news, q.1 ≠ e2.1) → EdNew [e1, e2] ctx v u v' → Q v' { s with heap := h', toks := tk' }) :
    wpAny (model PR w) (ktrTop dp un gd cn cs L a ccd cl outer) (call (.ref x) [.ref v, .ref u, .bool false, .ref ctx]) Q E s := by
  refine conF_use (d := ⟨p, q, v, u, ctx⟩) (edge_cF x) B F X N T hk ⟨hx, dc, rfl, hv, hw, hc, hdc⟩ ok hd hu fun v' more h' tk' F' N' fr hP => ?_
  cases hP with | mk m1 m2 =>
  refine ret _ _ _ h' tk' F' (fun p hp => ?_) (fr _ m1) (fr _ m2) (.mk (.head _) (.tail _ (.head _)))
  rcases List.mem_cons.mp hp with rfl | hp
  · exact N' _ (List.mem_append_left _ m1)
  · rcases List.mem_cons.mp hp with rfl | hp
    · exact N' _ (List.mem_append_left _ m2)
    · exact N' _ (List.mem_append_right _ hp)
end
theorem EdNew.ed {l l' : List (Addr × Obj)} {c dc a b : Addr} {v : Value} {p q : Pt} (h : EdNew l c a b v) (hs : ∀ x ∈ l, x ∈ l') (hc : (c, instObj 238 dc) ∈ l') (hd : (dc, dictOf [] 0) ∈ l') (ha : PoIn l' (.ref a) p) (hb : PoIn l' (.ref b) q) : EdIn l' v (p, q) := by
  cases h with | mk h1 h2 => exact .mk (hs _ h1) (hs _ h2) hc hd ha hb
end Mine
end
section
open PySem PySem.W PyProof.Rows PyProof.Rows.LCg
set_option maxRecDepth 100000
namespace Mine
local macro_rules | `(tactic| k_room) => `(tactic| ktr_room)
local macro_rules | `(tactic| k_all) => `(tactic| first | assumption | (refine List.forall_mem_cons.mpr ⟨by k_ne, ?_⟩; k_all))
local macro_rules | `(tactic| k_mem) => `(tactic| assumption)
local macro_rules | `(tactic| ktr_rel) => `(tactic| exact PoIn.mk (by k_mem) (by k_mem))
local macro_rules | `(tactic| walk_at "exec Assign cons ListComp") => `(tactic| (k_here; lcf_look; lcg_calm; k_dflt (refine LCg.Assign_ListComp_U (F₀ := by k_asm) (by rfl) (by with_unfolding_all rfl) (by with_unfolding_all rfl) (by decide) (by rfl) (by decide) (by rfl) (by rfl) (by rfl) ?_); k_dflt lcg_toSrc))
local macro_rules | `(tactic| walk_at "CompSrc") => `(tactic| (k_here; k_dflt (refine LCg.CompSrc.ledger (by rfl) (by k_asm) (by k_asm) (by k_mem) (by assumption) ?_; intro g')))
local macro_rules | `(tactic| walk_at "CompRest") => `(tactic| fail "by hand")
local macro_rules | `(tactic| walk_at "CompEnd") => `(tactic| fail "by hand")
local macro_rules | `(tactic| walk_at "call ref") => `(tactic| (k_here; (with_reducible show wpAny _ _ (call (Value.ref 132) _) _ _ _); k_dflt (refine' point_use ?k1 ?k2 ?k3 ?k4 ?k5 ?kK ?kd ?ku ?_; (case k1 => k_asm); (case k2 => k_asm); (case k3 => k_asm); (case k4 => k_asm); (case k5 => k_asm); (case kK => first | exact rfl | assumption); (case kd => ktr_room); (case ku => ktr_units); k_whole; intro b9 dx9 t9 u9 n9 h9 tk9 F9 N9 f9 g9; (try dsimp only); (try k_sweep))))
local macro_rules | `(tactic| walk_at "call ref") => `(tactic| (k_here; k_dflt (show wpAny _ _ (call (Value.ref _) [Value.ref _, Value.ref _, Value.bool _, Value.ref _]) _ _ _); k_dflt (refine' edge_use ?k1 ?k2 ?k3 ?k4 ?k5 ?kK ?kx ?kv ?kw ?kc ?kdc ?ok ?kd ?ku ?_; (case k1 => k_asm); (case k2 => k_asm); (case k3 => k_asm); (case k4 => k_asm); (case k5 => k_asm); (case kK => first | exact rfl | assumption); (case kx => k_mem); (case kv => ktr_rel); (case kw => ktr_rel); (case kc => k_mem); (case kdc => k_mem); (case ok => assumption); (case kd => ktr_room); (case ku => ktr_units); k_whole; intro v9 e9 e8 h9 tk9 F9 N9 f9 g9 E9; (try dsimp only); (try k_sweep))))
theorem paired_mono {α β : Type} {F G : α → β → Prop} (hf : ∀ a b, F a b → G a b) : ∀ {l₁ : List α} {l₂ : List β}, Paired F l₁ l₂ → Paired G l₁ l₂
  | _, _, .nil => .nil
  | _, _, .cons h r => .cons (hf _ _ h) (paired_mono hf r)
theorem off_new {news : List (Addr × Obj)} {b I C D : Addr} {oI oC oD : Obj} (f : ∀ q ∈ news, q.1 ≠ b) (hI : (I, oI) ∈ news) (hC : (C, oC) ∈ news) (hD : (D, oD) ∈ news) : (@Ne Nat b I) ∧ (@Ne Nat b C) ∧ (@Ne Nat b D) :=
  ⟨Ne.symm (f _ hI), Ne.symm (f _ hC), Ne.symm (f _ hD)⟩
theorem rot16 {h₀ h : Heap} {L : Addr} {a1 a2 a3 a4 a5 a6 q i1 i2 i3 c1 c2 c3 c4 c5 c6 : Addr × Obj} {gr : List (Addr × Obj)} (N : News h₀ L h (a1 :: a2 :: a3 :: a4 :: a5 :: a6 :: q :: i1 :: i2 :: i3 :: c1 :: c2 :: c3 :: c4 :: c5 :: c6 :: gr)) :
    News h₀ L h (i1 :: i2 :: i3 :: c1 :: c2 :: c3 :: c4 :: c5 :: c6 :: a1 :: a2 :: a3 :: a4 :: a5 :: a6 :: gr) := fun p hp => N p (by
  simp only [List.mem_cons] at hp ⊢
  rcases hp with e | e | e | e | e | e | e | e | e | e | e | e | e | e | e | e <;> simp [e])
theorem ltP_moved {z x y x' y' : Int} : ltP (x + z, y - z) (x' + z, y' - z) = ltP (x, y) (x', y') := by
  unfold ltP
  dsimp only
  rw [Bool.eq_iff_iff]
  simp only [Bool.or_eq_true, Bool.and_eq_true, decide_eq_true_eq]
  omega
set_option maxHeartbeats 40000000 in
theorem st4 {w : World} {mean : ExcName → Option Value} {mg mb : Str → Option Value} {dp un : Nat} {gd : Option (List Code)} {fL : Addr} {ccd : Value} {outer : List Env} {A₀ : Around} {base h₀ : Heap} {L : Addr} {E : Value → Shared → Prop} {s : Shared} {Q : Flow → Shared → Prop}
    (B : Below A₀ base outer h₀) (X : (hd.heap_39 w.params).In h₀) (T : Top view LS mean mg mb h₀) (hdp : dp + 40 < recursionLimit) (hu : un + 400 < cLine) {l r c dc : Addr} {o1 o2 o3 : Obj} {u : Option Value} {keep : List (Addr × Obj)} {z : Int} {t : Tok} {rvs : List Value} {es : List Sg} {k : Nat}
    (d1 : o1.data = .cell (some (.int z t))) (d3 : o3.data = .cell (some (.ref c))) (hrows : RowsAt keep rvs es) (hfit : Fit es) (hlen : es.length ≤ 6)
    (F : Fr h₀ L s.heap (fun y => if y = Str.ofString "number" then u else lmR l r y)) (N : News h₀ L s.heap ((c, instObj 238 dc) :: (dc, dictOf [] 0) :: (r, listOf rvs.toArray k) :: (L + 1 + 1 + 1, o3) :: (L + 1 + 1, o2) :: (L + 1, o1) :: keep))
    (ret : ∀ D ys gr h tk, Paired (EdIn gr) ys (es.map (moved z)) → (∀ p ∈ keep, p ∈ gr) → Fr h₀ L h (fun y => if y = Str.ofString "edges" then some (.ref D) else if y = Str.ofString "number" then u else lmR l r y) → News h₀ L h ((D, lst ys) :: (r, listOf rvs.toArray k) :: gr) → Q .next { s with heap := h, toks := tk }) :
    wpAny (model PR w) (lawA dp un gd L fL ccd outer) (exec (lawSt 4) (lawEnv L fL ccd)) Q E s := by
  have goal : PySem.Challenge.rw_ja0045_01.Holds ∨ (hd.heap_39 w.params).In h₀ := .inr X
  revert goal
  delta PR LS at *
  k_fill
  intro _
  conv =>
    arg 3
    arg 1
    whnf
  delta lawA lawEnv
  conv in (occs := *) lawScope => all_goals whnf
  have hsz9 : rvs.toArray.size = es.length := by rw [List.size_toArray]; exact hrows.length
  have hszl : rvs.toArray.size ≤ sizeLine := by rw [hsz9, sizeLine_eq]; omega
  show wpAny _ _ _ _ _ _
  lcf_look
  lcg_calm
  k_dflt (refine LCg.Assign_ListComp_U (F₀ := by k_asm) (by rfl) (by with_unfolding_all rfl) (by with_unfolding_all rfl) (by decide) (by rfl) (by decide) (by rfl) (by rfl) (by rfl) ?_)
  walk1
  refine LCg.CompSrc.ledger (by rfl) (by k_asm) (by k_asm) (by k_mem) (by assumption) ?_
  intro g'
  refine rest_U (K := rvs.toArray.size) (fun i ys news => ∃ gr, news = (c, instObj 238 dc) :: (dc, dictOf [] 0) :: (r, listOf rvs.toArray k) :: (L + 1 + 1 + 1, o3) :: (L + 1 + 1, o2) :: (L + 1, o1) :: gr ∧ (∀ p ∈ keep, p ∈ gr) ∧ Paired (EdIn ((c, instObj 238 dc) :: (dc, dictOf [] 0) :: gr)) ys ((es.take i).map (moved z))) ?_ ?_ _ 0 [] _ (Nat.zero_add _) ⟨keep, rfl, fun _ h => h, .nil⟩
  · rintro ys news ⟨gr, rfl, hs, hp⟩ D h tk F8 N8 off8
    rw [hsz9, List.take_length] at hp
    refine ret D ys _ h tk hp (fun p hk => .tail _ (.tail _ (hs p hk))) F8 (cb_drop N8 fun p hm => ?_)
    simp only [List.mem_cons] at hm ⊢
    rcases hm with e | e | e | e | e
    · exact .inl e
    · exact .inr (.inr (.inr (.inl e)))
    · exact .inr (.inl e)
    · exact .inr (.inr (.inl e))
    · exact .inr (.inr (.inr (.inr (.inr (.inr (.inr e))))))
  · rintro i v ys news I oI C oC D m₂ h8 tk8 E' hP ⟨gr, rfl, hs, hp⟩ hNC hx F8 N8 off8 ne8
    obtain ⟨e, he, hS⟩ := paired_get hrows (by simpa using hP)
    have hgd := hfit.at he
    have htk : es.take (i + 1) = es.take i ++ [e] := by rw [List.take_add_one, he]; rfl
    rcases hS with @⟨b, c1, c2, p, q, n, hb, h1, h2⟩
    rcases h1 with @⟨_, x1, y1, t1, u1, n1, h1⟩
    rcases h2 with @⟨_, x2, y2, t2, u2, n2, h2⟩
    replace hb := hs _ hb
    replace h1 := hs _ h1
    replace h2 := hs _ h2
    have hlt : ltP (x1 + z, y1 - z) (x2 + z, y2 - z) = true := ltP_moved.trans hgd.2.2
    clear ret
    k_steps
    rename_i v9 e9 e8 h9 tk9 F9 N9 f9 g9 E9
    obtain ⟨o1', o2', o3', o4', o5', o6', ogr⟩ := off8
    refine ⟨_, _, _, rfl, by k_asm, rot16 N9, ⟨o1', o2', o3', o4', o5', o6', off_new f9 (by k_mem) (by k_mem) (by k_mem), off_new g9 (by k_mem) (by k_mem) (by k_mem), off_new (by assumption) (by k_mem) (by k_mem) (by k_mem), off_new (by assumption) (by k_mem) (by k_mem) (by k_mem), off_new (by assumption) (by k_mem) (by k_mem) (by k_mem), off_new (by assumption) (by k_mem) (by k_mem) (by k_mem), ogr⟩,
      .inr ⟨_, .tail _ (.tail _ (.head _)), rfl, _, rfl⟩, _, rfl, fun p hp => .tail _ (.tail _ (.tail _ (.tail _ (.tail _ (.tail _ (hs p hp)))))), ?_⟩
    rw [htk, List.map_append]
    refine Paired.snoc (paired_mono (fun _ _ h => EdIn.mono h fun p hp => ?_) hp) (EdNew.ed E9 (fun p hp => ?_) (.head _) (.tail _ (.head _)) (.mk (by k_mem) (by k_mem)) (.mk (by k_mem) (by k_mem)))
    · simp only [List.mem_cons] at hp ⊢
      rcases hp with e | e | e <;> simp [e]
    · simp only [List.mem_cons, List.not_mem_nil, or_false] at hp ⊢
      rcases hp with e | e <;> simp [e]
end Mine
end
section
open PySem PySem.W PyProof.Rows PyProof.Rows.LCg
set_option maxRecDepth 100000
namespace Mine
/-- a map of the frame of which three names may have turned -/
def But3 (x y z : Str) (m₀ m : Str → Option Value) : Prop := ∃ a b c, m = fun n => if n = x then a else if n = y then b else if n = z then c else m₀ n
section
variable {x y z : Str} {m₀ m : Str → Option Value}
theorem But3.refl : But3 x y z m₀ m₀ := ⟨m₀ x, m₀ y, m₀ z, funext fun n => by split; · simp_all
                                                                              · split; · simp_all
                                                                                · split <;> simp_all⟩
theorem But3.one {v a b c : Option Value} : But3 x y z m₀ (fun n => if n = x then v else if n = x then a else if n = y then b else if n = z then c else m₀ n) := ⟨v, b, c, funext fun n => by split <;> rfl⟩
theorem But3.two {v a b c : Option Value} (h : y ≠ x) : But3 x y z m₀ (fun n => if n = y then v else if n = x then a else if n = y then b else if n = z then c else m₀ n) :=
  ⟨a, v, c, funext fun n => by
    by_cases h1 : n = y
    · subst h1; simp [h]
    · simp [h1]⟩
theorem But3.three {v a b c : Option Value} (h : z ≠ x) (h' : z ≠ y) : But3 x y z m₀ (fun n => if n = z then v else if n = x then a else if n = y then b else if n = z then c else m₀ n) :=
  ⟨a, b, v, funext fun n => by
    by_cases h1 : n = z
    · subst h1; simp [h, h']
    · simp [h1]⟩
end
theorem range_small {n : Nat} (h : n ≤ 6) : Builtin.Range.small 0 (n : Int) 1 = true := by
  have : n = 0 ∨ n = 1 ∨ n = 2 ∨ n = 3 ∨ n = 4 ∨ n = 5 ∨ n = 6 := by omega
  rcases this with rfl | rfl | rfl | rfl | rfl | rfl | rfl <;> rfl
theorem range_n {n : Nat} (h : n ≤ 6) : Builtin.Range.rangeSize 0 (n : Int) 1 = (n : Int) := by
  have : n = 0 ∨ n = 1 ∨ n = 2 ∨ n = 3 ∨ n = 4 ∨ n = 5 ∨ n = 6 := by omega
  rcases this with rfl | rfl | rfl | rfl | rfl | rfl | rfl <;> rfl
theorem But3.setx {x y z : Str} {m₀ m : Str → Option Value} {v : Option Value} (h : But3 x y z m₀ m) : But3 x y z m₀ (fun n => if n = x then v else m n) := by obtain ⟨a, b, c, rfl⟩ := h; exact .one
theorem But3.sety {x y z : Str} {m₀ m : Str → Option Value} {v : Option Value} (hn : y ≠ x) (h : But3 x y z m₀ m) : But3 x y z m₀ (fun n => if n = y then v else m n) := by obtain ⟨a, b, c, rfl⟩ := h; exact .two hn
theorem But3.setz {x y z : Str} {m₀ m : Str → Option Value} {v : Option Value} (hn : z ≠ x) (hn' : z ≠ y) (h : But3 x y z m₀ m) : But3 x y z m₀ (fun n => if n = z then v else m n) := by obtain ⟨a, b, c, rfl⟩ := h; exact .three hn hn'
abbrev sJ : Str := Str.ofString "j"
abbrev sI : Str := Str.ofString "i"
abbrev sT : Str := Str.ofString "told"
local macro_rules | `(tactic| k_room) => `(tactic| ktr_room)
local macro_rules | `(tactic| k_mem) => `(tactic| assumption)
local macro_rules | `(tactic| walk_at "call builtin:len") => `(tactic| (k_here; (with_reducible show wpAny _ _ (call (Value.builtin "len") [Value.ref _]) _ _ _); k_dflt (refine' KM.len_K ?k1 ?k2 ?k3 ?k4 ?_; (case k1 => k_asm); (case k2 => k_mem); (case k3 => assumption); (case k4 => omega); k_whole)))
theorem pick_ans {i j : Nat} {p q : Prop} (h : i = j ∨ (p → q)) (hne : (i : Int) ≠ (j : Int)) (hp : p) : q := h.elim (fun e => absurd (congrArg Int.ofNat e) hne) fun f => f hp
theorem EdIn.inst {l : List (Addr × Obj)} {v : Value} {e : Sg} (h : EdIn l v e) : ∃ b dx h1 h2 h3 h4 t1 t2 t3 t4 i c lf rt, v = .ref b ∧ (b, instObj 283 dx) ∈ l ∧
    (dx, dictOf [⟨h1, .str (Str.ofString "context") t1, .ref c⟩, ⟨h2, .str (Str.ofString "interior_to_left") t2, .bool i⟩, ⟨h3, .str (Str.ofString "left") t3, .ref lf⟩, ⟨h4, .str (Str.ofString "right") t4, .ref rt⟩] 4) ∈ l := by
  cases h with | mk a b => exact ⟨_, _, _, _, _, _, _, _, _, _, _, _, _, _, rfl, a, b⟩
local macro_rules | `(tactic| ktr_rel) => `(tactic| assumption)
local macro_rules | `(tactic| walk_at "subscriptTail") => `(tactic| (k_here; (with_reducible show wpAny _ _ (subscriptTail _ _ (Value.ref _) (Value.int _ _)) _ _ _); k_dflt (refine' item_litK ?k1 ?k2 ?k3 ?k4 ?_ ?k6; (case k1 => exact News.isList (by k_asm) (by k_mem)); (case k2 => omega); (case k3 => omega); (case k4 => assumption); (case k6 => with_unfolding_all rfl); k_whole)))
local macro_rules | `(tactic| walk_at "call builtin:max") => `(tactic| (k_here; (with_reducible show wpAny _ _ (call _ [Value.ref _, Value.ref _]) _ _ _); k_dflt (refine' max_K ?kh ?k1 ?k2 ?k3 ?k4 ?k5 ?_; (case kh => exact rfl); (case k1 => k_asm); (case k2 => k_asm); (case k3 => ktr_rel); (case k4 => ktr_rel); (case k5 => ktr_units); k_whole; intro c9 h9 tk9 P9 F9 N9; (try k_sweep))))
local macro_rules | `(tactic| walk_at "call builtin:min") => `(tactic| (k_here; (with_reducible show wpAny _ _ (call _ [Value.ref _, Value.ref _]) _ _ _); k_dflt (refine' min_K ?kh ?k1 ?k2 ?k3 ?k4 ?k5 ?_; (case kh => exact rfl); (case k1 => k_asm); (case k2 => k_asm); (case k3 => ktr_rel); (case k4 => ktr_rel); (case k5 => ktr_units); k_whole; intro c9 h9 tk9 P9 F9 N9; (try k_sweep))))
local macro_rules | `(tactic| walk_at "compareOp Lt ref ref") => `(tactic| (k_here; k_dflt (refine' lt_K ?k2 ?k3 ?k4 ?k5 ?_; (case k2 => k_asm); (case k3 => ktr_rel); (case k4 => ktr_rel); (case k5 => ktr_units); k_whole)))
local macro_rules | `(tactic| walk_at "compareOp Lt ref ref") => `(tactic| (k_here; (with_reducible show wpAny _ _ (compareOp CmpOp.Lt (Value.ref _) _) _ _ _); (refine cmp_ofLt ?_); k_dflt (refine' cmp_K ?k1 ?k2 ?k3 ?k4 ?k5 ?k6 ?k7 ?k8 ?_; (case k1 => ktr_units); (case k2 => k_asm); (case k3 => k_asm); (case k4 => k_inst); (case k5 => k_typeOf); (case k6 => k_is); (case k7 => k_is); (case k8 => k_is); k_whole)))
local macro_rules | `(tactic| walk_at "compareOp Lt ref ref") => `(tactic| (k_here; k_dflt (refine' lt_K ?k2 ?k3 ?k4 ?k5 ?_; (case k2 => k_asm); (case k3 => ktr_rel); (case k4 => ktr_rel); (case k5 => ktr_units); k_whole)))
local macro_rules | `(tactic| walk_at "call ref") => `(tactic| (k_here; (with_reducible show wpAny _ _ (call (Value.ref 273) _) _ _ _); k_dflt (refine' con_use (d := ((_, _), _)) lt_c ?k1 ?k2 ?k3 ?k4 ?k5 ?kK ?kR ?ko ?kd ?ku ?_; (case k1 => k_asm); (case k2 => k_asm); (case k3 => k_asm); (case k4 => k_asm); (case k5 => k_asm); (case kK => first | exact rfl | assumption); (case kR => exact ⟨_, _, rfl, by ktr_rel, by ktr_rel⟩); (case ko => exact ⟨by assumption, by assumption, pick_ans (by assumption) (by assumption) (by assumption)⟩); (case kd => (dsimp only [ltS]; ktr_room)); (case ku => (dsimp only [ltS]; ktr_units)); k_whole; intro v9 m9 h9 tk9 F9 N9 ho9; (obtain ⟨hm9, hv9⟩ := ho9); subst hm9; subst hv9; (dsimp only [List.nil_append] at N9); (try dsimp only); (try k_sweep))))
local macro_rules | `(tactic| walk_at "call ref") => `(tactic| (k_here; (with_reducible show wpAny _ _ (call (Value.ref 315) _) _ _ _); k_dflt (refine' con_use (d := (_, _)) lower_c ?k1 ?k2 ?k3 ?k4 ?k5 ?kK ?kR ?ko ?kd ?ku ?_; (case k1 => k_asm); (case k2 => k_asm); (case k3 => k_asm); (case k4 => k_asm); (case k5 => k_asm); (case kK => first | exact rfl | assumption); (case kR => exact ⟨_, _, rfl, by ktr_rel, by ktr_rel⟩); (case ko => (dsimp only [lowerS]; refine ⟨⟨?_, ?_⟩, ?_, ?_⟩ <;> assumption)); (case kd => (dsimp only [lowerS]; ktr_room)); (case ku => (dsimp only [lowerS]; ktr_units)); k_whole; intro v9 m9 h9 tk9 F9 N9 ho9; (obtain ⟨hm9, hv9⟩ := ho9); subst hm9; subst hv9; (dsimp only [List.nil_append] at N9); (try dsimp only); (try k_sweep))))
theorem near_moved {z : Int} {p q : Pt} (hp : Small p) (hq : Small q) : Near (p.1 + z, p.2 - z) (q.1 + z, q.2 - z) := by
  obtain ⟨a, b, c, d⟩ := hp
  obtain ⟨a', b', c', d'⟩ := hq
  refine ⟨?_, ?_, ?_, ?_⟩ <;> dsimp only <;> omega
def Hold (p : Prop) : Prop := p
theorem hold {p : Prop} (h : Hold p) : p := h
local macro_rules | `(tactic| walk_at "exec For Name Call cons nil") => `(tactic| (k_here; k_dflt (refine For_turns (by k_asm) ?_ (hE := by assumption))))
local macro_rules | `(tactic| walk_at "pyIter ref") => `(tactic| ((with_reducible rename EdIn _ _ _ => z9); k_dflt (refine iter_range_keep rfl (by assumption) (range_small (by assumption)) (range_n (by assumption)) (by k_asm) (by k_asm) (fun m₀ i m => But3 sT sI sI m₀ m) But3.refl (hold ?_) (hold ?_))))
set_option maxHeartbeats 40000000 in
theorem st5 {w : World} {mean : ExcName → Option Value} {mg mb : Str → Option Value} {dp un : Nat} {gd : Option (List Code)} {fL : Addr} {ccd : Value} {outer : List Env} {A₀ : Around} {base h₀ : Heap} {L : Addr} {E : Value → Shared → Prop} {s : Shared} {Q : Flow → Shared → Prop}
    (B : Below A₀ base outer h₀) (X : (hd.heap_39 w.params).In h₀) (T : Top view LS mean mg mb h₀) (hdp : dp + 40 < recursionLimit) (hu : un + 400 < cLine) (hE : PassesOwn (model PR w) (lawA dp un gd L fL ccd outer) (lawEnv L fL ccd) E)
    {l r D : Addr} {u : Option Value} {gr : List (Addr × Obj)} {z : Int} {rvs ys : List Value} {es : List Sg} {k : Nat}
    (hrows : RowsAt gr rvs es) (heds : Paired (EdIn gr) ys (es.map (moved z))) (hfit : Fit es) (hlen : es.length ≤ 6)
    (plain : ∀ e f, Good e → Good f → (letOf e f = true ∨ letOf f e = true) → ltP (maxP e.1 f.1) (minP e.2 f.2) = true → ltE (moved z e) (moved z f) = some (lowerOf e f))
    (F : Fr h₀ L s.heap (fun y => if y = Str.ofString "edges" then some (.ref D) else if y = Str.ofString "number" then u else lmR l r y)) (N : News h₀ L s.heap ((D, lst ys) :: (r, listOf rvs.toArray k) :: gr))
    (ret : ∀ m h tk, Fr h₀ L h m → Q .next { s with heap := h, toks := tk }) :
    wpAny (model PR w) (lawA dp un gd L fL ccd outer) (exec (lawSt 5) (lawEnv L fL ccd)) Q E s := by
  have goal : PySem.Challenge.rw_ja0045_01.Holds ∨ (hd.heap_39 w.params).In h₀ := .inr X
  revert goal
  delta PR LS at *
  k_fill
  intro _
  conv =>
    arg 3
    arg 1
    whnf
  delta lawA lawEnv
  conv in (occs := *) lawScope => all_goals whnf
  have hsz9 : rvs.toArray.size = es.length := by rw [List.size_toArray]; exact hrows.length
  have hE' := hE
  refine For_turns F ?_ (hE := hE)
  clear hE
  k_steps
  (with_reducible rename Fr _ _ _ _ => F9)
  (with_reducible rename News _ _ _ _ => N9)
  (with_reducible rename IsRange _ _ _ _ _ _ _ _ => R9)
  refine iter_range_keep rfl R9 (range_small hlen) (range_n hlen) F9 N9 (fun m₀ i m => But3 sT sI sJ m₀ m) But3.refl ?_ ?_
  · rintro j t m₁ news₁ h tk hj ⟨a1, a2, a3, rfl⟩ hsub F8 N8
    have hD := hsub _ (.head _)
    have hr := hsub _ (.tail _ (.head _))
    have hup : ∀ p ∈ gr, p ∈ news₁ := fun p hp => hsub p (.tail _ (.tail _ hp))
    clear F9 N9 R9
    have hsz9 : rvs.toArray.size = es.length := hsz9
    obtain ⟨f, hf⟩ : ∃ f, es[j]? = some f := ⟨_, List.getElem?_eq_getElem hj⟩
    obtain ⟨vj, hvj, hSj⟩ := paired_get' hrows hf
    obtain ⟨yj, hyj, hEj⟩ := paired_get' heds (by rw [List.getElem?_map, hf]; rfl)
    have mkE := hEj
    k_steps
    · unfold Hold
      rintro i t' m₂ news₂ h2 tk2 hi ⟨b1, b2, b3, rfl⟩ hsub2 F8 N8
      obtain ⟨e, he⟩ : ∃ e, es[i]? = some e := ⟨_, List.getElem?_eq_getElem hi⟩
      obtain ⟨vi, hvi, hSi⟩ := paired_get' hrows he
      obtain ⟨yi, hyi, hEi⟩ := paired_get' heds (by rw [List.getElem?_map, he]; rfl)
      have up2 : ∀ p ∈ gr, p ∈ news₂ := fun p hp => hsub2 p (hup p hp)
      have hD := hsub2 _ hD
      have hr := hsub2 _ hr
      have hpl := fun hne => plain e f (hfit.at he) (hfit.at hf) (hfit.pair he hf hne)
      obtain ⟨g1, g2, _⟩ := hfit.at he
      obtain ⟨g3, g4, _⟩ := hfit.at hf
      have n1 : Near (moved z e).1 (moved z e).2 := near_moved g1 g2
      have n2 : Near (moved z f).1 (moved z f).2 := near_moved g3 g4
      replace hSi := hSi.mono up2
      replace hSj := hSj.mono up2
      replace hEi := hEi.mono up2
      replace hEj := hEj.mono up2
      obtain ⟨bi, dxi, _, _, _, _, _, _, _, _, _, _, _, _, rfl, mi1, mi2⟩ := hEi.inst
      obtain ⟨bj, dxj, _, _, _, _, _, _, _, _, _, _, _, _, rfl, mj1, mj2⟩ := hEj.inst
      have hSi' := hSi
      have hSj' := hSj
      cases hSi' with | mk si1 si2 si3 =>
      cases hSj' with | mk sj1 sj2 sj3 =>
      have hpl2 : i = j ∨ (ltP (maxP _ _) (minP _ _) = true → ltE (moved z _) (moved z _) = some _) := if h : i = j then .inl h else .inr (hpl h)
      k_steps
      · dsimp only [PySem.W.CmpBack]
        k_steps
        · exfalso
          (with_reducible rename (_ != _) = true => hc)
          simp only [bne_iff_ne, ne_eq] at hc
          exact hc rfl
        · exact ⟨_, _, _, _, rfl, by k_asm, by k_asm, fun _ h => h, But3.setx (But3.sety (by decide) ⟨_, _, _, rfl⟩)⟩
      · exact ⟨_, _, _, _, rfl, by k_asm, by k_asm, fun _ h => h, But3.sety (by decide) ⟨_, _, _, rfl⟩⟩
      · exact ⟨_, _, _, _, rfl, by k_asm, by k_asm, fun _ h => h, But3.sety (by decide) ⟨_, _, _, rfl⟩⟩
    · unfold Hold
      rintro m₂ h2 tk2 ⟨b1, b2, b3, rfl⟩ F8 N8
      show wpAny _ _ _ _ _ _
      k_steps
      exact ⟨_, _, _, _, rfl, by k_asm, by k_asm, fun _ h => h, But3.setx (But3.sety (by decide) (But3.sety (by decide) (But3.setz (by decide) (by decide) ⟨_, _, _, rfl⟩)))⟩
  · rintro m₁ h tk _ F8 N8
    exact ret _ _ _ F8
end Mine
end
section
set_option maxRecDepth 100000
namespace Mine
/-- a linear order of the grid's points -/
def lam (p : Pt) : Int := 5 * p.1 + p.2
theorem ltP_lam {p q : Pt} (hp : Small p) (hq : Small q) : ltP p q = decide (lam p < lam q) := by
  obtain ⟨a, b, c, d⟩ := hp
  obtain ⟨a', b', c', d'⟩ := hq
  unfold ltP lam
  rw [Bool.eq_iff_iff]
  simp only [Bool.or_eq_true, Bool.and_eq_true, decide_eq_true_eq]
  omega
theorem id2 (a b c d : Pt) : cross c d a * (lam b - lam a) = -(cross a b c * (lam d - lam a) + cross a b d * (lam a - lam c)) := by
  unfold cross lam; grind
theorem id3 (a b c d : Pt) : cross c d b * (lam b - lam a) = -(cross a b d * (lam b - lam c) + cross a b c * (lam d - lam b)) := by
  unfold cross lam; grind
def sg (v : Int) : Fin 3 := if 0 < v then 2 else if v < 0 then 0 else 1
def orF (k : Fin 3) : PySem.Addr := if k = 2 then 178 else if k = 0 then 172 else 175
theorem or_sg (v : Int) : orA v = orF (sg v) := by 
  unfold orA orF sg
  by_cases h : 0 < v
  · simp [h]
  · by_cases h' : v < 0
    · simp [h, h']
    · simp [h, h']
def Kb (x y z : Fin 3) : Bool := decide ((1 ≤ y ∧ 1 ≤ z → x ≤ 1) ∧ (1 < y ∧ 1 ≤ z → x < 1) ∧ (y ≤ 1 ∧ z ≤ 1 → 1 ≤ x) ∧ (y < 1 ∧ z ≤ 1 → 1 < x))
abbrev K (x y z : Fin 3) : Prop := Kb x y z = true
theorem K_of {x y z P Q R : Int} (h : x * P = -(y * Q + z * R)) (hP : 0 < P) (hQ : 0 < Q) (hR : 0 ≤ R) : K (sg x) (sg y) (sg z) := by
  have p1 : 0 < y → 0 < y * Q := fun h => Int.mul_pos h hQ
  have p2 : y < 0 → y * Q < 0 := fun h => Int.mul_neg_of_neg_of_pos h hQ
  have p3 : 0 ≤ z → 0 ≤ z * R := fun h => Int.mul_nonneg h hR
  have p4 : z ≤ 0 → z * R ≤ 0 := fun h => Int.mul_nonpos_of_nonpos_of_nonneg h hR
  have p5 : 0 < x → 0 < x * P := fun h => Int.mul_pos h hP
  have p6 : x < 0 → x * P < 0 := fun h => Int.mul_neg_of_neg_of_pos h hP
  have p7 : x = 0 → x * P = 0 := fun h => by rw [h, Int.zero_mul]
  have p8 : y = 0 → y * Q = 0 := fun h => by rw [h, Int.zero_mul]
  generalize x * P = u at *
  generalize y * Q = v at *
  generalize z * R = w at *
  unfold K Kb sg
  rw [decide_eq_true_eq]
  refine ⟨?_, ?_, ?_, ?_⟩
  all_goals (repeat' split) <;> simp <;> omega
def ltF (ol or l r : Fin 3) : Option Bool :=
  if orF ol = orF or then some (decide (orF ol = 178)) else if orF ol = 175 then some (decide (orF or = 178)) else
  if orF l = orF r then some (decide (orF l = 172)) else if orF l = 175 then some (decide (orF r = 172)) else
  if orF or = 175 then some (decide (orF ol = 178)) else if orF r = 175 then some (decide (orF l = 172)) else none
def lowF (p q : Bool) (s1 s2 t1 t2 : Fin 3) : Bool :=
  let en := if q then (if s2 ≠ 1 then decide (s2 = 2) else false) else (if t2 ≠ 1 then decide (t2 = 0) else false)
  if p then (if s1 ≠ 1 then decide (s1 = 2) else en) else (if t1 ≠ 1 then decide (t1 = 0) else en)
def oppb (a b : Fin 3) : Bool := decide ((a = 0 ∧ b = 2) ∨ (a = 2 ∧ b = 0))
abbrev opp (a b : Fin 3) : Prop := oppb a b = true
theorem fin_law : ∀ (p q : Bool) (s1 s2 t1 t2 : Fin 3), ¬ (s1 = 1 ∧ s2 = 1) → ¬ (t1 = 1 ∧ t2 = 1) → (¬ opp s1 s2 ∨ ¬ opp t1 t2) →
    (p = false → K t1 s1 s2) → (q = false → K t2 s2 s1) → (p = true → K s1 t1 t2 ∧ K s1 t2 t1) → (q = true → K s2 t2 t1 ∧ K s2 t1 t2) →
    ltF s1 s2 t1 t2 = some (lowF p q s1 s2 t1 t2) := by decide +kernel
theorem sg_zero {v : Int} : sg v = 1 ↔ v = 0 := by
  unfold sg
  by_cases h : 0 < v
  · simp [h]; omega
  · by_cases h' : v < 0
    · simp [h, h']; omega
    · simp [h, h']; omega
theorem sg_pos {v : Int} : sg v = 2 ↔ 0 < v := by
  unfold sg
  by_cases h : 0 < v
  · simp [h]
  · by_cases h' : v < 0
    · simp [h, h']
    · simp [h, h']
theorem sg_neg {v : Int} : sg v = 0 ↔ v < 0 := by
  unfold sg
  by_cases h : 0 < v
  · simp [h]; omega
  · by_cases h' : v < 0
    · simp [h, h']
    · simp [h, h']
theorem sgn3_eq (v : Int) : (sgn3 v = 0 ↔ v = 0) ∧ (sgn3 v < 0 ↔ v < 0) ∧ (0 < sgn3 v ↔ 0 < v) := by
  unfold sgn3
  refine ⟨?_, ?_, ?_⟩ <;> (repeat' split) <;> simp <;> omega
theorem ltE_F (e f : Sg) : ltE e f = ltF (sg (cross e.1 e.2 f.1)) (sg (cross e.1 e.2 f.2)) (sg (cross f.1 f.2 e.1)) (sg (cross f.1 f.2 e.2)) := by
  unfold ltE ltF
  simp only [or_sg]
theorem cross_self1 (a b : Pt) : cross a b a = 0 := by unfold cross; grind
theorem cross_self2 (a b : Pt) : cross a b b = 0 := by unfold cross; grind
theorem at1 (one other : Sg) (p : Pt) (r : Bool) (h : side other p = 0) : lowerAt one other p r = if sg (cross one.1 one.2 p) ≠ 1 then decide (sg (cross one.1 one.2 p) = 2) else r := by
  unfold lowerAt
  rw [if_neg (by simp [h])]
  have h1 := sgn3_eq (cross one.1 one.2 p)
  simp only [side, ne_eq, h1.1, h1.2.2, sg_zero, sg_pos]
theorem at2 (one other : Sg) (p : Pt) (r : Bool) (h : side one p = 0) : lowerAt one other p r = if sg (cross other.1 other.2 p) ≠ 1 then decide (sg (cross other.1 other.2 p) = 0) else r := by
  unfold lowerAt
  rw [if_neg (c := side one p ≠ 0) (by simp [h])]
  have h1 := sgn3_eq (cross other.1 other.2 p)
  simp only [side, ne_eq, h1.1, h1.2.1, sg_zero, sg_neg]
theorem lower_F (e f : Sg) : lowerOf e f = lowF (ltP e.1 f.1) (ltP f.2 e.2) (sg (cross e.1 e.2 f.1)) (sg (cross e.1 e.2 f.2)) (sg (cross f.1 f.2 e.1)) (sg (cross f.1 f.2 e.2)) := by
  unfold lowerOf lowF maxP minP
  have z1 : side e e.1 = 0 := by unfold side; rw [cross_self1]; rfl
  have z2 : side e e.2 = 0 := by unfold side; rw [cross_self2]; rfl
  have z3 : side f f.1 = 0 := by unfold side; rw [cross_self1]; rfl
  have z4 : side f f.2 = 0 := by unfold side; rw [cross_self2]; rfl
  cases ltP e.1 f.1 <;> cases ltP f.2 e.2 <;> simp only [if_true, Bool.false_eq_true, if_false]
  · rw [at2 _ _ _ _ z1, at2 _ _ _ _ z2]
  · rw [at2 _ _ _ _ z1, at1 _ _ _ _ z4]
  · rw [at1 _ _ _ _ z3, at2 _ _ _ _ z2]
  · rw [at1 _ _ _ _ z3, at1 _ _ _ _ z4]
theorem opp_mul {x y : Int} : 0 ≤ sgn3 x * sgn3 y ↔ ¬ opp (sg x) (sg y) := by
  unfold opp oppb sgn3 sg
  by_cases h1 : 0 < x <;> by_cases h2 : x < 0 <;> by_cases h3 : 0 < y <;> by_cases h4 : y < 0 <;> simp [h1, h2, h3, h4] <;> omega
theorem zero_of {x P : Int} (h : x * P = 0) (hP : 0 < P) : x = 0 := by
  rcases Int.mul_eq_zero.mp h with h | h
  · exact h
  · omega
theorem maxP_small' {p q : Pt} (hp : Small p) (hq : Small q) : Small (maxP p q) ∧ lam (maxP p q) = max (lam p) (lam q) := by
  have h := ltP_lam hp hq
  unfold maxP
  cases h' : ltP p q
  · rw [h'] at h
    have h := of_decide_eq_false h.symm
    exact ⟨hp, by simp only [Bool.false_eq_true, if_false]; omega⟩
  · rw [h'] at h
    have h := of_decide_eq_true h.symm
    exact ⟨hq, by simp only [if_true]; omega⟩
theorem minP_small' {p q : Pt} (hp : Small p) (hq : Small q) : Small (minP p q) ∧ lam (minP p q) = min (lam p) (lam q) := by
  have h := ltP_lam hq hp
  unfold minP
  cases h' : ltP q p
  · rw [h'] at h
    have h := of_decide_eq_false h.symm
    exact ⟨hp, by simp only [Bool.false_eq_true, if_false]; omega⟩
  · rw [h'] at h
    have h := of_decide_eq_true h.symm
    exact ⟨hq, by simp only [if_true]; omega⟩
theorem over {a b c d : Pt} (ha : Small a) (hb : Small b) (hc : Small c) (hd : Small d) : ltP (maxP a c) (minP b d) = true ↔ lam a < lam b ∧ lam a < lam d ∧ lam c < lam b ∧ lam c < lam d := by
  obtain ⟨h1, e1⟩ := maxP_small' ha hc
  obtain ⟨h2, e2⟩ := minP_small' hb hd
  rw [ltP_lam h1 h2, decide_eq_true_eq, e1, e2]
  omega
theorem let_F {e f : Sg} (ho : ltP (maxP e.1 f.1) (minP e.2 f.2) = true) (h : letOf e f = true) :
    ¬ (cross e.1 e.2 f.1 = 0 ∧ cross e.1 e.2 f.2 = 0) ∧ (¬ opp (sg (cross e.1 e.2 f.1)) (sg (cross e.1 e.2 f.2)) ∨ ¬ opp (sg (cross f.1 f.2 e.1)) (sg (cross f.1 f.2 e.2))) := by
  unfold letOf at h
  by_cases hz : side e f.1 = 0 ∧ side e f.2 = 0
  · rw [if_pos hz, ho] at h
    cases h
  · rw [if_neg hz] at h
    refine ⟨fun x => hz ⟨(sgn3_eq _).1.mpr x.1, (sgn3_eq _).1.mpr x.2⟩, ?_⟩
    rw [Bool.or_eq_true, decide_eq_true_eq, decide_eq_true_eq] at h
    exact h.imp opp_mul.mp opp_mul.mp
theorem plain_law {e f : Sg} (e1 : Small e.1) (e2 : Small e.2) (f1 : Small f.1) (f2 : Small f.2)
    (hc : letOf e f = true ∨ letOf f e = true) (ho : ltP (maxP e.1 f.1) (minP e.2 f.2) = true) : ltE e f = some (lowerOf e f) := by
  obtain ⟨o1, o2, o3, o4⟩ := (over e1 e2 f1 f2).mp ho
  have ho' : ltP (maxP f.1 e.1) (minP f.2 e.2) = true := (over f1 f2 e1 e2).mpr ⟨o4, o3, o2, o1⟩
  have i1 := id2 e.1 e.2 f.1 f.2
  have i2 := id3 e.1 e.2 f.1 f.2
  have i3 := id2 f.1 f.2 e.1 e.2
  have i4 := id3 f.1 f.2 e.1 e.2
  have za : cross e.1 e.2 f.1 = 0 ∧ cross e.1 e.2 f.2 = 0 → cross f.1 f.2 e.1 = 0 ∧ cross f.1 f.2 e.2 = 0 := fun ⟨x, y⟩ => by
    rw [x, y] at i1 i2
    simp only [Int.zero_mul, Int.add_zero, Int.neg_zero] at i1 i2
    exact ⟨zero_of i1 (by omega), zero_of i2 (by omega)⟩
  have zb : cross f.1 f.2 e.1 = 0 ∧ cross f.1 f.2 e.2 = 0 → cross e.1 e.2 f.1 = 0 ∧ cross e.1 e.2 f.2 = 0 := fun ⟨x, y⟩ => by
    rw [x, y] at i3 i4
    simp only [Int.zero_mul, Int.add_zero, Int.neg_zero] at i3 i4
    exact ⟨zero_of i3 (by omega), zero_of i4 (by omega)⟩
  have hz : ¬ (cross e.1 e.2 f.1 = 0 ∧ cross e.1 e.2 f.2 = 0) ∧ (¬ opp (sg (cross e.1 e.2 f.1)) (sg (cross e.1 e.2 f.2)) ∨ ¬ opp (sg (cross f.1 f.2 e.1)) (sg (cross f.1 f.2 e.2))) := by
    rcases hc with h | h
    · exact let_F ho h
    · obtain ⟨x, y⟩ := let_F ho' h
      exact ⟨fun q => x (za q), y.symm⟩
  rw [ltE_F, lower_F, ltP_lam e1 f1, ltP_lam f2 e2]
  refine fin_law _ _ _ _ _ _ ?_ ?_ hz.2 ?_ ?_ ?_ ?_
  · rw [sg_zero, sg_zero]; exact hz.1
  · rw [sg_zero, sg_zero]; exact fun x => hz.1 (zb x)
  · intro h
    have h := of_decide_eq_false h
    exact K_of i1 (by omega) (by omega) (by omega)
  · intro h
    have h := of_decide_eq_false h
    exact K_of i2 (by omega) (by omega) (by omega)
  · intro h
    have h := of_decide_eq_true h
    exact ⟨K_of (P := lam f.2 - lam f.1) (Q := lam e.2 - lam f.1) (R := lam f.1 - lam e.1) i3 (by omega) (by omega) (by omega), K_of (P := lam f.2 - lam f.1) (Q := lam f.1 - lam e.1) (R := lam e.2 - lam f.1) (i3.trans (by rw [Int.add_comm])) (by omega) (by omega) (by omega)⟩
  · intro h
    have h := of_decide_eq_true h
    exact ⟨K_of (P := lam f.2 - lam f.1) (Q := lam f.2 - lam e.1) (R := lam e.2 - lam f.2) i4 (by omega) (by omega) (by omega), K_of (P := lam f.2 - lam f.1) (Q := lam e.2 - lam f.2) (R := lam f.2 - lam e.1) (i4.trans (by rw [Int.add_comm])) (by omega) (by omega) (by omega)⟩
end Mine
end
section
open PySem PySem.W PyProof.Rows
set_option maxRecDepth 100000
namespace Mine
theorem cross_moved {z : Int} {a b c : Pt} : cross (a.1 + z, a.2 - z) (b.1 + z, b.2 - z) (c.1 + z, c.2 - z) = cross a b c := by
  unfold cross
  dsimp only
  rw [show b.1 + z - (a.1 + z) = b.1 - a.1 by omega, show c.2 - z - (a.2 - z) = c.2 - a.2 by omega, show b.2 - z - (a.2 - z) = b.2 - a.2 by omega, show c.1 + z - (a.1 + z) = c.1 - a.1 by omega]
theorem plain {z : Int} (e f : Sg) (ge : Good e) (gf : Good f) (hc : letOf e f = true ∨ letOf f e = true) (ho : ltP (maxP e.1 f.1) (minP e.2 f.2) = true) : ltE (moved z e) (moved z f) = some (lowerOf e f) := by
  rw [← plain_law ge.1 ge.2.1 gf.1 gf.2.1 hc ho]
  unfold ltE moved
  simp only [cross_moved]
set_option maxHeartbeats 40000000 in
theorem st6 {w : World} {mean : ExcName → Option Value} {mg mb : Str → Option Value} {dp un : Nat} {gd : Option (List Code)} {fL : Addr} {ccd : Value} {outer : List Env} {A₀ : Around} {base h₀ : Heap} {L : Addr} {E : Value → Shared → Prop} {s : Shared} {Q : Flow → Shared → Prop} {m : Str → Option Value}
    (B : Below A₀ base outer h₀) (X : (hd.heap_39 w.params).In h₀) (T : Top view LS mean mg mb h₀) (F : Fr h₀ L s.heap m) (ret : Q (.ret (.bool true)) s) :
    wpAny (model PR w) (lawA dp un gd L fL ccd outer) (exec (lawSt 6) (lawEnv L fL ccd)) Q E s := by
  have goal : PySem.Challenge.rw_ja0045_01.Holds ∨ (hd.heap_39 w.params).In h₀ := .inr X
  revert goal
  delta PR LS at *
  k_fill
  intro _
  conv =>
    arg 3
    arg 1
    whnf
  delta lawA lawEnv
  conv in (occs := *) lawScope => all_goals whnf
  k_steps
  exact ret
theorem lawBody_eq : lawBody = [lawSt 0, lawSt 1, lawSt 2, lawSt 3, lawSt 4, lawSt 5, lawSt 6] := rfl
theorem law_walk {w : World} {mean : ExcName → Option Value} {mg mb : Str → Option Value} {dp un : Nat} {gd : Option (List Code)} {fL : Addr} {ccd : Value} {outer : List Env} {A₀ : Around} {base h₀ : Heap} {L : Addr} {E : Value → Shared → Prop} {s : Shared} {Q : Flow → Shared → Prop}
    (B : Below A₀ base outer h₀) (X : (hd.heap_39 w.params).In h₀) (T : Top view LS mean mg mb h₀) (hdp : dp + 40 < recursionLimit) (hu : un + 400 < cLine) (hE : PassesOwn (model PR w) (lawA dp un gd L fL ccd outer) (lawEnv L fL ccd) E)
    {l : Addr} {vs : List Value} {ns : List Int} {o1 o2 o3 : Obj} (hl : h₀.IsList l vs.toArray) (hi : IntsAre vs ns) (hlay : PyData.layable0 (.list (ns.map .int)) = true) (hlen : ¬ 63 < ns.length)
    (d1 : o1.data = .cell none) (d2 : o2.data = .cell none) (d3 : o3.data = .cell none) (F : Fr h₀ L s.heap (lm0 l)) (N : News h₀ L s.heap [(L + 1 + 1 + 1, o3), (L + 1 + 1, o2), (L + 1, o1)])
    (ret : ∀ m h tk, Fr h₀ L h m → Q (.ret (.bool true)) { s with heap := h, toks := tk }) :
    wpAny (model PR w) (lawA dp un gd L fL ccd outer) (execs lawBody (lawEnv L fL ccd)) Q E s := by
  rw [lawBody_eq]
  refine wpAny_execs_cons (wpAny_mono (st0 B X T hdp hu hl hi hlay d1 F N) (fun f s' h => ?_) fun _ _ e => e)
  obtain ⟨rfl, z, t, oa, da, h, tk, rfl, F, N⟩ := h
  dsimp only
  refine wpAny_execs_cons (st1 B X T F N fun r h tk F N => ?_)
  dsimp only
  refine wpAny_execs_cons (st2 B X T hdp hu hl hi hlay hlen hE d2 da d3 F N fun m news h tk hJ F N => ?_)
  obtain ⟨rvs, es, k, o2', keep, rfl, ⟨u, rfl⟩, ⟨v2, hv2⟩, hrows, hfit, hlen6, hkeep⟩ := hJ
  dsimp only
  refine wpAny_execs_cons (st3 (m := fun _ => none) B X T hdp hu da hv2 d3 hkeep (fun _ => Data.noConfusion) F N fun c dc o3' h tk d3' F N => ?_)
  dsimp only
  refine wpAny_execs_cons (st4 B X T hdp hu da d3' hrows hfit hlen6 F N fun D ys gr h tk heds hk F N => ?_)
  dsimp only
  refine wpAny_execs_cons (st5 B X T hdp hu hE (hrows.mono hk) heds hfit hlen6 plain F N fun m h tk F => ?_)
  dsimp only
  refine wpAny_execs_cons (st6 B X T F ?_)
  dsimp only
  exact ret _ _ _ F
end Mine
end
open PySem PySem.W PyProof.Rows Mine
set_option maxRecDepth 100000 in
set_option maxHeartbeats 40000000 in
theorem PySem.Challenge.cw_ja0045_01_holds : PySem.Challenge.rw_ja0045_01.Holds := by
  refine Mine.hd ?_
  k_go0
  rename_i hs hlay0 hL1 hr1 hl2 wa wb l vs wc hLl ra w1 r0 hI hr hcond htr K0 hD h1 tk1 F o1 o2 o3 d1 d2 d3 N0 X0
  have e1 : o1.data = .cell none := by with_unfolding_all exact d1
  have e2 : o2.data = .cell none := by with_unfolding_all exact d2
  have e3 : o3.data = .cell none := by with_unfolding_all exact d3
  clear d1 d2 d3 X0
  with_unfolding_all refine law_walk (A₀ := callerA) (outer := []) (l := l) (vs := vs) K0 (by assumption) (by assumption) ?hdp ?hu ?hE hLl hI hL1 ?hlen e3 e2 e1 ?F N0 ?ret
  case hlen => omega
  case F => with_unfolding_all exact F
  case ret =>
    intro m h tk F
    k_steps
  case hdp => decide +kernel
  case hu => decide +kernel
  case hE => passes_own
