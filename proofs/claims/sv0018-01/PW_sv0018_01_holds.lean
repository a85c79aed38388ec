import PyProof.Rows.All
import Wide.All
import OpenK.AllK
import Wide.FinOn
import OpenK.XSeg
import PyProof.SliceList
import PyProof.Rows.SeqIn
import KE.KSorted
import KE.KCat
import KE.KSlice
import OpenK.KEqL
import OpenK.KCell
import KE.KLcTest
import KE.LcTurns
import PyProof.ExcBaseAll.Exception
import PyProof.ExcClass3
import KE.KSuper
import KE.KTryMore
import PyProof.ExcAttrAll.Exception
import PyProof.Rows.Catch
import KE.KLam
import OpenK.KMeth
import KE.KSort
import KE.RegLcTurns
import KE.KLcFree
import KE.KNestM
import PySem.Challenge.RW_sv0018_01
set_option Elab.async false

section
set_option maxRecDepth 100000
open PySem PySem.W PyProof.Rows PySem.Calls
namespace Mine

abbrev Ledger := List (Addr × Obj)

structure Gl where
  prog : Program
  w : World
  K : Frag
  p : Program
  loose : List Str
  mean : ExcName → Option Value
  mg : Str → Option Value
  mb : Str → Option Value

abbrev Gl.M (g : Gl) : Model := model g.prog g.w

structure Fm where
  A₀ : Around
  base : Heap
  outer : List Env
  h₀ : Heap
  L : Addr
  env : Env
  ns : List Str

structure Rs where
  gens : Array GenState
  drawn : Drawn
  os : OsState

/-- the locals as a map: names by place -/
def lm (ns : List Str) (vs : List (Option Value)) (x : Str) : Option Value := ((ns.zip vs).lookup x).join

theorem lm_get : ∀ {ns : List Str} {vs : List (Option Value)} {i : Nat} {x : Str} {v : Option Value}, ns.Nodup → ns[i]? = some x → vs[i]? = some v → lm ns vs x = v
  | [], _, _, _, _, _, h, _ => by simp at h
  | n :: ns, [], i, x, v, _, _, h => by simp at h
  | n :: ns, u :: vs, 0, x, v, _, h1, h2 => by
    simp at h1 h2; subst h1 h2; simp [lm]
  | n :: ns, u :: vs, i + 1, x, v, nd, h1, h2 => by
    simp only [List.getElem?_cons_succ] at h1 h2
    have hx : x ∈ ns := List.mem_of_getElem? h1
    have hne : (x == n) = false := by
      rw [beq_eq_false_iff_ne]; intro e; subst e; exact (List.nodup_cons.mp nd).1 hx
    have := lm_get (List.nodup_cons.mp nd).2 h1 h2
    unfold lm at this ⊢
    rw [List.zip_cons_cons, List.lookup_cons, hne]; exact this

theorem lm_set : ∀ {ns : List Str} {vs : List (Option Value)} {i : Nat} {x : Str} {v : Value}, ns.Nodup → ns[i]? = some x → i < vs.length →
    (fun y => if y = x then some v else lm ns vs y) = lm ns (vs.set i (some v))
  | [], _, _, _, _, _, h, _ => by simp at h
  | n :: ns, [], i, x, v, _, _, h => by simp at h
  | n :: ns, u :: vs, 0, x, v, _, h1, _ => by
    simp at h1; subst h1
    funext y
    unfold lm
    rw [List.set_cons_zero, List.zip_cons_cons, List.zip_cons_cons, List.lookup_cons, List.lookup_cons]
    by_cases h : y = n
    · subst h; simp
    · rw [if_neg h, beq_eq_false_iff_ne.mpr h]
  | n :: ns, u :: vs, i + 1, x, v, nd, h1, h2 => by
    simp only [List.getElem?_cons_succ] at h1
    have hx : x ∈ ns := List.mem_of_getElem? h1
    have ih := lm_set (v := v) (List.nodup_cons.mp nd).2 h1 (Nat.lt_of_succ_lt_succ (by simpa using h2))
    funext y
    have ihy := congrFun ih y

    unfold lm at ihy ⊢
    rw [List.set_cons_succ, List.zip_cons_cons, List.zip_cons_cons, List.lookup_cons, List.lookup_cons]
    by_cases hy : y = n
    · subst hy
      have : y ≠ x := by intro e; subst e; exact (List.nodup_cons.mp nd).1 hx
      rw [if_neg this]; simp
    · rw [beq_eq_false_iff_ne.mpr hy]; exact ihy

/-- the frame's map at the start of a call -/
theorem lm_start : ∀ {ps : List Str} {vals : List Value} {ns : List Str}, (ps ++ ns).Nodup → ps.length = vals.length →
    (fun y => (ps.zip vals).reverse.lookup y) = lm (ps ++ ns) (vals.map some ++ List.replicate ns.length none) := by
  intro ps vals ns nd hl
  funext y
  have key : ∀ (ps : List Str) (vals : List Value), ps.length = vals.length → ps.Nodup → (ps.zip vals).reverse.lookup y = (ps.zip vals).lookup y := by
    intro ps
    induction ps with
    | nil => intro vals _ _; rfl
    | cons a ps ih =>
      intro vals hl nd
      cases vals with
      | nil => rfl
      | cons v vals =>
        rw [List.zip_cons_cons, List.reverse_cons, List.lookup_append, ih vals (by simpa using hl) (List.nodup_cons.mp nd).2, List.lookup_cons]
        by_cases h : y = a
        · subst h
          have hn : (ps.zip vals).lookup y = none := by
            rw [List.lookup_eq_none_iff]
            intro p hp
            have := (List.of_mem_zip (show (p.1, p.2) ∈ ps.zip vals from hp)).1
            rw [bne_iff_ne]; intro e
            exact (List.nodup_cons.mp nd).1 (e ▸ this)
          rw [hn]; simp
        · rw [beq_eq_false_iff_ne.mpr h]
          simp [beq_eq_false_iff_ne.mpr h, List.lookup_cons]
  rw [key ps vals hl (List.nodup_append.mp nd).1]
  clear key
  induction ps generalizing vals with
  | nil =>
    cases vals with
    | cons _ _ => simp at hl
    | nil =>
      have : ∀ (ns : List Str), lm ns (List.replicate ns.length none) y = none := by
        intro ns
        induction ns with
        | nil => rfl
        | cons n ns ih =>
          unfold lm at ih ⊢
          simp only [List.length_cons, List.replicate_succ, List.zip_cons_cons, List.lookup_cons]
          split
          · rfl
          · exact ih
      simp [this]
  | cons a ps ih =>
    cases vals with
    | nil => simp at hl
    | cons v vals =>
      have := ih (vals := vals) (List.nodup_cons.mp (by simpa using nd)).2 (by simpa using hl)
      unfold lm at this ⊢
      simp only [List.cons_append, List.zip_cons_cons, List.map_cons, List.lookup_cons]
      split
      · rfl
      · exact this

/-- what holds at a point of a call's body: the frame's map, the ledger, the rest -/
structure St (f : Fm) (vs : List (Option Value)) (news : Ledger) (r : Rs) (s : Shared) : Prop where
  F : Fr f.h₀ f.L s.heap (lm f.ns vs)
  N : News f.h₀ f.L s.heap news
  nd : (news.map (·.1)).Nodup
  gens : s.gens = r.gens
  drawn : s.drawn = r.drawn
  os : s.os = r.os

/-- what holds throughout a call -/
structure Cx (g : Gl) (f : Fm) : Prop where
  B : Below f.A₀ f.base f.outer f.h₀
  X : g.K.In f.h₀
  T : Top g.p g.loose g.mean g.mg g.mb f.h₀
  loc : f.env.locals = f.L
  glo : f.env.globals = mainGlobals
  bui : f.env.builtins = builtinsNs
  fr : f.env.frame = some f.L
  hk : f.env.scope.kind = .function
  nd : f.ns.Nodup
  kin : ∀ (i : Nat) (x : Str), f.ns[i]? = some x → f.env.kindOf x = some .local

/-- room to call: d more frames -/
structure Rm (f : Fm) (A : Around) (d : Nat) : Prop where
  fr : A.frames = some (f.env :: f.outer)
  dep : A.depth + 3 * d < 900
  uni : A.units + 20 * d < 6000
  hd : A.handled = none

section
variable {g : Gl} {f : Fm} {A : Around} {vs : List (Option Value)} {news : Ledger} {r : Rs} {s : Shared}

theorem St.tok (hs : St f vs news r s) {t : Nat} : St f vs news r ⟨s.heap, s.gens, s.drawn, t, s.os⟩ := ⟨hs.F, hs.N, hs.nd, hs.gens, hs.drawn, hs.os⟩
theorem St.perm {news' : Ledger} (hs : St f vs news r s) (hp : news.Perm news') : St f vs news' r s :=
  ⟨hs.F, fun p hm => hs.N p (hp.mem_iff.mpr hm), (hp.map _).nodup_iff.mp hs.nd, hs.gens, hs.drawn, hs.os⟩
theorem St.drop {a b : Ledger} (hs : St f vs (a ++ b) r s) : St f vs b r s :=
  ⟨hs.F, fun p hm => hs.N p (List.mem_append_right _ hm), (List.nodup_append.mp (by simpa using hs.nd)).2.1, hs.gens, hs.drawn, hs.os⟩
theorem St.ns (hs : St f vs news r s) (cx : Cx g f) : s.heap.Ns f.env.locals (lm f.ns vs) := cx.loc ▸ hs.F.ns

def isI (i : Int) (v : Value) : Prop := ∃ t, v = .int i t
def isB (b : Bool) (v : Value) : Prop := v = .bool b

/-- a pure expression: its value satisfies P, nothing changes -/
def PE (g : Gl) (f : Fm) (A : Around) (vs : List (Option Value)) (news : Ledger) (r : Rs) (e : Expr) (P : Value → Prop) : Prop :=
  ∀ (Q : Value → Shared → Prop) (E : Value → Shared → Prop) (s : Shared), St f vs news r s → (∀ v s', P v → St f vs news r s' → Q v s') → wpAny g.M A (eval e f.env) Q E s
/-- a pure test -/
def PT (g : Gl) (f : Fm) (A : Around) (vs : List (Option Value)) (news : Ledger) (r : Rs) (e : Expr) (b : Bool) : Prop :=
  ∀ (whole : Sem Value) (Q : Bool → Shared → Prop) (E : Value → Shared → Prop) (s : Shared), whole = eval e f.env → St f vs news r s → (∀ s', St f vs news r s' → Q b s') → wpAny g.M A (isTrue e f.env whole) Q E s
/-- an expression that may change the ledger -/
def EX (g : Gl) (f : Fm) (A : Around) (vs : List (Option Value)) (news : Ledger) (r : Rs) (e : Expr) (P : Value → Ledger → Rs → Prop) : Prop :=
  ∀ (Q : Value → Shared → Prop) (E : Value → Shared → Prop) (s : Shared), St f vs news r s → (∀ v news' r' s', P v news' r' → St f vs news' r' s' → Q v s') → wpAny g.M A (eval e f.env) Q E s
/-- a call of a def of the program, by its address -/
def CL (g : Gl) (f : Fm) (A : Around) (vs : List (Option Value)) (news : Ledger) (r : Rs) (fa : Addr) (args : List Value) (P : Value → Ledger → Rs → Prop) : Prop :=
  ∀ (R : Result → Shared → Prop) (s : Shared), St f vs news r s → (∀ v news' r' s', P v news' r' → St f vs news' r' s' → R (.ok (.ret v)) s') → codeAny g.M A (.call (.ref fa) ⟨args, []⟩) R s
/-- nothing changed -/
def still (news : Ledger) (r : Rs) (P : Value → Prop) (v : Value) (news' : Ledger) (r' : Rs) : Prop := P v ∧ news = news' ∧ r = r'

variable {P : Value → Prop} {e l r₁ r₂ : Expr} {pos : Pos} {a b : Int} {x : Str} {i : Nat} {v : Value}

theorem PE.weaken {P' : Value → Prop} (h : PE g f A vs news r e P) (w : ∀ v, P v → P' v) : PE g f A vs news r e P' :=
  fun _ _ _ hs k => h _ _ _ hs fun v s' hp hs' => k v s' (w v hp) hs'
theorem PE.cast {P' : Value → Prop} (h : PE g f A vs news r e P) (w : P = P') : PE g f A vs news r e P' := w ▸ h
theorem PE.toI {a b : Int} (h : PE g f A vs news r e (isI a)) (w : a = b) : PE g f A vs news r e (isI b) := w ▸ h
theorem PE.toB {a b : Bool} (h : PE g f A vs news r e (isB a)) (w : a = b) : PE g f A vs news r e (isB b) := w ▸ h
theorem PT.toB {a b : Bool} (h : PT g f A vs news r e a) (w : a = b) : PT g f A vs news r e b := w ▸ h
theorem PE.ex (h : PE g f A vs news r e P) : EX g f A vs news r e (still news r P) :=
  fun _ _ _ hs k => h _ _ _ hs fun v s' hp hs' => k v news r s' ⟨hp, rfl, rfl⟩ hs'

theorem PE.cInt {n : Int} {k : Nat} : PE g f A vs news r (.Constant (.int n) k pos) (isI n) :=
  fun _ _ _ hs k => wpAny_Constant_int (k _ _ ⟨_, rfl⟩ hs.tok)
theorem PE.cNone {k : Nat} : PE g f A vs news r (.Constant .none k pos) (· = .none) :=
  fun _ _ _ hs k => wpAny_Constant_none (k _ _ rfl hs)
theorem PE.cBool {b : Bool} {k : Nat} : PE g f A vs news r (.Constant (.bool b) k pos) (isB b) :=
  fun _ _ _ hs k => wpAny_Constant_bool (k _ _ rfl hs)
theorem PE.cStr {x : Str} {k : Nat} : PE g f A vs news r (.Constant (.str x) k pos) (fun v => ∃ t, v = .str x t) :=
  fun _ _ _ hs k => wpAny_Constant_str (k _ _ ⟨_, rfl⟩ hs.tok)

theorem PE.name (cx : Cx g f) (hn : f.ns[i]? = some x) (hv : vs[i]? = some (some v)) (hp : P v) (hd : (x == ("__debug__" : Str)) = false := by decide) : PE g f A vs news r (.Name x pos) P :=
  fun _ _ _ hs k => wpAny_Name (wpAny_loadName_local cx.hk (cx.kin i x hn) (hs.ns cx) (lm_get cx.nd hn hv) (k _ _ hp hs)) hd
theorem PE.nameI {t : Tok} (cx : Cx g f) (hn : f.ns[i]? = some x) (hv : vs[i]? = some (some (.int a t))) (hd : (x == ("__debug__" : Str)) = false := by decide) : PE g f A vs news r (.Name x pos) (isI a) :=
  PE.name cx hn hv ⟨t, rfl⟩ hd
theorem PE.nameV (cx : Cx g f) (hn : f.ns[i]? = some x) (hv : vs[i]? = some (some v)) (hd : (x == ("__debug__" : Str)) = false := by decide) : PE g f A vs news r (.Name x pos) (· = v) :=
  PE.name cx hn hv rfl hd
theorem PE.nameG (cx : Cx g f) (hk : f.env.kindOf x = some .globalImplicit) (e : nsIn g.K mainGlobals x = some (some v)) (hd : (x == ("__debug__" : Str)) = false := by decide) : PE g f A vs news r (.Name x pos) (· = v) :=
  fun _ _ _ hs k => Name_function_global cx.hk hk (loadGlobal_global (cx.glo ▸ cx.T.g.keeps hs.F.keep) (mg_of cx.X cx.T.g e) (k _ _ rfl hs)) hd
theorem PE.nameBt (cx : Cx g f) (hk : f.env.kindOf x = some .globalImplicit) (e : nsIn g.K mainGlobals x = some none) (hv : bootBuiltins x = some v) (hn : x ≠ "__name__") (hd : (x == ("__debug__" : Str)) = false := by decide) : PE g f A vs news r (.Name x pos) (· = v) :=
  fun _ _ _ hs k => Name_function_global cx.hk hk (loadGlobal_builtin (cx.glo ▸ cx.T.g.keeps hs.F.keep) (mg_none_of cx.X cx.T.g e) (cx.bui ▸ cx.T.b.keeps hs.F.keep) ((cx.T.builtins x hn).trans hv) (k _ _ rfl hs)) hd

theorem PE.add (h₁ : PE g f A vs news r l (isI a)) (h₂ : PE g f A vs news r r₁ (isI b)) : PE g f A vs news r (.BinOp l .Add r₁ pos) (isI (a + b)) :=
  fun _ _ _ hs k => wpAny_BinOp (h₁ _ _ _ hs fun _ _ ⟨_, e₁⟩ s₁ => h₂ _ _ _ s₁ fun _ _ ⟨_, e₂⟩ s₂ => by subst e₁ e₂; exact add_int (k _ _ ⟨_, rfl⟩ s₂.tok))
theorem PE.sub (h₁ : PE g f A vs news r l (isI a)) (h₂ : PE g f A vs news r r₁ (isI b)) : PE g f A vs news r (.BinOp l .Sub r₁ pos) (isI (a - b)) :=
  fun _ _ _ hs k => wpAny_BinOp (h₁ _ _ _ hs fun _ _ ⟨_, e₁⟩ s₁ => h₂ _ _ _ s₁ fun _ _ ⟨_, e₂⟩ s₂ => by subst e₁ e₂; exact sub_int (k _ _ ⟨_, rfl⟩ s₂.tok))
theorem PE.band (h₁ : PE g f A vs news r l (isI a)) (h₂ : PE g f A vs news r r₁ (isI b)) : PE g f A vs news r (.BinOp l .BitAnd r₁ pos) (isI (Builtin.bitAnd a b)) :=
  fun _ _ _ hs k => wpAny_BinOp (h₁ _ _ _ hs fun _ _ ⟨_, e₁⟩ s₁ => h₂ _ _ _ s₁ fun _ _ ⟨_, e₂⟩ s₂ => by subst e₁ e₂; exact and_int (k _ _ ⟨_, rfl⟩ s₂.tok))
theorem PE.bor (h₁ : PE g f A vs news r l (isI a)) (h₂ : PE g f A vs news r r₁ (isI b)) : PE g f A vs news r (.BinOp l .BitOr r₁ pos) (isI (Builtin.bitOr a b)) :=
  fun _ _ _ hs k => wpAny_BinOp (h₁ _ _ _ hs fun _ _ ⟨_, e₁⟩ s₁ => h₂ _ _ _ s₁ fun _ _ ⟨_, e₂⟩ s₂ => by subst e₁ e₂; exact or_int (k _ _ ⟨_, rfl⟩ s₂.tok))
theorem PE.mod (h₁ : PE g f A vs news r l (isI a)) (h₂ : PE g f A vs news r r₁ (isI b)) (hb : b ≠ 0) : PE g f A vs news r (.BinOp l .Mod r₁ pos) (isI (a.fmod b)) :=
  fun _ _ _ hs k => wpAny_BinOp (h₁ _ _ _ hs fun _ _ ⟨_, e₁⟩ s₁ => h₂ _ _ _ s₁ fun _ _ ⟨_, e₂⟩ s₂ => by subst e₁ e₂; exact mod_int' hb (k _ _ ⟨_, rfl⟩ s₂.tok))
theorem PE.fdiv (h₁ : PE g f A vs news r l (isI a)) (h₂ : PE g f A vs news r r₁ (isI b)) (hb : b ≠ 0) (hp : Builtin.divisionGoesByPylong a b = false) : PE g f A vs news r (.BinOp l .FloorDiv r₁ pos) (isI (a.fdiv b)) :=
  fun _ _ _ hs k => wpAny_BinOp (h₁ _ _ _ hs fun _ _ ⟨_, e₁⟩ s₁ => h₂ _ _ _ s₁ fun _ _ ⟨_, e₂⟩ s₂ => by subst e₁ e₂; exact floordiv_int hb (k _ _ ⟨_, rfl⟩ s₂.tok) (.inl hp))
theorem PE.shl (h₁ : PE g f A vs news r l (isI a)) (h₂ : PE g f A vs news r r₁ (isI b)) (h0 : 0 ≤ b) (hb : b ≤ 1000000) (ha : a.natAbs < 2 ^ 64) : PE g f A vs news r (.BinOp l .LShift r₁ pos) (isI (a * 2 ^ b.toNat)) :=
  fun _ _ _ hs k => wpAny_BinOp (h₁ _ _ _ hs fun _ _ ⟨_, e₁⟩ s₁ => h₂ _ _ _ s₁ fun _ _ ⟨_, e₂⟩ s₂ => by subst e₁ e₂; exact lshift_int_small h0 hb ha (k _ _ ⟨_, rfl⟩ s₂.tok))
theorem PE.shr (h₁ : PE g f A vs news r l (isI a)) (h₂ : PE g f A vs news r r₁ (isI b)) (h0 : 0 ≤ b) : PE g f A vs news r (.BinOp l .RShift r₁ pos) (isI (a.fdiv (2 ^ b.toNat))) :=
  fun _ _ _ hs k => wpAny_BinOp (h₁ _ _ _ hs fun _ _ ⟨_, e₁⟩ s₁ => h₂ _ _ _ s₁ fun _ _ ⟨_, e₂⟩ s₂ => by subst e₁ e₂; exact rshift_int h0 (k _ _ ⟨_, rfl⟩ s₂.tok))

theorem PE.cmpEq (h₁ : PE g f A vs news r l (isI a)) (h₂ : PE g f A vs news r r₁ (isI b)) (hm : behindInMarks .Eq r₁ = false := by with_unfolding_all rfl) : PE g f A vs news r (.Compare l [.Eq] [r₁] pos) (isB (a == b)) :=
  fun _ _ _ hs k => wpAny_Compare1 (h₁ _ _ _ hs fun _ _ ⟨_, e₁⟩ s₁ => h₂ _ _ _ s₁ fun _ _ ⟨_, e₂⟩ s₂ => by subst e₁ e₂; exact eq_int (k _ _ rfl s₂)) hm
theorem PE.cmpNe (h₁ : PE g f A vs news r l (isI a)) (h₂ : PE g f A vs news r r₁ (isI b)) (hm : behindInMarks .NotEq r₁ = false := by with_unfolding_all rfl) : PE g f A vs news r (.Compare l [.NotEq] [r₁] pos) (isB (a != b)) :=
  fun _ _ _ hs k => wpAny_Compare1 (h₁ _ _ _ hs fun _ _ ⟨_, e₁⟩ s₁ => h₂ _ _ _ s₁ fun _ _ ⟨_, e₂⟩ s₂ => by subst e₁ e₂; exact ne_int (k _ _ rfl s₂)) hm

theorem PT.cmp {op : CmpOp} {c : Bool} {P₁ P₂ : Value → Prop} (h₁ : PE g f A vs news r l P₁) (h₂ : PE g f A vs news r r₁ P₂)
    (hc : ∀ u v (Q : Value → Shared → Prop) E s, P₁ u → P₂ v → Q (.bool c) s → wpAny g.M A (compareOp op u v) Q E s)
    (hm : behindInMarks op r₁ = false := by with_unfolding_all rfl) : PT g f A vs news r (.Compare l [op] [r₁] pos) c :=
  fun _ _ _ _ hw hs k => by
    subst hw
    exact wpAny_isTrue_Compare1 (h₁ _ _ _ hs fun _ _ e₁ s₁ => h₂ _ _ _ s₁ fun _ _ e₂ s₂ => hc _ _ _ _ _ e₁ e₂ (wpAny_truthy_bool (k _ s₂))) hm
theorem PT.eq (h₁ : PE g f A vs news r l (isI a)) (h₂ : PE g f A vs news r r₁ (isI b)) (hm : behindInMarks .Eq r₁ = false := by with_unfolding_all rfl) : PT g f A vs news r (.Compare l [.Eq] [r₁] pos) (a == b) :=
  PT.cmp h₁ h₂ (fun _ _ _ _ _ ⟨_, e₁⟩ ⟨_, e₂⟩ q => by subst e₁ e₂; exact eq_int q) hm
theorem PT.ne (h₁ : PE g f A vs news r l (isI a)) (h₂ : PE g f A vs news r r₁ (isI b)) (hm : behindInMarks .NotEq r₁ = false := by with_unfolding_all rfl) : PT g f A vs news r (.Compare l [.NotEq] [r₁] pos) (a != b) :=
  PT.cmp h₁ h₂ (fun _ _ _ _ _ ⟨_, e₁⟩ ⟨_, e₂⟩ q => by subst e₁ e₂; exact ne_int q) hm
theorem PT.lt (h₁ : PE g f A vs news r l (isI a)) (h₂ : PE g f A vs news r r₁ (isI b)) (hm : behindInMarks .Lt r₁ = false := by with_unfolding_all rfl) : PT g f A vs news r (.Compare l [.Lt] [r₁] pos) (decide (a < b)) :=
  PT.cmp h₁ h₂ (fun _ _ _ _ _ ⟨_, e₁⟩ ⟨_, e₂⟩ q => by subst e₁ e₂; exact lt_int q) hm
theorem PT.le (h₁ : PE g f A vs news r l (isI a)) (h₂ : PE g f A vs news r r₁ (isI b)) (hm : behindInMarks .LtE r₁ = false := by with_unfolding_all rfl) : PT g f A vs news r (.Compare l [.LtE] [r₁] pos) (decide (a ≤ b)) :=
  PT.cmp h₁ h₂ (fun _ _ _ _ _ ⟨_, e₁⟩ ⟨_, e₂⟩ q => by subst e₁ e₂; exact le_int q) hm
theorem PT.gt (h₁ : PE g f A vs news r l (isI a)) (h₂ : PE g f A vs news r r₁ (isI b)) (hm : behindInMarks .Gt r₁ = false := by with_unfolding_all rfl) : PT g f A vs news r (.Compare l [.Gt] [r₁] pos) (decide (b < a)) :=
  PT.cmp h₁ h₂ (fun _ _ _ _ _ ⟨_, e₁⟩ ⟨_, e₂⟩ q => by subst e₁ e₂; exact gt_int q) hm
theorem PT.ge (h₁ : PE g f A vs news r l (isI a)) (h₂ : PE g f A vs news r r₁ (isI b)) (hm : behindInMarks .GtE r₁ = false := by with_unfolding_all rfl) : PT g f A vs news r (.Compare l [.GtE] [r₁] pos) (decide (b ≤ a)) :=
  PT.cmp h₁ h₂ (fun _ _ _ _ _ ⟨_, e₁⟩ ⟨_, e₂⟩ q => by subst e₁ e₂; exact ge_int q) hm
theorem PT.not {c : Bool} (h : PT g f A vs news r e c) : PT g f A vs news r (.UnaryOp .Not e pos) (!c) :=
  fun _ _ _ _ _ hs k => isTrue_not (h _ _ _ _ rfl hs fun _ s' => k _ s')
theorem PT.val {c : Bool} (h : PE g f A vs news r e (isB c)) (he : ∀ whole, isTrue e f.env whole = (do let v ← whole; standAt e.pos; holding [v] (truthy v))) : PT g f A vs news r e c :=
  fun _ _ _ _ hw hs k => by
    subst hw
    exact isTrue_plain (h _ _ _ hs fun _ _ e s₁ => by rw [e]; exact wpAny_truthy_bool (k _ s₁)) (he _)
end
end Mine
end

section
set_option maxRecDepth 100000
open PySem PySem.W PyProof.Rows PySem.Calls
namespace Mine
section
variable {g : Gl} {f : Fm} {A : Around} {vs : List (Option Value)} {news : Ledger} {r : Rs} {s : Shared}
variable {P : Value → Prop} {e l r₁ r₂ e₁ e₂ : Expr} {pos : Pos} {a b : Int} {x : Str} {i : Nat} {v : Value} {b₁ b₂ : Bool}

theorem PE.and2 (h₁ : PE g f A vs news r e₁ (isB b₁)) (h₂ : b₁ = true → PE g f A vs news r e₂ (isB b₂)) : PE g f A vs news r (.BoolOp .And [e₁, e₂] pos) (isB (b₁ && b₂)) :=
  fun _ _ _ hs k => BoolOp_and (h₁ _ _ _ hs fun _ _ q s₁ => by
    rw [q]
    refine wpAny_truthy_bool ?_
    cases b₁ with
    | true => exact BoolOp_one (h₂ rfl _ _ _ s₁ fun v s' p s₂ => k v s' (by rw [p]; rfl) s₂)
    | false => exact k _ _ rfl s₁)
theorem PE.and3 {e₃ : Expr} {b₃ : Bool} (h₁ : PE g f A vs news r e₁ (isB b₁)) (h₂ : b₁ = true → PE g f A vs news r e₂ (isB b₂)) (h₃ : b₁ = true → b₂ = true → PE g f A vs news r e₃ (isB b₃)) :
    PE g f A vs news r (.BoolOp .And [e₁, e₂, e₃] pos) (isB (b₁ && (b₂ && b₃))) :=
  fun _ _ _ hs k => BoolOp_and (h₁ _ _ _ hs fun _ _ q s₁ => by
    rw [q]
    refine wpAny_truthy_bool ?_
    cases b₁ with
    | true => exact PE.and2 (h₂ rfl) (h₃ rfl) _ _ _ s₁ fun v s' p s₂ => k v s' (by rw [p]; rfl) s₂
    | false => exact k _ _ rfl s₁)
theorem PE.or2 (h₁ : PE g f A vs news r e₁ (isB b₁)) (h₂ : b₁ = false → PE g f A vs news r e₂ (isB b₂)) : PE g f A vs news r (.BoolOp .Or [e₁, e₂] pos) (isB (b₁ || b₂)) :=
  fun _ _ _ hs k => BoolOp_or (h₁ _ _ _ hs fun _ _ q s₁ => by
    rw [q]
    refine wpAny_truthy_bool ?_
    cases b₁ with
    | true => exact k _ _ rfl s₁
    | false => exact BoolOp_one (h₂ rfl _ _ _ s₁ fun v s' p s₂ => k v s' (by rw [p]; rfl) s₂))
theorem PT.and2 (h₁ : PT g f A vs news r e₁ b₁) (h₂ : b₁ = true → PT g f A vs news r e₂ b₂) : PT g f A vs news r (.BoolOp .And [e₁, e₂] pos) (b₁ && b₂) :=
  fun _ _ _ _ _ hs k => isTrue_and (h₁ _ _ _ _ rfl hs fun _ s₁ => by
    cases b₁ with
    | true => exact isTrue_and (h₂ rfl _ _ _ _ rfl s₁ fun _ s₂ => by
        cases b₂ with
        | true => exact isTrue_and_nil (k _ s₂)
        | false => exact k _ s₂)
    | false => exact k _ s₁)
theorem PT.and3 {e₃ : Expr} {b₃ : Bool} (h₁ : PT g f A vs news r e₁ b₁) (h₂ : b₁ = true → PT g f A vs news r e₂ b₂) (h₃ : b₁ = true → b₂ = true → PT g f A vs news r e₃ b₃) :
    PT g f A vs news r (.BoolOp .And [e₁, e₂, e₃] pos) (b₁ && (b₂ && b₃)) :=
  fun _ _ _ _ _ hs k => isTrue_and (h₁ _ _ _ _ rfl hs fun _ s₁ => by
    cases b₁ with
    | true => exact isTrue_and (h₂ rfl _ _ _ _ rfl s₁ fun _ s₂ => by
        cases b₂ with
        | true => exact isTrue_and (h₃ rfl rfl _ _ _ _ rfl s₂ fun _ s₃ => by
            cases b₃ with
            | true => exact isTrue_and_nil (k _ s₃)
            | false => exact k _ s₃)
        | false => exact k _ s₂)
    | false => exact k _ s₁)
theorem PT.or2 (h₁ : PT g f A vs news r e₁ b₁) (h₂ : b₁ = false → PT g f A vs news r e₂ b₂) : PT g f A vs news r (.BoolOp .Or [e₁, e₂] pos) (b₁ || b₂) :=
  fun _ _ _ _ _ hs k => isTrue_or (h₁ _ _ _ _ rfl hs fun _ s₁ => by
    cases b₁ with
    | true => exact k _ s₁
    | false => exact isTrue_or (h₂ rfl _ _ _ _ rfl s₁ fun _ s₂ => by
        cases b₂ with
        | true => exact k _ s₂
        | false => exact isTrue_or_nil (k _ s₂)))
theorem PT.or3 {e₃ : Expr} {b₃ : Bool} (h₁ : PT g f A vs news r e₁ b₁) (h₂ : b₁ = false → PT g f A vs news r e₂ b₂) (h₃ : b₁ = false → b₂ = false → PT g f A vs news r e₃ b₃) :
    PT g f A vs news r (.BoolOp .Or [e₁, e₂, e₃] pos) (b₁ || (b₂ || b₃)) :=
  fun _ _ _ _ _ hs k => isTrue_or (h₁ _ _ _ _ rfl hs fun _ s₁ => by
    cases b₁ with
    | true => exact k _ s₁
    | false => exact isTrue_or (h₂ rfl _ _ _ _ rfl s₁ fun _ s₂ => by
        cases b₂ with
        | true => exact k _ s₂
        | false => exact isTrue_or (h₃ rfl rfl _ _ _ _ rfl s₂ fun _ s₃ => by
            cases b₃ with
            | true => exact k _ s₃
            | false => exact isTrue_or_nil (k _ s₃))))
theorem PE.ite {test : Expr} (ht : PT g f A vs news r test b₁) (h₁ : b₁ = true → PE g f A vs news r e₁ P) (h₂ : b₁ = false → PE g f A vs news r e₂ P) : PE g f A vs news r (.IfExp test e₁ e₂ pos) P :=
  fun _ _ _ hs k => IfExp_ (ht _ _ _ _ rfl hs fun _ s₁ => by
    cases b₁ with
    | true => exact h₁ rfl _ _ _ s₁ k
    | false => exact h₂ rfl _ _ _ s₁ k)
theorem PE.iteI {test : Expr} {a₁ a₂ : Int} (ht : PT g f A vs news r test b₁) (h₁ : b₁ = true → PE g f A vs news r e₁ (isI a₁)) (h₂ : b₁ = false → PE g f A vs news r e₂ (isI a₂)) : PE g f A vs news r (.IfExp test e₁ e₂ pos) (isI (if b₁ then a₁ else a₂)) :=
  PE.ite ht (fun q => by rw [if_pos q]; exact h₁ q) (fun q => by rw [if_neg (by rw [q]; decide)]; exact h₂ q)
theorem PE.neg (h : PE g f A vs news r e (isI a)) : PE g f A vs news r (.UnaryOp .USub e pos) (isI (-a)) :=
  fun Q E s hs k => wpAny_bind (m := eval e f.env) (wpAny_mono (h (fun v s' => wpAny g.M A (do standAt pos; holding [v] (unaryOp .USub v)) Q E s') E s hs fun _ _ ⟨_, e₁⟩ s₁ => by
    subst e₁
    exact wpAny_bind (wpAny_standAt (wpAny_holding (neg_int (k _ _ ⟨_, rfl⟩ s₁.tok)))))
    (fun _ _ z => z) fun _ _ z => z)
theorem PE.inv (h : PE g f A vs news r e (isI a)) : PE g f A vs news r (.UnaryOp .Invert e pos) (isI (Builtin.bitNot a)) :=
  fun Q E s hs k => wpAny_bind (m := eval e f.env) (wpAny_mono (h (fun v s' => wpAny g.M A (do standAt pos; holding [v] (unaryOp .Invert v)) Q E s') E s hs fun _ _ ⟨_, e₁⟩ s₁ => by
    subst e₁
    exact wpAny_bind (wpAny_standAt (wpAny_holding (invert_int (k _ _ ⟨_, rfl⟩ s₁.tok)))))
    (fun _ _ z => z) fun _ _ z => z)

/-- a slot of a class with slots -/
structure SlotOK (K : Frag) (C : Addr) (name : Str) (i : Nat) : Prop where
  hg : plainGet K C name = true
  hc : isClsIn K C = true
  ex : ∃ p, findIn K (.ref C) name = some (some (.ref p)) ∧ specialIn K (.ref p) "__get__" = some (some (.builtin "member_descriptor.__get__")) ∧ takesIn K (.ref p) = some true ∧ slotIn K p C = some i ∧
    takerIn K C name = some (some (.ref p)) ∧ typeIn K (.ref p) = some (.type "member_descriptor")
  hs : findIn K (.ref C) "__setattr__" = some (some (.builtin "object.__setattr__"))
  hp : plainOver K C = true
  hz : i < 1000
/-- an own attribute in an object's dict -/
structure OwnOK (K : Frag) (C : Addr) (name : Str) : Prop where
  hg : plainGet K C name = true
  hh : hasDictIn K C = true
  ha : findIn K (.ref C) name = some none
  hs : findIn K (.ref C) "__setattr__" = some (some (.builtin "object.__setattr__"))
  hp : plainOver K C = true
  ht : takerIn K C name = some none
/-- a method that is a def -/
structure MethOK (K : Frag) (C : Addr) (name : Str) (fa : Addr) : Prop where
  hg : plainGet K C name = true
  hf : findIn K (.ref C) name = some (some (.ref fa))
  ht : isFn K (.ref fa) = true
  hk : keepIn K (.ref fa) = true
  fn : fnIn K fa = true

/-- an object with slots and an empty dict -/
abbrev instS (C dx : Addr) (sl : Array (Option Value)) : Obj := ⟨.ref C, some dx, .plain, sl⟩

variable {nm : Str} {xp : Pos} {j C xa dx fa : Addr} {attr : Str} {sl : Array (Option Value)} {od : Obj} {es : List DictEntry} {n : Nat}

theorem PE.slotG (cx : Cx g f) (ok : SlotOK g.K C attr i) (ho : PE g f A vs news r e (· = .ref xa)) (h₁ : (xa, instS C dx sl) ∈ news) (h₂ : (dx, od) ∈ news) (hv : (sl[i]?).join = some v) (hp : P v) (hh : handedIn v = true)
    (he : eval (.Attribute e attr pos) f.env = (do let o ← eval e f.env; standAt pos.atName; let r ← holding [o] (getAttr o attr true); letTemporaryGo e o r; pure r) := by rfl) :
    PE g f A vs news r (.Attribute e attr pos) P :=
  fun _ _ _ hs k => Attribute_any_ (ho _ _ _ hs fun _ _ q s₁ => by
    subst q
    obtain ⟨p, a1, a2, a3, a4, _, _⟩ := ok.ex
    exact get_slot s₁.F cx.X (.of_news s₁.N h₁ h₂) ok.hg ok.hc a1 a2 a3 a4 hv hh (k _ _ hp s₁.tok)) he
theorem PE.own (cx : Cx g f) (ok : OwnOK g.K C attr) (ho : PE g f A vs news r e (· = .ref xa)) (h₁ : (xa, instS C dx sl) ∈ news) (h₂ : (dx, dictOf es n) ∈ news) (hv : getL attr es = some (some v)) (hp : P v) (hh : handedIn v = true)
    (he : eval (.Attribute e attr pos) f.env = (do let o ← eval e f.env; standAt pos.atName; let r ← holding [o] (getAttr o attr true); letTemporaryGo e o r; pure r) := by rfl) :
    PE g f A vs news r (.Attribute e attr pos) P :=
  fun _ _ _ hs k => Attribute_any_ (ho _ _ _ hs fun _ _ q s₁ => by
    subst q
    exact get_own s₁.F cx.X (.of_news s₁.N h₁ h₂) ok.hg ok.hh ok.ha rfl hv hh (k _ _ hp s₁.tok)) he

/-- arguments, each pure -/
def AR (g : Gl) (f : Fm) (A : Around) (vs : List (Option Value)) (news : Ledger) (r : Rs) (args : List Expr) (P : List Value → Prop) : Prop :=
  ∀ (pos : Pos) (Q : List Value → Shared → Prop) (E : Value → Shared → Prop) (s : Shared), St f vs news r s → (∀ l s', P l → St f vs news r s' → Q l s') → wpAny g.M A (spliced (backTo pos (starEach args f.env))) Q E s
theorem AR.nil : AR g f A vs news r [] (· = []) := fun _ _ _ _ hs k => spliced_none (k _ _ rfl hs)
theorem AR.cons {args : List Expr} {P' : List Value → Prop} (h : PE g f A vs news r e P) (t : AR g f A vs news r args P') (he : starEach (e :: args) f.env = (false, eval e f.env) :: starEach args f.env := by rfl) :
    AR g f A vs news r (e :: args) (fun l => ∃ v l', l = v :: l' ∧ P v ∧ P' l') :=
  fun _ _ _ _ hs k => spliced_more (h _ _ _ hs fun v _ p s₁ => t _ _ _ _ s₁ fun l' _ p' s₂ => k _ _ ⟨v, l', rfl, p, p'⟩ s₂) he
/-- the shape of a method call -/
abbrev MShape (o : Expr) (name : Str) (apos : Pos) (args : List Expr) (pos : Pos) (env : Env) : Prop :=
  ∃ pl : Sem Bool, eval (.Call (.Attribute o name apos) args [] pos) env = (do
      let ov ← eval o env
      standAt apos.atName
      let (f, first) ← holding [ov] (getMethod ov name pl)
      callWith pos f first (backTo pos (starEach args env)) [])

theorem EX.meth0 {o : Expr} {apos : Pos} {P : Value → Ledger → Rs → Prop} (cx : Cx g f) (ok : MethOK g.K C attr fa) (ho : PE g f A vs news r o (· = .ref xa)) (h₁ : (xa, instS C dx sl) ∈ news) (h₂ : (dx, dictOf es n) ∈ news) (hl : getL attr es = some none)
    (hc : CL g f A vs news r fa [.ref xa] P) (he : MShape o attr apos [] pos f.env := by exact ⟨_, rfl⟩) : EX g f A vs news r (.Call (.Attribute o attr apos) [] [] pos) P :=
  fun _ _ _ hs k => by
    obtain ⟨pl, he⟩ := he
    refine MethodCall_ (pl := pl) (ho _ _ _ hs fun _ _ q s₁ => ?_) he
    subst q
    refine method_inst s₁.F cx.X (.of_news s₁.N h₁ h₂) ok.hg ok.hf ok.ht hl ?_
    exact callWith_K0 (cx.X.keeps s₁.F.keep) ok.hk (wpAny_call (hc _ _ s₁ fun v n' r' s' p s₂ => k v n' r' s' p s₂))
theorem EX.meth {o : Expr} {apos : Pos} {P : Value → Ledger → Rs → Prop} {PA : List Value → Prop} {ea : Expr} {args : List Expr} (cx : Cx g f) (ok : MethOK g.K C attr fa) (ho : PE g f A vs news r o (· = .ref xa)) (h₁ : (xa, instS C dx sl) ∈ news) (h₂ : (dx, dictOf es n) ∈ news) (hl : getL attr es = some none)
    (ha : AR g f A vs news r (ea :: args) PA) (hc : ∀ l, PA l → CL g f A vs news r fa (.ref xa :: l) P) (he : MShape o attr apos (ea :: args) pos f.env := by exact ⟨_, rfl⟩)
    (he' : starEach (ea :: args) f.env = (false, eval ea f.env) :: starEach args f.env := by rfl) (hplain : (backTo pos (starEach args f.env)).any (·.1) = false := by rfl) : EX g f A vs news r (.Call (.Attribute o attr apos) (ea :: args) [] pos) P :=
  fun _ _ _ hs k => by
    obtain ⟨pl, he⟩ := he
    refine MethodCall_ (pl := pl) (ho _ _ _ hs fun _ _ q s₁ => ?_) he
    subst q
    refine method_inst s₁.F cx.X (.of_news s₁.N h₁ h₂) ok.hg ok.hf ok.ht hl ?_
    exact callWith_K cx.X ok.hk (ha _ _ _ _ s₁ fun l s' p s₂ => ⟨cx.X.keeps s₂.F.keep, wpAny_call (hc l p _ _ s₂ fun v n' r' s' p s₃ => k v n' r' s' p s₃)⟩) he' hplain
theorem PE.of (h : EX g f A vs news r e (still news r P)) : PE g f A vs news r e P :=
  fun _ _ _ hs k => h _ _ _ hs fun v _ _ s' ⟨p, e1, e2⟩ s₁ => by subst e1 e2; exact k v s' p s₁

/-- self[i] by an own __getitem__ -/
theorem PE.subOwn {o ix : Expr} {PI : Value → Prop} (cx : Cx g f) (ok : MethOK g.K C "__getitem__" fa) (ho : PE g f A vs news r o (· = .ref xa)) (hi : PE g f A vs news r ix PI) (h₁ : (xa, instS C dx sl) ∈ news) (h₂ : (dx, od) ∈ news)
    (hc : ∀ v, PI v → CL g f A.in1 vs news r fa [.ref xa, v] (still news r P))
    (hsub : ∀ v, subscripted ix true (.ref xa) v = runValue (.builtin "lifetime.subscript" ⟨[.ref xa, v], []⟩) := by intro; rfl) : PE g f A vs news r (.Subscript o ix pos) P :=
  fun _ _ _ hs k => Subscript_ (ho _ _ _ hs fun _ _ q s₁ => hi _ _ _ s₁ fun iv _ p s₂ => by
    subst q
    exact sub_K s₂.F cx.X (.of_news s₂.N h₁ h₂) ok.hf ok.fn ok.ht (wpAny_call (hc iv p _ _ s₂ fun v n' r' s' ⟨p, e1, e2⟩ s₃ => by subst e1 e2; exact k v s' p s₃)) (hsub iv))

/-- an item of a list -/
theorem PE.item {o ix : Expr} {la : Addr} {its : Array Value} {ep : Nat} (ho : PE g f A vs news r o (· = .ref la)) (hi : PE g f A vs news r ix (isI a)) (h₁ : (la, listOf its ep) ∈ news) (h0 : 0 ≤ a) (hlt : a < 2 ^ 63) (hx : its[a.toNat]? = some v) (hp : P v)
    (hsub : ∀ t, subscripted ix false (.ref la) (.int a t) = operate [.ref la, .int a t] (getItem (.ref la) (.int a t)) := by intro; rfl) : PE g f A vs news r (.Subscript o ix pos) P :=
  fun _ _ _ hs k => Subscript_ (ho _ _ _ hs fun _ _ q s₁ => hi _ _ _ s₁ fun iv _ ⟨t, p⟩ s₂ => by
    subst q p
    have hL : Heap.IsList _ la its := ⟨_, s₂.N.get h₁, rfl, ep, rfl⟩
    exact tail_any hL.typeIs slot_list_getitem.lookup (wpAny_getItem_list hL h0 hlt hx (k _ _ hp s₂)) (hsub t))
end
end Mine
end

section
set_option maxRecDepth 100000
open PySem PySem.W PyProof.Rows PySem.Calls
namespace Mine
section
variable {g : Gl} {f : Fm} {A : Around} {vs : List (Option Value)} {news : Ledger} {r : Rs} {s : Shared}
variable {P : Value → Prop} {e l r₁ r₂ e₁ e₂ : Expr} {pos : Pos} {a b : Int} {x : Str} {i : Nat} {v : Value} {b₁ b₂ : Bool}

theorem Rm.less {d d' : Nat} (h : Rm f A d) (hd : d' ≤ d) : Rm f A d' := ⟨h.fr, by have := h.dep; omega, by have := h.uni; omega, h.hd⟩
theorem Rm.less1 {d : Nat} (h : Rm f A (d + 1)) : Rm f A d := h.less (Nat.le_succ d)
theorem Rm.in1 {d : Nat} (h : Rm f A (d + 1)) : Rm f A.in1 d := ⟨h.fr, by have := h.dep; show A.depth + _ < _; omega, by have := h.uni; show A.units + 1 + _ < _; omega, h.hd⟩
theorem Rm.room {d : Nat} (h : Rm f A d) : A.depth < recursionLimit := by have := h.dep; show A.depth < 1000; omega
theorem Rm.units {d : Nat} (h : Rm f A d) : A.units < cLine := by have := h.uni; show A.units < 9900; omega

/-- the end of a body -/
def Ends (f : Fm) (P : Value → Ledger → Rs → Prop) (fl : Flow) (s : Shared) : Prop :=
  ∃ vs' news' r', P (match fl with | .ret v => v | _ => .none) news' r' ∧ St f vs' news' r' s

/-- the names of a def: its parameters and its other locals -/
def allLocal (scope : Scope) (l : List Str) : Bool := l.all fun x => decide (scope.names.lookup x = some .local)
theorem allLocal_of {scope : Scope} {l : List Str} (h : allLocal scope l = true) {i : Nat} {x : Str} (hx : l[i]? = some x) : scope.names.lookup x = some .local :=
  of_decide_eq_true (List.all_eq_true.mp h x (List.mem_of_getElem? hx))

structure Body (g : Gl) (f' : Fm) (A' : Around) (d : Nat) (scope : Scope) (names : List Str) (qual : Str) (fa : Addr) (cdv : Value) : Prop where
  cx : Cx g f'
  rm : Rm f' A' d
  ns : f'.ns = names
  kind : ∀ x k, scope.names.lookup x = some k → f'.env.kindOf x = some k
  env : f'.env = envX qual scope f'.L fa cdv []
  A : A' = f'.A₀.deeper f'.env

theorem CL.enterB {name qual : Str} {params : Arguments} {body : List Stmt} {scope : Scope} {dV kV doc pm cdv ct oc : Value} {an od : Option Addr} {osl : Array (Option Value)} {fa : Addr} {args : List Value} {d : Nat} {binds : List (Str × Value)}
    {P : Value → Ledger → Rs → Prop} (cx : Cx g f) (rm : Rm f A (d + 1)) (ps ns : List Str) (vals : List Value)
    (ho : g.K.lookup fa = some ⟨oc, od, .func (fnX name qual params body scope [] dV kV doc pm an cdv ct), osl⟩) (hcd : codeIn g.K cdv qual = true)
    (hb : ∀ s : Shared, g.K.In s.heap → BindsTo s (fnX name qual params body scope [] dV kV doc pm an cdv ct) ⟨args, []⟩ binds) (hbv : binds = ps.zip vals)
    (hl : ps.length = vals.length) (hnd : (ps ++ ns).Nodup) (hloc : allLocal scope (ps ++ ns) = true)
    (hcell : ∀ x ∈ scope.names, x.2 ≠ .cell) (hco : scope.isCoroutine = false) (hgen : scope.isGenerator = false) (hk : scope.kind = .function)
    (h : ∀ (f' : Fm) (A' : Around) (s' : Shared), Body g f' A' d scope (ps ++ ns) qual fa cdv → St f' (vals.map some ++ List.replicate ns.length none) news r s' →
      wpAny g.M A' (execs body f'.env) (Ends f' P) (fun _ _ => False) s') :
    CL g f A vs news r fa args P := by
  intro R s hs k
  subst hbv
  refine callX_plain cx.B hs.F hs.N cx.T.nolimit rm.fr cx.fr cx.hk ((cx.X.keeps hs.F.keep) _ _ ho) rfl (codeRec_of (cx.X.keeps hs.F.keep) hcd) rm.room (hb s (cx.X.keeps hs.F.keep)) ?_ ?_ hcell hco hgen hk
  · intro y hy
    have : y.1 ∈ ps ++ ns := List.mem_append_left _ (List.of_mem_zip (show (y.1, y.2) ∈ ps.zip vals from hy)).1
    exact of_decide_eq_true (List.all_eq_true.mp hloc y.1 this)
  · intro g' L' h₁ FG F' N' B' st _
    have hst : St ⟨A, f.base, f.env :: f.outer, g', L', envX qual scope L' fa cdv [], ps ++ ns⟩ (vals.map some ++ List.replicate ns.length none) news r
        { s with heap := h₁, toks := s.toks + (ps.zip vals).length } := by
      refine ⟨?_, N', hs.nd, hs.gens, hs.drawn, hs.os⟩
      have := lm_start hnd hl
      show Fr g' L' h₁ (lm (ps ++ ns) _)
      rw [← this]; exact F'
    have cx' : Cx g ⟨A, f.base, f.env :: f.outer, g', L', envX qual scope L' fa cdv [], ps ++ ns⟩ :=
      ⟨B', cx.X.keeps st, cx.T.keeps st, rfl, rfl, rfl, rfl, hk, hnd, fun i x hx => allLocal_of hloc hx⟩
    have rm' : Rm ⟨A, f.base, f.env :: f.outer, g', L', envX qual scope L' fa cdv [], ps ++ ns⟩ (A.deeper (envX qual scope L' fa cdv [])) d :=
      ⟨Around.frames_deeper rm.fr, by have := rm.dep; show A.depth + 1 + _ < _; omega, by have := rm.uni; show A.units + 3 + _ < _; omega, rm.hd⟩
    refine wpAny_mono (h _ _ _ ⟨cx', rm', rfl, fun x k hx => hx, rfl, rfl⟩ hst) (fun fl s' hE => ?_) (fun _ _ z => z.elim)
    obtain ⟨vs', news', r', hp, hs'⟩ := hE
    refine ⟨L', _, news', hs'.F, hs'.N, fun F'' N'' => ?_⟩
    exact k _ news' r' s' hp ⟨F'', N'', hs'.nd, hs'.gens, hs'.drawn, hs'.os⟩
def defOK (scope : Scope) (ps ns : List Str) : Bool :=
  decide (ps ++ ns).Nodup && allLocal scope (ps ++ ns) && (scope.names.all fun x => x.2 != .cell) && !scope.isCoroutine && !scope.isGenerator && decide (scope.kind = .function)
theorem CL.enterD {name qual : Str} {params : Arguments} {body : List Stmt} {scope : Scope} {dV kV doc pm cdv ct oc : Value} {an od : Option Addr} {osl : Array (Option Value)} {fa : Addr} {args : List Value} {d : Nat} {binds : List (Str × Value)}
    {P : Value → Ledger → Rs → Prop} (cx : Cx g f) (rm : Rm f A (d + 1)) (ps ns : List Str) (vals : List Value)
    (ho : g.K.lookup fa = some ⟨oc, od, .func (fnX name qual params body scope [] dV kV doc pm an cdv ct), osl⟩) (hcd : codeIn g.K cdv qual = true)
    (hb : ∀ s : Shared, g.K.In s.heap → BindsTo s (fnX name qual params body scope [] dV kV doc pm an cdv ct) ⟨args, []⟩ binds) (hbv : binds = ps.zip vals) (hl : ps.length = vals.length) (hok : defOK scope ps ns = true)
    (h : ∀ (f' : Fm) (A' : Around) (s' : Shared), Body g f' A' d scope (ps ++ ns) qual fa cdv → St f' (vals.map some ++ List.replicate ns.length none) news r s' →
      wpAny g.M A' (execs body f'.env) (Ends f' P) (fun _ _ => False) s') :
    CL g f A vs news r fa args P := by
  simp only [defOK, Bool.and_eq_true, beq_iff_eq, decide_eq_true_eq, Bool.not_eq_true', List.all_eq_true, bne_iff_ne, ne_eq] at hok
  obtain ⟨⟨⟨⟨⟨h2, h3⟩, h4⟩, h5⟩, h6⟩, h7⟩ := hok
  exact CL.enterB cx rm ps ns vals ho hcd hb hbv hl h2 h3 (fun x hx => h4 x hx) h5 h6 h7 h
theorem CL.enter {name qual : Str} {params : Arguments} {body : List Stmt} {scope : Scope} {dV kV doc pm cdv ct oc : Value} {an od : Option Addr} {osl : Array (Option Value)} {fa : Addr} {args : List Value} {d : Nat}
    {P : Value → Ledger → Rs → Prop} (cx : Cx g f) (rm : Rm f A (d + 1)) (ps ns : List Str)
    (ho : g.K.lookup fa = some ⟨oc, od, .func (fnX name qual params body scope [] dV kV doc pm an cdv ct), osl⟩) (hcd : codeIn g.K cdv qual = true)
    (hb : bindArgs (fnX name qual params body scope [] dV kV doc pm an cdv ct) ⟨args, []⟩ = pure (ps.zip args)) (hl : ps.length = args.length) (hok : defOK scope ps ns = true)
    (h : ∀ (f' : Fm) (A' : Around) (s' : Shared), Body g f' A' d scope (ps ++ ns) qual fa cdv → St f' (args.map some ++ List.replicate ns.length none) news r s' →
      wpAny g.M A' (execs body f'.env) (Ends f' P) (fun _ _ => False) s') :
    CL g f A vs news r fa args P := CL.enterD cx rm ps ns args ho hcd (fun _ _ => BindsTo.of_eq hb) rfl hl hok h

variable {Q : Flow → Shared → Prop} {E : Value → Shared → Prop} {rest : List Stmt}

theorem Body.at {d : Nat} {scope : Scope} {names : List Str} {f' : Fm} {A' : Around} {qual : Str} {fa : Addr} {cdv : Value} (B : Body g f' A' d scope names qual fa cdv) {i : Nat} {x : Str} (h : names[i]? = some x) : f'.ns[i]? = some x := by rw [B.ns]; exact h
theorem Body.glob {d : Nat} {scope : Scope} {names : List Str} {f' : Fm} {A' : Around} {qual : Str} {fa : Addr} {cdv : Value} (B : Body g f' A' d scope names qual fa cdv) {x : Str} (h : scope.names.lookup x = some .globalImplicit) : f'.env.kindOf x = some .globalImplicit := B.kind x _ h

theorem X.nil (hs : St f vs news r s) (h : Q .next s) : wpAny g.M A (execs [] f.env) Q E s := wpAny_execs_nil h
theorem X.ret {P : Value → Ledger → Rs → Prop} (hs : St f vs news r s) (h : EX g f A vs news r e P) (k : ∀ v news' r' s', P v news' r' → St f vs news' r' s' → Q (.ret v) s') : wpAny g.M A (execs (.Return (some e) pos :: rest) f.env) Q E s :=
  wpAny_execs_cons (wpAny_Return_some (h _ _ _ hs fun v n' r' s' p s₁ => k v n' r' s' p s₁))
theorem X.retP (hs : St f vs news r s) (h : PE g f A vs news r e P) (k : ∀ v s', P v → St f vs news r s' → Q (.ret v) s') : wpAny g.M A (execs (.Return (some e) pos :: rest) f.env) Q E s :=
  wpAny_execs_cons (wpAny_Return_some (h _ _ _ hs fun v s' p s₁ => k v s' p s₁))
theorem X.fin (hs : St f vs news r s) (h : PE g f A vs news r e P) : wpAny g.M A (execs (.Return (some e) pos :: rest) f.env) (Ends f (still news r P)) E s :=
  X.retP hs h fun _ _ p hs' => ⟨_, _, _, ⟨p, rfl, rfl⟩, hs'⟩
theorem X.ret0 (hs : St f vs news r s) (k : Q (.ret .none) s) : wpAny g.M A (execs (.Return none pos :: rest) f.env) Q E s :=
  wpAny_execs_cons (wpAny_Return_none k)
theorem X.brk (hs : St f vs news r s) (k : Q .brk s) : wpAny g.M A (execs (.Break pos :: rest) f.env) Q E s := wpAny_execs_cons (wpAny_Break k)
theorem X.cont (hs : St f vs news r s) (k : Q .cont s) : wpAny g.M A (execs (.Continue pos :: rest) f.env) Q E s := wpAny_execs_cons (wpAny_Continue k)
/-- the last statement's flow handed on -/
def Then (g : Gl) (f : Fm) (A : Around) (rest : List Stmt) (Q : Flow → Shared → Prop) (E : Value → Shared → Prop) (fl : Flow) (s : Shared) : Prop :=
  match fl with | .next => wpAny g.M A (execs rest f.env) Q E s | fl => Q fl s
theorem X.if {test : Expr} {body orelse : List Stmt} (hs : St f vs news r s) (ht : PT g f A vs news r test b₁)
    (h₁ : b₁ = true → ∀ s', St f vs news r s' → wpAny g.M A (execs body f.env) (Then g f A rest Q E) E s')
    (h₂ : b₁ = false → ∀ s', St f vs news r s' → wpAny g.M A (execs orelse f.env) (Then g f A rest Q E) E s') :
    wpAny g.M A (execs (.If test body orelse pos :: rest) f.env) Q E s :=
  wpAny_execs_cons (wpAny_If (ht _ _ _ _ rfl hs fun s₁ hs₁ => by
    cases b₁ with
    | true => exact h₁ rfl s₁ hs₁
    | false => exact h₂ rfl s₁ hs₁))
/-- an if whose test is false and that has no else -/
theorem X.ifF {test : Expr} {body : List Stmt} (hs : St f vs news r s) (ht : PT g f A vs news r test false)
    (h₂ : ∀ s', St f vs news r s' → wpAny g.M A (execs rest f.env) Q E s') :
    wpAny g.M A (execs (.If test body [] pos :: rest) f.env) Q E s :=
  X.if hs ht (fun q => nomatch q) fun _ s' hs' => X.nil (g := g) hs' (h₂ s' hs')
theorem X.assignV {value : Expr} {p' : Pos} {P : Value → Ledger → Rs → Prop} {u : Option Value} (cx : Cx g f) (hs : St f vs news r s) (hn : f.ns[i]? = some x) (hv : vs[i]? = some u) (h : EX g f A vs news r value P)
    (k : ∀ v news' r' s', P v news' r' → St f (vs.set i (some v)) news' r' s' → wpAny g.M A (execs rest f.env) Q E s')
    (hsw : swapsWith value (some (.Name x p')) pos.line f.env = pure false := by rfl) : wpAny g.M A (execs (.Assign [.Name x p'] value pos :: rest) f.env) Q E s :=
  wpAny_execs_cons (wpAny_Assign_Name (h _ _ _ hs fun v n' r' s₁ p hs₁ => wpAny_storeName_local (cx.kin i x hn) (hs₁.ns cx) (fun h' hn' hsb => by
    refine k v n' r' _ p ⟨?_, ?_, hs₁.nd, hs₁.gens, hs₁.drawn, hs₁.os⟩
    · have hi : i < vs.length := by
        rcases Nat.lt_or_ge i vs.length with q | q
        · exact q
        · rw [List.getElem?_eq_none q] at hv; cases hv
      rw [lm_set cx.nd hn hi] at hn'
      rw [cx.loc] at hn' hsb
      exact hs₁.F.set hn' hsb
    · rw [cx.loc] at hsb
      exact hs₁.N.set hsb)
    (by rw [cx.hk]; rfl)) hsw)
theorem X.assign {value : Expr} {p' : Pos} {u : Option Value} (cx : Cx g f) (hs : St f vs news r s) (hn : f.ns[i]? = some x) (hv : vs[i]? = some u) (h : PE g f A vs news r value P)
    (k : ∀ v s', P v → St f (vs.set i (some v)) news r s' → wpAny g.M A (execs rest f.env) Q E s')
    (hsw : swapsWith value (some (.Name x p')) pos.line f.env = pure false := by rfl) : wpAny g.M A (execs (.Assign [.Name x p'] value pos :: rest) f.env) Q E s :=
  X.assignV cx hs hn hv h.ex (fun v n' r' s' ⟨p, e1, e2⟩ hs' => by subst e1 e2; exact k v s' p hs') hsw
theorem interactive_no (cx : Cx g f) : interactive f.env = false := by unfold interactive; rw [cx.hk]; rfl
theorem X.expr {value : Expr} {P : Value → Ledger → Rs → Prop} (cx : Cx g f) (hs : St f vs news r s) (h : EX g f A vs news r value P) (hP : ∀ v n' r', P v n' r' → ∀ a, v ≠ .ref a)
    (k : ∀ v news' r' s', P v news' r' → St f vs news' r' s' → wpAny g.M A (execs rest f.env) Q E s')
    (hsw : swapsWith value none pos.line f.env = pure false := by rfl) : wpAny g.M A (execs (.Expr value pos :: rest) f.env) Q E s :=
  wpAny_execs_cons (wpAny_Expr (h _ _ _ hs fun v n' r' s₁ p hs₁ => by
    have := hP v n' r' p
    have z := k v n' r' s₁ p hs₁
    cases v <;> first | exact z | exact absurd rfl (this _)) (interactive_no cx) hsw)
end
end Mine
end

section
/-! What the program's quotient filter computes, as plain functions (none: the code would raise or not end). -/
namespace Mine

structure QS where
  q : Nat
  n : Nat
  added : Nat
  auto : Bool
  hf : Nat
  occ : Nat → Bool
  con : Nat → Bool
  shf : Nat → Bool
  fil : Nat → Nat

def upd {α : Type} (b : Nat → α) (i : Nat) (v : α) (k : Nat) : α := if k = i then v else b k
theorem upd_self {α : Type} (b : Nat → α) (i : Nat) (v : α) : upd b i v i = v := if_pos rfl
theorem upd_ne {α : Type} (b : Nat → α) {i k : Nat} (v : α) (h : k ≠ i) : upd b i v k = b k := if_neg h

namespace QS
def setOcc (S : QS) (i : Nat) (v : Bool) : QS := { S with occ := upd S.occ i v }
def setCon (S : QS) (i : Nat) (v : Bool) : QS := { S with con := upd S.con i v }
def setShf (S : QS) (i : Nat) (v : Bool) : QS := { S with shf := upd S.shf i v }
def setFil (S : QS) (i : Nat) (v : Nat) : QS := { S with fil := upd S.fil i v }

def emp (S : QS) (i : Nat) : Bool := !(S.occ i || S.con i || S.shf i)
def cst (S : QS) (i : Nat) : Bool := S.occ i && (!S.con i && !S.shf i)
def rst (S : QS) (i : Nat) : Bool := !S.con i && (S.occ i || S.shf i)
def rcs (S : QS) (i : Nat) : Bool := S.cst i || S.rst i
def nx (S : QS) (i : Nat) : Nat := (i + 1) % S.n
def pv (S : QS) (i : Nat) : Nat := (i + S.n - 1) % S.n
def fuel (S : QS) : Nat := 4 * S.n + 10

def gsBack (S : QS) (quot : Nat) : Nat → Nat → Nat → Option (Nat × Nat)
  | 0, _, _ => none
  | k + 1, j, c =>
    let c' := if j == quot || S.occ j then c + 1 else c
    if S.shf j then gsBack S quot k (S.pv j) c' else some (j, c')

def gsFwd (S : QS) : Nat → Nat → Nat → Option Nat
  | 0, _, _ => none
  | k + 1, j, c =>
    if !S.con j then
      if c == 1 then some j else if c == 0 then none else gsFwd S k (S.nx j) (c - 1)
    else gsFwd S k (S.nx j) c

def getStart (S : QS) (quot : Nat) : Option Nat :=
  if S.emp quot then some quot else (gsBack S quot S.fuel quot 0).bind fun jc => gsFwd S S.fuel jc.1 jc.2

def cLoop (S : QS) (r : Nat) : Nat → Nat → Nat → Option (Option Nat)
  | 0, _, _ => none
  | k + 1, i, st =>
    if S.emp i then some none
    else
      let st' := if !S.con i then st + 1 else st
      if st' == 2 || decide (r < S.fil i) then some none
      else if S.fil i == r then some (some i)
      else cLoop S r k (S.nx i) st'

def contained (S : QS) (q r : Nat) : Option (Option Nat) :=
  if !S.occ q then some none else (S.getStart q).bind fun s => cLoop S r S.fuel s 0

/-- the marks of a freshly placed element -/
def place (S : QS) (q r orig ins : Nat) : QS := (((S.setFil ins r).setOcc q true).setCon ins (ins != orig)).setShf ins (ins != q)

def siStep (S : QS) (ins j : Nat) : QS :=
  let S1 := S.setCon j (S.con ins)
  let S2 := S1.setCon ins (S.con j)
  let S3 := S2.setShf j true
  let S4 := S3.setFil j (S3.fil ins)
  S4.setFil ins (S3.fil j)
def siLoop (ins : Nat) : Nat → QS → Nat → Option QS
  | 0, _, _ => none
  | k + 1, S, j =>
    if S.emp j then some (S.siStep ins j) else siLoop ins k (S.siStep ins j) (S.nx j)

def shiftInsert (S : QS) (q r orig ins : Nat) (flag : Bool) : Option QS :=
  if S.emp ins then some (S.place q r orig ins)
  else (siLoop ins S.fuel S (S.nx ins)).map fun T =>
    let U := T.place q r orig ins
    if flag then U.setCon (S.nx ins) true else U

def aLoop (S : QS) (r : Nat) : Nat → Nat → Nat → Option (Nat × Nat)
  | 0, _, _ => none
  | k + 1, i, st =>
    if st == 0 && !S.emp i && decide (S.fil i < r) then
      let j := S.nx i
      aLoop S r k j (if !S.con j then st + 1 else st)
    else some (i, st)

def addAt (S : QS) (q r : Nat) : Option QS :=
  if S.emp q then some ((S.setFil q r).setOcc q true)
  else (S.getStart q).bind fun s =>
    if !S.occ q then S.shiftInsert q r s s false
    else (aLoop S r S.fuel s 0).bind fun ist =>
      if ist.2 == 1 then S.shiftInsert q r s ist.1 false else S.shiftInsert q r s ist.1 true

/-- _add, where it does not raise -/
def add_ (S : QS) (q r : Nat) : Option QS := if S.n == S.added then none else (S.addAt q r).map fun T => { T with added := T.added + 1 }

def fcLoop (S : QS) : Nat → Nat → Option Nat
  | 0, _ => none
  | k + 1, i => if S.cst i then some i else fcLoop S k (S.pv i)

def firstMove (S : QS) (i j : Nat) : QS × Nat × Nat :=
  if S.rcs i && S.con j then
    (((S.setFil i (S.fil j)).setCon i false).setShf i (S.shf j), j, S.nx j)
  else (S, i, j)

def seStep (S : QS) (i j : Nat) : QS := ((S.setFil i (S.fil j)).setCon i (S.con j)).setShf i (S.shf j)
def seLoop : Nat → QS → Nat → Nat → Option (QS × Nat × Nat)
  | 0, _, _, _ => none
  | k + 1, S, i, j => if !S.cst j && !S.emp j then seLoop k (S.seStep i j) j (S.nx j) else some (S, i, j)

def clearLast (S : QS) (i : Nat) : QS := (((S.setFil i 0).setCon i false).setShf i false).setOcc i false

def fxStep (S : QS) (i : Nat) : QS := ((S.setCon i false).setShf i false).setOcc i true
def fxLoop (stop : Nat) : Nat → QS → Nat → Option Nat → List Nat → Option QS
  | 0, _, _, _, _ => none
  | k + 1, S, i, cur, queue =>
    if i == stop then some S
    else
      let queue₁ := if S.occ i then queue ++ [i] else queue
      if S.rst i then
        match queue₁ with
        | [] => none
        | c :: queue₂ => if c == i then fxLoop stop k (S.fxStep i) (S.nx i) (some c) queue₂ else fxLoop stop k S (S.nx i) (some c) queue₂
      else if cur == some i then fxLoop stop k (S.fxStep i) (S.nx i) cur queue₁ else fxLoop stop k S (S.nx i) cur queue₁

def remClear (S : QS) (i q : Nat) (orig : Bool) : QS :=
  let T := (((S.setFil i 0).setOcc i false).setCon i false).setShf i false
  if orig then T.setOcc q false else T

def remove_ (S : QS) (q r : Nat) : Option QS :=
  (S.contained q r).bind fun
    | none => some S
    | some i =>
      let j := S.nx i
      let orig := S.rcs i && !S.con j
      if S.emp j || S.cst j then some (S.remClear i q orig)
      else (fcLoop S S.fuel i).bind fun m =>
        let (S₁, i₁, j₁) := S.firstMove i j
        (seLoop S.fuel S₁ i₁ j₁).bind fun
          | (S₂, i₂, j₂) =>
            let S₃ := S₂.clearLast i₂
            let S₄ := if orig then S₃.setOcc q false else S₃
            fxLoop j₂ S.fuel S₄ m none []

def quot (S : QS) (h : Nat) : Nat := h / 2 ^ (32 - S.q)
def rmd (S : QS) (h : Nat) : Nat := h % 2 ^ (32 - S.q)
def checkAlt (S : QS) (h : Nat) : Option Bool := (S.contained (S.quot h) (S.rmd h)).map (·.isSome)
def removeAlt (S : QS) (h : Nat) : Option QS := S.remove_ (S.quot h) (S.rmd h)

def firstEmp (S : QS) : Nat → Nat → Option Nat
  | 0, _ => none
  | k + 1, i => if S.n ≤ i then none else if S.emp i then some i else firstEmp S k (i + 1)

/-- the hashes told from place i on, k of them left to look at -/
def hLoop (S : QS) : Nat → Nat → Nat → List Nat → Option (List Nat)
  | 0, _, _, _ => some []
  | k + 1, i, cur, queue =>
    let x := i % S.n
    if S.emp x then (if queue.isEmpty then hLoop S k (i + 1) cur queue else none)
    else
      let queue₁ := if S.occ x then queue ++ [x] else queue
      if S.rst x then
        match queue₁ with
        | [] => none
        | c :: queue₂ => (hLoop S k (i + 1) c queue₂).map ((c * 2 ^ (32 - S.q) + S.fil x) :: ·)
      else (hLoop S k (i + 1) cur queue₁).map ((cur * 2 ^ (32 - S.q) + S.fil x) :: ·)
def hashes (S : QS) : Option (List Nat) := (firstEmp S (S.n + 1) 0).bind fun s => hLoop S S.n s 0 []

def fresh (q : Nat) (auto : Bool) (hf : Nat) : QS :=
  { q, n := 2 ^ q, added := 0, auto, hf, occ := fun _ => false, con := fun _ => false, shf := fun _ => false, fil := fun _ => 0 }

def addHere (S : QS) (h : Nat) : Option QS :=
  if 2 ^ 32 ≤ h then none else (S.contained (S.quot h) (S.rmd h)).bind fun
    | none => S.add_ (S.quot h) (S.rmd h)
    | some _ => some S
def foldQ (f : QS → Nat → Option QS) : List Nat → QS → Option QS
  | [], S => some S
  | h :: l, S => (f S h).bind (foldQ f l)
def grows (S : QS) : Bool := S.auto && decide (85 * S.n ≤ 100 * S.added)
mutual
/-- add_alt, d deep -/
def addAlt : Nat → QS → Nat → Option QS
  | 0, _, _ => none
  | d + 1, S, h => if S.grows then (resize d S (S.q + 1)).bind fun T => T.addHere h else S.addHere h
/-- resize, where it does not raise -/
def resize : Nat → QS → Nat → Option QS
  | 0, _, _ => none
  | d + 1, S, q => if 2 ^ q ≤ S.added || q < 3 || 10 < q then none else S.hashes.bind fun l => foldQ (addAlt d) l (fresh q S.auto S.hf)
end
def merge (d : Nat) (S T : QS) : Option QS := T.hashes.bind fun l => foldQ (addAlt d) l S
end QS
end Mine
namespace Mine
namespace QS
theorem gsFwd_lt {S : QS} (hn : 0 < S.n) : ∀ {k j c r : Nat}, S.gsFwd k j c = some r → j < S.n → r < S.n
  | 0, _, _, _, h, _ => by cases h
  | k + 1, j, c, r, h, hj => by
    simp only [gsFwd] at h
    split at h
    · split at h
      · cases h; exact hj
      · split at h
        · cases h
        · exact gsFwd_lt hn h (Nat.mod_lt _ hn)
    · exact gsFwd_lt hn h (Nat.mod_lt _ hn)
theorem gsBack_lt {S : QS} (hn : 0 < S.n) {q : Nat} : ∀ {k j c : Nat} {r : Nat × Nat}, S.gsBack q k j c = some r → j < S.n → r.1 < S.n
  | 0, _, _, _, h, _ => by cases h
  | k + 1, j, c, r, h, hj => by
    simp only [gsBack] at h
    split at h
    · exact gsBack_lt hn h (Nat.mod_lt _ hn)
    · cases h; exact hj
theorem getStart_lt {S : QS} {q r : Nat} (h : S.getStart q = some r) (hq : q < S.n) (hn : 0 < S.n) : r < S.n := by
  unfold getStart at h
  split at h
  · cases h; exact hq
  · obtain ⟨jc, h1, h2⟩ := Option.bind_eq_some_iff.mp h
    exact gsFwd_lt hn h2 (gsBack_lt hn h1 hq)
end QS
end Mine
end

section
set_option maxRecDepth 100000
open PySem PySem.W PyProof.Rows PySem.Calls
namespace Mine
/-- byte j of the bits -/
def ByteAt (bits : Nat → Bool) (j : Nat) (B : Nat) : Prop := B < 256 ∧ ∀ k, k < 8 → B.testBit k = bits (8 * j + k)
/-- the ints of a bit array of n bits (n a multiple of 8) -/
def Bytes (n : Nat) (bits : Nat → Bool) (its : Array Value) : Prop :=
  its.size = n / 8 ∧ ∀ j, j < n / 8 → ∃ B t, its[j]? = some (.int (B : Nat) t) ∧ ByteAt bits j B

theorem testBit_le {B k : Nat} (h : B < 256) (hk : 8 ≤ k) : B.testBit k = false := by
  apply Nat.testBit_lt_two_pow
  calc B < 2 ^ 8 := h
    _ ≤ 2 ^ k := Nat.pow_le_pow_right (by decide) hk
theorem byte_get {B k : Nat} : ((Builtin.bitAnd (B : Nat) (1 * 2 ^ k)) == 0) = !B.testBit k := by
  rw [Int.one_mul, kbt_bit]
  have h2 : ((2 : Int) ^ k) = ((2 ^ k : Nat) : Int) := by simp
  have h3 : ((B : Int) / 2 ^ k % 2) = ((B / 2 ^ k % 2 : Nat) : Int) := by rw [h2]; simp
  rw [h3, h2, ← Int.natCast_mul]
  have hp : 0 < 2 ^ k := Nat.two_pow_pos k
  rw [Nat.testBit_eq_decide_div_mod_eq]
  have hm : B / 2 ^ k % 2 = 0 ∨ B / 2 ^ k % 2 = 1 := by omega
  rcases hm with h | h <;> rw [h]
  · simp
  · generalize 2 ^ k = z at hp
    have : (((1 * z : Nat) : Int) == 0) = false := by rw [beq_eq_false_iff_ne]; omega
    rw [this]; rfl
theorem byte_or {B k : Nat} (_h : B < 256) (_hk : k < 8) : Builtin.bitOr (B : Nat) (1 * 2 ^ k) = ((B ||| 2 ^ k : Nat) : Int) := by
  rw [Int.one_mul, show ((2 : Int) ^ k) = ((2 ^ k : Nat) : Int) by simp]
  have e := nat_or_add_and B (2 ^ k)
  generalize 2 ^ k = z at e
  rw [bitOr_and, bitAnd_pp (by omega) (by omega)]
  simp only [Int.toNat_natCast]
  omega
theorem byte_clr_all : (List.range 256).all (fun B => (List.range 8).all fun k => (B - (B &&& 2 ^ k) < 256) && (List.range 8).all fun i => (B - (B &&& 2 ^ k)).testBit i == (B.testBit i && i != k)) = true := by decide +kernel
theorem byte_clr {B k : Nat} (h : B < 256) (hk : k < 8) : Builtin.bitAnd (B : Nat) (Builtin.bitNot (1 * 2 ^ k)) = ((B - (B &&& 2 ^ k) : Nat) : Int) ∧ B - (B &&& 2 ^ k) < 256 ∧
    ∀ i, i < 8 → (B - (B &&& 2 ^ k)).testBit i = (B.testBit i && i != k) := by
  have a := List.all_eq_true.mp byte_clr_all B (List.mem_range.mpr h)
  have b := List.all_eq_true.mp a k (List.mem_range.mpr hk)
  rw [Bool.and_eq_true] at b
  refine ⟨?_, of_decide_eq_true b.1, fun i hi => ?_⟩
  · rw [Int.one_mul, show ((2 : Int) ^ k) = ((2 ^ k : Nat) : Int) by simp]
    have hp : 0 < 2 ^ k := Nat.two_pow_pos k
    have hn : ¬ (0 : Int) ≤ Builtin.bitNot ((2 ^ k : Nat) : Int) := by show ¬ (0 : Int) ≤ -((2 ^ k : Nat) : Int) - 1; omega
    rw [bitAnd_pn (by omega) hn]
    have e : Builtin.bitNot (Builtin.bitNot ((2 ^ k : Nat) : Int)) = ((2 ^ k : Nat) : Int) := by show -(-((2 ^ k : Nat) : Int) - 1) - 1 = _; omega
    rw [e]
    simp only [Int.toNat_natCast]
    have : B &&& 2 ^ k ≤ B := Nat.and_le_left
    omega
  · have := List.all_eq_true.mp b.2 i (List.mem_range.mpr hi)
    exact beq_iff_eq.mp this
theorem ByteAt.set {bits : Nat → Bool} {i B : Nat} (h : ByteAt bits (i / 8) B) : ByteAt (upd bits i true) (i / 8) (B ||| 2 ^ (i % 8)) := by
  refine ⟨?_, fun k hk => ?_⟩
  · have : B ||| 2 ^ (i % 8) < 2 ^ 8 := Nat.or_lt_two_pow h.1 (Nat.pow_lt_pow_right (by decide) (by omega))
    exact this
  · rw [Nat.testBit_or, h.2 k hk, Nat.testBit_two_pow]
    by_cases e : i % 8 = k
    · have : 8 * (i / 8) + k = i := by omega
      rw [this, upd_self]; simp [e]
    · have : 8 * (i / 8) + k ≠ i := by omega
      rw [upd_ne _ _ this]; simp [e]
theorem ByteAt.clr {bits : Nat → Bool} {i B : Nat} (h : ByteAt bits (i / 8) B) : ByteAt (upd bits i false) (i / 8) (B - (B &&& 2 ^ (i % 8))) := by
  obtain ⟨_, h2, h3⟩ := byte_clr h.1 (show i % 8 < 8 by omega)
  refine ⟨h2, fun k hk => ?_⟩
  rw [h3 k hk, h.2 k hk]
  by_cases e : k = i % 8
  · have : 8 * (i / 8) + k = i := by omega
    rw [this, upd_self]; simp [e]
  · have : 8 * (i / 8) + k ≠ i := by omega
    rw [upd_ne _ _ this]; simp [e]
theorem ByteAt.other {bits : Nat → Bool} {i j B : Nat} {v : Bool} (h : ByteAt bits j B) (hj : j ≠ i / 8) : ByteAt (upd bits i v) j B :=
  ⟨h.1, fun k hk => by rw [h.2 k hk, upd_ne]; omega⟩
theorem Bytes.set {n : Nat} {bits : Nat → Bool} {its : Array Value} {i : Nat} {v : Bool} {B t : Nat} (h : Bytes n bits its) (hb : ByteAt (upd bits i v) (i / 8) B) :
    Bytes n (upd bits i v) (its.setIfInBounds (i / 8) (.int (B : Nat) t)) := by
  refine ⟨by rw [Array.size_setIfInBounds]; exact h.1, fun j hj => ?_⟩
  by_cases e : j = i / 8
  · subst e
    refine ⟨B, t, ?_, hb⟩
    rw [Array.getElem?_setIfInBounds_self_of_lt]
    rw [h.1]; exact hj
  · obtain ⟨B', t', h1, h2⟩ := h.2 j hj
    exact ⟨B', t', by rw [Array.getElem?_setIfInBounds_ne (Ne.symm e)]; exact h1, h2.other e⟩
theorem Bytes.congr {n : Nat} {b₁ b₂ : Nat → Bool} {its : Array Value} (h : Bytes n b₁ its) (e : ∀ k, k < n → b₁ k = b₂ k) (hn : 8 ∣ n) : Bytes n b₂ its := by
  refine ⟨h.1, fun j hj => ?_⟩
  obtain ⟨B', t', h1, h2⟩ := h.2 j hj
  exact ⟨B', t', h1, h2.1, fun k hk => by rw [h2.2 k hk, e]; omega⟩
theorem Bytes.zero {n : Nat} {k : Nat} (hk : k = n / 8) : Bytes n (fun _ => false) (Array.replicate k (.int 0 0)) := by
  subst hk
  refine ⟨by simp, fun j hj => ⟨0, 0, by simp [hj], by decide, fun k _ => by simp⟩⟩
end Mine
end

section
open PySem PySem.W PyProof.Rows
namespace Mine
set_option maxRecDepth 100000 in
set_option maxHeartbeats 8000000 in
open_top hd for PySem.Challenge.rw_sv0018_01
end Mine
end

section
set_option maxRecDepth 100000
open PySem PySem.W PyProof.Rows PySem.Calls
set_option maxHeartbeats 4000000
namespace Mine
theorem dummyFill : (hd.heap_39 = hd.heap_39) ∧ (PySem.Challenge.rw_sv0018_01 = PySem.Challenge.rw_sv0018_01) := by
  k_fill
  exact ⟨rfl, rfl⟩
abbrev IsK (g : Gl) : Prop := g.K = hd.heap_39 g.w.params
theorem IsK.look {g : Gl} {a : Addr} {o : Option Obj} (hK : IsK g) (h : (hd.heap_39 g.w.params).lookup a = o) : g.K.lookup a = o := hK ▸ h
theorem IsK.code {g : Gl} {c : Value} {q : Str} (hK : IsK g) (h : codeIn (hd.heap_39 g.w.params) c q = true) : codeIn g.K c q = true := hK ▸ h
section
variable {g : Gl} (hK : IsK g)
include hK
theorem KB.m__getitem__ : MethOK g.K 183 "__getitem__" 124 := by rw [hK]; exact ⟨by k_is, by k_is, by k_is, by k_is, by k_is⟩
theorem KB.m__setitem__ : MethOK g.K 183 "__setitem__" 131 := by rw [hK]; exact ⟨by k_is, by k_is, by k_is, by k_is, by k_is⟩
theorem KB.mcheck_bit : MethOK g.K 183 "check_bit" 138 := by rw [hK]; exact ⟨by k_is, by k_is, by k_is, by k_is, by k_is⟩
theorem KB.mclear_bit : MethOK g.K 183 "clear_bit" 159 := by rw [hK]; exact ⟨by k_is, by k_is, by k_is, by k_is, by k_is⟩
theorem KB.m__init__ : MethOK g.K 183 "__init__" 93 := by rw [hK]; exact ⟨by k_is, by k_is, by k_is, by k_is, by k_is⟩
theorem KQ.m__init__ : MethOK g.K 476 "__init__" 203 := by rw [hK]; exact ⟨by k_is, by k_is, by k_is, by k_is, by k_is⟩
theorem KQ.m_QuotientFilter__set_params : MethOK g.K 476 "_QuotientFilter__set_params" 210 := by rw [hK]; exact ⟨by k_is, by k_is, by k_is, by k_is, by k_is⟩
theorem KQ.m__contains__ : MethOK g.K 476 "__contains__" 217 := by rw [hK]; exact ⟨by k_is, by k_is, by k_is, by k_is, by k_is⟩
theorem KQ.madd : MethOK g.K 476 "add" 289 := by rw [hK]; exact ⟨by k_is, by k_is, by k_is, by k_is, by k_is⟩
theorem KQ.madd_alt : MethOK g.K 476 "add_alt" 296 := by rw [hK]; exact ⟨by k_is, by k_is, by k_is, by k_is, by k_is⟩
theorem KQ.mremove : MethOK g.K 476 "remove" 303 := by rw [hK]; exact ⟨by k_is, by k_is, by k_is, by k_is, by k_is⟩
theorem KQ.mremove_alt : MethOK g.K 476 "remove_alt" 310 := by rw [hK]; exact ⟨by k_is, by k_is, by k_is, by k_is, by k_is⟩
theorem KQ.mcheck : MethOK g.K 476 "check" 317 := by rw [hK]; exact ⟨by k_is, by k_is, by k_is, by k_is, by k_is⟩
theorem KQ.mcheck_alt : MethOK g.K 476 "check_alt" 324 := by rw [hK]; exact ⟨by k_is, by k_is, by k_is, by k_is, by k_is⟩
theorem KQ.mhashes : MethOK g.K 476 "hashes" 331 := by rw [hK]; exact ⟨by k_is, by k_is, by k_is, by k_is, by k_is⟩
theorem KQ.mget_hashes : MethOK g.K 476 "get_hashes" 338 := by rw [hK]; exact ⟨by k_is, by k_is, by k_is, by k_is, by k_is⟩
theorem KQ.mresize : MethOK g.K 476 "resize" 346 := by rw [hK]; exact ⟨by k_is, by k_is, by k_is, by k_is, by k_is⟩
theorem KQ.mmerge : MethOK g.K 476 "merge" 353 := by rw [hK]; exact ⟨by k_is, by k_is, by k_is, by k_is, by k_is⟩
theorem KQ.m_shift_insert : MethOK g.K 476 "_shift_insert" 360 := by rw [hK]; exact ⟨by k_is, by k_is, by k_is, by k_is, by k_is⟩
theorem KQ.m_get_start_index : MethOK g.K 476 "_get_start_index" 367 := by rw [hK]; exact ⟨by k_is, by k_is, by k_is, by k_is, by k_is⟩
theorem KQ.m_add : MethOK g.K 476 "_add" 374 := by rw [hK]; exact ⟨by k_is, by k_is, by k_is, by k_is, by k_is⟩
theorem KQ.m_remove_element : MethOK g.K 476 "_remove_element" 381 := by rw [hK]; exact ⟨by k_is, by k_is, by k_is, by k_is, by k_is⟩
theorem KQ.m_should_remove_orig_idx : MethOK g.K 476 "_should_remove_orig_idx" 388 := by rw [hK]; exact ⟨by k_is, by k_is, by k_is, by k_is, by k_is⟩
theorem KQ.m_remove_and_clear_bits : MethOK g.K 476 "_remove_and_clear_bits" 395 := by rw [hK]; exact ⟨by k_is, by k_is, by k_is, by k_is, by k_is⟩
theorem KQ.m_find_cluster_start : MethOK g.K 476 "_find_cluster_start" 402 := by rw [hK]; exact ⟨by k_is, by k_is, by k_is, by k_is, by k_is⟩
theorem KQ.m_handle_first_move : MethOK g.K 476 "_handle_first_move" 409 := by rw [hK]; exact ⟨by k_is, by k_is, by k_is, by k_is, by k_is⟩
theorem KQ.m_shift_elements : MethOK g.K 476 "_shift_elements" 416 := by rw [hK]; exact ⟨by k_is, by k_is, by k_is, by k_is, by k_is⟩
theorem KQ.m_clear_last_element : MethOK g.K 476 "_clear_last_element" 423 := by rw [hK]; exact ⟨by k_is, by k_is, by k_is, by k_is, by k_is⟩
theorem KQ.m_fixup_cluster : MethOK g.K 476 "_fixup_cluster" 430 := by rw [hK]; exact ⟨by k_is, by k_is, by k_is, by k_is, by k_is⟩
theorem KQ.m_contained_at_loc : MethOK g.K 476 "_contained_at_loc" 437 := by rw [hK]; exact ⟨by k_is, by k_is, by k_is, by k_is, by k_is⟩
theorem KQ.m_is_cluster_start : MethOK g.K 476 "_is_cluster_start" 444 := by rw [hK]; exact ⟨by k_is, by k_is, by k_is, by k_is, by k_is⟩
theorem KQ.m_is_run_start : MethOK g.K 476 "_is_run_start" 451 := by rw [hK]; exact ⟨by k_is, by k_is, by k_is, by k_is, by k_is⟩
theorem KQ.m_is_run_or_cluster_start : MethOK g.K 476 "_is_run_or_cluster_start" 458 := by rw [hK]; exact ⟨by k_is, by k_is, by k_is, by k_is, by k_is⟩
theorem KQ.m_is_empty_element : MethOK g.K 476 "_is_empty_element" 465 := by rw [hK]; exact ⟨by k_is, by k_is, by k_is, by k_is, by k_is⟩
theorem KB.o_size : OwnOK g.K 183 "_size" := by rw [hK]; exact ⟨by k_is, by k_is, by k_is, by k_is, by k_is, by k_is⟩
theorem KB.o_bitarray : OwnOK g.K 183 "_bitarray" := by rw [hK]; exact ⟨by k_is, by k_is, by k_is, by k_is, by k_is, by k_is⟩
theorem KB.o_size_bytes : OwnOK g.K 183 "_size_bytes" := by rw [hK]; exact ⟨by k_is, by k_is, by k_is, by k_is, by k_is, by k_is⟩
theorem KQ.s_QuotientFilter__mod_size : SlotOK g.K 476 "_QuotientFilter__mod_size" 0 := by rw [hK]; exact ⟨by k_is, by k_is, ⟨_, by k_is, by k_is, by k_is, by k_is, by k_is, by k_is⟩, by k_is, by k_is, by decide⟩
theorem KQ.s_auto_resize : SlotOK g.K 476 "_auto_resize" 1 := by rw [hK]; exact ⟨by k_is, by k_is, ⟨_, by k_is, by k_is, by k_is, by k_is, by k_is, by k_is⟩, by k_is, by k_is, by decide⟩
theorem KQ.s_bits_per_elm : SlotOK g.K 476 "_bits_per_elm" 2 := by rw [hK]; exact ⟨by k_is, by k_is, ⟨_, by k_is, by k_is, by k_is, by k_is, by k_is, by k_is⟩, by k_is, by k_is, by decide⟩
theorem KQ.s_elements_added : SlotOK g.K 476 "_elements_added" 3 := by rw [hK]; exact ⟨by k_is, by k_is, ⟨_, by k_is, by k_is, by k_is, by k_is, by k_is, by k_is⟩, by k_is, by k_is, by decide⟩
theorem KQ.s_filter : SlotOK g.K 476 "_filter" 4 := by rw [hK]; exact ⟨by k_is, by k_is, ⟨_, by k_is, by k_is, by k_is, by k_is, by k_is, by k_is⟩, by k_is, by k_is, by decide⟩
theorem KQ.s_hash_func : SlotOK g.K 476 "_hash_func" 5 := by rw [hK]; exact ⟨by k_is, by k_is, ⟨_, by k_is, by k_is, by k_is, by k_is, by k_is, by k_is⟩, by k_is, by k_is, by decide⟩
theorem KQ.s_int_type_code : SlotOK g.K 476 "_int_type_code" 6 := by rw [hK]; exact ⟨by k_is, by k_is, ⟨_, by k_is, by k_is, by k_is, by k_is, by k_is, by k_is⟩, by k_is, by k_is, by decide⟩
theorem KQ.s_is_continuation : SlotOK g.K 476 "_is_continuation" 7 := by rw [hK]; exact ⟨by k_is, by k_is, ⟨_, by k_is, by k_is, by k_is, by k_is, by k_is, by k_is⟩, by k_is, by k_is, by decide⟩
theorem KQ.s_is_occupied : SlotOK g.K 476 "_is_occupied" 8 := by rw [hK]; exact ⟨by k_is, by k_is, ⟨_, by k_is, by k_is, by k_is, by k_is, by k_is, by k_is⟩, by k_is, by k_is, by decide⟩
theorem KQ.s_is_shifted : SlotOK g.K 476 "_is_shifted" 9 := by rw [hK]; exact ⟨by k_is, by k_is, ⟨_, by k_is, by k_is, by k_is, by k_is, by k_is, by k_is⟩, by k_is, by k_is, by decide⟩
theorem KQ.s_q : SlotOK g.K 476 "_q" 11 := by rw [hK]; exact ⟨by k_is, by k_is, ⟨_, by k_is, by k_is, by k_is, by k_is, by k_is, by k_is⟩, by k_is, by k_is, by decide⟩
theorem KQ.s_r : SlotOK g.K 476 "_r" 12 := by rw [hK]; exact ⟨by k_is, by k_is, ⟨_, by k_is, by k_is, by k_is, by k_is, by k_is, by k_is⟩, by k_is, by k_is, by decide⟩
theorem KQ.s_size : SlotOK g.K 476 "_size" 13 := by rw [hK]; exact ⟨by k_is, by k_is, ⟨_, by k_is, by k_is, by k_is, by k_is, by k_is, by k_is⟩, by k_is, by k_is, by decide⟩
theorem KB.noseq : noSeq g.K 183 = true := by rw [hK]; k_is
end
end Mine
end

section
set_option maxRecDepth 100000
open PySem PySem.W PyProof.Rows PySem.Calls
namespace Mine
/-- the ledger with another object at an address -/
def put (D : Addr) (o : Obj) (l : Ledger) : Ledger := l.map fun p => if p.1 = D then (D, o) else p
theorem put_keys (D : Addr) (o : Obj) (l : Ledger) : (put D o l).map (·.1) = l.map (·.1) := by
  unfold put
  rw [List.map_map]
  apply List.map_congr_left
  intro p _
  show (if p.1 = D then (D, o) else p).1 = p.1
  split
  · rename_i h; exact h.symm
  · rfl
theorem put_append (D : Addr) (o : Obj) (l m : Ledger) : put D o (l ++ m) = put D o l ++ put D o m := List.map_append ..
theorem put_off {D : Addr} {o : Obj} {l : Ledger} (h : D ∉ l.map (·.1)) : put D o l = l := by
  unfold put
  have : ∀ p ∈ l, (if p.1 = D then (D, o) else p) = p := fun p hp => if_neg fun e => h (List.mem_map.mpr ⟨p, hp, e⟩)
  rw [List.map_congr_left this]; simp
theorem mem_put_self {D : Addr} {o o' : Obj} {l : Ledger} (h : (D, o) ∈ l) : (D, o') ∈ put D o' l :=
  List.mem_map.mpr ⟨(D, o), h, if_pos rfl⟩
theorem mem_put_ne {D a : Addr} {o o' : Obj} {l : Ledger} (h : (a, o) ∈ l) (n : a ≠ D) : (a, o) ∈ put D o' l :=
  List.mem_map.mpr ⟨(a, o), h, if_neg n⟩
theorem put_left {D : Addr} {o o' : Obj} {l m : Ledger} (nd : ((l ++ m).map (·.1)).Nodup) (h : (D, o) ∈ l) : put D o' (l ++ m) = put D o' l ++ m := by
  rw [List.map_append] at nd
  rw [put_append, put_off (l := m) fun q => (List.nodup_append.mp nd).2.2 D (List.mem_map_of_mem (f := (·.1)) h) D q rfl]
theorem upd_put {D : Addr} {o o' : Obj} : ∀ {l : Ledger}, (l.map (·.1)).Nodup → (D, o) ∈ l → Upd D o o' l (put D o' l)
  | [], _, h => nomatch h
  | p :: l, nd, h => by
    rw [List.map_cons, List.nodup_cons] at nd
    rcases List.mem_cons.mp h with e | h
    · subst e
      have : put D o' ((D, o) :: l) = (D, o') :: l := by
        show (if D = D then (D, o') else (D, o)) :: put D o' l = _
        rw [if_pos rfl, put_off nd.1]
      rw [this]
      exact .head fun p hp e => nd.1 (List.mem_map.mpr ⟨p, hp, e⟩)
    · have hne : p.1 ≠ D := fun e => nd.1 (List.mem_map.mpr ⟨_, h, e.symm⟩)
      have : put D o' (p :: l) = p :: put D o' l := by
        show (if p.1 = D then (D, o') else p) :: put D o' l = _
        rw [if_neg hne]
      rw [this]
      exact .tail hne (upd_put nd.2 h)

section
variable {g : Gl} {f : Fm} {A : Around} {vs : List (Option Value)} {news : Ledger} {r : Rs} {s : Shared}
variable {P : Value → Prop} {e l r₁ r₂ e₁ e₂ o ix value : Expr} {pos p' : Pos} {a b : Int} {x : Str} {i : Nat} {v : Value} {b₁ b₂ : Bool} {rest : List Stmt} {Q : Flow → Shared → Prop} {E : Value → Shared → Prop}

theorem St.put {D : Addr} {ob ob' : Obj} {h' : Heap} {t : Nat} (hs : St f vs news r s) (hm : (D, ob) ∈ news) (hb : Heap.SameBut D s.heap h') (hg : h'.get? D = some ob') : St f vs (put D ob' news) r ⟨h', s.gens, s.drawn, t, s.os⟩ := by
  have z := hs.N (D, ob) hm
  refine ⟨hs.F.change hb z.2.1 z.2.2, fun p hp => ?_, by rw [put_keys]; exact hs.nd, hs.gens, hs.drawn, hs.os⟩
  obtain ⟨p₀, hp₀, rfl⟩ := List.mem_map.mp hp
  have z₀ := hs.N p₀ hp₀
  by_cases e : p₀.1 = D
  · rw [if_pos e]; exact ⟨hg, z.2⟩
  · rw [if_neg e]; exact ⟨(hb.2 _ e).trans z₀.1, z₀.2⟩
theorem St.alloc {ob : Obj} {t : Nat} (hs : St f vs news r s) (hf : ob.isFreed = false) : St f vs ((s.heap.objs.size, ob) :: news) r ⟨s.heap.push ob, s.gens, s.drawn, t, s.os⟩ := by
  refine ⟨hs.F.push ob, hs.N.push hs.F ob hf, ?_, hs.gens, hs.drawn, hs.os⟩
  rw [List.map_cons, List.nodup_cons]
  refine ⟨fun q => ?_, hs.nd⟩
  obtain ⟨p, hp, e⟩ := List.mem_map.mp q
  have := Heap.lt_size (hs.N p hp).1
  rw [e] at this
  exact Nat.lt_irrefl _ this

/-- xs[k] = v of a list of the ledger -/
theorem X.setItem {la : Addr} {its : Array Value} {ep k : Nat} (hs : St f vs news r s) (hv : PE g f A vs news r value P) (ho : PE g f A vs news r o (· = .ref la)) (hi : PE g f A vs news r ix (isI k)) (hm : (la, listOf its ep) ∈ news) (hk : k < its.size) (hk2 : k < 2 ^ 62)
    (cont : ∀ v s', P v → St f vs (Mine.put la (listOf (its.setIfInBounds k v) ep) news) r s' → wpAny g.M A (execs rest f.env) Q E s')
    (hsw : swapsWith value (some (o.Subscript ix p')) pos.line f.env = pure false := by rfl) : wpAny g.M A (execs (.Assign [.Subscript o ix p'] value pos :: rest) f.env) Q E s :=
  wpAny_execs_cons (wpAny_Assign_Subscript (hv _ _ _ hs fun v _ p s₁ => ho _ _ _ s₁ fun _ _ q s₂ => hi _ _ _ s₂ fun iv s₃ ⟨t, qi⟩ hs₃ => by
    subst q qi
    have ho := hs₃.N.get hm
    refine ki_setAt ho (by omega) (by omega) (by omega) ?_
    refine cont v _ p (hs₃.put hm (Heap.SameBut.update ..) ?_)
    have q := PySem.IsL.update ho (fun xs => xs.setIfInBounds k v)
    rw [if_pos (by simp)] at q
    exact q) hsw)
/-- x[k] = v by an own __setitem__ -/
theorem X.setOwn {C xa dx fa : Addr} {sl : Array (Option Value)} {od : Obj} {PI : Value → Prop} {R : Ledger → Rs → Prop} (cx : Cx g f) (ok : MethOK g.K C "__setitem__" fa) (hq : noSeq g.K C = true) (hs : St f vs news r s) (hv : PE g f A vs news r value P) (ho : PE g f A vs news r o (· = .ref xa)) (hi : PE g f A vs news r ix PI)
    (h₁ : (xa, instS C dx sl) ∈ news) (h₂ : (dx, od) ∈ news) (hc : ∀ i v, PI i → P v → CL g f A vs news r fa [.ref xa, i, v] (fun _ => R))
    (cont : ∀ news' r' s', R news' r' → St f vs news' r' s' → wpAny g.M A (execs rest f.env) Q E s')
    (hsw : swapsWith value (some (o.Subscript ix p')) pos.line f.env = pure false := by rfl) : wpAny g.M A (execs (.Assign [.Subscript o ix p'] value pos :: rest) f.env) Q E s :=
  wpAny_execs_cons (wpAny_Assign_Subscript (hv _ _ _ hs fun v _ p s₁ => ho _ _ _ s₁ fun _ _ q s₂ => hi _ _ _ s₂ fun iv s₃ qi hs₃ => by
    subst q
    exact ksp_setItem hs₃.F cx.X (.of_news hs₃.N h₁ h₂) hq ok.hf ok.ht (wpAny_call (hc iv v qi p _ _ hs₃ fun _ n' r' s' hr hs' => cont n' r' s' hr hs'))) hsw)
/-- self.x = v, a slot -/
theorem X.setSlot {C xa dx : Addr} {attr : Str} {sl : Array (Option Value)} {od : Obj} (cx : Cx g f) (ok : SlotOK g.K C attr i) (hs : St f vs news r s) (hv : PE g f A vs news r value P) (ho : PE g f A vs news r o (· = .ref xa)) (h₁ : (xa, instS C dx sl) ∈ news) (h₂ : (dx, od) ∈ news)
    (cont : ∀ v s', P v → St f vs (Mine.put xa (instS C dx ((sl ++ Array.replicate (i + 1 - sl.size) none).setIfInBounds i (some v))) news) r s' → wpAny g.M A (execs rest f.env) Q E s')
    (hsw : swapsWith value (some (o.Attribute attr p')) pos.line f.env = pure false := by rfl) : wpAny g.M A (execs (.Assign [.Attribute o attr p'] value pos :: rest) f.env) Q E s :=
  wpAny_execs_cons (plainObj_wpAny_Assign_Attribute (hv _ _ _ hs fun v _ p s₁ => ho _ _ _ s₁ fun _ s₂ q hs₂ => by
    subst q
    obtain ⟨pd, _, _, _, a4, a5, a6⟩ := ok.ex
    exact set_slot hs₂.F cx.X hs₂.N (.of_news hs₂.N h₁ h₂) ok.hs ok.hp a5 a6 a4 ok.hz rfl rfl (upd_put hs₂.nd h₁) fun h' F' N' => cont v _ p ⟨F', N', by rw [put_keys]; exact hs₂.nd, hs₂.gens, hs₂.drawn, hs₂.os⟩) hsw)
end
end Mine
end

section
set_option maxRecDepth 100000
open PySem PySem.W PyProof.Rows PySem.Calls
set_option maxHeartbeats 4000000
namespace Mine
theorem dummyFill2 : (hd.heap_39 = hd.heap_39) ∧ (PySem.Challenge.rw_sv0018_01 = PySem.Challenge.rw_sv0018_01) := by
  k_fill
  exact ⟨rfl, rfl⟩

/-- a bit array's addresses -/
structure BA where
  i : Addr
  d : Addr
  l : Addr

/-- what the ledger says of a bit array (by membership) -/
structure BAm (news : Ledger) (b : BA) (n : Nat) (bits : Nat → Bool) (es : List DictEntry) (ne : Nat) (its : Array Value) (ep : Nat) : Prop where
  hi : (b.i, instS 183 b.d #[]) ∈ news
  hd : (b.d, dictOf es ne) ∈ news
  hl : (b.l, listOf its ep) ∈ news
  size : ∃ t, getL "_size" es = some (some (.int n t))
  arr : getL "_bitarray" es = some (some (.ref b.l))
  m1 : getL "check_bit" es = some none
  m2 : getL "clear_bit" es = some none
  by_ : Bytes n bits its
  h8 : 8 ∣ n
  hn : n < 2 ^ 40
def bi (b : Bool) : Int := if b then 1 else 0
theorem bi_eq1 (b : Bool) : (bi b == 1) = b := by cases b <;> rfl
theorem bi_eq0 (b : Bool) : (bi b == 0) = !b := by cases b <;> rfl
theorem natBeq (a b : Nat) : ((a : Int) == (b : Int)) = (a == b) := by
  by_cases h : a = b
  · subst h; simp
  · rw [beq_eq_false_iff_ne.mpr h, beq_eq_false_iff_ne.mpr (fun e => h (Int.ofNat_inj.mp e))]
theorem natBne (a b : Nat) : ((a : Int) != (b : Int)) = (a != b) := by unfold bne; rw [natBeq]
theorem natLt (a b : Nat) : decide ((a : Int) < (b : Int)) = decide (a < b) := by simp [Int.ofNat_lt]
theorem fdiv8 (i : Nat) : (i : Int).fdiv 8 = ((i / 8 : Nat) : Int) := by
  rw [Int.fdiv_eq_ediv_of_nonneg _ (by decide)]; omega
theorem fmod8 (i : Nat) : (i : Int).fmod 8 = ((i % 8 : Nat) : Int) := by
  rw [Int.fmod_eq_emod_of_nonneg _ (by decide)]; omega

section
variable {g : Gl} {f : Fm} {A : Around} {vs : List (Option Value)} {news : Ledger} {r : Rs} {s : Shared}
variable {b : BA} {n : Nat} {bits : Nat → Bool} {es : List DictEntry} {ne : Nat} {its : Array Value} {ep : Nat} {i : Nat} {t t' : Tok}

theorem check_bit (hK : IsK g) (cx : Cx g f) (rm : Rm f A 2) (M : BAm news b n bits es ne its ep) (hi : i < n) :
    CL g f A vs news r 138 [.ref b.i, .int i t] (still news r (isI (bi (bits i)))) := by
  refine' CL.enter (d := 1) cx rm ["self", "idx"] [] ?ho ?hcd ?hb ?hl ?hok ?_
  case ho => refine IsK.look hK ?_; k_is
  case hcd => refine IsK.code hK ?_; k_is
  case hb => exact rfl
  case hl => exact rfl
  case hok => decide +kernel
  clear cx rm
  intro f' A' s' B hs
  have cx := B.cx
  have rm := B.rm
  have n0 := B.at (i := 0) rfl
  have n1 := B.at (i := 1) rfl
  clear B
  have h8 := M.h8
  have hn := M.hn
  obtain ⟨tz, hsz⟩ := M.size
  obtain ⟨B, tb, hB, hb⟩ := M.by_.2 (i / 8) (by omega)
  have hbit := hb.2 (i % 8) (by omega)
  rw [show 8 * (i / 8) + i % 8 = i by omega] at hbit
  refine X.ifF hs (PT.toB (PT.or2 (PT.lt (PE.nameI cx n1 rfl) PE.cInt) fun _ => PT.ge (PE.nameI cx n1 rfl) (PE.own cx (KB.o_size hK) (PE.nameV cx n0 rfl) M.hi M.hd hsz ⟨_, rfl⟩ rfl)) ?_) ?_
  · simp; omega
  intro s₁ hs
  refine X.fin hs (PE.toI (PE.iteI (PT.eq (PE.band (PE.item (PE.own cx (KB.o_bitarray hK) (PE.nameV cx n0 rfl) M.hi M.hd M.arr rfl rfl) (PE.toI (PE.fdiv (PE.nameI cx n1 rfl) PE.cInt (by decide) (PyProof.noPylong_small (by decide))) (fdiv8 i)) M.hl (by omega) (by omega) hB ⟨_, rfl⟩)
    (PE.shl PE.cInt (PE.toI (PE.mod (PE.nameI cx n1 rfl) PE.cInt (by decide)) (fmod8 i)) (by omega) (by omega) (by decide))) PE.cInt) (fun _ => PE.cInt) fun _ => PE.cInt) ?_)
  rw [Int.toNat_natCast, byte_get, hbit]
  cases bits i <;> rfl

theorem getitem_ (hK : IsK g) (cx : Cx g f) (rm : Rm f A 3) (M : BAm news b n bits es ne its ep) (hi : i < n) :
    CL g f A vs news r 124 [.ref b.i, .int i t] (still news r (isI (bi (bits i)))) := by
  refine' CL.enter (d := 2) cx rm ["self", "key"] [] ?ho ?hcd ?hb ?hl ?hok ?_
  case ho => refine IsK.look hK ?_; k_is
  case hcd => refine IsK.code hK ?_; k_is
  case hb => exact rfl
  case hl => exact rfl
  case hok => decide +kernel
  clear cx rm
  intro f' A' s' B hs
  have cx := B.cx
  have rm := B.rm
  have n0 := B.at (i := 0) rfl
  have n1 := B.at (i := 1) rfl
  clear B
  refine X.fin hs (PE.of (EX.meth cx (KB.mcheck_bit hK) (PE.nameV cx n0 rfl) M.hi M.hd M.m1 (AR.cons (PE.nameV cx n1 rfl) AR.nil) ?_))
  rintro _ ⟨v, _, rfl, rfl, rfl⟩
  exact check_bit hK cx rm M hi

/-- the ledger with the bits of an array changed -/
def BitSet (news : Ledger) (r : Rs) (b : BA) (n : Nat) (bits : Nat → Bool) (ep : Nat) (i : Nat) (w : Bool) (v : Value) (news' : Ledger) (r' : Rs) : Prop :=
  v = .none ∧ r' = r ∧ ∃ its', news' = put b.l (listOf its' ep) news ∧ Bytes n (upd bits i w) its'

theorem clear_bit (hK : IsK g) (cx : Cx g f) (rm : Rm f A 2) (M : BAm news b n bits es ne its ep) (hi : i < n) :
    CL g f A vs news r 159 [.ref b.i, .int i t] (BitSet news r b n bits ep i false) := by
  refine' CL.enter (d := 1) cx rm ["self", "idx"] ["b"] ?ho ?hcd ?hb ?hl ?hok ?_
  case ho => refine IsK.look hK ?_; k_is
  case hcd => refine IsK.code hK ?_; k_is
  case hb => exact rfl
  case hl => exact rfl
  case hok => decide +kernel
  clear cx rm
  intro f' A' s' B hs
  have cx := B.cx
  have rm := B.rm
  have n0 := B.at (i := 0) rfl
  have n1 := B.at (i := 1) rfl
  have n2 := B.at (i := 2) rfl
  clear B
  have h8 := M.h8
  have hn := M.hn
  obtain ⟨tz, hsz⟩ := M.size
  obtain ⟨B, tb, hB, hb⟩ := M.by_.2 (i / 8) (by omega)
  have e1 := M.by_.1
  refine X.ifF hs (PT.toB (PT.or2 (PT.lt (PE.nameI cx n1 rfl) PE.cInt) fun _ => PT.ge (PE.nameI cx n1 rfl) (PE.own cx (KB.o_size hK) (PE.nameV cx n0 rfl) M.hi M.hd hsz ⟨_, rfl⟩ rfl)) ?_) ?_
  · simp; omega
  intro s₁ hs
  refine X.assign cx hs n2 rfl (PE.toI (PE.fdiv (PE.nameI cx n1 rfl) PE.cInt (by decide) (PyProof.noPylong_small (by decide))) (fdiv8 i)) ?_
  rintro _ s₂ ⟨t2, rfl⟩ hs
  refine X.setItem (k := i / 8) hs (PE.toI (PE.band (PE.item (PE.own cx (KB.o_bitarray hK) (PE.nameV cx n0 rfl) M.hi M.hd M.arr rfl rfl) (PE.nameI cx n2 rfl) M.hl (by omega) (by omega) hB ⟨_, rfl⟩)
    (PE.inv (PE.shl PE.cInt (PE.toI (PE.mod (PE.nameI cx n1 rfl) PE.cInt (by decide)) (fmod8 i)) (by omega) (by omega) (by decide)))) (byte_clr hb.1 (show i % 8 < 8 by omega)).1)
    (PE.own cx (KB.o_bitarray hK) (PE.nameV cx n0 rfl) M.hi M.hd M.arr rfl rfl) (PE.nameI cx n2 rfl) M.hl (by omega) (by omega) ?_
  rintro _ s₃ ⟨t3, rfl⟩ hs
  exact X.nil (g := g) hs ⟨_, _, _, ⟨rfl, rfl, _, rfl, M.by_.set hb.clr⟩, hs⟩

theorem setitem_ (hK : IsK g) (cx : Cx g f) (rm : Rm f A 2) (M : BAm news b n bits es ne its ep) (hi : i < n) (w : Bool) :
    CL g f A vs news r 131 [.ref b.i, .int i t, .int (bi w) t'] (BitSet news r b n bits ep i w) := by
  refine' CL.enter (d := 1) cx rm ["self", "idx", "val"] ["b"] ?ho ?hcd ?hb ?hl ?hok ?_
  case ho => refine IsK.look hK ?_; k_is
  case hcd => refine IsK.code hK ?_; k_is
  case hb => exact rfl
  case hl => exact rfl
  case hok => decide +kernel
  clear cx rm
  intro f' A' s' B hs
  have cx := B.cx
  have rm := B.rm
  have n0 := B.at (i := 0) rfl
  have n1 := B.at (i := 1) rfl
  have n2 := B.at (i := 2) rfl
  have n3 := B.at (i := 3) rfl
  clear B
  have h8 := M.h8
  have hn := M.hn
  obtain ⟨tz, hsz⟩ := M.size
  obtain ⟨B, tb, hB, hb⟩ := M.by_.2 (i / 8) (by omega)
  have e1 := M.by_.1
  refine X.ifF hs (PT.toB (PT.or2 (PT.lt (PE.nameI cx n2 rfl) PE.cInt) fun _ => PT.gt (PE.nameI cx n2 rfl) PE.cInt) ?_) ?_
  · cases w <;> rfl
  intro s₁ hs
  refine X.ifF hs (PT.toB (PT.or2 (PT.lt (PE.nameI cx n1 rfl) PE.cInt) fun _ => PT.ge (PE.nameI cx n1 rfl) (PE.own cx (KB.o_size hK) (PE.nameV cx n0 rfl) M.hi M.hd hsz ⟨_, rfl⟩ rfl)) ?_) ?_
  · simp; omega
  intro s₁ hs
  refine X.assign cx hs n3 rfl (PE.toI (PE.fdiv (PE.nameI cx n1 rfl) PE.cInt (by decide) (PyProof.noPylong_small (by decide))) (fdiv8 i)) ?_
  rintro _ s₂ ⟨t2, rfl⟩ hs
  refine X.if hs (PT.toB (PT.eq (PE.nameI cx n2 rfl) PE.cInt) (bi_eq1 w)) ?_ ?_
  · rintro rfl s₃ hs
    refine X.setItem (k := i / 8) hs (PE.toI (PE.bor (PE.item (PE.own cx (KB.o_bitarray hK) (PE.nameV cx n0 rfl) M.hi M.hd M.arr rfl rfl) (PE.nameI cx n3 rfl) M.hl (by omega) (by omega) hB ⟨_, rfl⟩)
      (PE.shl PE.cInt (PE.toI (PE.mod (PE.nameI cx n1 rfl) PE.cInt (by decide)) (fmod8 i)) (by omega) (by omega) (by decide))) (byte_or hb.1 (show i % 8 < 8 by omega)))
      (PE.own cx (KB.o_bitarray hK) (PE.nameV cx n0 rfl) M.hi M.hd M.arr rfl rfl) (PE.nameI cx n3 rfl) M.hl (by omega) (by omega) ?_
    rintro _ s₃ ⟨t3, rfl⟩ hs
    refine X.nil (g := g) hs (X.nil (g := g) hs ⟨_, _, _, ⟨rfl, rfl, _, rfl, M.by_.set hb.set⟩, hs⟩)
  · rintro rfl s₃ hs
    refine X.setItem (k := i / 8) hs (PE.toI (PE.band (PE.item (PE.own cx (KB.o_bitarray hK) (PE.nameV cx n0 rfl) M.hi M.hd M.arr rfl rfl) (PE.nameI cx n3 rfl) M.hl (by omega) (by omega) hB ⟨_, rfl⟩)
      (PE.inv (PE.shl PE.cInt (PE.toI (PE.mod (PE.nameI cx n1 rfl) PE.cInt (by decide)) (fmod8 i)) (by omega) (by omega) (by decide)))) (byte_clr hb.1 (show i % 8 < 8 by omega)).1)
      (PE.own cx (KB.o_bitarray hK) (PE.nameV cx n0 rfl) M.hi M.hd M.arr rfl rfl) (PE.nameI cx n3 rfl) M.hl (by omega) (by omega) ?_
    rintro _ s₃ ⟨t3, rfl⟩ hs
    exact X.nil (g := g) hs (X.nil (g := g) hs ⟨_, _, _, ⟨rfl, rfl, _, rfl, M.by_.set hb.clr⟩, hs⟩)
end
end Mine
end

section
set_option maxRecDepth 100000
open PySem PySem.W PyProof.Rows PySem.Calls
namespace Mine
section
variable {g : Gl} {f : Fm} {A : Around} {vs : List (Option Value)} {news : Ledger} {r : Rs} {s : Shared}
variable {P : Value → Prop} {e l r₁ r₂ e₁ e₂ o ix value : Expr} {pos p' xp : Pos} {a b : Int} {x : Str} {i : Nat} {v : Value} {b₁ b₂ : Bool} {rest body : List Stmt} {Q : Flow → Shared → Prop} {E : Value → Shared → Prop}

theorem St.store {h' : Heap} {u : Option Value} {tk : Nat} (hs : St f vs news r s) (cx : Cx g f) (hn : f.ns[i]? = some x) (hv : vs[i]? = some u) (hn' : h'.Ns f.env.locals (fun y => if y = x then some v else lm f.ns vs y)) (hsb : Heap.SameBut f.env.locals s.heap h') :
    St f (vs.set i (some v)) news r ⟨h', s.gens, s.drawn, tk, s.os⟩ := by
  have hi : i < vs.length := by
    rcases Nat.lt_or_ge i vs.length with q | q
    · exact q
    · rw [List.getElem?_eq_none q] at hv; cases hv
  rw [lm_set cx.nd hn hi] at hn'
  rw [cx.loc] at hn' hsb
  exact ⟨hs.F.set hn' hsb, hs.N.set hsb, hs.nd, hs.gens, hs.drawn, hs.os⟩
theorem X.finT (hs : St f vs news r s) (h : PE g f A vs news r e P) (hQ : ∀ v s', Ends f (still news r P) (.ret v) s' → Q (.ret v) s' := by exact fun _ _ h => h) : wpAny g.M A (execs (.Return (some e) pos :: rest) f.env) Q E s :=
  X.retP hs h fun v s' p hs' => hQ v s' ⟨_, _, _, ⟨p, rfl, rfl⟩, hs'⟩
/-- an if whose two ways meet -/
theorem X.ifJ {test : Expr} {orelse : List Stmt} {c : Bool} (K : Shared → Prop) (hs : St f vs news r s) (ht : PT g f A vs news r test c)
    (h₁ : c = true → ∀ s', St f vs news r s' → wpAny g.M A (execs body f.env) (fun fl s => fl = .next ∧ K s) E s')
    (h₂ : c = false → ∀ s', St f vs news r s' → wpAny g.M A (execs orelse f.env) (fun fl s => fl = .next ∧ K s) E s')
    (cont : ∀ s', K s' → wpAny g.M A (execs rest f.env) Q E s') : wpAny g.M A (execs (.If test body orelse pos :: rest) f.env) Q E s :=
  X.if hs ht (fun q s' hs' => wpAny_mono (h₁ q s' hs') (fun _ _ ⟨e, k⟩ => by subst e; exact cont _ k) fun _ _ z => z)
    (fun q s' hs' => wpAny_mono (h₂ q s' hs') (fun _ _ ⟨e, k⟩ => by subst e; exact cont _ k) fun _ _ z => z)
/-- the end of a turn of a while: again (a smaller measure), out, or back -/
def Turn (f : Fm) (I : Nat → List (Option Value) → Ledger → Rs → Prop) (J : List (Option Value) → Ledger → Rs → Prop) (Q : Flow → Shared → Prop) (k : Nat) (fl : Flow) (s : Shared) : Prop :=
  match fl with
  | .next | .cont => ∃ k' vs' news' r', k' < k ∧ I k' vs' news' r' ∧ St f vs' news' r' s
  | .brk => ∃ vs' news' r', J vs' news' r' ∧ St f vs' news' r' s
  | .ret v => Q (.ret v) s
theorem X.while {test : Expr} (I : Nat → List (Option Value) → Ledger → Rs → Prop) (J : List (Option Value) → Ledger → Rs → Prop) (k : Nat) (h0 : I k vs news r) (hs : St f vs news r s)
    (turn : ∀ k vs news r s, I k vs news r → St f vs news r s → ∃ b, PT g f A vs news r test b ∧ (b = false → J vs news r) ∧ (b = true → ∀ s', St f vs news r s' → wpAny g.M A (execs body f.env) (Turn f I J Q k) (fun _ _ => False) s'))
    (exit : ∀ vs' news' r' s', J vs' news' r' → St f vs' news' r' s' → wpAny g.M A (execs rest f.env) Q E s') :
    wpAny g.M A (execs (.While test body [] pos :: rest) f.env) Q E s := by
  have fin : ∀ s₃, (∃ vs' news' r', J vs' news' r' ∧ St f vs' news' r' s₃) → wpAny g.M A (execs rest f.env) Q E s₃ := fun s₃ ⟨vs', n', r', j, h⟩ => exit vs' n' r' s₃ j h
  refine wpAny_execs_cons (wpAny_While (codeAny_whileLoop (fun k s => ∃ vs news r, I k vs news r ∧ St f vs news r s) ?_ k ⟨_, _, _, h0, hs⟩))
  rintro k s ⟨vs, news, r, hI, hs⟩
  obtain ⟨b, ht, hF, hT⟩ := turn k vs news r s hI hs
  refine ht _ _ _ _ rfl hs fun s₂ hs₂ => ?_
  cases b with
  | false => exact wpAny_execs_nil (fin _ ⟨_, _, _, hF rfl, hs₂⟩)
  | true =>
    refine wpAny_mono (hT rfl s₂ hs₂) (fun fl s₃ h => ?_) (fun _ _ z => z.elim)
    cases fl with
    | next => obtain ⟨k', vs', n', r', hk, hi, hs'⟩ := h; exact ⟨k', hk, _, _, _, hi, hs'⟩
    | cont => obtain ⟨k', vs', n', r', hk, hi, hs'⟩ := h; exact ⟨k', hk, _, _, _, hi, hs'⟩
    | brk => exact fin _ h
    | ret v => exact h
/-- x += e of ints -/
theorem X.addTo {t : Tok} (cx : Cx g f) (hs : St f vs news r s) (hn : f.ns[i]? = some x) (hv : vs[i]? = some (some (.int a t))) (h : PE g f A vs news r value (isI b))
    (k : ∀ t s', St f (vs.set i (some (.int (a + b) t))) news r s' → wpAny g.M A (execs rest f.env) Q E s') : wpAny g.M A (execs (.AugAssign (.Name x p') .Add value pos :: rest) f.env) Q E s :=
  wpAny_execs_cons (wpAny_AugAssign_Name (wpAny_loadName_local cx.hk (cx.kin i x hn) (hs.ns cx) (lm_get cx.nd hn hv) (h _ _ _ hs fun _ s₁ ⟨u, q⟩ hs₁ => by
    subst q
    refine wpAny_iadd_int (wpAny_storeName_local (cx.kin i x hn) (hs₁.ns cx) (fun h' hn' hsb => ?_) (by rw [cx.hk]; rfl))
    exact k s₁.toks _ (hs₁.store cx hn hv hn' hsb))))
/-- x -= e of ints -/
theorem X.subTo {t : Tok} (cx : Cx g f) (hs : St f vs news r s) (hn : f.ns[i]? = some x) (hv : vs[i]? = some (some (.int a t))) (h : PE g f A vs news r value (isI b))
    (k : ∀ t s', St f (vs.set i (some (.int (a - b) t))) news r s' → wpAny g.M A (execs rest f.env) Q E s') : wpAny g.M A (execs (.AugAssign (.Name x p') .Sub value pos :: rest) f.env) Q E s :=
  wpAny_execs_cons (wpAny_AugAssign_Name (wpAny_loadName_local cx.hk (cx.kin i x hn) (hs.ns cx) (lm_get cx.nd hn hv) (h _ _ _ hs fun _ s₁ ⟨u, q⟩ hs₁ => by
    subst q
    refine P.isub_int (wpAny_storeName_local (cx.kin i x hn) (hs₁.ns cx) (fun h' hn' hsb => ?_) (by rw [cx.hk]; rfl))
    exact k s₁.toks _ (hs₁.store cx hn hv hn' hsb))))
/-- self.x += e, a slot of an int -/
theorem X.slotAdd {C xa dx : Addr} {attr : Str} {sl : Array (Option Value)} {od : Obj} {t : Tok} (cx : Cx g f) (ok : SlotOK g.K C attr i) (hs : St f vs news r s) (ho : PE g f A vs news r o (· = .ref xa)) (h₁ : (xa, instS C dx sl) ∈ news) (h₂ : (dx, od) ∈ news)
    (hv : (sl[i]?).join = some (.int a t)) (hb : PE g f A vs news r value (isI b))
    (cont : ∀ t s', St f vs (Mine.put xa (instS C dx ((sl ++ Array.replicate (i + 1 - sl.size) none).setIfInBounds i (some (.int (a + b) t)))) news) r s' → wpAny g.M A (execs rest f.env) Q E s') :
    wpAny g.M A (execs (.AugAssign (.Attribute o attr p') .Add value pos :: rest) f.env) Q E s :=
  wpAny_execs_cons (wpAny_AugAssign_AttributeAny (ho _ _ _ hs fun _ s₁ q hs₁ => by
    subst q
    obtain ⟨pd, a1, a2, a3, a4, a5, a6⟩ := ok.ex
    refine get_slot hs₁.F cx.X (.of_news hs₁.N h₁ h₂) ok.hg ok.hc a1 a2 a3 a4 hv rfl (hb _ _ _ hs₁.tok fun _ s₂ ⟨u, q⟩ hs₂ => ?_)
    subst q
    refine wpAny_iadd_int ?_
    exact set_slot (s := { s₂ with toks := s₂.toks + 1 }) hs₂.F cx.X hs₂.N (.of_news hs₂.N h₁ h₂) ok.hs ok.hp a5 a6 a4 ok.hz rfl rfl (upd_put hs₂.nd h₁) fun h' F' N' => cont _ _ ⟨F', N', by rw [put_keys]; exact hs₂.nd, hs₂.gens, hs₂.drawn, hs₂.os⟩))

/-- a call of a built-in class or function of one pure argument -/
theorem PE.callT1 {T : String} {PA : Value → Prop} (cx : Cx g f) (hk : f.env.kindOf x = some .globalImplicit) (hm : nsIn g.K mainGlobals x = some none) (hv : bootBuiltins x = some (.type T)) (hn : x ≠ "__name__") (ha : PE g f A vs news r e PA)
    (hc : ∀ u (Q : Value → Shared → Prop) E s, PA u → St f vs news r s → (∀ v s', P v → St f vs news r s' → Q v s') → wpAny g.M A (call (.type T) [u]) Q E s)
    (he : starEach [e] f.env = [(false, eval e f.env)] := by rfl) (hd : (x == ("__debug__" : Str)) = false := by decide) : PE g f A vs news r (.Call (.Name x xp) [e] [] pos) P :=
  fun _ _ _ hs k => Call_Name1 (PE.nameBt cx hk hm hv hn hd _ _ _ hs fun _ s₁ q hs₁ => by
    subst q
    exact callWith_type1 (ha _ _ _ hs₁ fun u s₂ p hs₂ => hc u _ _ _ p hs₂ k)) he
theorem PE.callB1 {T : String} {PA : Value → Prop} (cx : Cx g f) (hk : f.env.kindOf x = some .globalImplicit) (hm : nsIn g.K mainGlobals x = some none) (hv : bootBuiltins x = some (.builtin T)) (hn : x ≠ "__name__") (ha : PE g f A vs news r e PA)
    (hc : ∀ u (Q : Value → Shared → Prop) E s, PA u → St f vs news r s → (∀ v s', P v → St f vs news r s' → Q v s') → wpAny g.M A (call (.builtin T) [u]) Q E s)
    (he : starEach [e] f.env = [(false, eval e f.env)] := by rfl) (hd : (x == ("__debug__" : Str)) = false := by decide) : PE g f A vs news r (.Call (.Name x xp) [e] [] pos) P :=
  fun _ _ _ hs k => Call_Name1 (PE.nameBt cx hk hm hv hn hd _ _ _ hs fun _ s₁ q hs₁ => by
    subst q
    exact callWith_builtin1 (ha _ _ _ hs₁ fun u s₂ p hs₂ => hc u _ _ _ p hs₂ k)) he
theorem PE.toBool (cx : Cx g f) (hk : f.env.kindOf "bool" = some .globalImplicit) (hm : nsIn g.K mainGlobals "bool" = some none) (hv : bootBuiltins "bool" = some (.type "bool")) (ha : PE g f A vs news r e (isB b₁))
    (he : starEach [e] f.env = [(false, eval e f.env)] := by rfl) : PE g f A vs news r (.Call (.Name "bool" xp) [e] [] pos) (isB b₁) :=
  PE.callT1 cx hk hm hv (by decide) ha (fun u Q E s p hs k => by rw [p]; exact call_bool_bool (k _ _ rfl hs)) he
theorem PT.isB {c : Bool} (h₁ : PE g f A vs news r l (isB b₁)) (h₂ : PE g f A vs news r r₁ (isB c)) (hm : behindInMarks .Is r₁ = false := by with_unfolding_all rfl) : PT g f A vs news r (.Compare l [.Is] [r₁] pos) (b₁ == c) :=
  PT.cmp h₁ h₂ (fun _ _ _ _ _ e₁ e₂ q => by rw [e₁, e₂]; exact is_bool q) hm
end
end Mine
end

section
set_option maxRecDepth 100000
open PySem PySem.W PyProof.Rows PySem.Calls
set_option maxHeartbeats 4000000
namespace Mine
theorem dummyFill3 : (hd.heap_39 = hd.heap_39) ∧ (PySem.Challenge.rw_sv0018_01 = PySem.Challenge.rw_sv0018_01) := by
  k_fill
  exact ⟨rfl, rfl⟩

/-- a filter's addresses -/
structure QA where
  x : Addr
  dx : Addr
  fl : Addr
  o : BA
  c : BA
  s : BA
def QA.foot (ad : QA) : List Addr := [ad.x, ad.dx, ad.fl, ad.o.i, ad.o.d, ad.o.l, ad.c.i, ad.c.d, ad.c.l, ad.s.i, ad.s.d, ad.s.l]

structure Slots (sl : Array (Option Value)) (ad : QA) (S : QS) : Prop where
  sz : sl.size = 14
  mod : ∃ t, (sl[0]?).join = some (.int ((2 : Int) ^ S.q - 1) t)
  auto : (sl[1]?).join = some (.bool S.auto)
  added : ∃ t, (sl[3]?).join = some (.int S.added t)
  fil : (sl[4]?).join = some (.ref ad.fl)
  hf : (sl[5]?).join = some (.ref S.hf)
  con : (sl[7]?).join = some (.ref ad.c.i)
  occ : (sl[8]?).join = some (.ref ad.o.i)
  shf : (sl[9]?).join = some (.ref ad.s.i)
  q : ∃ t, (sl[11]?).join = some (.int S.q t)
  r : ∃ t, (sl[12]?).join = some (.int (32 - S.q : Nat) t)
  size : ∃ t, (sl[13]?).join = some (.int S.n t)
def FilL (S : QS) (its : Array Value) : Prop := its.size = S.n ∧ ∀ j, j < S.n → ∃ t, its[j]? = some (.int (S.fil j) t)
def BAe (l : Ledger) (b : BA) (n : Nat) (bits : Nat → Bool) : Prop := ∃ es ne its ep, BAm l b n bits es ne its ep

/-- what the ledger says of a filter -/
structure QFm (l : Ledger) (ad : QA) (S : QS) : Prop where
  nd : ad.foot.Nodup
  self : ∃ sl, (ad.x, instS 476 ad.dx sl) ∈ l ∧ Slots sl ad S
  dx : ∃ ne, (ad.dx, dictOf [] ne) ∈ l
  fl : ∃ its ep, (ad.fl, listOf its ep) ∈ l ∧ FilL S its
  o : BAe l ad.o S.n S.occ
  c : BAe l ad.c S.n S.con
  s : BAe l ad.s S.n S.shf
  n_eq : S.n = 2 ^ S.q
  q3 : 3 ≤ S.q
  q20 : S.q ≤ 20

theorem BAm.mono {l l' : Ledger} {b : BA} {n : Nat} {bits : Nat → Bool} {es : List DictEntry} {ne : Nat} {its : Array Value} {ep : Nat} (h : BAm l b n bits es ne its ep) (m : ∀ p ∈ l, p ∈ l') : BAm l' b n bits es ne its ep :=
  { h with hi := m _ h.hi, hd := m _ h.hd, hl := m _ h.hl }
theorem BAe.mono {l l' : Ledger} {b : BA} {n : Nat} {bits : Nat → Bool} (h : BAe l b n bits) (m : ∀ p ∈ l, p ∈ l') : BAe l' b n bits := let ⟨a, b, c, d, e⟩ := h; ⟨a, b, c, d, e.mono m⟩
theorem QFm.mono {l l' : Ledger} {ad : QA} {S : QS} (h : QFm l ad S) (m : ∀ p ∈ l, p ∈ l') : QFm l' ad S :=
  { h with self := (let ⟨a, b, c⟩ := h.self; ⟨a, m _ b, c⟩), dx := (let ⟨a, b⟩ := h.dx; ⟨a, m _ b⟩), fl := (let ⟨a, b, c, d⟩ := h.fl; ⟨a, b, m _ c, d⟩), o := h.o.mono m, c := h.c.mono m, s := h.s.mono m }
theorem QFm.app {l m : Ledger} {ad : QA} {S : QS} (h : QFm l ad S) : QFm (l ++ m) ad S := h.mono fun _ hp => List.mem_append_left _ hp
theorem QFm.pos {l : Ledger} {ad : QA} {S : QS} (h : QFm l ad S) : 0 < S.n := by rw [h.n_eq]; exact Nat.two_pow_pos _
theorem QFm.small {l : Ledger} {ad : QA} {S : QS} (h : QFm l ad S) : S.n ≤ 2 ^ 20 := by rw [h.n_eq]; exact Nat.pow_le_pow_right (by decide) h.q20

/-- self, of a filter -/
structure Me (g : Gl) (f : Fm) (vs : List (Option Value)) (news : Ledger) (ad : QA) (S : QS) (x : Str) : Prop where
  cx : Cx g f
  hK : IsK g
  hq : QFm news ad S
  nm : ∃ k : Nat, f.ns[k]? = some x ∧ vs[k]? = some (some (.ref ad.x))

section
variable {g : Gl} {f : Fm} {A : Around} {vs : List (Option Value)} {news : Ledger} {r : Rs} {s : Shared}
variable {ad : QA} {S : QS} {i : Nat} {t t' : Tok} {x : Str} {xp p1 p2 pos : Pos} {ix e : Expr} {d : Nat}

theorem Me.self (m : Me g f vs news ad S x) (hd : (x == ("__debug__" : Str)) = false := by decide) : PE g f A vs news r (.Name x xp) (· = .ref ad.x) := let ⟨_, h1, h2⟩ := m.nm; PE.nameV m.cx h1 h2 hd
theorem Me.slot {attr : Str} {v : Value} {P : Value → Prop} (m : Me g f vs news ad S x) (ok : SlotOK g.K 476 attr i) (hv : ∀ sl, Slots sl ad S → ∃ v, (sl[i]?).join = some v ∧ P v ∧ handedIn v = true) (hd : (x == ("__debug__" : Str)) = false := by decide) : PE g f A vs news r (.Attribute (.Name x xp) attr pos) P := by
  obtain ⟨sl, h1, hs⟩ := m.hq.self
  obtain ⟨ne, h2⟩ := m.hq.dx
  obtain ⟨v, hv1, hp, hh⟩ := hv sl hs
  exact PE.slotG m.cx ok (m.self hd) h1 h2 hv1 hp hh
theorem Me.aOcc (m : Me g f vs news ad S x) (hd : (x == ("__debug__" : Str)) = false := by decide) : PE g f A vs news r (.Attribute (.Name x xp) "_is_occupied" pos) (· = .ref ad.o.i) := m.slot (v := .none) (KQ.s_is_occupied m.hK) (fun _ h => ⟨_, h.occ, rfl, rfl⟩) hd
theorem Me.aCon (m : Me g f vs news ad S x) (hd : (x == ("__debug__" : Str)) = false := by decide) : PE g f A vs news r (.Attribute (.Name x xp) "_is_continuation" pos) (· = .ref ad.c.i) := m.slot (v := .none) (KQ.s_is_continuation m.hK) (fun _ h => ⟨_, h.con, rfl, rfl⟩) hd
theorem Me.aShf (m : Me g f vs news ad S x) (hd : (x == ("__debug__" : Str)) = false := by decide) : PE g f A vs news r (.Attribute (.Name x xp) "_is_shifted" pos) (· = .ref ad.s.i) := m.slot (v := .none) (KQ.s_is_shifted m.hK) (fun _ h => ⟨_, h.shf, rfl, rfl⟩) hd
theorem Me.aFil (m : Me g f vs news ad S x) (hd : (x == ("__debug__" : Str)) = false := by decide) : PE g f A vs news r (.Attribute (.Name x xp) "_filter" pos) (· = .ref ad.fl) := m.slot (v := .none) (KQ.s_filter m.hK) (fun _ h => ⟨_, h.fil, rfl, rfl⟩) hd
theorem Me.aMod (m : Me g f vs news ad S x) (hd : (x == ("__debug__" : Str)) = false := by decide) : PE g f A vs news r (.Attribute (.Name x xp) "_QuotientFilter__mod_size" pos) (isI ((2 : Int) ^ S.q - 1)) := m.slot (v := .none) (KQ.s_QuotientFilter__mod_size m.hK) (fun _ h => let ⟨t, ht⟩ := h.mod; ⟨_, ht, ⟨t, rfl⟩, rfl⟩) hd
theorem Me.aAuto (m : Me g f vs news ad S x) (hd : (x == ("__debug__" : Str)) = false := by decide) : PE g f A vs news r (.Attribute (.Name x xp) "_auto_resize" pos) (isB S.auto) := m.slot (v := .none) (KQ.s_auto_resize m.hK) (fun _ h => ⟨_, h.auto, rfl, rfl⟩) hd
theorem Me.aAdded (m : Me g f vs news ad S x) (hd : (x == ("__debug__" : Str)) = false := by decide) : PE g f A vs news r (.Attribute (.Name x xp) "_elements_added" pos) (isI S.added) := m.slot (v := .none) (KQ.s_elements_added m.hK) (fun _ h => let ⟨t, ht⟩ := h.added; ⟨_, ht, ⟨t, rfl⟩, rfl⟩) hd
theorem Me.aQ (m : Me g f vs news ad S x) (hd : (x == ("__debug__" : Str)) = false := by decide) : PE g f A vs news r (.Attribute (.Name x xp) "_q" pos) (isI S.q) := m.slot (v := .none) (KQ.s_q m.hK) (fun _ h => let ⟨t, ht⟩ := h.q; ⟨_, ht, ⟨t, rfl⟩, rfl⟩) hd
theorem Me.aR (m : Me g f vs news ad S x) (hd : (x == ("__debug__" : Str)) = false := by decide) : PE g f A vs news r (.Attribute (.Name x xp) "_r" pos) (isI (32 - S.q : Nat)) := m.slot (v := .none) (KQ.s_r m.hK) (fun _ h => let ⟨t, ht⟩ := h.r; ⟨_, ht, ⟨t, rfl⟩, rfl⟩) hd
theorem Me.aSize (m : Me g f vs news ad S x) (hd : (x == ("__debug__" : Str)) = false := by decide) : PE g f A vs news r (.Attribute (.Name x xp) "_size" pos) (isI S.n) := m.slot (v := .none) (KQ.s_size m.hK) (fun _ h => let ⟨t, ht⟩ := h.size; ⟨_, ht, ⟨t, rfl⟩, rfl⟩) hd
theorem Me.aHf (m : Me g f vs news ad S x) (hd : (x == ("__debug__" : Str)) = false := by decide) : PE g f A vs news r (.Attribute (.Name x xp) "_hash_func" pos) (· = .ref S.hf) := m.slot (v := .none) (KQ.s_hash_func m.hK) (fun _ h => ⟨_, h.hf, rfl, rfl⟩) hd

theorem getBit {b : BA} {n : Nat} {bits : Nat → Bool} {o : Expr} (cx : Cx g f) (hK : IsK g) (M : BAe news b n bits) (rm : Rm f A 4) (ho : PE g f A vs news r o (· = .ref b.i)) (hi : PE g f A vs news r ix (isI i)) (hlt : i < n)
    (hsub : ∀ a v, subscripted ix true (.ref a) v = runValue (.builtin "lifetime.subscript" ⟨[.ref a, v], []⟩)) : PE g f A vs news r (.Subscript o ix pos) (isI (bi (bits i))) := by
  obtain ⟨es, ne, its, ep, M⟩ := M
  refine PE.subOwn cx (KB.m__getitem__ hK) ho hi M.hi M.hd ?_ (hsub _)
  rintro _ ⟨t, rfl⟩
  exact getitem_ hK cx rm.in1 M hlt
theorem Me.gOcc (m : Me g f vs news ad S x) (rm : Rm f A 4) (hi : PE g f A vs news r ix (isI i)) (hlt : i < S.n)
    (hsub : ∀ a v, subscripted ix true (.ref a) v = runValue (.builtin "lifetime.subscript" ⟨[.ref a, v], []⟩) := by intros; rfl) (hd : (x == ("__debug__" : Str)) = false := by decide) : PE g f A vs news r (.Subscript (.Attribute (.Name x xp) "_is_occupied" p1) ix pos) (isI (bi (S.occ i))) :=
  getBit m.cx m.hK m.hq.o rm (m.aOcc hd) hi hlt hsub
theorem Me.gCon (m : Me g f vs news ad S x) (rm : Rm f A 4) (hi : PE g f A vs news r ix (isI i)) (hlt : i < S.n)
    (hsub : ∀ a v, subscripted ix true (.ref a) v = runValue (.builtin "lifetime.subscript" ⟨[.ref a, v], []⟩) := by intros; rfl) (hd : (x == ("__debug__" : Str)) = false := by decide) : PE g f A vs news r (.Subscript (.Attribute (.Name x xp) "_is_continuation" p1) ix pos) (isI (bi (S.con i))) :=
  getBit m.cx m.hK m.hq.c rm (m.aCon hd) hi hlt hsub
theorem Me.gShf (m : Me g f vs news ad S x) (rm : Rm f A 4) (hi : PE g f A vs news r ix (isI i)) (hlt : i < S.n)
    (hsub : ∀ a v, subscripted ix true (.ref a) v = runValue (.builtin "lifetime.subscript" ⟨[.ref a, v], []⟩) := by intros; rfl) (hd : (x == ("__debug__" : Str)) = false := by decide) : PE g f A vs news r (.Subscript (.Attribute (.Name x xp) "_is_shifted" p1) ix pos) (isI (bi (S.shf i))) :=
  getBit m.cx m.hK m.hq.s rm (m.aShf hd) hi hlt hsub
theorem Me.gFil (m : Me g f vs news ad S x) (hi : PE g f A vs news r ix (isI i)) (hlt : i < S.n)
    (hsub : ∀ a k t, subscripted ix false (.ref a) (.int k t) = operate [.ref a, .int k t] (getItem (.ref a) (.int k t)) := by intros; rfl) (hd : (x == ("__debug__" : Str)) = false := by decide) : PE g f A vs news r (.Subscript (.Attribute (.Name x xp) "_filter" p1) ix pos) (isI (S.fil i)) := by
  obtain ⟨its, ep, h1, h2⟩ := m.hq.fl
  obtain ⟨t, ht⟩ := h2.2 i hlt
  have := m.hq.small
  exact PE.item (m.aFil hd) hi h1 (by omega) (by omega) ht ⟨_, rfl⟩ (fun t => hsub _ _ _)
/-- x + 1 & mod and x - 1 & mod -/
theorem Me.nx (m : Me g f vs news ad S x) (hi : PE g f A vs news r e (isI i)) (hd : (x == ("__debug__" : Str)) = false := by decide) : PE g f A vs news r (.BinOp (.BinOp e .Add (.Constant (.int 1) 0 p1) p2) .BitAnd (.Attribute (.Name x xp) "_QuotientFilter__mod_size" pos) p2') (isI (S.nx i)) := by
  refine PE.toI (PE.band (PE.add hi PE.cInt) (m.aMod hd)) ?_
  rw [kbt_mask, QS.nx, m.hq.n_eq]; simp
theorem Me.pv (m : Me g f vs news ad S x) (hi : PE g f A vs news r e (isI i)) (hd : (x == ("__debug__" : Str)) = false := by decide) : PE g f A vs news r (.BinOp (.BinOp e .Sub (.Constant (.int 1) 0 p1) p2) .BitAnd (.Attribute (.Name x xp) "_QuotientFilter__mod_size" pos) p2') (isI (S.pv i)) := by
  refine PE.toI (PE.band (PE.sub hi PE.cInt) (m.aMod hd)) ?_
  have h := m.hq.pos
  rw [kbt_mask, QS.pv, m.hq.n_eq] at *
  have e2 : ((2 : Int) ^ S.q) = ((2 ^ S.q : Nat) : Int) := by simp
  rw [e2]
  generalize 2 ^ S.q = z at *
  have : ((i + z - 1 : Nat) : Int) = (i - 1 : Int) + z := by omega
  rw [Int.natCast_emod, this, Int.add_emod_right]
theorem Me.nx_lt (m : Me g f vs news ad S x) : S.nx i < S.n := Nat.mod_lt _ m.hq.pos
theorem Me.pv_lt (m : Me g f vs news ad S x) : S.pv i < S.n := Nat.mod_lt _ m.hq.pos
theorem Me.dx (m : Me g f vs news ad S x) : ∃ sl ne, (ad.x, instS 476 ad.dx sl) ∈ news ∧ (ad.dx, dictOf [] ne) ∈ news := let ⟨sl, h1, _⟩ := m.hq.self; let ⟨ne, h2⟩ := m.hq.dx; ⟨sl, ne, h1, h2⟩
/-- a method of self, no arguments or some -/
theorem Me.meth0 {attr : Str} {fa : Addr} {P : Value → Ledger → Rs → Prop} (m : Me g f vs news ad S x) (ok : MethOK g.K 476 attr fa) (hc : CL g f A vs news r fa [.ref ad.x] P) (he : MShape (.Name x xp) attr p1 [] pos f.env := by exact ⟨_, rfl⟩) (hd : (x == ("__debug__" : Str)) = false := by decide) :
    EX g f A vs news r (.Call (.Attribute (.Name x xp) attr p1) [] [] pos) P := by
  obtain ⟨sl, ne, h1, h2⟩ := m.dx
  exact EX.meth0 m.cx ok (m.self hd) h1 h2 rfl hc he
theorem Me.meth1 {attr : Str} {fa : Addr} {P : Value → Ledger → Rs → Prop} {P1 : Value → Prop} {e1 : Expr} (m : Me g f vs news ad S x) (ok : MethOK g.K 476 attr fa) (h1 : PE g f A vs news r e1 P1) (hc : ∀ v, P1 v → CL g f A vs news r fa [.ref ad.x, v] P) (he : MShape (.Name x xp) attr p1 [e1] pos f.env := by exact ⟨_, rfl⟩)
    (he1 : starEach [e1] f.env = (false, eval e1 f.env) :: starEach [] f.env := by rfl) (hd : (x == ("__debug__" : Str)) = false := by decide) : EX g f A vs news r (.Call (.Attribute (.Name x xp) attr p1) [e1] [] pos) P := by
  obtain ⟨sl, ne, h1', h2'⟩ := m.dx
  refine EX.meth m.cx ok (m.self hd) h1' h2' rfl (AR.cons h1 AR.nil he1) ?_ he he1 rfl
  rintro _ ⟨v, _, rfl, p, rfl⟩
  exact hc v p
theorem Me.meth2 {attr : Str} {fa : Addr} {P : Value → Ledger → Rs → Prop} {P1 P2 : Value → Prop} {e1 e2 : Expr} (m : Me g f vs news ad S x) (ok : MethOK g.K 476 attr fa) (h1 : PE g f A vs news r e1 P1) (h2 : PE g f A vs news r e2 P2) (hc : ∀ v u, P1 v → P2 u → CL g f A vs news r fa [.ref ad.x, v, u] P) (he : MShape (.Name x xp) attr p1 [e1, e2] pos f.env := by exact ⟨_, rfl⟩)
    (he1 : starEach [e1, e2] f.env = (false, eval e1 f.env) :: starEach [e2] f.env := by rfl) (he2 : starEach [e2] f.env = (false, eval e2 f.env) :: starEach [] f.env := by rfl) (hp : (backTo pos (starEach [e2] f.env)).any (·.1) = false := by rfl) (hd : (x == ("__debug__" : Str)) = false := by decide) : EX g f A vs news r (.Call (.Attribute (.Name x xp) attr p1) [e1, e2] [] pos) P := by
  obtain ⟨sl, ne, h1', h2'⟩ := m.dx
  refine EX.meth m.cx ok (m.self hd) h1' h2' rfl (AR.cons h1 (AR.cons h2 AR.nil he2) he1) ?_ he he1 hp
  rintro _ ⟨v, _, rfl, p, u, _, rfl, p', rfl⟩
  exact hc v u p p'

theorem is_empty (hK : IsK g) (cx : Cx g f) (rm : Rm f A 5) (hq : QFm news ad S) (hi : i < S.n) :
    CL g f A vs news r 465 [.ref ad.x, .int i t] (still news r (isB (S.emp i))) := by
  refine' CL.enter (d := 4) cx rm ["self", "elt"] [] ?ho ?hcd ?hb ?hl ?hok ?_
  case ho => refine IsK.look hK ?_; k_is
  case hcd => refine IsK.code hK ?_; k_is
  case hb => exact rfl
  case hl => exact rfl
  case hok => decide +kernel
  clear cx rm
  intro f' A' s' B hs
  have cx := B.cx
  have rm := B.rm
  have n0 := B.at (i := 0) rfl
  have n1 := B.at (i := 1) rfl
  clear B
  refine X.fin hs (PE.toB (PE.cmpEq (PE.add (PE.add (Me.gOcc ⟨cx, hK, hq, 0, n0, rfl⟩ rm (PE.nameI cx n1 rfl) hi) (Me.gCon ⟨cx, hK, hq, 0, n0, rfl⟩ rm (PE.nameI cx n1 rfl) hi)) (Me.gShf ⟨cx, hK, hq, 0, n0, rfl⟩ rm (PE.nameI cx n1 rfl) hi)) PE.cInt) ?_)
  unfold QS.emp bi
  cases S.occ i <;> cases S.con i <;> cases S.shf i <;> rfl
theorem is_cst (hK : IsK g) (cx : Cx g f) (rm : Rm f A 5) (hq : QFm news ad S) (hi : i < S.n) :
    CL g f A vs news r 444 [.ref ad.x, .int i t] (still news r (isB (S.cst i))) := by
  refine' CL.enter (d := 4) cx rm ["self", "elt"] [] ?ho ?hcd ?hb ?hl ?hok ?_
  case ho => refine IsK.look hK ?_; k_is
  case hcd => refine IsK.code hK ?_; k_is
  case hb => exact rfl
  case hl => exact rfl
  case hok => decide +kernel
  clear cx rm
  intro f' A' s' B hs
  have cx := B.cx
  have rm := B.rm
  have n0 := B.at (i := 0) rfl
  have n1 := B.at (i := 1) rfl
  clear B
  refine X.fin hs (PE.toB (PE.and3 (PE.cmpEq (Me.gOcc ⟨cx, hK, hq, 0, n0, rfl⟩ rm (PE.nameI cx n1 rfl) hi) PE.cInt) (fun _ => PE.cmpEq (Me.gCon ⟨cx, hK, hq, 0, n0, rfl⟩ rm (PE.nameI cx n1 rfl) hi) PE.cInt) (fun _ _ => PE.cmpEq (Me.gShf ⟨cx, hK, hq, 0, n0, rfl⟩ rm (PE.nameI cx n1 rfl) hi) PE.cInt)) ?_)
  unfold QS.cst bi
  cases S.occ i <;> cases S.con i <;> cases S.shf i <;> rfl
theorem is_rst (hK : IsK g) (cx : Cx g f) (rm : Rm f A 5) (hq : QFm news ad S) (hi : i < S.n) :
    CL g f A vs news r 451 [.ref ad.x, .int i t] (still news r (isB (S.rst i))) := by
  refine' CL.enter (d := 4) cx rm ["self", "elt"] [] ?ho ?hcd ?hb ?hl ?hok ?_
  case ho => refine IsK.look hK ?_; k_is
  case hcd => refine IsK.code hK ?_; k_is
  case hb => exact rfl
  case hl => exact rfl
  case hok => decide +kernel
  clear cx rm
  intro f' A' s' B hs
  have cx := B.cx
  have rm := B.rm
  have n0 := B.at (i := 0) rfl
  have n1 := B.at (i := 1) rfl
  clear B
  refine X.fin hs (PE.toB (PE.and2 (PE.cmpNe (Me.gCon ⟨cx, hK, hq, 0, n0, rfl⟩ rm (PE.nameI cx n1 rfl) hi) PE.cInt) (fun _ => PE.or2 (PE.cmpEq (Me.gOcc ⟨cx, hK, hq, 0, n0, rfl⟩ rm (PE.nameI cx n1 rfl) hi) PE.cInt) (fun _ => PE.cmpEq (Me.gShf ⟨cx, hK, hq, 0, n0, rfl⟩ rm (PE.nameI cx n1 rfl) hi) PE.cInt))) ?_)
  unfold QS.rst bi
  cases S.occ i <;> cases S.con i <;> cases S.shf i <;> rfl
end
end Mine
end

section
set_option maxRecDepth 100000
open PySem PySem.W PyProof.Rows PySem.Calls
set_option maxHeartbeats 4000000
namespace Mine
theorem dummyFill4 : (hd.heap_39 = hd.heap_39) ∧ (PySem.Challenge.rw_sv0018_01 = PySem.Challenge.rw_sv0018_01) := by
  k_fill
  exact ⟨rfl, rfl⟩
theorem bootNone (hK : IsK g) (h : nsIn (hd.heap_39 g.w.params) mainGlobals x = some none) : nsIn g.K mainGlobals x = some none := hK ▸ h
section
variable {g : Gl} {f : Fm} {A : Around} {vs : List (Option Value)} {news : Ledger} {r : Rs} {s : Shared}
variable {ad : QA} {S : QS} {i j : Nat} {t t' : Tok} {x : Str} {xp p1 p2 pos : Pos} {ix e : Expr} {d : Nat}

theorem Me.emp (m : Me g f vs news ad S x) (rm : Rm f A 5) (hi : PE g f A vs news r ix (isI i)) (hlt : i < S.n) (he : MShape (.Name x xp) "_is_empty_element" p1 [ix] pos f.env := by exact ⟨_, rfl⟩)
    (he1 : starEach [ix] f.env = (false, eval ix f.env) :: starEach [] f.env := by rfl) (hd : (x == ("__debug__" : Str)) = false := by decide) : PE g f A vs news r (.Call (.Attribute (.Name x xp) "_is_empty_element" p1) [ix] [] pos) (isB (S.emp i)) :=
  PE.of (m.meth1 (KQ.m_is_empty_element m.hK) hi (fun _ ⟨t, e⟩ => by rw [e]; exact is_empty m.hK m.cx rm m.hq hlt) he he1 hd)
theorem Me.cst (m : Me g f vs news ad S x) (rm : Rm f A 5) (hi : PE g f A vs news r ix (isI i)) (hlt : i < S.n) (he : MShape (.Name x xp) "_is_cluster_start" p1 [ix] pos f.env := by exact ⟨_, rfl⟩)
    (he1 : starEach [ix] f.env = (false, eval ix f.env) :: starEach [] f.env := by rfl) (hd : (x == ("__debug__" : Str)) = false := by decide) : PE g f A vs news r (.Call (.Attribute (.Name x xp) "_is_cluster_start" p1) [ix] [] pos) (isB (S.cst i)) :=
  PE.of (m.meth1 (KQ.m_is_cluster_start m.hK) hi (fun _ ⟨t, e⟩ => by rw [e]; exact is_cst m.hK m.cx rm m.hq hlt) he he1 hd)
theorem Me.rst (m : Me g f vs news ad S x) (rm : Rm f A 5) (hi : PE g f A vs news r ix (isI i)) (hlt : i < S.n) (he : MShape (.Name x xp) "_is_run_start" p1 [ix] pos f.env := by exact ⟨_, rfl⟩)
    (he1 : starEach [ix] f.env = (false, eval ix f.env) :: starEach [] f.env := by rfl) (hd : (x == ("__debug__" : Str)) = false := by decide) : PE g f A vs news r (.Call (.Attribute (.Name x xp) "_is_run_start" p1) [ix] [] pos) (isB (S.rst i)) :=
  PE.of (m.meth1 (KQ.m_is_run_start m.hK) hi (fun _ ⟨t, e⟩ => by rw [e]; exact is_rst m.hK m.cx rm m.hq hlt) he he1 hd)

theorem is_rcs (hK : IsK g) (cx : Cx g f) (rm : Rm f A 6) (hq : QFm news ad S) (hi : i < S.n) :
    CL g f A vs news r 458 [.ref ad.x, .int i t] (still news r (isB (S.rcs i))) := by
  refine' CL.enter (d := 5) cx rm ["self", "elt"] [] ?ho ?hcd ?hb ?hl ?hok ?_
  case ho => refine IsK.look hK ?_; k_is
  case hcd => refine IsK.code hK ?_; k_is
  case hb => exact rfl
  case hl => exact rfl
  case hok => decide +kernel
  clear cx rm
  intro f' A' s' B hs
  have cx := B.cx
  have rm := B.rm
  have n0 := B.at (i := 0) rfl
  have n1 := B.at (i := 1) rfl
  have k1 := B.glob (x := "bool") rfl
  clear B
  refine X.if hs (PT.val (Me.cst ⟨cx, hK, hq, 0, n0, rfl⟩ rm (PE.nameI cx n1 rfl) hi) (fun _ => rfl)) ?_ ?_
  · intro q s₁ hs
    refine X.finT hs (PE.toB PE.cBool ?_)
    simp [QS.rcs, q]
  · intro q s₁ hs
    refine X.nil (g := g) hs (X.fin hs (PE.toB (PE.toBool cx k1 (bootNone hK (by k_is)) (by boot_fast) (Me.rst ⟨cx, hK, hq, 0, n0, rfl⟩ rm (PE.nameI cx n1 rfl) hi)) ?_))
    simp [QS.rcs, q]
theorem Me.rcs (m : Me g f vs news ad S x) (rm : Rm f A 6) (hi : PE g f A vs news r ix (isI i)) (hlt : i < S.n) (he : MShape (.Name x xp) "_is_run_or_cluster_start" p1 [ix] pos f.env := by exact ⟨_, rfl⟩)
    (he1 : starEach [ix] f.env = (false, eval ix f.env) :: starEach [] f.env := by rfl) (hd : (x == ("__debug__" : Str)) = false := by decide) : PE g f A vs news r (.Call (.Attribute (.Name x xp) "_is_run_or_cluster_start" p1) [ix] [] pos) (isB (S.rcs i)) :=
  PE.of (m.meth1 (KQ.m_is_run_or_cluster_start m.hK) hi (fun _ ⟨t, e⟩ => by rw [e]; exact is_rcs m.hK m.cx rm m.hq hlt) he he1 hd)

theorem get_start (hK : IsK g) (cx : Cx g f) (rm : Rm f A 6) (hq : QFm news ad S) {q : Nat} (hi : q < S.n) {st : Nat} (he : S.getStart q = some st) :
    CL g f A vs news r 367 [.ref ad.x, .int q t] (still news r (isI st)) := by
  refine' CL.enter (d := 5) cx rm ["self", "quotient"] ["j", "cnts"] ?ho ?hcd ?hb ?hl ?hok ?_
  case ho => refine IsK.look hK ?_; k_is
  case hcd => refine IsK.code hK ?_; k_is
  case hb => exact rfl
  case hl => exact rfl
  case hok => decide +kernel
  clear cx rm
  intro f' A' s' B hs
  have cx := B.cx
  have rm := B.rm
  have n0 := B.at (i := 0) rfl
  have n1 := B.at (i := 1) rfl
  have n2 := B.at (i := 2) rfl
  have n3 := B.at (i := 3) rfl
  clear B
  unfold QS.getStart at he
  refine X.if hs (PT.val (Me.emp ⟨cx, hK, hq, 0, n0, rfl⟩ rm (PE.nameI cx n1 rfl) hi) (fun _ => rfl)) ?_ ?_
  · intro c s₁ hs
    rw [if_pos c] at he
    cases he
    exact X.finT hs (PE.nameI cx n1 rfl)
  intro c s₁ hs
  rw [if_neg (by rw [c]; decide)] at he
  obtain ⟨⟨jf, cf⟩, hb, hf⟩ := Option.bind_eq_some_iff.mp he
  refine X.nil (g := g) hs ?_
  refine X.assign cx hs n2 rfl (PE.nameI cx n1 rfl) ?_
  rintro _ s₁ ⟨tj, rfl⟩ hs
  refine X.assign cx hs n3 rfl PE.cInt ?_
  rintro _ s₁ ⟨tc, rfl⟩ hs
  refine X.while (fun k vs news' r' => news' = news ∧ r' = r ∧ ∃ (j c : Nat) (tj tc : Tok), j < S.n ∧ vs = [some (.ref ad.x), some (.int q t), some (.int j tj), some (.int c tc)] ∧ S.gsBack q k j c = some (jf, cf))
    (fun vs news' r' => news' = news ∧ r' = r ∧ jf < S.n ∧ ∃ (tj tc : Tok), vs = [some (.ref ad.x), some (.int q t), some (.int jf tj), some (.int cf tc)]) S.fuel ⟨rfl, rfl, q, 0, tj, tc, hi, rfl, hb⟩ hs ?_ ?_
  · rintro k vs news' r' s ⟨rfl, rfl, j, c, tj, tc, hj, rfl, he⟩ hs
    refine ⟨true, PT.val PE.cBool (fun _ => rfl), (fun h => nomatch h), fun _ s₁ hs => ?_⟩
    cases k with
    | zero => cases he
    | succ k =>
      simp only [QS.gsBack] at he
      refine X.ifJ (c := j == q || S.occ j) (fun s => ∃ tc, St f' [some (.ref ad.x), some (.int q t), some (.int j tj), some (.int (if j == q || S.occ j then c + 1 else c : Nat) tc)] news' r' s) hs
        (PT.toB (PT.or2 (PT.eq (PE.nameI cx n2 rfl) (PE.nameI cx n1 rfl)) (fun _ => PT.eq (Me.gOcc ⟨cx, hK, hq, 0, n0, rfl⟩ rm.less1 (PE.nameI cx n2 rfl) hj) PE.cInt)) ?_) ?_ ?_ ?_
      · rw [bi_eq1, natBeq]
      · intro q s₁ hs
        rw [if_pos q]
        refine X.addTo cx hs n3 rfl PE.cInt ?_
        intro tc s₁ hs
        exact X.nil (g := g) hs ⟨rfl, _, hs⟩
      · intro q s₁ hs
        rw [if_neg (by rw [q]; decide)]
        exact X.nil (g := g) hs ⟨rfl, _, hs⟩
      · rintro s₁ ⟨tc, hs⟩
        refine X.if hs (PT.toB (PT.eq (Me.gShf ⟨cx, hK, hq, 0, n0, rfl⟩ rm.less1 (PE.nameI cx n2 rfl) hj) PE.cInt) (bi_eq1 _)) ?_ ?_
        · intro q s₁ hs
          rw [if_pos q] at he
          refine X.assign cx hs n2 rfl (Me.pv ⟨cx, hK, hq, 0, n0, rfl⟩ (PE.nameI cx n2 rfl)) ?_
          rintro _ s₁ ⟨tj, rfl⟩ hs
          exact X.nil (g := g) hs (X.nil (g := g) hs ⟨k, _, _, _, Nat.lt_succ_self k, ⟨rfl, rfl, _, _, _, _, Nat.mod_lt _ hq.pos, rfl, he⟩, hs⟩)
        · intro q s₁ hs
          rw [if_neg (by rw [q]; decide)] at he
          cases he
          exact X.brk hs ⟨_, _, _, ⟨rfl, rfl, hj, _, _, rfl⟩, hs⟩
  · rintro vs' news' r' s₁ ⟨rfl, rfl, hj, tj, tc, rfl⟩ hs
    refine X.while (fun k vs news'' r'' => news'' = news' ∧ r'' = r' ∧ ∃ (j c : Nat) (tj tc : Tok), j < S.n ∧ vs = [some (.ref ad.x), some (.int q t), some (.int j tj), some (.int c tc)] ∧ S.gsFwd k j c = some st)
      (fun vs news'' r'' => news'' = news' ∧ r'' = r' ∧ ∃ (cf : Int) (tj tc : Tok), vs = [some (.ref ad.x), some (.int q t), some (.int st tj), some (.int cf tc)]) S.fuel ⟨rfl, rfl, jf, cf, tj, tc, hj, rfl, hf⟩ hs ?_ ?_
    · rintro k vs news'' r'' s ⟨rfl, rfl, j, c, tj, tc, hj, rfl, he⟩ hs
      refine ⟨true, PT.val PE.cBool (fun _ => rfl), (fun h => nomatch h), fun _ s₁ hs => ?_⟩
      cases k with
      | zero => cases he
      | succ k =>
        simp only [QS.gsFwd] at he
        refine X.if hs (PT.toB (PT.eq (Me.gCon ⟨cx, hK, hq, 0, n0, rfl⟩ rm.less1 (PE.nameI cx n2 rfl) hj) PE.cInt) (bi_eq0 _)) ?_ ?_
        · intro q s₁ hs
          rw [if_pos q] at he
          refine X.if hs (PT.eq (PE.nameI cx n3 rfl) PE.cInt) ?_ ?_
          · intro q s₁ hs
            have : c = 1 := by have := eq_of_beq q; omega
            subst this
            cases he
            exact X.brk hs ⟨_, _, _, ⟨rfl, rfl, _, _, _, rfl⟩, hs⟩
          · intro q s₁ hs
            have q' : (c == 1) = false := by rw [beq_eq_false_iff_ne] at q ⊢; intro z; exact q (by rw [z]; rfl)
            rw [if_neg (by rw [q']; decide)] at he
            split at he
            · cases he
            · rename_i hc0
              have hc0 : c ≠ 0 := by simpa using hc0
              refine X.nil (g := g) hs (X.subTo cx hs n3 rfl PE.cInt ?_)
              intro tc s₁ hs
              have e : ((c : Int) - 1) = ((c - 1 : Nat) : Int) := by omega
              rw [e] at hs
              refine X.nil (g := g) hs (X.assign cx hs n2 rfl (Me.nx ⟨cx, hK, hq, 0, n0, rfl⟩ (PE.nameI cx n2 rfl)) ?_)
              rintro _ s₁ ⟨tj, rfl⟩ hs
              exact X.nil (g := g) hs ⟨k, _, _, _, Nat.lt_succ_self k, ⟨rfl, rfl, _, _, _, _, Nat.mod_lt _ hq.pos, rfl, he⟩, hs⟩
        · intro q s₁ hs
          rw [if_neg (by rw [q]; decide)] at he
          refine X.nil (g := g) hs (X.assign cx hs n2 rfl (Me.nx ⟨cx, hK, hq, 0, n0, rfl⟩ (PE.nameI cx n2 rfl)) ?_)
          rintro _ s₁ ⟨tj, rfl⟩ hs
          exact X.nil (g := g) hs ⟨k, _, _, _, Nat.lt_succ_self k, ⟨rfl, rfl, _, _, _, _, Nat.mod_lt _ hq.pos, rfl, he⟩, hs⟩
    · rintro vs' news'' r'' s₁ ⟨rfl, rfl, cf, tj, tc, rfl⟩ hs
      exact X.finT hs (PE.nameI cx n2 rfl)
end
end Mine
end

section
set_option maxRecDepth 100000
open PySem PySem.W PyProof.Rows PySem.Calls
set_option maxHeartbeats 4000000
namespace Mine
theorem dummyFill5 : (hd.heap_39 = hd.heap_39) ∧ (PySem.Challenge.rw_sv0018_01 = PySem.Challenge.rw_sv0018_01) := by
  k_fill
  exact ⟨rfl, rfl⟩
def oi : Option Nat → Int
  | none => -1
  | some i => i
section
variable {g : Gl} {f : Fm} {A : Around} {vs : List (Option Value)} {news : Ledger} {r : Rs} {s : Shared}
variable {ad : QA} {S : QS} {i j : Nat} {t t' : Tok} {x : Str} {xp p1 p2 pos : Pos} {ix e : Expr} {d : Nat}

theorem contained (hK : IsK g) (cx : Cx g f) (rm : Rm f A 7) (hq : QFm news ad S) {qq rr : Nat} (hi : qq < S.n) {res : Option Nat} (he : S.contained qq rr = some res) :
    CL g f A vs news r 437 [.ref ad.x, .int qq t, .int rr t'] (still news r (isI (oi res))) := by
  refine' CL.enter (d := 6) cx rm ["self", "q", "r"] ["start_idx", "starts"] ?ho ?hcd ?hb ?hl ?hok ?_
  case ho => refine IsK.look hK ?_; k_is
  case hcd => refine IsK.code hK ?_; k_is
  case hb => exact rfl
  case hl => exact rfl
  case hok => decide +kernel
  clear cx rm
  intro f' A' s' B hs
  have cx := B.cx
  have rm := B.rm
  have n0 := B.at (i := 0) rfl
  have n1 := B.at (i := 1) rfl
  have n2 := B.at (i := 2) rfl
  have n3 := B.at (i := 3) rfl
  have n4 := B.at (i := 4) rfl
  clear B
  unfold QS.contained at he
  refine X.if hs (PT.toB (PT.eq (Me.gOcc ⟨cx, hK, hq, 0, n0, rfl⟩ rm.less1.less1 (PE.nameI cx n1 rfl) hi) PE.cInt) (bi_eq0 _)) ?_ ?_
  · intro c s₁ hs
    rw [if_pos c] at he
    cases he
    exact X.finT hs (PE.neg PE.cInt)
  intro c s₁ hs
  rw [if_neg (by rw [c]; decide)] at he
  obtain ⟨st, hst, hl⟩ := Option.bind_eq_some_iff.mp he
  refine X.nil (g := g) hs (X.assignV cx hs n3 rfl (Me.meth1 ⟨cx, hK, hq, 0, n0, rfl⟩ (KQ.m_get_start_index hK) (PE.nameI cx n1 rfl) (fun v ⟨t, e⟩ => by rw [e]; exact get_start hK cx rm hq hi hst)) ?_)
  rintro _ _ _ s₁ ⟨⟨ts, rfl⟩, rfl, rfl⟩ hs
  refine X.assign cx hs n4 rfl PE.cInt ?_
  rintro _ s₁ ⟨tc, rfl⟩ hs
  have hsl : st < S.n := QS.getStart_lt hst hi hq.pos
  refine X.while (fun k vs news' r' => news = news' ∧ r = r' ∧ ∃ (j c : Nat) (tj tc : Tok), j < S.n ∧ vs = [some (.ref ad.x), some (.int qq t), some (.int rr t'), some (.int j tj), some (.int c tc)] ∧ S.cLoop rr k j c = some res)
    (fun vs news' r' => news = news' ∧ r = r' ∧ res = none) S.fuel ⟨rfl, rfl, st, 0, ts, tc, hsl, rfl, hl⟩ hs ?_ ?_
  · rintro k vs news' r' s ⟨rfl, rfl, j, c, tj, tc, hj, rfl, he⟩ hs
    cases k with
    | zero => cases he
    | succ k =>
      simp only [QS.cLoop] at he
      refine ⟨_, PT.isB (Me.emp ⟨cx, hK, hq, 0, n0, rfl⟩ rm.less1 (PE.nameI cx n3 rfl) hj) PE.cBool, ?_, ?_⟩
      · intro q
        have q : S.emp j = true := by revert q; cases S.emp j <;> decide
        rw [if_pos q] at he
        cases he
        exact ⟨rfl, rfl, rfl⟩
      intro q s₁ hs
      have q : S.emp j = false := by revert q; cases S.emp j <;> decide
      rw [if_neg (by rw [q]; decide)] at he
      refine X.ifJ (c := !S.con j) (fun s => ∃ tc, St f' [some (.ref ad.x), some (.int qq t), some (.int rr t'), some (.int j tj), some (.int (if !S.con j then c + 1 else c : Nat) tc)] news r s) hs
        (PT.toB (PT.eq (Me.gCon ⟨cx, hK, hq, 0, n0, rfl⟩ rm.less1.less1 (PE.nameI cx n3 rfl) hj) PE.cInt) (bi_eq0 _)) ?_ ?_ ?_
      · intro q s₁ hs
        rw [if_pos q]
        refine X.addTo cx hs n4 rfl PE.cInt ?_
        intro tc s₁ hs
        exact X.nil (g := g) hs ⟨rfl, _, hs⟩
      · intro q s₁ hs
        rw [if_neg (by rw [q]; decide)]
        exact X.nil (g := g) hs ⟨rfl, _, hs⟩
      rintro s₁ ⟨tc, hs⟩
      refine X.if (b₁ := (if !S.con j then c + 1 else c) == 2 || decide (rr < S.fil j)) hs (PT.toB (PT.or2 (PT.eq (PE.nameI cx n4 rfl) PE.cInt) (fun _ => PT.gt (Me.gFil ⟨cx, hK, hq, 0, n0, rfl⟩ (PE.nameI cx n3 rfl) hj) (PE.nameI cx n2 rfl))) ?_) ?_ ?_
      · rw [natLt]; congr 1; exact natBeq _ 2
      · intro q s₁ hs
        rw [if_pos q] at he
        cases he
        exact X.brk hs ⟨_, _, _, ⟨rfl, rfl, rfl⟩, hs⟩
      intro q s₁ hs
      rw [if_neg (by rw [q]; decide)] at he
      refine X.nil (g := g) hs (X.if hs (PT.toB (PT.eq (Me.gFil ⟨cx, hK, hq, 0, n0, rfl⟩ (PE.nameI cx n3 rfl) hj) (PE.nameI cx n2 rfl)) (natBeq _ _)) ?_ ?_)
      · intro q s₁ hs
        rw [if_pos q] at he
        cases he
        exact X.finT hs (PE.nameI cx n3 rfl)
      intro q s₁ hs
      rw [if_neg (by rw [q]; decide)] at he
      refine X.nil (g := g) hs (X.assign cx hs n3 rfl (Me.nx ⟨cx, hK, hq, 0, n0, rfl⟩ (PE.nameI cx n3 rfl)) ?_)
      rintro _ s₁ ⟨tj, rfl⟩ hs
      exact X.nil (g := g) hs ⟨k, _, _, _, Nat.lt_succ_self k, ⟨rfl, rfl, _, _, _, _, Nat.mod_lt _ hq.pos, rfl, he⟩, hs⟩
  · rintro vs' news' r' s₁ ⟨rfl, rfl, rfl⟩ hs
    exact X.finT hs (PE.neg PE.cInt)

theorem quot_is (S : QS) (h : Nat) : (h : Int).fdiv (2 ^ (32 - S.q)) = (S.quot h : Nat) := by
  have e : ((2 : Int) ^ (32 - S.q)) = ((2 ^ (32 - S.q) : Nat) : Int) := by simp
  rw [e, Int.fdiv_eq_ediv_of_nonneg _ (Int.natCast_nonneg _)]; rfl
theorem rmd_is (S : QS) (h : Nat) : Builtin.bitAnd (h : Int) (1 * 2 ^ (32 - S.q) - 1) = (S.rmd h : Nat) := by
  rw [Int.one_mul, kbt_mask]
  have e : ((2 : Int) ^ (32 - S.q)) = ((2 ^ (32 - S.q) : Nat) : Int) := by simp
  rw [e]; rfl
theorem QFm.quot_lt {l : Ledger} (hq : QFm l ad S) {h : Nat} (hh : h < 2 ^ 32) : S.quot h < S.n := by
  unfold QS.quot
  rw [hq.n_eq]
  apply Nat.div_lt_of_lt_mul
  rw [← Nat.pow_add]
  have := hq.q20
  rw [show 32 - S.q + S.q = 32 by omega]; exact hh
/-- _hash >> self._r and _hash & (1 << self._r) - 1 -/
theorem Me.quot (m : Me g f vs news ad S x) {h : Nat} (hi : PE g f A vs news r e (isI h)) (hd : (x == ("__debug__" : Str)) = false := by decide) : PE g f A vs news r (.BinOp e .RShift (.Attribute (.Name x xp) "_r" p1) pos) (isI (S.quot h)) :=
  PE.toI (PE.shr hi (m.aR hd) (by omega)) (quot_is S h)
theorem Me.rmd (m : Me g f vs news ad S x) {h : Nat} (hi : PE g f A vs news r e (isI h)) (hd : (x == ("__debug__" : Str)) = false := by decide) : PE g f A vs news r (.BinOp e .BitAnd (.BinOp (.BinOp (.Constant (.int 1) 0 p1) .LShift (.Attribute (.Name x xp) "_r" p2) p3) .Sub (.Constant (.int 1) 0 p4) p5) pos) (isI (S.rmd h)) :=
  PE.toI (PE.band hi (PE.sub (PE.shl PE.cInt (m.aR hd) (by omega) (by omega) (by decide)) PE.cInt)) (rmd_is S h)
theorem check_alt (hK : IsK g) (cx : Cx g f) (rm : Rm f A 8) (hq : QFm news ad S) {h : Nat} (hh : h < 2 ^ 32) {b : Bool} (he : S.checkAlt h = some b) :
    CL g f A vs news r 324 [.ref ad.x, .int h t] (still news r (isB b)) := by
  refine' CL.enter (d := 7) cx rm ["self", "_hash"] ["key_quotient", "key_remainder"] ?ho ?hcd ?hb ?hl ?hok ?_
  case ho => refine IsK.look hK ?_; k_is
  case hcd => refine IsK.code hK ?_; k_is
  case hb => exact rfl
  case hl => exact rfl
  case hok => decide +kernel
  clear cx rm
  intro f' A' s' B hs
  have cx := B.cx
  have rm := B.rm
  have n0 := B.at (i := 0) rfl
  have n1 := B.at (i := 1) rfl
  have n2 := B.at (i := 2) rfl
  have n3 := B.at (i := 3) rfl
  clear B
  obtain ⟨res, hres, hb⟩ := Option.map_eq_some_iff.mp he
  refine X.assign cx hs n2 rfl (Me.quot ⟨cx, hK, hq, 0, n0, rfl⟩ (PE.nameI cx n1 rfl)) ?_
  rintro _ s₁ ⟨t2, rfl⟩ hs
  refine X.assign cx hs n3 rfl (Me.rmd ⟨cx, hK, hq, 0, n0, rfl⟩ (PE.nameI cx n1 rfl)) ?_
  rintro _ s₁ ⟨t3, rfl⟩ hs
  refine X.finT hs (PE.toB (PE.cmpNe (PE.of (Me.meth2 ⟨cx, hK, hq, 0, n0, rfl⟩ (KQ.m_contained_at_loc hK) (PE.nameI cx n2 rfl) (PE.nameI cx n3 rfl) (fun v u ⟨t, e⟩ ⟨t', e'⟩ => by rw [e, e']; exact contained hK cx rm hq (hq.quot_lt hh) hres))) (PE.neg PE.cInt)) ?_)
  rw [← hb]
  cases res with
  | none => rfl
  | some i => show ((i : Int) != -1) = true; rw [bne_iff_ne]; omega
end
end Mine
end

section
set_option maxRecDepth 100000
open PySem PySem.W PyProof.Rows PySem.Calls
set_option maxHeartbeats 4000000
namespace Mine
theorem dummyFill6 : (hd.heap_39 = hd.heap_39) ∧ (PySem.Challenge.rw_sv0018_01 = PySem.Challenge.rw_sv0018_01) := by
  k_fill
  exact ⟨rfl, rfl⟩
theorem nodup_ne {α : Type} {l : List α} (nd : l.Nodup) {i j : Nat} {a b : α} (hi : l[i]? = some a) (hj : l[j]? = some b) (h : i ≠ j) : a ≠ b := by
  intro e
  subst e
  obtain ⟨h1, e1⟩ := List.getElem?_eq_some_iff.mp hi
  obtain ⟨h2, e2⟩ := List.getElem?_eq_some_iff.mp hj
  have pw := List.pairwise_iff_getElem.mp nd
  rcases Nat.lt_or_gt_of_ne h with q | q
  · exact pw i j h1 h2 q (e1.trans e2.symm)
  · exact pw j i h2 h1 q (e2.trans e1.symm)
theorem BAm.putOff {l : Ledger} {b : BA} {n : Nat} {bits : Nat → Bool} {es : List DictEntry} {ne : Nat} {its : Array Value} {ep : Nat} {D : Addr} {o : Obj} (h : BAm l b n bits es ne its ep) (h1 : b.i ≠ D) (h2 : b.d ≠ D) (h3 : b.l ≠ D) : BAm (put D o l) b n bits es ne its ep :=
  { h with hi := mem_put_ne h.hi h1, hd := mem_put_ne h.hd h2, hl := mem_put_ne h.hl h3 }
theorem BAm.putOn {l : Ledger} {b : BA} {n : Nat} {bits bits' : Nat → Bool} {es : List DictEntry} {ne : Nat} {its its' : Array Value} {ep : Nat} (h : BAm l b n bits es ne its ep) (h1 : b.i ≠ b.l) (h2 : b.d ≠ b.l) (hb : Bytes n bits' its') : BAm (put b.l (listOf its' ep) l) b n bits' es ne its' ep :=
  { h with hi := mem_put_ne h.hi h1, hd := mem_put_ne h.hd h2, hl := mem_put_self h.hl, by_ := hb }
theorem BAe.putOff {l : Ledger} {b : BA} {n : Nat} {bits : Nat → Bool} {D : Addr} {o : Obj} (h : BAe l b n bits) (h1 : b.i ≠ D) (h2 : b.d ≠ D) (h3 : b.l ≠ D) : BAe (put D o l) b n bits := let ⟨a, b, c, d, e⟩ := h; ⟨a, b, c, d, e.putOff h1 h2 h3⟩

section
variable {l : Ledger} {ad : QA} {S : QS} {o : Obj} {i : Nat} {w : Bool}
theorem QFm.ne (h : QFm l ad S) {i j : Nat} {a b : Addr} (hi : ad.foot[i]? = some a) (hj : ad.foot[j]? = some b) (hne : i ≠ j) : a ≠ b := nodup_ne h.nd hi hj hne
theorem QFm.offX (h : QFm l ad S) {D : Addr} (hD : ad.x ≠ D) : ∃ sl, (ad.x, instS 476 ad.dx sl) ∈ put D o l ∧ Slots sl ad S := let ⟨a, b, c⟩ := h.self; ⟨a, mem_put_ne b hD, c⟩
theorem QFm.offD (h : QFm l ad S) {D : Addr} (hD : ad.dx ≠ D) : ∃ ne, (ad.dx, dictOf [] ne) ∈ put D o l := let ⟨a, b⟩ := h.dx; ⟨a, mem_put_ne b hD⟩
theorem QFm.offF (h : QFm l ad S) {D : Addr} (hD : ad.fl ≠ D) : ∃ its ep, (ad.fl, listOf its ep) ∈ put D o l ∧ FilL S its := let ⟨a, b, c, d⟩ := h.fl; ⟨a, b, mem_put_ne c hD, d⟩

theorem QFm.setOcc {es : List DictEntry} {ne : Nat} {its its' : Array Value} {ep : Nat} (h : QFm l ad S) (M : BAm l ad.o S.n S.occ es ne its ep) (hb : Bytes S.n (upd S.occ i w) its') : QFm (put ad.o.l (listOf its' ep) l) ad (S.setOcc i w) :=
  { h with
    self := (let ⟨a, b, c⟩ := h.offX (h.ne (i := 0) (j := 5) rfl rfl (by decide)); ⟨a, b, { c with }⟩)
    dx := h.offD (h.ne (i := 1) (j := 5) rfl rfl (by decide))
    fl := (let ⟨a, b, c, d⟩ := h.offF (h.ne (i := 2) (j := 5) rfl rfl (by decide)); ⟨a, b, c, d⟩)
    o := ⟨_, _, _, _, M.putOn (h.ne (i := 3) (j := 5) rfl rfl (by decide)) (h.ne (i := 4) (j := 5) rfl rfl (by decide)) hb⟩
    c := h.c.putOff (h.ne (i := 6) (j := 5) rfl rfl (by decide)) (h.ne (i := 7) (j := 5) rfl rfl (by decide)) (h.ne (i := 8) (j := 5) rfl rfl (by decide))
    s := h.s.putOff (h.ne (i := 9) (j := 5) rfl rfl (by decide)) (h.ne (i := 10) (j := 5) rfl rfl (by decide)) (h.ne (i := 11) (j := 5) rfl rfl (by decide)) }
theorem QFm.setCon {es : List DictEntry} {ne : Nat} {its its' : Array Value} {ep : Nat} (h : QFm l ad S) (M : BAm l ad.c S.n S.con es ne its ep) (hb : Bytes S.n (upd S.con i w) its') : QFm (put ad.c.l (listOf its' ep) l) ad (S.setCon i w) :=
  { h with
    self := (let ⟨a, b, c⟩ := h.offX (h.ne (i := 0) (j := 8) rfl rfl (by decide)); ⟨a, b, { c with }⟩)
    dx := h.offD (h.ne (i := 1) (j := 8) rfl rfl (by decide))
    fl := (let ⟨a, b, c, d⟩ := h.offF (h.ne (i := 2) (j := 8) rfl rfl (by decide)); ⟨a, b, c, d⟩)
    c := ⟨_, _, _, _, M.putOn (h.ne (i := 6) (j := 8) rfl rfl (by decide)) (h.ne (i := 7) (j := 8) rfl rfl (by decide)) hb⟩
    o := h.o.putOff (h.ne (i := 3) (j := 8) rfl rfl (by decide)) (h.ne (i := 4) (j := 8) rfl rfl (by decide)) (h.ne (i := 5) (j := 8) rfl rfl (by decide))
    s := h.s.putOff (h.ne (i := 9) (j := 8) rfl rfl (by decide)) (h.ne (i := 10) (j := 8) rfl rfl (by decide)) (h.ne (i := 11) (j := 8) rfl rfl (by decide)) }
theorem QFm.setShf {es : List DictEntry} {ne : Nat} {its its' : Array Value} {ep : Nat} (h : QFm l ad S) (M : BAm l ad.s S.n S.shf es ne its ep) (hb : Bytes S.n (upd S.shf i w) its') : QFm (put ad.s.l (listOf its' ep) l) ad (S.setShf i w) :=
  { h with
    self := (let ⟨a, b, c⟩ := h.offX (h.ne (i := 0) (j := 11) rfl rfl (by decide)); ⟨a, b, { c with }⟩)
    dx := h.offD (h.ne (i := 1) (j := 11) rfl rfl (by decide))
    fl := (let ⟨a, b, c, d⟩ := h.offF (h.ne (i := 2) (j := 11) rfl rfl (by decide)); ⟨a, b, c, d⟩)
    s := ⟨_, _, _, _, M.putOn (h.ne (i := 9) (j := 11) rfl rfl (by decide)) (h.ne (i := 10) (j := 11) rfl rfl (by decide)) hb⟩
    o := h.o.putOff (h.ne (i := 3) (j := 11) rfl rfl (by decide)) (h.ne (i := 4) (j := 11) rfl rfl (by decide)) (h.ne (i := 5) (j := 11) rfl rfl (by decide))
    c := h.c.putOff (h.ne (i := 6) (j := 11) rfl rfl (by decide)) (h.ne (i := 7) (j := 11) rfl rfl (by decide)) (h.ne (i := 8) (j := 11) rfl rfl (by decide)) }
theorem QFm.setFil {its : Array Value} {ep k t : Nat} (h : QFm l ad S) (hf : FilL S its) (hi : i < S.n) : QFm (put ad.fl (listOf (its.setIfInBounds i (.int (k : Nat) t)) ep) l) ad (S.setFil i k) :=
  { h with
    self := (let ⟨a, b, c⟩ := h.offX (h.ne (i := 0) (j := 2) rfl rfl (by decide)); ⟨a, b, { c with }⟩)
    dx := h.offD (h.ne (i := 1) (j := 2) rfl rfl (by decide))
    fl := by
      obtain ⟨a, b, c, d⟩ := h.fl
      refine ⟨_, ep, mem_put_self c, by rw [Array.size_setIfInBounds]; exact hf.1, fun j hj => ?_⟩
      by_cases e : j = i
      · subst e
        refine ⟨t, ?_⟩
        rw [Array.getElem?_setIfInBounds_self_of_lt (by rw [hf.1]; exact hj)]
        show _ = some (Value.int (upd S.fil j k j : Nat) t)
        rw [upd_self]
      · obtain ⟨t', ht⟩ := hf.2 j hj
        refine ⟨t', ?_⟩
        rw [Array.getElem?_setIfInBounds_ne (Ne.symm e)]
        show _ = some (Value.int (upd S.fil i k j : Nat) t')
        rw [upd_ne _ _ e]; exact ht
    o := h.o.putOff (h.ne (i := 3) (j := 2) rfl rfl (by decide)) (h.ne (i := 4) (j := 2) rfl rfl (by decide)) (h.ne (i := 5) (j := 2) rfl rfl (by decide))
    c := h.c.putOff (h.ne (i := 6) (j := 2) rfl rfl (by decide)) (h.ne (i := 7) (j := 2) rfl rfl (by decide)) (h.ne (i := 8) (j := 2) rfl rfl (by decide))
    s := h.s.putOff (h.ne (i := 9) (j := 2) rfl rfl (by decide)) (h.ne (i := 10) (j := 2) rfl rfl (by decide)) (h.ne (i := 11) (j := 2) rfl rfl (by decide)) }
theorem QFm.setAdded {sl : Array (Option Value)} {k t : Nat} (h : QFm l ad S) (hs : Slots sl ad S) (hm : (ad.x, instS 476 ad.dx sl) ∈ l) :
    QFm (put ad.x (instS 476 ad.dx ((sl ++ Array.replicate (3 + 1 - sl.size) none).setIfInBounds 3 (some (.int (k : Nat) t)))) l) ad { S with added := k } :=
  { h with
    self := by
      refine ⟨_, mem_put_self hm, ?_⟩
      have e : sl ++ Array.replicate (3 + 1 - sl.size) none = sl := by rw [hs.sz]; simp
      rw [e]
      have off : ∀ j, j ≠ 3 → (sl.setIfInBounds 3 (some (.int (k : Nat) t)))[j]? = sl[j]? := fun j hj => Array.getElem?_setIfInBounds_ne (Ne.symm hj)
      exact { sz := by rw [Array.size_setIfInBounds]; exact hs.sz
              mod := by rw [off 0 (by decide)]; exact hs.mod
              auto := by rw [off 1 (by decide)]; exact hs.auto
              added := ⟨t, by rw [Array.getElem?_setIfInBounds_self_of_lt (by rw [hs.sz]; decide)]; rfl⟩
              fil := by rw [off 4 (by decide)]; exact hs.fil
              hf := by rw [off 5 (by decide)]; exact hs.hf
              con := by rw [off 7 (by decide)]; exact hs.con
              occ := by rw [off 8 (by decide)]; exact hs.occ
              shf := by rw [off 9 (by decide)]; exact hs.shf
              q := by rw [off 11 (by decide)]; exact hs.q
              r := by rw [off 12 (by decide)]; exact hs.r
              size := by rw [off 13 (by decide)]; exact hs.size }
    dx := h.offD (h.ne (i := 1) (j := 0) rfl rfl (by decide))
    fl := (let ⟨a, b, c, d⟩ := h.offF (h.ne (i := 2) (j := 0) rfl rfl (by decide)); ⟨a, b, c, d⟩)
    o := h.o.putOff (h.ne (i := 3) (j := 0) rfl rfl (by decide)) (h.ne (i := 4) (j := 0) rfl rfl (by decide)) (h.ne (i := 5) (j := 0) rfl rfl (by decide))
    c := h.c.putOff (h.ne (i := 6) (j := 0) rfl rfl (by decide)) (h.ne (i := 7) (j := 0) rfl rfl (by decide)) (h.ne (i := 8) (j := 0) rfl rfl (by decide))
    s := h.s.putOff (h.ne (i := 9) (j := 0) rfl rfl (by decide)) (h.ne (i := 10) (j := 0) rfl rfl (by decide)) (h.ne (i := 11) (j := 0) rfl rfl (by decide)) }
end

section
variable {g : Gl} {f : Fm} {A : Around} {vs : List (Option Value)} {news l R : Ledger} {r : Rs} {s : Shared}
variable {ad : QA} {S : QS} {i j k : Nat} {t t' : Tok} {x : Str} {xp p1 p2 p' pos : Pos} {ix e value : Expr} {d : Nat} {w : Bool} {rest : List Stmt} {Q : Flow → Shared → Prop} {E : Value → Shared → Prop}

/-- self, of a filter in the ledger's first part -/
structure Mu (g : Gl) (f : Fm) (vs : List (Option Value)) (l R : Ledger) (ad : QA) (S : QS) (x : Str) : Prop where
  cx : Cx g f
  hK : IsK g
  hq : QFm l ad S
  nm : ∃ k : Nat, f.ns[k]? = some x ∧ vs[k]? = some (some (.ref ad.x))
theorem Mu.me (m : Mu g f vs l R ad S x) : Me g f vs (l ++ R) ad S x := ⟨m.cx, m.hK, m.hq.app, m.nm⟩

theorem X.setOcc (m : Mu g f vs l R ad S x) (rm : Rm f A 3) (hs : St f vs (l ++ R) r s) (hv : PE g f A vs (l ++ R) r value (isI (bi w))) (hi : PE g f A vs (l ++ R) r ix (isI i)) (hlt : i < S.n)
    (cont : ∀ l' s', QFm l' ad (S.setOcc i w) → St f vs (l' ++ R) r s' → wpAny g.M A (execs rest f.env) Q E s')
    (hsw : swapsWith value (some (.Subscript (.Attribute (.Name x xp) "_is_occupied" p1) ix p')) pos.line f.env = pure false := by rfl) (hd : (x == ("__debug__" : Str)) = false := by decide) :
    wpAny g.M A (execs (.Assign [.Subscript (.Attribute (.Name x xp) "_is_occupied" p1) ix p'] value pos :: rest) f.env) Q E s := by
  obtain ⟨es, ne, its, ep, M⟩ := m.hq.o
  have M' : BAm (l ++ R) ad.o S.n S.occ es ne its ep := M.mono fun _ h => List.mem_append_left _ h
  refine X.setOwn (R := fun news' r' => BitSet (l ++ R) r ad.o S.n S.occ ep i w .none news' r') m.cx (KB.m__setitem__ m.hK) (KB.noseq m.hK) hs hv (m.me.aOcc hd) hi M'.hi M'.hd ?_ ?_ hsw
  · rintro _ _ ⟨t, rfl⟩ ⟨t', rfl⟩
    intro RR s₁ hs₁ k
    exact setitem_ m.hK m.cx rm.less1 M' hlt w RR s₁ hs₁ fun v n' r' s' h => k v n' r' s' ⟨rfl, h.2⟩
  · rintro _ _ s' ⟨_, rfl, its', rfl, hb⟩ hs'
    rw [put_left hs.nd M.hl] at hs'
    exact cont _ s' (m.hq.setOcc M hb) hs'
theorem X.setCon (m : Mu g f vs l R ad S x) (rm : Rm f A 3) (hs : St f vs (l ++ R) r s) (hv : PE g f A vs (l ++ R) r value (isI (bi w))) (hi : PE g f A vs (l ++ R) r ix (isI i)) (hlt : i < S.n)
    (cont : ∀ l' s', QFm l' ad (S.setCon i w) → St f vs (l' ++ R) r s' → wpAny g.M A (execs rest f.env) Q E s')
    (hsw : swapsWith value (some (.Subscript (.Attribute (.Name x xp) "_is_continuation" p1) ix p')) pos.line f.env = pure false := by rfl) (hd : (x == ("__debug__" : Str)) = false := by decide) :
    wpAny g.M A (execs (.Assign [.Subscript (.Attribute (.Name x xp) "_is_continuation" p1) ix p'] value pos :: rest) f.env) Q E s := by
  obtain ⟨es, ne, its, ep, M⟩ := m.hq.c
  have M' : BAm (l ++ R) ad.c S.n S.con es ne its ep := M.mono fun _ h => List.mem_append_left _ h
  refine X.setOwn (R := fun news' r' => BitSet (l ++ R) r ad.c S.n S.con ep i w .none news' r') m.cx (KB.m__setitem__ m.hK) (KB.noseq m.hK) hs hv (m.me.aCon hd) hi M'.hi M'.hd ?_ ?_ hsw
  · rintro _ _ ⟨t, rfl⟩ ⟨t', rfl⟩
    intro RR s₁ hs₁ k
    exact setitem_ m.hK m.cx rm.less1 M' hlt w RR s₁ hs₁ fun v n' r' s' h => k v n' r' s' ⟨rfl, h.2⟩
  · rintro _ _ s' ⟨_, rfl, its', rfl, hb⟩ hs'
    rw [put_left hs.nd M.hl] at hs'
    exact cont _ s' (m.hq.setCon M hb) hs'
theorem X.setShf (m : Mu g f vs l R ad S x) (rm : Rm f A 3) (hs : St f vs (l ++ R) r s) (hv : PE g f A vs (l ++ R) r value (isI (bi w))) (hi : PE g f A vs (l ++ R) r ix (isI i)) (hlt : i < S.n)
    (cont : ∀ l' s', QFm l' ad (S.setShf i w) → St f vs (l' ++ R) r s' → wpAny g.M A (execs rest f.env) Q E s')
    (hsw : swapsWith value (some (.Subscript (.Attribute (.Name x xp) "_is_shifted" p1) ix p')) pos.line f.env = pure false := by rfl) (hd : (x == ("__debug__" : Str)) = false := by decide) :
    wpAny g.M A (execs (.Assign [.Subscript (.Attribute (.Name x xp) "_is_shifted" p1) ix p'] value pos :: rest) f.env) Q E s := by
  obtain ⟨es, ne, its, ep, M⟩ := m.hq.s
  have M' : BAm (l ++ R) ad.s S.n S.shf es ne its ep := M.mono fun _ h => List.mem_append_left _ h
  refine X.setOwn (R := fun news' r' => BitSet (l ++ R) r ad.s S.n S.shf ep i w .none news' r') m.cx (KB.m__setitem__ m.hK) (KB.noseq m.hK) hs hv (m.me.aShf hd) hi M'.hi M'.hd ?_ ?_ hsw
  · rintro _ _ ⟨t, rfl⟩ ⟨t', rfl⟩
    intro RR s₁ hs₁ k
    exact setitem_ m.hK m.cx rm.less1 M' hlt w RR s₁ hs₁ fun v n' r' s' h => k v n' r' s' ⟨rfl, h.2⟩
  · rintro _ _ s' ⟨_, rfl, its', rfl, hb⟩ hs'
    rw [put_left hs.nd M.hl] at hs'
    exact cont _ s' (m.hq.setShf M hb) hs'
theorem X.setFil (m : Mu g f vs l R ad S x) (hs : St f vs (l ++ R) r s) (hv : PE g f A vs (l ++ R) r value (isI k)) (hi : PE g f A vs (l ++ R) r ix (isI i)) (hlt : i < S.n)
    (cont : ∀ l' s', QFm l' ad (S.setFil i k) → St f vs (l' ++ R) r s' → wpAny g.M A (execs rest f.env) Q E s')
    (hsw : swapsWith value (some (.Subscript (.Attribute (.Name x xp) "_filter" p1) ix p')) pos.line f.env = pure false := by rfl) (hd : (x == ("__debug__" : Str)) = false := by decide) :
    wpAny g.M A (execs (.Assign [.Subscript (.Attribute (.Name x xp) "_filter" p1) ix p'] value pos :: rest) f.env) Q E s := by
  obtain ⟨its, ep, hm, hf⟩ := m.hq.fl
  have := m.hq.small
  refine X.setItem (k := i) hs hv (m.me.aFil hd) hi (List.mem_append_left _ hm) (by rw [hf.1]; exact hlt) (by omega) ?_ hsw
  rintro _ s' ⟨t, rfl⟩ hs'
  rw [put_left hs.nd hm] at hs'
  exact cont _ s' (m.hq.setFil hf hlt) hs'
/-- the end of a method that changes its filter -/
def Now (ad : QA) (T : QS) (R : Ledger) (r : Rs) (P : Value → Prop) (v : Value) (news' : Ledger) (r' : Rs) : Prop := P v ∧ r = r' ∧ ∃ l', news' = l' ++ R ∧ QFm l' ad T
theorem X.done (hs : St f vs (l ++ R) r s) (hq : QFm l ad S) (h : ∀ fl s', Ends f (Now ad S R r (· = .none)) fl s' → fl = .next → Q fl s' := by exact fun _ _ h _ => h) : wpAny g.M A (execs [] f.env) Q E s :=
  X.nil (g := g) hs (h .next s ⟨_, _, _, ⟨rfl, rfl, _, rfl, hq⟩, hs⟩ rfl)
end
end Mine
end

section
set_option maxRecDepth 100000
open PySem PySem.W PyProof.Rows PySem.Calls
set_option maxHeartbeats 4000000
namespace Mine
theorem dummyFill7 : (hd.heap_39 = hd.heap_39) ∧ (PySem.Challenge.rw_sv0018_01 = PySem.Challenge.rw_sv0018_01) := by
  k_fill
  exact ⟨rfl, rfl⟩
section
variable {g : Gl} {f : Fm} {A : Around} {vs : List (Option Value)} {l R : Ledger} {r : Rs} {s : Shared}
variable {ad : QA} {S T : QS} {i j : Nat} {t t' t1 t2 t3 t4 t5 : Tok} {x : Str} {xp p1 p2 pos : Pos} {ix e : Expr} {d : Nat}

theorem shift_insert (hK : IsK g) (cx : Cx g f) (rm : Rm f A 6) (hq : QFm l ad S) {qq rr orig ins : Nat} {flag : Bool} (hqq : qq < S.n) (hins : ins < S.n) (he : S.shiftInsert qq rr orig ins flag = some T) :
    CL g f A vs (l ++ R) r 360 [.ref ad.x, .int qq t1, .int rr t2, .int orig t3, .int ins t4, .int (bi flag) t5] (Now ad T R r (· = .none)) := by
  refine' CL.enter (d := 5) cx rm ["self", "q", "r", "orig_idx", "insert_idx", "flag"] ["next_idx", "was_empty", "temp"] ?ho ?hcd ?hb ?hl ?hok ?_
  case ho => refine IsK.look hK ?_; k_is
  case hcd => refine IsK.code hK ?_; k_is
  case hb => exact rfl
  case hl => exact rfl
  case hok => decide +kernel
  clear cx rm
  intro f' A' s' B hs
  have cx := B.cx
  have rm := B.rm
  have n0 := B.at (i := 0) rfl
  have n1 := B.at (i := 1) rfl
  have n2 := B.at (i := 2) rfl
  have n3 := B.at (i := 3) rfl
  have n4 := B.at (i := 4) rfl
  have n5 := B.at (i := 5) rfl
  have n6 := B.at (i := 6) rfl
  have n7 := B.at (i := 7) rfl
  have n8 := B.at (i := 8) rfl
  clear B
  unfold QS.shiftInsert at he
  refine X.if hs (PT.val (Me.emp (Mu.me ⟨cx, hK, hq, 0, n0, rfl⟩) (rm.less (by decide)) (PE.nameI cx n4 rfl) hins) (fun _ => rfl)) ?_ ?_
  · intro c s₁ hs
    rw [if_pos c] at he
    cases he
    refine X.setFil ⟨cx, hK, hq, 0, n0, rfl⟩ hs (PE.nameI cx n2 rfl) (PE.nameI cx n4 rfl) hins ?_
    intro l s₁ hq hs
    refine X.setOcc (w := true) ⟨cx, hK, hq, 0, n0, rfl⟩ (rm.less (by decide)) hs PE.cInt (PE.nameI cx n1 rfl) hqq ?_
    intro l s₁ hq hs
    refine X.setCon (w := ins != orig) ⟨cx, hK, hq, 0, n0, rfl⟩ (rm.less (by decide)) hs (PE.toI (PE.iteI (PT.ne (PE.nameI cx n4 rfl) (PE.nameI cx n3 rfl)) (fun _ => PE.cInt) (fun _ => PE.cInt)) (by rw [natBne]; rfl)) (PE.nameI cx n4 rfl) hins ?_
    intro l s₁ hq hs
    refine X.setShf (w := ins != qq) ⟨cx, hK, hq, 0, n0, rfl⟩ (rm.less (by decide)) hs (PE.toI (PE.iteI (PT.ne (PE.nameI cx n4 rfl) (PE.nameI cx n1 rfl)) (fun _ => PE.cInt) (fun _ => PE.cInt)) (by rw [natBne]; rfl)) (PE.nameI cx n4 rfl) hins ?_
    intro l s₁ hq hs
    exact X.nil (g := g) hs (X.done hs hq)
  intro c s₁ hs
  rw [if_neg (by rw [c]; decide)] at he
  obtain ⟨U, hU, he⟩ := Option.map_eq_some_iff.mp he
  refine X.assign cx hs n6 rfl (Me.nx (Mu.me ⟨cx, hK, hq, 0, n0, rfl⟩) (PE.nameI cx n4 rfl)) ?_
  rintro _ s₁ ⟨tn, rfl⟩ hs
  have hnx : S.nx ins < S.n := Nat.mod_lt _ hq.pos
  refine X.while (fun k vs news' r' => r = r' ∧ ∃ (l' : Ledger) (S' : QS) (j : Nat) (tj : Tok) (v7 v8 : Option Value), news' = l' ++ R ∧ QFm l' ad S' ∧ S'.n = S.n ∧ j < S.n ∧ vs = [some (.ref ad.x), some (.int qq t1), some (.int rr t2), some (.int orig t3), some (.int ins t4), some (.int (bi flag) t5), some (.int j tj), v7, v8] ∧ QS.siLoop ins k S' j = some U)
    (fun vs news' r' => r = r' ∧ ∃ (l' : Ledger) (v6 v7 v8 : Option Value), news' = l' ++ R ∧ QFm l' ad U ∧ U.n = S.n ∧ vs = [some (.ref ad.x), some (.int qq t1), some (.int rr t2), some (.int orig t3), some (.int ins t4), some (.int (bi flag) t5), v6, v7, v8]) S.fuel
    ⟨rfl, l, S, S.nx ins, tn, none, none, rfl, hq, rfl, hnx, rfl, hU⟩ hs ?_ ?_
  · rintro k vs news' r' s ⟨rfl, l', S', j, tj, v7, v8, rfl, hq, hn, hj, rfl, he⟩ hs
    refine ⟨true, PT.val PE.cBool (fun _ => rfl), (fun h => nomatch h), fun _ s₁ hs => ?_⟩
    cases k with
    | zero => cases he
    | succ k =>
      simp only [QS.siLoop] at he
      have hj' : j < S'.n := hn.symm ▸ hj
      have hi' : ins < S'.n := hn.symm ▸ hins
      refine X.assign cx hs n7 rfl (Me.emp (Mu.me ⟨cx, hK, hq, 0, n0, rfl⟩) (rm.less (by decide)) (PE.nameI cx n6 rfl) hj') ?_
      rintro _ s₁ rfl hs
      refine X.assign cx hs n8 rfl (Me.gCon (Mu.me ⟨cx, hK, hq, 0, n0, rfl⟩) (rm.less (by decide)) (PE.nameI cx n6 rfl) hj') ?_
      rintro _ s₁ ⟨t8, rfl⟩ hs
      refine X.setCon ⟨cx, hK, hq, 0, n0, rfl⟩ (rm.less (by decide)) hs (Me.gCon (Mu.me ⟨cx, hK, hq, 0, n0, rfl⟩) (rm.less (by decide)) (PE.nameI cx n4 rfl) hi') (PE.nameI cx n6 rfl) hj' ?_
      intro l s₁ hq hs
      refine X.setCon ⟨cx, hK, hq, 0, n0, rfl⟩ (rm.less (by decide)) hs (PE.nameI cx n8 rfl) (PE.nameI cx n4 rfl) hi' ?_
      intro l s₁ hq hs
      refine X.setShf (w := true) ⟨cx, hK, hq, 0, n0, rfl⟩ (rm.less (by decide)) hs PE.cInt (PE.nameI cx n6 rfl) hj' ?_
      intro l s₁ hq hs
      refine X.assign cx hs n8 rfl (Me.gFil (Mu.me ⟨cx, hK, hq, 0, n0, rfl⟩) (PE.nameI cx n6 rfl) hj') ?_
      rintro _ s₁ ⟨t8, rfl⟩ hs
      refine X.setFil ⟨cx, hK, hq, 0, n0, rfl⟩ hs (Me.gFil (Mu.me ⟨cx, hK, hq, 0, n0, rfl⟩) (PE.nameI cx n4 rfl) hi') (PE.nameI cx n6 rfl) hj' ?_
      intro l s₁ hq hs
      refine X.setFil ⟨cx, hK, hq, 0, n0, rfl⟩ hs (PE.nameI cx n8 rfl) (PE.nameI cx n4 rfl) hi' ?_
      intro l s₁ hq hs
      refine X.if hs (PT.val (PE.nameV cx n7 rfl) (fun _ => rfl)) ?_ ?_
      · intro q s₁ hs
        rw [if_pos q] at he
        cases he
        exact X.brk hs ⟨_, _, _, ⟨rfl, _, _, _, _, rfl, hq, hn, rfl⟩, hs⟩
      · intro q s₁ hs
        rw [if_neg (by rw [q]; decide)] at he
        refine X.nil (g := g) hs (X.assign cx hs n6 rfl (Me.nx (Mu.me ⟨cx, hK, hq, 0, n0, rfl⟩) (PE.nameI cx n6 rfl)) ?_)
        rintro _ s₁ ⟨tj, rfl⟩ hs
        exact X.nil (g := g) hs ⟨k, _, _, _, Nat.lt_succ_self k, ⟨rfl, _, _, _, _, _, _, rfl, hq, hn, hn ▸ Nat.mod_lt _ hq.pos, rfl, he⟩, hs⟩
  · rintro vs' news' r' s₁ ⟨rfl, l, v6, v7, v8, rfl, hq, hn, rfl⟩ hs
    have hi' : ins < U.n := hn.symm ▸ hins
    have hq' : qq < U.n := hn.symm ▸ hqq
    refine X.setFil ⟨cx, hK, hq, 0, n0, rfl⟩ hs (PE.nameI cx n2 rfl) (PE.nameI cx n4 rfl) hi' ?_
    intro l s₁ hq hs
    refine X.setOcc (w := true) ⟨cx, hK, hq, 0, n0, rfl⟩ (rm.less (by decide)) hs PE.cInt (PE.nameI cx n1 rfl) hq' ?_
    intro l s₁ hq hs
    refine X.setCon (w := ins != orig) ⟨cx, hK, hq, 0, n0, rfl⟩ (rm.less (by decide)) hs (PE.toI (PE.iteI (PT.ne (PE.nameI cx n4 rfl) (PE.nameI cx n3 rfl)) (fun _ => PE.cInt) (fun _ => PE.cInt)) (by rw [natBne]; rfl)) (PE.nameI cx n4 rfl) hi' ?_
    intro l s₁ hq hs
    refine X.setShf (w := ins != qq) ⟨cx, hK, hq, 0, n0, rfl⟩ (rm.less (by decide)) hs (PE.toI (PE.iteI (PT.ne (PE.nameI cx n4 rfl) (PE.nameI cx n1 rfl)) (fun _ => PE.cInt) (fun _ => PE.cInt)) (by rw [natBne]; rfl)) (PE.nameI cx n4 rfl) hi' ?_
    intro l s₁ hq hs
    refine X.if hs (PT.toB (PT.eq (PE.nameI cx n5 rfl) PE.cInt) (bi_eq1 flag)) ?_ ?_
    · rintro rfl s₁ hs
      rw [if_pos rfl] at he
      cases he
      have e : S.nx ins = U.nx ins := by unfold QS.nx; rw [hn]
      refine X.setCon (w := true) ⟨cx, hK, hq, 0, n0, rfl⟩ (rm.less (by decide)) hs PE.cInt (Me.nx (Mu.me ⟨cx, hK, hq, 0, n0, rfl⟩) (PE.nameI cx n4 rfl)) (Nat.mod_lt _ hq.pos) ?_
      intro l s₁ hq hs
      rw [e]
      exact X.nil (g := g) hs (X.nil (g := g) hs (X.done hs hq))
    · rintro rfl s₁ hs
      rw [if_neg (by decide)] at he
      cases he
      exact X.nil (g := g) hs (X.nil (g := g) hs (X.done hs hq))
end
end Mine
end

section
set_option maxRecDepth 100000
open PySem PySem.W PyProof.Rows PySem.Calls
set_option maxHeartbeats 4000000
namespace Mine
theorem dummyFill8 : (hd.heap_39 = hd.heap_39) ∧ (PySem.Challenge.rw_sv0018_01 = PySem.Challenge.rw_sv0018_01) := by
  k_fill
  exact ⟨rfl, rfl⟩
section
variable {g : Gl} {f : Fm} {A : Around} {vs : List (Option Value)} {news l R : Ledger} {r : Rs} {s : Shared}
variable {ad : QA} {S T : QS} {i j : Nat} {t t' t1 t2 t3 t4 t5 : Tok} {x : Str} {xp p1 p2 p3 pos : Pos} {ix e : Expr} {d : Nat} {n : Nat} {bits : Nat → Bool} {b : BA} {o : Expr} {rest : List Stmt} {Q : Flow → Shared → Prop} {E : Value → Shared → Prop} {value : Expr}

theorem Me.methN {attr : Str} {fa : Addr} {P : Value → Ledger → Rs → Prop} {PA : List Value → Prop} {e1 : Expr} {args : List Expr} (m : Me g f vs news ad S x) (ok : MethOK g.K 476 attr fa) (h1 : AR g f A vs news r (e1 :: args) PA) (hc : ∀ l, PA l → CL g f A vs news r fa (.ref ad.x :: l) P) (he : MShape (.Name x xp) attr p1 (e1 :: args) pos f.env := by exact ⟨_, rfl⟩)
    (he1 : starEach (e1 :: args) f.env = (false, eval e1 f.env) :: starEach args f.env := by rfl) (hp : (backTo pos (starEach args f.env)).any (·.1) = false := by rfl) (hd : (x == ("__debug__" : Str)) = false := by decide) : EX g f A vs news r (.Call (.Attribute (.Name x xp) attr p1) (e1 :: args) [] pos) P := by
  obtain ⟨sl, ne, h1', h2'⟩ := m.dx
  exact EX.meth m.cx ok (m.self hd) h1' h2' rfl h1 hc he he1 hp
theorem getBitC (cx : Cx g f) (hK : IsK g) (M : BAe news b n bits) (rm : Rm f A 2) (ho : PE g f A vs news r o (· = .ref b.i)) (hi : PE g f A vs news r ix (isI i)) (hlt : i < n)
    (he : MShape o "check_bit" p1 [ix] pos f.env := by exact ⟨_, rfl⟩) (he1 : starEach [ix] f.env = (false, eval ix f.env) :: starEach [] f.env := by rfl) : PE g f A vs news r (.Call (.Attribute o "check_bit" p1) [ix] [] pos) (isI (bi (bits i))) := by
  obtain ⟨es, ne, its, ep, M⟩ := M
  refine PE.of (EX.meth cx (KB.mcheck_bit hK) ho M.hi M.hd M.m1 (AR.cons hi AR.nil he1) ?_ he he1 rfl)
  rintro _ ⟨_, _, rfl, ⟨t, rfl⟩, rfl⟩
  exact check_bit hK cx rm M hlt
theorem Me.cOcc (m : Me g f vs news ad S x) (rm : Rm f A 2) (hi : PE g f A vs news r ix (isI i)) (hlt : i < S.n) (he : MShape (.Attribute (.Name x xp) "_is_occupied" p2) "check_bit" p1 [ix] pos f.env := by exact ⟨_, rfl⟩) (he1 : starEach [ix] f.env = (false, eval ix f.env) :: starEach [] f.env := by rfl) (hd : (x == ("__debug__" : Str)) = false := by decide) :
    PE g f A vs news r (.Call (.Attribute (.Attribute (.Name x xp) "_is_occupied" p2) "check_bit" p1) [ix] [] pos) (isI (bi (S.occ i))) := getBitC m.cx m.hK m.hq.o rm (m.aOcc hd) hi hlt he he1
theorem Me.cCon (m : Me g f vs news ad S x) (rm : Rm f A 2) (hi : PE g f A vs news r ix (isI i)) (hlt : i < S.n) (he : MShape (.Attribute (.Name x xp) "_is_continuation" p2) "check_bit" p1 [ix] pos f.env := by exact ⟨_, rfl⟩) (he1 : starEach [ix] f.env = (false, eval ix f.env) :: starEach [] f.env := by rfl) (hd : (x == ("__debug__" : Str)) = false := by decide) :
    PE g f A vs news r (.Call (.Attribute (.Attribute (.Name x xp) "_is_continuation" p2) "check_bit" p1) [ix] [] pos) (isI (bi (S.con i))) := getBitC m.cx m.hK m.hq.c rm (m.aCon hd) hi hlt he he1
theorem Me.cShf (m : Me g f vs news ad S x) (rm : Rm f A 2) (hi : PE g f A vs news r ix (isI i)) (hlt : i < S.n) (he : MShape (.Attribute (.Name x xp) "_is_shifted" p2) "check_bit" p1 [ix] pos f.env := by exact ⟨_, rfl⟩) (he1 : starEach [ix] f.env = (false, eval ix f.env) :: starEach [] f.env := by rfl) (hd : (x == ("__debug__" : Str)) = false := by decide) :
    PE g f A vs news r (.Call (.Attribute (.Attribute (.Name x xp) "_is_shifted" p2) "check_bit" p1) [ix] [] pos) (isI (bi (S.shf i))) := getBitC m.cx m.hK m.hq.s rm (m.aShf hd) hi hlt he he1
theorem sum3_ne0 (S : QS) (i : Nat) : (bi (S.occ i) + bi (S.con i) + bi (S.shf i) != 0) = !S.emp i := by
  unfold QS.emp bi
  cases S.occ i <;> cases S.con i <;> cases S.shf i <;> rfl
/-- self._elements_added += 1 -/
theorem X.incAdded (m : Mu g f vs l R ad S x) (hs : St f vs (l ++ R) r s)
    (cont : ∀ l' s', QFm l' ad { S with added := S.added + 1 } → St f vs (l' ++ R) r s' → wpAny g.M A (execs rest f.env) Q E s') (hd : (x == ("__debug__" : Str)) = false := by decide) :
    wpAny g.M A (execs (.AugAssign (.Attribute (.Name x xp) "_elements_added" p1) .Add (.Constant (.int 1) 0 p2) pos :: rest) f.env) Q E s := by
  obtain ⟨sl, h1, hsl⟩ := m.hq.self
  obtain ⟨ne, h2⟩ := m.hq.dx
  obtain ⟨ta, hta⟩ := hsl.added
  refine X.slotAdd m.cx (KQ.s_elements_added m.hK) hs (m.me.self hd) (List.mem_append_left _ h1) (List.mem_append_left _ h2) hta PE.cInt ?_
  intro t s' hs'
  rw [put_left hs.nd h1] at hs'
  exact cont _ s' (m.hq.setAdded (k := S.added + 1) hsl h1) hs'
theorem siLoop_n {ins : Nat} : ∀ {k : Nat} {S U : QS} {j : Nat}, QS.siLoop ins k S j = some U → U.n = S.n
  | 0, _, _, _, h => by cases h
  | k + 1, S, U, j, h => by
    simp only [QS.siLoop] at h
    split at h
    · cases h; rfl
    · exact (siLoop_n h).trans rfl
theorem shiftInsert_n {qq rr orig ins : Nat} {flag : Bool} (he : S.shiftInsert qq rr orig ins flag = some T) : T.n = S.n := by
  unfold QS.shiftInsert at he
  split at he
  · cases he; rfl
  · obtain ⟨U, hU, he⟩ := Option.map_eq_some_iff.mp he
    have := siLoop_n hU
    split at he <;> cases he <;> exact this

theorem add_ (hK : IsK g) (cx : Cx g f) (rm : Rm f A 8) (hq : QFm l ad S) {qq rr : Nat} (hqq : qq < S.n) (he : S.add_ qq rr = some T) :
    CL g f A vs (l ++ R) r 374 [.ref ad.x, .int qq t1, .int rr t2] (Now ad T R r (· = .none)) := by
  refine' CL.enter (d := 7) cx rm ["self", "q", "r"] ["start_idx", "orig_start_idx", "starts", "f"] ?ho ?hcd ?hb ?hl ?hok ?_
  case ho => refine IsK.look hK ?_; k_is
  case hcd => refine IsK.code hK ?_; k_is
  case hb => exact rfl
  case hl => exact rfl
  case hok => decide +kernel
  clear cx rm
  intro f' A' s' B hs
  have cx := B.cx
  have rm := B.rm
  have n0 := B.at (i := 0) rfl
  have n1 := B.at (i := 1) rfl
  have n2 := B.at (i := 2) rfl
  have n3 := B.at (i := 3) rfl
  have n4 := B.at (i := 4) rfl
  have n5 := B.at (i := 5) rfl
  have n6 := B.at (i := 6) rfl
  clear B
  unfold QS.add_ at he
  split at he
  · cases he
  rename_i hne
  obtain ⟨U, he, hT⟩ := Option.map_eq_some_iff.mp he
  refine X.ifF hs (PT.toB (PT.eq (Me.aSize (Mu.me ⟨cx, hK, hq, 0, n0, rfl⟩)) (Me.aAdded (Mu.me ⟨cx, hK, hq, 0, n0, rfl⟩))) (by rw [natBeq]; simpa using hne)) ?_
  intro s₁ hs
  unfold QS.addAt at he
  refine X.ifJ (fun s => ∃ vs' l', vs'[0]? = some (some (.ref ad.x)) ∧ QFm l' ad U ∧ St f' vs' (l' ++ R) r s) hs (PT.val (Me.emp (Mu.me ⟨cx, hK, hq, 0, n0, rfl⟩) (rm.less (by decide)) (PE.nameI cx n1 rfl) hqq) (fun _ => rfl)) ?_ ?_ ?_
  · intro c s₁ hs
    rw [if_pos c] at he
    cases he
    refine X.setFil ⟨cx, hK, hq, 0, n0, rfl⟩ hs (PE.nameI cx n2 rfl) (PE.nameI cx n1 rfl) hqq ?_
    intro l s₁ hq hs
    refine X.setOcc (w := true) ⟨cx, hK, hq, 0, n0, rfl⟩ (rm.less (by decide)) hs PE.cInt (PE.nameI cx n1 rfl) hqq ?_
    intro l s₁ hq hs
    exact X.nil (g := g) hs ⟨rfl, _, _, rfl, hq, hs⟩
  · intro c s₁ hs
    rw [if_neg (by rw [c]; decide)] at he
    obtain ⟨st, hst, he⟩ := Option.bind_eq_some_iff.mp he
    have hsl : st < S.n := QS.getStart_lt hst hqq hq.pos
    refine X.assignV cx hs n3 rfl (Me.meth1 (Mu.me ⟨cx, hK, hq, 0, n0, rfl⟩) (KQ.m_get_start_index hK) (PE.nameI cx n1 rfl) (fun v ⟨t, e⟩ => by rw [e]; exact get_start hK cx (rm.less (by decide)) hq.app hqq hst)) ?_
    rintro _ _ _ s₁ ⟨⟨ts, rfl⟩, rfl, rfl⟩ hs
    refine X.if hs (PT.toB (PT.eq (Me.gOcc (Mu.me ⟨cx, hK, hq, 0, n0, rfl⟩) (rm.less (by decide)) (PE.nameI cx n1 rfl) hqq) PE.cInt) (bi_eq0 _)) ?_ ?_
    · intro c s₁ hs
      rw [if_pos c] at he
      refine X.expr cx hs (Me.methN (Mu.me ⟨cx, hK, hq, 0, n0, rfl⟩) (KQ.m_shift_insert hK) (AR.cons (PE.nameI cx n1 rfl) (AR.cons (PE.nameI cx n2 rfl) (AR.cons (PE.nameI cx n3 rfl) (AR.cons (PE.nameI cx n3 rfl) (AR.cons PE.cInt AR.nil)))))
        (P := Now ad U R r (· = .none)) ?_) (fun v n' r' h a => by rw [h.1]; exact fun z => nomatch z) ?_
      · rintro _ ⟨_, _, rfl, ⟨_, rfl⟩, _, _, rfl, ⟨_, rfl⟩, _, _, rfl, ⟨_, rfl⟩, _, _, rfl, ⟨_, rfl⟩, _, _, rfl, ⟨_, rfl⟩, rfl⟩
        exact shift_insert (flag := false) hK cx (rm.less (by decide)) hq hqq hsl he
      · rintro _ _ _ s₁ ⟨rfl, rfl, l, rfl, hq⟩ hs
        exact X.nil (g := g) hs (X.nil (g := g) hs ⟨rfl, _, _, rfl, hq, hs⟩)
    · intro c s₁ hs
      rw [if_neg (by rw [c]; decide)] at he
      obtain ⟨⟨i₁, st₁⟩, hl, he⟩ := Option.bind_eq_some_iff.mp he
      refine X.assign cx hs n4 rfl (PE.nameI cx n3 rfl) ?_
      rintro _ s₁ ⟨to, rfl⟩ hs
      refine X.assign cx hs n5 rfl PE.cInt ?_
      rintro _ s₁ ⟨tz, rfl⟩ hs
      refine X.assign cx hs n6 rfl (PE.add (PE.add (Me.cOcc (Mu.me ⟨cx, hK, hq, 0, n0, rfl⟩) (rm.less (by decide)) (PE.nameI cx n3 rfl) hsl) (Me.cCon (Mu.me ⟨cx, hK, hq, 0, n0, rfl⟩) (rm.less (by decide)) (PE.nameI cx n3 rfl) hsl)) (Me.cShf (Mu.me ⟨cx, hK, hq, 0, n0, rfl⟩) (rm.less (by decide)) (PE.nameI cx n3 rfl) hsl)) ?_
      rintro _ s₁ ⟨tf, rfl⟩ hs
      refine X.while (fun k vs news' r' => news' = l ++ R ∧ r = r' ∧ ∃ (j c : Nat) (tj tc tf : Tok), j < S.n ∧ vs = [some (.ref ad.x), some (.int qq t1), some (.int rr t2), some (.int j tj), some (.int st to), some (.int c tc), some (.int (bi (S.occ j) + bi (S.con j) + bi (S.shf j)) tf)] ∧ S.aLoop rr k j c = some (i₁, st₁))
        (fun vs news' r' => news' = l ++ R ∧ r = r' ∧ i₁ < S.n ∧ ∃ (tj tc : Tok) (v : Option Value), vs = [some (.ref ad.x), some (.int qq t1), some (.int rr t2), some (.int i₁ tj), some (.int st to), some (.int st₁ tc), v]) S.fuel
        ⟨rfl, rfl, st, 0, ts, tz, tf, hsl, rfl, hl⟩ hs ?_ ?_
      · rintro k vs news' r' s ⟨rfl, rfl, j, c, tj, tc, tf, hj, rfl, he⟩ hs
        cases k with
        | zero => cases he
        | succ k =>
          simp only [QS.aLoop] at he
          refine ⟨c == 0 && (!S.emp j && decide (S.fil j < rr)), PT.toB (PT.and3 (PT.eq (PE.nameI cx n5 rfl) PE.cInt) (fun _ => PT.ne (PE.nameI cx n6 rfl) PE.cInt) (fun _ _ => PT.gt (PE.nameI cx n2 rfl) (Me.gFil (Mu.me ⟨cx, hK, hq, 0, n0, rfl⟩) (PE.nameI cx n3 rfl) hj))) (by rw [sum3_ne0, natLt]; congr 1; exact natBeq c 0), ?_, ?_⟩
          · intro q
            rw [← Bool.and_assoc] at q
            rw [if_neg (by rw [q]; decide)] at he
            cases he
            exact ⟨rfl, rfl, hj, _, _, _, rfl⟩
          · intro q s₁ hs
            rw [← Bool.and_assoc] at q
            rw [if_pos q] at he
            have hnx : S.nx j < S.n := Nat.mod_lt _ hq.pos
            refine X.assign cx hs n3 rfl (Me.nx (Mu.me ⟨cx, hK, hq, 0, n0, rfl⟩) (PE.nameI cx n3 rfl)) ?_
            rintro _ s₁ ⟨tj, rfl⟩ hs
            refine X.ifJ (fun s => ∃ tc, St f' [some (.ref ad.x), some (.int qq t1), some (.int rr t2), some (.int (S.nx j : Nat) tj), some (.int st to), some (.int (if !S.con (S.nx j) then c + 1 else c : Nat) tc), some (.int (bi (S.occ j) + bi (S.con j) + bi (S.shf j)) tf)] (l ++ R) r s) hs
              (PT.toB (PT.eq (Me.gCon (Mu.me ⟨cx, hK, hq, 0, n0, rfl⟩) (rm.less (by decide)) (PE.nameI cx n3 rfl) hnx) PE.cInt) (bi_eq0 _)) ?_ ?_ ?_
            · intro q s₁ hs
              rw [if_pos q]
              refine X.addTo cx hs n5 rfl PE.cInt ?_
              intro tc s₁ hs
              exact X.nil (g := g) hs ⟨rfl, _, hs⟩
            · intro q s₁ hs
              rw [if_neg (by rw [q]; decide)]
              exact X.nil (g := g) hs ⟨rfl, _, hs⟩
            rintro s₁ ⟨tc, hs⟩
            refine X.assign cx hs n6 rfl (PE.add (PE.add (Me.cOcc (Mu.me ⟨cx, hK, hq, 0, n0, rfl⟩) (rm.less (by decide)) (PE.nameI cx n3 rfl) hnx) (Me.cCon (Mu.me ⟨cx, hK, hq, 0, n0, rfl⟩) (rm.less (by decide)) (PE.nameI cx n3 rfl) hnx)) (Me.cShf (Mu.me ⟨cx, hK, hq, 0, n0, rfl⟩) (rm.less (by decide)) (PE.nameI cx n3 rfl) hnx)) ?_
            rintro _ s₁ ⟨tf, rfl⟩ hs
            exact X.nil (g := g) hs ⟨k, _, _, _, Nat.lt_succ_self k, ⟨rfl, rfl, _, _, _, _, _, hnx, rfl, he⟩, hs⟩
      · rintro vs' news' r' s₁ ⟨rfl, rfl, hi1, tj, tc, v, rfl⟩ hs
        refine X.if hs (PT.toB (PT.eq (PE.nameI cx n5 rfl) PE.cInt) (natBeq st₁ 1)) ?_ ?_
        · intro c s₁ hs
          rw [if_pos c] at he
          refine X.expr cx hs (Me.methN (Mu.me ⟨cx, hK, hq, 0, n0, rfl⟩) (KQ.m_shift_insert hK) (AR.cons (PE.nameI cx n1 rfl) (AR.cons (PE.nameI cx n2 rfl) (AR.cons (PE.nameI cx n4 rfl) (AR.cons (PE.nameI cx n3 rfl) (AR.cons PE.cInt AR.nil)))))
            (P := Now ad U R r (· = .none)) ?_) (fun v n' r' h a => by rw [h.1]; exact fun z => nomatch z) ?_
          · rintro _ ⟨_, _, rfl, ⟨_, rfl⟩, _, _, rfl, ⟨_, rfl⟩, _, _, rfl, ⟨_, rfl⟩, _, _, rfl, ⟨_, rfl⟩, _, _, rfl, ⟨_, rfl⟩, rfl⟩
            exact shift_insert (flag := false) hK cx (rm.less (by decide)) hq hqq hi1 he
          · rintro _ _ _ s₁ ⟨rfl, rfl, l, rfl, hq⟩ hs
            exact X.nil (g := g) hs (X.nil (g := g) hs (X.nil (g := g) hs ⟨rfl, _, _, rfl, hq, hs⟩))
        · intro c s₁ hs
          rw [if_neg (by rw [c]; decide)] at he
          refine X.expr cx hs (Me.methN (Mu.me ⟨cx, hK, hq, 0, n0, rfl⟩) (KQ.m_shift_insert hK) (AR.cons (PE.nameI cx n1 rfl) (AR.cons (PE.nameI cx n2 rfl) (AR.cons (PE.nameI cx n4 rfl) (AR.cons (PE.nameI cx n3 rfl) (AR.cons PE.cInt AR.nil)))))
            (P := Now ad U R r (· = .none)) ?_) (fun v n' r' h a => by rw [h.1]; exact fun z => nomatch z) ?_
          · rintro _ ⟨_, _, rfl, ⟨_, rfl⟩, _, _, rfl, ⟨_, rfl⟩, _, _, rfl, ⟨_, rfl⟩, _, _, rfl, ⟨_, rfl⟩, _, _, rfl, ⟨_, rfl⟩, rfl⟩
            exact shift_insert (flag := true) hK cx (rm.less (by decide)) hq hqq hi1 he
          · rintro _ _ _ s₁ ⟨rfl, rfl, l, rfl, hq⟩ hs
            exact X.nil (g := g) hs (X.nil (g := g) hs (X.nil (g := g) hs ⟨rfl, _, _, rfl, hq, hs⟩))
  · rintro s₁ ⟨vs', l, h0, hq, hs⟩
    refine X.incAdded ⟨cx, hK, hq, 0, n0, h0⟩ hs ?_
    intro l s₁ hq hs
    rw [← hT]
    exact X.done hs hq
end
end Mine
end

section
set_option maxRecDepth 100000
open PySem PySem.W PyProof.Rows PySem.Calls
namespace Mine
abbrev tupObj (vs : List Value) : Obj := { cls := .type "tuple", data := .seq vs.toArray }
section
variable {g : Gl} {f : Fm} {A : Around} {vs : List (Option Value)} {news : Ledger} {r : Rs} {s : Shared}
variable {e l r₁ r₂ e₁ e₂ o ix value : Expr} {pos p' xp p1 p2 p3 : Pos} {a b : Int} {x y : Str} {i j k : Nat} {v : Value} {b₁ b₂ : Bool} {rest body : List Stmt} {Q : Flow → Shared → Prop} {E : Value → Shared → Prop}
theorem EX.tuple {es : List Expr} {P : List Value → Prop} (h : AR g f A vs news r es P) (hl : ∀ l, P l → l.length ≤ 1000) : EX g f A vs news r (.Tuple es k pos) (fun v n' r' => ∃ a l, v = .ref a ∧ P l ∧ n' = (a, tupObj l) :: news ∧ r = r') :=
  fun _ _ _ hs k => Tuple_ (h _ _ _ _ hs fun l s₁ p hs₁ => newTuple_N hs₁.F hs₁.N (fun h' F' N' => k _ _ _ _ ⟨_, l, rfl, p, rfl, rfl⟩ (by
    have := hs₁.alloc (ob := tupObj l) (t := s₁.toks) rfl
    exact ⟨F', N', this.nd, hs₁.gens, hs₁.drawn, hs₁.os⟩)) (by have := hl l p; show _ ≤ 2 ^ 24; omega))
/-- x, y = value -/
theorem X.assign2 {d : Nat} {u u' : Option Value} {P : Value → Value → Ledger → Rs → Prop} (cx : Cx g f) (rm : Rm f A d) (hs : St f vs news r s) (hx : f.ns[i]? = some x) (hu : vs[i]? = some u) (hy : f.ns[j]? = some y) (hu' : vs[j]? = some u')
    (h : EX g f A vs news r value (fun v n' r' => ∃ a vx vy, v = .ref a ∧ (a, tupObj [vx, vy]) ∈ n' ∧ P vx vy n' r'))
    (cont : ∀ vx vy n' r' s', P vx vy n' r' → St f ((vs.set i (some vx)).set j (some vy)) n' r' s' → wpAny g.M A (execs rest f.env) Q E s')
    (h1 : swapsWithSole [.Tuple [.Name x p1, .Name y p2] k p3] value pos.line f.env = pure false := by rfl) (h2 : swappedStores [.Tuple [.Name x p1, .Name y p2] k p3] value f.env = pure none := by rfl) :
    wpAny g.M A (execs (.Assign [.Tuple [.Name x p1, .Name y p2] k p3] value pos :: rest) f.env) Q E s := by
  refine wpAny_execs_cons (Assign_Tuple (h _ _ _ hs fun v n' r' s₁ hp hs₁ => ?_) h1 h2)
  obtain ⟨a, vx, vy, rfl, hm, hp⟩ := hp
  refine unpackN_ hs₁.F hs₁.N (hs₁.N.isTup hm) rm.hd rfl rfl fun h' F' N' => ?_
  have hs₂ : St f vs n' r' { s₁ with heap := h' } := ⟨F', N', hs₁.nd, hs₁.gens, hs₁.drawn, hs₁.os⟩
  refine assignInOrder_cons ?_
  show wpAny _ _ (do standAt p1; bindName f.env x vx) _ _ _
  refine wpAny_bind (wpAny_standAt (wpAny_bindName (wpAny_storeName_local (cx.kin i x hx) (hs₂.ns cx) (fun h'' hn' hsb => ?_) (by rw [cx.hk]; rfl))))
  have hs₃ := hs₂.store (tk := s₁.toks + 1) cx hx hu hn' hsb
  refine assignInOrder_cons ?_
  show wpAny _ _ (do standAt p2; bindName f.env y vy) _ _ _
  have hu2 : ∃ w, (vs.set i (some vx))[j]? = some w := by
    rw [List.getElem?_set]
    split
    · split
      · exact ⟨_, rfl⟩
      · rename_i e hlt
        exfalso
        subst e
        rw [List.getElem?_eq_none (Nat.le_of_not_lt hlt)] at hu'
        cases hu'
    · exact ⟨_, hu'⟩
  obtain ⟨w, hw⟩ := hu2
  refine wpAny_bind (wpAny_standAt (wpAny_bindName (wpAny_storeName_local (cx.kin j y hy) (hs₃.ns cx) (fun h'' hn' hsb => ?_) (by rw [cx.hk]; rfl))))
  have hs₄ := hs₃.store (tk := s₁.toks + 1 + 1) cx hy hw hn' hsb
  exact assignInOrder_nil (cont vx vy n' r' _ hp hs₄)
end
end Mine
end

section
set_option maxRecDepth 100000
open PySem PySem.W PyProof.Rows PySem.Calls
namespace Mine
theorem kl_cut_zero (v : Value) (q : List Value) : kl_cut (v :: q) 0 = some ([], v, q) := rfl
section
variable {g : Gl} {f : Fm} {A : Around} {vs : List (Option Value)} {news : Ledger} {r : Rs} {s : Shared}
variable {P : Value → Prop} {e l r₁ r₂ e₁ e₂ o ix value : Expr} {pos p' xp p1 p2 p3 apos : Pos} {a b : Int} {x y : Str} {i j k : Nat} {v : Value} {b₁ b₂ : Bool} {rest body : List Stmt} {Q : Flow → Shared → Prop} {E : Value → Shared → Prop} {la : Addr} {its : List Value} {ep : Nat}
/-- a list display -/
theorem EX.list {es : List Expr} {P : List Value → Prop} (h : AR g f A vs news r es P) (hl : ∀ l, P l → l.length ≤ 1000) : EX g f A vs news r (.List es pos) (fun v n' r' => ∃ a l, v = .ref a ∧ P l ∧ n' = (a, listOf l.toArray 0) :: news ∧ r = r') :=
  fun _ _ _ hs k => List_ (h _ _ _ _ hs fun l s₁ p hs₁ => newList_N hs₁.F hs₁.N (fun h' F' N' => k _ _ _ _ ⟨_, l, rfl, p, rfl, rfl⟩ (by
    have := hs₁.alloc (ob := listOf l.toArray 0) (t := s₁.toks) rfl
    exact ⟨F', N', this.nd, hs₁.gens, hs₁.drawn, hs₁.os⟩)) (by have := hl l p; show _ ≤ 2 ^ 24; omega))
/-- xs.append(e) -/
theorem EX.append (ho : PE g f A vs news r o (· = .ref la)) (hm : (la, listOf its.toArray ep) ∈ news) (he : PE g f A vs news r e P) (hl : its.length ≤ 10000000) (hsh : MShape o "append" apos [e] pos f.env := by exact ⟨_, rfl⟩)
    (he1 : starEach [e] f.env = (false, eval e f.env) :: starEach [] f.env := by rfl) :
    EX g f A vs news r (.Call (.Attribute o "append" apos) [e] [] pos) (fun v n' r' => v = .none ∧ r = r' ∧ ∃ u, P u ∧ n' = put la (listOf (its ++ [u]).toArray (ep + 1)) news) :=
  fun _ _ _ hs k => by
    obtain ⟨pl, hsh⟩ := hsh
    refine MethodCall_ (pl := pl) (ho _ _ _ hs fun _ _ q s₁ => ?_) hsh
    subst q
    refine getMethod_builtin ⟨_, s₁.N.get hm, rfl⟩ PySem.F.plainAttrs_list PySem.slot_list_append PySem.type_list_append (fun a e => by cases e; exact ⟨_, s₁.N.get hm, rfl⟩) ?_
    refine callWith_method1 (AR.cons he AR.nil he1 _ _ _ _ s₁ fun l s' p hs' => ?_) he1 rfl
    obtain ⟨u, _, rfl, pu, rfl⟩ := p
    have hm' := hs'.N.get hm
    refine append_K hs'.F hs'.N (upd_put hs'.nd hm) (fun h' F' N' => ?_) (by rw [List.size_toArray]; show _ ≤ 2 ^ 24; omega)
    refine k _ _ _ _ ⟨rfl, rfl, u, pu, ?_⟩ ⟨F', N', by rw [put_keys]; exact hs'.nd, hs'.gens, hs'.drawn, hs'.os⟩
    simp
/-- xs.pop(0) -/
theorem EX.pop0 {u : Value} {q : List Value} {kk : Nat} (ho : PE g f A vs news r o (· = .ref la)) (hm : (la, listOf (u :: q).toArray ep) ∈ news) (hl : q.length ≤ 10000000) (hsh : MShape o "pop" apos [.Constant (.int 0) kk p1] pos f.env := by exact ⟨_, rfl⟩) :
    EX g f A vs news r (.Call (.Attribute o "pop" apos) [.Constant (.int 0) kk p1] [] pos) (fun v n' r' => v = u ∧ r = r' ∧ n' = put la (listOf q.toArray (ep + 1)) news) :=
  fun _ _ _ hs k => by
    obtain ⟨pl, hsh⟩ := hsh
    refine MethodCall_ (pl := pl) (ho _ _ _ hs fun _ _ q s₁ => ?_) hsh
    subst q
    refine getMethod_builtin ⟨_, s₁.N.get hm, rfl⟩ PySem.F.plainAttrs_list PySem.F.slot_list_pop PySem.F.type_list_pop (fun a e => by cases e; exact ⟨_, s₁.N.get hm, rfl⟩) ?_
    refine callWith_method1 (AR.cons PE.cInt AR.nil rfl _ _ _ _ s₁ fun l s' p hs' => ?_)
    obtain ⟨_, _, rfl, ⟨t, rfl⟩, rfl⟩ := p
    refine kl_popAt (n := ep) hs'.F hs'.N (by decide) (k := 0) ?_ (kl_cut_zero u q) (upd_put hs'.nd hm) (by show (u :: q).length ≤ 2 ^ 24; rw [List.length_cons]; omega) fun h' F' N' => ?_
    · simp [seqIndex?]
    · exact k _ _ _ _ ⟨rfl, rfl, rfl⟩ ⟨F', N', by rw [put_keys]; exact hs'.nd, hs'.gens, hs'.drawn, hs'.os⟩
end
end Mine
end

section
set_option maxRecDepth 100000
open PySem PySem.W PyProof.Rows PySem.Calls
set_option maxHeartbeats 4000000
namespace Mine
theorem dummyFill9 : (hd.heap_39 = hd.heap_39) ∧ (PySem.Challenge.rw_sv0018_01 = PySem.Challenge.rw_sv0018_01) := by
  k_fill
  exact ⟨rfl, rfl⟩
/-- values that are these numbers -/
def NA : List Value → List Nat → Prop
  | [], [] => True
  | v :: vs, n :: ns => isI n v ∧ NA vs ns
  | _, _ => False
theorem NA.snoc : ∀ {vs : List Value} {ns : List Nat} {v : Value} {n : Nat}, NA vs ns → isI n v → NA (vs ++ [v]) (ns ++ [n])
  | [], [], _, _, _, h => ⟨h, trivial⟩
  | _ :: _, _ :: _, _, _, h, h' => ⟨h.1, NA.snoc h.2 h'⟩
  | [], _ :: _, _, _, h, _ => h.elim
  | _ :: _, [], _, _, h, _ => h.elim
theorem NA.len : ∀ {vs : List Value} {ns : List Nat}, NA vs ns → vs.length = ns.length
  | [], [], _ => rfl
  | _ :: _, _ :: _, h => congrArg (· + 1) (NA.len h.2)
  | [], _ :: _, h => h.elim
  | _ :: _, [], h => h.elim
theorem NA.cons : ∀ {vs : List Value} {n : Nat} {ns : List Nat}, NA vs (n :: ns) → ∃ v q, vs = v :: q ∧ isI n v ∧ NA q ns
  | v :: q, _, _, h => ⟨v, q, rfl, h.1, h.2⟩
  | [], _, _, h => h.elim
section
variable {g : Gl} {f : Fm} {A : Around} {vs : List (Option Value)} {news l R : Ledger} {r : Rs} {s : Shared}
variable {ad : QA} {S T : QS} {i j k : Nat} {t t' t1 t2 t3 t4 t5 : Tok} {x : Str} {xp p1 p2 p3 p4 pos : Pos} {ix e : Expr} {d : Nat} {n : Nat} {bits : Nat → Bool} {b : BA} {o : Expr} {rest : List Stmt} {Q : Flow → Shared → Prop} {E : Value → Shared → Prop} {value : Expr}

theorem should_remove (hK : IsK g) (cx : Cx g f) (rm : Rm f A 7) (hq : QFm news ad S) (hi : i < S.n) (hj : j < S.n) :
    CL g f A vs news r 388 [.ref ad.x, .int i t, .int j t'] (still news r (isB (S.rcs i && !S.con j))) := by
  refine' CL.enter (d := 6) cx rm ["self", "idx", "next_idx"] [] ?ho ?hcd ?hb ?hl ?hok ?_
  case ho => refine IsK.look hK ?_; k_is
  case hcd => refine IsK.code hK ?_; k_is
  case hb => exact rfl
  case hl => exact rfl
  case hok => decide +kernel
  clear cx rm
  intro f' A' s' B hs
  have cx := B.cx
  have rm := B.rm
  have n0 := B.at (i := 0) rfl
  have n1 := B.at (i := 1) rfl
  have n2 := B.at (i := 2) rfl
  clear B
  exact X.finT hs (PE.toB (PE.and2 (Me.rcs ⟨cx, hK, hq, 0, n0, rfl⟩ (rm.less (by decide)) (PE.nameI cx n1 rfl) hi) (fun _ => PE.cmpEq (Me.gCon ⟨cx, hK, hq, 0, n0, rfl⟩ (rm.less (by decide)) (PE.nameI cx n2 rfl) hj) PE.cInt)) (by rw [bi_eq0]))

theorem clrBitC {es : List DictEntry} {ne : Nat} {its : Array Value} {ep : Nat} (cx : Cx g f) (hK : IsK g) (M : BAm news b n bits es ne its ep) (rm : Rm f A 2) (ho : PE g f A vs news r o (· = .ref b.i)) (hi : PE g f A vs news r ix (isI i)) (hlt : i < n)
    (he : MShape o "clear_bit" p1 [ix] pos f.env := by exact ⟨_, rfl⟩) (he1 : starEach [ix] f.env = (false, eval ix f.env) :: starEach [] f.env := by rfl) : EX g f A vs news r (.Call (.Attribute o "clear_bit" p1) [ix] [] pos) (BitSet news r b n bits ep i false) := by
  refine EX.meth cx (KB.mclear_bit hK) ho M.hi M.hd M.m2 (AR.cons hi AR.nil he1) ?_ he he1 rfl
  rintro _ ⟨_, _, rfl, ⟨t, rfl⟩, rfl⟩
  exact clear_bit hK cx rm M hlt
theorem X.clrOcc (m : Mu g f vs l R ad S x) (rm : Rm f A 3) (hs : St f vs (l ++ R) r s) (hi : PE g f A vs (l ++ R) r ix (isI i)) (hlt : i < S.n)
    (cont : ∀ l' s', QFm l' ad (S.setOcc i false) → St f vs (l' ++ R) r s' → wpAny g.M A (execs rest f.env) Q E s')
    (he : MShape (.Attribute (.Name x xp) "_is_occupied" p2) "clear_bit" p1 [ix] p3 f.env := by exact ⟨_, rfl⟩) (he1 : starEach [ix] f.env = (false, eval ix f.env) :: starEach [] f.env := by rfl) (hd : (x == ("__debug__" : Str)) = false := by decide) :
    wpAny g.M A (execs (.Expr (.Call (.Attribute (.Attribute (.Name x xp) "_is_occupied" p2) "clear_bit" p1) [ix] [] p3) pos :: rest) f.env) Q E s := by
  obtain ⟨es, ne, its, ep, M⟩ := m.hq.o
  refine X.expr m.cx hs (clrBitC m.cx m.hK (M.mono fun _ h => List.mem_append_left _ h) (rm.less (by decide)) (m.me.aOcc hd) hi hlt he he1) (fun v n' r' h a => by rw [h.1]; exact fun z => nomatch z) ?_
  rintro _ _ _ s' ⟨rfl, rfl, its', rfl, hb⟩ hs'
  rw [put_left hs.nd M.hl] at hs'
  exact cont _ s' (m.hq.setOcc M hb) hs'
theorem X.clrCon (m : Mu g f vs l R ad S x) (rm : Rm f A 3) (hs : St f vs (l ++ R) r s) (hi : PE g f A vs (l ++ R) r ix (isI i)) (hlt : i < S.n)
    (cont : ∀ l' s', QFm l' ad (S.setCon i false) → St f vs (l' ++ R) r s' → wpAny g.M A (execs rest f.env) Q E s')
    (he : MShape (.Attribute (.Name x xp) "_is_continuation" p2) "clear_bit" p1 [ix] p3 f.env := by exact ⟨_, rfl⟩) (he1 : starEach [ix] f.env = (false, eval ix f.env) :: starEach [] f.env := by rfl) (hd : (x == ("__debug__" : Str)) = false := by decide) :
    wpAny g.M A (execs (.Expr (.Call (.Attribute (.Attribute (.Name x xp) "_is_continuation" p2) "clear_bit" p1) [ix] [] p3) pos :: rest) f.env) Q E s := by
  obtain ⟨es, ne, its, ep, M⟩ := m.hq.c
  refine X.expr m.cx hs (clrBitC m.cx m.hK (M.mono fun _ h => List.mem_append_left _ h) (rm.less (by decide)) (m.me.aCon hd) hi hlt he he1) (fun v n' r' h a => by rw [h.1]; exact fun z => nomatch z) ?_
  rintro _ _ _ s' ⟨rfl, rfl, its', rfl, hb⟩ hs'
  rw [put_left hs.nd M.hl] at hs'
  exact cont _ s' (m.hq.setCon M hb) hs'
theorem X.clrShf (m : Mu g f vs l R ad S x) (rm : Rm f A 3) (hs : St f vs (l ++ R) r s) (hi : PE g f A vs (l ++ R) r ix (isI i)) (hlt : i < S.n)
    (cont : ∀ l' s', QFm l' ad (S.setShf i false) → St f vs (l' ++ R) r s' → wpAny g.M A (execs rest f.env) Q E s')
    (he : MShape (.Attribute (.Name x xp) "_is_shifted" p2) "clear_bit" p1 [ix] p3 f.env := by exact ⟨_, rfl⟩) (he1 : starEach [ix] f.env = (false, eval ix f.env) :: starEach [] f.env := by rfl) (hd : (x == ("__debug__" : Str)) = false := by decide) :
    wpAny g.M A (execs (.Expr (.Call (.Attribute (.Attribute (.Name x xp) "_is_shifted" p2) "clear_bit" p1) [ix] [] p3) pos :: rest) f.env) Q E s := by
  obtain ⟨es, ne, its, ep, M⟩ := m.hq.s
  refine X.expr m.cx hs (clrBitC m.cx m.hK (M.mono fun _ h => List.mem_append_left _ h) (rm.less (by decide)) (m.me.aShf hd) hi hlt he he1) (fun v n' r' h a => by rw [h.1]; exact fun z => nomatch z) ?_
  rintro _ _ _ s' ⟨rfl, rfl, its', rfl, hb⟩ hs'
  rw [put_left hs.nd M.hl] at hs'
  exact cont _ s' (m.hq.setShf M hb) hs'

theorem remove_and_clear (hK : IsK g) (cx : Cx g f) (rm : Rm f A 6) (hq : QFm l ad S) {qq : Nat} {w : Bool} (hi : i < S.n) (hqq : qq < S.n) :
    CL g f A vs (l ++ R) r 395 [.ref ad.x, .int i t1, .int qq t2, .bool w] (Now ad (S.remClear i qq w) R r (· = .none)) := by
  refine' CL.enter (d := 5) cx rm ["self", "idx", "q", "remove_orig_idx"] [] ?ho ?hcd ?hb ?hl ?hok ?_
  case ho => refine IsK.look hK ?_; k_is
  case hcd => refine IsK.code hK ?_; k_is
  case hb => exact rfl
  case hl => exact rfl
  case hok => decide +kernel
  clear cx rm
  intro f' A' s' B hs
  have cx := B.cx
  have rm := B.rm
  have n0 := B.at (i := 0) rfl
  have n1 := B.at (i := 1) rfl
  have n2 := B.at (i := 2) rfl
  have n3 := B.at (i := 3) rfl
  clear B
  refine X.setFil (k := 0) ⟨cx, hK, hq, 0, n0, rfl⟩ hs PE.cInt (PE.nameI cx n1 rfl) hi ?_
  intro l s₁ hq hs
  refine X.clrOcc ⟨cx, hK, hq, 0, n0, rfl⟩ (rm.less (by decide)) hs (PE.nameI cx n1 rfl) hi ?_
  intro l s₁ hq hs
  refine X.clrCon ⟨cx, hK, hq, 0, n0, rfl⟩ (rm.less (by decide)) hs (PE.nameI cx n1 rfl) hi ?_
  intro l s₁ hq hs
  refine X.clrShf ⟨cx, hK, hq, 0, n0, rfl⟩ (rm.less (by decide)) hs (PE.nameI cx n1 rfl) hi ?_
  intro l s₁ hq hs
  refine X.if hs (PT.val (PE.name cx n3 rfl (P := isB w) rfl) (fun _ => rfl)) ?_ ?_
  · rintro rfl s₁ hs
    refine X.setOcc (w := false) ⟨cx, hK, hq, 0, n0, rfl⟩ (rm.less (by decide)) hs PE.cInt (PE.nameI cx n2 rfl) hqq ?_
    intro l s₁ hq hs
    exact X.nil (g := g) hs (X.done hs hq)
  · rintro rfl s₁ hs
    exact X.nil (g := g) hs (X.done hs hq)

theorem find_start (hK : IsK g) (cx : Cx g f) (rm : Rm f A 7) (hq : QFm news ad S) (hi : i < S.n) {m : Nat} (he : S.fcLoop S.fuel i = some m) :
    CL g f A vs news r 402 [.ref ad.x, .int i t] (still news r (isI m)) := by
  refine' CL.enter (d := 6) cx rm ["self", "idx"] ["min_idx"] ?ho ?hcd ?hb ?hl ?hok ?_
  case ho => refine IsK.look hK ?_; k_is
  case hcd => refine IsK.code hK ?_; k_is
  case hb => exact rfl
  case hl => exact rfl
  case hok => decide +kernel
  clear cx rm
  intro f' A' s' B hs
  have cx := B.cx
  have rm := B.rm
  have n0 := B.at (i := 0) rfl
  have n1 := B.at (i := 1) rfl
  have n2 := B.at (i := 2) rfl
  clear B
  refine X.assign cx hs n2 rfl (PE.nameI cx n1 rfl) ?_
  rintro _ s₁ ⟨tj, rfl⟩ hs
  refine X.while (fun k vs news' r' => news = news' ∧ r = r' ∧ ∃ (j : Nat) (tj : Tok), j < S.n ∧ vs = [some (.ref ad.x), some (.int i t), some (.int j tj)] ∧ S.fcLoop k j = some m)
    (fun vs news' r' => news = news' ∧ r = r' ∧ ∃ (tj : Tok), vs = [some (.ref ad.x), some (.int i t), some (.int m tj)]) S.fuel ⟨rfl, rfl, i, tj, hi, rfl, he⟩ hs ?_ ?_
  · rintro k vs news' r' s ⟨rfl, rfl, j, tj, hj, rfl, he⟩ hs
    cases k with
    | zero => cases he
    | succ k =>
      simp only [QS.fcLoop] at he
      refine ⟨_, PT.not (PT.val (Me.cst ⟨cx, hK, hq, 0, n0, rfl⟩ (rm.less (by decide)) (PE.nameI cx n2 rfl) hj) (fun _ => rfl)), ?_, ?_⟩
      · intro q
        rw [if_pos (by simpa using q)] at he
        cases he
        exact ⟨rfl, rfl, _, rfl⟩
      · intro q s₁ hs
        rw [if_neg (by simpa using q)] at he
        refine X.assign cx hs n2 rfl (Me.pv ⟨cx, hK, hq, 0, n0, rfl⟩ (PE.nameI cx n2 rfl)) ?_
        rintro _ s₁ ⟨tj, rfl⟩ hs
        exact X.nil (g := g) hs ⟨k, _, _, _, Nat.lt_succ_self k, ⟨rfl, rfl, _, _, Nat.mod_lt _ hq.pos, rfl, he⟩, hs⟩
  · rintro vs' news' r' s₁ ⟨rfl, rfl, tj, rfl⟩ hs
    exact X.finT hs (PE.nameI cx n2 rfl)

/-- a pair of places handed back, the filter changed -/
def Pair (ad : QA) (T : QS) (R : Ledger) (r : Rs) (i j : Nat) (v : Value) (news' : Ledger) (r' : Rs) : Prop :=
  ∃ a vx vy, v = .ref a ∧ (a, tupObj [vx, vy]) ∈ news' ∧ isI i vx ∧ isI j vy ∧ r = r' ∧ ∃ l', news' = l' ++ R ∧ QFm l' ad T
theorem X.retPair (hs : St f vs (l ++ R) r s) (hq : QFm l ad S) {e1 e2 : Expr} {k : Nat} (h1 : PE g f A vs (l ++ R) r e1 (isI i)) (h2 : PE g f A vs (l ++ R) r e2 (isI j))
    (he1 : starEach [e1, e2] f.env = (false, eval e1 f.env) :: starEach [e2] f.env := by rfl) (he2 : starEach [e2] f.env = (false, eval e2 f.env) :: starEach [] f.env := by rfl)
    (hQ : ∀ v s', Ends f (Pair ad S R r i j) (.ret v) s' → Q (.ret v) s' := by exact fun _ _ h => h) : wpAny g.M A (execs (.Return (some (.Tuple [e1, e2] k p1)) pos :: rest) f.env) Q E s := by
  refine X.ret hs (EX.tuple (AR.cons h1 (AR.cons h2 AR.nil he2) he1) ?_) ?_
  · rintro _ ⟨_, _, rfl, _, _, _, rfl, _, rfl⟩
    exact Nat.le_of_ble_eq_true rfl
  · rintro _ _ _ s' ⟨a, _, rfl, ⟨vx, _, rfl, hx, vy, _, rfl, hy, rfl⟩, rfl, rfl⟩ hs'
    exact hQ _ _ ⟨_, _, _, ⟨a, vx, vy, rfl, .head _, hx, hy, rfl, _ :: l, rfl, hq.mono fun _ h => .tail _ h⟩, hs'⟩

theorem first_move (hK : IsK g) (cx : Cx g f) (rm : Rm f A 7) (hq : QFm l ad S) (hi : i < S.n) (hj : j < S.n) :
    CL g f A vs (l ++ R) r 409 [.ref ad.x, .int i t1, .int j t2] (Pair ad (S.firstMove i j).1 R r (S.firstMove i j).2.1 (S.firstMove i j).2.2) := by
  refine' CL.enter (d := 6) cx rm ["self", "idx", "next_idx"] [] ?ho ?hcd ?hb ?hl ?hok ?_
  case ho => refine IsK.look hK ?_; k_is
  case hcd => refine IsK.code hK ?_; k_is
  case hb => exact rfl
  case hl => exact rfl
  case hok => decide +kernel
  clear cx rm
  intro f' A' s' B hs
  have cx := B.cx
  have rm := B.rm
  have n0 := B.at (i := 0) rfl
  have n1 := B.at (i := 1) rfl
  have n2 := B.at (i := 2) rfl
  clear B
  refine X.if hs (PT.toB (PT.and2 (PT.val (Me.rcs (Mu.me ⟨cx, hK, hq, 0, n0, rfl⟩) (rm.less (by decide)) (PE.nameI cx n1 rfl) hi) (fun _ => rfl)) (fun _ => PT.eq (Me.gCon (Mu.me ⟨cx, hK, hq, 0, n0, rfl⟩) (rm.less (by decide)) (PE.nameI cx n2 rfl) hj) PE.cInt)) (by rw [bi_eq1])) ?_ ?_
  · intro c s₁ hs
    unfold QS.firstMove
    rw [if_pos c]
    refine X.setFil ⟨cx, hK, hq, 0, n0, rfl⟩ hs (Me.gFil (Mu.me ⟨cx, hK, hq, 0, n0, rfl⟩) (PE.nameI cx n2 rfl) hj) (PE.nameI cx n1 rfl) hi ?_
    intro l s₁ hq hs
    refine X.setCon (w := false) ⟨cx, hK, hq, 0, n0, rfl⟩ (rm.less (by decide)) hs PE.cInt (PE.nameI cx n1 rfl) hi ?_
    intro l s₁ hq hs
    refine X.setShf ⟨cx, hK, hq, 0, n0, rfl⟩ (rm.less (by decide)) hs (Me.gShf (Mu.me ⟨cx, hK, hq, 0, n0, rfl⟩) (rm.less (by decide)) (PE.nameI cx n2 rfl) hj) (PE.nameI cx n1 rfl) hi ?_
    intro l s₁ hq hs
    refine X.assign cx hs n1 rfl (PE.nameI cx n2 rfl) ?_
    rintro _ s₁ ⟨t1, rfl⟩ hs
    refine X.assign cx hs n2 rfl (Me.nx (Mu.me ⟨cx, hK, hq, 0, n0, rfl⟩) (PE.nameI cx n1 rfl)) ?_
    rintro _ s₁ ⟨t2, rfl⟩ hs
    exact X.nil (g := g) hs (X.retPair hs hq (PE.nameI cx n1 rfl) (PE.nameI cx n2 rfl))
  · intro c s₁ hs
    unfold QS.firstMove
    rw [if_neg (by rw [c]; decide)]
    exact X.nil (g := g) hs (X.retPair hs hq (PE.nameI cx n1 rfl) (PE.nameI cx n2 rfl))

theorem seLoop_n : ∀ {k : Nat} {S T : QS} {i j i' j' : Nat}, QS.seLoop k S i j = some (T, i', j') → T.n = S.n
  | 0, _, _, _, _, _, _, h => by cases h
  | k + 1, S, T, i, j, i', j', h => by
    simp only [QS.seLoop] at h
    split at h
    · exact (seLoop_n h).trans rfl
    · cases h; rfl
theorem seLoop_lt : ∀ {k : Nat} {S T : QS} {i j i' j' : Nat}, QS.seLoop k S i j = some (T, i', j') → 0 < S.n → i < S.n → j < S.n → i' < S.n ∧ j' < S.n
  | 0, _, _, _, _, _, _, h => by cases h
  | k + 1, S, T, i, j, i', j', h => fun h0 hi hj => by
    simp only [QS.seLoop] at h
    split at h
    · exact seLoop_lt (S := S.seStep i j) h h0 hj (Nat.mod_lt _ h0)
    · cases h; exact ⟨hi, hj⟩
theorem shift_elements (hK : IsK g) (cx : Cx g f) (rm : Rm f A 7) (hq : QFm l ad S) (hi : i < S.n) (hj : j < S.n) {i' j' : Nat} {fl : Nat} (he : QS.seLoop fl S i j = some (T, i', j')) :
    CL g f A vs (l ++ R) r 416 [.ref ad.x, .int i t1, .int j t2] (Pair ad T R r i' j') := by
  refine' CL.enter (d := 6) cx rm ["self", "idx", "next_idx"] [] ?ho ?hcd ?hb ?hl ?hok ?_
  case ho => refine IsK.look hK ?_; k_is
  case hcd => refine IsK.code hK ?_; k_is
  case hb => exact rfl
  case hl => exact rfl
  case hok => decide +kernel
  clear cx rm
  intro f' A' s' B hs
  have cx := B.cx
  have rm := B.rm
  have n0 := B.at (i := 0) rfl
  have n1 := B.at (i := 1) rfl
  have n2 := B.at (i := 2) rfl
  clear B
  refine X.while (fun k vs news' r' => r = r' ∧ ∃ (l' : Ledger) (S' : QS) (i j : Nat) (ti tj : Tok), news' = l' ++ R ∧ QFm l' ad S' ∧ i < S'.n ∧ j < S'.n ∧ vs = [some (.ref ad.x), some (.int i ti), some (.int j tj)] ∧ QS.seLoop k S' i j = some (T, i', j'))
    (fun vs news' r' => r = r' ∧ ∃ (l' : Ledger) (ti tj : Tok), news' = l' ++ R ∧ QFm l' ad T ∧ vs = [some (.ref ad.x), some (.int i' ti), some (.int j' tj)]) fl ⟨rfl, l, S, i, j, t1, t2, rfl, hq, hi, hj, rfl, he⟩ hs ?_ ?_
  · rintro k vs news' r' s ⟨rfl, l, S', i, j, ti, tj, rfl, hq, hi, hj, rfl, he⟩ hs
    cases k with
    | zero => cases he
    | succ k =>
      simp only [QS.seLoop] at he
      refine ⟨_, PT.and2 (PT.not (PT.val (Me.cst (Mu.me ⟨cx, hK, hq, 0, n0, rfl⟩) (rm.less (by decide)) (PE.nameI cx n2 rfl) hj) (fun _ => rfl))) (fun _ => PT.not (PT.val (Me.emp (Mu.me ⟨cx, hK, hq, 0, n0, rfl⟩) (rm.less (by decide)) (PE.nameI cx n2 rfl) hj) (fun _ => rfl))), ?_, ?_⟩
      · intro q
        rw [if_neg (by rw [q]; decide)] at he
        cases he
        exact ⟨rfl, l, _, _, rfl, hq, rfl⟩
      · intro q s₁ hs
        rw [if_pos q] at he
        refine X.setFil ⟨cx, hK, hq, 0, n0, rfl⟩ hs (Me.gFil (Mu.me ⟨cx, hK, hq, 0, n0, rfl⟩) (PE.nameI cx n2 rfl) hj) (PE.nameI cx n1 rfl) hi ?_
        intro l s₁ hq hs
        refine X.setCon ⟨cx, hK, hq, 0, n0, rfl⟩ (rm.less (by decide)) hs (Me.gCon (Mu.me ⟨cx, hK, hq, 0, n0, rfl⟩) (rm.less (by decide)) (PE.nameI cx n2 rfl) hj) (PE.nameI cx n1 rfl) hi ?_
        intro l s₁ hq hs
        refine X.setShf ⟨cx, hK, hq, 0, n0, rfl⟩ (rm.less (by decide)) hs (Me.gShf (Mu.me ⟨cx, hK, hq, 0, n0, rfl⟩) (rm.less (by decide)) (PE.nameI cx n2 rfl) hj) (PE.nameI cx n1 rfl) hi ?_
        intro l s₁ hq hs
        refine X.assign cx hs n1 rfl (PE.nameI cx n2 rfl) ?_
        rintro _ s₁ ⟨t1, rfl⟩ hs
        refine X.assign cx hs n2 rfl (Me.nx (Mu.me ⟨cx, hK, hq, 0, n0, rfl⟩) (PE.nameI cx n1 rfl)) ?_
        rintro _ s₁ ⟨t2, rfl⟩ hs
        exact X.nil (g := g) hs ⟨k, _, _, _, Nat.lt_succ_self k, ⟨rfl, l, _, _, _, _, _, rfl, hq, hj, Nat.mod_lt _ hq.pos, rfl, he⟩, hs⟩
  · rintro vs' news' r' s₁ ⟨rfl, l, ti, tj, rfl, hq, rfl⟩ hs
    exact X.retPair hs hq (PE.nameI cx n1 rfl) (PE.nameI cx n2 rfl)

theorem clear_last (hK : IsK g) (cx : Cx g f) (rm : Rm f A 4) (hq : QFm l ad S) (hi : i < S.n) :
    CL g f A vs (l ++ R) r 423 [.ref ad.x, .int i t1] (Now ad (S.clearLast i) R r (· = .none)) := by
  refine' CL.enter (d := 3) cx rm ["self", "idx"] [] ?ho ?hcd ?hb ?hl ?hok ?_
  case ho => refine IsK.look hK ?_; k_is
  case hcd => refine IsK.code hK ?_; k_is
  case hb => exact rfl
  case hl => exact rfl
  case hok => decide +kernel
  clear cx rm
  intro f' A' s' B hs
  have cx := B.cx
  have rm := B.rm
  have n0 := B.at (i := 0) rfl
  have n1 := B.at (i := 1) rfl
  clear B
  refine X.setFil (k := 0) ⟨cx, hK, hq, 0, n0, rfl⟩ hs PE.cInt (PE.nameI cx n1 rfl) hi ?_
  intro l s₁ hq hs
  refine X.setCon (w := false) ⟨cx, hK, hq, 0, n0, rfl⟩ (rm.less (by decide)) hs PE.cInt (PE.nameI cx n1 rfl) hi ?_
  intro l s₁ hq hs
  refine X.setShf (w := false) ⟨cx, hK, hq, 0, n0, rfl⟩ (rm.less (by decide)) hs PE.cInt (PE.nameI cx n1 rfl) hi ?_
  intro l s₁ hq hs
  refine X.setOcc (w := false) ⟨cx, hK, hq, 0, n0, rfl⟩ (rm.less (by decide)) hs PE.cInt (PE.nameI cx n1 rfl) hi ?_
  intro l s₁ hq hs
  exact X.done hs hq
end
end Mine
end

section
set_option maxRecDepth 100000
open PySem PySem.W PyProof.Rows PySem.Calls
set_option maxHeartbeats 4000000
namespace Mine
theorem dummyFill10 : (hd.heap_39 = hd.heap_39) ∧ (PySem.Challenge.rw_sv0018_01 = PySem.Challenge.rw_sv0018_01) := by
  k_fill
  exact ⟨rfl, rfl⟩
theorem put_mid {a : Addr} {o o' : Obj} {l R : Ledger} (nd : ((l ++ (a, o) :: R).map (·.1)).Nodup) : put a o' (l ++ (a, o) :: R) = l ++ (a, o') :: R := by
  rw [List.map_append, List.map_cons] at nd
  have h1 := List.nodup_append.mp nd
  have h2 := (List.nodup_cons.mp h1.2.1).1
  rw [put_append, put_off (l := l) fun q => h1.2.2 a q a (.head _) rfl]
  congr 1
  show (if a = a then (a, o') else (a, o)) :: put a o' R = _
  rw [if_pos rfl, put_off h2]
section
variable {g : Gl} {f : Fm} {A : Around} {vs : List (Option Value)} {news l R : Ledger} {r : Rs} {s : Shared}
variable {ad : QA} {S T : QS} {i j k : Nat} {t t' t1 t2 t3 t4 t5 : Tok} {x : Str} {xp p1 p2 p3 p4 pos : Pos} {ix e r₁ : Expr} {d : Nat} {n : Nat} {bits : Nat → Bool} {b : BA} {o : Expr} {rest : List Stmt} {Q : Flow → Shared → Prop} {E : Value → Shared → Prop} {value : Expr}

theorem PT.eqBI {c : Bool} {a : Int} (h₁ : PE g f A vs news r e (Mine.isB c)) (h₂ : PE g f A vs news r r₁ (isI a)) (hm : behindInMarks .Eq r₁ = false := by with_unfolding_all rfl) : PT g f A vs news r (.Compare e [.Eq] [r₁] pos) ((if c = true then 1 else 0) == a) :=
  PT.cmp h₁ h₂ (fun _ _ _ _ _ e₁ ⟨_, e₂⟩ q => by rw [e₁]; subst e₂; exact EqBoolInt.eq_bool_int q) hm
theorem fxLoop_cur_beq (cur : Option Nat) (i : Nat) : (oi cur == (i : Int)) = (cur == some i) := by
  cases cur with
  | none => show ((-1 : Int) == i) = false; rw [beq_eq_false_iff_ne]; omega
  | some c => show ((c : Int) == i) = _; rw [natBeq]; rfl

theorem fixup (hK : IsK g) (cx : Cx g f) (rm : Rm f A 7) (hq : QFm l ad S) (hi : i < S.n) (he : QS.fxLoop j S.fuel S i none [] = some T) :
    CL g f A vs (l ++ R) r 430 [.ref ad.x, .int i t1, .int j t2] (Now ad T R r (· = .none)) := by
  refine' CL.enter (d := 6) cx rm ["self", "min_idx", "next_idx"] ["cur_quot", "queue"] ?ho ?hcd ?hb ?hl ?hok ?_
  case ho => refine IsK.look hK ?_; k_is
  case hcd => refine IsK.code hK ?_; k_is
  case hb => exact rfl
  case hl => exact rfl
  case hok => decide +kernel
  clear cx rm
  intro f' A' s' B hs
  have cx := B.cx
  have rm := B.rm
  have n0 := B.at (i := 0) rfl
  have n1 := B.at (i := 1) rfl
  have n2 := B.at (i := 2) rfl
  have n3 := B.at (i := 3) rfl
  have n4 := B.at (i := 4) rfl
  clear B
  refine X.assign cx hs n3 rfl (PE.neg PE.cInt) ?_
  rintro _ s₁ ⟨tc, rfl⟩ hs
  refine X.assignV cx hs n4 rfl (EX.list AR.nil (fun l h => by rw [h]; decide)) ?_
  rintro _ _ _ s₁ ⟨qa, _, rfl, rfl, rfl, rfl⟩ hs
  have hs := hs.perm (List.perm_middle (a := (qa, listOf [].toArray 0)) (l₁ := l) (l₂ := R)).symm
  refine X.while (fun k vs news' r' => r = r' ∧ ∃ (l' : Ledger) (S' : QS) (i : Nat) (ti tc : Tok) (cur : Option Nat) (queue : List Nat) (its : List Value) (ep : Nat), news' = l' ++ (qa, listOf its.toArray ep) :: R ∧ QFm l' ad S' ∧ S'.n = S.n ∧ i < S.n ∧ NA its queue ∧ queue.length + k ≤ S.fuel ∧
      vs = [some (.ref ad.x), some (.int i ti), some (.int j t2), some (.int (oi cur) tc), some (.ref qa)] ∧ QS.fxLoop j k S' i cur queue = some T)
    (fun vs news' r' => r = r' ∧ ∃ l', news' = l' ++ R ∧ QFm l' ad T) S.fuel ⟨rfl, l, S, i, t1, tc, none, [], [], 0, rfl, hq, rfl, hi, trivial, by show 0 + _ ≤ _; omega, rfl, he⟩ hs ?_ ?_
  · rintro k vs news' r' s ⟨rfl, l, S', i, ti, tc, cur, queue, its, ep, rfl, hq, hn, hi, hna, hlen, rfl, he⟩ hs
    cases k with
    | zero => cases he
    | succ k =>
      simp only [QS.fxLoop] at he
      have hi' : i < S'.n := hn.symm ▸ hi
      have hsm := hq.small
      have hfu : S.fuel = 4 * S'.n + 10 := by rw [hn]; rfl
      refine ⟨_, PT.toB (PT.ne (PE.nameI cx n1 rfl) (PE.nameI cx n2 rfl)) (natBne _ _), ?_, ?_⟩
      · intro q
        have q : (i == j) = true := by simpa using q
        rw [if_pos q] at he
        cases he
        exact ⟨rfl, l ++ [(qa, listOf its.toArray ep)], by simp, hq.mono fun _ h => List.mem_append_left _ h⟩
      intro q s₁ hs
      rw [if_neg (by simpa using q)] at he
      refine X.ifJ (c := S'.occ i) (fun s => ∃ its' ep', NA its' (if S'.occ i then queue ++ [i] else queue) ∧ St f' [some (.ref ad.x), some (.int i ti), some (.int j t2), some (.int (oi cur) tc), some (.ref qa)] (l ++ (qa, listOf its'.toArray ep') :: R) r s) hs
        (PT.toB (PT.eq (Me.gOcc (Mu.me ⟨cx, hK, hq, 0, n0, rfl⟩) (rm.less (by decide)) (PE.nameI cx n1 rfl) hi') PE.cInt) (bi_eq1 _)) ?_ ?_ ?_
      · intro q s₁ hs
        rw [if_pos q]
        refine X.expr cx hs (EX.append (its := its) (ep := ep) (PE.nameV cx n4 rfl) (by simp) (PE.nameI cx n1 rfl) (by rw [hna.len]; omega)) (fun v n' r' h a => by rw [h.1]; exact fun z => nomatch z) ?_
        rintro _ _ _ s₁ ⟨rfl, rfl, u, hu, rfl⟩ hs'
        rw [put_mid hs.nd] at hs'
        exact X.nil (g := g) hs' ⟨rfl, _, _, hna.snoc hu, hs'⟩
      · intro q s₁ hs
        rw [if_neg (by rw [q]; decide)]
        exact X.nil (g := g) hs ⟨rfl, _, _, hna, hs⟩
      rintro s₁ ⟨its, ep, hna, hs⟩
      have hlen : (if S'.occ i then queue ++ [i] else queue).length + k ≤ S.fuel := by
        split
        · rw [List.length_append]; show _ + 1 + k ≤ _; omega
        · omega
      generalize (if S'.occ i then queue ++ [i] else queue) = queue₁ at he hna hlen
      have hnx : S'.nx i < S.n := hn ▸ Nat.mod_lt _ hq.pos
      refine X.ifJ (c := S'.rst i) (fun s => ∃ (cur : Option Nat) (queue : List Nat) (its : List Value) (ep : Nat) (tc : Tok), NA its queue ∧ queue.length + k ≤ S.fuel ∧
          (if cur == some i then QS.fxLoop j k (S'.fxStep i) (S'.nx i) cur queue else QS.fxLoop j k S' (S'.nx i) cur queue) = some T ∧
          St f' [some (.ref ad.x), some (.int i ti), some (.int j t2), some (.int (oi cur) tc), some (.ref qa)] (l ++ (qa, listOf its.toArray ep) :: R) r s) hs
        (PT.toB (PT.eqBI (Me.rst (Mu.me ⟨cx, hK, hq, 0, n0, rfl⟩) (rm.less (by decide)) (PE.nameI cx n1 rfl) hi') PE.cInt) (by cases S'.rst i <;> rfl)) ?_ ?_ ?_
      · intro q s₁ hs
        rw [if_pos q] at he
        cases queue₁ with
        | nil => cases he
        | cons c queue₂ =>
          obtain ⟨u, its₂, rfl, hu, hna₂⟩ := hna.cons
          have hl2 : queue₂.length + k ≤ S.fuel := by rw [List.length_cons] at hlen; omega
          refine X.assignV cx hs n3 rfl (EX.pop0 (u := u) (q := its₂) (ep := ep) (PE.nameV cx n4 rfl) (by simp) (by rw [hna₂.len]; omega)) ?_
          rintro _ _ _ s₁ ⟨rfl, rfl, rfl⟩ hs'
          rw [put_mid hs.nd] at hs'
          obtain ⟨tu, rfl⟩ := hu
          exact X.nil (g := g) hs' ⟨rfl, some c, queue₂, its₂, _, tu, hna₂, hl2, he, hs'⟩
      · intro q s₁ hs
        rw [if_neg (by rw [q]; decide)] at he
        exact X.nil (g := g) hs ⟨rfl, cur, _, _, _, _, hna, hlen, he, hs⟩
      rintro s₁ ⟨cur, queue, its, ep, tc, hna, hlen, he, hs⟩
      refine X.ifJ (fun s => ∃ (l' : Ledger) (S'' : QS), QFm l' ad S'' ∧ S''.n = S.n ∧ QS.fxLoop j k S'' (S'.nx i) cur queue = some T ∧
          St f' [some (.ref ad.x), some (.int i ti), some (.int j t2), some (.int (oi cur) tc), some (.ref qa)] (l' ++ (qa, listOf its.toArray ep) :: R) r s) hs
        (PT.toB (PT.eq (PE.nameI cx n3 rfl) (PE.nameI cx n1 rfl)) (fxLoop_cur_beq cur i)) ?_ ?_ ?_
      · intro q s₁ hs
        rw [if_pos q] at he
        refine X.setCon (w := false) ⟨cx, hK, hq, 0, n0, rfl⟩ (rm.less (by decide)) hs PE.cInt (PE.nameI cx n1 rfl) hi' ?_
        intro l s₁ hq hs
        refine X.setShf (w := false) ⟨cx, hK, hq, 0, n0, rfl⟩ (rm.less (by decide)) hs PE.cInt (PE.nameI cx n1 rfl) hi' ?_
        intro l s₁ hq hs
        refine X.setOcc (w := true) ⟨cx, hK, hq, 0, n0, rfl⟩ (rm.less (by decide)) hs PE.cInt (PE.nameI cx n1 rfl) hi' ?_
        intro l s₁ hq hs
        exact X.nil (g := g) hs ⟨rfl, l, _, hq, hn, he, hs⟩
      · intro q s₁ hs
        rw [if_neg (by rw [q]; decide)] at he
        exact X.nil (g := g) hs ⟨rfl, l, _, hq, hn, he, hs⟩
      rintro s₁ ⟨l, S'', hq, hn2, he, hs⟩
      have e : S'.nx i = S''.nx i := by unfold QS.nx; rw [hn, hn2]
      rw [e] at he hnx
      refine X.assign cx hs n1 rfl (Me.nx (Mu.me ⟨cx, hK, hq, 0, n0, rfl⟩) (PE.nameI cx n1 rfl)) ?_
      rintro _ s₁ ⟨ti, rfl⟩ hs
      exact X.nil (g := g) hs ⟨k, _, _, _, Nat.lt_succ_self k, ⟨rfl, l, _, _, _, _, _, _, _, _, rfl, hq, hn2, hnx, hna, hlen, rfl, he⟩, hs⟩
  · rintro vs' news' r' s₁ ⟨rfl, l, rfl, hq⟩ hs
    exact X.done hs hq

theorem QS.cLoop_lt {S : QS} (hn : 0 < S.n) {rr : Nat} : ∀ {k j c i : Nat}, S.cLoop rr k j c = some (some i) → j < S.n → i < S.n
  | 0, _, _, _, h, _ => by cases h
  | k + 1, j, c, i, h, hj => by
    simp only [QS.cLoop] at h
    generalize (if (!S.con j) = true then c + 1 else c) = st at h
    split at h
    · cases h
    split at h
    · cases h
    split at h
    · cases h; exact hj
    · exact QS.cLoop_lt hn h (Nat.mod_lt _ hn)
theorem QS.contained_lt {S : QS} {q rr i : Nat} (h : S.contained q rr = some (some i)) (hq : q < S.n) (hn : 0 < S.n) : i < S.n := by
  unfold QS.contained at h
  split at h
  · cases h
  · obtain ⟨st, h1, h2⟩ := Option.bind_eq_some_iff.mp h
    exact QS.cLoop_lt hn h2 (QS.getStart_lt h1 hq hn)
theorem QS.fcLoop_lt {S : QS} (hn : 0 < S.n) : ∀ {k j i : Nat}, S.fcLoop k j = some i → j < S.n → i < S.n
  | 0, _, _, h, _ => by cases h
  | k + 1, j, i, h, hj => by
    simp only [QS.fcLoop] at h
    split at h
    · cases h; exact hj
    · exact QS.fcLoop_lt hn h (Nat.mod_lt _ hn)
theorem firstMove_n (S : QS) (i j : Nat) : (S.firstMove i j).1.n = S.n := by
  unfold QS.firstMove
  split <;> rfl
theorem firstMove_lt {S : QS} {i j : Nat} (hn : 0 < S.n) (hi : i < S.n) (hj : j < S.n) : (S.firstMove i j).2.1 < S.n ∧ (S.firstMove i j).2.2 < S.n := by
  unfold QS.firstMove
  split
  · exact ⟨hj, Nat.mod_lt _ hn⟩
  · exact ⟨hi, hj⟩

theorem remove_element (hK : IsK g) (cx : Cx g f) (rm : Rm f A 9) (hq : QFm l ad S) {qq rr : Nat} (hqq : qq < S.n) (he : S.remove_ qq rr = some T) :
    CL g f A vs (l ++ R) r 381 [.ref ad.x, .int qq t1, .int rr t2] (Now ad T R r (· = .none)) := by
  refine' CL.enter (d := 8) cx rm ["self", "q", "r"] ["idx", "next_idx", "remove_orig_idx", "min_idx"] ?ho ?hcd ?hb ?hl ?hok ?_
  case ho => refine IsK.look hK ?_; k_is
  case hcd => refine IsK.code hK ?_; k_is
  case hb => exact rfl
  case hl => exact rfl
  case hok => decide +kernel
  clear cx rm
  intro f' A' s' B hs
  have cx := B.cx
  have rm := B.rm
  have n0 := B.at (i := 0) rfl
  have n1 := B.at (i := 1) rfl
  have n2 := B.at (i := 2) rfl
  have n3 := B.at (i := 3) rfl
  have n4 := B.at (i := 4) rfl
  have n5 := B.at (i := 5) rfl
  have n6 := B.at (i := 6) rfl
  clear B
  unfold QS.remove_ at he
  obtain ⟨res, hres, he⟩ := Option.bind_eq_some_iff.mp he
  refine X.assignV cx hs n3 rfl (Me.meth2 (Mu.me ⟨cx, hK, hq, 0, n0, rfl⟩) (KQ.m_contained_at_loc hK) (PE.nameI cx n1 rfl) (PE.nameI cx n2 rfl) (fun v u ⟨t, e⟩ ⟨t', e'⟩ => by rw [e, e']; exact contained hK cx (rm.less (by decide)) hq.app hqq hres)) ?_
  rintro _ _ _ s₁ ⟨⟨ti, rfl⟩, rfl, rfl⟩ hs
  refine X.if hs (PT.eq (PE.nameI cx n3 rfl) (PE.neg PE.cInt)) ?_ ?_
  · intro c s₁ hs
    cases res with
    | some i => exfalso; have := eq_of_beq c; simp only [oi] at this; omega
    | none =>
      cases he
      exact X.ret0 hs ⟨_, _, _, ⟨rfl, rfl, _, rfl, hq⟩, hs⟩
  intro c s₁ hs
  cases res with
  | none => exact absurd c (by decide)
  | some i =>
    have hi : i < S.n := QS.contained_lt hres hqq hq.pos
    have hj : S.nx i < S.n := Nat.mod_lt _ hq.pos
    refine X.nil (g := g) hs (X.assign cx hs n4 rfl (Me.nx (Mu.me ⟨cx, hK, hq, 0, n0, rfl⟩) (PE.nameI cx n3 rfl)) ?_)
    rintro _ s₁ ⟨tj, rfl⟩ hs
    refine X.assignV cx hs n5 rfl (Me.meth2 (Mu.me ⟨cx, hK, hq, 0, n0, rfl⟩) (KQ.m_should_remove_orig_idx hK) (PE.nameI cx n3 rfl) (PE.nameI cx n4 rfl) (fun v u ⟨t, e⟩ ⟨t', e'⟩ => by rw [e, e']; exact should_remove hK cx (rm.less (by decide)) hq.app hi hj)) ?_
    rintro _ _ _ s₁ ⟨rfl, rfl, rfl⟩ hs
    dsimp only at he
    refine X.if hs (PT.or2 (PT.val (Me.emp (Mu.me ⟨cx, hK, hq, 0, n0, rfl⟩) (rm.less (by decide)) (PE.nameI cx n4 rfl) hj) (fun _ => rfl)) (fun _ => PT.val (Me.cst (Mu.me ⟨cx, hK, hq, 0, n0, rfl⟩) (rm.less (by decide)) (PE.nameI cx n4 rfl) hj) (fun _ => rfl))) ?_ ?_
    · intro c s₁ hs
      rw [if_pos c] at he
      cases he
      refine X.expr cx hs (Me.methN (Mu.me ⟨cx, hK, hq, 0, n0, rfl⟩) (KQ.m_remove_and_clear_bits hK) (AR.cons (PE.nameI cx n3 rfl) (AR.cons (PE.nameI cx n1 rfl) (AR.cons (PE.nameV cx n5 rfl) AR.nil))) (P := Now ad (S.remClear i qq (S.rcs i && !S.con (S.nx i))) R r (· = .none)) ?_) (fun v n' r' h a => by rw [h.1]; exact fun z => nomatch z) ?_
      · rintro _ ⟨_, _, rfl, ⟨_, rfl⟩, _, _, rfl, ⟨_, rfl⟩, _, _, rfl, rfl, rfl⟩
        exact remove_and_clear hK cx (rm.less (by decide)) hq hi hqq
      · rintro _ _ _ s₁ ⟨rfl, rfl, l, rfl, hq⟩ hs
        exact X.ret0 hs ⟨_, _, _, ⟨rfl, rfl, _, rfl, hq⟩, hs⟩
    intro c s₁ hs
    rw [if_neg (by rw [c]; decide)] at he
    obtain ⟨m, hm, he⟩ := Option.bind_eq_some_iff.mp he
    have hml : m < S.n := QS.fcLoop_lt hq.pos hm hi
    obtain ⟨⟨S₂, i₂, j₂⟩, hse, he⟩ := Option.bind_eq_some_iff.mp he
    have hfm := firstMove_lt hq.pos hi hj
    have hfn := firstMove_n S i (S.nx i)
    have hsl := seLoop_lt hse (by rw [hfn]; exact hq.pos) (by rw [hfn]; exact hfm.1) (by rw [hfn]; exact hfm.2)
    have hsn := (seLoop_n hse).trans hfn
    refine X.nil (g := g) hs (X.assignV cx hs n6 rfl (Me.meth1 (Mu.me ⟨cx, hK, hq, 0, n0, rfl⟩) (KQ.m_find_cluster_start hK) (PE.nameI cx n3 rfl) (fun v ⟨t, e⟩ => by rw [e]; exact find_start hK cx (rm.less (by decide)) hq.app hi hm)) ?_)
    rintro _ _ _ s₁ ⟨⟨tm, rfl⟩, rfl, rfl⟩ hs
    refine X.assign2 cx rm hs n3 rfl n4 rfl (Me.meth2 (Mu.me ⟨cx, hK, hq, 0, n0, rfl⟩) (KQ.m_handle_first_move hK) (PE.nameI cx n3 rfl) (PE.nameI cx n4 rfl) (fun v u ⟨t, e⟩ ⟨t', e'⟩ => by rw [e, e']; exact first_move hK cx (rm.less (by decide)) hq hi hj)) ?_
    rintro _ _ _ _ s₁ ⟨⟨tv, rfl⟩, ⟨tw, rfl⟩, rfl, l, rfl, hq⟩ hs
    refine X.assign2 cx rm hs n3 rfl n4 rfl (Me.meth2 (Mu.me ⟨cx, hK, hq, 0, n0, rfl⟩) (KQ.m_shift_elements hK) (PE.nameI cx n3 rfl) (PE.nameI cx n4 rfl) (fun v u ⟨t, e⟩ ⟨t', e'⟩ => by rw [e, e']; exact shift_elements hK cx (rm.less (by decide)) hq (by rw [hfn]; exact hfm.1) (by rw [hfn]; exact hfm.2) hse)) ?_
    rintro _ _ _ _ s₁ ⟨⟨tv, rfl⟩, ⟨tw, rfl⟩, rfl, l, rfl, hq⟩ hs
    have hi2 : i₂ < S₂.n := by rw [hsn, ← hfn]; exact hsl.1
    have hq2 : qq < S₂.n := by rw [hsn]; exact hqq
    have hm2 : m < S₂.n := by rw [hsn]; exact hml
    refine X.expr cx hs (Me.meth1 (Mu.me ⟨cx, hK, hq, 0, n0, rfl⟩) (KQ.m_clear_last_element hK) (PE.nameI cx n3 rfl) (P := Now ad (S₂.clearLast i₂) R r (· = .none)) (fun v ⟨t, e⟩ => by rw [e]; exact clear_last hK cx (rm.less (by decide)) hq hi2)) (fun v n' r' h a => by rw [h.1]; exact fun z => nomatch z) ?_
    rintro _ _ _ s₁ ⟨rfl, rfl, l, rfl, hq⟩ hs
    have hfu : S.fuel = (S₂.clearLast i₂).fuel := by show 4 * S.n + 10 = 4 * S₂.n + 10; rw [hsn]
    refine X.ifJ (fun s => ∃ l' S', QFm l' ad S' ∧ S'.n = S₂.n ∧ QS.fxLoop j₂ S'.fuel S' m none [] = some T ∧ St f' [some (.ref ad.x), some (.int qq t1), some (.int rr t2), some (.int i₂ tv), some (.int j₂ tw), some (.bool (S.rcs i && !S.con (S.nx i))), some (.int m tm)] (l' ++ R) r s) hs
      (PT.val (PE.name cx n5 rfl (P := isB (S.rcs i && !S.con (S.nx i))) rfl) (fun _ => rfl)) ?_ ?_ ?_
    · intro c s₁ hs
      rw [if_pos c] at he
      refine X.setOcc (w := false) ⟨cx, hK, hq, 0, n0, rfl⟩ (rm.less (by decide)) hs PE.cInt (PE.nameI cx n1 rfl) hq2 ?_
      intro l s₁ hq hs
      rw [hfu] at he
      exact X.nil (g := g) hs ⟨rfl, _, _, hq, rfl, he, hs⟩
    · intro c s₁ hs
      rw [if_neg (by rw [c]; decide)] at he
      rw [hfu] at he
      exact X.nil (g := g) hs ⟨rfl, _, _, hq, rfl, he, hs⟩
    rintro s₁ ⟨l, S', hq, hn, he, hs⟩
    refine X.expr cx hs (Me.meth2 (Mu.me ⟨cx, hK, hq, 0, n0, rfl⟩) (KQ.m_fixup_cluster hK) (PE.nameI cx n6 rfl) (PE.nameI cx n4 rfl) (P := Now ad T R r (· = .none)) (fun v u ⟨t, e⟩ ⟨t', e'⟩ => by rw [e, e']; exact fixup hK cx (rm.less (by decide)) hq (by rw [hn]; exact hm2) he)) (fun v n' r' h a => by rw [h.1]; exact fun z => nomatch z) ?_
    rintro _ _ _ s₁ ⟨rfl, rfl, l, rfl, hq⟩ hs
    exact X.done hs hq

theorem remove_alt (hK : IsK g) (cx : Cx g f) (rm : Rm f A 10) (hq : QFm l ad S) {h : Nat} (hh : h < 2 ^ 32) (he : S.removeAlt h = some T) :
    CL g f A vs (l ++ R) r 310 [.ref ad.x, .int h t1] (Now ad T R r (· = .none)) := by
  refine' CL.enter (d := 9) cx rm ["self", "_hash"] ["key_quotient", "key_remainder"] ?ho ?hcd ?hb ?hl ?hok ?_
  case ho => refine IsK.look hK ?_; k_is
  case hcd => refine IsK.code hK ?_; k_is
  case hb => exact rfl
  case hl => exact rfl
  case hok => decide +kernel
  clear cx rm
  intro f' A' s' B hs
  have cx := B.cx
  have rm := B.rm
  have n0 := B.at (i := 0) rfl
  have n1 := B.at (i := 1) rfl
  have n2 := B.at (i := 2) rfl
  have n3 := B.at (i := 3) rfl
  clear B
  refine X.assign cx hs n2 rfl (Me.quot (Mu.me ⟨cx, hK, hq, 0, n0, rfl⟩) (PE.nameI cx n1 rfl)) ?_
  rintro _ s₁ ⟨t2, rfl⟩ hs
  refine X.assign cx hs n3 rfl (Me.rmd (Mu.me ⟨cx, hK, hq, 0, n0, rfl⟩) (PE.nameI cx n1 rfl)) ?_
  rintro _ s₁ ⟨t3, rfl⟩ hs
  refine X.expr cx hs (Me.meth2 (Mu.me ⟨cx, hK, hq, 0, n0, rfl⟩) (KQ.m_remove_element hK) (PE.nameI cx n2 rfl) (PE.nameI cx n3 rfl) (P := Now ad T R r (· = .none)) (fun v u ⟨t, e⟩ ⟨t', e'⟩ => by rw [e, e']; exact remove_element hK cx (rm.less (by decide)) hq (hq.quot_lt hh) he)) (fun v n' r' h a => by rw [h.1]; exact fun z => nomatch z) ?_
  rintro _ _ _ s₁ ⟨rfl, rfl, l, rfl, hq⟩ hs
  exact X.done hs hq
end
end Mine
end

section
set_option maxRecDepth 100000
open PySem PySem.W PyProof.Rows PySem.Calls
namespace Mine
def setS (sl : Array (Option Value)) (i : Nat) (v : Value) : Array (Option Value) := (sl ++ Array.replicate (i + 1 - sl.size) none).setIfInBounds i (some v)
theorem setS_size (sl : Array (Option Value)) (i : Nat) (v : Value) : (setS sl i v).size = max sl.size (i + 1) := by
  unfold setS
  rw [Array.size_setIfInBounds, Array.size_append, Array.size_replicate]; omega
theorem setS_self (sl : Array (Option Value)) (i : Nat) (v : Value) : ((setS sl i v)[i]?).join = some v := by
  unfold setS
  rw [Array.getElem?_setIfInBounds_self_of_lt]
  · rfl
  · rw [Array.size_append, Array.size_replicate]; omega
theorem setS_ne (sl : Array (Option Value)) {i j : Nat} (v : Value) (h : j ≠ i) : ((setS sl i v)[j]?).join = (sl[j]?).join := by
  unfold setS
  rw [Array.getElem?_setIfInBounds_ne (Ne.symm h), Array.getElem?_append]
  split
  · rfl
  · rename_i hge
    rw [Array.getElem?_eq_none (Nat.le_of_not_lt hge), Array.getElem?_replicate]
    split <;> rfl
theorem fold_zeros (v : Value) : ∀ k : Nat, ∀ a : Array Value, List.foldl (fun x y => x ++ y) a (List.replicate k #[v]) = a ++ Array.replicate k v
  | 0, a => by simp
  | k + 1, a => by
    rw [List.replicate_succ, List.foldl_cons, fold_zeros v k]
    apply Array.ext'
    simp [List.replicate_succ]
theorem under_new (A : Around) (C : Addr) (l : List Value) : (A.under (.builtin "type.__call__" ⟨.ref C :: l, []⟩)).depth = A.depth + 1 ∧ (A.under (.builtin "type.__call__" ⟨.ref C :: l, []⟩)).units = A.units + 1 ∧
    (A.under (.builtin "type.__call__" ⟨.ref C :: l, []⟩)).frames = A.frames ∧ (A.under (.builtin "type.__call__" ⟨.ref C :: l, []⟩)).handled = A.handled := ⟨rfl, rfl, rfl, rfl⟩
section
variable {g : Gl} {f : Fm} {A : Around} {vs : List (Option Value)} {news : Ledger} {r : Rs} {s : Shared}
variable {P : Value → Prop} {e l r₁ r₂ e₁ e₂ o ix value : Expr} {pos p' xp p1 p2 p3 apos : Pos} {a b : Int} {x y : Str} {i j k : Nat} {v : Value} {b₁ b₂ : Bool} {rest body : List Stmt} {Q : Flow → Shared → Prop} {E : Value → Shared → Prop} {la : Addr} {its : List Value} {ep : Nat}

theorem Rm.new {d : Nat} (h : Rm f A (d + 1)) (C : Addr) (l : List Value) : Rm f (A.under (.builtin "type.__call__" ⟨.ref C :: l, []⟩)) d := by
  obtain ⟨h1, h2, h3, h4⟩ := under_new A C l
  have hd := h.dep
  have hu := h.uni
  exact ⟨by rw [h3]; exact h.fr, by rw [h1]; omega, by rw [h2]; omega, by rw [h4]; exact h.hd⟩
/-- a class called: facts -/
structure NewOK (K : Frag) (C fI : Addr) : Prop where
  hm : makesIn K C = true
  hi : findIn K (.ref C) "__init__" = some (some (.ref fI))
  hf : isFn K (.ref fI) = true
  hk : keepIn K (.ref C) = true
/-- arguments that are an effect-free list, empty too -/
theorem EX.new {C fI : Addr} {PA : List Value → Prop} {P : Value → Ledger → Rs → Prop} {ea : Expr} {args : List Expr} (cx : Cx g f) (ok : NewOK g.K C fI) (hk : f.env.kindOf x = some .globalImplicit) (hx : nsIn g.K mainGlobals x = some (some (.ref C)))
    (ha : AR g f A vs news r (ea :: args) PA)
    (hc : ∀ l xa dx, PA l → CL g f (A.under (.builtin "type.__call__" ⟨.ref C :: l, []⟩)) vs ((xa, instS C dx #[]) :: (dx, dictOf [] 0) :: news) r fI (.ref xa :: l) (fun v n' r' => v = .none ∧ P (.ref xa) n' r'))
    (he' : starEach (ea :: args) f.env = (false, eval ea f.env) :: starEach args f.env := by rfl) (hplain : (backTo pos (starEach args f.env)).any (·.1) = false := by rfl) (hd : (x == ("__debug__" : Str)) = false := by decide) :
    EX g f A vs news r (.Call (.Name x xp) (ea :: args) [] pos) P :=
  fun _ _ _ hs k => wpAny_Call_NameR (PE.nameG cx hk hx hd _ _ _ hs fun _ _ q hs₁ => by
    subst q
    refine callWith_K cx.X ok.hk (ha _ _ _ _ hs₁ fun l s₂ p hs₂ => ⟨cx.X.keeps hs₂.F.keep, ?_⟩) he' hplain
    refine call_cls hs₂.F cx.X hs₂.N ok.hm ok.hi ok.hf fun xa dx h' F' N' l1 l2 => ?_
    refine hc l xa dx p _ _ ⟨F', N', ?_, hs₂.gens, hs₂.drawn, hs₂.os⟩ fun v n' r' s' ⟨e, p⟩ hs' => ?_
    · have hlt : ∀ q ∈ news.map (·.1), q < dx := fun q hq => by
        obtain ⟨p, hp, e⟩ := List.mem_map.mp hq
        rw [← e]; exact l1 p hp
      rw [List.map_cons, List.map_cons, List.nodup_cons, List.nodup_cons]
      refine ⟨fun hm => ?_, fun hm => Nat.lt_irrefl _ (hlt _ hm), hs₂.nd⟩
      rcases List.mem_cons.mp hm with e | hm
      · exact Nat.ne_of_gt l2 e
      · have := hlt _ hm; exact Nat.lt_irrefl _ (Nat.lt_trans this l2)
    · exact ⟨e, k _ _ _ _ p hs'⟩)
/-- a built-in function called with pure arguments -/
theorem EX.callB {T : String} {PA : List Value → Prop} {P : Value → Ledger → Rs → Prop} {ea : Expr} {args : List Expr} (cx : Cx g f) (hk : f.env.kindOf x = some .globalImplicit) (hm : nsIn g.K mainGlobals x = some none) (hv : bootBuiltins x = some (.builtin T)) (hn : x ≠ "__name__") (ha : AR g f A vs news r (ea :: args) PA)
    (hc : ∀ l (Q : Value → Shared → Prop) E s, PA l → St f vs news r s → (∀ v n' r' s', P v n' r' → St f vs n' r' s' → Q v s') → wpAny g.M A (call (.builtin T) l) Q E s)
    (he' : starEach (ea :: args) f.env = (false, eval ea f.env) :: starEach args f.env := by rfl) (hplain : (backTo pos (starEach args f.env)).any (·.1) = false := by rfl) (hd : (x == ("__debug__" : Str)) = false := by decide) :
    EX g f A vs news r (.Call (.Name x xp) (ea :: args) [] pos) P :=
  fun _ _ _ hs k => wpAny_Call_NameR (PE.nameBt cx hk hm hv hn hd _ _ _ hs fun _ _ q hs₁ => by
    subst q
    exact callWith_method1 (ha _ _ _ _ hs₁ fun l s₂ p hs₂ => hc l _ _ _ p hs₂ k) he' hplain)
/-- self.x = v, in the object's dict -/
theorem X.setDict {C xa dx : Addr} {attr : Str} {sl : Array (Option Value)} {es : List DictEntry} {n : Nat} (cx : Cx g f) (ok : OwnOK g.K C attr) (hs : St f vs news r s) (hv : PE g f A vs news r value P) (ho : PE g f A vs news r o (· = .ref xa)) (h₁ : (xa, instS C dx sl) ∈ news) (h₂ : (dx, dictOf es n) ∈ news)
    (hl : (getL attr es).isSome = true) (hz : ∀ h k v, (putL attr h k v es).length ≤ 1000)
    (cont : ∀ v s' h t, P v → St f vs (Mine.put dx (dictOf (putL attr h (.str attr t) v es) (putN attr es n)) news) r s' → wpAny g.M A (execs rest f.env) Q E s')
    (hsw : swapsWith value (some (o.Attribute attr p')) pos.line f.env = pure false := by rfl) : wpAny g.M A (execs (.Assign [.Attribute o attr p'] value pos :: rest) f.env) Q E s :=
  wpAny_execs_cons (plainObj_wpAny_Assign_Attribute (hv _ _ _ hs fun v _ p s₁ => ho _ _ _ s₁ fun _ s₂ q hs₂ => by
    subst q
    exact set_dict hs₂.F cx.X hs₂.N (.of_news hs₂.N h₁ h₂) rfl ok.hs ok.hp ok.ht ok.hh hl rfl (upd_put hs₂.nd h₂) (hz _ _ _) fun h' F' N' => cont v _ _ _ p ⟨F', N', by rw [put_keys]; exact hs₂.nd, hs₂.gens, hs₂.drawn, hs₂.os⟩) hsw)
/-- as X.setOwn, the value an expression that changes the ledger -/
theorem X.setDictE {C xa dx : Addr} {attr : Str} {sl : Array (Option Value)} {es : List DictEntry} {n : Nat} {P : Value → Ledger → Rs → Prop} (cx : Cx g f) (ok : OwnOK g.K C attr) (hs : St f vs news r s) (hv : EX g f A vs news r value P) (ho : ∀ n' r', PE g f A vs n' r' o (· = .ref xa)) (h₁ : ∀ v n' r', P v n' r' → (xa, instS C dx sl) ∈ n') (h₂ : ∀ v n' r', P v n' r' → (dx, dictOf es n) ∈ n')
    (hl : (getL attr es).isSome = true) (hz : ∀ h k v, (putL attr h k v es).length ≤ 1000)
    (cont : ∀ v n' r' s' h t, P v n' r' → St f vs (Mine.put dx (dictOf (putL attr h (.str attr t) v es) (putN attr es n)) n') r' s' → (n'.map (·.1)).Nodup → wpAny g.M A (execs rest f.env) Q E s')
    (hsw : swapsWith value (some (o.Attribute attr p')) pos.line f.env = pure false := by rfl) : wpAny g.M A (execs (.Assign [.Attribute o attr p'] value pos :: rest) f.env) Q E s :=
  wpAny_execs_cons (plainObj_wpAny_Assign_Attribute (hv _ _ _ hs fun v n' r' _ p s₁ => ho _ _ _ _ _ s₁ fun _ s₂ q hs₂ => by
    subst q
    exact set_dict hs₂.F cx.X hs₂.N (.of_news hs₂.N (h₁ _ _ _ p) (h₂ _ _ _ p)) rfl ok.hs ok.hp ok.ht ok.hh hl rfl (upd_put hs₂.nd (h₂ _ _ _ p)) (hz _ _ _) fun h' F' N' => cont v _ _ _ _ _ p ⟨F', N', by rw [put_keys]; exact hs₂.nd, hs₂.gens, hs₂.drawn, hs₂.os⟩ hs₂.nd) hsw)
/-- self.x = v, a slot, the value an expression that changes the ledger -/
theorem X.setSlotE {C xa dx : Addr} {attr : Str} {sl : Array (Option Value)} {od : Obj} {P : Value → Ledger → Rs → Prop} (cx : Cx g f) (ok : SlotOK g.K C attr i) (hs : St f vs news r s) (hv : EX g f A vs news r value P) (ho : ∀ n' r', PE g f A vs n' r' o (· = .ref xa)) (h₁ : ∀ v n' r', P v n' r' → (xa, instS C dx sl) ∈ n') (h₂ : ∀ v n' r', P v n' r' → (dx, od) ∈ n')
    (cont : ∀ v n' r' s', P v n' r' → St f vs (Mine.put xa (instS C dx (setS sl i v)) n') r' s' → (n'.map (·.1)).Nodup → wpAny g.M A (execs rest f.env) Q E s')
    (hsw : swapsWith value (some (o.Attribute attr p')) pos.line f.env = pure false := by rfl) : wpAny g.M A (execs (.Assign [.Attribute o attr p'] value pos :: rest) f.env) Q E s :=
  wpAny_execs_cons (plainObj_wpAny_Assign_Attribute (hv _ _ _ hs fun v n' r' _ p s₁ => ho _ _ _ _ _ s₁ fun _ s₂ q hs₂ => by
    subst q
    obtain ⟨pd, _, _, _, a4, a5, a6⟩ := ok.ex
    exact set_slot hs₂.F cx.X hs₂.N (.of_news hs₂.N (h₁ _ _ _ p) (h₂ _ _ _ p)) ok.hs ok.hp a5 a6 a4 ok.hz rfl rfl (upd_put hs₂.nd (h₁ _ _ _ p)) fun h' F' N' => cont v _ _ _ p ⟨F', N', by rw [put_keys]; exact hs₂.nd, hs₂.gens, hs₂.drawn, hs₂.os⟩ hs₂.nd) hsw)
/-- [0] * k -/
theorem EX.zeros {kk : Nat} {p4 : Pos} (h : ∀ n', PE g f A vs (n' :: news) r e (isI k)) (hk : k ≤ 2 ^ 22) : EX g f A vs news r (.BinOp (.List [.Constant (.int 0) kk p4] p1) .Mult e pos)
    (fun v n' r' => ∃ a1 a2 o1 t, v = .ref a2 ∧ r = r' ∧ n' = (a2, listOf (Array.replicate k (.int 0 t)) 0) :: (a1, o1) :: news) :=
  fun _ _ _ hs kont => wpAny_BinOp (EX.list (AR.cons PE.cInt AR.nil) (by rintro _ ⟨_, _, rfl, _, rfl⟩; exact Nat.le_of_ble_eq_true rfl) _ _ _ hs fun _ _ _ s₁ ⟨a1, _, e1, ⟨_, _, e2, ⟨t, e3⟩, e4⟩, e5, e6⟩ hs₁ => by
    subst e1 e2 e3 e4 e5 e6
    refine h _ _ _ _ hs₁ fun _ s₂ ⟨u, eu⟩ hs₂ => ?_
    subst eu
    have hm : s₂.heap.get? a1 = some { cls := .type "list", data := .seq #[.int 0 t] 0 } := hs₂.N.get (.head _)
    refine PyProof.Rows.mul_list hs₂.F hs₂.N hm (by omega) (by omega) (by simp; omega) fun h' F' N' => ?_
    refine kont _ _ _ _ ⟨a1, _, listOf #[.int 0 t] 0, t, rfl, rfl, rfl⟩ ⟨F', ?_, ?_, hs₂.gens, hs₂.drawn, hs₂.os⟩
    · have e : List.foldl (fun x1 x2 => x1 ++ x2) #[] (List.replicate (if (#[Value.int 0 t] : Array Value).isEmpty = true then 0 else (k : Int).toNat) #[Value.int 0 t]) = Array.replicate k (.int 0 t) := by
        rw [if_neg (by simp), Int.toNat_natCast, fold_zeros]; simp
      rw [e] at N'
      exact N'
    · exact (hs₂.alloc (ob := listOf #[] 0) (t := 0) rfl).nd)
end
end Mine
end

section
set_option maxRecDepth 100000
open PySem PySem.W PyProof.Rows PySem.Calls
set_option maxHeartbeats 4000000
namespace Mine
theorem dummyFill11 : (hd.heap_39 = hd.heap_39) ∧ (PySem.Challenge.rw_sv0018_01 = PySem.Challenge.rw_sv0018_01) := by
  k_fill
  exact ⟨rfl, rfl⟩
theorem Bytes.zeroT {n k t : Nat} (hk : k = n / 8) : Bytes n (fun _ => false) (Array.replicate k (.int 0 t)) := by
  refine ⟨by rw [Array.size_replicate, hk], fun j hj => ⟨0, t, ?_, by decide, fun k _ => Nat.zero_testBit k⟩⟩
  rw [Array.getElem?_replicate, if_pos (by omega)]; rfl
theorem put_at {D : Addr} {o o' : Obj} : ∀ {l : Ledger} {k : Nat}, (l.map (·.1)).Nodup → l[k]? = some (D, o') → put D o l = l.set k (D, o)
  | [], _, _, h => by simp at h
  | p :: l, 0, nd, h => by
    simp at h; subst h
    have h1 : D ∉ l.map (·.1) := (List.nodup_cons.mp nd).1
    show put D o ((D, o') :: l) = _
    unfold put
    rw [List.map_cons, if_pos rfl, List.set_cons_zero]
    congr 1
    exact put_off h1
  | p :: l, k + 1, nd, h => by
    simp only [List.getElem?_cons_succ] at h
    have h1 : p.1 ≠ D := fun e => (List.nodup_cons.mp nd).1 (List.mem_map.mpr ⟨_, List.mem_of_getElem? h, e.symm⟩)
    have ih := put_at (o := o) (List.nodup_cons.mp nd).2 h
    unfold put at ih ⊢
    rw [List.map_cons, if_neg h1, List.set_cons_succ, ih]
section
variable {g : Gl} {f : Fm} {A : Around} {vs : List (Option Value)} {news l R : Ledger} {r : Rs} {s : Shared}
variable {t t1 t2 : Tok} {n kk : Nat} {i d : Addr}

theorem St.at {k : Nat} {D : Addr} {o o' : Obj} (hs : St f vs (Mine.put D o news) r s) (h : news[k]? = some (D, o')) : St f vs (news.set k (D, o)) r s := by
  have nd := hs.nd
  rw [put_keys] at nd
  rw [← put_at nd h]; exact hs

/-- what Bitarray.__init__ leaves -/
def NewBA (n : Nat) (i d : Addr) (R : Ledger) (r : Rs) (v : Value) (news' : Ledger) (r' : Rs) : Prop :=
  v = .none ∧ r = r' ∧ ∃ la a1 l' es ne its ep, news' = l' ++ R ∧ l'.map (·.1) = [la, a1, i, d] ∧ BAm l' ⟨i, d, la⟩ n (fun _ => false) es ne its ep
theorem NewBA.mk {la a1 : Addr} {its : Array Value} {o1 : Obj} {es : List DictEntry} {ne ep : Nat} (h : BAm [(la, listOf its ep), (a1, o1), (i, instS 183 d #[]), (d, dictOf es ne)] ⟨i, d, la⟩ n (fun _ => false) es ne its ep) :
    NewBA n i d R r .none ((la, listOf its ep) :: (a1, o1) :: (i, instS 183 d #[]) :: (d, dictOf es ne) :: R) r := ⟨rfl, rfl, la, a1, _, _, _, _, _, rfl, rfl, h⟩
theorem bit_init (hK : IsK g) (cx : Cx g f) (rm : Rm f A 3) (hn : n = 8 * kk) (h0 : 0 < kk) (hsm : n ≤ 2 ^ 20) :
    CL g f A vs ((i, instS 183 d #[]) :: (d, dictOf [] 0) :: R) r 93 [.ref i, .int n t] (NewBA n i d R r) := by
  refine' CL.enter (d := 2) cx rm ["self", "size"] [] ?ho ?hcd ?hb ?hl ?hok ?_
  case ho => refine IsK.look hK ?_; k_is
  case hcd => refine IsK.code hK ?_; k_is
  case hb => exact rfl
  case hl => exact rfl
  case hok => decide +kernel
  clear cx rm
  intro f' A' s' B hs
  have cx := B.cx
  have rm := B.rm
  have n0 := B.at (i := 0) rfl
  have n1 := B.at (i := 1) rfl
  have gi := B.glob (x := "isinstance") rfl
  have gt := B.glob (x := "int") rfl
  clear B
  refine X.ifF hs (PT.toB (a := !true) (PT.not (PT.val (PE.of (EX.callB cx gi (by rw [hK]; k_is) rfl (by decide) (AR.cons (PE.nameV cx n1 rfl) (AR.cons (PE.nameBt cx gt (by rw [hK]; k_is) rfl (by decide)) AR.nil)) (P := still _ r (isB true)) ?_)) (fun _ => rfl))) rfl) ?_
  · rintro _ Q E s ⟨_, _, rfl, rfl, _, _, rfl, rfl, rfl⟩ hs k
    exact IsiPair.int_int (k _ _ _ _ ⟨rfl, rfl, rfl⟩ hs)
  intro s₁ hs
  refine X.ifF hs (PT.toB (PT.le (PE.nameI cx n1 rfl) PE.cInt) (by simp; omega)) ?_
  intro s₁ hs
  refine X.setDict cx (KB.o_size_bytes hK) hs (PE.toI (PE.neg (PE.fdiv (PE.neg (PE.nameI cx n1 rfl)) PE.cInt (by decide) (PyProof.noPylong_small (by decide)))) (b := kk) ?_) (PE.nameV cx n0 rfl) (.head _) (.tail _ (.head _)) rfl (fun _ _ _ => Nat.le_of_ble_eq_true rfl) ?_
  · rw [hn, Int.fdiv_eq_ediv_of_nonneg _ (by decide)]; omega
  rintro _ s₁ h1 u1 ⟨w1, rfl⟩ hs
  replace hs := hs.at (k := 1) rfl
  refine X.setDictE cx (KB.o_bitarray hK) hs (EX.zeros (k := kk) (fun n' => PE.own cx (KB.o_size_bytes hK) (PE.nameV cx n0 rfl) (.tail _ (.head _)) (.tail _ (.tail _ (.head _))) rfl ⟨_, rfl⟩ rfl) (by omega)) (fun n' r' => PE.nameV cx n0 rfl) (C := 183) (xa := i) (dx := d) (sl := #[]) (es := [⟨h1, .str "_size_bytes" u1, .int kk w1⟩]) (n := 1) ?_ ?_ rfl (fun _ _ _ => Nat.le_of_ble_eq_true rfl) ?_
  · rintro _ _ _ ⟨a1, a2, o1, t, rfl, rfl, rfl⟩
    exact .tail _ (.tail _ (.head _))
  · rintro _ _ _ ⟨a1, a2, o1, t, rfl, rfl, rfl⟩
    exact .tail _ (.tail _ (.tail _ (.head _)))
  rintro _ _ _ s₁ h2 u2 ⟨a1, a2, o1, t, rfl, rfl, rfl⟩ hs nd
  replace hs := hs.at (k := 3) rfl
  refine X.setDict cx (KB.o_size hK) hs (PE.nameI cx n1 rfl) (PE.nameV cx n0 rfl) (.tail _ (.tail _ (.head _))) (.tail _ (.tail _ (.tail _ (.head _)))) rfl (fun _ _ _ => Nat.le_of_ble_eq_true rfl) ?_
  rintro _ s₁ h3 u3 ⟨w3, rfl⟩ hs
  replace hs := hs.at (k := 3) rfl
  refine X.nil (g := g) hs ⟨_, _, _, NewBA.mk ?_, hs⟩
  exact ⟨.tail _ (.tail _ (.head _)), .tail _ (.tail _ (.tail _ (.head _))), .head _, ⟨_, rfl⟩, rfl, rfl, rfl, Bytes.zeroT (by omega), ⟨kk, hn⟩, by omega⟩
end
end Mine
end

section
set_option maxRecDepth 100000
open PySem PySem.W PyProof.Rows PySem.Calls
set_option maxHeartbeats 4000000
namespace Mine
theorem dummyFill12 : (hd.heap_39 = hd.heap_39) ∧ (PySem.Challenge.rw_sv0018_01 = PySem.Challenge.rw_sv0018_01) := by
  k_fill
  exact ⟨rfl, rfl⟩
def Has (sl : Array (Option Value)) (F : List (Nat × Value)) : Prop := ∀ p ∈ F, (sl[p.1]?).join = some p.2
theorem Has.set {sl : Array (Option Value)} {F : List (Nat × Value)} (h : Has sl F) (i : Nat) (v : Value) (hF : (F.map (·.1)).all (· != i) = true) : Has (setS sl i v) ((i, v) :: F) := by
  intro p hp
  rcases List.mem_cons.mp hp with rfl | hp
  · exact setS_self _ _ _
  · have := List.all_eq_true.mp hF p.1 (List.mem_map.mpr ⟨p, hp, rfl⟩)
    rw [setS_ne _ _ (bne_iff_ne.mp this)]
    exact h p hp
/-- a filter under way: its slots so far -/
structure Bld (x dx : Addr) (ne : Nat) (l : Ledger) (F : List (Nat × Value)) : Prop where
  hx : ∃ sl, (x, instS 476 dx sl) ∈ l ∧ Has sl F ∧ sl.size ≤ 14
  hd : (dx, dictOf [] ne) ∈ l
theorem nodup_same {a : Addr} {o o' : Obj} : ∀ {l : Ledger}, (l.map (·.1)).Nodup → (a, o) ∈ l → (a, o') ∈ l → o = o'
  | [], _, h, _ => nomatch h
  | p :: l, nd, h, h' => by
    have hn : ∀ {z : Obj}, (a, z) ∈ l → a ∈ l.map (·.1) := fun h => List.mem_map.mpr ⟨_, h, rfl⟩
    rcases List.mem_cons.mp h with e | k <;> rcases List.mem_cons.mp h' with e' | k'
    · rw [← e] at e'; cases e'; rfl
    · subst e; exact absurd (hn k') (List.nodup_cons.mp nd).1
    · subst e'; exact absurd (hn k) (List.nodup_cons.mp nd).1
    · exact nodup_same (List.nodup_cons.mp nd).2 k k'
def Off (x : Addr) (l l' : Ledger) : Prop := l'.map (·.1) = l.map (·.1) ∧ ∀ p ∈ l, p.1 ≠ x → p ∈ l'
section
variable {g : Gl} {f : Fm} {A : Around} {vs : List (Option Value)} {news l R : Ledger} {r : Rs} {s : Shared}
variable {P : Value → Prop} {o value : Expr} {pos p' xp : Pos} {rest : List Stmt} {Q : Flow → Shared → Prop} {E : Value → Shared → Prop}
variable {t t1 t2 : Tok} {n kk i ne : Nat} {x dx : Addr} {attr : Str} {F : List (Nat × Value)} {v : Value}

theorem Bld.get (b : Bld x dx ne l F) (cx : Cx g f) (ok : SlotOK g.K 476 attr i) (hm : ∀ p ∈ l, p ∈ news) (ho : PE g f A vs news r o (· = .ref x)) (k : Nat) (hF : F[k]? = some (i, v)) (hp : P v) (hh : handedIn v = true)
    (he : eval (.Attribute o attr pos) f.env = (do let o' ← eval o f.env; standAt pos.atName; let r ← holding [o'] (getAttr o' attr true); letTemporaryGo o o' r; pure r) := by rfl) :
    PE g f A vs news r (.Attribute o attr pos) P := by
  obtain ⟨sl, h1, h2, _⟩ := b.hx
  exact PE.slotG cx ok ho (hm _ h1) (hm _ b.hd) (h2 _ (List.mem_of_getElem? hF)) hp hh he
theorem off_mem {x : Addr} {ob ob' : Obj} {l m : Ledger} (nd : ((m ++ l).map (·.1)).Nodup) (h : (x, ob) ∈ l) : put x ob' (m ++ l) = m ++ put x ob' l := by
  have : x ∉ m.map (·.1) := fun hm => (List.nodup_append.mp (by simpa using nd)).2.2 x hm x (List.mem_map.mpr ⟨_, h, rfl⟩) rfl
  rw [put_append, put_off this]
theorem X.bsetE {W : Value → Ledger → Prop} (b : Bld x dx ne l F) (cx : Cx g f) (ok : SlotOK g.K 476 attr i) (hi : i < 14) (hs : St f vs (l ++ R) r s) (hv : EX g f A vs (l ++ R) r value (fun v n' r' => r = r' ∧ ∃ m, n' = m ++ (l ++ R) ∧ W v m))
    (ho : ∀ n' r', PE g f A vs n' r' o (· = .ref x)) (hF : (F.map (·.1)).all (· != i) = true)
    (cont : ∀ v m l' s', W v m → Bld x dx ne l' ((i, v) :: F) → Off x (m ++ l) l' → St f vs (l' ++ R) r s' → wpAny g.M A (execs rest f.env) Q E s')
    (hsw : swapsWith value (some (o.Attribute attr p')) pos.line f.env = pure false := by rfl) : wpAny g.M A (execs (.Assign [.Attribute o attr p'] value pos :: rest) f.env) Q E s := by
  obtain ⟨sl, h1, h2, h3⟩ := b.hx
  refine X.setSlotE (C := 476) (xa := x) (dx := dx) (sl := sl) (od := dictOf [] ne) cx ok hs hv ho ?_ ?_ ?_ hsw
  · rintro _ _ _ ⟨_, m, rfl, _⟩
    exact List.mem_append_right _ (List.mem_append_left _ h1)
  · rintro _ _ _ ⟨_, m, rfl, _⟩
    exact List.mem_append_right _ (List.mem_append_left _ b.hd)
  rintro v _ _ s' ⟨rfl, m, rfl, w⟩ hs' nd
  rw [← List.append_assoc] at hs' nd
  rw [put_left nd (List.mem_append_right _ h1)] at hs'
  refine cont v m _ s' w ⟨⟨_, mem_put_self (List.mem_append_right _ h1), h2.set i v hF, by rw [setS_size]; omega⟩, ?_⟩ ⟨put_keys _ _ _, fun p hp hne => mem_put_ne hp hne⟩ hs'
  refine mem_put_ne (List.mem_append_right _ b.hd) fun e => ?_
  have nd' : ((m ++ l).map (·.1)).Nodup := (List.nodup_append.mp (by simpa using nd : ((m ++ l).map (·.1) ++ R.map (·.1)).Nodup)).1
  have := nodup_same nd' (List.mem_append_right _ h1) (List.mem_append_right _ (e ▸ b.hd))
  cases this
theorem X.bset (b : Bld x dx ne l F) (cx : Cx g f) (ok : SlotOK g.K 476 attr i) (hi : i < 14) (hs : St f vs (l ++ R) r s) (hv : PE g f A vs (l ++ R) r value P)
    (ho : ∀ n' r', PE g f A vs n' r' o (· = .ref x)) (hF : (F.map (·.1)).all (· != i) = true)
    (cont : ∀ v l' s', P v → Bld x dx ne l' ((i, v) :: F) → Off x l l' → St f vs (l' ++ R) r s' → wpAny g.M A (execs rest f.env) Q E s')
    (hsw : swapsWith value (some (o.Attribute attr p')) pos.line f.env = pure false := by rfl) : wpAny g.M A (execs (.Assign [.Attribute o attr p'] value pos :: rest) f.env) Q E s := by
  refine X.bsetE (W := fun v m => P v ∧ m = []) b cx ok hi hs (fun Q E s hs k => hv Q E s hs fun v s' p hs' => k v _ _ s' ⟨rfl, [], rfl, p, rfl⟩ hs') ho hF ?_ hsw
  rintro v _ l' s' ⟨p, rfl⟩ b' off hs'
  exact cont v l' s' p b' off hs'
theorem foot_nodup {x dx fl a0 l3 b3 i3 d3 l2 b2 i2 d2 l1 b1 i1 d1 : Addr} {kl : List Addr} (hx : x ∈ kl) (hd : dx ∈ kl) (hne : x ≠ dx) (nd : ([fl, a0] ++ ([l3, b3, i3, d3] ++ ([l2, b2, i2, d2] ++ ([l1, b1, i1, d1] ++ kl)))).Nodup) :
    [x, dx, fl, i1, d1, l1, i2, d2, l2, i3, d3, l3].Nodup := by
  have hk : ∀ a, a ∈ [fl, i1, d1, l1, i2, d2, l2, i3, d3, l3] → a ∉ kl := by
    intro a ha hm
    simp only [List.cons_append, List.nil_append, List.nodup_cons, List.mem_cons, not_or] at nd
    simp only [List.mem_cons, List.not_mem_nil, or_false] at ha
    rcases ha with rfl | rfl | rfl | rfl | rfl | rfl | rfl | rfl | rfl | rfl
    all_goals simp_all
  have h10 : [fl, i1, d1, l1, i2, d2, l2, i3, d3, l3].Nodup := by
    simp only [List.cons_append, List.nil_append, List.nodup_cons, List.mem_cons, not_or] at nd
    simp only [List.nodup_cons, List.mem_cons, List.not_mem_nil, not_or, or_false, not_false_eq_true, List.nodup_nil, and_true]
    simp only [ne_eq, eq_comm] at nd ⊢
    simp_all
  refine List.nodup_cons.mpr ⟨?_, List.nodup_cons.mpr ⟨fun h => hk _ h hd, h10⟩⟩
  rintro (_ | h)
  exact hne rfl
  exact hk _ (by assumption) hx
theorem Off.bam {l l' : Ledger} {b : BA} {bits : Nat → Bool} {es : List DictEntry} {n ne : Nat} {its : Array Value} {ep : Nat} (off : Off x l l') (h : BAm l b n bits es ne its ep) (h1 : b.i ≠ x) (h2 : b.d ≠ x) (h3 : b.l ≠ x) : BAm l' b n bits es ne its ep :=
  { h with hi := off.2 _ h.hi h1, hd := off.2 _ h.hd h2, hl := off.2 _ h.hl h3 }
/-- what Bitarray(self._size) leaves -/
def NewB (n : Nat) (v : Value) (m : Ledger) : Prop := ∃ i d la a1 es ne its ep, v = .ref i ∧ m.map (·.1) = [la, a1, i, d] ∧ BAm m ⟨i, d, la⟩ n (fun _ => false) es ne its ep
theorem EX.newBA {e : Expr} (hK : IsK g) (cx : Cx g f) (rm : Rm f A 4) (hn : n = 8 * kk) (h0 : 0 < kk) (hsm : n ≤ 2 ^ 20) (hg : f.env.kindOf "Bitarray" = some .globalImplicit) (h : PE g f A vs news r e (isI n))
    (he' : starEach [e] f.env = (false, eval e f.env) :: starEach [] f.env := by rfl) :
    EX g f A vs news r (.Call (.Name "Bitarray" xp) [e] [] pos) (fun v n' r' => r = r' ∧ ∃ m, n' = m ++ news ∧ NewB n v m) := by
  refine EX.new (C := 183) (fI := 93) cx (by rw [hK]; exact ⟨by k_is, by k_is, by k_is, by k_is⟩) hg (by rw [hK]; k_is) (AR.cons h AR.nil he') ?_ he'
  rintro _ xa dx ⟨_, _, rfl, ⟨t, rfl⟩, rfl⟩
  intro R s hs k
  refine bit_init hK cx (rm.new _ _) hn h0 hsm _ _ hs ?_
  rintro v n' r' s' ⟨rfl, rfl, la, a1, l', es, ne, its, ep, rfl, hk, hb⟩ hs'
  exact k _ _ _ _ ⟨rfl, rfl, l', rfl, xa, dx, la, a1, es, ne, its, ep, rfl, hk, hb⟩ hs'
end
end Mine
end

section
set_option maxRecDepth 100000
open PySem PySem.W PyProof.Rows PySem.Calls
set_option maxHeartbeats 4000000
namespace Mine
theorem dummyFill13 : (hd.heap_39 = hd.heap_39) ∧ (PySem.Challenge.rw_sv0018_01 = PySem.Challenge.rw_sv0018_01) := by
  k_fill
  exact ⟨rfl, rfl⟩
section
variable {g : Gl} {f : Fm} {A : Around} {vs : List (Option Value)} {news l R : Ledger} {r : Rs} {s : Shared}
variable {P : Value → Prop} {o value : Expr} {pos p' xp : Pos} {rest : List Stmt} {Q : Flow → Shared → Prop} {E : Value → Shared → Prop}
variable {t t1 t2 : Tok} {n kk i ne : Nat} {x dx : Addr} {attr : Str} {F : List (Nat × Value)} {v : Value}

theorem PT.isNoneF {e r₁ : Expr} {u : Value} (h₁ : PE g f A vs news r e (· = u)) (h₂ : PE g f A vs news r r₁ (· = .none)) (hu : u ≠ .none) (hm : behindInMarks .Is r₁ = false := by with_unfolding_all rfl) : PT g f A vs news r (.Compare e [.Is] [r₁] pos) false :=
  PT.cmp h₁ h₂ (fun _ _ _ _ _ e₁ e₂ q => by subst e₁ e₂; exact is_none_ne hu q) hm
theorem pow8 {q : Nat} (h : 3 ≤ q) : 2 ^ q = 8 * 2 ^ (q - 3) := by
  obtain ⟨k, rfl⟩ : ∃ k, q = k + 3 := ⟨q - 3, by omega⟩
  rw [Nat.pow_add, Nat.add_sub_cancel]; omega
theorem NewB.keys {n : Nat} {v : Value} {m : Ledger} (h : NewB n v m) : ∃ i d la a1, v = .ref i ∧ m.map (·.1) = [la, a1, i, d] ∧ BAe m ⟨i, d, la⟩ n (fun _ => false) :=
  let ⟨i, d, la, a1, es, ne, its, ep, e, hk, hb⟩ := h; ⟨i, d, la, a1, e, hk, es, ne, its, ep, hb⟩
theorem Off.bae {l l' : Ledger} {b : BA} {bits : Nat → Bool} {n : Nat} (off : Off x l l') (h : BAe l b n bits) (h1 : b.i ≠ x) (h2 : b.d ≠ x) (h3 : b.l ≠ x) : BAe l' b n bits :=
  let ⟨a, b, c, d, e⟩ := h; ⟨a, b, c, d, off.bam e h1 h2 h3⟩

theorem set_params (hK : IsK g) (cx : Cx g f) (rm : Rm f A 5) {q : Nat} {au : Bool} {hf : Addr} {sl : Array (Option Value)} (hx : (x, instS 476 dx sl) ∈ l) (hsl : sl.size ≤ 14) (hd : (dx, dictOf [] ne) ∈ l) (h3 : 3 ≤ q) (h10 : q ≤ 10) :
    CL g f A vs (l ++ R) r 210 [.ref x, .int q t, .bool au, .ref hf] (fun v n' r' => v = .none ∧ r = r' ∧ ∃ l' fl o c s, n' = l' ++ R ∧ QFm l' ⟨x, dx, fl, o, c, s⟩ (QS.fresh q au hf)) := by
  refine' CL.enter (d := 4) cx rm ["self", "quotient", "auto_expand", "hash_function"] [] ?ho ?hcd ?hb ?hl ?hok ?_
  case ho => refine IsK.look hK ?_; k_is
  case hcd => refine IsK.code hK ?_; k_is
  case hb => exact rfl
  case hl => exact rfl
  case hok => decide +kernel
  clear cx rm
  intro f' A' s' B hs
  have cx := B.cx
  have rm := B.rm
  have n0 := B.at (i := 0) rfl
  have n1 := B.at (i := 1) rfl
  have n2 := B.at (i := 2) rfl
  have n3 := B.at (i := 3) rfl
  have gB := B.glob (x := "Bitarray") rfl
  have gF := B.glob (x := "fnv_1a_32") rfl
  clear B
  replace hs : St f' [some (.ref x), some (.int q t), some (.bool au), some (.ref hf)] (l ++ R) r s' := hs
  have b : Bld x dx ne l [] := ⟨⟨sl, hx, (fun _ h => nomatch h), hsl⟩, hd⟩
  have hp := pow8 h3
  have hpos : 0 < 2 ^ (q - 3) := Nat.two_pow_pos _
  have hle : 2 ^ q ≤ 2 ^ 10 := Nat.pow_le_pow_right (by decide) h10
  have hself : ∀ {A : Around} {p : Pos} (n' : Ledger) (r' : Rs), PE g f' A [some (.ref x), some (.int q t), some (.bool au), some (.ref hf)] n' r' (.Name "self" p) (· = .ref x) := fun n' r' => PE.nameV cx n0 rfl
  have hid : ∀ l : Ledger, ∀ p ∈ l, p ∈ l ++ R := fun _ _ h => List.mem_append_left _ h
  refine X.bset b cx (KQ.s_q hK) (by decide) hs (PE.nameI cx n1 rfl) hself rfl ?_
  rintro _ l s₁ ⟨u1, rfl⟩ b _ hs
  refine X.bset b cx (KQ.s_r hK) (by decide) hs (PE.toI (b := (32 - q : Nat)) (PE.sub PE.cInt (PE.nameI cx n1 rfl)) (by omega)) hself rfl ?_
  rintro _ l s₁ ⟨u2, rfl⟩ b _ hs
  refine X.bset b cx (KQ.s_size hK) (by decide) hs (PE.toI (b := ((2 ^ q : Nat) : Int)) (PE.shl PE.cInt (b.get cx (KQ.s_q hK) (hid _) (hself _ _) 1 rfl ⟨_, rfl⟩ rfl) (by omega) (by omega) (by decide)) (by simp)) hself rfl ?_
  rintro _ l s₁ ⟨u3, rfl⟩ b _ hs
  refine X.bset b cx (KQ.s_QuotientFilter__mod_size hK) (by decide) hs (PE.toI (b := (2 : Int) ^ q - 1) (PE.sub (b.get cx (KQ.s_size hK) (hid _) (hself _ _) 0 rfl ⟨_, rfl⟩ rfl) PE.cInt) (by simp)) hself rfl ?_
  rintro _ l s₁ ⟨u4, rfl⟩ b _ hs
  refine X.bset b cx (KQ.s_elements_added hK) (by decide) hs PE.cInt hself rfl ?_
  rintro _ l s₁ ⟨u5, rfl⟩ b _ hs
  refine X.bset b cx (KQ.s_auto_resize hK) (by decide) hs (PE.nameV cx n2 rfl) hself rfl ?_
  rintro _ l s₁ rfl b _ hs
  refine X.bset (P := (· = .ref hf)) b cx (KQ.s_hash_func hK) (by decide) hs (PE.ite (PT.isNoneF (PE.nameV cx n3 rfl) PE.cNone (by intro h; cases h)) (fun h => nomatch h) fun _ => PE.nameV cx n3 rfl) hself rfl ?_
  rintro _ l s₁ rfl b _ hs
  refine X.if hs (PT.toB (b := false) (PT.le (b.get cx (KQ.s_r hK) (hid _) (hself _ _) 5 rfl ⟨_, rfl⟩ rfl) PE.cInt) (by simp; omega)) (fun h => nomatch h) ?_
  intro _ s₁ hs
  refine X.if hs (PT.toB (b := false) (PT.le (b.get cx (KQ.s_r hK) (hid _) (hself _ _) 5 rfl ⟨_, rfl⟩ rfl) PE.cInt) (by simp; omega)) (fun h => nomatch h) ?_
  intro _ s₁ hs
  refine X.bset b cx (KQ.s_int_type_code hK) (by decide) hs PE.cStr hself rfl ?_
  rintro _ l s₁ ⟨u6, rfl⟩ b _ hs
  refine X.bset b cx (KQ.s_bits_per_elm hK) (by decide) hs PE.cInt hself rfl ?_
  rintro _ l s₁ ⟨u7, rfl⟩ b _ hs
  refine X.nil (g := g) hs (X.nil (g := g) hs ?_)
  have hxk : x ∈ l.map (·.1) := by obtain ⟨sl, h1, _⟩ := b.hx; exact List.mem_map.mpr ⟨_, h1, rfl⟩
  have hdk : dx ∈ l.map (·.1) := List.mem_map.mpr ⟨_, b.hd, rfl⟩
  refine X.bsetE b cx (KQ.s_is_occupied hK) (by decide) hs (EX.newBA hK cx rm hp hpos (by omega) gB (b.get cx (KQ.s_size hK) (hid _) (hself _ _) 6 rfl ⟨_, rfl⟩ rfl)) hself rfl ?_
  rintro _ m1 l1 s₁ w1 b off1 hs
  obtain ⟨i1, d1, la1, b1, rfl, k1, w1⟩ := w1.keys
  refine X.bsetE b cx (KQ.s_is_continuation hK) (by decide) hs (EX.newBA hK cx rm hp hpos (by omega) gB (b.get cx (KQ.s_size hK) (hid _) (hself _ _) 7 rfl ⟨_, rfl⟩ rfl)) hself rfl ?_
  rintro _ m2 l2 s₁ w2 b off2 hs
  obtain ⟨i2, d2, la2, b2, rfl, k2, w2⟩ := w2.keys
  refine X.bsetE b cx (KQ.s_is_shifted hK) (by decide) hs (EX.newBA hK cx rm hp hpos (by omega) gB (b.get cx (KQ.s_size hK) (hid _) (hself _ _) 8 rfl ⟨_, rfl⟩ rfl)) hself rfl ?_
  rintro _ m3 l3 s₁ w3 b off3 hs
  obtain ⟨i3, d3, la3, b3, rfl, k3, w3⟩ := w3.keys
  refine X.bsetE (W := fun v m => ∃ a1 a2 o1 t, v = .ref a2 ∧ m = [(a2, listOf (Array.replicate (2 ^ q) (.int 0 t)) 0), (a1, o1)]) b cx (KQ.s_filter hK) (by decide) hs
    (fun Q E s hs k => EX.zeros (fun n' => b.get cx (KQ.s_size hK) (fun p h => .tail _ (hid _ _ h)) (hself _ _) 9 rfl ⟨_, rfl⟩ rfl) (by omega) Q E s hs fun v n' r' s' ⟨a1, a2, o1, t, e1, e2, e3⟩ hs' => k v n' r' s' ⟨e2, _, e3, a1, a2, o1, t, e1, rfl⟩ hs') hself rfl ?_
  rintro _ _ l4 s₁ ⟨a1, fl, o1, t4, rfl, rfl⟩ b off4 hs
  have nd : (l4.map (·.1)).Nodup := (List.nodup_append.mp (by simpa using hs.nd : (l4.map (·.1) ++ R.map (·.1)).Nodup)).1
  have e3 := off3.1
  have e4 := off4.1
  have hne : x ≠ dx := by
    rintro rfl
    obtain ⟨sl, h1, _⟩ := b.hx
    cases nodup_same nd h1 b.hd
  rw [List.map_append, e3, List.map_append, off2.1, List.map_append, off1.1, List.map_append, k1, k2, k3] at e4
  rw [e4] at nd
  have foot := foot_nodup hxk hdk hne nd
  refine X.nil (g := g) hs ⟨_, _, _, ⟨rfl, rfl, l4, fl, ⟨i1, d1, la1⟩, ⟨i2, d2, la2⟩, ⟨i3, d3, la3⟩, rfl, ?_⟩, hs⟩
  have hnx := (List.nodup_cons.mp foot).1
  simp only [List.mem_cons, List.not_mem_nil, or_false, not_or] at hnx
  obtain ⟨_, x1, x2, x3, x4, x5, x6, x7, x8, x9, x10⟩ := hnx
  have ml : ∀ {m l : Ledger}, ∀ p ∈ m, p ∈ m ++ l := fun _ h => List.mem_append_left _ h
  have mr : ∀ {m l : Ledger}, ∀ p ∈ l, p ∈ m ++ l := fun _ h => List.mem_append_right _ h
  have w1 := off1.bae (w1.mono ml) (Ne.symm x2) (Ne.symm x3) (Ne.symm x4)
  have w1 := off2.bae (w1.mono mr) (Ne.symm x2) (Ne.symm x3) (Ne.symm x4)
  have w1 := off3.bae (w1.mono mr) (Ne.symm x2) (Ne.symm x3) (Ne.symm x4)
  have w1 := off4.bae (w1.mono mr) (Ne.symm x2) (Ne.symm x3) (Ne.symm x4)
  have w2 := off2.bae (w2.mono ml) (Ne.symm x5) (Ne.symm x6) (Ne.symm x7)
  have w2 := off3.bae (w2.mono mr) (Ne.symm x5) (Ne.symm x6) (Ne.symm x7)
  have w2 := off4.bae (w2.mono mr) (Ne.symm x5) (Ne.symm x6) (Ne.symm x7)
  have w3 := off3.bae (w3.mono ml) (Ne.symm x8) (Ne.symm x9) (Ne.symm x10)
  have w3 := off4.bae (w3.mono mr) (Ne.symm x8) (Ne.symm x9) (Ne.symm x10)
  obtain ⟨sl, h1, h2, h3'⟩ := b.hx
  have hsz : sl.size = 14 := by
    have h := h2 _ (List.mem_of_getElem? (i := 10) rfl)
    rcases Nat.lt_or_ge 13 sl.size with q | q
    · omega
    · rw [Array.getElem?_eq_none q] at h; cases h
  refine ⟨foot, ⟨sl, h1, ⟨hsz, ⟨_, h2 _ (List.mem_of_getElem? (i := 9) rfl)⟩, h2 _ (List.mem_of_getElem? (i := 7) rfl), ⟨_, h2 _ (List.mem_of_getElem? (i := 8) rfl)⟩, h2 _ (List.mem_of_getElem? (i := 0) rfl), h2 _ (List.mem_of_getElem? (i := 6) rfl),
    h2 _ (List.mem_of_getElem? (i := 2) rfl), h2 _ (List.mem_of_getElem? (i := 3) rfl), h2 _ (List.mem_of_getElem? (i := 1) rfl), ⟨_, h2 _ (List.mem_of_getElem? (i := 12) rfl)⟩, ⟨_, h2 _ (List.mem_of_getElem? (i := 11) rfl)⟩, ⟨_, h2 _ (List.mem_of_getElem? (i := 10) rfl)⟩⟩⟩,
    ⟨ne, b.hd⟩, ⟨_, 0, off4.2 _ (List.mem_append_left _ (.head _)) (Ne.symm x1), ?_⟩, w1, w2, w3, rfl, h3, by show q ≤ 20; omega⟩
  refine ⟨Array.size_replicate, fun j hj => ⟨t4, ?_⟩⟩
  rw [Array.getElem?_replicate, if_pos (show j < 2 ^ q from hj)]
  rfl

theorem init_ (hK : IsK g) (cx : Cx g f) (rm : Rm f A 6) {q : Nat} {au : Bool} {hf : Addr} {sl : Array (Option Value)} (hx : (x, instS 476 dx sl) ∈ l) (hsl : sl.size ≤ 14) (hd : (dx, dictOf [] ne) ∈ l) (h3 : 3 ≤ q) (h10 : q ≤ 10) :
    CL g f A vs (l ++ R) r 203 [.ref x, .int q t, .bool au, .ref hf] (fun v n' r' => v = .none ∧ r = r' ∧ ∃ l' fl o c s, n' = l' ++ R ∧ QFm l' ⟨x, dx, fl, o, c, s⟩ (QS.fresh q au hf)) := by
  refine' CL.enterD (d := 5) cx rm ["self", "quotient", "auto_expand", "hash_function"] [] [Value.ref x, .int q t, .bool au, .ref hf] ?ho ?hcd ?hb ?hbv ?hl ?hok ?_
  case ho => refine IsK.look hK ?_; k_is
  case hcd => refine IsK.code hK ?_; k_is
  case hb => exact fun s X => binds_K X rfl (IsK.look hK (by k_is)) rfl rfl rfl
  case hbv => exact rfl
  case hl => exact rfl
  case hok => decide +kernel
  clear cx rm
  intro f' A' s' B hs
  have cx := B.cx
  have rm := B.rm
  have n0 := B.at (i := 0) rfl
  have n1 := B.at (i := 1) rfl
  have n2 := B.at (i := 2) rfl
  have n3 := B.at (i := 3) rfl
  clear B
  refine X.ifF hs (PT.toB (PT.or2 (PT.lt (PE.nameI cx n1 rfl) PE.cInt) fun _ => PT.gt (PE.nameI cx n1 rfl) PE.cInt) (by simp; omega)) ?_
  intro s₁ hs
  refine X.expr cx hs (EX.meth cx (KQ.m_QuotientFilter__set_params hK) (PE.nameV cx n0 rfl) (List.mem_append_left _ hx) (List.mem_append_left _ hd) rfl (AR.cons (PE.nameI cx n1 rfl) (AR.cons (PE.nameV cx n2 rfl) (AR.cons (PE.nameV cx n3 rfl) AR.nil)))
    (P := fun v n' r' => v = .none ∧ r = r' ∧ ∃ l' fl o c s, n' = l' ++ R ∧ QFm l' ⟨x, dx, fl, o, c, s⟩ (QS.fresh q au hf)) ?_) (fun v n' r' h a => by rw [h.1]; exact fun z => nomatch z) ?_
  · rintro _ ⟨_, _, rfl, ⟨_, rfl⟩, _, _, rfl, rfl, _, _, rfl, rfl, rfl⟩
    exact set_params hK cx rm hx hsl hd h3 h10
  rintro _ _ _ s₁ ⟨rfl, h⟩ hs
  exact X.nil (g := g) hs ⟨_, _, _, ⟨rfl, h⟩, hs⟩
/-- QuotientFilter(q, auto, hash) -/
theorem EX.newQF {e1 e2 e3 : Expr} {q : Nat} {au : Bool} {hf : Addr} (hK : IsK g) (cx : Cx g f) (rm : Rm f A 7) (h3 : 3 ≤ q) (h10 : q ≤ 10) (hg : f.env.kindOf "QuotientFilter" = some .globalImplicit) (h1 : PE g f A vs news r e1 (isI q)) (h2 : PE g f A vs news r e2 (isB au)) (h3' : PE g f A vs news r e3 (· = .ref hf))
    (he1 : starEach [e1, e2, e3] f.env = (false, eval e1 f.env) :: starEach [e2, e3] f.env := by rfl) (he2 : starEach [e2, e3] f.env = (false, eval e2 f.env) :: starEach [e3] f.env := by rfl) (he3 : starEach [e3] f.env = (false, eval e3 f.env) :: starEach [] f.env := by rfl)
    (hp : (backTo pos (starEach [e2, e3] f.env)).any (·.1) = false := by rfl) :
    EX g f A vs news r (.Call (.Name "QuotientFilter" xp) [e1, e2, e3] [] pos) (fun v n' r' => r = r' ∧ ∃ ad l', v = .ref ad.x ∧ n' = l' ++ news ∧ QFm l' ad (QS.fresh q au hf)) := by
  refine EX.new (C := 476) (fI := 203) cx (by rw [hK]; exact ⟨by k_is, by k_is, by k_is, by k_is⟩) hg (by rw [hK]; k_is) (AR.cons h1 (AR.cons h2 (AR.cons h3' AR.nil he3) he2) he1) ?_ he1 hp
  rintro _ xa dx ⟨_, _, rfl, ⟨t, rfl⟩, _, _, rfl, rfl, _, _, rfl, rfl, rfl⟩
  intro R s hs k
  refine init_ (l := [(xa, instS 476 dx #[]), (dx, dictOf [] 0)]) (R := news) hK cx (rm.new _ _) (.head _) (by decide) (.tail _ (.head _)) h3 h10 _ _ hs ?_
  rintro v n' r' s' ⟨rfl, rfl, l', fl, o, c, s, rfl, hq⟩ hs'
  exact k _ _ _ _ ⟨rfl, rfl, ⟨xa, dx, fl, o, c, s⟩, l', rfl, rfl, hq⟩ hs'
end
end Mine
end

section
set_option maxRecDepth 100000
open PySem PySem.W PyProof.Rows PySem.Calls
namespace Mine
section
variable {g : Gl} {f : Fm} {A : Around} {vs : List (Option Value)} {news : Ledger} {r : Rs} {s : Shared}
variable {P : Value → Prop} {e l r₁ r₂ e₁ e₂ o ix value iter : Expr} {pos p' xp p1 p2 p3 apos : Pos} {a b c : Int} {x y : Str} {i j k : Nat} {v : Value} {b₁ b₂ : Bool} {rest body : List Stmt} {Q : Flow → Shared → Prop} {E : Value → Shared → Prop} {la : Addr} {its : List Value} {ep : Nat}

/-- new objects beside: the ledger stays -/
theorem St.ext {h' : Heap} {tk : Nat} (hs : St f vs news r s) (h : ∀ b o, s.heap.get? b = some o → h'.get? b = some o) : St f vs news r ⟨h', s.gens, s.drawn, tk, s.os⟩ := by
  obtain ⟨oL, es, ep, hL, hd, hk, hf⟩ := hs.F.ns
  exact ⟨⟨⟨oL, es, ep, h _ _ hL, hd, hk, hf⟩, fun b o e => h _ _ (hs.F.keep b o e), hs.F.above⟩, fun p hp => ⟨h _ _ (hs.N p hp).1, (hs.N p hp).2⟩, hs.nd, hs.gens, hs.drawn, hs.os⟩
/-- as St.ext, but an entry of the ledger is given up -/
theorem St.extBut {h' : Heap} {tk : Nat} {D : Addr} {ob : Obj} {a b : Ledger} (hs : St f vs (a ++ (D, ob) :: b) r s) (h : Heap.ExtBut D s.heap h') : St f vs (a ++ b) r ⟨h', s.gens, s.drawn, tk, s.os⟩ := by
  obtain ⟨oL, es, ep, hL, hd, hk, hf⟩ := hs.F.ns
  have z := hs.N (D, ob) (by simp)
  have hsub : ∀ p ∈ a ++ b, p ∈ a ++ (D, ob) :: b := fun p hp => by
    rcases List.mem_append.mp hp with h | h
    · exact List.mem_append_left _ h
    · exact List.mem_append_right _ (.tail _ h)
  have nd := hs.nd
  rw [List.map_append, List.map_cons, List.nodup_append, List.nodup_cons] at nd
  have hD : ∀ p ∈ a ++ b, p.1 ≠ D := fun p hp e => by
    rcases List.mem_append.mp hp with h | h
    · exact nd.2.2 p.1 (List.mem_map_of_mem h) D (.head _) e
    · exact nd.2.1.1 (e ▸ List.mem_map_of_mem (f := (·.1)) h)
  refine ⟨⟨⟨oL, es, ep, h _ _ (Ne.symm z.2.1) hL, hd, hk, hf⟩, fun b o e => h _ _ (fun q => by rw [q, z.2.2] at e; cases e) (hs.F.keep b o e), hs.F.above⟩, fun p hp => ⟨h _ _ (hD p hp) (hs.N p (hsub p hp)).1, (hs.N p (hsub p hp)).2⟩, ?_, hs.gens, hs.drawn, hs.os⟩
  rw [List.map_append, List.nodup_append]
  exact ⟨nd.1, nd.2.1.2, fun u hu w hw => nd.2.2 u hu w (.tail _ hw)⟩
theorem St.swap {a b c : Ledger} (hs : St f vs (a ++ (b ++ c)) r s) : St f vs (b ++ (a ++ c)) r s :=
  hs.perm (by rw [← List.append_assoc, ← List.append_assoc]; exact List.perm_append_comm.append_right c)
theorem St.toEnd {a b : Ledger} (hs : St f vs (a ++ b) r s) : St f vs (b ++ a) r s := hs.perm List.perm_append_comm

/-- a for over n values; T is the iterator's own ledger -/
theorem X.for (n : Nat) (W : Nat → Value → Prop) (T : Nat → Value → Ledger → Rs → Prop) (I : Nat → List (Option Value) → Ledger → Rs → Prop) (cx : Cx g f) (hx : f.ns[i]? = some x) (hi : ∀ j vs N r, I j vs N r → ∃ u, vs[i]? = some u) (hs : St f vs news r s) {PI : Value → Ledger → Rs → Prop}
    (he : EX g f A vs news r iter PI)
    (hit : ∀ v n' r' s', PI v n' r' → St f vs n' r' s' → wpAny g.M A (pyIter v) (fun it s'' => ∃ N t r'', I 0 vs N r'' ∧ T 0 it t r'' ∧ St f vs (N ++ t) r'' s'') (fun _ _ => False) s')
    (hnext : ∀ j it t r vs N s, j < n → T j it t r → I j vs N r → St f vs (N ++ t) r s → wpAny g.M A (pyNext it) (fun res s' => ∃ v t' r', res = some v ∧ W j v ∧ T (j + 1) it t' r' ∧ I j vs N r' ∧ St f vs (N ++ t') r' s') (fun _ _ => False) s)
    (hend : ∀ it t r vs N s, T n it t r → I n vs N r → St f vs (N ++ t) r s → wpAny g.M A (pyNext it) (fun res s' => ∃ t' r', res = none ∧ I n vs N r' ∧ St f vs (N ++ t') r' s') (fun _ _ => False) s)
    (turn : ∀ j it v vs N t r s, j < n → W j v → T (j + 1) it t r → I j vs N r → St f (vs.set i (some v)) (N ++ t) r s →
      wpAny g.M A (execs body f.env) (fun fl s' => (fl = .next ∨ fl = .cont) ∧ ∃ vs' N' r', I (j + 1) vs' N' r' ∧ T (j + 1) it t r' ∧ St f vs' (N' ++ t) r' s') (fun _ _ => False) s)
    (exit : ∀ t vs N r s, I n vs N r → St f vs (N ++ t) r s → wpAny g.M A (execs rest f.env) Q E s)
    (hfs : ∀ x, foldedSetIterable iter f.env x = pure x := by intro _; rfl) :
    wpAny g.M A (execs (.For (.Name x xp) iter body [] pos :: rest) f.env) Q E s := by
  refine wpAny_execs_cons (wpAny_For (he _ _ _ hs fun v n' r' s' p hs' => wpAny_mono (hit v n' r' s' p hs') (fun it s'' h => ?_) (fun _ _ z => z.elim)) hfs)
  obtain ⟨N, t, r'', hI, hT, hs''⟩ := h
  refine codeAny_forLoop (fun k s => ∃ j vs N t r, k + j = n ∧ I j vs N r ∧ T j it t r ∧ St f vs (N ++ t) r s) ?_ n ⟨0, _, _, _, _, rfl, hI, hT, hs''⟩
  rintro k s ⟨j, vs, N, t, r, hk, hI, hT, hs⟩
  rcases Nat.eq_zero_or_pos k with h0 | h0
  · have : j = n := by omega
    subst this
    refine wpAny_mono (hend it t r vs N s hT hI hs) (fun res s₁ h => ?_) (fun _ _ z => z.elim)
    obtain ⟨t', r', rfl, hI', hs'⟩ := h
    exact wpAny_execs_nil (exit t' vs N r' s₁ hI' hs')
  · refine wpAny_mono (hnext j it t r vs N s (by omega) hT hI hs) (fun res s₁ h => ?_) (fun _ _ z => z.elim)
    obtain ⟨v, t', r', rfl, hW, hT', hI', hs'⟩ := h
    obtain ⟨u, hu⟩ := hi j vs N r' hI'
    refine wpAny_assign_Name (wpAny_storeName_local (cx.kin i x hx) (hs'.ns cx) (fun h' hn' hsb => ?_) (by rw [cx.hk]; rfl))
    have hs₂ := hs'.store (tk := s₁.toks + 1) cx hx hu hn' hsb
    refine wpAny_mono (turn j it v vs N t' r' _ (by omega) hW hT' hI' hs₂) (fun fl s₃ h => ?_) (fun _ _ z => z.elim)
    obtain ⟨hfl, vs', N', r'', hI'', hT'', hs₃⟩ := h
    rcases hfl with rfl | rfl
    · exact ⟨k - 1, by omega, j + 1, vs', N', t', r'', by omega, hI'', hT'', hs₃⟩
    · exact ⟨k - 1, by omega, j + 1, vs', N', t', r'', by omega, hI'', hT'', hs₃⟩
end
end Mine
end

section
set_option maxRecDepth 100000
open PySem PySem.W PyProof.Rows PySem.Calls
namespace Mine
abbrev rangeObj (a : Int) (t : Tok) (b : Int) (u : Tok) (c : Int) (w : Tok) : Obj := { cls := .type "range", dict := none, data := .fields #[.int a t, .int b u, .int c w], slots := #[] }
abbrev rangeIt (x left step : Int) : Obj := { cls := .type "range_iterator", dict := none, data := .fields #[rawInt x, rawInt left, rawInt step], slots := #[] }
section
variable {g : Gl} {f : Fm} {A : Around} {vs : List (Option Value)} {news : Ledger} {r : Rs} {s : Shared}
variable {P : Value → Prop} {e l r₁ r₂ e₁ e₂ e₃ o ix value iter : Expr} {pos p' xp p1 p2 p3 apos : Pos} {a b c : Int} {x y : Str} {i j k n d : Nat} {v : Value} {b₁ b₂ : Bool} {rest body : List Stmt} {Q : Flow → Shared → Prop} {E : Value → Shared → Prop} {la : Addr} {its : List Value} {ep : Nat}

/-- a built-in type called with pure arguments -/
theorem EX.callT {T : String} {PA : List Value → Prop} {P : Value → Ledger → Rs → Prop} {ea : Expr} {args : List Expr} (cx : Cx g f) (hk : f.env.kindOf x = some .globalImplicit) (hm : nsIn g.K mainGlobals x = some none) (hv : bootBuiltins x = some (.type T)) (hn : x ≠ "__name__") (ha : AR g f A vs news r (ea :: args) PA)
    (hc : ∀ l (Q : Value → Shared → Prop) E s, PA l → St f vs news r s → (∀ v n' r' s', P v n' r' → St f vs n' r' s' → Q v s') → wpAny g.M A (call (.type T) l) Q E s)
    (he' : starEach (ea :: args) f.env = (false, eval ea f.env) :: starEach args f.env := by rfl) (hplain : (backTo pos (starEach args f.env)).any (·.1) = false := by rfl) (hd : (x == ("__debug__" : Str)) = false := by decide) :
    EX g f A vs news r (.Call (.Name x xp) (ea :: args) [] pos) P :=
  fun _ _ _ hs k => wpAny_Call_NameR (PE.nameBt cx hk hm hv hn hd _ _ _ hs fun _ _ q hs₁ => by
    subst q
    exact PyProof.Rows.callWith_type1 (ha _ _ _ _ hs₁ fun l s₂ p hs₂ => hc l _ _ _ p hs₂ k) he' hplain)
def isRange (a b c : Int) (news : Ledger) (r : Rs) (v : Value) (n' : Ledger) (r' : Rs) : Prop := r = r' ∧ ∃ ra t u w, v = .ref ra ∧ n' = (ra, rangeObj a t b u c w) :: news
theorem EX.range1 (cx : Cx g f) (hk : f.env.kindOf "range" = some .globalImplicit) (hm : nsIn g.K mainGlobals "range" = some none) (h : PE g f A vs news r e (isI b)) (he' : starEach [e] f.env = (false, eval e f.env) :: starEach [] f.env := by rfl) :
    EX g f A vs news r (.Call (.Name "range" xp) [e] [] pos) (isRange 0 b 1 news r) :=
  EX.callT cx hk hm rfl (by decide) (AR.cons h AR.nil he') (fun l Q E s ⟨_, _, e1, ⟨_, e2⟩, e3⟩ hs k => by
    subst e1 e2 e3
    exact call_range_1 (k _ _ _ _ ⟨rfl, _, _, _, _, rfl, rfl⟩ (hs.alloc rfl))) he'
theorem EX.range2 (cx : Cx g f) (hk : f.env.kindOf "range" = some .globalImplicit) (hm : nsIn g.K mainGlobals "range" = some none) (h : PE g f A vs news r e (isI a)) (h2 : PE g f A vs news r e₂ (isI b)) (he' : starEach [e, e₂] f.env = (false, eval e f.env) :: starEach [e₂] f.env := by rfl)
    (he2 : starEach [e₂] f.env = (false, eval e₂ f.env) :: starEach [] f.env := by rfl) (hp : (backTo pos (starEach [e₂] f.env)).any (·.1) = false := by rfl) :
    EX g f A vs news r (.Call (.Name "range" xp) [e, e₂] [] pos) (isRange a b 1 news r) :=
  EX.callT cx hk hm rfl (by decide) (AR.cons h (AR.cons h2 AR.nil he2) he') (fun l Q E s ⟨_, _, e1, ⟨_, e2⟩, _, _, e3, ⟨_, e4⟩, e5⟩ hs k => by
    subst e1 e2 e3 e4 e5
    exact call_range_2 (k _ _ _ _ ⟨rfl, _, _, _, _, rfl, rfl⟩ (hs.alloc rfl))) he' hp
theorem EX.range3 (cx : Cx g f) (hk : f.env.kindOf "range" = some .globalImplicit) (hm : nsIn g.K mainGlobals "range" = some none) (h : PE g f A vs news r e (isI a)) (h2 : PE g f A vs news r e₂ (isI b)) (h3 : PE g f A vs news r e₃ (isI c)) (hc : c ≠ 0) (hpy : Builtin.divisionGoesByPylong (b - a) c = false)
    (he' : starEach [e, e₂, e₃] f.env = (false, eval e f.env) :: starEach [e₂, e₃] f.env := by rfl)
    (he2 : starEach [e₂, e₃] f.env = (false, eval e₂ f.env) :: starEach [e₃] f.env := by rfl) (he3 : starEach [e₃] f.env = (false, eval e₃ f.env) :: starEach [] f.env := by rfl) (hp : (backTo pos (starEach [e₂, e₃] f.env)).any (·.1) = false := by rfl) :
    EX g f A vs news r (.Call (.Name "range" xp) [e, e₂, e₃] [] pos) (isRange a b c news r) :=
  EX.callT cx hk hm rfl (by decide) (AR.cons h (AR.cons h2 (AR.cons h3 AR.nil he3) he2) he') (fun l Q E s ⟨_, _, e1, ⟨_, e2⟩, _, _, e3, ⟨_, e4⟩, _, _, e5, ⟨_, e6⟩, e7⟩ hs k => by
    subst e1 e2 e3 e4 e5 e6 e7
    exact call_range_3 hc (k _ _ _ _ ⟨rfl, _, _, _, _, rfl, rfl⟩ (hs.alloc rfl)) (Or.inl hpy)) he' hp

/-- a for over a range -/
theorem X.forRange (n : Nat) (I : Nat → List (Option Value) → Ledger → Rs → Prop) (cx : Cx g f) (rm : Rm f A d) (hx : f.ns[i]? = some x) (hi : ∀ j vs N r, I j vs N r → ∃ u, vs[i]? = some u) (hs : St f vs news r s) (h0 : I 0 vs news r)
    (he : EX g f A vs news r iter (isRange a b c news r)) (hsz : Builtin.Range.rangeSize a b c = n) (hsm : Builtin.Range.small a b c = true)
    (turn : ∀ j t vs N T r s, j < n → I j vs N r → St f (vs.set i (some (.int (a + j * c) t))) (N ++ T) r s →
      wpAny g.M A (execs body f.env) (fun fl s' => (fl = .next ∨ fl = .cont) ∧ ∃ vs' N' r', I (j + 1) vs' N' r' ∧ St f vs' (N' ++ T) r' s') (fun _ _ => False) s)
    (exit : ∀ T vs N r s, I n vs N r → St f vs (N ++ T) r s → wpAny g.M A (execs rest f.env) Q E s)
    (hfs : ∀ x, foldedSetIterable iter f.env x = pure x := by intro _; rfl) :
    wpAny g.M A (execs (.For (.Name x xp) iter body [] pos :: rest) f.env) Q E s := by
  refine X.for n (fun j v => ∃ t, v = .int (a + j * c) t) (fun j it t r' => ∃ ia tl, it = .ref ia ∧ (j ≤ n → t = (ia, rangeIt (a + j * c) ((n : Int) - j) c) :: tl)) I cx hx hi hs he ?_ ?_ ?_ ?_ ?_ hfs
  · rintro v n' r' s' ⟨rfl, ra, t, u, w, rfl, rfl⟩ hs'
    refine wpAny_pyIter_range (hs'.N.get (.head _)) hsm ?_
    refine ⟨news, [(s'.heap.objs.size, rangeIt (a + (0 : Nat) * c) ((n : Int) - (0 : Nat)) c), (ra, rangeObj a t b u c w)], r, h0, ⟨_, _, rfl, fun _ => rfl⟩, ?_⟩
    refine St.toEnd (a := [_, _]) ?_
    have z := hs'.alloc (ob := rangeIt (a + (0 : Nat) * c) ((n : Int) - (0 : Nat)) c) (t := s'.toks) rfl
    rw [hsz]
    rw [show (a + ((0 : Nat) : Int) * c) = a by simp, show ((n : Int) - ((0 : Nat) : Int)) = n by simp] at z ⊢
    exact z
  · rintro j it t r' vs N s hj ⟨ia, tl, rfl, ht⟩ hI hs
    have ht := ht (Nat.le_of_lt hj)
    subst ht
    have hm : (ia, rangeIt (a + j * c) ((n : Int) - j) c) ∈ N ++ (ia, rangeIt (a + j * c) ((n : Int) - j) c) :: tl := by simp
    refine wpAny_pyNext_range_item (hs.N.get hm) (by omega) fun h' hit hsb => ?_
    refine ⟨_, (ia, rangeIt (a + ((j + 1 : Nat) : Int) * c) ((n : Int) - ((j + 1 : Nat) : Int)) c) :: tl, r', rfl, ⟨_, rfl⟩, ⟨ia, tl, rfl, fun _ => rfl⟩, hI, ?_⟩
    have e1 : a + ((j + 1 : Nat) : Int) * c = a + j * c + c := by push_cast; rw [Int.add_mul]; omega
    have e2 : (n : Int) - ((j + 1 : Nat) : Int) = (n : Int) - j - 1 := by omega
    rw [e1, e2]
    have z := hs.put (t := s.toks + 1) hm hsb hit
    have nd : ia ∉ N.map (·.1) := by
      have := hs.nd
      rw [List.map_append, List.map_cons, List.nodup_append] at this
      exact fun h => this.2.2 _ h ia (.head _) rfl
    have nd2 : ia ∉ tl.map (·.1) := by
      have := hs.nd
      rw [List.map_append, List.map_cons, List.nodup_append, List.nodup_cons] at this
      exact this.2.1.1
    rw [put_append, put_off nd] at z
    have e : put ia (rangeIt (a + j * c + c) ((n : Int) - j - 1) c) ((ia, rangeIt (a + j * c) ((n : Int) - j) c) :: tl) = (ia, rangeIt (a + j * c + c) ((n : Int) - j - 1) c) :: tl := by
      show (if ia = ia then _ else _) :: put ia _ tl = _
      rw [if_pos rfl, put_off nd2]
    rw [e] at z
    exact z
  · rintro it t r' vs N s ⟨ia, tl, rfl, ht⟩ hI hs
    have ht := ht (Nat.le_refl _)
    subst ht
    have hm : (ia, rangeIt (a + n * c) ((n : Int) - n) c) ∈ N ++ (ia, rangeIt (a + n * c) ((n : Int) - n) c) :: tl := by simp
    refine wpAny_pyNext_range_end rm.hd (hs.N.get hm) (by omega) fun h' hx => ?_
    exact ⟨tl, r', rfl, hI, hs.extBut hx⟩
  · rintro j it v vs N T r' s hj ⟨t, rfl⟩ hT hI hs
    exact wpAny_mono (turn j t vs N T r' s hj hI hs) (fun fl s' ⟨h1, vs', N', r'', h2, h3⟩ => ⟨h1, vs', N', r'', h2, hT, h3⟩) (fun _ _ z => z)
  · exact fun T vs N r' s hI hs => exit T vs N r' s hI hs
/-- a for over a list of the ledger, unchanged the while -/
theorem X.forList {la : Addr} {its : Array Value} {ep : Nat} (I : Nat → List (Option Value) → Ledger → Rs → Prop) (cx : Cx g f) (rm : Rm f A d) (hx : f.ns[i]? = some x) (hi : ∀ j vs N r, I j vs N r → ∃ u, vs[i]? = some u) (hs : St f vs news r s) (h0 : I 0 vs news r)
    (he : EX g f A vs news r iter (fun v n' r' => r = r' ∧ v = .ref la ∧ ∃ t, n' = t ++ news))
    (hl : ∀ j vs N r, I j vs N r → (la, listOf its ep) ∈ N)
    (turn : ∀ j v vs N T r s, its[j]? = some v → I j vs N r → St f (vs.set i (some v)) (N ++ T) r s →
      wpAny g.M A (execs body f.env) (fun fl s' => (fl = .next ∨ fl = .cont) ∧ ∃ vs' N' r', I (j + 1) vs' N' r' ∧ St f vs' (N' ++ T) r' s') (fun _ _ => False) s)
    (exit : ∀ T vs N r s, I its.size vs N r → St f vs (N ++ T) r s → wpAny g.M A (execs rest f.env) Q E s)
    (hfs : ∀ x, foldedSetIterable iter f.env x = pure x := by intro _; rfl) :
    wpAny g.M A (execs (.For (.Name x xp) iter body [] pos :: rest) f.env) Q E s := by
  refine X.for its.size (fun j v => its[j]? = some v) (fun j it t r' => ∃ ia o tl, it = .ref ia ∧ (j ≤ its.size → t = (ia, o) :: tl ∧ o.cls = .type "list_iterator" ∧ o.data = .fields #[.ref la, .int j 0])) I cx hx hi hs he ?_ ?_ ?_ ?_ ?_ hfs
  · rintro v n' r' s' ⟨rfl, rfl, t, rfl⟩ hs'
    have hL : Heap.IsList s'.heap la its := ⟨_, hs'.N.get (List.mem_append_right _ (hl _ _ _ _ h0)), rfl, ep, rfl⟩
    refine wpAny_pyIter_list hL ?_
    refine ⟨news, (s'.heap.objs.size, { cls := .type "list_iterator", data := .fields #[.ref la, .int 0 0] }) :: t, r, h0, ⟨_, _, _, rfl, fun _ => ⟨rfl, rfl, rfl⟩⟩, ?_⟩
    have z := hs'.alloc (ob := { cls := .type "list_iterator", data := .fields #[.ref la, .int 0 0] }) (t := s'.toks) rfl
    exact St.toEnd (a := _ :: t) z
  · rintro j it t r' vs N s hj ⟨ia, o, tl, rfl, ht⟩ hI hs
    obtain ⟨rfl, hc, hd⟩ := ht (Nat.le_of_lt hj)
    have hm : (ia, o) ∈ N ++ (ia, o) :: tl := by simp
    have hL : Heap.IsList s.heap la its := ⟨_, hs.N.get (List.mem_append_left _ (hl _ _ _ _ hI)), rfl, ep, rfl⟩
    refine wpAny_pyNext_list_item (i := j) (x := its[j]) ⟨o, hs.N.get hm, hc, hd⟩ hL (by simp [hj]) fun h' hit hsb => ?_
    obtain ⟨o', ho', hc', hd'⟩ := hit
    refine ⟨_, (ia, o') :: tl, r', rfl, by simp [hj], ⟨ia, o', tl, rfl, fun _ => ⟨rfl, hc', hd'⟩⟩, hI, ?_⟩
    have z := hs.put (t := s.toks) hm hsb ho'
    have nd := hs.nd
    rw [List.map_append, List.map_cons, List.nodup_append, List.nodup_cons] at nd
    have nd1 : ia ∉ N.map (·.1) := fun h => nd.2.2 _ h ia (.head _) rfl
    have nd2 : ia ∉ tl.map (·.1) := nd.2.1.1
    rw [put_append, put_off nd1] at z
    have e : put ia o' ((ia, o) :: tl) = (ia, o') :: tl := by
      show (if ia = ia then _ else _) :: put ia _ tl = _
      rw [if_pos rfl, put_off nd2]
    rw [e] at z
    exact z
  · rintro it t r' vs N s ⟨ia, o, tl, rfl, ht⟩ hI hs
    obtain ⟨rfl, hc, hd⟩ := ht (Nat.le_refl _)
    have hm : (ia, o) ∈ N ++ (ia, o) :: tl := by simp
    have hL : Heap.IsList s.heap la its := ⟨_, hs.N.get (List.mem_append_left _ (hl _ _ _ _ hI)), rfl, ep, rfl⟩
    refine wpAny_pyNext_list_end rm.hd ⟨o, hs.N.get hm, hc, hd⟩ hL (by simp) fun h' hx => ?_
    exact ⟨tl, r', rfl, hI, hs.extBut hx⟩
  · rintro j it v vs N T r' s hj hv hT hI hs
    exact wpAny_mono (turn j v vs N T r' s hv hI hs) (fun fl s' ⟨h1, vs', N', r'', h2, h3⟩ => ⟨h1, vs', N', r'', h2, hT, h3⟩) (fun _ _ z => z)
  · exact fun T vs N r' s hI hs => exit T vs N r' s hI hs
end
end Mine
end

section
set_option maxRecDepth 100000
open PySem PySem.W PyProof.Rows PySem.Calls
namespace Mine
open PySem.W.X (SegX)
section
variable {prog : Program} {w : World} {A : Around} {c : Code} {fs : List Frame} {s : Shared} {P : End → Shared → Prop} {env : Env}
  {K : Flow → Sem Fin} {H : Value → Sem Fin} {gd : Bool → Bool} {lv : List Value → List Value}
theorem sx_wrap {α : Type} {m : Sem α} {K : α → Sem Fin} (h : wpAny (model prog w) (A.over c fs) m (fun a s' => SegX (model prog w) A c (K a) fs s' P) (fun x s' => SegX (model prog w) A c (H x) fs s' P) s) :
    SegX (model prog w) A c (m.wrap K H gd lv) fs s P := by
  rintro Γ p rfl hΓ
  obtain ⟨e, s', hr, hq⟩ := runs_wrap_of_wp (Φ := fun e s' => e.quiet = true ∧ P e s') K H gd lv m (h (Γ.over fs) p (hΓ.over fs)) (fun a p' s' h' => h' Γ p' rfl hΓ) (fun x p' s' h' => h' Γ p' rfl hΓ)
  exact ⟨e, s', hr, hq⟩
theorem sx_point {l : List Value} {k : Unit → Sem Fin} (h : SegX (model prog w) A c (k ()) fs s P) : SegX (model prog w) A c (.point l k) fs s P :=
  sx_wrap (m := point) (K := k) (H := .raise) (gd := id) (lv := fun _ => l) (wpAny_point h)
theorem sx_at {p' : Pos} {k : Unit → Sem Fin} (h : SegX (model prog w) A c (k ()) fs s P) : SegX (model prog w) A c (.at p' k) fs s P :=
  sx_wrap (m := standAt p') (K := k) (H := .raise) (gd := id) (lv := id) (wpAny_standAt h)
/-- the end of a function's code -/
def funcEnd (f : Flow) : Sem Fin := .pure (.done (.ret (match f with | .ret v => v | _ => .none)))
def funcRaise (env : Env) (e : Value) : Sem Fin := (leaving env e).wrap (fun _ => .raise e) .raise id id
theorem sx_func {body : List Stmt} (h : SegX (model prog w) A (.func body env) ((execs body env).wrap funcEnd (funcRaise env) id id) fs s P) :
    SegX (model prog w) A (.func body env) (denote table (.func body env)) fs s P := by
  show SegX _ A _ (.point [] fun _ => ((execs body env).onRaise (leaving env)) >>= _) fs s P
  refine sx_point ?_
  rw [Sem.onRaise_eq_wrap, Sem.bind_eq_wrap', Sem.wrap_wrap]
  rw [Sem.wrap_congr (execs body env) _ _ (K' := funcEnd) (H' := funcRaise env) (fun f => by cases f <;> rfl)
    (fun e => by unfold funcRaise; rw [Sem.bind_eq_wrap, Sem.wrap_wrap]; rfl)]
  exact h
theorem execs_append (a b : List Stmt) : execs (a ++ b) env = execs a env >>= fun f => match f with | .next => execs b env | f => .pure f := by
  induction a with
  | nil => rfl
  | cons st a ih =>
    rw [List.cons_append, execs_cons, execs_cons, ih]
    rw [Sem.bind_eq_wrap', Sem.bind_eq_wrap' (_ >>= _), Sem.bind_eq_wrap' (exec st env), Sem.wrap_wrap]
    refine Sem.wrap_congr _ _ _ (fun f => ?_) fun _ => rfl
    cases f with
    | next => exact Sem.bind_eq_wrap' _ _
    | _ => rfl
theorem execs_append_wrap (a b : List Stmt) : (execs (a ++ b) env).wrap K H gd lv = (execs a env).wrap (fun f => match f with | .next => (execs b env).wrap K H gd lv | f => K f) H gd lv := by
  rw [execs_append, Sem.bind_eq_wrap', Sem.wrap_wrap]
  exact Sem.wrap_congr _ _ _ (fun f => by cases f <;> rfl) (fun _ => rfl)
/-- statements without a yield -/
theorem sx_execs (a : List Stmt) {b : List Stmt} (h : wpAny (model prog w) (A.over c fs) (execs a env) (fun f s' => match f with | .next => SegX (model prog w) A c ((execs b env).wrap K H gd lv) fs s' P | f => SegX (model prog w) A c (K f) fs s' P) (fun x s' => SegX (model prog w) A c (H x) fs s' P) s) :
    SegX (model prog w) A c ((execs (a ++ b) env).wrap K H gd lv) fs s P := by
  rw [execs_append_wrap]
  refine sx_wrap (wpAny_mono h (fun f s' h' => ?_) fun _ _ z => z)
  cases f <;> exact h'
theorem sx_nil (h : SegX (model prog w) A c (K .next) fs s P) : SegX (model prog w) A c ((execs [] env).wrap K H gd lv) fs s P := h
theorem sx_cons {st : Stmt} {rest : List Stmt} (h : SegX (model prog w) A c ((exec st env).wrap (fun f => match f with | .next => (execs rest env).wrap K H gd lv | f => K f) H gd lv) fs s P) :
    SegX (model prog w) A c ((execs (st :: rest) env).wrap K H gd lv) fs s P := by rw [execs_cons_wrap]; exact h
/-- the end of the generator's code -/
theorem sx_done {v : Value} (h : P (.ret (.ok (.ret v))) s) : SegX (model prog w) A c (.pure (.done (.ret v))) [] s P :=
  PySem.W.X.s_end prog w A c P s _ _ rfl h
theorem sx_yield {e : Expr} {ypos pos : Pos} (hfs : splitAtGen fs = none) (hgd : gd false = false) (hfg : fs.any Frame.guarded = false)
    (h : wpAny (model prog w) (A.over c fs) (eval e env) (fun v s' => ∀ k l p, (∀ A' s'' P', SegX (model prog w) A' c (K .next) fs s'' P' → SegX (model prog w) A' c (k (.send .none)) fs s'' P') → P (.susp v false l k c p fs) s')
      (fun x s' => SegX (model prog w) A c (H x) fs s' P) s) (hco : env.scope.isCoroutine = false := by rfl) (hi : interactive env = false := by rfl) :
    SegX (model prog w) A c ((exec (.Expr (.Yield (some e) ypos) pos) env).wrap K H gd lv) fs s P := by
  rw [exec_Expr env _ pos hi rfl]
  show SegX _ A c (.at pos fun _ => ((eval e env >>= fun v => (standAt ypos >>= fun _ => yieldOut env v)) >>= fun x =>
    dropValue (.Yield (some e) ypos) pos x).wrap K H gd lv) fs s P
  have hy : ∀ v, yieldOut env v = yieldValue v := fun v => by simp only [yieldOut, hco, Bool.false_eq_true, if_false]
  simp only [hy]
  refine sx_at ?_
  rw [Sem.bind_eq_wrap', Sem.bind_eq_wrap', Sem.wrap_wrap, Sem.wrap_wrap]
  refine sx_wrap (wpAny_mono h (fun v s' h' => ?_) fun _ _ x => x)
  refine sx_at ?_
  have hg : ∀ (l : List Value) (k : Resume → Sem Fin), (∀ p, P (.susp v false l k c p fs) s') → SegX (model prog w) A c (.yield v (gd false) l k) fs s' P := fun l k hp => by
    rw [hgd]
    exact PySem.W.X.s_yield prog w A c fs P s' v l k hfs hfg hp
  refine hg _ _ fun p => h' _ _ p fun A' s'' P' hs => ?_
  exact hs
end
end Mine
end

section
set_option maxRecDepth 100000
open PySem PySem.W PyProof.Rows PySem.Calls
namespace Mine
open PySem.W.X (SegX)
section
variable {prog : Program} {w : World} {A : Around} {c : Code} {fs : List Frame} {s : Shared} {P : End → Shared → Prop} {env : Env}
  {K : Flow → Sem Fin} {H : Value → Sem Fin} {gd : Bool → Bool} {lv : List Value → List Value}
theorem sx_bind {α : Type} {β : Type} {m : Sem α} {f : α → Sem β} {K : β → Sem Fin} (h : wpAny (model prog w) (A.over c fs) m (fun a s' => SegX (model prog w) A c ((f a).wrap K H gd lv) fs s' P) (fun x s' => SegX (model prog w) A c (H x) fs s' P) s) :
    SegX (model prog w) A c ((m >>= f).wrap K H gd lv) fs s P := by
  rw [Sem.bind_eq_wrap', Sem.wrap_wrap]
  exact sx_wrap h
/-- a for of a generator's code -/
theorem sx_For {target iter : Expr} {body : List Stmt} {pos : Pos}
    (h : wpAny (model prog w) (A.over c fs) (eval iter env) (fun x s₁ => wpAny (model prog w) (A.over c fs) (pyIter x) (fun it s₂ => ∀ k' p, (∀ f, k' (.ok f) = K f) →
      SegX (model prog w) A (.forLoop target it body [] env) (denote table (.forLoop target it body [] env)) (.ret k' none (gd false) (lv []) c p [] :: fs) s₂ P) (fun _ _ => False) s₁) (fun _ _ => False) s)
    (hs : ∀ x, foldedSetIterable iter env x = pure x := by intro _; rfl) :
    SegX (model prog w) A c ((exec (.For target iter body [] pos) env).wrap K H gd lv) fs s P := by
  rw [exec_For]
  refine sx_bind (wpAny_standAt (sx_bind (wpAny_mono h (fun x s₁ h₁ => ?_) fun _ _ z => z.elim)))
  rw [hs x]
  refine sx_bind (wpAny_pure (sx_bind (wpAny_standAt (sx_bind (wpAny_holding (wpAny_mono h₁ (fun it s₂ h₂ => ?_) fun _ _ z => z.elim))))))
  refine PySem.W.X.s_call prog w A c fs P s₂ _ _ _ _ _ fun p => ?_
  refine h₂ _ p fun f => ?_
  rfl
/-- what a turn of the loop does next -/
def forK (target : Expr) (it : Value) (body : List Stmt) (env : Env) : Flow → Sem Fin
  | .next | .cont => .pure (.again (.forLoop target it body [] env))
  | .brk => .pure (.done .next)
  | .ret v => .pure (.done (.ret v))
def forH (env : Env) (e : Value) : Sem Fin := (do noteFrame e env; theTreesLotGoes e : Sem Unit).wrap (fun _ => .raise e) .raise id id
theorem sx_forTurn {target : Expr} {it : Value} {body : List Stmt}
    (h : wpAny (model prog w) (A.over (.forLoop target it body [] env) fs) (pyNext it) (fun res s' => match res with
      | none => SegX (model prog w) A (.block [] env) (.pure (.done .next)) fs s' P
      | some v => wpAny (model prog w) (A.over (.forLoop target it body [] env) fs) (assign target env v) (fun _ s'' => SegX (model prog w) A (.forLoop target it body [] env) ((execs body env).wrap (forK target it body env) (forH env) id id) fs s'' P) (fun _ _ => False) s') (fun _ _ => False) s)
    (ht : ∀ v, letOwnedTupleGo target it v = pure () := by intro _; rfl) :
    SegX (model prog w) A (.forLoop target it body [] env) (denote table (.forLoop target it body [] env)) fs s P := by
  show SegX _ A _ ((forTurn target it body [] env).onRaise (fun x => do noteFrame x env; theTreesLotGoes x)) fs s P
  rw [Sem.onRaise_eq_wrap]
  unfold forTurn
  refine sx_bind (wpAny_standAt (sx_bind (wpAny_onRaise (wpAny_mono h (fun r s₁ h₁ => ?_) fun _ _ z => z.elim))))
  cases r with
  | none =>
    show SegX _ A _ (.pure (.again (.block [] env))) fs s₁ P
    refine PySem.W.X.s_again prog w A _ fs P s₁ _ rfl ?_
    exact h₁
  | some v =>
    show SegX _ A _ ((letOwnedTupleGo target it v >>= fun _ => _).wrap _ _ _ _) fs s₁ P
    rw [ht v]
    refine sx_bind (wpAny_pure (sx_bind (wpAny_mono h₁ (fun _ s₂ h₂ => ?_) fun _ _ z => z.elim)))
    rw [Sem.bind_eq_wrap', Sem.wrap_wrap]
    rw [Sem.wrap_congr (execs body env) _ _ (K' := forK target it body env) (H' := forH env) (fun f => by cases f <;> rfl)
      (fun e => by unfold forH; first | exact Sem.bind_eq_wrap _ _ | (show (do noteFrame e env; theTreesLotGoes e : Sem Unit).bind (fun _ => .raise e) = _; rw [Sem.bind_eq_wrap]))]
    exact h₂
/-- the loop's end: back in the code that holds it -/
theorem sx_forEnd {k' : Result → Sem Fin} {hd : Option Value} {g : Bool} {l : List Value} {p : Pos} {c' : Code} (hk : ∀ f, k' (.ok f) = K f) (h : SegX (model prog w) A c (K .next) fs s P) : SegX (model prog w) A c' (.pure (.done .next)) (.ret k' hd g l c p [] :: fs) s P :=
  PySem.W.X.s_pop prog w A c' fs P s (.ok .next) _ rfl k' hd g l c p [] (by rw [hk]; exact h)

/-- next() of a generator that is fresh or asleep -/
theorem pyNext_genX {a gi : Nat} {gs : GenState} {c₀ : Code} {t₀ : Sem Fin} {fs₀ : List Frame} {Q : Option Value → Shared → Prop} {E : Value → Shared → Prop} (hh : A.handled = none) (hl : s.heap.NoLimit) (hroom : A.depth < recursionLimit)
    (hg : s.heap.IsGen a gi) (hgs : s.gens[gi]? = some gs)
    (hst : (gs = .fresh c₀ ∧ t₀ = denote table c₀ ∧ fs₀ = []) ∨ (∃ k₀ l₀ p₀ cl, gs = .suspended k₀ l₀ c₀ p₀ fs₀ cl ∧ t₀ = k₀ (.send .none)))
    (x : SegX (model prog w) A.in1 c₀ t₀ fs₀ (s.setGen gi .running) (fun e s₁ => match e with
      | .ret r => r = .ok (.ret .none) ∧ ∀ h', (∀ b o, s₁.heap.get? b = some o → h'.get? b = some o) → Q none { s₁.setGen gi .finished with heap := h' }
      | .susp v gd l k c p fs => Q (some v) (s₁.setGen gi (End.susp v gd l k c p fs).genState))) : wpAny (model prog w) A (pyNext (.ref a)) Q E s := by
  unfold pyNext
  refine wpAny_bind (wpAny_attempt (wpAny_callSpecial?_slot (name := Str.ofString "__next__") hg.typeIs slot_gen_next
    (wpAny_call_entry slot_gen_next hg.typeIs entry_gen_next ?_ (args_gen_next _))))
  show wpAny _ _ (Builtin.Generator.genWake (.ref a) (.send .none)) _ _ s
  unfold Builtin.Generator.genWake
  refine wpAny_bind (wpAny_holding (wpAny_genNumber hg (wpAny_bind (wpAny_genState hgs ?_))))
  have hgs' : (gs = .fresh c₀ ∧ (Resume.send .none) = .send .none ∧ t₀ = denote table c₀ ∧ fs₀ = []) ∨ (∃ k₀ l₀ p₀ cl, gs = .suspended k₀ l₀ c₀ p₀ fs₀ cl ∧ t₀ = k₀ (.send .none)) := by
    rcases hst with ⟨h1, h2, h3⟩ | h
    · exact .inl ⟨h1, rfl, h2, h3⟩
    · exact .inr h
  have go : ∀ {α : Type} {k : GenResult → Sem α} {Q' : α → Shared → Prop} {E' : Value → Shared → Prop},
      (∀ (e : End) (s₁ : Shared), (match e with
        | .ret r => r = .ok (.ret .none) ∧ ∀ h', (∀ b o, s₁.heap.get? b = some o → h'.get? b = some o) → Q none { s₁.setGen gi .finished with heap := h' }
        | .susp v gd l k c p fs => Q (some v) (s₁.setGen gi (End.susp v gd l k c p fs).genState)) → wpAny (model prog w) A.in1 (k e.result) Q' E' (s₁.setGen gi e.genState)) →
      wpAny (model prog w) A.in1 (.resume gi (.send .none) [] k) Q' E' s := fun {α k Q' E'} hk =>
    PySem.W.X.wake_any α prog w hgs hgs' (fun Γ => Γ.In A.in1) (fun _ h => h) (x.mono fun e s₁ h Γ p hΓ => hk e s₁ h Γ p hΓ)
  have hcase : (∃ c, gs = .fresh c) ∨ (∃ k l c p fs cl, gs = .suspended k l c p fs cl) := by
    rcases hst with ⟨h1, _, _⟩ | ⟨k₀, l₀, p₀, cl, h1, _⟩
    · exact .inl ⟨_, h1⟩
    · exact .inr ⟨_, _, _, _, _, _, h1⟩
  cases gs with
  | running => rcases hcase with ⟨_, h⟩ | ⟨_, _, _, _, _, _, h⟩ <;> cases h
  | finished => rcases hcase with ⟨_, h⟩ | ⟨_, _, _, _, _, _, h⟩ <;> cases h
  | _ =>
    refine wpAny_bind (wpAny_roomToWake hl hroom ?_)
    show wpAny _ _ (.resume gi (.send .none) [] _) _ _ s
    refine go fun e s₁ hx => ?_
    cases e with
    | ret r =>
      obtain ⟨rfl, hp⟩ := hx
      show wpAny _ _ (newExc (.type "StopIteration") [] >>= _) _ _ _
      refine wpAny_bind ?_
      simp only [newExc, newTuple]
      refine wpAny_bind (wpAny_newObj_type ?_ (by size_fits))
      refine wpAny_bind (m := firstArgMember _ _) (wpAny_of_eq (a := Value.none) (by first | rfl | (simp only [firstArgMember]; rfl)) ?_)
      refine wpAny_newObj_type ?_ (by size_fits)
      simp only [raiseNew]
      refine wpAny_bind (wpAny_bind (wpAny_handled ?_))
      rw [show A.in1.handled = none from hh]
      refine wpAny_throw ?_
      refine wpAny_bind (wpAny_isInstance (T := "StopIteration") (b := true) ⟨_, Heap.get?_push_size _ rfl, rfl⟩ isSubtype_stop ?_)
      exact wpAny_pure (hp _ fun b o hb => Heap.get?_push_of_some _ (Heap.get?_push_of_some _ hb))
    | susp v gd l k c p fs => exact wpAny_pure ⟨v, rfl, wpAny_pure hx⟩
end
end Mine
end

section
set_option maxRecDepth 100000
open PySem PySem.W PyProof.Rows PySem.Calls
namespace Mine
/-- the heap below an address -/
def cut (h : Heap) (L : Nat) : Heap := { h with objs := h.objs.extract 0 L }
theorem cut_get {h : Heap} {L a : Nat} (ha : a < L) : (cut h L).get? a = h.get? a := by
  unfold Heap.get? cut
  have : (h.objs.extract 0 L)[a]? = h.objs[a]? := by
    rw [Array.getElem?_extract]
    split <;> simp <;> omega
  simp only [this]
theorem cut_size (h : Heap) (L : Nat) : (cut h L).objs.size ≤ L := by
  show (h.objs.extract 0 L).size ≤ L
  rw [Array.size_extract]; omega
theorem cut_some {h : Heap} {L a : Nat} {o : Obj} (e : (cut h L).get? a = some o) : a < L ∧ h.get? a = some o := by
  have h1 : a < L := Nat.lt_of_lt_of_le (Heap.lt_size e) (cut_size h L)
  exact ⟨h1, (cut_get h1).symm.trans e⟩
/-- an object that holds a frame's names -/
def NsO (o : Obj) (m : Str → Option Value) : Prop := ∃ es ep, o.data = .dict es ep ∧ StrKeys es ∧ ∀ name, nsFind es name = m name
theorem NsO.ns {o : Obj} {m : Str → Option Value} {h : Heap} {L : Addr} (x : NsO o m) (e : h.get? L = some o) : h.Ns L m := let ⟨a, b, c, d, k⟩ := x; ⟨o, a, b, e, c, d, k⟩
theorem ns_obj {m : Str → Option Value} {h : Heap} {L : Addr} (x : h.Ns L m) : ∃ o, h.get? L = some o ∧ NsO o m := let ⟨o, a, b, e, c, d, k⟩ := x; ⟨o, e, a, b, c, d, k⟩
section
variable {g : Gl} {f fg : Fm} {A : Around} {vs vsg vsg' : List (Option Value)} {M M' : Ledger} {r r' : Rs} {s s' : Shared} {Lg : Addr} {oL : Obj} {env : Env} {ns : List Str}

/-- a generator's frame and the frame that drives it -/
structure Drv (f fg : Fm) (vs : List (Option Value)) : Prop where
  stays : f.h₀.StaysIn fg.h₀
  ns : fg.h₀.Ns f.L (lm f.ns vs)
  lt : f.L < fg.L
def genFm (A : Around) (f : Fm) (s : Shared) (l : Ledger) (Lg : Addr) (env : Env) (ns : List Str) : Fm := ⟨A, f.base, f.env :: f.outer, cut (hideAll s.heap (l.map (·.1))) Lg, Lg, env, ns⟩
theorem toGen (cx : Cx g f) (hA : A.frames = some (f.env :: f.outer)) (hs : St f vs ((Lg, oL) :: M) r s) (hlt : f.L < Lg) (hn : NsO oL (lm ns vsg)) :
    Drv f (genFm A f s ((Lg, oL) :: M) Lg env ns) vs ∧ Below A f.base (f.env :: f.outer) (genFm A f s ((Lg, oL) :: M) Lg env ns).h₀ ∧ St (genFm A f s ((Lg, oL) :: M) Lg env ns) vsg M r s := by
  have hh0 : ∀ b o, f.h₀.get? b = some o → b < f.L := fun b o e => Nat.lt_of_lt_of_le (Heap.lt_size e) hs.F.above
  have nm : ∀ b o, f.h₀.get? b = some o → b ∉ ((Lg, oL) :: M).map (·.1) := fun b o e q => by
    obtain ⟨p, hp, rfl⟩ := List.mem_map.mp q
    rw [(hs.N p hp).2.2] at e; cases e
  have nL : f.L ∉ ((Lg, oL) :: M).map (·.1) := fun q => by
    obtain ⟨p, hp, e⟩ := List.mem_map.mp q
    exact (hs.N p hp).2.1 e
  have st : f.h₀.StaysIn (cut (hideAll s.heap (((Lg, oL) :: M).map (·.1))) Lg) := fun b o e => by
    rw [cut_get (Nat.lt_trans (hh0 b o e) hlt)]
    exact hideAll_get _ (hs.F.keep b o e) (nm b o e)
  obtain ⟨o, ho, hno⟩ := ns_obj hs.F.ns
  have hL : (cut (hideAll s.heap (((Lg, oL) :: M).map (·.1))) Lg).get? f.L = some o := by
    rw [cut_get hlt]
    exact hideAll_get _ ho nL
  have nd := List.nodup_cons.mp hs.nd
  refine ⟨⟨st, hno.ns hL, hlt⟩, ⟨hA, fun b o e => st b o (cx.B.stays b o e), ?_⟩, ⟨⟨hn.ns (hs.N _ (.head _)).1, fun b o e => of_hideAll _ (cut_some e).2, cut_size _ _⟩, fun p hp => ⟨(hs.N p (.tail _ hp)).1, fun e => nd.1 (List.mem_map.mpr ⟨p, hp, e⟩), ?_⟩, nd.2, hs.gens, hs.drawn, hs.os⟩⟩
  · refine ⟨by rw [cx.hk]; decide, ⟨f.L, o, cx.fr, ?_, hL, ?_⟩, cx.B.frames.of_keeps fun b o e _ => ⟨o, st b o e, rfl⟩⟩
    · cases q : f.base.get? f.L with
      | none => rfl
      | some o' => exact absurd (hh0 _ _ (cx.B.stays _ _ q)) (Nat.lt_irrefl _)
    · obtain ⟨es, ep, hd, _⟩ := hno
      intro vs' e
      rw [hd] at e; cases e
  · cases q : (cut (hideAll s.heap (((Lg, oL) :: M).map (·.1))) Lg).get? p.1 with
    | none => exact q
    | some o' =>
      have := (cut_some q).2
      rw [hideAll_none _ (List.mem_map_of_mem (f := (·.1)) (List.mem_cons_of_mem (Lg, oL) hp))] at this
      cases this
theorem fromGen (hs0 : St f vs M r s) (dv : Drv f fg vs) (hs : St fg vsg' M' r' s') : ∃ oL', NsO oL' (lm fg.ns vsg') ∧ St f vs ((fg.L, oL') :: M') r' s' := by
  obtain ⟨oL', ho, hn⟩ := ns_obj hs.F.ns
  obtain ⟨oc, hoc, hnc⟩ := ns_obj dv.ns
  refine ⟨oL', hn, ⟨⟨hnc.ns (hs.F.keep _ _ hoc), fun b o e => hs.F.keep _ _ (dv.stays b o e), hs0.F.above⟩, fun p hp => ?_, ?_, hs.gens, hs.drawn, hs.os⟩⟩
  · rcases List.mem_cons.mp hp with rfl | hp
    · refine ⟨ho, Nat.ne_of_gt dv.lt, ?_⟩
      show f.h₀.get? fg.L = none
      cases q : f.h₀.get? fg.L with
      | none => rfl
      | some o' => exact absurd (Nat.lt_of_lt_of_le (Heap.lt_size q) hs0.F.above) (Nat.not_lt.mpr (Nat.le_of_lt dv.lt))
    · have z := hs.N p hp
      refine ⟨z.1, fun e => ?_, ?_⟩
      · rw [e, hoc] at z; cases z.2.2
      · cases q : f.h₀.get? p.1 with
        | none => rfl
        | some o' => rw [dv.stays _ _ q] at z; cases z.2.2
  · rw [List.map_cons, List.nodup_cons]
    refine ⟨fun q => ?_, hs.nd⟩
    obtain ⟨p, hp, e⟩ := List.mem_map.mp q
    exact (hs.N p hp).2.1 e
end
end Mine
end

section
set_option maxRecDepth 100000
open PySem PySem.W PyProof.Rows PySem.Calls
set_option maxHeartbeats 4000000
namespace Mine
open PySem.W.X (SegX)
/-- nothing changed but generators, that hold no cleanup; of the old ones only gi -/
structure Gx (gi : Nat) (r r' : Rs) : Prop where
  drawn : r'.drawn = r.drawn
  os : r'.os = r.os
  bare : AllBare r.gens → AllBare r'.gens
  size : r.gens.size ≤ r'.gens.size
  same : ∀ i, i < r.gens.size → i ≠ gi → r'.gens[i]? = r.gens[i]?
/-- nothing changed but new generators, that hold no cleanup -/
structure Gn (r r' : Rs) : Prop where
  drawn : r'.drawn = r.drawn
  os : r'.os = r.os
  bare : AllBare r.gens → AllBare r'.gens
  size : r.gens.size ≤ r'.gens.size
  same : ∀ i, i < r.gens.size → r'.gens[i]? = r.gens[i]?
theorem Gn.refl (r : Rs) : Gn r r := ⟨rfl, rfl, id, Nat.le_refl _, fun _ _ => rfl⟩
theorem Gn.of_eq {r r' : Rs} (h : r = r') : Gn r r' := h ▸ Gn.refl r
theorem Gn.trans {a b c : Rs} (h : Gn a b) (h' : Gn b c) : Gn a c := ⟨h'.drawn.trans h.drawn, h'.os.trans h.os, fun x => h'.bare (h.bare x), Nat.le_trans h.size h'.size, fun i hi => (h'.same i (Nat.lt_of_lt_of_le hi h.size)).trans (h.same i hi)⟩
theorem Gx.refl (gi : Nat) (r : Rs) : Gx gi r r := ⟨rfl, rfl, id, Nat.le_refl _, fun _ _ _ => rfl⟩
theorem Gx.trans {gi : Nat} {a b c : Rs} (h : Gx gi a b) (h' : Gx gi b c) : Gx gi a c := ⟨h'.drawn.trans h.drawn, h'.os.trans h.os, fun x => h'.bare (h.bare x), Nat.le_trans h.size h'.size, fun i hi hn => (h'.same i (Nat.lt_of_lt_of_le hi h.size) hn).trans (h.same i hi hn)⟩
theorem Gn.gx {gi : Nat} {r r' : Rs} (h : Gn r r') : Gx gi r r' := ⟨h.drawn, h.os, h.bare, h.size, fun i hi _ => h.same i hi⟩
theorem Gn.new {a b c : Rs} (h : Gn a b) (h' : Gx a.gens.size b c) : Gn a c := ⟨h'.drawn.trans h.drawn, h'.os.trans h.os, fun x => h'.bare (h.bare x), Nat.le_trans h.size h'.size, fun i hi => (h'.same i (Nat.lt_of_lt_of_le hi h.size) (Nat.ne_of_lt hi)).trans (h.same i hi)⟩
def Rs.gen (r : Rs) (gi : Nat) (x : GenState) : Rs := { r with gens := r.gens.setIfInBounds gi x }
theorem bare_set {gs : Array GenState} {gi : Nat} {x : GenState} (h : AllBare gs) (hx : x.bare = true) : AllBare (gs.setIfInBounds gi x) := by
  intro y hy
  rcases Array.mem_or_eq_of_mem_setIfInBounds hy with h' | rfl
  · exact h y h'
  · exact hx
theorem Gx.set {r : Rs} {gi : Nat} {x : GenState} (hx : x.bare = true) : Gx gi r (r.gen gi x) := ⟨rfl, rfl, fun h => bare_set h hx, by show _ ≤ (r.gens.setIfInBounds gi x).size; rw [Array.size_setIfInBounds]; exact Nat.le_refl _, fun i _ hn => by
  show (r.gens.setIfInBounds gi x)[i]? = _
  rw [Array.getElem?_setIfInBounds_ne (Ne.symm hn)]⟩
theorem Rs.gen_gen {r : Rs} {gi : Nat} {x y : GenState} : (r.gen gi x).gen gi y = r.gen gi y := by
  unfold Rs.gen
  simp
theorem Rs.gen_get {r : Rs} {gi : Nat} {x y : GenState} (h : r.gens[gi]? = some y) : (r.gen gi x).gens[gi]? = some x := by
  show (r.gens.setIfInBounds gi x)[gi]? = some x
  have : gi < r.gens.size := by
    rcases Nat.lt_or_ge gi r.gens.size with q | q
    · exact q
    · rw [Array.getElem?_eq_none q] at h; cases h
  rw [Array.getElem?_setIfInBounds_self_of_lt this]
structure GenO (o : Obj) (gi : Nat) : Prop where
  cls : o.cls = .type "generator"
  data : ∃ nm qn, o.data = .fields #[.int gi 0, nm, qn]
  slots : o.slots = #[]
theorem GenO.is {o : Obj} {gi : Nat} {h : Heap} {a : Addr} (x : GenO o gi) (e : h.get? a = some o) : h.IsGen a gi := let ⟨nm, qn, hd⟩ := x.data; ⟨o, nm, qn, e, x.cls, hd, x.slots⟩
section
variable {g : Gl} {f fg : Fm} {A : Around} {vs vsg vsg' : List (Option Value)} {M M' R l m m₁ : Ledger} {r r' : Rs} {s s' : Shared} {Lg ga fa : Addr} {gi : Nat} {oL go : Obj} {env : Env} {ns : List Str} {T : QS} {ad : QA}

def Asked (g : Gl) (T : QS) (ad : QA) (Lg ga gi : Nat) (m : Ledger) (gs : GenState) (Post : Fm → List (Option Value) → Ledger → Rs → (Option Value → Shared → Prop) → Prop) : Prop :=
  ∀ (f : Fm) (A : Around) (vs : List (Option Value)) (R : Ledger) (r : Rs) (s : Shared) (Q : Option Value → Shared → Prop) (E : Value → Shared → Prop), Cx g f → Rm f A 10 → QFm R ad T → f.L < Lg → r.gens[gi]? = some gs → St f vs (m ++ R) r s →
    Post f vs R r Q → wpAny g.M A (pyNext (.ref ga)) Q E s
/-- a generator that will tell these numbers -/
def GenAt (g : Gl) (T : QS) (ad : QA) (Lg ga gi : Nat) : List Nat → Ledger → GenState → Prop
  | [], m, gs => Asked g T ad Lg ga gi m gs fun f vs R r Q => ∀ m' r' s', Gx gi r r' → St f vs (m' ++ R) r' s' → Q none s'
  | h :: hs, m, gs => Asked g T ad Lg ga gi m gs fun f vs R r Q => ∀ m' gs' r' s' t, GenAt g T ad Lg ga gi hs m' gs' → Gx gi r r' → r'.gens[gi]? = some gs' → St f vs (m' ++ R) r' s' → Q (some (.int h t)) s'

/-- where a generator's run comes to -/
def PostG (g : Gl) (T : QS) (ad : QA) (Lg ga gi : Nat) (fg : Fm) (hs : List Nat) (R : Ledger) (r : Rs) (e : End) (s : Shared) : Prop :=
  match e with
  | .ret res => hs = [] ∧ res = .ok (.ret .none) ∧ ∃ vsg m, St fg vsg (m ++ R) r s
  | .susp v gd l k c p fs => ∃ h hs' t vsg m, hs = h :: hs' ∧ v = .int h t ∧ (End.susp v gd l k c p fs).quiet = true ∧ St fg vsg (m ++ R) r s ∧ ∀ oL, NsO oL (lm fg.ns vsg) → GenAt g T ad Lg ga gi hs' ((Lg, oL) :: m) (End.susp v gd l k c p fs).genState

/-- what is known of a generator's frame -/
structure GCx (g : Gl) (f fg : Fm) (vs : List (Option Value)) (Lg : Addr) (env : Env) (ns : List Str) : Prop where
  dv : Drv f fg vs
  cx : Cx g fg
  env : fg.env = env
  ns : fg.ns = ns
  L : fg.L = Lg
  outer : fg.outer = f.env :: f.outer

theorem genAt_of {hs : List Nat} {gs : GenState} {c₀ : Code} {t₀ : Sem Fin} {fs₀ : List Frame} {scope : Scope} {qual : Str} {cdv : Value} (hgo : (ga, go) ∈ m₁) (ho : GenO go gi) (hn : NsO oL (lm ns vsg)) (hk : scope.kind = .function) (hnd : ns.Nodup) (hloc : allLocal scope ns = true)
    (hst : (gs = .fresh c₀ ∧ t₀ = denote table c₀ ∧ fs₀ = []) ∨ (∃ k₀ l₀ p₀ cl, gs = .suspended k₀ l₀ c₀ p₀ fs₀ cl ∧ t₀ = k₀ (.send .none)))
    (hseg : ∀ (f : Fm) (A : Around) (vs : List (Option Value)) (R : Ledger) (r : Rs) (s : Shared) (fg : Fm), Cx g f → Rm f A 10 → QFm R ad T → GCx g f fg vs Lg (envX qual scope Lg fa cdv []) ns → St fg vsg (m₁ ++ R) r s →
      SegX g.M A.in1 c₀ t₀ fs₀ s (PostG g T ad Lg ga gi fg hs R r)) : GenAt g T ad Lg ga gi hs ((Lg, oL) :: m₁) gs := by
  have main : ∀ (f : Fm) (A : Around) (vs : List (Option Value)) (R : Ledger) (r : Rs) (s : Shared) (Q : Option Value → Shared → Prop) (E : Value → Shared → Prop), Cx g f → Rm f A 10 → QFm R ad T → f.L < Lg → r.gens[gi]? = some gs → St f vs (((Lg, oL) :: m₁) ++ R) r s →
      (hs = [] → ∀ m' r' s', Gx gi r r' → St f vs (m' ++ R) r' s' → Q none s') →
      (∀ h hs' m' gs' r' s' t, hs = h :: hs' → GenAt g T ad Lg ga gi hs' m' gs' → Gx gi r r' → r'.gens[gi]? = some gs' → St f vs (m' ++ R) r' s' → Q (some (.int h t)) s') → wpAny g.M A (pyNext (.ref ga)) Q E s := by
    intro f A vs R r s Q E cx rm hq hlt hgs hs h0 h1
    have hgm : (ga, go) ∈ ((Lg, oL) :: m₁) ++ R := List.mem_append_left _ (.tail _ hgo)
    obtain ⟨dv, B, hsg⟩ := toGen (A := A.in1) (env := envX qual scope Lg fa cdv []) (ns := ns) cx rm.fr (M := m₁ ++ R) hs hlt hn
    have cxg : Cx g (genFm A.in1 f s ((Lg, oL) :: (m₁ ++ R)) Lg (envX qual scope Lg fa cdv []) ns) :=
      ⟨B, cx.X.keeps dv.stays, cx.T.keeps dv.stays, rfl, rfl, rfl, rfl, hk, hnd, fun i x hx => allLocal_of hloc hx⟩
    have gcx : GCx g f (genFm A.in1 f s ((Lg, oL) :: (m₁ ++ R)) Lg (envX qual scope Lg fa cdv []) ns) vs Lg (envX qual scope Lg fa cdv []) ns := ⟨dv, cxg, rfl, rfl, rfl, rfl⟩
    have hgs' : s.gens[gi]? = some gs := by rw [hs.gens]; exact hgs
    have hsr : St (genFm A.in1 f s ((Lg, oL) :: (m₁ ++ R)) Lg (envX qual scope Lg fa cdv []) ns) vsg (m₁ ++ R) (r.gen gi .running) (s.setGen gi .running) :=
      ⟨hsg.F, hsg.N, hsg.nd, congrArg (fun x => x.setIfInBounds gi GenState.running) hs.gens, hs.drawn, hs.os⟩
    refine pyNext_genX rm.hd (cx.T.nolimit.keeps hs.F.keep) rm.room (ho.is (hs.N.get hgm)) hgs' hst ?_
    refine (hseg f A vs R _ _ _ cx rm hq gcx hsr).mono fun e s₁ he => ?_
    cases e with
    | ret res =>
      obtain ⟨hnil, rfl, vsg', m', hs'⟩ := he
      refine ⟨rfl, fun h' hh' => ?_⟩
      obtain ⟨oL', _, hs''⟩ := fromGen hs dv hs'
      refine h0 hnil ((Lg, oL') :: m') (r.gen gi .finished) _ (Gx.set rfl) ?_
      have z := hs''.ext (tk := s₁.toks) hh'
      exact ⟨z.F, z.N, z.nd, by
        show s₁.gens.setIfInBounds gi .finished = _
        rw [hs'.gens, show (r.gen gi .running).gens.setIfInBounds gi .finished = ((r.gen gi .running).gen gi .finished).gens from rfl, Rs.gen_gen], hs'.drawn, hs'.os⟩
    | susp v gd l k c p fs =>
      obtain ⟨h, hs₂, t, vsg', m', rfl, rfl, hq', hs', hG⟩ := he
      obtain ⟨oL', hno, hs''⟩ := fromGen hs dv hs'
      refine h1 h hs₂ ((Lg, oL') :: m') _ (r.gen gi (End.susp (.int h t) gd l k c p fs).genState) _ t rfl (hG oL' hno) (Gx.set (End.bare_of_quiet hq')) (Rs.gen_get hgs) ?_
      exact ⟨hs''.F, hs''.N, hs''.nd, by
        show s₁.gens.setIfInBounds gi _ = _
        rw [hs'.gens, show (r.gen gi .running).gens.setIfInBounds gi (End.susp (Value.int h t) gd l k c p fs).genState = ((r.gen gi .running).gen gi (End.susp (Value.int h t) gd l k c p fs).genState).gens from rfl, Rs.gen_gen], hs'.drawn, hs'.os⟩
  cases hs with
  | nil => exact fun f A vs R r s Q E cx rm hq hlt hgs hs k => main f A vs R r s Q E cx rm hq hlt hgs hs (fun _ => k) (fun _ _ _ _ _ _ _ h => nomatch h)
  | cons h hs => exact fun f A vs R r s Q E cx rm hq hlt hgs hs k => main f A vs R r s Q E cx rm hq hlt hgs hs (fun h => nomatch h) (fun _ _ m' gs' r' s' t h => by cases h; exact k m' gs' r' s' t)
end
end Mine
end

section
set_option maxRecDepth 100000
open PySem PySem.W PyProof.Rows PySem.Calls
set_option maxHeartbeats 4000000
namespace Mine
open PySem.W.X (SegX)
/-- one turn of hashes' loop: whether a hash is told, the quotient, the queue -/
def QS.hStep (T : QS) (i cur : Nat) (queue : List Nat) : Option (Bool × Nat × List Nat) :=
  if T.emp (i % T.n) then (if queue.isEmpty then some (false, cur, queue) else none)
  else
    let queue₁ := if T.occ (i % T.n) then queue ++ [i % T.n] else queue
    if T.rst (i % T.n) then
      match queue₁ with
      | [] => none
      | c :: queue₂ => some (true, c, queue₂)
    else some (true, cur, queue₁)
theorem QS.hLoop_succ (T : QS) (k i cur : Nat) (queue : List Nat) : T.hLoop (k + 1) i cur queue = (T.hStep i cur queue).bind fun x => if x.1 then (T.hLoop k (i + 1) x.2.1 x.2.2).map ((x.2.1 * 2 ^ (32 - T.q) + T.fil (i % T.n)) :: ·) else T.hLoop k (i + 1) x.2.1 x.2.2 := by
  simp only [QS.hLoop, QS.hStep]
  cases T.emp (i % T.n) with
  | true => cases queue.isEmpty <;> simp
  | false =>
    simp only [Bool.false_eq_true, if_false]
    cases T.rst (i % T.n) with
    | true =>
      simp only [if_true]
      generalize (if T.occ (i % T.n) = true then queue ++ [i % T.n] else queue) = q
      cases q <;> rfl
    | false => simp
theorem QS.hStep_len {T : QS} {i cur : Nat} {queue : List Nat} {b : Bool} {c : Nat} {q : List Nat} (h : T.hStep i cur queue = some (b, c, q)) : q.length ≤ queue.length + 1 := by
  unfold QS.hStep at h
  split at h
  · split at h
    · cases h; omega
    · cases h
  · simp only at h
    have e : (if T.occ (i % T.n) = true then queue ++ [i % T.n] else queue).length ≤ queue.length + 1 := by split <;> simp
    generalize (if T.occ (i % T.n) = true then queue ++ [i % T.n] else queue) = q1 at h e
    split at h
    · split at h
      · cases h
      · cases h
        simp only [List.length_cons] at e
        omega
    · cases h; exact e
theorem QS.hStep_lt {T : QS} (hn : 0 < T.n) {i cur : Nat} {queue : List Nat} {b : Bool} {c : Nat} {q : List Nat} (h : T.hStep i cur queue = some (b, c, q)) (h1 : cur < T.n) (h2 : ∀ x ∈ queue, x < T.n) : c < T.n ∧ ∀ x ∈ q, x < T.n := by
  unfold QS.hStep at h
  split at h
  · split at h
    · cases h; exact ⟨h1, h2⟩
    · cases h
  · simp only at h
    have e : ∀ x ∈ (if T.occ (i % T.n) = true then queue ++ [i % T.n] else queue), x < T.n := by
      intro x hx
      split at hx
      · rcases List.mem_append.mp hx with h | h
        · exact h2 x h
        · rw [List.mem_singleton.mp h]; exact Nat.mod_lt _ hn
      · exact h2 x hx
    generalize (if T.occ (i % T.n) = true then queue ++ [i % T.n] else queue) = q1 at h e
    split at h
    · split at h
      · cases h
      · cases h
        exact ⟨e _ (.head _), fun x hx => e x (.tail _ hx)⟩
    · cases h; exact ⟨h1, e⟩
def hns : List Str := ["self", "queue", "start", "cur_quot", "i", "idx", "is_occupied", "is_continuation", "is_shifted"]
section
variable {g : Gl} {f fg : Fm} {A : Around} {vs vsg vsg' : List (Option Value)} {M M' R l m m₁ tl : Ledger} {r r' : Rs} {s s' : Shared} {Lg ga fa ia qa : Addr} {gi : Nat} {oL go : Obj} {env : Env} {ns : List Str} {T : QS} {ad : QA}

def hvs (ad : QA) (qa : Addr) (start : Nat) (ts : Tok) (cur : Nat) (tc : Tok) (vi v5 v6 v7 v8 : Option Value) : List (Option Value) := [some (.ref ad.x), some (.ref qa), some (.int start ts), some (.int cur tc), vi, v5, v6, v7, v8]
def PreSpec (g : Gl) (T : QS) (ad : QA) (env : Env) (pre : List Stmt) : Prop :=
  ∀ (fg : Fm) (A : Around) (M : Ledger) (r : Rs) (s : Shared) (qa : Addr) (its : List Value) (ep : Nat) (ts tc ti : Tok) (v5 v6 v7 v8 : Option Value) (start i cur : Nat) (queue : List Nat) (b : Bool) (c : Nat) (q : List Nat),
    Cx g fg → fg.env = env → fg.ns = hns → Rm fg A 6 → QFm M ad T → NA its queue → queue.length ≤ 2000000 → T.hStep i cur queue = some (b, c, q) → i < 2 ^ 40 →
    St fg (hvs ad qa start ts cur tc (some (.int i ti)) v5 v6 v7 v8) ((qa, listOf its.toArray ep) :: M) r s →
    wpAny g.M A (execs pre env) (fun fl s' => fl = (if b then .next else .cont) ∧ ∃ its' ep' tc' v5 v6 v7 v8, NA its' q ∧ (b = true → ∃ tx, v5 = some (.int (i % T.n : Nat) tx)) ∧
      St fg (hvs ad qa start ts c tc' (some (.int i ti)) v5 v6 v7 v8) ((qa, listOf its'.toArray ep') :: M) r s') (fun _ _ => False) s
def YieldSpec (g : Gl) (T : QS) (ad : QA) (env : Env) (e : Expr) : Prop :=
  ∀ (fg : Fm) (A : Around) (M : Ledger) (r : Rs) (qa : Addr) (ts tc tx : Tok) (vi v6 v7 v8 : Option Value) (start x c : Nat),
    Cx g fg → fg.env = env → fg.ns = hns → Rm fg A 6 → QFm M ad T → x < T.n → c < T.n → PE g fg A (hvs ad qa start ts c tc vi (some (.int x tx)) v6 v7 v8) M r e (isI (c * 2 ^ (32 - T.q) + T.fil x : Nat))

theorem rm_for {t : Expr} {it : Value} {b : List Stmt} {k : Result → Sem Fin} {b' : List Stmt} {p : Pos} {d : Nat} (rm : Rm f A (d + 2)) (h1 : fg.env = env) (h2 : fg.outer = f.env :: f.outer) : Rm fg (A.in1.over (.forLoop t it b [] env) [.ret k none false [] (.func b' env) p []]) d := by
  refine ⟨?_, ?_, ?_, rm.hd⟩
  · show A.frames.map (env :: ·) = _
    rw [rm.fr, h1, h2]; rfl
  · show A.depth + 1 + 3 * d < 900
    have := rm.dep; omega
  · show A.units + 1 + 3 + 20 * d < 6000
    have := rm.uni; omega

theorem gen_turn {scope : Scope} {qual : Str} {cdv : Value} {pre : List Stmt} {e : Expr} {yp pos xp : Pos} {fbody : List Stmt} {Kf : Flow → Sem Fin} (henv : env = envX qual scope Lg fa cdv []) (hk : scope.kind = .function) (hco : scope.isCoroutine = false) (hloc : allLocal scope hns = true)
    (hKf : Kf .next = .pure (.done (.ret .none))) (hpre : PreSpec g T ad env pre) (hyi : YieldSpec g T ad env e) (hn : 0 < T.n) :
    ∀ (k i cur : Nat) (queue hs : List Nat), T.hLoop k i cur queue = some hs → queue.length + k ≤ 2000000 → i + k < 2 ^ 40 → cur < T.n → (∀ x ∈ queue, x < T.n) →
      ∀ (f : Fm) (A : Around) (vs : List (Option Value)) (R : Ledger) (r : Rs) (s : Shared) (fg : Fm) (its : List Value) (ep : Nat) (ts tc : Tok) (vi v5 v6 v7 v8 : Option Value) (qa : Addr) (tl : Ledger) (go : Obj) (start : Nat) (k' : Result → Sem Fin) (p : Pos),
        Cx g f → Rm f A 10 → QFm R ad T → GCx g f fg vs Lg env hns → GenO go gi → NA its queue →
        St fg (hvs ad qa start ts cur tc vi v5 v6 v7 v8) (((qa, listOf its.toArray ep) :: (ga, go) :: (ia, rangeIt i k 1) :: tl) ++ R) r s → (∀ f, k' (.ok f) = Kf f) →
        SegX g.M A.in1 (.forLoop (.Name "i" xp) (.ref ia) (pre ++ [.Expr (.Yield (some e) yp) pos]) [] env) (denote table (.forLoop (.Name "i" xp) (.ref ia) (pre ++ [.Expr (.Yield (some e) yp) pos]) [] env))
          [.ret k' none false [] (.func fbody env) p []] s (PostG g T ad Lg ga gi fg hs R r) := by
  intro k
  induction k with
  | zero =>
    intro i cur queue hs he _ _ _ _ f A vs R r s fg its ep ts tc vi v5 v6 v7 v8 qa tl go start k' p cx rm hq gcx ho hna hs hk'
    cases he
    have rmg : Rm fg _ 8 := rm_for (t := .Name "i" xp) (it := .ref ia) (b := pre ++ [.Expr (.Yield (some e) yp) pos]) (k := k') (b' := fbody) (p := p) (d := 8) rm gcx.env gcx.outer
    have hm : (ia, rangeIt i (0 : Nat) 1) ∈ ((qa, listOf its.toArray ep) :: (ga, go) :: (ia, rangeIt i (0 : Nat) 1) :: tl) ++ R := by simp
    refine sx_forTurn (wpAny_pyNext_range_end rmg.hd (hs.N.get hm) (by omega) fun h' hx => ?_)
    refine sx_forEnd hk' ?_
    rw [hKf]
    refine sx_done ⟨rfl, rfl, hvs ad qa start ts cur tc vi v5 v6 v7 v8, [(qa, listOf its.toArray ep), (ga, go)] ++ tl, ?_⟩
    have z := St.extBut (a := [(qa, listOf its.toArray ep), (ga, go)]) (b := tl ++ R) (tk := s.toks) hs hx
    rw [List.append_assoc]
    exact z
  | succ k ih =>
    intro i cur queue hl he hql hik hcu hqu f A vs R r s fg its ep ts tc vi v5 v6 v7 v8 qa tl go start k' p cx rm hq gcx ho hna hs hk'
    rw [QS.hLoop_succ] at he
    obtain ⟨⟨b, c, q⟩, hst, he⟩ := Option.bind_eq_some_iff.mp he
    have hlen := QS.hStep_len hst
    have hlt := QS.hStep_lt hn hst hcu hqu
    have rmg : Rm fg _ 8 := rm_for (t := .Name "i" xp) (it := .ref ia) (b := pre ++ [.Expr (.Yield (some e) yp) pos]) (k := k') (b' := fbody) (p := p) (d := 8) rm gcx.env gcx.outer
    have hm : (ia, rangeIt i (k + 1 : Nat) 1) ∈ ((qa, listOf its.toArray ep) :: (ga, go) :: (ia, rangeIt i (k + 1 : Nat) 1) :: tl) ++ R := by simp
    refine sx_forTurn (wpAny_pyNext_range_item (hs.N.get hm) (by omega) fun h' hit hsb => ?_)
    have z := hs.put (t := s.toks + 1) hm hsb hit
    have z := z.at (k := 2) (o' := rangeIt i (k + 1 : Nat) 1) rfl
    rw [show ((i : Int) + 1) = ((i + 1 : Nat) : Int) by omega, show (((k + 1 : Nat) : Int) - 1) = (k : Int) by omega] at z
    have hns4 : fg.ns[4]? = some ("i" : Str) := by rw [gcx.ns]; rfl
    have cxg := gcx.cx
    refine wpAny_assign_Name (gcx.env ▸ wpAny_storeName_local (cxg.kin 4 "i" hns4) (z.ns cxg) (fun h'' hn' hsb' => ?_) (by rw [cxg.hk]; rfl))
    have hs₂ := z.store (tk := s.toks + 1 + 1) (v := .int i s.toks) cxg hns4 rfl hn' hsb'
    rw [gcx.env]
    have hs₃ : St fg (hvs ad qa start ts cur tc (some (.int i s.toks)) v5 v6 v7 v8) ((qa, listOf its.toArray ep) :: ((ga, go) :: (ia, rangeIt ((i + 1 : Nat) : Int) (k : Nat) 1) :: tl ++ R)) r _ := hs₂
    have hqM : QFm ((ga, go) :: (ia, rangeIt ((i + 1 : Nat) : Int) (k : Nat) 1) :: tl ++ R) ad T := hq.mono fun p hp => List.mem_append_right _ hp
    refine sx_execs pre (wpAny_mono (hpre fg _ _ r _ qa its ep ts tc s.toks v5 v6 v7 v8 start i cur queue b c q cxg gcx.env gcx.ns (rmg.less (by decide)) hqM hna (by omega) hst (by omega) hs₃) (fun fl s' hp => ?_) fun _ _ z => z.elim)
    obtain ⟨rfl, its', ep', tc', v5', v6', v7', v8', hna', hv5, hs'⟩ := hp
    cases b with
    | false =>
      show SegX _ _ _ (.pure (.again _)) _ s' _
      refine PySem.W.X.s_again _ _ _ _ _ _ s' _ rfl ?_
      exact ih (i + 1) c q hl he (by omega) (by omega) hlt.1 hlt.2 f A vs R r s' fg its' ep' ts tc' _ v5' v6' v7' v8' qa tl go start k' p cx rm hq gcx ho hna' hs' hk'
    | true =>
      obtain ⟨tx, rfl⟩ := hv5 rfl
      obtain ⟨hs₁, he', rfl⟩ := Option.map_eq_some_iff.mp he
      have hx : i % T.n < T.n := Nat.mod_lt _ hn
      refine sx_cons (sx_yield rfl rfl rfl (gcx.env ▸ hyi fg _ _ r qa ts tc' tx _ v6' v7' v8' start (i % T.n) c cxg gcx.env gcx.ns (rmg.less (by decide)) (hq.mono fun p hp => .tail _ (List.mem_append_right _ hp)) hx hlt.1 _ _ _ hs' fun v s'' ⟨t, hv⟩ hs'' => ?_) (by rw [henv]; exact hco) (by rw [henv]; unfold interactive; rw [hk]; rfl))
      subst hv
      intro kk ll pp hres
      refine ⟨_, hs₁, t, _, (qa, listOf its'.toArray ep') :: (ga, go) :: (ia, rangeIt ((i + 1 : Nat) : Int) (k : Nat) 1) :: tl, rfl, rfl, rfl, hs'', fun oL hno => ?_⟩
      rw [gcx.ns] at hno
      refine genAt_of (m₁ := (qa, listOf its'.toArray ep') :: (ga, go) :: (ia, rangeIt ((i + 1 : Nat) : Int) (k : Nat) 1) :: tl) (go := go) (by simp) ho hno hk (by decide) hloc (.inr ⟨_, _, _, _, rfl, rfl⟩) ?_ (cdv := cdv) (qual := qual) (fa := fa)
      have hge := gcx.env
      intro f A vs R r s fg cx rm hq gcx hs
      rw [← henv] at gcx
      refine hres _ _ _ ?_
      show SegX _ _ _ (.pure (.again _)) _ s _
      refine PySem.W.X.s_again _ _ _ _ _ _ s _ rfl ?_
      rw [hge]
      exact ih (i + 1) c q hs₁ he' (by omega) (by omega) hlt.1 hlt.2 f A vs R r s fg its' ep' ts tc' _ _ v6' v7' v8' qa tl go start k' p cx rm hq gcx ho hna' hs hk'
end
end Mine
end

section
set_option maxRecDepth 100000
open PySem PySem.W PyProof.Rows PySem.Calls
set_option maxHeartbeats 4000000
namespace Mine
section
variable {g : Gl} {f : Fm} {A : Around} {vs : List (Option Value)} {news : Ledger} {r : Rs} {s : Shared}
theorem St.add {h' : Heap} {tk : Nat} {L : Addr} {oL : Obj} (hs : St f vs news r s) (h : ∀ b o, s.heap.get? b = some o → h'.get? b = some o) (hL : h'.get? L = some oL) (hle : s.heap.objs.size ≤ L) : St f vs ((L, oL) :: news) r ⟨h', s.gens, s.drawn, tk, s.os⟩ := by
  have z := hs.ext (tk := tk) h
  have hlt : ∀ b o, s.heap.get? b = some o → b < L := fun b o e => Nat.lt_of_lt_of_le (Heap.lt_size e) hle
  obtain ⟨o, ho, _⟩ := ns_obj hs.F.ns
  refine ⟨z.F, fun p hp => ?_, ?_, z.gens, z.drawn, z.os⟩
  · rcases List.mem_cons.mp hp with rfl | hp
    · refine ⟨hL, Nat.ne_of_gt (hlt _ _ ho), ?_⟩
      show f.h₀.get? L = none
      cases q : f.h₀.get? L with
      | none => rfl
      | some o' => exact absurd (hlt _ _ (hs.F.keep _ _ q)) (Nat.lt_irrefl _)
    · exact z.N p hp
  · rw [List.map_cons, List.nodup_cons]
    refine ⟨fun q => ?_, hs.nd⟩
    obtain ⟨p, hp, e⟩ := List.mem_map.mp q
    have := hlt _ _ (hs.N p hp).1
    rw [show p.1 = L from e] at this
    exact Nat.lt_irrefl _ this
def Rs.push (r : Rs) (x : GenState) : Rs := { r with gens := r.gens.push x }
theorem Gn.push {r : Rs} {x : GenState} (hx : x.bare = true) : Gn r (r.push x) := ⟨rfl, rfl, fun h => h.push hx, by show _ ≤ (r.gens.push x).size; rw [Array.size_push]; exact Nat.le_succ _, fun i hi => by
  show (r.gens.push x)[i]? = _
  rw [Array.getElem?_push_lt hi, Array.getElem?_eq_getElem hi]⟩
/-- a fresh generator -/
def NewGen (f : Fm) (news : Ledger) (r : Rs) (vs : List (Option Value)) (names : List Str) (body : List Stmt) (envOf : Addr → Env) (v : Value) (n' : Ledger) (r' : Rs) : Prop :=
  ∃ Lg ga oL go, v = .ref ga ∧ n' = (Lg, oL) :: (ga, go) :: news ∧ r' = r.push (.fresh (.func body (envOf Lg))) ∧ GenO go r.gens.size ∧ NsO oL (lm names vs) ∧ f.L < Lg
def genOK (scope : Scope) (ps ns : List Str) : Bool :=
  decide (ps ++ ns).Nodup && allLocal scope (ps ++ ns) && (scope.names.all fun x => x.2 != .cell) && !scope.isCoroutine && scope.isGenerator && decide (scope.kind = .function)
theorem CL.gen {name qual : Str} {params : Arguments} {body : List Stmt} {scope : Scope} {dV kV doc pm cdv ct oc : Value} {an od : Option Addr} {osl : Array (Option Value)} {fa : Addr} {args : List Value} {d : Nat}
    (cx : Cx g f) (rm : Rm f A (d + 1)) (ps ns : List Str)
    (ho : g.K.lookup fa = some ⟨oc, od, .func (fnX name qual params body scope [] dV kV doc pm an cdv ct), osl⟩) (hcd : codeIn g.K cdv qual = true)
    (hb : bindArgs (fnX name qual params body scope [] dV kV doc pm an cdv ct) ⟨args, []⟩ = pure (ps.zip args)) (hl : ps.length = args.length) (hok : genOK scope ps ns = true) :
    CL g f A vs news r fa args (NewGen f news r (args.map some ++ List.replicate ns.length none) (ps ++ ns) body (fun L => envX qual scope L fa cdv [])) := by
  simp only [genOK, Bool.and_eq_true, beq_iff_eq, decide_eq_true_eq, Bool.not_eq_true', List.all_eq_true, bne_iff_ne, ne_eq] at hok
  obtain ⟨⟨⟨⟨⟨h2, h3⟩, h4⟩, h5⟩, h6⟩, h7⟩ := hok
  intro R s hs k
  refine codeAny_call_generator rm.room ((cx.X.keeps hs.F.keep) _ _ ho) rfl h5 h6 rfl (codeRec_of (cx.X.keeps hs.F.keep) hcd) ?_
  rw [hb]
  refine wpAny_pure (wpAny_newFunctionEnv (fun x hx => h4 x hx) (fun y hy => ?_) (fun h' hns hsb => ?_) h7)
  · have : y.1 ∈ ps ++ ns := List.mem_append_left _ (List.of_mem_zip (show (y.1, y.2) ∈ ps.zip args from hy)).1
    exact of_decide_eq_true (List.all_eq_true.mp h3 y.1 this)
  · have hkeep : ∀ b o, s.heap.get? b = some o → h'.get? b = some o := fun b o e => hsb.extBut b o (Nat.ne_of_lt (Heap.lt_size e)) (Heap.get?_push_of_some _ e)
    refine ⟨(cx.T.nolimit.keeps hs.F.keep).keeps hkeep, ?_⟩
    obtain ⟨oL, hL, hno⟩ := ns_obj hns
    have z := hs.add (tk := s.toks + (ps.zip args).length) hkeep hL (Nat.le_refl _)
    obtain ⟨oc, hoc, _⟩ := ns_obj hs.F.ns
    let go : Obj := { cls := .type "generator", data := .fields #[.int s.gens.size 0, .str name (s.toks + (ps.zip args).length), .str qual (s.toks + (ps.zip args).length + 1)] }
    have z2 := z.alloc (ob := go) (t := s.toks + (ps.zip args).length + 1 + 1) rfl
    have hlm := lm_start (vals := args) h2 hl
    refine k _ _ (r.push (.fresh (.func body (envX qual scope s.heap.objs.size fa cdv [])))) _ ⟨s.heap.objs.size, h'.objs.size, oL, go, rfl, rfl, rfl, ⟨rfl, ⟨.str name (s.toks + (ps.zip args).length), .str qual (s.toks + (ps.zip args).length + 1), by rw [← hs.gens]⟩, rfl⟩, by rw [← hlm]; exact hno, Heap.lt_size hoc⟩ ?_
    have z3 := z2.perm (List.Perm.swap _ _ _)
    exact ⟨z3.F, z3.N, z3.nd, by show s.gens.push (.fresh (.func body (envX qual scope s.heap.objs.size fa cdv []))) = r.gens.push _; rw [hs.gens], z3.drawn, z3.os⟩
end
end Mine
end

section
set_option maxRecDepth 100000
open PySem PySem.W PyProof.Rows PySem.Calls
set_option maxHeartbeats 4000000
namespace Mine
open PySem.W.X (SegX)
theorem dummyFill14 : (hd.heap_39 = hd.heap_39) ∧ (PySem.Challenge.rw_sv0018_01 = PySem.Challenge.rw_sv0018_01) := by
  k_fill
  exact ⟨rfl, rfl⟩
section
variable {g : Gl} {f fg : Fm} {A : Around} {vs vsg vsg' : List (Option Value)} {M M' R l m m₁ tl news : Ledger} {r r' : Rs} {s s' : Shared} {Lg ga fa ia qa : Addr} {gi : Nat} {oL go : Obj} {env : Env} {ns : List Str} {T : QS} {ad : QA}
variable {e test : Expr} {pos xp : Pos} {rest : List Stmt} {Q : Flow → Shared → Prop} {E : Value → Shared → Prop} {its : Array Value} {ep : Nat} {la : Addr}
theorem CL.post {args : List Value} {P P' : Value → Ledger → Rs → Prop} (h : CL g f A vs news r fa args P) (w : ∀ v n r, P v n r → P' v n r) : CL g f A vs news r fa args P' :=
  fun _ _ hs k => h _ _ hs fun v n' r' s' p hs' => k v n' r' s' (w v n' r' p) hs'
theorem X.assertT {d : Nat} (rm : Rm f A d) (hs : St f vs news r s) (ht : PT g f A vs news r test true) (k : ∀ s', St f vs news r s' → wpAny g.M A (execs rest f.env) Q E s') : wpAny g.M A (execs (.Assert test none pos :: rest) f.env) Q E s :=
  wpAny_execs_cons (wpAny_Assert_new rm.hd (ht _ _ _ _ rfl hs fun s' hs' => k s' hs'))
theorem PE.len (cx : Cx g f) (hk : f.env.kindOf "len" = some .globalImplicit) (hm : nsIn g.K mainGlobals "len" = some none) (h : PE g f A vs news r e (· = .ref la)) (hl : (la, listOf its ep) ∈ news) (hsz : its.size < 2 ^ 62) (he : starEach [e] f.env = [(false, eval e f.env)] := by rfl) :
    PE g f A vs news r (.Call (.Name "len" xp) [e] [] pos) (isI its.size) :=
  PE.callB1 cx hk hm rfl (by decide) h (fun u Q E s p hs k => by
    subst p
    exact call_len_list ⟨_, hs.N.get hl, rfl, ep, rfl⟩ (by omega) (k _ _ ⟨_, rfl⟩ hs.tok)) he
theorem sum3_eq0 (S : QS) (i : Nat) : (bi (S.occ i) + bi (S.con i) + bi (S.shf i) == 0) = S.emp i := by
  unfold QS.emp bi
  cases S.occ i <;> cases S.con i <;> cases S.shf i <;> rfl
theorem put_head {a : Addr} {o o' : Obj} {M : Ledger} (nd : ((put a o' ((a, o) :: M)).map (·.1)).Nodup) : put a o' ((a, o) :: M) = (a, o') :: M := by
  rw [put_keys] at nd
  rw [put_at nd (k := 0) (o' := o) rfl]; rfl
theorem NA.size {its : List Value} {q : List Nat} (h : NA its q) : its.toArray.size = q.length := by rw [List.size_toArray, h.len]
theorem hLoop_cat (T : QS) (c x : Nat) : ((c : Int) * 2 ^ (32 - T.q) + (T.fil x : Int)) = ((c * 2 ^ (32 - T.q) + T.fil x : Nat) : Int) := by push_cast; rfl

theorem genAt_fresh {hs : List Nat} {body : List Stmt} {scope : Scope} {qual : Str} {cdv : Value} (hgo : (ga, go) ∈ m₁) (ho : GenO go gi) (hn : NsO oL (lm ns vsg)) (hk : scope.kind = .function) (hnd : ns.Nodup) (hloc : allLocal scope ns = true)
    (hseg : ∀ (f : Fm) (A : Around) (vs : List (Option Value)) (R : Ledger) (r : Rs) (s : Shared) (fg : Fm), Cx g f → Rm f A 10 → QFm R ad T → GCx g f fg vs Lg (envX qual scope Lg fa cdv []) ns → St fg vsg (m₁ ++ R) r s →
      SegX g.M A.in1 (.func body (envX qual scope Lg fa cdv [])) (denote table (.func body (envX qual scope Lg fa cdv []))) [] s (PostG g T ad Lg ga gi fg hs R r)) : GenAt g T ad Lg ga gi hs ((Lg, oL) :: m₁) (.fresh (.func body (envX qual scope Lg fa cdv []))) :=
  genAt_of hgo ho hn hk hnd hloc (.inl ⟨rfl, rfl, rfl⟩) hseg
theorem push_get (a : Array GenState) (x : GenState) : (a.push x)[a.size]? = some x := by simp
theorem hashes_ (hK : IsK g) (cx : Cx g f) (rm : Rm f A 1) (hq : QFm news ad T) {hs : List Nat} (hh : T.hashes = some hs) :
    CL g f A vs news r 331 [.ref ad.x] (fun v n' r' => ∃ Lg ga oL go gs, v = .ref ga ∧ n' = [(Lg, oL), (ga, go)] ++ news ∧ Gn r r' ∧ f.L < Lg ∧ r'.gens[r.gens.size]? = some gs ∧ GenO go r.gens.size ∧ GenAt g T ad Lg ga r.gens.size hs [(Lg, oL), (ga, go)] gs) := by
  have hn := hq.pos
  have hsm := hq.small
  unfold QS.hashes at hh
  obtain ⟨start, hfe, hl⟩ := Option.bind_eq_some_iff.mp hh
  refine (CL.gen (d := 0) cx rm ["self"] ["queue", "start", "cur_quot", "i", "idx", "is_occupied", "is_continuation", "is_shifted"] (by refine IsK.look hK ?_; k_is) (by refine IsK.code hK ?_; k_is) rfl rfl (by decide +kernel)).post ?_
  rintro v n' r' ⟨Lg, ga, oL, go, rfl, rfl, rfl, ho, hno, hlt⟩
  refine ⟨Lg, ga, oL, go, _, rfl, rfl, Gn.push rfl, hlt, push_get _ _, ho, ?_⟩
  refine genAt_fresh (m₁ := [(ga, go)]) (.head _) ho hno (by rfl) (by decide) (by decide +kernel) ?_
  clear cx rm hq hno
  intro f A vs R r s fg cx₀ rm₀ hq₀ gcx hs
  have henv := gcx.env
  have hns := gcx.ns
  have cx := gcx.cx
  have n0 : fg.ns[0]? = some ("self" : Str) := by rw [hns]; rfl
  have n1 : fg.ns[1]? = some ("queue" : Str) := by rw [hns]; rfl
  have n2 : fg.ns[2]? = some ("start" : Str) := by rw [hns]; rfl
  have n3 : fg.ns[3]? = some ("cur_quot" : Str) := by rw [hns]; rfl
  refine sx_func ?_
  refine sx_execs [_, _, _, _] (b := [_]) ?_
  have rm : ∀ b, Rm fg (A.in1.over (.func b fg.env) []) 8 := fun b => ⟨by show A.frames.map (fg.env :: ·) = _; rw [rm₀.fr, gcx.outer]; rfl, by have := rm₀.dep; show A.depth + 1 + 3 * 8 < 900; omega, by have := rm₀.uni; show A.units + 1 + 3 + 20 * 8 < 6000; omega, rm₀.hd⟩
  rw [← henv]
  refine X.assignV cx hs n1 rfl (EX.list AR.nil (fun l h => by rw [h]; decide)) ?_
  rintro _ _ _ s₁ ⟨qa, _, rfl, rfl, rfl, rfl⟩ hs
  refine X.assign cx hs n2 rfl PE.cInt ?_
  rintro _ s₁ ⟨t2, rfl⟩ hs
  have hq1 : QFm ((qa, listOf [].toArray 0) :: ([(ga, go)] ++ R)) ad T := hq₀.mono fun p hp => .tail _ (List.mem_append_right _ hp)
  refine X.while (fun k vs news' r' => r = r' ∧ news' = (qa, listOf [].toArray 0) :: ([(ga, go)] ++ R) ∧ ∃ (st : Nat) (ts : Tok), vs = [some (.ref ad.x), some (.ref qa), some (.int st ts), none, none, none, none, none, none] ∧ T.firstEmp k st = some start)
    (fun vs news' r' => r = r' ∧ news' = (qa, listOf [].toArray 0) :: ([(ga, go)] ++ R) ∧ ∃ (ts : Tok), vs = [some (.ref ad.x), some (.ref qa), some (.int start ts), none, none, none, none, none, none] ∧ start < T.n) (T.n + 1) ⟨rfl, rfl, 0, t2, rfl, hfe⟩ hs ?_ ?_
  · rintro k vs news' r' s ⟨rfl, rfl, st, ts, rfl, he⟩ hs
    cases k with
    | zero => cases he
    | succ k =>
      simp only [QS.firstEmp] at he
      split at he
      · cases he
      rename_i hlt
      have hlt : st < T.n := Nat.lt_of_not_le hlt
      have hq := hq1
      refine ⟨_, PT.not (PT.val (Me.emp ⟨cx, hK, hq, 0, n0, rfl⟩ ((rm _).less (by decide)) (PE.nameI cx n2 rfl) hlt) (fun _ => rfl)), ?_, ?_⟩
      · intro q
        have q : T.emp st = true := by simpa using q
        rw [if_pos q] at he
        cases he
        exact ⟨rfl, rfl, ts, rfl, hlt⟩
      · intro q s₁ hs
        have q : T.emp st = false := by simpa using q
        rw [if_neg (by rw [q]; decide)] at he
        refine X.addTo cx hs n2 rfl PE.cInt ?_
        intro t s₁ hs
        exact X.nil (g := g) hs ⟨k, _, _, _, Nat.lt_succ_self k, ⟨rfl, rfl, st + 1, t, rfl, he⟩, hs⟩
  rintro _ _ _ s₁ ⟨rfl, rfl, ts, rfl, hstart⟩ hs
  refine X.assign cx hs n3 rfl PE.cInt ?_
  rintro _ s₁ ⟨t3, rfl⟩ hs
  refine X.nil (g := g) hs ?_
  rw [henv]
  refine sx_cons (sx_For ?_)
  rw [← henv]
  have hq := hq1
  have kr : fg.env.kindOf "range" = some .globalImplicit := by rw [henv]; rfl
  refine (EX.range2 cx kr (by rw [hK]; k_is) (PE.nameI cx n2 rfl) (PE.add (Me.aSize ⟨cx, hK, hq, 0, n0, rfl⟩) (PE.nameI cx n2 rfl))) _ _ _ hs ?_
  rintro _ _ _ s₂ ⟨rfl, ra, tt, uu, ww, rfl, rfl⟩ hs
  have hsz : Builtin.Range.rangeSize (start : Int) ((T.n : Int) + start) 1 = T.n := by rw [rangeSize_one, if_pos (by omega)]; omega
  refine wpAny_pyIter_range (hs.N.get (.head _)) (small_one (by omega) (by omega) (by omega) (by omega)) ?_
  rw [hsz, henv]
  intro k' p hk'
  have hs := hs.alloc (ob := rangeIt start T.n 1) (t := s₂.toks) rfl
  have hs := hs.perm (news' := ((qa, listOf [].toArray 0) :: (ga, go) :: (s₂.heap.objs.size, rangeIt start T.n 1) :: [(ra, rangeObj start tt ((T.n : Int) + start) uu 1 ww)]) ++ R) (by
    refine (List.perm_append_comm (l₁ := [_, _]) (l₂ := [_, _])).append_right R)
  refine' gen_turn (pre := [_, _, _, _, _, _, _]) ?e1 ?e2 ?e3 ?e4 ?e5 ?_ ?_ hn T.n start 0 [] _ hl (by show 0 + _ ≤ _; omega) (by omega) hn (fun _ h => nomatch h) f A vs R r _ fg [] 0 ts t3 none none none none none qa _ go start k' p cx₀ rm₀ hq₀ gcx ho trivial hs hk'
  case e1 => exact rfl
  case e2 => exact rfl
  case e3 => exact rfl
  case e4 => decide +kernel
  case e5 => exact rfl
  · clear cx rm hs hq gcx henv hns n0 n1 n2 n3 rm₀ hq₀ cx₀ hk' hl hfe
    intro fg A M r s qa its ep ts tc ti v5 v6 v7 v8 start i cur queue b c qq cx he hns rm hq₀ hna hlen hst hi hs
    have n0 : fg.ns[0]? = some ("self" : Str) := by rw [hns]; rfl
    have n1 : fg.ns[1]? = some ("queue" : Str) := by rw [hns]; rfl
    have n3 : fg.ns[3]? = some ("cur_quot" : Str) := by rw [hns]; rfl
    have n4 : fg.ns[4]? = some ("i" : Str) := by rw [hns]; rfl
    have n5 : fg.ns[5]? = some ("idx" : Str) := by rw [hns]; rfl
    have n6 : fg.ns[6]? = some ("is_occupied" : Str) := by rw [hns]; rfl
    have n7 : fg.ns[7]? = some ("is_continuation" : Str) := by rw [hns]; rfl
    have n8 : fg.ns[8]? = some ("is_shifted" : Str) := by rw [hns]; rfl
    have kl : fg.env.kindOf "len" = some .globalImplicit := by rw [he]; rfl
    have hq : QFm ((qa, listOf its.toArray ep) :: M) ad T := hq₀.mono fun p hp => .tail _ hp
    have hx : i % T.n < T.n := Nat.mod_lt _ hn
    rw [← he]
    refine X.assign cx hs n5 rfl (PE.toI (b := (i % T.n : Nat)) (PE.mod (PE.nameI cx n4 rfl) (Me.aSize ⟨cx, hK, hq, 0, n0, rfl⟩) (by omega)) (by rw [Int.fmod_eq_emod_of_nonneg _ (by omega), Int.natCast_emod])) ?_
    rintro _ s₁ ⟨tx, rfl⟩ hs
    refine X.assign cx hs n6 rfl (Me.cOcc ⟨cx, hK, hq, 0, n0, rfl⟩ (rm.less (by decide)) (PE.nameI cx n5 rfl) hx) ?_
    rintro _ s₁ ⟨t6, rfl⟩ hs
    refine X.assign cx hs n7 rfl (Me.cCon ⟨cx, hK, hq, 0, n0, rfl⟩ (rm.less (by decide)) (PE.nameI cx n5 rfl) hx) ?_
    rintro _ s₁ ⟨t7, rfl⟩ hs
    refine X.assign cx hs n8 rfl (Me.cShf ⟨cx, hK, hq, 0, n0, rfl⟩ (rm.less (by decide)) (PE.nameI cx n5 rfl) hx) ?_
    rintro _ s₁ ⟨t8, rfl⟩ hs
    unfold QS.hStep at hst
    refine X.if hs (PT.toB (PT.eq (PE.add (PE.add (PE.nameI cx n6 rfl) (PE.nameI cx n7 rfl)) (PE.nameI cx n8 rfl)) PE.cInt) (sum3_eq0 T _)) ?_ ?_
    · intro q s₁ hs
      rw [if_pos q] at hst
      split at hst
      · rename_i hem
        cases hst
        have e0 : queue = [] := List.isEmpty_iff.mp hem
        refine X.assertT rm hs (PT.toB (PT.eq (PE.len cx kl (by rw [hK]; k_is) (PE.nameV cx n1 rfl) (.head _) (by rw [hna.size]; omega)) PE.cInt) (by rw [hna.size, e0]; rfl)) ?_
        intro s₁ hs
        exact X.cont (g := g) hs ⟨rfl, its, ep, tc, _, _, _, _, hna, (fun h => nomatch h), hs⟩
      · cases hst
    intro q s₁ hs
    rw [if_neg (by rw [q]; decide)] at hst
    simp only at hst
    refine X.nil (g := g) hs ?_
    refine X.ifJ (c := T.occ (i % T.n)) (fun s => ∃ its' ep', NA its' (if T.occ (i % T.n) = true then queue ++ [i % T.n] else queue) ∧
        St fg [some (.ref ad.x), some (.ref qa), some (.int start ts), some (.int cur tc), some (.int i ti), some (.int (i % T.n : Nat) tx), some (.int (bi (T.occ (i % T.n))) t6), some (.int (bi (T.con (i % T.n))) t7), some (.int (bi (T.shf (i % T.n))) t8)] ((qa, listOf its'.toArray ep') :: M) r s) hs
      (PT.toB (PT.eq (PE.nameI cx n6 rfl) PE.cInt) (bi_eq1 _)) ?_ ?_ ?_
    · intro q s₁ hs
      rw [if_pos q]
      refine X.expr cx hs (EX.append (its := its) (ep := ep) (PE.nameV cx n1 rfl) (.head _) (PE.nameI cx n5 rfl) (by rw [hna.len]; omega)) (fun v n' r' h a => by rw [h.1]; exact fun z => nomatch z) ?_
      rintro _ _ _ s₁ ⟨rfl, rfl, u, hu, rfl⟩ hs'
      rw [put_head hs'.nd] at hs'
      exact X.nil (g := g) hs' ⟨rfl, _, _, hna.snoc hu, hs'⟩
    · intro q s₁ hs
      rw [if_neg (by rw [q]; decide)]
      exact X.nil (g := g) hs ⟨rfl, _, _, hna, hs⟩
    rintro s₁ ⟨its, ep, hna, hs⟩
    have hlen : (if T.occ (i % T.n) = true then queue ++ [i % T.n] else queue).length ≤ 2000001 := by
      split
      · rw [List.length_append]; show _ + 1 ≤ _; omega
      · omega
    generalize (if T.occ (i % T.n) = true then queue ++ [i % T.n] else queue) = queue₁ at hst hna hlen
    have hq : QFm ((qa, listOf its.toArray ep) :: M) ad T := hq₀.mono fun p hp => .tail _ hp
    refine X.ifJ (c := T.rst (i % T.n)) (fun s => b = true ∧ ∃ its' ep' tc', NA its' qq ∧
        St fg [some (.ref ad.x), some (.ref qa), some (.int start ts), some (.int c tc'), some (.int i ti), some (.int (i % T.n : Nat) tx), some (.int (bi (T.occ (i % T.n))) t6), some (.int (bi (T.con (i % T.n))) t7), some (.int (bi (T.shf (i % T.n))) t8)] ((qa, listOf its'.toArray ep') :: M) r s) hs
      (PT.val (Me.rst ⟨cx, hK, hq, 0, n0, rfl⟩ (rm.less (by decide)) (PE.nameI cx n5 rfl) hx) (fun _ => rfl)) ?_ ?_ ?_
    · intro q s₁ hs
      rw [if_pos q] at hst
      cases queue₁ with
      | nil => cases hst
      | cons c' q' =>
        cases hst
        obtain ⟨v, its₂, rfl, ⟨tv, rfl⟩, hna2⟩ := hna.cons
        have hl2 : its₂.length ≤ 2000001 := by rw [hna2.len]; simp only [List.length_cons] at hlen; omega
        refine X.assignV cx hs n3 rfl (EX.pop0 (PE.nameV cx n1 rfl) (.head _) (by omega)) ?_
        rintro _ _ _ s₁ ⟨rfl, rfl, rfl⟩ hs'
        rw [put_head hs'.nd] at hs'
        exact X.nil (g := g) hs' ⟨rfl, rfl, _, _, tv, hna2, hs'⟩
    · intro q s₁ hs
      rw [if_neg (by rw [q]; decide)] at hst
      cases hst
      exact X.nil (g := g) hs ⟨rfl, rfl, _, _, _, hna, hs⟩
    rintro s₁ ⟨rfl, its, ep, tc', hna, hs⟩
    exact X.nil (g := g) hs ⟨rfl, _, _, tc', _, _, _, _, hna, (fun _ => ⟨tx, rfl⟩), hs⟩
  · clear cx rm hs hq gcx henv hns n0 n1 n2 n3 rm₀ hq₀ cx₀ hk' hl hfe
    intro fg A M r qa ts tc tx vi v6 v7 v8 start x c cx he hns rm hq hx hc
    have n0 : fg.ns[0]? = some ("self" : Str) := by rw [hns]; rfl
    have n3 : fg.ns[3]? = some ("cur_quot" : Str) := by rw [hns]; rfl
    have n5 : fg.ns[5]? = some ("idx" : Str) := by rw [hns]; rfl
    refine PE.toI (PE.add (PE.shl (PE.nameI cx n3 rfl) (Me.aR ⟨cx, hK, hq, 0, n0, rfl⟩) (by omega) (by have := hq.q20; omega) ?_) (Me.gFil ⟨cx, hK, hq, 0, n0, rfl⟩ (PE.nameI cx n5 rfl) hx)) ?_
    · have := hq.small; rw [Int.natAbs_natCast]; omega
    · rw [Int.toNat_natCast]; exact hLoop_cat T c x
end
end Mine
end

section
set_option maxRecDepth 100000
open PySem PySem.W PyProof.Rows PySem.Calls
set_option maxHeartbeats 4000000
namespace Mine
section
variable {g : Gl} {f : Fm} {A : Around} {vs : List (Option Value)} {m R news : Ledger} {r r' : Rs} {s s' : Shared} {Lg ga : Addr} {gi : Nat} {oL go : Obj} {T : QS} {ad : QA} {hs : List Nat} {gs : GenState}

theorem Rm.under {d : Nat} (h : Rm f A (d + 1)) : Rm f A.in1 d := h.in1
theorem extend_loop (cx : Cx g f) (rm : Rm f A 11) (hlt : f.L < Lg) {S : Addr} {Rr : Result → Shared → Prop} : ∀ (hs : List Nat) (m R : Ledger) (r : Rs) (s : Shared) (gs : GenState) (acc : List Value) (done : List Nat) (c : Nat), GenAt g T ad Lg ga gi hs m gs → r.gens[gi]? = some gs → QFm R ad T →
    NA acc done → done.length + hs.length ≤ 2000000 → St f vs (m ++ (S, listOf acc.toArray c) :: R) r s →
    (∀ m' its ep r' s', NA its (done ++ hs) → Gx gi r r' → St f vs (m' ++ (S, listOf its.toArray ep) :: R) r' s' → Rr (.ok (.ret .none)) s') →
    codeAny g.M A (.builtin "list.extend.loop" ⟨[.ref S, .ref ga, .none], []⟩) Rr s
  | [], m, R, r, s, gs, acc, done, c, hG, hgs, hq, hna, hlen, hs, k => by
    refine codeAny_builtin F.entry_extend_loop ?_
    rw [Around.under_plainId F.plain_extend_loop _]
    show wpAny _ A.in1 (pyNext (.ref ga) >>= _) _ _ s
    refine wpAny_bind (hG f A.in1 vs _ r s _ _ cx rm.in1 (hq.mono fun p hp => .tail _ hp) hlt hgs hs fun m' r' s' hgn hs' => ?_)
    refine wpAny_pure (k m' acc c r' s' ?_ hgn hs')
    rw [List.append_nil]; exact hna
  | h :: hs, m, R, r, s, gs, acc, done, c, hG, hgs, hq, hna, hlen, hst, k => by
    refine codeAny_builtin F.entry_extend_loop ?_
    rw [Around.under_plainId F.plain_extend_loop _]
    show wpAny _ A.in1 (pyNext (.ref ga) >>= _) _ _ s
    refine wpAny_bind (hG f A.in1 vs _ r s _ _ cx rm.in1 (hq.mono fun p hp => .tail _ hp) hlt hgs hst fun m' gs' r' s' t hG' hgn hgs' hs' => ?_)
    have hm : (S, listOf acc.toArray c) ∈ m' ++ (S, listOf acc.toArray c) :: R := by simp
    have hS' := hs'.N.get hm
    have hl := hna.len
    simp only [List.length_cons] at hlen
    show wpAny _ A.in1 (updateSeq S (·.push (Value.int h t)) >>= _) _ _ _
    refine wpAny_bind ?_
    refine wpAny_updateSeq hS' rfl (wpAny_pure ⟨plainId_quiet F.plain_extend_loop _, ?_⟩) (by rw [List.size_toArray]; show _ ≤ 2 ^ 24; omega) (by show (acc.toArray.push _).size ≤ 2 ^ 24 + 1; rw [Array.size_push, List.size_toArray]; omega)
    have z := hs'.put (t := s'.toks) (ob' := listOf (acc ++ [Value.int h t]).toArray (c + 1)) hm (Heap.SameBut.update ..) (by
      have := Heap.get?_update_self (Obj.mapSeq (·.push (Value.int h t))) hS' rfl
      rw [this]
      simp [Obj.mapSeq])
    have nd := z.nd
    rw [put_keys] at nd
    rw [put_mid nd] at z
    refine extend_loop cx rm hlt hs m' R r' _ gs' (acc ++ [Value.int h t]) (done ++ [h]) (c + 1) hG' hgs' hq (hna.snoc ⟨t, rfl⟩) (by rw [List.length_append]; show _ + 1 + _ ≤ _; omega) z fun m'' its ep r'' s'' hna' hgn' hs'' => ?_
    exact k m'' its ep r'' s'' (by rw [List.append_assoc] at hna'; exact hna') (hgn.trans hgn') hs''
theorem extend_gen (cx : Cx g f) (rm : Rm f A 11) (hlt : f.L < Lg) {S : Addr} {Rr : Result → Shared → Prop} {c₀ : Nat} (hG : GenAt g T ad Lg ga gi hs m gs) (hgs : r.gens[gi]? = some gs) (hq : QFm R ad T) (hgo : (ga, go) ∈ m) (ho : GenO go gi)
    (hlen : hs.length ≤ 2000000) (hst : St f vs (m ++ (S, listOf #[] c₀) :: R) r s)
    (k : ∀ m' its ep r' s', NA its hs → Gx gi r r' → St f vs (m' ++ (S, listOf its.toArray ep) :: R) r' s' → Rr (.ok (.ret .none)) s') :
    wpAny g.M A.in1 (Builtin.List.listExtendWith (.ref S) (.ref ga) .none)
      (fun fin s' => match fin with | .done f => Rr (.ok f) s' | .again c' => c'.quiet = true ∧ codeAny g.M A c' Rr s') (fun e s' => Rr (.error e) s') s := by
  have hm : (S, listOf #[] c₀) ∈ m ++ (S, listOf #[] c₀) :: R := by simp
  have hmg : (ga, go) ∈ m ++ (S, listOf #[] c₀) :: R := List.mem_append_left _ hgo
  have hSI : S ≠ ga := fun e => by
    subst e
    have := nodup_same hst.nd hm hmg
    have hc := ho.cls
    rw [← this] at hc
    exact absurd (Value.type.inj hc) (by decide)
  have hI := ho.is (hst.N.get hmg)
  unfold Builtin.List.listExtendWith
  refine wpAny_bind (wpAny_typeOf hI.typeIs ?_)
  have h1 : Builtin.List.listSameRef (.ref S) (.ref ga) = false := by simp [Builtin.List.listSameRef, hSI]
  have h2 : (Value.type "generator" == Value.type "list") = false := by decide
  have h3 : (Value.type "generator" == Value.type "tuple") = false := by decide
  simp only [h1, h2, h3, Bool.or_false, Bool.false_eq_true, if_false]
  refine wpAny_bind (wpAny_pyIter_gen hI ?_)
  refine wpAny_bind (wpAny_holding ?_)
  unfold Builtin.List.listLengthHint
  refine wpAny_bind (wpAny_specialOf hI.typeIs F.gen_no_len ?_)
  show wpAny _ A.in1 (specialOf (Value.ref ga) (Str.ofString "__length_hint__") >>= _) _ _ _
  refine wpAny_bind (wpAny_specialOf hI.typeIs F.gen_no_hint ?_)
  refine wpAny_pure ?_
  show wpAny _ A.in1 (rule "list.extend.makes-room" >>= fun _ => Builtin.List.listTouch (.ref S) >>= fun _ =>
    again (.builtin "list.extend.loop" ⟨[.ref S, .ref ga, .none], []⟩)) _ _ _
  refine wpAny_bind (wpAny_rule ?_)
  refine wpAny_bind ?_
  show wpAny _ A.in1 (updateSeq S (·.push .none) >>= fun _ => updateSeq S (·.pop)) _ _ _
  have hS := hst.N.get hm
  refine wpAny_bind (wpAny_updateSeq hS rfl ?_)
  have hS₂ := Heap.get?_update_self (Obj.mapSeq (·.push Value.none)) hS rfl
  refine wpAny_updateSeq (hz := by seq_fits) hS₂ rfl ?_
  have hS₃ := Heap.get?_update_self (Obj.mapSeq (·.pop)) hS₂ rfl
  have z := hst.put (t := s.toks) (ob' := listOf [].toArray (c₀ + 1 + 1)) hm ((Heap.SameBut.update ..).trans (Heap.SameBut.update ..)) (by rw [hS₃]; rfl)
  have nd := z.nd
  rw [put_keys] at nd
  rw [put_mid nd] at z
  refine wpAny_pure ⟨plainId_quiet F.plain_extend_loop _, ?_⟩
  exact extend_loop cx rm hlt hs m R r _ gs [] [] _ hG hgs hq trivial (by show 0 + _ ≤ _; omega) z fun m' its ep r' s' hna => k m' its ep r' s' hna
/-- list(generator) -/
theorem list_gen (cx : Cx g f) (rm : Rm f A 13) (hlt : f.L < Lg) {Q : Value → Shared → Prop} {E : Value → Shared → Prop} (hG : GenAt g T ad Lg ga gi hs m gs) (hgs : r.gens[gi]? = some gs) (hq : QFm R ad T) (hgo : (ga, go) ∈ m) (ho : GenO go gi)
    (hlen : hs.length ≤ 2000000) (hst : St f vs (m ++ R) r s)
    (k : ∀ S m' its ep r' s', NA its hs → Gx gi r r' → St f vs (m' ++ (S, listOf its.toArray ep) :: R) r' s' → Q (.ref S) s') : wpAny g.M A (call (.type "list") [.ref ga]) Q E s := by
  refine callType_codes (Q₁ := fun obj s₁ => obj = .ref s.heap.objs.size ∧ s₁ = { s with heap := s.heap.push { cls := .type "list", data := .seq #[] } }) F.called_list (F.typeCall_list_1 _) F.entry_list_init
    (code_list_new _ ⟨rfl, rfl⟩) fun obj s₁ h₁ => ?_
  obtain ⟨rfl, rfl⟩ := h₁
  have z := hst.alloc (ob := listOf #[] 0) (t := s.toks) rfl
  have z := z.perm (List.perm_middle (a := (s.heap.objs.size, listOf #[] 0)) (l₁ := m) (l₂ := R)).symm
  have hm : (s.heap.objs.size, listOf #[] 0) ∈ m ++ (s.heap.objs.size, listOf #[] 0) :: R := by simp
  have hS := z.N.get hm
  refine ⟨⟨_, hS, rfl⟩, F.args_list_init_2 _ _, ?_⟩
  show wpAny _ A.in1.in1 (do let old ← Builtin.List.listItems (.ref s.heap.objs.size); Builtin.List.listUpdate (.ref s.heap.objs.size) (fun _ => #[]); letGo old.toList.reverse; Builtin.List.listExtendWith (.ref s.heap.objs.size) (.ref ga) .none) _ _ _
  refine wpAny_bind ?_
  unfold Builtin.List.listItems
  refine wpAny_bind (wpAny_seqItems hS rfl (wpAny_pure ?_))
  show wpAny _ A.in1.in1 (updateSeq s.heap.objs.size (fun _ => #[]) >>= fun _ => letGo (#[] : Array Value).toList.reverse >>= fun _ => Builtin.List.listExtendWith (.ref s.heap.objs.size) (.ref ga) .none) _ _ _
  refine wpAny_bind (wpAny_updateSeq hS rfl ?_)
  have hS₂ := Heap.get?_update_self (Obj.mapSeq (fun _ => (#[] : Array Value))) hS rfl
  have z2 := z.put (t := s.toks) (ob' := listOf #[] 0) hm (Heap.SameBut.update ..) (by rw [hS₂]; rfl)
  have nd := z2.nd
  rw [put_keys] at nd
  rw [put_mid nd] at z2
  refine wpAny_bind (wpAny_letGo ?_)
  refine extend_gen (A := A.in1) cx (rm.in1.less (by decide)) hlt hG hgs hq hgo ho hlen z2 fun m' its ep r' s' hna hgn hs' => ?_
  exact ⟨rfl, k _ m' its ep r' s' hna hgn hs'⟩
end
end Mine
end

section
set_option maxRecDepth 100000
open PySem PySem.W PyProof.Rows PySem.Calls
set_option maxHeartbeats 4000000
namespace Mine
theorem dummyFill15 : (hd.heap_39 = hd.heap_39) ∧ (PySem.Challenge.rw_sv0018_01 = PySem.Challenge.rw_sv0018_01) := by
  k_fill
  exact ⟨rfl, rfl⟩
section
variable {g : Gl} {f fg : Fm} {A : Around} {vs vsg vsg' : List (Option Value)} {M M' R l m m₁ tl news : Ledger} {r r' : Rs} {s s' : Shared} {Lg ga fa ia qa : Addr} {gi : Nat} {oL go : Obj} {env : Env} {ns : List Str} {T : QS} {ad : QA} {hl : List Nat}
variable {e test o : Expr} {pos xp : Pos} {rest : List Stmt} {Q : Flow → Shared → Prop} {E : Value → Shared → Prop} {its : Array Value} {ep : Nat} {la : Addr} {x attr : Str}
/-- a built-in class called with one argument that changes the ledger -/
theorem EX.callT1 {T : String} {PA P : Value → Ledger → Rs → Prop} (cx : Cx g f) (hk : f.env.kindOf x = some .globalImplicit) (hm : nsIn g.K mainGlobals x = some none) (hv : bootBuiltins x = some (.type T)) (hn : x ≠ "__name__") (ha : EX g f A vs news r e PA)
    (hc : ∀ u n' r' (Q : Value → Shared → Prop) E s, PA u n' r' → St f vs n' r' s → (∀ v n'' r'' s', P v n'' r'' → St f vs n'' r'' s' → Q v s') → wpAny g.M A (call (.type T) [u]) Q E s)
    (he : starEach [e] f.env = [(false, eval e f.env)] := by rfl) (hd : (x == ("__debug__" : Str)) = false := by decide) : EX g f A vs news r (.Call (.Name x xp) [e] [] pos) P :=
  fun _ _ _ hs k => Call_Name1 (PE.nameBt cx hk hm hv hn hd _ _ _ hs fun _ s₁ q hs₁ => by
    subst q
    exact callWith_type1 (ha _ _ _ hs₁ fun u n' r' s₂ p hs₂ => hc u n' r' _ _ _ p hs₂ k)) he
/-- a list of these numbers, in front of the ledger -/
def ListG (hs : List Nat) (news : Ledger) (r : Rs) (v : Value) (n' : Ledger) (r' : Rs) : Prop := ∃ S its ep m', v = .ref S ∧ NA its hs ∧ Gn r r' ∧ n' = (S, listOf its.toArray ep) :: (m' ++ news)
theorem get_hashes (hK : IsK g) (cx : Cx g f) (rm : Rm f A 16) (hq : QFm news ad T) (hh : T.hashes = some hl) (hlen : hl.length ≤ 2000000) :
    CL g f A vs news r 338 [.ref ad.x] (ListG hl news r) := by
  refine' CL.enter (d := 15) cx rm ["self"] [] ?ho ?hcd ?hb ?hl ?hok ?_
  case ho => refine IsK.look hK ?_; k_is
  case hcd => refine IsK.code hK ?_; k_is
  case hb => exact rfl
  case hl => exact rfl
  case hok => decide +kernel
  clear cx rm
  intro f' A' s' B hs
  have cx := B.cx
  have rm := B.rm
  have n0 := B.at (i := 0) rfl
  have kl := B.glob (x := "list") rfl
  clear B
  refine X.ret hs (EX.callT1 cx kl (by rw [hK]; k_is) rfl (by decide) (Me.meth0 ⟨cx, hK, hq, 0, n0, rfl⟩ (KQ.mhashes hK) (hashes_ hK cx (rm.less (by decide)) hq hh)) (P := ListG hl news r) ?_) fun v n' r' s' p hs' => ⟨_, _, _, p, hs'⟩
  rintro _ _ r' Q E s ⟨Lg, ga, oL, go, gs, rfl, rfl, hgn, hlt, hgs, ho, hG⟩ hs k
  refine list_gen cx (rm.less (by decide)) hlt hG hgs hq (.tail _ (.head _)) ho hlen hs fun S m' its ep r'' s' hna hgx hs' => ?_
  exact k _ _ _ _ ⟨S, its, ep, m', rfl, hna, hgn.new hgx, rfl⟩ (hs'.perm List.perm_middle)
/-- a property that is a def -/
structure PropOK (K : Frag) (C : Addr) (name : Str) (fa : Addr) : Prop where
  hg : plainGet K C name = true
  hh : isClsIn K C = true
  ex : ∃ p rest, findIn K (.ref C) name = some (some (.ref p)) ∧ specialIn K (.ref p) "__get__" = some (some (.builtin "property.__get__")) ∧ takesIn K (.ref p) = some true ∧ recIn K p "property" = some (.ref fa :: rest)
theorem KQ.p_elements_added (hK : IsK g) : PropOK g.K 476 "elements_added" 248 := by
  rw [hK]
  exact ⟨by k_is, by k_is, ⟨_, _, by k_is, by k_is, by k_is, by k_is⟩⟩
theorem PE.prop {C xa dx : Addr} {sl : Array (Option Value)} {od : Obj} {P : Value → Prop} (cx : Cx g f) (ok : PropOK g.K C attr fa) (ho : PE g f A vs news r e (· = .ref xa)) (h₁ : (xa, instS C dx sl) ∈ news) (h₂ : (dx, od) ∈ news)
    (hc : CL g f A.in1 vs news r fa [.ref xa] (still news r P)) (hh : ∀ v, P v → handedIn v = true)
    (he : eval (.Attribute e attr pos) f.env = (do let o ← eval e f.env; standAt pos.atName; let r ← holding [o] (getAttr o attr true); letTemporaryGo e o r; pure r) := by rfl) :
    PE g f A vs news r (.Attribute e attr pos) P :=
  fun _ _ _ hs k => Attribute_any_ (ho _ _ _ hs fun _ s₁ q hs₁ => by
    subst q
    obtain ⟨p, rest, a1, a2, a3, a4⟩ := ok.ex
    refine get_bind (cx.X.keeps hs₁.F.keep) (.of_news hs₁.N h₁ h₂) (plainGet_of ok.hg).1 (findObj_data ok.hh a1 a2 a3) (plainGet_of ok.hg).2 (wpAny_call (prop_get (s := { s₁ with toks := s₁.toks + 1 }) (cx.X.keeps hs₁.F.keep) a4 ?_))
    refine hc _ _ hs₁.tok fun v n' r' s' ⟨p, e1, e2⟩ hs' => ?_
    subst e1 e2
    exact handed_on (hh v p) (k v s' p hs')) he
theorem elements_added_get (hK : IsK g) (cx : Cx g f) (rm : Rm f A 1) (hq : QFm news ad T) : CL g f A vs news r 248 [.ref ad.x] (still news r (isI T.added)) := by
  refine' CL.enter (d := 0) cx rm ["self"] [] ?ho ?hcd ?hb ?hl ?hok ?_
  case ho => refine IsK.look hK ?_; k_is
  case hcd => refine IsK.code hK ?_; k_is
  case hb => exact rfl
  case hl => exact rfl
  case hok => decide +kernel
  clear cx rm
  intro f' A' s' B hs
  have cx := B.cx
  have rm := B.rm
  have n0 := B.at (i := 0) rfl
  clear B
  exact X.fin hs (Me.aAdded ⟨cx, hK, hq, 0, n0, rfl⟩)
theorem Me.pAdded (m : Me g f vs news ad T x) (rm : Rm f A 2) (hd : (x == ("__debug__" : Str)) = false := by decide) : PE g f A vs news r (.Attribute (.Name x xp) "elements_added" pos) (isI T.added) := by
  obtain ⟨sl, ne, h1, h2⟩ := m.dx
  exact PE.prop m.cx (KQ.p_elements_added m.hK) (m.self hd) h1 h2 (elements_added_get m.hK m.cx rm.in1 m.hq) (fun v ⟨t, e⟩ => by rw [e]; rfl)
end
end Mine
end

section
set_option maxRecDepth 100000
open PySem PySem.W PyProof.Rows PySem.Calls
set_option maxHeartbeats 8000000
namespace Mine
theorem dummyFill16 : (hd.heap_39 = hd.heap_39) ∧ (PySem.Challenge.rw_sv0018_01 = PySem.Challenge.rw_sv0018_01) := by
  k_fill
  exact ⟨rfl, rfl⟩
theorem NA.get : ∀ {its : List Value} {hs : List Nat} {j : Nat} {v : Value}, NA its hs → its[j]? = some v → ∃ h, hs[j]? = some h ∧ isI h v
  | v :: vs, n :: ns, 0, u, h, e => by simp at e; subst e; exact ⟨n, rfl, h.1⟩
  | v :: vs, n :: ns, j + 1, u, h, e => by
    simp only [List.getElem?_cons_succ] at e ⊢
    exact NA.get h.2 e
  | [], _, j, _, _, e => by simp at e
  | _ :: _, [], _, _, h, _ => h.elim
theorem QS.foldQ_snoc {F : QS → Nat → Option QS} : ∀ {l : List Nat} {h : Nat} {S : QS}, QS.foldQ F (l ++ [h]) S = (QS.foldQ F l S).bind fun T => F T h
  | [], h, S => by
    simp only [List.nil_append, QS.foldQ, Option.bind_some]
    cases F S h <;> rfl
  | a :: l, h, S => by
    simp only [List.cons_append, QS.foldQ]
    cases F S a with
    | none => rfl
    | some T => exact QS.foldQ_snoc
theorem QS.foldQ_take {F : QS → Nat → Option QS} {l : List Nat} {S T : QS} (h : QS.foldQ F l S = some T) (j : Nat) : ∃ U, QS.foldQ F (l.take j) S = some U ∧ QS.foldQ F (l.drop j) U = some T := by
  induction l generalizing S j with
  | nil => simp only [List.take_nil, List.drop_nil]; exact ⟨S, rfl, h⟩
  | cons a l ih =>
    cases j with
    | zero => exact ⟨S, rfl, h⟩
    | succ j =>
      simp only [QS.foldQ] at h
      obtain ⟨U, hU, h⟩ := Option.bind_eq_some_iff.mp h
      obtain ⟨V, h1, h2⟩ := ih h j
      refine ⟨V, ?_, h2⟩
      simp only [List.take_succ_cons, QS.foldQ, hU]
      exact h1
theorem QS.hLoop_len {T : QS} : ∀ {k i cur : Nat} {queue hs : List Nat}, T.hLoop k i cur queue = some hs → hs.length ≤ k
  | 0, _, _, _, _, h => by cases h; exact Nat.le_refl _
  | k + 1, i, cur, queue, hs, h => by
    rw [QS.hLoop_succ] at h
    obtain ⟨⟨b, c, q⟩, _, h⟩ := Option.bind_eq_some_iff.mp h
    cases b with
    | true =>
      obtain ⟨l, hl, rfl⟩ := Option.map_eq_some_iff.mp h
      have := QS.hLoop_len hl
      rw [List.length_cons]; omega
    | false => have := QS.hLoop_len (show T.hLoop k (i + 1) c q = some hs from h); omega
section
variable {g : Gl} {f fg : Fm} {A : Around} {vs : List (Option Value)} {R l m news : Ledger} {r r' : Rs} {s s' : Shared} {fa : Addr} {S T : QS} {ad : QA} {hl : List Nat}
variable {e test o r₁ : Expr} {pos xp : Pos} {rest : List Stmt} {Q : Flow → Shared → Prop} {E : Value → Shared → Prop} {its : Array Value} {ep : Nat} {la : Addr} {x attr : Str} {a b : Int} {t t1 : Tok}
theorem PE.mulL (h₁ : PE g f A vs news r e (isI a)) (h₂ : PE g f A vs news r r₁ (isI b)) (hb : Builtin.Int.intBits a ≤ 64) : PE g f A vs news r (.BinOp e .Mult r₁ pos) (isI (a * b)) :=
  fun _ _ _ hs k => wpAny_BinOp (h₁ _ _ _ hs fun _ _ ⟨_, e₁⟩ s₁ => h₂ _ _ _ s₁ fun _ _ ⟨_, e₂⟩ s₂ => by subst e₁ e₂; exact PyProof.Rows.mul_int (k _ _ ⟨_, rfl⟩ s₂.tok) (IntMulOk.of_left hb))
theorem PT.isNoneT (h₁ : PE g f A vs news r e (· = .none)) (h₂ : PE g f A vs news r r₁ (· = .none)) (hm : behindInMarks .Is r₁ = false := by with_unfolding_all rfl) : PT g f A vs news r (.Compare e [.Is] [r₁] pos) true :=
  PT.cmp h₁ h₂ (fun _ _ _ _ _ e₁ e₂ q => by subst e₁ e₂; exact wpAny_is_self rfl q) hm
/-- the filter now, its parts perhaps new -/
def NowX (ad : QA) (T : QS) (R : Ledger) (r : Rs) (v : Value) (n' : Ledger) (r' : Rs) : Prop := v = .none ∧ Gn r r' ∧ ∃ l' ad', ad'.x = ad.x ∧ n' = l' ++ R ∧ QFm l' ad' T

def AddOK (g : Gl) (d : Nat) : Prop := ∀ (f : Fm) (A : Around) (vs : List (Option Value)) (l R : Ledger) (r : Rs) (ad : QA) (S T : QS) (h : Nat) (t : Tok), Cx g f → Rm f A (20 + 4 * d) → QFm l ad S → QS.addAlt d S h = some T → CL g f A vs (l ++ R) r 296 [.ref ad.x, .int h t] (NowX ad T R r)
def ResOK (g : Gl) (d : Nat) : Prop := ∀ (f : Fm) (A : Around) (vs : List (Option Value)) (l R : Ledger) (r : Rs) (ad : QA) (S T : QS) (q : Nat) (qv : Value) (args : List Value), Cx g f → Rm f A (20 + 4 * d) → QFm l ad S → QS.resize d S q = some T →
  ((args = [.ref ad.x] ∧ qv = .none ∧ q = S.q + 1) ∨ ((∃ t, qv = .int q t) ∧ args = [.ref ad.x, qv])) → CL g f A vs (l ++ R) r 346 args (NowX ad T R r)

theorem addHere_walk (hK : IsK g) (d : Nat) (IH : ResOK g d) : AddOK g (d + 1) := by
  intro f A vs l R r ad S T h t1 cx rm hq he
  replace rm := rm.less (d' := 23 + 4 * d + 1) (by omega)
  refine' CL.enter (d := (23+4*d)) cx rm ["self", "_hash"] ["key_quotient", "key_remainder"] ?ho ?hcd ?hb ?hl ?hok ?_
  case ho => refine IsK.look hK ?_; k_is
  case hcd => refine IsK.code hK ?_; k_is
  case hb => exact rfl
  case hl => exact rfl
  case hok => decide +kernel
  clear cx rm
  intro f' A' s' B hs
  have cx := B.cx
  have rm := B.rm
  have n0 := B.at (i := 0) rfl
  have n1 := B.at (i := 1) rfl
  have n2 := B.at (i := 2) rfl
  have n3 := B.at (i := 3) rfl
  clear B
  simp only [QS.addAlt] at he
  refine X.ifJ (c := S.grows) (fun s => ∃ (l' : Ledger) (ad' : QA) (U : QS) (r' : Rs), ad'.x = ad.x ∧ QFm l' ad' U ∧ Gn r r' ∧ U.addHere h = some T ∧ St f' [some (.ref ad.x), some (.int h t1), none, none] (l' ++ R) r' s) hs
    (PT.toB (PT.and2 (PT.val (Me.aAuto (Mu.me ⟨cx, hK, hq, 0, n0, rfl⟩)) (fun _ => rfl)) (fun _ => PT.ge (PE.mulL PE.cInt (Me.aAdded (Mu.me ⟨cx, hK, hq, 0, n0, rfl⟩)) (by decide)) (PE.mulL PE.cInt (Me.aSize (Mu.me ⟨cx, hK, hq, 0, n0, rfl⟩)) (by decide)))) (by unfold QS.grows; congr 1; simp; omega)) ?_ ?_ ?_
  · intro q s₁ hs
    rw [if_pos q] at he
    obtain ⟨U, hU, he⟩ := Option.bind_eq_some_iff.mp he
    refine X.expr cx hs (Me.meth0 (Mu.me ⟨cx, hK, hq, 0, n0, rfl⟩) (KQ.mresize hK) (IH f' A' _ l R r ad S U _ .none _ cx (rm.less (by omega)) hq hU (.inl ⟨rfl, rfl, rfl⟩))) (fun v n' r' h a => by rw [h.1]; exact fun z => nomatch z) ?_
    rintro _ _ r' s₁ ⟨rfl, hgn, l', ad', hx, rfl, hq'⟩ hs
    exact X.nil (g := g) hs ⟨rfl, l', ad', U, r', hx, hq', hgn, he, hs⟩
  · intro q s₁ hs
    rw [if_neg (by rw [q]; decide)] at he
    exact X.nil (g := g) hs ⟨rfl, l, ad, S, r, rfl, hq, Gn.refl r, he, hs⟩
  rintro s₁ ⟨l, ad', U, r', hx, hq, hgn, he, hs⟩
  rw [← hx] at hs
  rw [show NowX ad T R r = NowX ad' T R r by unfold NowX; rw [hx]]
  unfold QS.addHere at he
  split at he
  · cases he
  rename_i hlt
  have hlt : h < 2 ^ 32 := Nat.lt_of_not_le hlt
  obtain ⟨res, hres, he⟩ := Option.bind_eq_some_iff.mp he
  refine X.assign cx hs n2 rfl (Me.quot (Mu.me ⟨cx, hK, hq, 0, n0, rfl⟩) (PE.nameI cx n1 rfl)) ?_
  rintro _ s₁ ⟨t2, rfl⟩ hs
  refine X.assign cx hs n3 rfl (Me.rmd (Mu.me ⟨cx, hK, hq, 0, n0, rfl⟩) (PE.nameI cx n1 rfl)) ?_
  rintro _ s₁ ⟨t3, rfl⟩ hs
  refine X.if hs (PT.eq (PE.of (Me.meth2 (Mu.me ⟨cx, hK, hq, 0, n0, rfl⟩) (KQ.m_contained_at_loc hK) (PE.nameI cx n2 rfl) (PE.nameI cx n3 rfl) (fun v u ⟨t, e⟩ ⟨t', e'⟩ => by rw [e, e']; exact contained hK cx (rm.less (by omega)) hq.app (hq.quot_lt hlt) hres))) (PE.neg PE.cInt)) ?_ ?_
  · intro c s₁ hs
    cases res with
    | some i => exfalso; have := eq_of_beq c; simp only [oi] at this; omega
    | none =>
      refine X.expr cx hs (Me.meth2 (Mu.me ⟨cx, hK, hq, 0, n0, rfl⟩) (KQ.m_add hK) (PE.nameI cx n2 rfl) (PE.nameI cx n3 rfl) (P := Now ad' T R r' (· = .none)) (fun v u ⟨t, e⟩ ⟨t', e'⟩ => by rw [e, e']; exact add_ hK cx (rm.less (by omega)) hq (hq.quot_lt hlt) he)) (fun v n' r' h a => by rw [h.1]; exact fun z => nomatch z) ?_
      rintro _ _ _ s₁ ⟨rfl, rfl, l, rfl, hq⟩ hs
      exact X.nil (g := g) hs (X.nil (g := g) hs ⟨_, _, _, ⟨rfl, hgn, l, ad', rfl, rfl, hq⟩, hs⟩)
  · intro c s₁ hs
    cases res with
    | none => exact absurd c (by decide)
    | some i =>
      cases he
      exact X.nil (g := g) hs (X.nil (g := g) hs ⟨_, _, _, ⟨rfl, hgn, l, ad', rfl, rfl, hq⟩, hs⟩)
end
end Mine
end

section
set_option maxRecDepth 100000
open PySem PySem.W PyProof.Rows PySem.Calls
set_option maxHeartbeats 8000000
namespace Mine
theorem dummyFill17 : (hd.heap_39 = hd.heap_39) ∧ (PySem.Challenge.rw_sv0018_01 = PySem.Challenge.rw_sv0018_01) := by
  k_fill
  exact ⟨rfl, rfl⟩
section
variable {g : Gl} {f fg : Fm} {A : Around} {vs : List (Option Value)} {R l m news : Ledger} {r r' : Rs} {s s' : Shared} {fa : Addr} {S T : QS} {ad : QA} {hl : List Nat}
theorem resize_walk (hK : IsK g) (d : Nat) (IH : AddOK g d) : ResOK g (d + 1) := by
  intro f A vs l R r ad S T q qv args cx rm hq he hargs
  replace rm := rm.less (d' := 23 + 4 * d + 1) (by omega)
  refine' CL.enterD (d := 23 + 4 * d) (binds := [("self", .ref ad.x), ("quotient", qv)]) cx rm ["self", "quotient"] ["hashes", "i", "_h"] [Value.ref ad.x, qv] ?ho ?hcd ?hb ?hbv ?hl ?hok ?_
  case ho => refine IsK.look hK ?_; k_is
  case hcd => refine IsK.code hK ?_; k_is
  case hb =>
    rcases hargs with ⟨rfl, rfl, _⟩ | ⟨_, rfl⟩
    · exact fun s X => binds_K X rfl (IsK.look hK (by k_is)) rfl rfl rfl
    · exact fun s X => binds_K X rfl (IsK.look hK (by k_is)) rfl rfl rfl
  case hbv => exact rfl
  case hl => exact rfl
  case hok => decide +kernel
  clear cx rm
  intro f' A' s' B hs
  have cx := B.cx
  have rm := B.rm
  have n0 := B.at (i := 0) rfl
  have n1 := B.at (i := 1) rfl
  have n2 := B.at (i := 2) rfl
  have n3 := B.at (i := 3) rfl
  have n4 := B.at (i := 4) rfl
  have kr := B.glob (x := "range") rfl
  clear B
  replace hs : St f' [some (.ref ad.x), some qv, none, none, none] (l ++ R) r s' := hs
  simp only [QS.resize] at he
  split at he
  · cases he
  rename_i hcond
  simp only [Bool.or_eq_true, decide_eq_true_eq, not_or] at hcond
  obtain ⟨hl0, hh, he⟩ := Option.bind_eq_some_iff.mp he
  have hlen : hl0.length ≤ 2000000 := by
    unfold QS.hashes at hh
    obtain ⟨st, _, hh⟩ := Option.bind_eq_some_iff.mp hh
    have := QS.hLoop_len hh
    have := hq.small
    omega
  have key : ∀ (tq : Tok) (s' : Shared), St f' [some (.ref ad.x), some (.int q tq), none, none, none] (l ++ R) r s' → True := fun _ _ _ => trivial
  refine X.ifJ (c := decide (qv = .none)) (fun s => ∃ tq, St f' [some (.ref ad.x), some (.int q tq), none, none, none] (l ++ R) r s) hs ?_ ?_ ?_ ?_
  · rcases hargs with ⟨_, rfl, _⟩ | ⟨⟨t, rfl⟩, _⟩
    · exact PT.isNoneT (PE.nameV cx n1 rfl) PE.cNone
    · exact PT.isNoneF (PE.nameV cx n1 rfl) PE.cNone (by intro h; cases h)
  · intro c s₁ hs
    have c : qv = .none := of_decide_eq_true c
    rcases hargs with ⟨_, rfl, rfl⟩ | ⟨⟨t, rfl⟩, _⟩
    · refine X.assign cx hs n1 rfl (PE.toI (b := (S.q + 1 : Nat)) (PE.add (Me.aQ (Mu.me ⟨cx, hK, hq, 0, n0, rfl⟩)) PE.cInt) (by push_cast; rfl)) ?_
      rintro _ s₁ ⟨tq, rfl⟩ hs
      exact X.nil (g := g) hs ⟨rfl, tq, hs⟩
    · cases c
  · intro c s₁ hs
    have c : ¬ qv = .none := of_decide_eq_false c
    rcases hargs with ⟨_, rfl, rfl⟩ | ⟨⟨t, rfl⟩, _⟩
    · exact absurd rfl c
    · exact X.nil (g := g) hs ⟨rfl, t, hs⟩
  rintro s₁ ⟨tq, hs⟩
  have h10 : q ≤ 10 := by omega
  have h3 : 3 ≤ q := by omega
  have hadd : S.added < 2 ^ q := by omega
  refine X.ifF hs (PT.toB (PT.ge (Me.pAdded (Mu.me ⟨cx, hK, hq, 0, n0, rfl⟩) (rm.less (by omega))) (PE.toI (b := ((2 ^ q : Nat) : Int)) (PE.shl PE.cInt (PE.nameI cx n1 rfl) (by omega) (by omega) (by decide)) (by simp))) (by simp only [Int.ofNat_le]; exact decide_eq_false (by omega))) ?_
  intro s₁ hs
  refine X.ifF hs (PT.toB (PT.or2 (PT.lt (PE.nameI cx n1 rfl) PE.cInt) (fun _ => PT.gt (PE.nameI cx n1 rfl) PE.cInt)) (by simp; omega)) ?_
  intro s₁ hs
  refine X.assignV cx hs n2 rfl (Me.meth0 (Mu.me ⟨cx, hK, hq, 0, n0, rfl⟩) (KQ.mget_hashes hK) (get_hashes hK cx (rm.less (by omega)) hq.app hh hlen)) ?_
  rintro _ _ r₁ s₁ ⟨la, its, ep, m', rfl, hna, hgn, rfl⟩ hs
  have hs := St.swap (a := (la, listOf its.toArray ep) :: m') (b := l) (c := R) hs
  generalize hR : (((la, listOf its.toArray ep) :: m') ++ R) = R₁ at hs
  refine X.forRange (n := S.n) (d := 0) (fun j vs N r' => r' = r₁ ∧ ∃ l' U v3, N = l' ++ R₁ ∧ QFm l' ad U ∧ U.n = S.n ∧ U.q = S.q ∧ U.auto = S.auto ∧ U.hf = S.hf ∧ vs = [some (.ref ad.x), some (.int q tq), some (.ref la), v3, none]) cx (rm.less (by omega)) n3 ?_ hs ⟨rfl, l, S, none, rfl, hq, rfl, rfl, rfl, rfl, rfl⟩
    (EX.range1 cx kr (by rw [hK]; k_is) (Me.aSize (Mu.me ⟨cx, hK, hq, 0, n0, rfl⟩))) (by rw [rangeSize_one]; have := hq.pos; split <;> omega) (small_one (by omega) (by omega) (by omega) (by have := hq.small; omega)) ?_ ?_
  · rintro j vs N r' ⟨_, l', U, v3, _, _, _, _, _, _, rfl⟩
    exact ⟨v3, rfl⟩
  · rintro j t vs N Tl _ s hj ⟨rfl, l', U, v3, rfl, hq, hn, h1, h2, h3, rfl⟩ hs
    rw [List.append_assoc] at hs
    refine X.setFil (k := 0) (i := j) ⟨cx, hK, hq, 0, n0, rfl⟩ hs PE.cInt (PE.toI (PE.nameI cx n3 rfl) (by simp)) (by rw [hn]; exact hj) ?_
    intro l'' s' hq' hs'
    rw [← List.append_assoc] at hs'
    exact X.nil (g := g) hs' ⟨.inl rfl, _, l'' ++ R₁, _, ⟨rfl, l'', _, _, rfl, hq', hn, h1, h2, h3, rfl⟩, hs'⟩
  rintro Tl vs N r₁ s ⟨rfl, l', U, v3, rfl, hq', hn, h1, h2, h3', rfl⟩ hs
  rw [List.append_assoc] at hs
  obtain ⟨sl, hxm, hsl⟩ := hq'.self
  obtain ⟨ne, hdm⟩ := hq'.dx
  refine X.expr cx hs (EX.meth cx (KQ.m_QuotientFilter__set_params hK) (PE.nameV cx n0 rfl) (List.mem_append_left _ hxm) (List.mem_append_left _ hdm) rfl (AR.cons (PE.nameI cx n1 rfl) (AR.cons (Me.aAuto (x := "self") ⟨cx, hK, hq'.app, 0, n0, rfl⟩) (AR.cons (Me.aHf (x := "self") ⟨cx, hK, hq'.app, 0, n0, rfl⟩) AR.nil)))
    (P := fun v n' r' => v = .none ∧ r₁ = r' ∧ ∃ l'' fl o c s, n' = l'' ++ (R₁ ++ Tl) ∧ QFm l'' ⟨ad.x, ad.dx, fl, o, c, s⟩ (QS.fresh q U.auto U.hf)) ?_) (fun v n' r' h a => by rw [h.1]; exact fun z => nomatch z) ?_
  · rintro _ ⟨_, _, rfl, ⟨_, rfl⟩, _, _, rfl, rfl, _, _, rfl, rfl, rfl⟩
    exact set_params hK cx (rm.less (by omega)) hxm (Nat.le_of_eq hsl.sz) hdm h3 h10
  rintro _ _ _ s₁ ⟨rfl, rfl, l'', fl, o, c, sh, rfl, hq''⟩ hs
  rw [h2, h3'] at hq''
  have hmem : (la, listOf its.toArray ep) ∈ R₁ := by rw [← hR]; exact .head _
  refine X.forList (la := la) (its := its.toArray) (ep := ep) (d := 0) (fun j vs N r' => Gn r₁ r' ∧ ∃ l ad' U v3 v4, ad'.x = ad.x ∧ N = l ++ (R₁ ++ Tl) ∧ QFm l ad' U ∧ QS.foldQ (QS.addAlt d) (hl0.drop j) U = some T ∧ vs = [some (.ref ad.x), some (.int q tq), some (.ref la), v3, v4]) cx (rm.less (by omega)) n4 ?_ hs ⟨Gn.refl _, l'', _, _, v3, none, rfl, rfl, hq'', he, rfl⟩
    (fun Q E s hs k => (PE.nameV cx n2 rfl) Q E s hs fun v s' e hs' => k v _ _ s' ⟨rfl, e, [], rfl⟩ hs') ?_ ?_ ?_
  · rintro j vs N r' ⟨_, l, ad', U, v3, v4, _, _, _, _, rfl⟩
    exact ⟨v4, rfl⟩
  · rintro j vs N r' ⟨_, l, ad', U, v3, v4, _, rfl, _, _, rfl⟩
    exact List.mem_append_right _ (List.mem_append_left _ hmem)
  · rintro j v vs N Tl' r' s hv ⟨hgn', l, ad', V, v3, v4, hx, rfl, hq, hf, rfl⟩ hs
    rw [List.getElem?_toArray] at hv
    obtain ⟨h, hj, t, rfl⟩ := hna.get hv
    have hdr : hl0.drop j = h :: hl0.drop (j + 1) := by
      obtain ⟨hlt, e⟩ := List.getElem?_eq_some_iff.mp hj
      rw [List.drop_eq_getElem_cons hlt, e]
    rw [hdr] at hf
    obtain ⟨V', hV, hf⟩ := Option.bind_eq_some_iff.mp hf
    rw [← hx] at hs
    rw [List.append_assoc] at hs
    refine X.expr cx hs (Me.meth1 (ad := ad') (S := V) (x := "self") ⟨cx, hK, hq.app, 0, n0, rfl⟩ (KQ.madd_alt hK) (PE.nameV cx n4 rfl) (P := NowX ad' V' (R₁ ++ Tl ++ Tl') r') (fun v e => by rw [e]; exact IH f' A' _ l _ _ ad' V V' h t cx (rm.less (by omega)) hq hV)) (fun v n' r' h a => by rw [h.1]; exact fun z => nomatch z) ?_
    rintro _ _ r'' s₁ ⟨rfl, hgn'', l, ad'', hx', rfl, hq⟩ hs
    rw [hx] at hs
    rw [← List.append_assoc] at hs
    exact X.nil (g := g) hs ⟨.inl rfl, _, l ++ (R₁ ++ Tl), r'', ⟨hgn'.trans hgn'', l, ad'', V', _, _, hx'.trans hx, rfl, hq, hf, rfl⟩, hs⟩
  · rintro Tl' vs N r' s ⟨hgn', l, ad', V, v3, v4, hx, rfl, hq, hf, rfl⟩ hs
    have hnil : hl0.drop its.toArray.size = [] := by rw [hna.size]; exact List.drop_length
    rw [hnil] at hf
    cases hf
    have e1 : l ++ (R₁ ++ Tl) ++ Tl' = (l ++ ((la, listOf its.toArray ep) :: m')) ++ (R ++ (Tl ++ Tl')) := by rw [← hR]; simp
    rw [e1] at hs
    have hs := hs.perm (List.perm_append_comm.append_left _)
    rw [← List.append_assoc] at hs
    exact X.nil (g := g) hs ⟨_, _, _, ⟨rfl, hgn.trans hgn', _, ad', hx, rfl, hq.mono fun p hp => by simp [hp]⟩, hs⟩
theorem all_walk (hK : IsK g) : ∀ d, AddOK g d ∧ ResOK g d
  | 0 => ⟨fun _ _ _ _ _ _ _ _ _ _ _ _ _ _ he => (nomatch he), fun _ _ _ _ _ _ _ _ _ _ _ _ _ _ _ he => (nomatch he)⟩
  | d + 1 => ⟨addHere_walk hK d (all_walk hK d).2, resize_walk hK d (all_walk hK d).1⟩
end
end Mine
end

section
set_option maxRecDepth 100000
open PySem PySem.W PyProof.Rows PySem.Calls
set_option maxHeartbeats 8000000
namespace Mine
theorem dummyFill18 : (hd.heap_39 = hd.heap_39) ∧ (PySem.Challenge.rw_sv0018_01 = PySem.Challenge.rw_sv0018_01) := by
  k_fill
  exact ⟨rfl, rfl⟩
/-- what _law_code gives -/
def lawCode (a : Nat) : Nat := a % 8 * 536870912 + a / 8 * 134217728 + a % 3
section
variable {g : Gl} {f fg : Fm} {A : Around} {vs : List (Option Value)} {R l m news : Ledger} {r r' : Rs} {s s' : Shared} {fa C xa dx : Addr} {S T : QS} {ad : QA} {hl : List Nat}
variable {e test o r₁ ix ea : Expr} {args : List Expr} {pos xp apos : Pos} {rest : List Stmt} {Q : Flow → Shared → Prop} {E : Value → Shared → Prop} {its : Array Value} {ep i : Nat} {la : Addr} {x attr : Str} {a b : Int} {t t1 t2 : Tok} {sl : Array (Option Value)} {od : Obj} {P : Value → Ledger → Rs → Prop} {PA : List Value → Prop}
theorem PE.mulR (h₁ : PE g f A vs news r e (isI a)) (h₂ : PE g f A vs news r r₁ (isI b)) (hb : Builtin.Int.intBits b ≤ 64) : PE g f A vs news r (.BinOp e .Mult r₁ pos) (isI (a * b)) :=
  fun _ _ _ hs k => wpAny_BinOp (h₁ _ _ _ hs fun _ _ ⟨_, e₁⟩ s₁ => h₂ _ _ _ s₁ fun _ _ ⟨_, e₂⟩ s₂ => by subst e₁ e₂; exact PyProof.Rows.mul_int (k _ _ ⟨_, rfl⟩ s₂.tok) (IntMulOk.of_right hb))
theorem natMod (a b : Nat) : (a : Int).fmod b = ((a % b : Nat) : Int) := by rw [Int.fmod_eq_emod_of_nonneg _ (by omega), Int.natCast_emod]
theorem natDiv (a b : Nat) : (a : Int).fdiv b = ((a / b : Nat) : Int) := by rw [Int.fdiv_eq_ediv_of_nonneg _ (by omega), Int.natCast_ediv]
/-- n % c and n // c, c a small literal -/
theorem PE.modN {n c k : Nat} {p1 : Pos} (h : PE g f A vs news r e (isI n)) (hc : c ≠ 0) : PE g f A vs news r (.BinOp e .Mod (.Constant (.int c) k p1) pos) (isI (n % c : Nat)) :=
  PE.toI (PE.mod h PE.cInt (by omega)) (natMod n c)
theorem PE.divN {n c k : Nat} {p1 : Pos} (h : PE g f A vs news r e (isI n)) (hc : c ≠ 0) (hp : Builtin.divisionGoesByPylong n c = false) : PE g f A vs news r (.BinOp e .FloorDiv (.Constant (.int c) k p1) pos) (isI (n / c : Nat)) :=
  PE.toI (PE.fdiv h PE.cInt (by omega) hp) (natDiv n c)
/-- a def of the program called by its name -/
theorem EX.fun (cx : Cx g f) (hk : f.env.kindOf x = some .globalImplicit) (hx : nsIn g.K mainGlobals x = some (some (.ref fa))) (hkeep : keepIn g.K (.ref fa) = true) (ha : AR g f A vs news r (ea :: args) PA) (hc : ∀ l, PA l → CL g f A vs news r fa l P)
    (he' : starEach (ea :: args) f.env = (false, eval ea f.env) :: starEach args f.env := by rfl) (hplain : (backTo pos (starEach args f.env)).any (·.1) = false := by rfl) (hd : (x == ("__debug__" : Str)) = false := by decide) :
    EX g f A vs news r (.Call (.Name x xp) (ea :: args) [] pos) P :=
  fun _ _ _ hs k => wpAny_Call_NameR (PE.nameG cx hk hx hd _ _ _ hs fun _ _ q hs₁ => by
    subst q
    exact callWith_K cx.X hkeep (ha _ _ _ _ hs₁ fun l s₂ p hs₂ => ⟨cx.X.keeps hs₂.F.keep, wpAny_call (hc l p _ _ hs₂ fun v n' r' s' p s₃ => k v n' r' s' p s₃)⟩) he' hplain)
/-- a slot's value called -/
theorem EX.slotCall (cx : Cx g f) (ok : SlotOK g.K C attr i) (ho : PE g f A vs news r o (· = .ref xa)) (h₁ : (xa, instS C dx sl) ∈ news) (h₂ : (dx, od) ∈ news) (hv : (sl[i]?).join = some (.ref fa)) (hkeep : keepIn g.K (.ref fa) = true)
    (ha : AR g f A vs news r (ea :: args) PA) (hc : ∀ l, PA l → CL g f A vs news r fa l P) (he : MShape o attr apos (ea :: args) pos f.env := by exact ⟨_, rfl⟩)
    (he' : starEach (ea :: args) f.env = (false, eval ea f.env) :: starEach args f.env := by rfl) (hplain : (backTo pos (starEach args f.env)).any (·.1) = false := by rfl) : EX g f A vs news r (.Call (.Attribute o attr apos) (ea :: args) [] pos) P :=
  fun _ _ _ hs k => by
    obtain ⟨pl, he⟩ := he
    refine MethodCall_ (pl := pl) (ho _ _ _ hs fun _ _ q s₁ => ?_) he
    subst q
    obtain ⟨p, a1, a2, a3, a4, a5, a6⟩ := ok.ex
    refine method_usual (cx.X.keeps s₁.F.keep) (.of_news s₁.N h₁ h₂) (plainGet_of ok.hg).1 (plainGet_of ok.hg).2 a1 (by show (typeIn g.K (.ref p)).any _ = true; rw [a6]; rfl) ?_
    refine get_slot s₁.F cx.X (.of_news s₁.N h₁ h₂) ok.hg ok.hc a1 a2 a3 a4 hv rfl ?_
    exact callWith_K cx.X hkeep (ha _ _ _ _ s₁.tok fun l s' p s₂ => ⟨cx.X.keeps s₂.F.keep, wpAny_call (hc l p _ _ s₂ fun v n' r' s' p s₃ => k v n' r' s' p s₃)⟩) he' hplain
/-- x[i] of a text -/
theorem PE.strItem {c : Nat} {y : Str} (ho : PE g f A vs news r o (fun v => ∃ t, v = .str y t)) (hi : PE g f A vs news r ix (isI a)) (hr : (decide (a < -(2 ^ 63 : Int)) || decide (a ≥ 2 ^ 63)) = false) (hc : (seqIndex? a y.length).bind (y.cps[·]?) = some c)
    (hsub : ∀ t t', subscripted ix false (.str y t) (.int a t') = operate [.str y t, .int a t'] (getItem (.str y t) (.int a t')) := by intros; rfl) : PE g f A vs news r (.Subscript o ix pos) (fun v => ∃ t, v = .str ⟨#[c]⟩ t) :=
  fun _ _ _ hs k => Subscript_ (ho _ _ _ hs fun _ _ ⟨t, q⟩ s₁ => hi _ _ _ s₁ fun iv _ ⟨t', p⟩ s₂ => by
    subst q p
    exact tail_any (typeIs_str _ _ _) F.slot_str_getitem.lookup (PySem.P.getItem_str hr hc (k _ _ ⟨_, rfl⟩ s₂.tok)) (hsub t t'))
theorem PE.ord {c : Nat} (cx : Cx g f) (hk : f.env.kindOf "ord" = some .globalImplicit) (hm : nsIn g.K mainGlobals "ord" = some none) (h : PE g f A vs news r e (fun v => ∃ t, v = .str ⟨#[c]⟩ t)) (he : starEach [e] f.env = [(false, eval e f.env)] := by rfl) :
    PE g f A vs news r (.Call (.Name "ord" xp) [e] [] pos) (isI c) :=
  PE.callB1 cx hk hm rfl (by decide) h (fun u Q E s ⟨t, p⟩ hs k => by
    subst p
    exact PySem.P.ord_of_char (k _ _ ⟨_, rfl⟩ hs.tok)) he
theorem law_code (hK : IsK g) (cx : Cx g f) (rm : Rm f A 1) {n : Nat} (hn : n < 24) : CL g f A vs news r 499 [.int n t] (still news r (isI (lawCode n))) := by
  refine' CL.enter (d := 0) cx rm ["at"] [] ?ho ?hcd ?hb ?hl ?hok ?_
  case ho => refine IsK.look hK ?_; k_is
  case hcd => refine IsK.code hK ?_; k_is
  case hb => exact rfl
  case hl => exact rfl
  case hok => decide +kernel
  clear cx rm
  intro f' A' s' B hs
  have cx := B.cx
  have rm := B.rm
  have n0 := B.at (i := 0) rfl
  clear B
  refine X.fin hs (PE.toI (PE.add (PE.add (PE.mulR (PE.modN (c := 8) (PE.nameI cx n0 rfl) (by decide)) PE.cInt (by decide)) (PE.mulR (PE.divN (c := 8) (PE.nameI cx n0 rfl) (by decide) (PyProof.noPylong_small (by decide))) PE.cInt (by decide))) (PE.modN (c := 3) (PE.nameI cx n0 rfl) (by decide))) ?_)
  unfold lawCode
  omega
theorem law_hash (hK : IsK g) (cx : Cx g f) (rm : Rm f A 2) {y : Str} {c : Nat} {v2 : Value} (hc : (seqIndex? 0 y.length).bind (y.cps[·]?) = some c) (h97 : 97 ≤ c) : CL g f A vs news r 506 [.str y t, v2] (still news r (isI (lawCode ((c - 97) % 24)))) := by
  refine' CL.enter (d := 1) cx rm ["key", "seed"] [] ?ho ?hcd ?hb ?hl ?hok ?_
  case ho => refine IsK.look hK ?_; k_is
  case hcd => refine IsK.code hK ?_; k_is
  case hb => exact rfl
  case hl => exact rfl
  case hok => decide +kernel
  clear cx rm
  intro f' A' s' B hs
  have cx := B.cx
  have rm := B.rm
  have n0 := B.at (i := 0) rfl
  have n1 := B.at (i := 1) rfl
  have kl := B.glob (x := "_law_code") rfl
  have ko := B.glob (x := "ord") rfl
  clear B
  refine X.fin hs (PE.of (EX.fun (PA := fun l => ∃ t, l = [.int ((c - 97) % 24 : Nat) t]) cx kl (by rw [hK]; k_is) (by rw [hK]; k_is) ?_ ?_))
  · intro pos Q E s hs k
    refine (AR.cons (PE.modN (c := 24) (n := c - 97) (PE.toI (PE.sub (PE.ord cx ko (by rw [hK]; k_is) (PE.strItem (PE.name cx n0 rfl ⟨_, rfl⟩) PE.cInt (by decide) hc)) PE.cInt) (by omega)) (by decide)) AR.nil) pos Q E s hs ?_
    rintro _ s' ⟨_, _, rfl, ⟨t, rfl⟩, rfl⟩ hs
    exact k _ s' ⟨t, rfl⟩ hs
  · rintro _ ⟨t, rfl⟩
    exact law_code hK cx rm (Nat.mod_lt _ (by decide))
theorem law_other (hK : IsK g) (cx : Cx g f) (rm : Rm f A 2) {y : Str} {c : Nat} {v2 : Value} (hc : (seqIndex? 0 y.length).bind (y.cps[·]?) = some c) (h97 : 96 ≤ c) : CL g f A vs news r 513 [.str y t, v2] (still news r (isI (lawCode ((c - 96) % 24)))) := by
  refine' CL.enter (d := 1) cx rm ["key", "seed"] [] ?ho ?hcd ?hb ?hl ?hok ?_
  case ho => refine IsK.look hK ?_; k_is
  case hcd => refine IsK.code hK ?_; k_is
  case hb => exact rfl
  case hl => exact rfl
  case hok => decide +kernel
  clear cx rm
  intro f' A' s' B hs
  have cx := B.cx
  have rm := B.rm
  have n0 := B.at (i := 0) rfl
  have n1 := B.at (i := 1) rfl
  have kl := B.glob (x := "_law_code") rfl
  have ko := B.glob (x := "ord") rfl
  clear B
  refine X.fin hs (PE.of (EX.fun (PA := fun l => ∃ t, l = [.int ((c - 96) % 24 : Nat) t]) cx kl (by rw [hK]; k_is) (by rw [hK]; k_is) ?_ ?_))
  · intro pos Q E s hs k
    refine (AR.cons (PE.modN (c := 24) (n := c - 96) (PE.toI (PE.sub (PE.ord cx ko (by rw [hK]; k_is) (PE.strItem (PE.name cx n0 rfl ⟨_, rfl⟩) PE.cInt (by decide) hc)) PE.cInt) (by omega)) (by decide)) AR.nil) pos Q E s hs ?_
    rintro _ s' ⟨_, _, rfl, ⟨t, rfl⟩, rfl⟩ hs
    exact k _ s' ⟨t, rfl⟩ hs
  · rintro _ ⟨t, rfl⟩
    exact law_code hK cx rm (Nat.mod_lt _ (by decide))
end
end Mine
end

section
set_option maxRecDepth 100000
open PySem PySem.W PyProof.Rows PySem.Calls
set_option maxHeartbeats 8000000
namespace Mine
theorem dummyFill19 : (hd.heap_39 = hd.heap_39) ∧ (PySem.Challenge.rw_sv0018_01 = PySem.Challenge.rw_sv0018_01) := by
  k_fill
  exact ⟨rfl, rfl⟩
section
variable {g : Gl} {f fg : Fm} {A : Around} {vs : List (Option Value)} {R l m news : Ledger} {r r' : Rs} {s s' : Shared} {fa C xa dx : Addr} {S T : QS} {ad ad2 : QA} {hl : List Nat}
variable {e test o r₁ ix ea key : Expr} {args : List Expr} {pos xp apos p1 p2 : Pos} {rest : List Stmt} {Q : Flow → Shared → Prop} {E : Value → Shared → Prop} {its : Array Value} {ep i k c : Nat} {la : Addr} {x attr y : Str} {a b : Int} {t t1 t2 : Tok} {sl : Array (Option Value)} {od : Obj} {P : Value → Ledger → Rs → Prop} {PA : List Value → Prop}
/-- y's first sign is c -/
def First (y : Str) (c : Nat) : Prop := (seqIndex? 0 y.length).bind (y.cps[·]?) = some c
theorem Me.hash (m : Me g f vs news ad S x) (h506 : S.hf = 506) (rm : Rm f A 2) (hkey : PE g f A vs news r key (fun v => ∃ t, v = .str y t)) (hc : First y c) (h97 : 97 ≤ c) (he : MShape (.Name x xp) "_hash_func" p1 [key, .Constant (.int 0) k p2] pos f.env := by exact ⟨_, rfl⟩)
    (he1 : starEach [key, .Constant (.int 0) k p2] f.env = (false, eval key f.env) :: starEach [.Constant (.int 0) k p2] f.env := by rfl) (hd : (x == ("__debug__" : Str)) = false := by decide) :
    PE g f A vs news r (.Call (.Attribute (.Name x xp) "_hash_func" p1) [key, .Constant (.int 0) k p2] [] pos) (isI (lawCode ((c - 97) % 24))) := by
  obtain ⟨sl, h1, hs⟩ := m.hq.self
  obtain ⟨ne, h2⟩ := m.hq.dx
  have hv := hs.hf
  rw [h506] at hv
  refine PE.of (EX.slotCall m.cx (KQ.s_hash_func m.hK) (m.self hd) h1 h2 hv (by rw [m.hK]; k_is) (AR.cons hkey (AR.cons PE.cInt AR.nil) he1) ?_ he he1 rfl)
  rintro _ ⟨_, _, rfl, ⟨t, rfl⟩, _, _, rfl, ⟨t', rfl⟩, rfl⟩
  exact law_hash m.hK m.cx rm hc h97
theorem Me.hashO (m : Me g f vs news ad S x) (h513 : S.hf = 513) (rm : Rm f A 2) (hkey : PE g f A vs news r key (fun v => ∃ t, v = .str y t)) (hc : First y c) (h97 : 96 ≤ c) (he : MShape (.Name x xp) "_hash_func" p1 [key, .Constant (.int 0) k p2] pos f.env := by exact ⟨_, rfl⟩)
    (he1 : starEach [key, .Constant (.int 0) k p2] f.env = (false, eval key f.env) :: starEach [.Constant (.int 0) k p2] f.env := by rfl) (hd : (x == ("__debug__" : Str)) = false := by decide) :
    PE g f A vs news r (.Call (.Attribute (.Name x xp) "_hash_func" p1) [key, .Constant (.int 0) k p2] [] pos) (isI (lawCode ((c - 96) % 24))) := by
  obtain ⟨sl, h1, hs⟩ := m.hq.self
  obtain ⟨ne, h2⟩ := m.hq.dx
  have hv := hs.hf
  rw [h513] at hv
  refine PE.of (EX.slotCall m.cx (KQ.s_hash_func m.hK) (m.self hd) h1 h2 hv (by rw [m.hK]; k_is) (AR.cons hkey (AR.cons PE.cInt AR.nil) he1) ?_ he he1 rfl)
  rintro _ ⟨_, _, rfl, ⟨t, rfl⟩, _, _, rfl, ⟨t', rfl⟩, rfl⟩
  exact law_other m.hK m.cx rm hc h97
theorem add_walk (hK : IsK g) {d : Nat} (cx : Cx g f) (rm : Rm f A (22 + 4 * d)) (hq : QFm l ad S) (hf : S.hf = 506) (hc : First y c) (h97 : 97 ≤ c) (he : QS.addAlt d S (lawCode ((c - 97) % 24)) = some T) : CL g f A vs (l ++ R) r 289 [.ref ad.x, .str y t] (NowX ad T R r) := by
  replace rm := rm.less (d' := 21 + 4 * d + 1) (by omega)
  refine' CL.enter (d := (21+4*d)) cx rm ["self", "key"] ["_hash"] ?ho ?hcd ?hb ?hl ?hok ?_
  case ho => refine IsK.look hK ?_; k_is
  case hcd => refine IsK.code hK ?_; k_is
  case hb => exact rfl
  case hl => exact rfl
  case hok => decide +kernel
  clear cx rm
  intro f' A' s' B hs
  have cx := B.cx
  have rm := B.rm
  have n0 := B.at (i := 0) rfl
  have n1 := B.at (i := 1) rfl
  have n2 := B.at (i := 2) rfl
  clear B
  refine X.assign cx hs n2 rfl (Me.hash (Mu.me ⟨cx, hK, hq, 0, n0, rfl⟩) hf (rm.less (by omega)) (PE.name cx n1 rfl ⟨_, rfl⟩) hc h97) ?_
  rintro _ s₁ ⟨t2, rfl⟩ hs
  refine X.expr cx hs (Me.meth1 (Mu.me ⟨cx, hK, hq, 0, n0, rfl⟩) (KQ.madd_alt hK) (PE.nameV cx n2 rfl) (P := NowX ad T R r) (fun v e => by rw [e]; exact (all_walk hK d).1 f' A' _ l R r ad S T _ _ cx (rm.less (by omega)) hq he)) (fun v n' r' h a => by rw [h.1]; exact fun z => nomatch z) ?_
  rintro _ _ r' s₁ ⟨rfl, h⟩ hs
  exact X.nil (g := g) hs ⟨_, _, _, ⟨rfl, h⟩, hs⟩
theorem remove_walk (hK : IsK g) (cx : Cx g f) (rm : Rm f A 12) (hq : QFm l ad S) (hf : S.hf = 506) (hc : First y c) (h97 : 97 ≤ c) (hlt : lawCode ((c - 97) % 24) < 2 ^ 32) (he : QS.removeAlt S (lawCode ((c - 97) % 24)) = some T) : CL g f A vs (l ++ R) r 303 [.ref ad.x, .str y t] (Now ad T R r (· = .none)) := by
  refine' CL.enter (d := 11) cx rm ["self", "key"] ["_hash"] ?ho ?hcd ?hb ?hl ?hok ?_
  case ho => refine IsK.look hK ?_; k_is
  case hcd => refine IsK.code hK ?_; k_is
  case hb => exact rfl
  case hl => exact rfl
  case hok => decide +kernel
  clear cx rm
  intro f' A' s' B hs
  have cx := B.cx
  have rm := B.rm
  have n0 := B.at (i := 0) rfl
  have n1 := B.at (i := 1) rfl
  have n2 := B.at (i := 2) rfl
  clear B
  refine X.assign cx hs n2 rfl (Me.hash (Mu.me ⟨cx, hK, hq, 0, n0, rfl⟩) hf (rm.less (by omega)) (PE.name cx n1 rfl ⟨_, rfl⟩) hc h97) ?_
  rintro _ s₁ ⟨t2, rfl⟩ hs
  refine X.expr cx hs (Me.meth1 (Mu.me ⟨cx, hK, hq, 0, n0, rfl⟩) (KQ.mremove_alt hK) (PE.nameV cx n2 rfl) (P := Now ad T R r (· = .none)) (fun v e => by rw [e]; exact remove_alt hK cx (rm.less (by omega)) hq hlt he)) (fun v n' r' h a => by rw [h.1]; exact fun z => nomatch z) ?_
  rintro _ _ r' s₁ ⟨rfl, h⟩ hs
  exact X.nil (g := g) hs ⟨_, _, _, ⟨rfl, h⟩, hs⟩
theorem check_walk (hK : IsK g) (cx : Cx g f) (rm : Rm f A 12) (hq : QFm news ad S) (hf : S.hf = 506) (hc : First y c) (h97 : 97 ≤ c) (hlt : lawCode ((c - 97) % 24) < 2 ^ 32) {b : Bool} (he : QS.checkAlt S (lawCode ((c - 97) % 24)) = some b) : CL g f A vs news r 317 [.ref ad.x, .str y t] (still news r (isB b)) := by
  refine' CL.enter (d := 11) cx rm ["self", "key"] ["_hash"] ?ho ?hcd ?hb ?hl ?hok ?_
  case ho => refine IsK.look hK ?_; k_is
  case hcd => refine IsK.code hK ?_; k_is
  case hb => exact rfl
  case hl => exact rfl
  case hok => decide +kernel
  clear cx rm
  intro f' A' s' B hs
  have cx := B.cx
  have rm := B.rm
  have n0 := B.at (i := 0) rfl
  have n1 := B.at (i := 1) rfl
  have n2 := B.at (i := 2) rfl
  clear B
  refine X.assign cx hs n2 rfl (Me.hash ⟨cx, hK, hq, 0, n0, rfl⟩ hf (rm.less (by omega)) (PE.name cx n1 rfl ⟨_, rfl⟩) hc h97) ?_
  rintro _ s₁ ⟨t2, rfl⟩ hs
  exact X.fin hs (PE.of (Me.meth1 ⟨cx, hK, hq, 0, n0, rfl⟩ (KQ.mcheck_alt hK) (PE.nameV cx n2 rfl) (P := still news r (isB b)) (fun v e => by rw [e]; exact check_alt hK cx (rm.less (by omega)) hq hlt he)))
theorem contains_walk (hK : IsK g) (cx : Cx g f) (rm : Rm f A 13) (hq : QFm news ad S) (hf : S.hf = 506) (hc : First y c) (h97 : 97 ≤ c) (hlt : lawCode ((c - 97) % 24) < 2 ^ 32) {b : Bool} (he : QS.checkAlt S (lawCode ((c - 97) % 24)) = some b) : CL g f A vs news r 217 [.ref ad.x, .str y t] (still news r (isB b)) := by
  refine' CL.enter (d := 12) cx rm ["self", "val"] [] ?ho ?hcd ?hb ?hl ?hok ?_
  case ho => refine IsK.look hK ?_; k_is
  case hcd => refine IsK.code hK ?_; k_is
  case hb => exact rfl
  case hl => exact rfl
  case hok => decide +kernel
  clear cx rm
  intro f' A' s' B hs
  have cx := B.cx
  have rm := B.rm
  have n0 := B.at (i := 0) rfl
  have n1 := B.at (i := 1) rfl
  clear B
  exact X.fin hs (PE.of (Me.meth1 ⟨cx, hK, hq, 0, n0, rfl⟩ (KQ.mcheck hK) (PE.nameV cx n1 rfl) (P := still news r (isB b)) (fun v e => by rw [e]; exact check_walk hK cx (rm.less (by omega)) hq hf hc h97 hlt he)))
end
end Mine
end

section
set_option maxRecDepth 100000
open PySem PySem.W PyProof.Rows PySem.Calls
set_option maxHeartbeats 8000000
namespace Mine
theorem dummyFill20 : (hd.heap_39 = hd.heap_39) ∧ (PySem.Challenge.rw_sv0018_01 = PySem.Challenge.rw_sv0018_01) := by
  k_fill
  exact ⟨rfl, rfl⟩
section
variable {g : Gl} {f fg : Fm} {A : Around} {vs : List (Option Value)} {R l m news : Ledger} {r r' : Rs} {s s' : Shared} {fa C xa dx : Addr} {S S₂ T : QS} {ad ad2 : QA} {hl : List Nat}
theorem genAt_next {Lg ga gi d : Nat} {hs : List Nat} {m N : Ledger} {gs : GenState} {Q : Option Value → Shared → Prop} {E : Value → Shared → Prop} {h : Nat} {A : Around} (hG : GenAt g T ad Lg ga gi (h :: hs) m gs) (cx : Cx g f) (rm : Rm f A 10) (hq : QFm N ad T) (hlt : f.L < Lg) (hgs : r.gens[gi]? = some gs) (hst : St f vs (N ++ m) r s)
    (k : ∀ m' gs' r' s' t, GenAt g T ad Lg ga gi hs m' gs' → Gx gi r r' → r'.gens[gi]? = some gs' → St f vs (N ++ m') r' s' → Q (some (.int h t)) s') : wpAny g.M A (pyNext (.ref ga)) Q E s :=
  hG f A vs N r s Q E cx rm hq hlt hgs hst.toEnd fun m' gs' r' s' t h1 h2 h3 h4 => k m' gs' r' s' t h1 h2 h3 h4.toEnd
theorem genAt_end {Lg ga gi d : Nat} {m N : Ledger} {gs : GenState} {Q : Option Value → Shared → Prop} {E : Value → Shared → Prop} {A : Around} (hG : GenAt g T ad Lg ga gi [] m gs) (cx : Cx g f) (rm : Rm f A 10) (hq : QFm N ad T) (hlt : f.L < Lg) (hgs : r.gens[gi]? = some gs) (hst : St f vs (N ++ m) r s)
    (k : ∀ m' r' s', Gx gi r r' → St f vs (N ++ m') r' s' → Q none s') : wpAny g.M A (pyNext (.ref ga)) Q E s :=
  hG f A vs N r s Q E cx rm hq hlt hgs hst.toEnd fun m' r' s' h2 h4 => k m' r' s' h2 h4.toEnd
theorem merge_walk (hK : IsK g) {d : Nat} (cx : Cx g f) (rm : Rm f A (22 + 4 * d)) (hq : QFm l ad S) (hq₂ : QFm R ad2 S₂) (h1 : S.hf = 506) (h2 : S₂.hf = 506) (he : QS.merge d S S₂ = some T) : CL g f A vs (l ++ R) r 353 [.ref ad.x, .ref ad2.x] (NowX ad T R r) := by
  replace rm := rm.less (d' := 21 + 4 * d + 1) (by omega)
  refine' CL.enter (d := (21+4*d)) cx rm ["self", "second"] ["_h"] ?ho ?hcd ?hb ?hl ?hok ?_
  case ho => refine IsK.look hK ?_; k_is
  case hcd => refine IsK.code hK ?_; k_is
  case hb => exact rfl
  case hl => exact rfl
  case hok => decide +kernel
  clear cx rm
  intro f' A' s' B hs
  have cx := B.cx
  have rm := B.rm
  have n0 := B.at (i := 0) rfl
  have n1 := B.at (i := 1) rfl
  have n2 := B.at (i := 2) rfl
  clear B
  unfold QS.merge at he
  obtain ⟨hl, hh, he⟩ := Option.bind_eq_some_iff.mp he
  have hq2' : QFm (l ++ R) ad2 S₂ := hq₂.mono fun p hp => List.mem_append_right _ hp
  refine X.ifF hs (PT.toB (PT.ne (Me.hash (x := "self") (c := 116) (y := "test") ⟨cx, hK, hq.app, 0, n0, rfl⟩ h1 (rm.less (by omega)) PE.cStr (by with_unfolding_all rfl) (by decide)) (Me.hash (x := "second") (c := 116) (y := "test") ⟨cx, hK, hq2', 1, n1, rfl⟩ h2 (rm.less (by omega)) PE.cStr (by with_unfolding_all rfl) (by decide))) (by simp)) ?_
  intro s₁ hs
  refine X.for (PI := fun v n' r' => ∃ Lg ga oL go gs, v = .ref ga ∧ n' = [(Lg, oL), (ga, go)] ++ (l ++ R) ∧ Gn r r' ∧ f'.L < Lg ∧ r'.gens[r.gens.size]? = some gs ∧ GenO go r.gens.size ∧ GenAt g S₂ ad2 Lg ga r.gens.size hl [(Lg, oL), (ga, go)] gs)
    hl.length (fun j v => ∃ h t, hl[j]? = some h ∧ v = .int h t) (fun j it t r' => ∃ Lg ga gs, it = .ref ga ∧ f'.L < Lg ∧ r'.gens[r.gens.size]? = some gs ∧ GenAt g S₂ ad2 Lg ga r.gens.size (hl.drop j) t gs)
    (fun j vs N r' => Gn r r' ∧ r.gens.size < r'.gens.size ∧ ∃ l ad' U v2, ad'.x = ad.x ∧ N = l ++ R ∧ QFm l ad' U ∧ QS.foldQ (QS.addAlt d) (hl.drop j) U = some T ∧ vs = [some (.ref ad.x), some (.ref ad2.x), v2]) cx n2 ?_ hs
    (Me.meth0 (x := "second") (ad := ad2) (S := S₂) ⟨cx, hK, hq2', 1, n1, rfl⟩ (KQ.mhashes hK) (hashes_ hK cx (rm.less (by omega)) hq2' hh)) ?_ ?_ ?_ ?_ ?_
  · rintro j vs N r' ⟨_, _, l, ad', U, v2, _, _, _, _, rfl⟩
    exact ⟨v2, rfl⟩
  · rintro _ _ r' s' ⟨Lg, ga, oL, go, gs, rfl, rfl, hgn, hlt, hgs, ho, hG⟩ hs
    refine wpAny_pyIter_gen (ho.is (hs.N.get (.tail _ (.head _)))) ?_
    refine ⟨l ++ R, [(Lg, oL), (ga, go)], r', ⟨hgn, ?_, l, ad, S, none, rfl, rfl, hq, he, rfl⟩, ⟨Lg, ga, gs, rfl, hlt, hgs, hG⟩, hs.toEnd⟩
    rcases Nat.lt_or_ge r.gens.size r'.gens.size with q | q
    · exact q
    · rw [Array.getElem?_eq_none q] at hgs; cases hgs
  · rintro j it t r' vs N s hj ⟨Lg, ga, gs, rfl, hlt, hgs, hG⟩ ⟨hgn, hsz, l, ad', U, v2, hx, rfl, hq, hf, rfl⟩ hs
    have hdr : hl.drop j = hl[j] :: hl.drop (j + 1) := List.drop_eq_getElem_cons hj
    rw [hdr] at hG
    refine genAt_next (d := 0) hG cx (rm.less (by omega)) (hq₂.mono fun p hp => List.mem_append_right _ hp) hlt hgs hs fun m' gs' r'' s' tt hG' hgx hgs' hs' => ?_
    refine ⟨_, m', r'', rfl, ⟨hl[j], tt, by simp [hj], rfl⟩, ⟨Lg, ga, gs', rfl, hlt, hgs', hG'⟩, ⟨hgn.new hgx, Nat.lt_of_lt_of_le hsz hgx.size, l, ad', U, v2, hx, rfl, hq, hf, rfl⟩, hs'⟩
  · rintro it t r' vs N s ⟨Lg, ga, gs, rfl, hlt, hgs, hG⟩ ⟨hgn, hsz, l, ad', U, v2, hx, rfl, hq, hf, rfl⟩ hs
    rw [List.drop_length] at hG
    refine genAt_end (d := 0) hG cx (rm.less (by omega)) (hq₂.mono fun p hp => List.mem_append_right _ hp) hlt hgs hs fun m' r'' s' hgx hs' => ?_
    exact ⟨m', r'', rfl, ⟨hgn.new hgx, Nat.lt_of_lt_of_le hsz hgx.size, l, ad', U, v2, hx, rfl, hq, hf, rfl⟩, hs'⟩
  · rintro j it v vs N t r' s hj ⟨h, th, hjh, rfl⟩ ⟨Lg, ga, gs, rfl, hlt, hgs, hG⟩ ⟨hgn, hsz, l, ad', U, v2, hx, rfl, hq, hf, rfl⟩ hs
    have hdr : hl.drop j = h :: hl.drop (j + 1) := by
      obtain ⟨hlt, e⟩ := List.getElem?_eq_some_iff.mp hjh
      rw [List.drop_eq_getElem_cons hlt, e]
    rw [hdr] at hf
    obtain ⟨V, hV, hf⟩ := Option.bind_eq_some_iff.mp hf
    rw [← hx] at hs
    rw [List.append_assoc] at hs
    refine X.expr cx hs (Me.meth1 (ad := ad') (S := U) (x := "self") ⟨cx, hK, hq.app, 0, n0, rfl⟩ (KQ.madd_alt hK) (PE.nameV cx n2 rfl) (P := NowX ad' V (R ++ t) r') (fun v e => by rw [e]; exact (all_walk hK d).1 f' A' _ l _ _ ad' U V h th cx (rm.less (by omega)) hq hV)) (fun v n' r' h a => by rw [h.1]; exact fun z => nomatch z) ?_
    rintro _ _ r'' s₁ ⟨rfl, hgn', l, ad'', hx', rfl, hq⟩ hs
    rw [hx] at hs
    rw [← List.append_assoc] at hs
    exact X.nil (g := g) hs ⟨.inl rfl, _, l ++ R, r'', ⟨hgn.trans hgn', Nat.lt_of_lt_of_le hsz hgn'.size, l, ad'', V, _, hx'.trans hx, rfl, hq, hf, rfl⟩, ⟨Lg, ga, gs, rfl, hlt, (hgn'.same _ hsz).trans hgs, hG⟩, hs⟩
  · rintro t vs N r' s ⟨hgn, hsz, l, ad', U, v2, hx, rfl, hq, hf, rfl⟩ hs
    rw [List.drop_length] at hf
    cases hf
    rw [List.append_assoc] at hs
    have hs := hs.perm (List.perm_append_comm.append_left _)
    rw [← List.append_assoc] at hs
    exact X.nil (g := g) hs ⟨_, _, _, ⟨rfl, hgn, _, ad', hx, rfl, hq.mono fun p hp => by simp [hp]⟩, hs⟩
end
end Mine
end

section
set_option maxRecDepth 100000
open PySem PySem.W PyProof.Rows PySem.Calls
set_option maxHeartbeats 4000000
namespace Mine
/-- a name that is a cell: c is its cell -/
def CellIs (c : Addr) (v : Value) (l : Ledger) : Prop := ∃ o, (c, o) ∈ l ∧ o.data = .cell (some v)
def CellAt (c : Addr) (l : Ledger) : Prop := ∃ o u, (c, o) ∈ l ∧ o.data = .cell u
theorem CellIs.mono {c : Addr} {v : Value} {l l' : Ledger} (h : CellIs c v l) (m : ∀ p ∈ l, p ∈ l') : CellIs c v l' := let ⟨o, h1, h2⟩ := h; ⟨o, m _ h1, h2⟩
theorem CellIs.at {c : Addr} {v : Value} {l : Ledger} (h : CellIs c v l) : CellAt c l := let ⟨o, h1, h2⟩ := h; ⟨o, _, h1, h2⟩
theorem NA.ints : ∀ {its : List Value} {hs : List Nat}, NA its hs → IntsAre its (hs.map Int.ofNat)
  | [], [], _ => .nil
  | v :: vs, n :: ns, h => by
    obtain ⟨⟨t, rfl⟩, h2⟩ := h
    exact .cons _ _ (NA.ints h2)
  | [], _ :: _, h => h.elim
  | _ :: _, [], h => h.elim
theorem any_mem (hs : List Nat) (c : Nat) : (hs.map Int.ofNat).any (· == (c : Int)) = decide (c ∈ hs) := by
  induction hs with
  | nil => rfl
  | cons a l ih =>
    rw [List.map_cons, List.any_cons, ih]
    by_cases h : c = a
    · subst h; simp
    · have : (Int.ofNat a == (c : Int)) = false := by rw [beq_eq_false_iff_ne]; intro e; exact h (Int.ofNat_inj.mp e).symm
      rw [this]; simp [h]
section
variable {g : Gl} {f : Fm} {A : Around} {vs : List (Option Value)} {news l R : Ledger} {r : Rs} {s : Shared} {fa C xa dx c la : Addr} {S T : QS} {ad : QA} {hs : List Nat}
variable {e e₁ e₂ test o r₁ lo hi ix ea value : Expr} {args : List Expr} {pos xp apos p' : Pos} {rest : List Stmt} {Q : Flow → Shared → Prop} {E : Value → Shared → Prop} {its : List Value} {ep i n : Nat} {x attr : Str} {a b : Int} {v : Value} {b₁ b₂ : Bool} {P : Value → Ledger → Rs → Prop} {PA : Value → Prop}

theorem PE.cell (cx : Cx g f) (hk : f.env.kindOf x = some .cell) (hc : f.env.cells.lookup x = some c) (hv : CellIs c v news) (hd : (x == ("__debug__" : Str)) = false := by decide) : PE g f A vs news r (.Name x pos) (· = v) :=
  fun _ _ _ hs k => by
    obtain ⟨o, h1, h2⟩ := hv
    exact wpAny_Name (wpAny_loadName_cell cx.hk hk hc ⟨o, hs.N.get h1, h2⟩ (k _ _ rfl hs)) hd
theorem PE.free (cx : Cx g f) (hk : f.env.kindOf x = some .free) (hc : f.env.cells.lookup x = some c) (hv : CellIs c v news) (hd : (x == ("__debug__" : Str)) = false := by decide) (hn : (x == ("__classdict__" : Str)) = false := by decide) : PE g f A vs news r (.Name x pos) (· = v) :=
  fun _ _ _ hs k => by
    obtain ⟨o, h1, h2⟩ := hv
    exact wpAny_Name (wpAny_loadName_free cx.hk hk hc ⟨o, hs.N.get h1, h2⟩ (k _ _ rfl hs) hn) hd
/-- a cell set -/
theorem St.setCell (hs : St f vs news r s) (hc : CellAt c news) {h' : Heap} {tk : Nat} (hv : h'.IsCell c (some v)) (hsb : Heap.SameBut c s.heap h') : ∃ o', o'.data = .cell (some v) ∧ St f vs (Mine.put c o' news) r ⟨h', s.gens, s.drawn, tk, s.os⟩ := by
  obtain ⟨o, u, h1, h2⟩ := hc
  obtain ⟨o', h3, h4⟩ := hv
  exact ⟨o', h4, hs.put h1 hsb h3⟩
theorem X.assignCell (cx : Cx g f) (hs : St f vs news r s) (hk : f.env.kindOf x = some .cell) (hl : f.env.cells.lookup x = some c) (h : EX g f A vs news r value P) (hc : ∀ v n' r', P v n' r' → CellAt c n')
    (k : ∀ v n' r' o' s', P v n' r' → o'.data = .cell (some v) → St f vs (Mine.put c o' n') r' s' → wpAny g.M A (execs rest f.env) Q E s')
    (hsw : swapsWith value (some (.Name x p')) pos.line f.env = pure false := by rfl) : wpAny g.M A (execs (.Assign [.Name x p'] value pos :: rest) f.env) Q E s :=
  wpAny_execs_cons (wpAny_Assign_Name (h _ _ _ hs fun v n' r' s₁ p hs₁ => by
    obtain ⟨o, u, h1, h2⟩ := hc v n' r' p
    refine wpAny_storeName_cell cx.hk hk hl ⟨o, hs₁.N.get h1, h2⟩ fun h' hv hsb => ?_
    obtain ⟨o', h3, h4⟩ := hs₁.setCell (tk := s₁.toks) ⟨o, u, h1, h2⟩ hv hsb
    exact k v n' r' o' _ p h3 h4) hsw)

/-- xs[a:b] of a list, its items -/
theorem EX.slice {items : Array Value} {oa ob : Option Expr} {ia ib : Option Int} (hl : ∀ s, St f vs news r s → s.heap.IsList la items) (ho : PE g f A vs news r o (· = .ref la)) (hsz : items.size ≤ 1000000)
    (h1 : ∀ (Q : Value → Shared → Prop) E s, St f vs news r s → (∀ v s', IsPart v ia → St f vs news r s' → Q v s') → wpAny g.M A (evalPart oa f.env) Q E s)
    (h2 : ∀ (Q : Value → Shared → Prop) E s, St f vs news r s → (∀ v s', IsPart v ib → St f vs news r s' → Q v s') → wpAny g.M A (evalPart ob f.env) Q E s)
    (ht : ∀ u r, letTemporaryGo o u r = pure () := by intro _ _; rfl) :
    EX g f A vs news r (.Subscript o (.Slice oa ob none p') pos) (fun v n' r' => r = r' ∧ ∃ D sl so, v = .ref D ∧ n' = (D, listOf (slicePick items ia ib none) 0) :: (sl, so) :: news) :=
  fun _ _ _ hs k => wpAny_Subscript_list_slice (ho _ _ _ hs fun _ s₁ q hs₁ => by
    subst q
    refine h1 _ _ _ hs₁ fun vl s₂ pl hs₂ => h2 _ _ _ hs₂ fun vu s₃ pu hs₃ => ?_
    refine ⟨la, items, ia, ib, rfl, hl _ hs₃, by show _ ≤ 2 ^ 24; omega, pl, pu, ?_⟩
    have z := hs₃.alloc (ob := { cls := .type "slice", data := .fields #[vl, vu, .none] }) (t := s₃.toks) rfl
    have z2 := z.alloc (ob := listOf (slicePick items ia ib none) 0) (t := s₃.toks) rfl
    have e : (s₃.heap.push { cls := .type "slice", data := .fields #[vl, vu, .none] }).objs.size = s₃.heap.objs.size + 1 := Heap.size_push ..
    have e' : ({ heap := s₃.heap.push { cls := .type "slice", data := .fields #[vl, vu, .none] }, gens := s₃.gens, drawn := s₃.drawn, toks := s₃.toks, os := s₃.os } : Shared).heap.objs.size = s₃.heap.objs.size + 1 := e
    rw [e'] at z2
    exact k _ _ _ _ ⟨rfl, _, _, _, rfl, rfl⟩ z2) ht
theorem part_none {E : Value → Shared → Prop} {Q : Value → Shared → Prop} (hs : St f vs news r s) (k : ∀ v s', IsPart v none → St f vs news r s' → Q v s') : wpAny g.M A (evalPart none f.env) Q E s := by
  rw [evalPart_none]; exact wpAny_pure (k _ _ .none hs)
theorem part_int {E : Value → Shared → Prop} {Q : Value → Shared → Prop} (h : PE g f A vs news r e (isI a)) (hs : St f vs news r s) (k : ∀ v s', IsPart v (some a) → St f vs news r s' → Q v s') : wpAny g.M A (evalPart (some e) f.env) Q E s :=
  h _ _ _ hs fun v s' ⟨t, q⟩ hs' => k v s' (by rw [q]; exact .int _ _) hs'
/-- l + r of two lists -/
theorem EX.cat {P1 : Value → Ledger → Rs → Prop} {P2 : Value → Value → Ledger → Rs → Prop} (h1 : EX g f A vs news r e₁ P1) (h2 : ∀ u n' r', P1 u n' r' → EX g f A vs n' r' e₂ (P2 u))
    (hp : ∀ u v n' r', P2 u v n' r' → ∃ (a b : Addr) (xs ys : List Value) (k1 k2 : Nat), u = .ref a ∧ v = .ref b ∧ (a, listOf xs.toArray k1) ∈ n' ∧ (b, listOf ys.toArray k2) ∈ n' ∧ xs.length + ys.length ≤ 1000000 ∧ ∀ D, P (.ref D) ((D, listOf (xs ++ ys).toArray 0) :: n') r') :
    EX g f A vs news r (.BinOp e₁ .Add e₂ pos) P :=
  fun _ _ _ hs k => wpAny_BinOp (h1 _ _ _ hs fun u n1 r1 s₁ p1 hs₁ => h2 u n1 r1 p1 _ _ _ hs₁ fun v n2 r2 s₂ p2 hs₂ => by
    obtain ⟨a, b, xs, ys, k1, k2, rfl, rfl, ha, hb, hz, hk⟩ := hp u v n2 r2 p2
    refine kmk_add_lit hs₂.F hs₂.N (its := xs.toArray) (its2 := ys.toArray) ⟨_, hs₂.N.get ha, rfl, k1, rfl⟩ ⟨_, hs₂.N.get hb, rfl, k2, rfl⟩ rfl (fun D h' F' N' l => ?_) (by simp; show _ ≤ 2 ^ 24; omega)
    refine k _ _ _ _ (hk D) ⟨F', by simpa using N', ?_, hs₂.gens, hs₂.drawn, hs₂.os⟩
    refine List.nodup_cons.mpr ⟨fun hm => ?_, hs₂.nd⟩
    obtain ⟨p, hp, e⟩ := List.mem_map.mp hm
    exact absurd (l p hp) (by rw [e]; exact Nat.lt_irrefl _))
/-- k in xs, of a list of ints of the ledger -/
theorem PT.cmpS {op : CmpOp} {c : Bool} {P₁ P₂ : Value → Prop} (h₁ : PE g f A vs news r e₁ P₁) (h₂ : PE g f A vs news r r₁ P₂)
    (hc : ∀ u v (Q : Value → Shared → Prop) E s, P₁ u → P₂ v → St f vs news r s → (∀ s', St f vs news r s' → Q (.bool c) s') → wpAny g.M A (compareOp op u v) Q E s)
    (hm : behindInMarks op r₁ = false := by with_unfolding_all rfl) : PT g f A vs news r (.Compare e₁ [op] [r₁] pos) c :=
  fun _ _ _ _ hw hs k => by
    subst hw
    exact wpAny_isTrue_Compare1 (h₁ _ _ _ hs fun _ _ e₁ s₁ => h₂ _ _ _ s₁ fun _ _ e₂ s₂ => hc _ _ _ _ _ e₁ e₂ s₂ fun _ s₃ => wpAny_truthy_bool (k _ s₃)) hm
theorem PE.cmpS {op : CmpOp} {c : Bool} {P₁ P₂ : Value → Prop} (h₁ : PE g f A vs news r e₁ P₁) (h₂ : PE g f A vs news r r₁ P₂)
    (hc : ∀ u v (Q : Value → Shared → Prop) E s, P₁ u → P₂ v → St f vs news r s → (∀ s', St f vs news r s' → Q (.bool c) s') → wpAny g.M A (compareOp op u v) Q E s)
    (hm : behindInMarks op r₁ = false := by with_unfolding_all rfl) : PE g f A vs news r (.Compare e₁ [op] [r₁] pos) (isB c) :=
  fun _ _ _ hs k => wpAny_Compare1 (h₁ _ _ _ hs fun _ _ e₁ s₁ => h₂ _ _ _ s₁ fun _ _ e₂ s₂ => hc _ _ _ _ _ e₁ e₂ s₂ fun s₃ hs₃ => k _ s₃ rfl hs₃) hm
theorem cmpIn {k : Nat} (hm : (la, listOf its.toArray ep) ∈ news) (hna : NA its hs) : ∀ u v (Q : Value → Shared → Prop) E s, isI k u → v = .ref la → St f vs news r s → (∀ s', St f vs news r s' → Q (.bool (decide (k ∈ hs))) s') → wpAny g.M A (compareOp .In u v) Q E s := by
  rintro _ _ Q E s ⟨t, rfl⟩ rfl hs kk
  refine in_list_ints ⟨_, hs.N.get hm, rfl, ep, rfl⟩ hna.ints ?_
  rw [any_mem]; exact kk s hs
theorem cmpNotIn {k : Nat} (hm : (la, listOf its.toArray ep) ∈ news) (hna : NA its hs) : ∀ u v (Q : Value → Shared → Prop) E s, isI k u → v = .ref la → St f vs news r s → (∀ s', St f vs news r s' → Q (.bool (!decide (k ∈ hs))) s') → wpAny g.M A (compareOp .NotIn u v) Q E s := by
  rintro _ _ Q E s ⟨t, rfl⟩ rfl hs kk
  refine notin_list_ints ⟨_, hs.N.get hm, rfl, ep, rfl⟩ hna.ints ?_
  rw [any_mem]; exact kk s hs
theorem PE.cmpNeB (h₁ : PE g f A vs news r e₁ (isB b₁)) (h₂ : PE g f A vs news r r₁ (isB b₂)) (hm : behindInMarks .NotEq r₁ = false := by with_unfolding_all rfl) : PT g f A vs news r (.Compare e₁ [.NotEq] [r₁] pos) (b₁ != b₂) := by
  refine PT.cmpS h₁ h₂ (fun u v Q E s p1 p2 hs k => ?_) hm
  rw [p1, p2]
  exact ne_bool (k s hs)

/-- a test that may change the ledger -/
def ET (g : Gl) (f : Fm) (A : Around) (vs : List (Option Value)) (news : Ledger) (r : Rs) (e : Expr) (P : Bool → Ledger → Rs → Prop) : Prop :=
  ∀ (whole : Sem Value) (Q : Bool → Shared → Prop) (E : Value → Shared → Prop) (s : Shared), whole = eval e f.env → St f vs news r s → (∀ b n' r' s', P b n' r' → St f vs n' r' s' → Q b s') → wpAny g.M A (isTrue e f.env whole) Q E s
theorem PT.et {c : Bool} (h : PT g f A vs news r e c) : ET g f A vs news r e (fun b n' r' => b = c ∧ news = n' ∧ r = r') :=
  fun _ _ _ _ hw hs k => h _ _ _ _ hw hs fun s' hs' => k _ _ _ s' ⟨rfl, rfl, rfl⟩ hs'
theorem ET.val {P : Bool → Ledger → Rs → Prop} (h : EX g f A vs news r e (fun v n' r' => ∃ b, v = .bool b ∧ P b n' r')) (he : ∀ whole, isTrue e f.env whole = (do let v ← whole; standAt e.pos; holding [v] (truthy v))) : ET g f A vs news r e P :=
  fun _ _ _ _ hw hs k => by
    subst hw
    exact isTrue_plain (h _ _ _ hs fun _ n' r' s₁ ⟨b, e, p⟩ hs₁ => by rw [e]; exact wpAny_truthy_bool (k b n' r' s₁ p hs₁)) (he _)
theorem ET.mono {P P' : Bool → Ledger → Rs → Prop} (h : ET g f A vs news r e P) (w : ∀ b n' r', P b n' r' → P' b n' r') : ET g f A vs news r e P' :=
  fun _ _ _ _ hw hs k => h _ _ _ _ hw hs fun b n' r' s' p hs' => k b n' r' s' (w _ _ _ p) hs'
theorem ET.not {P : Bool → Ledger → Rs → Prop} (h : ET g f A vs news r e P) : ET g f A vs news r (.UnaryOp .Not e pos) (fun b n' r' => P (!b) n' r') :=
  fun _ _ _ _ _ hs k => isTrue_not (h _ _ _ _ rfl hs fun b n' r' s' p hs' => k _ n' r' s' (by show P (!!b) n' r'; rw [Bool.not_not]; exact p) hs')
theorem ET.or2 {P1 P2 : Bool → Ledger → Rs → Prop} (h₁ : ET g f A vs news r e₁ P1) (h₂ : ∀ n' r', P1 false n' r' → ET g f A vs n' r' e₂ P2) : ET g f A vs news r (.BoolOp .Or [e₁, e₂] pos) (fun b n' r' => (b = true ∧ P1 true n' r') ∨ P2 b n' r') :=
  fun _ _ _ _ _ hs k => isTrue_or (h₁ _ _ _ _ rfl hs fun c n' r' s₁ p hs₁ => by
    cases c with
    | true => exact k _ _ _ _ (.inl ⟨rfl, p⟩) hs₁
    | false => exact isTrue_or (h₂ n' r' p _ _ _ _ rfl hs₁ fun c n'' r'' s₂ p2 hs₂ => by
        cases c with
        | true => exact k _ _ _ _ (.inr p2) hs₂
        | false => exact isTrue_or_nil (k _ _ _ _ (.inr p2) hs₂)))
theorem ET.cmp {op : CmpOp} {P1 : Value → Ledger → Rs → Prop} {P2 : Value → Value → Ledger → Rs → Prop} {P3 : Bool → Ledger → Rs → Prop} (h₁ : EX g f A vs news r e₁ P1) (h₂ : ∀ u n' r', P1 u n' r' → EX g f A vs n' r' e₂ (P2 u))
    (hc : ∀ u v n' r' (Q : Value → Shared → Prop) E s, P2 u v n' r' → St f vs n' r' s → (∀ b n'' r'' s', P3 b n'' r'' → St f vs n'' r'' s' → Q (.bool b) s') → wpAny g.M A (compareOp op u v) Q E s)
    (hm : behindInMarks op e₂ = false := by with_unfolding_all rfl) : ET g f A vs news r (.Compare e₁ [op] [e₂] pos) P3 :=
  fun _ _ _ _ hw hs k => by
    subst hw
    exact wpAny_isTrue_Compare1 (h₁ _ _ _ hs fun u n1 r1 s₁ p1 hs₁ => h₂ u n1 r1 p1 _ _ _ hs₁ fun v n2 r2 s₂ p2 hs₂ => hc u v n2 r2 _ _ _ p2 hs₂ fun b n3 r3 s₃ p3 hs₃ => wpAny_truthy_bool (k b n3 r3 s₃ p3 hs₃)) hm
/-- an if whose test may change the ledger -/
theorem X.ifE {body orelse : List Stmt} {P : Bool → Ledger → Rs → Prop} (hs : St f vs news r s) (ht : ET g f A vs news r test P)
    (h₁ : ∀ n' r' s', P true n' r' → St f vs n' r' s' → wpAny g.M A (execs body f.env) (Then g f A rest Q E) E s')
    (h₂ : ∀ n' r' s', P false n' r' → St f vs n' r' s' → wpAny g.M A (execs orelse f.env) (Then g f A rest Q E) E s') :
    wpAny g.M A (execs (.If test body orelse pos :: rest) f.env) Q E s :=
  wpAny_execs_cons (wpAny_If (ht _ _ _ _ rfl hs fun b n' r' s₁ p hs₁ => by
    cases b with
    | true => exact h₁ n' r' s₁ p hs₁
    | false => exact h₂ n' r' s₁ p hs₁))
/-- an if that is never entered -/
theorem X.ifEF {body : List Stmt} {P : Bool → Ledger → Rs → Prop} (hs : St f vs news r s) (ht : ET g f A vs news r test P) (hf : ∀ b n' r', P b n' r' → b = false)
    (h₂ : ∀ n' r' s', P false n' r' → St f vs n' r' s' → wpAny g.M A (execs rest f.env) Q E s') :
    wpAny g.M A (execs (.If test body [] pos :: rest) f.env) Q E s :=
  X.ifE hs ht (fun n' r' s' p _ => by cases hf _ _ _ p) fun n' r' s' p hs' => X.nil (g := g) hs' (h₂ n' r' s' p hs')
/-- a built-in function called with one argument that changes the ledger -/
theorem EX.callB1 {T : String} {PA P : Value → Ledger → Rs → Prop} (cx : Cx g f) (hk : f.env.kindOf x = some .globalImplicit) (hm : nsIn g.K mainGlobals x = some none) (hv : bootBuiltins x = some (.builtin T)) (hn : x ≠ "__name__") (ha : EX g f A vs news r e PA)
    (hc : ∀ u n' r' (Q : Value → Shared → Prop) E s, PA u n' r' → St f vs n' r' s → (∀ v n'' r'' s', P v n'' r'' → St f vs n'' r'' s' → Q v s') → wpAny g.M A (call (.builtin T) [u]) Q E s)
    (he : starEach [e] f.env = [(false, eval e f.env)] := by rfl) (hd : (x == ("__debug__" : Str)) = false := by decide) : EX g f A vs news r (.Call (.Name x xp) [e] [] pos) P :=
  fun _ _ _ hs k => Call_Name1 (PE.nameBt cx hk hm hv hn hd _ _ _ hs fun _ s₁ q hs₁ => by
    subst q
    exact callWith_builtin1 (ha _ _ _ hs₁ fun u n' r' s₂ p hs₂ => hc u n' r' _ _ _ p hs₂ k)) he
end
end Mine
end

section
set_option maxRecDepth 100000
open PySem PySem.W PyProof.Rows PySem.Calls
open PyProof.Rows.LCg (NsObj lst Off3 Off1 CompRest CompEnd SrcAt CompSrc FinE FinA)
open PyProof.Rows.LCt (CompRestT CompSrcT)
set_option maxHeartbeats 4000000
namespace Mine
/-- one by one -/
def F2 (F : Value → Value → Prop) : List Value → List Value → Prop
  | [], [] => True
  | a :: l, b :: m => F a b ∧ F2 F l m
  | _, _ => False
theorem F2.snoc {F : Value → Value → Prop} : ∀ {l m : List Value} {a b : Value}, F2 F l m → F a b → F2 F (l ++ [a]) (m ++ [b])
  | [], [], _, _, _, h => ⟨h, trivial⟩
  | _ :: _, _ :: _, _, _, h, h' => ⟨h.1, F2.snoc h.2 h'⟩
  | [], _ :: _, _, _, h, _ => h.elim
  | _ :: _, [], _, _, h, _ => h.elim
theorem take_snoc {l : List Value} {j : Nat} {v : Value} (h : l[j]? = some v) : l.take (j + 1) = l.take j ++ [v] := by
  rw [List.take_add_one, h]; rfl
section
variable {g : Gl} {f : Fm} {A : Around} {vs : List (Option Value)} {news l R : Ledger} {r : Rs} {s : Shared} {C I D ax : Addr} {oI oC : Obj}
variable {e elt ct iter : Expr} {px py pos spos : Pos} {rest : List Stmt} {Q : Value → Shared → Prop} {E : Value → Shared → Prop} {its : Array Value} {ep i n d : Nat} {x y : Str} {scope : Scope} {cl : List (Str × Addr)} {F : Value → Value → Prop} {ys : List Value} {p : Value → Bool}

theorem St.of3 {h : Heap} {tk : Nat} (nd : (news.map (·.1)).Nodup) (hg : s.gens = r.gens) (hd : s.drawn = r.drawn) (ho : s.os = r.os) (F : Fr f.h₀ f.L h (lm f.ns vs)) (N : News f.h₀ f.L h ((I, oI) :: (C, oC) :: (D, lst ys) :: news)) (off : Off3 I C D news) (ne : ((@Ne Nat I C) ∧ (@Ne Nat I D) ∧ (@Ne Nat C D))) :
    St f vs ((I, oI) :: (C, oC) :: (D, lst ys) :: news) r { s with heap := h, toks := tk } := by
  have om := off.mem
  refine ⟨F, N, ?_, hg, hd, ho⟩
  rw [List.map_cons, List.map_cons, List.map_cons, List.nodup_cons, List.nodup_cons, List.nodup_cons]
  have h1 : ∀ a, (∀ p ∈ news, p.1 ≠ a) → a ∉ news.map (·.1) := fun a ha hm => by
    obtain ⟨p, hp, e⟩ := List.mem_map.mp hm
    exact ha p hp e
  refine ⟨fun hm => ?_, fun hm => ?_, h1 D fun p hp => (om p hp).2.2, nd⟩
  · rcases List.mem_cons.mp hm with e | hm
    · exact ne.1 e
    · rcases List.mem_cons.mp hm with e | hm
      · exact ne.2.1 e
      · exact h1 I (fun p hp => (om p hp).1) hm
  · rcases List.mem_cons.mp hm with e | hm
    · exact ne.2.2 e
    · exact h1 C (fun p hp => (om p hp).2.1) hm
theorem St.ofD {h : Heap} {tk : Nat} (nd : (news.map (·.1)).Nodup) (hg : s.gens = r.gens) (hd : s.drawn = r.drawn) (ho : s.os = r.os) (F : Fr f.h₀ f.L h (lm f.ns vs)) (N : News f.h₀ f.L h ((D, lst ys) :: news)) (off : Off1 D news) :
    St f vs ((D, lst ys) :: news) r { s with heap := h, toks := tk } := by
  refine ⟨F, N, List.nodup_cons.mpr ⟨fun hm => ?_, nd⟩, hg, hd, ho⟩
  obtain ⟨p, hp, e⟩ := List.mem_map.mp hm
  have : ∀ {l : List (Addr × Obj)}, Off1 D l → ∀ p ∈ l, p.1 ≠ D := fun {l} => by
    induction l with
    | nil => intro _ p hp; cases hp
    | cons a l ih =>
      intro o p hp
      rcases List.mem_cons.mp hp with rfl | hp
      · exact o.1
      · exact ih o.2 p hp
  exact this off p hp e
/-- an expression of a comprehension's block, without effect -/
def InC (g : Gl) (f : Fm) (A : Around) (vs : List (Option Value)) (news : Ledger) (r : Rs) (scope : Scope) (cl : List (Str × Addr)) (x : Str) (its : Array Value) (e : Expr) (F : Value → Value → Prop) : Prop :=
  ∀ (j : Nat) (v : Value) (N : Ledger) (C : Addr) (oC : Obj) (m₂ : Str → Option Value) (Q : Value → Shared → Prop) (E : Value → Shared → Prop) (s : Shared), its[j]? = some v → (C, oC) ∈ N → NsObj oC m₂ → m₂ x = some v → (∀ p ∈ news, p ∈ N) → St f vs N r s →
    (∀ y s', F v y → St f vs N r s' → Q y s') → wpAny g.M A (eval e (compEnvC scope cl C f.env)) Q E s
/-- a test of a comprehension's block, without effect -/
def InT (g : Gl) (f : Fm) (A : Around) (vs : List (Option Value)) (news : Ledger) (r : Rs) (scope : Scope) (cl : List (Str × Addr)) (x : Str) (its : Array Value) (e : Expr) (p : Value → Bool) : Prop :=
  ∀ (j : Nat) (v : Value) (N : Ledger) (C : Addr) (oC : Obj) (m₂ : Str → Option Value) (Q : Bool → Shared → Prop) (E : Value → Shared → Prop) (s : Shared), its[j]? = some v → (C, oC) ∈ N → NsObj oC m₂ → m₂ x = some v → (∀ p ∈ news, p ∈ N) → St f vs N r s →
    (∀ s', St f vs N r s' → Q (p v) s') → wpAny g.M A (isTrue e (compEnvC scope cl C f.env) (eval e (compEnvC scope cl C f.env))) Q E s
theorem comp_end {s0 s' : Shared} {h : Heap} {tk : Nat} {S : List (Addr × Obj) → Prop} {rs : Value → List (Addr × Obj) → Prop} {y : Value} (hg : s0.gens = r.gens) (hd : s0.drawn = r.drawn) (ho : s0.os = r.os) (off : Off3 I C D news) (hS : S news)
    (hs : St f vs ((I, oI) :: (C, oC) :: (D, lst ys) :: news) r s') (hr : rs y news) : CompEnd f.h₀ f.L (lm f.ns vs) { s0 with heap := h, toks := tk } I oI C oC D (lst ys) S rs y s' := by
  obtain ⟨h', g', d', t', o'⟩ := s'
  refine ⟨h', t', news, ?_, hs.F, hs.N, off, hS, hr⟩
  have e1 := hs.gens
  have e2 := hs.drawn
  have e3 := hs.os
  dsimp only at e1 e2 e3
  rw [e1, e2, e3, ← hg, ← hd, ← ho]
theorem rest_U (hn : News f.h₀ f.L s.heap news → True) (nd : (news.map (·.1)).Nodup) (hg : s.gens = r.gens) (hd : s.drawn = r.drawn) (ho : s.os = r.os) (hm : (ax, listOf its ep) ∈ news) (he : InC g f A vs news r scope cl x its elt F)
    (fin : ∀ ys D h tk, F2 F its.toList ys → St f vs ((D, lst ys) :: news) r { s with heap := h, toks := tk } → Q (.ref D) { s with heap := h, toks := tk }) :
    ∀ (k i : Nat) (ys : List Value), k + i = its.size → F2 F (its.toList.take i) ys → CompRest g.prog g.w A f.h₀ f.L (lm f.ns vs) f.env elt x scope cl s (SrcAt f.h₀ ax its) (fun i v => its[i]? = some v) (FinE f.h₀ f.L (lm f.ns vs) s Q) k i ys news
  | 0, i, ys, hk, hF => by
    intro D h tk F' N' off
    refine fin ys D h tk ?_ (St.ofD nd hg hd ho F' N' off)
    have : its.toList.take i = its.toList := List.take_of_length_le (by rw [Array.length_toList]; omega)
    rw [← this]; exact hF
  | k + 1, i, ys, hk, hF => by
    intro v I oI C oC D m₂ h tk E' hP hNs hx F' N' off ne
    refine he i v _ C oC m₂ _ _ _ hP (.tail _ (.head _)) hNs hx (fun p hp => .tail _ (.tail _ (.tail _ hp))) (St.of3 nd hg hd ho F' N' off ne) fun y s' hy hs' => ?_
    refine comp_end hg hd ho off (.inr ⟨_, hm, rfl, _, rfl⟩) hs' ?_
    refine rest_U hn nd hg hd ho hm he fin k (i + 1) (ys ++ [y]) (by omega) ?_
    rw [take_snoc (v := v) (by rw [Array.getElem?_toList]; exact hP)]
    exact hF.snoc hy
theorem EX.compU (rm : Rm f A d) (hclos : closureFor scope f.env = pure cl) (hsc : (scope.names.all fun y => y.2 != .cell && (y.2 != .local || scope.names.lookup y.1 == some .local)) = true) (hkind : scope.kind = .function) (hx : scope.names.lookup x = some .local)
    (hit : EX g f A vs news r iter (fun v n' r' => r = r' ∧ ∃ ax k m, v = .ref ax ∧ n' = m ++ news ∧ (ax, listOf its k) ∈ n')) (hsz : its.size ≤ 1000000)
    (he : ∀ m, InC g f A vs (m ++ news) r scope cl x its elt F) (hfs : ∀ x, foldedSetIterable iter f.env x = pure x := by intro _; rfl) :
    EX g f A vs news r (.ListComp elt [⟨.Name x px, iter, [], 0⟩] scope pos) (fun v n' r' => r = r' ∧ ∃ D ys m, v = .ref D ∧ n' = (D, lst ys) :: (m ++ news) ∧ F2 F its.toList ys) := by
  intro Q E s hs k
  simp only [List.all_eq_true, Bool.and_eq_true, bne_iff_ne, ne_eq, Bool.or_eq_true, beq_iff_eq] at hsc
  refine LCg.ListComp_U hs.F hclos (fun y hy => (hsc y hy).1) hkind (fun y hy hl => (hsc y hy).2.elim (fun h => absurd hl h) id) hx (hit _ _ _ hs fun v n' r' s₁ ⟨e1, ax, kk, m, e2, e3, hm⟩ hs₁ => ?_) hfs
  subst e1 e2 e3
  refine CompSrc.ledger rm.hd hs₁.F hs₁.N hm (by show _ ≤ 2 ^ 24; omega) fun g' => ?_
  refine rest_U (s := { s₁ with heap := g' }) (fun _ => trivial) hs₁.nd hs₁.gens hs₁.drawn hs₁.os hm (he m) (fun ys D h tk hF hs₂ => ?_) its.size 0 [] (Nat.add_zero _) trivial
  exact k _ _ _ _ ⟨rfl, D, ys, m, rfl, rfl, hF⟩ hs₂
theorem rest_T {Fin : List Value → List (Addr × Obj) → Prop} (nd : (news.map (·.1)).Nodup) (hg : s.gens = r.gens) (hd : s.drawn = r.drawn) (ho : s.os = r.os) (hm : (ax, listOf its ep) ∈ news) (ht : InT g f A vs news r scope cl x its ct p) (he : InC g f A vs news r scope cl x its elt (fun v y => y = v))
    (fin : Fin (its.toList.filter p) news) :
    ∀ (k i : Nat) (ys : List Value), k + i = its.size → ys = (its.toList.take i).filter p → CompRestT g.prog g.w A f.h₀ f.L (lm f.ns vs) f.env ct elt x scope cl s (SrcAt f.h₀ ax its) (fun i v => its[i]? = some v) Fin k i ys news
  | 0, i, ys, hk, hF => by
    have : its.toList.take i = its.toList := List.take_of_length_le (by rw [Array.length_toList]; omega)
    rw [this] at hF
    subst hF
    exact fin
  | k + 1, i, ys, hk, hF => by
    intro v I oI C oC D m₂ h tk E' hP hNs hx F' N' off ne
    have hz := St.of3 (s := s) (tk := tk) nd hg hd ho F' N' off ne
    have hs' : its.toList.take (i + 1) = its.toList.take i ++ [v] := take_snoc (by rw [Array.getElem?_toList]; exact hP)
    refine ht i v _ C oC m₂ _ _ _ hP (.tail _ (.head _)) hNs hx (fun p hp => .tail _ (.tail _ (.tail _ hp))) hz fun s₂ hs₂ => ?_
    cases hpv : p v with
    | true =>
      simp only [if_true]
      refine he i v _ C oC m₂ _ _ _ hP (.tail _ (.head _)) hNs hx (fun p hp => .tail _ (.tail _ (.tail _ hp))) hs₂ fun y s₃ hy hs₃ => ?_
      subst hy
      refine comp_end hg hd ho off (.inr ⟨_, hm, rfl, _, rfl⟩) hs₃ ?_
      refine rest_T nd hg hd ho hm ht he fin k (i + 1) _ (by omega) ?_
      rw [hs', List.filter_append, ← hF, List.filter_cons, hpv]; rfl
    | false =>
      simp only [Bool.false_eq_true, if_false]
      refine comp_end hg hd ho off (.inr ⟨_, hm, rfl, _, rfl⟩) hs₂ ?_
      refine rest_T nd hg hd ho hm ht he fin k (i + 1) _ (by omega) ?_
      rw [hs', List.filter_append, ← hF, List.filter_cons, hpv]; simp
theorem EX.compT (rm : Rm f A d) (hclos : closureFor scope f.env = pure cl) (hsc : (scope.names.all fun y => y.2 != .cell && (y.2 != .local || scope.names.lookup y.1 == some .local)) = true) (hkind : scope.kind = .function) (hx : scope.names.lookup x = some .local)
    (hit : EX g f A vs news r iter (fun v n' r' => r = r' ∧ ∃ ax k m, v = .ref ax ∧ n' = m ++ news ∧ (ax, listOf its k) ∈ n')) (hsz : its.size ≤ 1000000)
    (ht : ∀ m, InT g f A vs (m ++ news) r scope cl x its ct p) (he : ∀ m, InC g f A vs (m ++ news) r scope cl x its elt (fun v y => y = v)) (hfs : ∀ x, foldedSetIterable iter f.env x = pure x := by intro _; rfl) :
    EX g f A vs news r (.ListComp elt [⟨.Name x px, iter, [ct], 0⟩] scope pos) (fun v n' r' => r = r' ∧ ∃ D m, v = .ref D ∧ n' = (D, lst (its.toList.filter p)) :: (m ++ news)) := by
  intro Q E s hs k
  simp only [List.all_eq_true, Bool.and_eq_true, bne_iff_ne, ne_eq, Bool.or_eq_true, beq_iff_eq] at hsc
  refine LCt.ListComp_T hs.F hclos (fun y hy => (hsc y hy).1) hkind (fun y hy hl => (hsc y hy).2.elim (fun h => absurd hl h) id) hx (hit _ _ _ hs fun v n' r' s₁ ⟨e1, ax, kk, m, e2, e3, hm⟩ hs₁ => ?_) hfs
  subst e1 e2 e3
  refine CompSrcT.ledger rm.hd hs₁.F hs₁.N hm (by show _ ≤ 2 ^ 24; omega) fun g' => ?_
  refine rest_T (s := { s₁ with heap := g' }) hs₁.nd hs₁.gens hs₁.drawn hs₁.os hm (ht m) (he m) (fun D h tk F' N' off => ?_) its.size 0 [] (Nat.add_zero _) rfl
  exact k _ _ _ _ ⟨rfl, D, m, rfl, rfl⟩ (St.ofD (s := { s₁ with heap := g' }) hs₁.nd hs₁.gens hs₁.drawn hs₁.os F' N' off)
theorem X.assignCompT {Q : Flow → Shared → Prop} {u : Option Value} (cx : Cx g f) (rm : Rm f A d) (hs : St f vs news r s) (hn : f.ns[i]? = some y) (hv : vs[i]? = some u) (hclos : closureFor scope f.env = pure cl) (hsc : (scope.names.all fun y => y.2 != .cell && (y.2 != .local || scope.names.lookup y.1 == some .local)) = true) (hkind : scope.kind = .function) (hx : scope.names.lookup x = some .local)
    (hit : EX g f A vs news r iter (fun v n' r' => r = r' ∧ ∃ ax k m, v = .ref ax ∧ n' = m ++ news ∧ (ax, listOf its k) ∈ n')) (hsz : its.size ≤ 1000000)
    (ht : ∀ m, InT g f A vs (m ++ news) r scope cl x its ct p) (he : ∀ m, InC g f A vs (m ++ news) r scope cl x its elt (fun v y => y = v))
    (k : ∀ D m s', St f (vs.set i (some (.ref D))) ((D, lst (its.toList.filter p)) :: (m ++ news)) r s' → wpAny g.M A (execs rest f.env) Q E s')
    (hsw : swapsWith (.ListComp elt [⟨.Name x px, iter, [ct], 0⟩] scope pos) (some (.Name y py)) spos.line f.env = pure true := by with_unfolding_all rfl)
    (hfs : ∀ x, foldedSetIterable iter f.env x = pure x := by intro _; rfl) :
    wpAny g.M A (execs (.Assign [.Name y py] (.ListComp elt [⟨.Name x px, iter, [ct], 0⟩] scope pos) spos :: rest) f.env) Q E s := by
  simp only [List.all_eq_true, Bool.and_eq_true, bne_iff_ne, ne_eq, Bool.or_eq_true, beq_iff_eq] at hsc
  refine wpAny_execs_cons (LCt.Assign_ListComp_T hs.F cx.loc hsw hclos (fun y hy => (hsc y hy).1) hkind (fun y hy hl => (hsc y hy).2.elim (fun h => absurd hl h) id) hx (cx.kin i y hn) (by rw [cx.hk]; rfl) (hit _ _ _ hs fun v n' r' s₁ ⟨e1, ax, kk, m, e2, e3, hm⟩ hs₁ => ?_) hfs)
  subst e1 e2 e3
  refine CompSrcT.ledger rm.hd hs₁.F hs₁.N hm (by show _ ≤ 2 ^ 24; omega) fun g' => ?_
  refine rest_T (s := { s₁ with heap := g' }) hs₁.nd hs₁.gens hs₁.drawn hs₁.os hm (ht m) (he m) (fun D h tk F' N' off => ?_) its.size 0 [] (Nat.add_zero _) rfl
  have hi : i < vs.length := by
    rcases Nat.lt_or_ge i vs.length with q | q
    · exact q
    · rw [List.getElem?_eq_none q] at hv; cases hv
  rw [lm_set cx.nd hn hi] at F'
  exact k D m _ (St.ofD (s := { s₁ with heap := g' }) hs₁.nd hs₁.gens hs₁.drawn hs₁.os F' N' off)
end
end Mine
end

section
set_option maxRecDepth 100000
open PySem PySem.W PySem.Calls
namespace Mine
/-! A class under Exception with an own __init__: what its call makes. -/
section
variable {M : Model} {prog : Program} {w : World} {A : Around} {R : Result → Shared → Prop} {E : Value → Shared → Prop} {h : Heap} {g : Array GenState} {d : Drawn} {t : Nat} {os : OsState}
variable {nm q : Str} {C N fI : Addr} {bs bm : List Value} {hdct : Bool} {sn : List Str} {sub : List Value} {ab : Bool} {col : Option Bool} {dd : Option Addr} {k0 k1 k2 k3 k5 : Option Value}
abbrev Fx0 := PySem.F.excBase_Exception
abbrev exc0 (C t : Addr) : Obj := { cls := .ref C, data := .fields #[.ref t, .none, .none, .none, .bool false, .none] }
abbrev tup0 (l : List Value) : Obj := { cls := .type "tuple", data := .seq l.toArray }
theorem ex_check {rest : List Value} {Q : Unit → Shared → Prop} (hB : bm.contains (.type "Exception") = true) (hC : h.get? C = some (excClassObj nm q C N bs bm hdct sn sub ab col dd k0 k1 k2 k3 k5 "Exception.__new__"))
    (hq : Q () ⟨h, g, d, t, os⟩) : wpAny M A (checkBuiltinCall "Exception.__new__" ⟨.ref C :: rest, []⟩) Q E ⟨h, g, d, t, os⟩ := by
  have hcont : (Value.ref C :: bm).contains (.type "Exception") = true := by rw [List.contains_cons, hB, Bool.or_true]
  have hstar := Fx0.noStar
  simp only [checkBuiltinCall, Fx0.newKind, Fx0.newSplit, Fx0.newRow]
  repeat (first | refine wpAny_loadPart_at hC ?_ | (refine wpAny_isSubtype_exc hC ?_; rw [hcont]) | refine wpAny_staticBase_exc hC ?_ | refine wpAny_madeBy_exc hC ?_ | simp only [bne_self_eq_false, Bool.false_eq_true, if_false] | wp_step)
  exact hq
theorem ex_new {rest : List Value} (hB : bm.contains (.type "Exception") = true) (hAt : bm.contains (.type "AttributeError") = false) (hNm : bm.contains (.type "NameError") = false)
    (hC : h.get? C = some (excClassObj nm q C N bs bm hdct sn sub ab col dd k0 k1 k2 k3 k5 "Exception.__new__"))
    (hq : R (.ok (.ret (.ref (h.objs.size + 1)))) ⟨(h.push (tup0 rest)).push (exc0 C h.objs.size), g, d, t, os⟩) (hrest : rest.length ≤ sizeLine := by size_fits) :
    codeAny (model prog w) A (.builtin "Exception.__new__" ⟨.ref C :: rest, []⟩) R ⟨h, g, d, t, os⟩ := by
  have hends := Fx0.ends
  have hcB : (Value.ref C :: bm).contains (.type "Exception") = true := by rw [List.contains_cons, hB, Bool.or_true]
  have hcA : (Value.ref C :: bm).contains (.type "AttributeError") = false := by rw [List.contains_cons, hAt]; rfl
  have hcN : (Value.ref C :: bm).contains (.type "NameError") = false := by rw [List.contains_cons, hNm]; rfl
  refine codeAny_builtinAt Fx0.entry ?_
  unfold Builtin.«BaseException.__new__»
  refine wpAt_bind ?_
  show wpAt _ _ _ (stack >>= _) _ _ _
  refine wpAt_bind (wpAt_stack fun p below => wpAt_of_wpAny ?_)
  wp_walk
  refine wpAt_of_wpAny ?_
  rw [Fx0.owner]
  repeat (first | with_reducible refine wpAny_madeHere_exc Fx0.canon hC ?_ | with_reducible refine wpAny_loadPart_at hC ?_ | (with_reducible refine wpAny_isSubtype_exc hC ?_; first | rw [hcB] | rw [hcA] | rw [hcN]) | wp_step)
  show R _ _
  rw [Heap.size_push]
  exact hq
theorem ex_type_call {rest : List Value} {Q : Fin → Shared → Prop} (hB : bm.contains (.type "Exception") = true) (hAt : bm.contains (.type "AttributeError") = false) (hNm : bm.contains (.type "NameError") = false)
    (hC : h.get? C = some (excClassObj nm q C N bs bm hdct sn sub ab col dd k0 k1 k2 k3 k5 "Exception.__new__"))
    (hi : Looks (model prog w) ((h.push (tup0 rest)).push (exc0 C h.objs.size)) (typeLookup (.ref C) "__init__") (some (.ref fI))) (hb : ∀ self, Looks (model prog w) ((h.push (tup0 rest)).push (exc0 C h.objs.size)) (bindSpecial (.ref fI) self) (.ref fI, [self]))
    (hq : codeAny (model prog w) A (.call (.ref fI) ⟨.ref (h.objs.size + 1) :: rest, []⟩) (fun r s' => match r with | .ok (.ret v) => v = .none ∧ Q (.done (.ret (.ref (h.objs.size + 1)))) s' | .ok _ => False | .error e => E e s') ⟨(h.push (tup0 rest)).push (exc0 C h.objs.size), g, d, t, os⟩)
    (hrest : rest.length ≤ sizeLine := by size_fits) :
    wpAny (model prog w) A (Builtin.«type.__call__» ⟨.ref C :: rest, []⟩) Q E ⟨h, g, d, t, os⟩ := by
  repeat (first | with_reducible refine wpAny_loadPart_at hC ?_ | with_reducible refine wpAny_madeBy_exc hC ?_ | wp_step)
  refine codeAny_call_builtin_code (Code.quiet_builtin _ Fx0.quiet) (ex_check hB hC ?_)
  refine ex_new hB hAt hNm hC ?_ hrest
  show wpAny _ _ _ _ _ _
  have hC₁ := Heap.get?_push_of_some (exc0 C h.objs.size) (Heap.get?_push_of_some (tup0 rest) hC)
  have hget : ((h.push (tup0 rest)).push (exc0 C h.objs.size)).get? (h.objs.size + 1) = some (exc0 C h.objs.size) := by heap_get
  have hcC : (Value.ref C :: bm).contains (.ref C) = true := by simp
  unfold isInstance
  repeat (first | with_reducible refine wpAny_loadPart_at hget ?_ | (with_reducible refine wpAny_isSubtype_exc hC₁ ?_; rw [hcC]) | wp_step)
  show wpAny _ _ (typeLookup (.ref C) _) _ _ _
  refine Looks.at hi ?_
  refine wpAny_holding (wpAny_bind (Looks.at (hb _) ?_))
  refine wpAny_bind (wpAny_call (codeAny_mono hq fun r s' z => ?_))
  rcases r with e | (v | _ | _ | _) <;> first | exact z | exact z.elim | skip
  obtain ⟨rfl, z⟩ := z
  exact wpAny_pure (wpAny_pure z)
theorem ex_call {rest : List Value} {Q : Value → Shared → Prop} (hB : bm.contains (.type "Exception") = true) (hAt : bm.contains (.type "AttributeError") = false) (hNm : bm.contains (.type "NameError") = false)
    (hC : h.get? C = some (excClassObj nm q C N bs bm hdct sn sub ab col dd k0 k1 k2 k3 k5 "Exception.__new__"))
    (hi : Looks (model prog w) ((h.push (tup0 rest)).push (exc0 C h.objs.size)) (typeLookup (.ref C) "__init__") (some (.ref fI))) (hb : ∀ self, Looks (model prog w) ((h.push (tup0 rest)).push (exc0 C h.objs.size)) (bindSpecial (.ref fI) self) (.ref fI, [self]))
    (hq : codeAny (model prog w) (A.under (.builtin "type.__call__" ⟨.ref C :: rest, []⟩)) (.call (.ref fI) ⟨.ref (h.objs.size + 1) :: rest, []⟩) (fun r s' => match r with | .ok (.ret v) => v = .none ∧ Q (.ref (h.objs.size + 1)) s' | .ok _ => False | .error e => E e s') ⟨(h.push (tup0 rest)).push (exc0 C h.objs.size), g, d, t, os⟩)
    (hrest : rest.length ≤ sizeLine := by size_fits) :
    wpAny (model prog w) A (call (.ref C) rest) Q E ⟨h, g, d, t, os⟩ := by
  have f1 := tc_lookup
  have f2 := tc_bind (.ref C)
  have hT : (⟨h, g, d, t, os⟩ : Shared).TypeIs (.ref C) "type" := ⟨_, hC, rfl⟩
  refine wpAny_call (codeAny_of_tree ?_)
  show wpAny _ _ (callAny (.ref C) _) _ _ _
  repeat (any_goals (first | assumption | with_reducible refine wpAny_loadPart_at hC ?_ | wp_step))
  refine ⟨rfl, ?_⟩
  refine codeAny_call_builtin_at (Code.quiet_builtin _ (by decide +kernel)) entry_typeCall (wpAny_check_type_call_sub hC (ex_type_call (hrest := hrest) hB hAt hNm hC hi hb ?_))
  exact hq
end
end Mine
end

section
set_option maxRecDepth 100000
open PySem PySem.W PySem.Builtin PySem.Builtin.ObjectAttr PyProof.Rows PySem.Calls
namespace Mine
theorem ex_refuse (self : Value) : refuseLoop self "__setattr__" [.type "Exception", .type "BaseException", .type "object"] = pure () := by
  unfold refuseLoop
  kernel_rfl
/-- what holds of an exception's class -/
structure ExCls (K : Frag) (C : Addr) (own : List Addr) : Prop where
  mro : (clsIn K C).map (·.mro) = some (own.map (fun a => Value.ref a) ++ [.type "Exception", .type "BaseException", .type "object"])
  sa : findIn K (.ref C) "__setattr__" = some (some (.builtin "object.__setattr__"))
  ga : findIn K (.ref C) "__getattribute__" = some (some (.builtin "BaseException.__getattribute__"))
  gt : findIn K (.ref C) "__getattr__" = some none
  hd : hasDictIn K C = true
theorem refuse_own (self : Value) : ∀ own : List Addr, refuseLoop self "__setattr__" (own.map (fun a => Value.ref a) ++ [.type "Exception", .type "BaseException", .type "object"]) = pure ()
  | [] => ex_refuse self
  | a :: l => by
    rw [List.map_cons, List.cons_append, refuseLoop_ref]
    exact refuse_own self l
section
variable {prog : Program} {w : World} {A : Around} {R : Result → Shared → Prop} {E : Value → Shared → Prop} {s : Shared} {K : Frag} {C x : Addr} {own : List Addr}
theorem ex_osa_open {ox : Obj} {od : Option Obj} {name : Str} {tk : Tok} {v : Value} (k : ExCls K C own) (X : K.In s.heap) (I : InstAt s.heap x ox C od) (ht : takerIn K C name = some none)
    (h : ∀ b, wpAny (model prog w) A.in1 (storeInOwnDict (.ref x) (.ref C) (.str name tk) name v b)
      (fun fin s' => match fin with | .done f => R (.ok f) s' | .again c' => c'.quiet = true ∧ codeAny (model prog w) A c' R s') (fun e s' => R (.error e) s') s) :
    codeAny (model prog w) A (.call (.builtin "object.__setattr__") ⟨[.ref x, .str name tk, v], []⟩) R s := by
  have SF := PySem.F.store_object
  obtain ⟨cd, hc, ho⟩ := Option.map_eq_some_iff.mp k.mro
  have ne : cd.mro.isEmpty = false := by rw [ho]; cases own <;> rfl
  have has : cd.mro.contains (.type "object") = true := by rw [ho]; simp
  have sub : Looks (model prog w) s.heap (isInstance (.ref x) (.type "object")) true := I.type.andThen (looks_mroIn X (by unfold mroIn; rw [hc, Option.bind_some, if_neg (by rw [ne]; decide), has]))
  refine codeAny_call_builtin SF.slot.plain SF.entry (@check_slot (model prog w) _ _ s "object.__setattr__" "object" "__setattr__" (.ref x) [.str name tk, v] [] _ SF.kind SF.split sub (SF.args (.ref x) (.str name tk) v) ?_)
  obtain ⟨attr, ha, hr⟩ := Option.bind_eq_some_iff.mp ht
  have hm : Looks (model prog w) s.heap (mroOf (.ref C)) cd.mro := (looks_clsIn X hc).andThen .now
  have L3 : Looks (model prog w) s.heap (storeTaker? attr) none := by
    cases attr with
    | none => cases hr; exact .now
    | some a =>
      obtain ⟨b, hb, hbn⟩ := Option.map_eq_some_iff.mp hr
      refine (looks_takesIn X hb).andThen ?_
      cases b with
      | false => exact .now
      | true => cases hbn
  rw [osa_eq, refuse_eq]
  refine wpAny_bind (wpAny_bind (I.type.here (wpAny_bind (hm.here ?_))))
  rw [ho, refuse_own]
  refine wpAny_pure (wpAny_bind (I.type.here (wpAny_bind ((looks_findIn X ha).here (wpAny_bind (L3.here ?_))))))
  exact h _
end
section
variable {g : Gl} {f : Fm} {A : Around} {vs : List (Option Value)} {news : Ledger} {r : Rs} {s : Shared} {E : Value → Shared → Prop} {C x dx : Addr} {own : List Addr} {name : Str} {v : Value} {es : List DictEntry} {n : Nat}
theorem st_storeInDict {tk : Tok} {P : Fin → Shared → Prop} (hs : St f vs news r s) (hm : (dx, dictOf es n) ∈ news) (hl : (getL name es).isSome = true) (hz : ∀ h k, (putL name h k v es).length ≤ 1000)
    (cont : ∀ h t s', St f vs (Mine.put dx (dictOf (putL name h (.str name t) v es) (putN name es n)) news) r s' → P (.done (.ret .none)) s') : wpAny g.M A (storeInDict dx (.str name tk) name v) P E s := by
  have D := hs.N.get hm
  unfold storeInDict
  refine wpAny_bind (wpAny_pure (wpAny_bind ?_))
  unfold nsSet
  refine wpAny_bind (wpAny_bind (wpAny_askSetting (wpAny_pure (wpAny_bind (wpAny_mkText (wpAny_bind (wpAny_loadPart D ?_)))))))
  have c : (!es.toArray.any (·.key.isStr name) && es.toArray.any (·.refKey)) = false := by
    rw [← Array.any_toList, ← Array.any_toList]
    unfold getL at hl
    split at hl
    · rename_i en he
      rw [List.any_eq_true.mpr ⟨en, List.mem_of_find?_eq_some he, List.find?_some he⟩]; rfl
    · split at hl
      · cases hl
      · rename_i z; rw [Bool.not_eq_true] at z; rw [z, Bool.and_false]
  dsimp only
  rw [aRefKeyMayBeTheName_at, c]
  refine wpAny_updatePart D ?_
  have e := putName_dict name (PyData.keyHash g.w.params name) (.str name s.toks) v es n
  have z := hs.put (t := s.toks + 1) (ob' := dictOf (putL name (PyData.keyHash g.w.params name) (.str name s.toks) v es) (putN name es n)) hm (Heap.SameBut.update ..) (by
    have := Heap.get?_update_self (Obj.putName name (PyData.keyHash g.w.params name) (.str name s.toks) v) D (by rw [e]; rfl)
    rw [this, e])
  refine wpAny_bind (wpAny_lookBehind (z.N.get (mem_put_self hm)) (pastItsLine_dict (by rw [List.size_toArray]; have := hz (PyData.keyHash g.w.params name) (.str name s.toks); show _ ≤ 2 ^ 24 + 1; omega)) ?_)
  exact wpAny_pure (cont _ _ _ z)
/-- the first name stored on an exception: its dict is made -/
theorem ex_set_new {fl : Array Value} {Q : Unit → Shared → Prop} (k : ExCls g.K C own) (cx : Cx g f) (hs : St f vs ((x, { cls := .ref C, data := .fields fl }) :: news) r s) (ht : takerIn g.K C name = some none)
    (cont : ∀ dx h t s', St f vs ((dx, dictOf [⟨h, .str name t, v⟩] 1) :: (x, { cls := .ref C, dict := some dx, data := .fields fl }) :: news) r s' → Q () s') : wpAny g.M A (setAttr (.ref x) name v) Q E s := by
  have X : g.K.In s.heap := cx.X.keeps hs.F.keep
  have I : InstAt s.heap x { cls := .ref C, data := .fields fl } C none := ⟨hs.N.get (.head _), rfl, rfl, trivial⟩
  obtain ⟨cd, hc, hd'⟩ := any_some k.hd
  refine set_plain X I k.sa (ex_osa_open (s := { s with toks := s.toks + 1 }) k X I ht fun b => ?_)
  have hs1 := hs.tok (t := s.toks + 1)
  unfold storeInOwnDict
  refine wpAny_bind (wpAny_pure ?_)
  have hx := hs.N.get (.head _)
  refine wpAny_bind (wpAny_bind (wpAny_loadPart hx ?_))
  dsimp only
  refine wpAny_bind (Looks.here (s := { s with toks := s.toks + 1 }) (looks_clsIn X hc) ?_)
  rw [hd']
  have z := hs.alloc (ob := dictOf [] 0) (t := s.toks + 1) rfl
  have hmx : (x, ({ cls := .ref C, data := .fields fl } : Obj)) ∈ (s.heap.objs.size, dictOf [] 0) :: (x, { cls := .ref C, data := .fields fl }) :: news := .tail _ (.head _)
  have hx' := z.N.get hmx
  refine wpAny_bind (wpAny_alloc (wpAny_bind (wpAny_update hx' ?_)))
  have z2 := z.put (t := s.toks + 1) (ob' := { cls := .ref C, dict := some s.heap.objs.size, data := .fields fl }) hmx (Heap.SameBut.update ..) (by
    have := Heap.get?_update_self (fun o : Obj => { o with dict := some s.heap.objs.size }) hx' rfl
    exact this)
  have z3 := z2.at (k := 1) rfl
  refine wpAny_pure (a := some s.heap.objs.size) ?_
  refine st_storeInDict (es := []) (n := 0) z3 (.head _) rfl (fun _ _ => Nat.le_of_ble_eq_true rfl) fun h t s' hs' => ?_
  exact cont _ _ _ _ (hs'.at (k := 0) rfl)
abbrev excO (C dx : Addr) (fl : Array Value) : Obj := { cls := .ref C, dict := some dx, data := .fields fl }
theorem ex_set {fl : Array Value} {Q : Unit → Shared → Prop} (k : ExCls g.K C own) (cx : Cx g f) (hs : St f vs news r s) (hx : (x, excO C dx fl) ∈ news) (hd : (dx, dictOf es n) ∈ news) (ht : takerIn g.K C name = some none) (hl : (getL name es).isSome = true) (hz : ∀ h k, (putL name h k v es).length ≤ 1000)
    (cont : ∀ h t s', St f vs (Mine.put dx (dictOf (putL name h (.str name t) v es) (putN name es n)) news) r s' → Q () s') : wpAny g.M A (setAttr (.ref x) name v) Q E s := by
  have X : g.K.In s.heap := cx.X.keeps hs.F.keep
  have I : InstAt s.heap x (excO C dx fl) C (some (dictOf es n)) := ⟨hs.N.get hx, rfl, rfl, hs.N.get hd⟩
  obtain ⟨cd, hc, hd'⟩ := any_some k.hd
  refine set_plain X I k.sa (ex_osa_open (s := { s with toks := s.toks + 1 }) k X I ht fun b => ?_)
  unfold storeInOwnDict
  refine wpAny_bind (wpAny_pure ?_)
  refine wpAny_bind (wpAny_bind (wpAny_loadPart (hs.N.get hx) ?_))
  dsimp only
  refine wpAny_bind (Looks.here (s := { s with toks := s.toks + 1 }) (looks_clsIn X hc) ?_)
  rw [hd']
  refine wpAny_pure (a := some dx) ?_
  exact st_storeInDict (hs.tok (t := s.toks + 1)) hd hl hz cont
theorem ex_get {fl : Array Value} {Q : Value → Shared → Prop} {expr : Bool} (k : ExCls g.K C own) (cx : Cx g f) (hs : St f vs news r s) (hx : (x, excO C dx fl) ∈ news) (hd : (dx, dictOf es n) ∈ news) (hf : findObj g.K C (some (dictOf es n)) name = some (.value v)) (hh : handedIn v = true)
    (hB : mroIn g.K C (.type "BaseException") = some true) (cont : ∀ s', St f vs news r s' → Q v s') : wpAny g.M A (getAttr (.ref x) name expr) Q E s := by
  have X : g.K.In s.heap := cx.X.keeps hs.F.keep
  have I : InstAt s.heap x (excO C dx fl) C (some (dictOf es n)) := ⟨hs.N.get hx, rfl, rfl, hs.N.get hd⟩
  have done := cont { s with toks := s.toks + 1 } hs.tok
  clear cont
  obtain ⟨h, gg, d, t, os⟩ := s
  dsimp only at X I done
  have L0 := I.type (M := g.M)
  have L1 := looks_findIn (M := g.M) X k.ga
  have L2 := looks_findIn (M := g.M) X k.gt
  have L3 := looks_find (M := g.M) X I hf
  have L4 : Looks g.M h (isInstance (.ref x) (.type "BaseException")) true := L0.andThen (looks_mroIn X hB)
  unfold getAttr getAttrBy
  refine wpAny_bind (wpAny_mkText (wpAny_holding (wpAny_bind (L0.at (wpAny_bind (L1.at ?_))))))
  have hx2 : (Value.builtin "BaseException.__getattribute__" == Value.builtin "object.__getattribute__") = false := by decide +kernel
  have hx1 : (onTheHeap (Value.ref C) && Value.builtin "BaseException.__getattribute__" == Value.builtin "object.__getattribute__") = false := by rw [hx2]; rfl
  have hx0 : (expr && onTheHeap (Value.builtin "BaseException.__getattribute__")) = false := by cases expr <;> rfl
  dsimp only
  rw [if_neg (by rw [hx1]; decide)]
  unfold getAttrByItsOwn hookBefore callGetattribute boundAndCalled
  refine wpAny_bind (Looks.at (show Looks g.M h (if onTheHeap (.ref C) then typeLookup (.ref C) "__getattr__" else pure none) none from L2) ?_)
  refine wpAny_bind (wpAny_attempt (wpAny_holding ?_))
  rw [if_neg (by rw [hx0]; decide)]
  refine wpAny_bind (wpAny_of_eq (PySem.F.attrBase_Exception.ga.bind (.ref x)) ?_)
  have hk : builtinKind "BaseException.__getattribute__" = some .slot := by decide +kernel
  have hsplit : splitId "BaseException.__getattribute__" = some ("BaseException", "__getattribute__") := by decide +kernel
  refine wpAny_call (codeAny_call_builtin PySem.F.attrBase_Exception.ga.plain PySem.F.entry_bexc_ga (@check_slot g.M _ _ _ "BaseException.__getattribute__" "BaseException" "__getattribute__" (.ref x) [.str name t] [] _ hk hsplit L4 (PySem.F.args_bexc_ga (.ref x) (.str name t)) ?_))
  refine wpAny_bind (wpAny_pure (wpAny_bind (wpAny_pure (wpAny_bind (L0.at (wpAny_bind (L3.at ?_)))))))
  refine wpAny_pure ?_
  show wpAny _ _ (handedOut v) _ _ _
  rw [handedOut_of hh]; exact wpAny_pure done
end
end Mine
end

section
set_option maxRecDepth 100000
open PySem PySem.W PySem.W.X PySem.Builtin PySem.Builtin.ObjectAttr PyProof.Rows PySem.Calls
set_option maxHeartbeats 4000000
namespace Mine
theorem dummyFill21 : (hd.heap_39 = hd.heap_39) ∧ (PySem.Challenge.rw_sv0018_01 = PySem.Challenge.rw_sv0018_01) := by
  k_fill
  exact ⟨rfl, rfl⟩
/-- all the room there is -/
abbrev roomA : Around := { handled := none, depth := 900, frames := none, guards := none, units := 7000 }
theorem wpAny_room {α : Type} {M : Model} {A : Around} {m : Sem α} {Q : α → Shared → Prop} {E : Value → Shared → Prop} {s : Shared} (h : wpAny M roomA m Q E s) (hh : A.handled = none) (hd : A.depth ≤ 900) (hu : A.units ≤ 7000) : wpAny M A m Q E s :=
  fun Γ p hΓ => h Γ p ⟨hΓ.1.trans hh, Nat.le_trans hΓ.2.1 hd, (fun _ h => nomatch h), (fun _ h => nomatch h), Nat.le_trans hΓ.2.2.2.2 hu⟩
local macro_rules | `(tactic| x_close) => `(tactic| exact ⟨_, _, rfl, rfl, by assumption⟩)
theorem mw_get0 {w : World} {h : Heap} {gs : Array GenState} {d : Drawn} {tk : Nat} {os : OsState} {x dx : Addr} {fl : Array Value} (X : (hd.heap_39 w.params).In h) (hx : h.get? x = some { cls := .ref 69, dict := some dx, data := .fields fl }) :
    wpAny (model PySem.Challenge.rw_sv0018_01.row.prog w) roomA (call (.builtin "wrapper_descriptor.__get__") [.builtin "Exception.__init__", .ref x, .ref 69])
      (fun v s' => ∃ a h', v = .ref a ∧ s' = ⟨h', gs, d, tk, os⟩ ∧ Mem h h' [] [(a, { cls := .type "method-wrapper", data := .fields #[.builtin "Exception.__init__", .ref x] })]) (fun _ _ => False) ⟨h, gs, d, tk, os⟩ := by
  x_run
theorem mw_get {w : World} {A : Around} {Q E : Value → Shared → Prop} {h : Heap} {gs : Array GenState} {d : Drawn} {tk : Nat} {os : OsState} {x dx : Addr} {fl : Array Value} (X : (hd.heap_39 w.params).In h) (hx : h.get? x = some { cls := .ref 69, dict := some dx, data := .fields fl })
    (hh : A.handled = none) (hd : A.depth ≤ 900) (hu : A.units ≤ 7000)
    (k : ∀ a h', Mem h h' [] [(a, { cls := .type "method-wrapper", data := .fields #[.builtin "Exception.__init__", .ref x] })] → Q (.ref a) ⟨h', gs, d, tk, os⟩) :
    wpAny (model PySem.Challenge.rw_sv0018_01.row.prog w) A (call (.builtin "wrapper_descriptor.__get__") [.builtin "Exception.__init__", .ref x, .ref 69]) Q E ⟨h, gs, d, tk, os⟩ :=
  wpAny_mono (wpAny_room (mw_get0 X hx) hh hd hu) (fun v s' ⟨a, h', e1, e2, m⟩ => by subst e1 e2; exact k a h' m) fun _ _ z => z.elim
theorem wd_type : typeOf (.builtin "Exception.__init__") = pure (.type "wrapper_descriptor") := by kernel_rfl
theorem wd_get : typeLookup (.type "wrapper_descriptor") "__get__" = pure (some (.builtin "wrapper_descriptor.__get__")) := by rw [typeLookup_type, builtinLookup_eq_fast]; kernel_rfl
section
variable {prog : Program} {w : World} {A : Around} {E : Value → Shared → Prop} {h : Heap} {g : Array GenState} {d : Drawn} {t : Nat} {os : OsState}
/-- super().NAME that comes to Exception.__init__ -/
theorem su_ga {so D x C : Addr} {l₀ l : List Value} {K : Frag} {name : Str} {tk : Tok} {Q : Fin → Shared → Prop}
    (hso : h.get? so = some (ks_superObj D x C)) (hno : Looks (model prog w) h (opaqueClassAbove (.ref C)) none)
    (hC : Looks (model prog w) h (mroOf (.ref C)) l₀) (hl : (l₀.dropWhile (· != .ref D)).drop 1 = l) (X : K.In h)
    (hf : alongIn K name l = some (some (.builtin "Exception.__init__"))) (hxC : x ≠ C) (hn : (name == ("__class__" : Str)) = false)
    (hq : wpAny (model prog w) A (call (.builtin "wrapper_descriptor.__get__") [.builtin "Exception.__init__", .ref x, .ref C]) (fun v s' => Q (.done (.ret v)) s') E ⟨h, g, d, t, os⟩) :
    wpAny (model prog w) A (Builtin.«super.__getattribute__» ⟨[.ref so, .str name tk], []⟩) Q E ⟨h, g, d, t, os⟩ := by
  have hne : (Value.ref x == Value.ref C) = false := by simp [hxC]
  have hdt : (ks_superObj D x C).data = .fields #[.ref D, .ref x, .ref C] := rfl
  have f0 : (#[.ref D, .ref x, .ref C] : Array Value)[0]? = some (.ref D) := rfl
  have f1 : (#[.ref D, .ref x, .ref C] : Array Value)[1]? = some (.ref x) := rfl
  have f2 : (#[.ref D, .ref x, .ref C] : Array Value)[2]? = some (.ref C) := rfl
  have w1 := wd_type
  have w2 := wd_get
  unfold Builtin.«super.__getattribute__»
  repeat (first
    | (with_reducible refine wpAny_field hso hdt f0 ?_) | (with_reducible refine wpAny_field hso hdt f1 ?_) | (with_reducible refine wpAny_field hso hdt f2 ?_)
    | (with_reducible refine ks_wpAny_notOpaque hno ?_)
    | (with_reducible refine Looks.at hC ?_; rw [hl])
    | (refine ks_forIn_along X (fun _ _ => rfl) rfl ?_ hf)
    | (with_reducible refine wpAny_of_eq wd_type ?_)
    | (with_reducible refine wpAny_of_eq wd_get ?_)
    | (simp only [hn, hne, Bool.or_false, Bool.false_eq_true, if_false])
    | (with_reducible refine wpAny_mono hq (fun v s' z => ?_) (fun _ _ z => z))
    | wp_step
    | dsimp only)
  all_goals exact z
theorem su_getMethod {so D x C dx : Addr} {l₀ l : List Value} {K : Frag} {name : Str} {pl : Sem Bool} {Q : Value × List Value → Shared → Prop}
    (hso : h.get? so = some (ks_superObj D x C)) (hno : Looks (model prog w) h (opaqueClassAbove (.ref C)) none)
    (hC : Looks (model prog w) h (mroOf (.ref C)) l₀) (hl : (l₀.dropWhile (· != .ref D)).drop 1 = l) (X : K.In h)
    (hf : alongIn K name l = some (some (.builtin "Exception.__init__"))) (hxC : x ≠ C) (hn : (name == ("__class__" : Str)) = false) {P : Addr → Heap → Prop}
    (hmw : ∀ (A' : Around) (t' : Nat), A'.handled = A.handled → A'.depth ≤ A.depth + 2 → A'.units ≤ A.units + 4 → wpAny (model prog w) A' (call (.builtin "wrapper_descriptor.__get__") [.builtin "Exception.__init__", .ref x, .ref C]) (fun v s' => ∃ a h', v = .ref a ∧ s' = ⟨h', g, d, t', os⟩ ∧ P a h') (fun _ _ => False) ⟨h, g, d, t', os⟩)
    (hq : ∀ a h', P a h' → Q (.ref a, []) ⟨h', g, d, t + 1, os⟩) :
    wpAny (model prog w) A (getMethod (.ref so) name pl) Q E ⟨h, g, d, t, os⟩ := by
  have hlk := PySem.F.ks_slot_super_ga.lookup
  have hcan := PySem.F.ks_canon_super_ga
  have hT : ∀ t', (⟨h, g, d, t', os⟩ : Shared).TypeIs (.ref so) "super" := fun _ => ⟨_, hso, rfl⟩
  unfold getMethod
  refine wpAny_bind (wpAny_specialOf (hT _) hlk ?_)
  show wpAny _ _ (if (Manifest.canonical "super.__getattribute__" != "object.__getattribute__") = true then _ else _) _ _ _
  rw [if_pos hcan]
  unfold getAttr getAttrBy
  refine wpAny_bind (wpAny_bind (wpAny_mkText (wpAny_holding (wpAny_bind (wpAny_typeOf (hT _) (wpAny_bind (wpAny_of_eq hlk ?_)))))))
  show wpAny _ _ (getAttrByItsOwn (.ref so) (.str name t) (.type "super") (.builtin "super.__getattribute__") true false) _ _ _
  unfold getAttrByItsOwn hookBefore callGetattribute boundAndCalled
  refine wpAny_bind (wpAny_of_eq (show (if onTheHeap (.type "super") then typeLookup (.type "super") "__getattr__" else pure none) = pure none from rfl) ?_)
  refine wpAny_bind (wpAny_attempt (wpAny_holding ?_))
  show wpAny _ _ (bindSpecial (.builtin "super.__getattribute__") (.ref so) >>= _) _ _ _
  refine wpAny_bind (wpAny_of_eq (PySem.F.ks_slot_super_ga.bind _) ?_)
  refine wpAny_mono (Q := fun v s' => ∃ a h', v = .ref a ∧ s' = ⟨h', g, d, t + 1, os⟩ ∧ P a h') (E := fun _ _ => False)
    (wpAny_call_entry PySem.F.ks_slot_super_ga (hT _) PySem.F.ks_entry_super_ga (su_ga hso hno hC hl X hf hxC hn (wpAny_mono (hmw _ (t + 1) rfl ?_ ?_) (fun v s' z => ⟨_, rfl, z⟩) fun _ _ z => z)) (PySem.F.ks_gaArgs_super _ _)) (fun v s' hv => ?_) fun _ _ z => z.elim
  · show A.depth ≤ A.depth + 2
    omega
  · show A.units + 1 ≤ A.units + 4
    omega
  obtain ⟨a, h', rfl, rfl, p⟩ := hv
  exact wpAny_pure (wpAny_pure (hq a h' p))
/-- Exception.__init__ on an own class's object -/
theorem ex_init {C e : Addr} {rest : List Value} {R : Result → Shared → Prop} {t0 dx : Addr}
    (he : h.get? e = some (excO C dx #[.ref t0, .none, .none, .none, .bool false, .none])) (hrest : rest.length ≤ sizeLine := by size_fits)
    (hq : R (.ok (.ret .none)) ⟨(h.push (tup0 rest)).update e (Obj.mapFields fun x => x.setIfInBounds 0 (.ref h.objs.size)), g, d, t, os⟩) : codeAny (model prog w) A (.builtin "Exception.__init__" ⟨.ref e :: rest, []⟩) R ⟨h, g, d, t, os⟩ := by
  refine codeAny_builtin Fx0.initEntry ?_
  wp_walk
  all_goals exact hq
theorem ex_bound {C N e : Addr} {nm q : Str} {bs bm : List Value} {hdct : Bool} {sn : List Str} {sub : List Value} {ab : Bool} {col : Option Bool} {dd : Option Addr} {k0 k1 k2 k3 k5 : Option Value} {rest : List Value} {Q : Unit → Shared → Prop} {oe : Obj}
    (hB : bm.contains (.type "Exception") = true) (hC : h.get? C = some (excClassObj nm q C N bs bm hdct sn sub ab col dd k0 k1 k2 k3 k5 "Exception.__new__")) (he : h.get? e = some oe) (hcls : oe.cls = .ref C)
    (hq : Q () ⟨h, g, d, t, os⟩) : wpAny (model prog w) A (checkBoundCall "Exception.__init__" ⟨.ref e :: rest, []⟩) Q E ⟨h, g, d, t, os⟩ := by
  have hcB : (Value.ref C :: bm).contains (.type "Exception") = true := by rw [List.contains_cons, hB, Bool.or_true]
  have hshort := Fx0.noStar
  unfold checkBoundCall
  simp only [Fx0.initKind, Fx0.initSplit, Fx0.initRow]
  repeat (first | (with_reducible refine wpAny_loadPart_at he ?_; rw [hcls]) | with_reducible refine wpAny_loadPart_at hC ?_ | (with_reducible refine wpAny_isSubtype_exc hC ?_; rw [hcB]) | wp_step)
  refine wpAny_onRaise ?_
  rw [show ∀ (a b : String) (n : Nat), Bind.check ⟨.positional, "*", "Exception", .self, [⟨"args", .varPos, false⟩]⟩ a b n (List.map (fun x => x.fst) ({ pos := Value.ref e :: rest } : Args).kw) = pure () from
    fun a b n => check_star_args _ _ _ _ _ _]
  exact wpAny_pure hq
end
end Mine
end

section
set_option maxRecDepth 100000
open PySem PySem.W PySem.Builtin PySem.Builtin.ObjectAttr PyProof.Rows PySem.Calls
set_option maxHeartbeats 4000000
namespace Mine
theorem dummyFill22 : (hd.heap_39 = hd.heap_39) ∧ (PySem.Challenge.rw_sv0018_01 = PySem.Challenge.rw_sv0018_01) := by
  k_fill
  exact ⟨rfl, rfl⟩
section
variable {g : Gl} {f : Fm} {A : Around} {vs : List (Option Value)} {news : Ledger} {r : Rs} {s : Shared} {E : Value → Shared → Prop} {C x dx : Addr} {own : List Addr} {v : Value} {es : List DictEntry} {n : Nat} {pos : Pos} {attr : Str} {e : Expr} {fl : Array Value}
theorem PE.exAttr (k : ExCls g.K C own) (cx : Cx g f) (ho : PE g f A vs news r e (· = .ref x)) (hx : (x, excO C dx fl) ∈ news) (hd : (dx, dictOf es n) ∈ news) (ha : findIn g.K (.ref C) attr = some none) (hl : getL attr es = some (some v)) (hh : handedIn v = true)
    (hB : mroIn g.K C (.type "BaseException") = some true) (he : eval (.Attribute e attr pos) f.env = (do let o ← eval e f.env; standAt pos.atName; let r ← holding [o] (getAttr o attr true); letTemporaryGo e o r; pure r) := by rfl) :
    PE g f A vs news r (.Attribute e attr pos) (· = v) :=
  fun _ _ _ hs kk => Attribute_any_ (ho _ _ _ hs fun _ s₁ q hs₁ => by
    subst q
    exact ex_get k cx hs₁ hx hd (findObj_own k.hd ha rfl hl) hh hB fun s' hs' => kk v s' rfl hs') he
/-- a def that asks super() -/
theorem CL.enterSuper {name qual : Str} {params : Arguments} {body : List Stmt} {scope : Scope} {dV kV doc pm cdv ct oc : Value} {an od : Option Addr} {osl : Array (Option Value)} {fa cc : Addr} {args : List Value} {d : Nat} {P : Value → Ledger → Rs → Prop}
    (cx : Cx g f) (rm : Rm f A (d + 1)) (ps : List Str)
    (ho : g.K.lookup fa = some ⟨oc, od, .func (ksFn name qual params body scope dV kV doc pm an cdv ct cc), osl⟩) (hcd : codeIn g.K cdv qual = true)
    (hb : bindArgs (ksFn name qual params body scope dV kV doc pm an cdv ct cc) ⟨args, []⟩ = pure (ps.zip args)) (hl : ps.length = args.length) (hok : defOK scope ps [] = true)
    (h : ∀ (f' : Fm) (A' : Around) (s' : Shared), Cx g f' → Rm f' A' d → f'.ns = ps → f'.env = ksEnv qual scope f'.L fa cdv cc → St f' (args.map some) news r s' →
      _root_.PySem.wpAt g.M A' (.func body f'.env) (execs body f'.env) (Ends f' P) (fun _ _ => False) s') : CL g f A vs news r fa args P := by
  simp only [defOK, Bool.and_eq_true, beq_iff_eq, decide_eq_true_eq, Bool.not_eq_true', List.all_eq_true, bne_iff_ne, ne_eq, List.append_nil] at hok
  obtain ⟨⟨⟨⟨⟨hnd, hloc⟩, hcell⟩, hco⟩, hgen⟩, hk⟩ := hok
  intro R s hs k
  refine ks_code_super cx.B hs.F cx.X hs.N cx.T rm.fr cx.fr cx.hk ho hcd rm.room (BindsTo.of_eq hb) ?_ ?_ (fun x hx => hcell x hx) hco hgen hk
  · intro y hy
    have : y.1 ∈ ps := (List.of_mem_zip (show (y.1, y.2) ∈ ps.zip args from hy)).1
    exact of_decide_eq_true (List.all_eq_true.mp hloc y.1 this)
  · intro g' L' h₁ FG F' N' B' X' T' _
    have hst : St ⟨A, f.base, f.env :: f.outer, g', L', ksEnv qual scope L' fa cdv cc, ps⟩ (args.map some) news r { s with heap := h₁, toks := s.toks + (ps.zip args).length } := by
      refine ⟨?_, N', hs.nd, hs.gens, hs.drawn, hs.os⟩
      have := lm_start (ps := ps) (vals := args) (ns := []) (by rw [List.append_nil]; exact hnd) hl
      rw [List.append_nil] at this
      simp only [List.length_nil, List.replicate_zero, List.append_nil] at this
      show Fr g' L' h₁ (lm ps _)
      rw [← this]; exact F'
    have cx' : Cx g ⟨A, f.base, f.env :: f.outer, g', L', ksEnv qual scope L' fa cdv cc, ps⟩ :=
      ⟨B', X', T', rfl, rfl, rfl, rfl, hk, hnd, fun i x hx => allLocal_of hloc hx⟩
    have rm' : Rm ⟨A, f.base, f.env :: f.outer, g', L', ksEnv qual scope L' fa cdv cc, ps⟩ (A.deeper (ksEnv qual scope L' fa cdv cc)) d :=
      ⟨Around.frames_deeper rm.fr, by have := rm.dep; show A.depth + 1 + _ < _; omega, by have := rm.uni; show A.units + 3 + _ < _; omega, rm.hd⟩
    refine ks_wpAt_mono (h _ _ _ cx' rm' rfl rfl hst) (fun fl s' hE => ?_) (fun _ _ z => z.elim)
    obtain ⟨vs', news', r', hp, hs'⟩ := hE
    refine ⟨L', _, news', hs'.F, hs'.N, fun F'' N'' => ?_⟩
    exact k _ news' r' s' hp ⟨F'', N'', hs'.nd, hs'.gens, hs'.drawn, hs'.os⟩
end
end Mine
end

section
set_option maxRecDepth 100000
open PySem PySem.W PySem.Builtin PySem.Builtin.ObjectAttr PyProof.Rows PySem.Calls
set_option maxHeartbeats 4000000
namespace Mine
theorem dummyFill23 : (hd.heap_39 = hd.heap_39) ∧ (PySem.Challenge.rw_sv0018_01 = PySem.Challenge.rw_sv0018_01) := by
  k_fill
  exact ⟨rfl, rfl⟩
abbrev IsP (g : Gl) : Prop := g.prog = PySem.Challenge.rw_sv0018_01.row.prog
theorem K.e69 {g : Gl} (hK : IsK g) : ExCls g.K 69 [69, 47] := by rw [hK]; exact ⟨by kernel_rfl, by k_is, by k_is, by k_is, by k_is⟩
section
variable {g : Gl} {f : Fm} {A : Around} {vs : List (Option Value)} {news : Ledger} {r : Rs} {s : Shared} {E : Value → Shared → Prop} {x dx a : Addr} {v : Value} {es : List DictEntry} {n : Nat} {pos : Pos} {attr : Str} {e : Expr} {fl : Array Value} {o : Obj}
theorem St.mem {h' : Heap} {tk : Nat} (hs : St f vs news r s) (D : X.Mem s.heap h' [] [(a, o)]) : St f vs ((a, o) :: news) r ⟨h', s.gens, s.drawn, tk, s.os⟩ := by
  have keep : ∀ b o, s.heap.get? b = some o → h'.get? b = some o := fun b o e => D.keep b o e (by show (X.hasCls o || true) = true; rw [Bool.or_true])
  have z := hs.ext (tk := tk) keep
  have w := D.nw (a, o) (.head _)
  have off : a ∉ news.map (·.1) := fun hm => by
    obtain ⟨p, hp, e⟩ := List.mem_map.mp hm
    have := (hs.N p hp).1
    rw [e, w.2] at this; cases this
  refine ⟨z.F, fun p hp => ?_, List.nodup_cons.mpr ⟨off, hs.nd⟩, hs.gens, hs.drawn, hs.os⟩
  rcases List.mem_cons.mp hp with rfl | hp
  · refine ⟨w.1, fun q => ?_, ?_⟩
    · obtain ⟨oL, _, _, hL, _⟩ := hs.F.ns
      rw [← q, w.2] at hL; cases hL
    · cases q : f.h₀.get? a with
      | none => rfl
      | some o' => have := hs.F.keep _ _ q; rw [w.2] at this; cases this
  · exact z.N p hp
theorem St.more {h' : Heap} {tk : Nat} (hs : St f vs news r s) (F : Fr f.h₀ f.L h' (lm f.ns vs)) (N : News f.h₀ f.L h' ((a, o) :: news)) (l : ∀ p ∈ news, p.1 < a) : St f vs ((a, o) :: news) r ⟨h', s.gens, s.drawn, tk, s.os⟩ := by
  refine ⟨F, N, List.nodup_cons.mpr ⟨fun hm => ?_, hs.nd⟩, hs.gens, hs.drawn, hs.os⟩
  obtain ⟨p, hp, e⟩ := List.mem_map.mp hm
  exact absurd (l p hp) (by rw [e]; exact Nat.lt_irrefl _)
abbrev fl0 (t : Addr) : Array Value := #[.ref t, .none, .none, .none, .bool false, .none]
abbrev mwObj (x : Addr) : Obj := { cls := .type "method-wrapper", data := .fields #[.builtin "Exception.__init__", .ref x] }
/-- what an exception's __init__ leaves -/
def Inited (x dx : Addr) (news : Ledger) (r : Rs) (v : Value) (n' : Ledger) (r' : Rs) : Prop := v = .none ∧ r = r' ∧ (∃ t1, (x, excO 69 dx (fl0 t1)) ∈ n') ∧ ∀ p ∈ news, p.1 ≠ x → p.1 ≠ dx → p ∈ n'
theorem call_mw {rest : List Value} {t0 : Addr} {Q : Value → Shared → Prop} (hK : IsK g) (cx : Cx g f) (hs : St f vs news r s) (hx : (x, excO 69 dx (fl0 t0)) ∈ news) (ha : (a, mwObj x) ∈ news) (hrest : rest.length ≤ 1000)
    (k : ∀ t1 s', St f vs (Mine.put x (excO 69 dx (fl0 t1)) ((t1, tup0 rest) :: news)) r s' → Q .none s') : wpAny g.M A (call (.ref a) rest) Q E s := by
  have X : g.K.In s.heap := cx.X.keeps hs.F.keep
  obtain ⟨nm, qn, N, bs, bm, hdct, sn, sub, ab, col, dd, k0, k1, k2, k3, k5, hC, hB⟩ : ∃ nm qn N bs bm hdct sn sub ab col dd k0 k1 k2 k3 k5, g.K.lookup 69 = some (excClassObj nm qn 69 N bs bm hdct sn sub ab col dd k0 k1 k2 k3 k5 "Exception.__new__") ∧ bm.contains (.type "Exception") = true := by
    rw [hK]; exact ⟨_, _, _, _, [.ref 47, .type "Exception", .type "BaseException", .type "object"], _, _, _, _, _, _, _, _, _, _, _, by k_is, by decide⟩
  have hC' := X _ _ hC
  have he := hs.N.get hx
  have hm := hs.N.get ha
  refine wpAny_call (codeAny_of_tree ?_)
  show wpAny _ A.in1 (callAny (.ref a) _) _ _ _
  unfold callAny
  refine wpAny_bind (wpAny_load hm ?_)
  show wpAny _ _ (do checkBoundCall "Exception.__init__" ⟨.ref x :: rest, []⟩; again (.builtin "Exception.__init__" ⟨.ref x :: rest, []⟩)) _ _ _
  obtain ⟨h, gg, d, t, os⟩ := s
  refine wpAny_bind (ex_bound hB hC' he rfl ?_)
  refine wpAny_pure ⟨Code.quiet_builtin _ (by decide +kernel), ex_init he (by show _ ≤ 2 ^ 24; omega) ?_⟩
  have z := hs.alloc (ob := tup0 rest) (t := t) rfl
  have hx' : (x, excO 69 dx (fl0 t0)) ∈ (h.objs.size, tup0 rest) :: news := .tail _ hx
  have z2 := z.put (t := t) (ob' := excO 69 dx (fl0 h.objs.size)) hx' (Heap.SameBut.update ..) (by
    have := Heap.get?_update_self (Obj.mapFields fun x => x.setIfInBounds 0 (.ref h.objs.size)) (z.N.get hx') rfl
    exact this)
  exact k h.objs.size _ z2
end
end Mine
end

section
set_option maxRecDepth 100000
open PySem PySem.W PySem.Builtin PySem.Builtin.ObjectAttr PyProof.Rows PySem.Calls
set_option maxHeartbeats 4000000
namespace Mine
theorem dummyFill24 : (hd.heap_39 = hd.heap_39) ∧ (PySem.Challenge.rw_sv0018_01 = PySem.Challenge.rw_sv0018_01) := by
  k_fill
  exact ⟨rfl, rfl⟩
section
variable {g : Gl} {f : Fm} {A : Around} {vs : List (Option Value)} {news : Ledger} {r : Rs} {s : Shared} {E : Value → Shared → Prop} {x dx a so : Addr} {v : Value} {es : List DictEntry} {n : Nat} {pos : Pos} {attr : Str} {e : Expr} {fl : Array Value} {o : Obj}
/-- super().__init__ that comes to Exception.__init__ -/
theorem ks_method2 {pl : Sem Bool} {Q : Value × List Value → Shared → Prop} {t0 : Addr} (hK : IsK g) (hP : IsP g) (cx : Cx g f) (hh : A.handled = none) (hd : A.depth ≤ 890) (hu : A.units ≤ 6900) (hs : St f vs news r s) (hso : (so, ks_superObj 47 x 69) ∈ news) (hx : (x, excO 69 dx (fl0 t0)) ∈ news)
    (k : ∀ a s', St f vs ((a, mwObj x) :: news) r s' → Q (.ref a, []) s') : wpAny g.M A (getMethod (.ref so) "__init__" pl) Q E s := by
  have X : g.K.In s.heap := cx.X.keeps hs.F.keep
  have hm : ks_superIn g.K 69 47 "__init__" = some (some (.builtin "Exception.__init__")) := by rw [hK]; kernel_rfl
  cases hc : clsIn g.K 69 with
  | none => unfold ks_superIn at hm; rw [hc] at hm; cases hm
  | some cd =>
    unfold ks_superIn at hm
    rw [hc] at hm
    have hx' := hs.N.get hx
    have hso' := hs.N.get hso
    have hne : x ≠ 69 := fun q => by
      have e2 : ∃ o, s.heap.get? 69 = some o ∧ o.cls = .type "type" := by
        have : ∃ o, g.K.lookup 69 = some o ∧ o.cls = .type "type" := by rw [hK]; exact ⟨_, by k_is, rfl⟩
        obtain ⟨o, h1, h2⟩ := this
        exact ⟨o, X _ _ h1, h2⟩
      obtain ⟨o, h1, h2⟩ := e2
      rw [← q, hx'] at h1; cases h1; cases h2
    obtain ⟨h, gg, d, t, os⟩ := s
    refine su_getMethod (dx := dx) (P := fun a h' => PySem.W.X.Mem h h' [] [(a, mwObj x)]) hso' (looks_opaque X (by rw [hK]; k_is)) (l₀ := cd.mro) ?_ rfl X hm hne rfl (fun A' t' e1 e2 e3 => ?_) (fun a h' D => ?_)
    · exact fun A Q E s k q => wpAny_bind ((looks_clsIn X hc) A _ E s k (wpAny_pure q))
    · show wpAny (model g.prog g.w) A' _ _ _ _
      rw [hP]
      exact mw_get (hK ▸ X) hx' (e1.trans hh) (by omega) (by omega) fun a h' D => ⟨a, h', rfl, rfl, D⟩
    · exact k a _ (hs.mem D)
theorem init47 (hK : IsK g) (hP : IsP g) (cx : Cx g f) (rm : Rm f A 6) {t0 : Addr} {ht : Int} {tt : Tok} {v0 : Value} {msg : Str} {tk : Tok} (hx : (x, excO 69 dx (fl0 t0)) ∈ news) (hd : (dx, dictOf [⟨ht, .str "message" tt, v0⟩] 1) ∈ news) :
    CL g f A vs news r 37 [.ref x, .str msg tk] (Inited x dx news r) := by
  refine' CL.enterSuper (d := 5) cx rm ["self", "message"] ?ho ?hcd ?hb ?hl ?hok ?_
  case ho => refine IsK.look hK ?_; k_is
  case hcd => refine IsK.code hK ?_; k_is
  case hb => exact rfl
  case hl => exact rfl
  case hok => decide +kernel
  clear cx rm
  have hxd : ∀ {f : Fm} {vs : List (Option Value)} {r : Rs} {s : Shared}, St f vs news r s → x ≠ dx := fun hs q => by
    subst q
    cases nodup_same hs.nd hx hd
  intro f' A' s' cx rm hns henv hs
  have hxd := hxd hs
  have n0 : f'.ns[0]? = some ("self" : Str) := by rw [hns]; rfl
  have n1 : f'.ns[1]? = some ("message" : Str) := by rw [hns]; rfl
  obtain ⟨A₀, base, outer, h₀, L, env, ns⟩ := f'
  dsimp only at henv hns n0 n1
  subst henv
  replace hs : St ⟨A₀, base, outer, h₀, L, _, ns⟩ [some (.ref x), some (.str msg tk)] news r s' := hs
  refine ks_wpAt_execs_cons (ks_wpAt_Assign_Attr (_root_.PySem.wpAt_of_wpAny (PE.nameV cx n1 rfl rfl _ _ _ hs ?_)))
  rintro _ s₁ rfl hs
  refine PE.nameV cx n0 rfl rfl _ _ _ hs ?_
  rintro _ s₁ rfl hs
  refine ex_set (K.e69 hK) cx hs hx hd (by rw [hK]; k_is) rfl (fun _ _ => Nat.le_of_ble_eq_true rfl) ?_
  intro h t s₁ hs
  replace hs : St ⟨A₀, base, outer, h₀, L, _, ns⟩ [some (.ref x), some (.str msg tk)] (Mine.put dx (dictOf [⟨ht, .str "message" tt, .str msg tk⟩] 1) news) r s₁ := hs
  have hx := mem_put_ne (o' := dictOf [⟨ht, .str "message" tt, .str msg tk⟩] 1) hx hxd
  have hd := mem_put_self (o' := dictOf [⟨ht, .str "message" tt, .str msg tk⟩] 1) hd
  have hkeep : ∀ p ∈ news, p.1 ≠ x → p.1 ≠ dx → p ∈ Mine.put dx (dictOf [⟨ht, .str "message" tt, .str msg tk⟩] 1) news := fun p hp _ h2 => mem_put_ne hp h2
  generalize Mine.put dx (dictOf [⟨ht, .str "message" tt, .str msg tk⟩] 1) news = news1 at hs hx hd hkeep
  have X : g.K.In s₁.heap := cx.X.keeps hs.F.keep
  have I : InstAt s₁.heap x (excO 69 dx (fl0 t0)) 69 (some (dictOf [⟨ht, .str "message" tt, .str msg tk⟩] 1)) := ⟨hs.N.get hx, rfl, rfl, hs.N.get hd⟩
  obtain ⟨cd47, hD47⟩ : ∃ cd, clsIn g.K 47 = some cd := Option.isSome_iff_exists.mp (by rw [hK]; kernel_rfl)
  show _root_.PySem.wpAt _ _ _ (execs _ _) _ _ _
  refine ks_wpAt_execs_cons (ks_wpAt_Expr_any (ks_wpAt_MethodCall ?_))
  refine' ks_node (D := 47) (C := 69) (x := x) hs.F cx.X hs.N cx.T ?hf ?hhd ?hv I ?hcode ?hvs ?hfile ?hcell ?hD ?hsub ?hsuper ?hat ?hks ?hkc ?hka ?hk ?htop ?hboot ?_
  case hf => refine IsK.look hK ?_; k_is
  case hhd => exact rfl
  case hv => exact lm_get cx.nd n0 rfl
  case hcode => refine IsK.look hK ?_; k_is
  case hvs => exact rfl
  case hfile => rw [hP]; decide +kernel
  case hcell => refine IsK.look hK ?_; k_is
  case hD => exact hD47
  case hat => exact rfl
  case hks => exact rfl
  case hkc => exact rfl
  case hka => exact rfl
  case hk => exact rfl
  case hboot => exact rfl
  case hsub => rw [hK]; k_is
  case hsuper => rw [hK]; k_is
  case htop => rw [hP]; decide +kernel
  intro so h' F' N' l1
  have hs := hs.more (tk := s₁.toks) F' N' l1
  refine ks_method2 hK hP cx rm.hd (by have := rm.dep; omega) (by have := rm.uni; omega) hs (.head _) (.tail _ hx) ?_
  intro a s₂ hs
  refine callWith_of (P := fun h => h.get? a = some (mwObj x)) rfl (fun h e => ⟨.machine, .inr (.inl rfl), (Looks.ld (part := none) e).andThen .now⟩) (evalArgs_plain ?_)
  refine AR.cons (PE.exAttr (K.e69 hK) cx (PE.nameV cx n0 rfl rfl) (.tail _ (.tail _ hx)) (.tail _ (.tail _ hd)) (by rw [hK]; k_is) rfl rfl (by rw [hK]; k_is)) AR.nil rfl _ _ _ _ hs ?_
  rintro _ s₃ ⟨_, _, rfl, rfl, rfl⟩ hs
  refine ⟨hs.N.get (.head _), ?_⟩
  refine call_mw hK cx hs (.tail _ (.tail _ hx)) (.head _) (Nat.le_of_ble_eq_true rfl) ?_
  intro t1 s₄ hs
  show _root_.PySem.wpAt _ _ _ (execs [] _) _ _ _
  refine _root_.PySem.wpAt_of_wpAny (wpAny_execs_nil ?_)
  refine ⟨_, _, _, ⟨rfl, rfl, ⟨t1, mem_put_self (.tail _ (.tail _ (.tail _ hx)))⟩, fun p hp h1 h2 => ?_⟩, hs⟩
  exact mem_put_ne (.tail _ (.tail _ (.tail _ (hkeep p hp h1 h2)))) h1
end
end Mine
end

section
set_option maxRecDepth 100000
open PySem PySem.W PySem.Builtin PySem.Builtin.ObjectAttr PyProof.Rows PySem.Calls
set_option maxHeartbeats 4000000
namespace Mine
theorem dummyFill25 : (hd.heap_39 = hd.heap_39) ∧ (PySem.Challenge.rw_sv0018_01 = PySem.Challenge.rw_sv0018_01) := by
  k_fill
  exact ⟨rfl, rfl⟩
section
variable {g : Gl} {f : Fm} {A : Around} {vs : List (Option Value)} {news : Ledger} {r : Rs} {s : Shared} {E : Value → Shared → Prop} {x dx a so : Addr} {v : Value} {es : List DictEntry} {n : Nat} {pos : Pos} {attr : Str} {e : Expr} {fl : Array Value} {o : Obj}
theorem init69 (hK : IsK g) (hP : IsP g) (cx : Cx g f) (rm : Rm f A 9) {t0 : Addr} {msg : Str} {tk : Tok} :
    CL g f A vs ((x, exc0 69 t0) :: news) r 66 [.ref x, .str msg tk] (fun v n' r' => v = .none ∧ r = r' ∧ (∃ dx t1, (x, excO 69 dx (fl0 t1)) ∈ n') ∧ ∀ p ∈ news, p ∈ n') := by
  refine' CL.enterSuper (d := 8) cx rm ["self", "message"] ?ho ?hcd ?hb ?hl ?hok ?_
  case ho => refine IsK.look hK ?_; k_is
  case hcd => refine IsK.code hK ?_; k_is
  case hb => exact rfl
  case hl => exact rfl
  case hok => decide +kernel
  clear cx rm
  intro f' A' s' cx rm hns henv hs
  have n0 : f'.ns[0]? = some ("self" : Str) := by rw [hns]; rfl
  have n1 : f'.ns[1]? = some ("message" : Str) := by rw [hns]; rfl
  obtain ⟨A₀, base, outer, h₀, L, env, ns⟩ := f'
  dsimp only at henv hns n0 n1
  subst henv
  replace hs : St ⟨A₀, base, outer, h₀, L, _, ns⟩ [some (.ref x), some (.str msg tk)] ((x, exc0 69 t0) :: news) r s' := hs
  refine ks_wpAt_execs_cons (ks_wpAt_Assign_Attr (_root_.PySem.wpAt_of_wpAny (PE.nameV cx n1 rfl rfl _ _ _ hs ?_)))
  rintro _ s₁ rfl hs
  refine PE.nameV cx n0 rfl rfl _ _ _ hs ?_
  rintro _ s₁ rfl hs
  refine ex_set_new (K.e69 hK) cx hs (by rw [hK]; k_is) ?_
  intro dx h t s₁ hs
  have hx : (x, excO 69 dx (fl0 t0)) ∈ (dx, dictOf [⟨h, .str "message" t, .str msg tk⟩] 1) :: (x, excO 69 dx (fl0 t0)) :: news := .tail _ (.head _)
  have hd : (dx, dictOf [⟨h, .str "message" t, .str msg tk⟩] 1) ∈ (dx, dictOf [⟨h, .str "message" t, .str msg tk⟩] 1) :: (x, excO 69 dx (fl0 t0)) :: news := .head _
  have hkeep : ∀ p ∈ news, p ∈ (dx, dictOf [⟨h, .str "message" t, .str msg tk⟩] 1) :: (x, excO 69 dx (fl0 t0)) :: news ∧ p.1 ≠ x ∧ p.1 ≠ dx := fun p hp => by
    have nd := hs.nd
    rw [List.map_cons, List.map_cons, List.nodup_cons, List.nodup_cons] at nd
    have hm : p.1 ∈ news.map (·.1) := List.mem_map.mpr ⟨p, hp, rfl⟩
    exact ⟨.tail _ (.tail _ hp), fun e => nd.2.1 (e ▸ hm), fun e => nd.1 (.tail _ (e ▸ hm))⟩
  replace hs : St ⟨A₀, base, outer, h₀, L, _, ns⟩ [some (.ref x), some (.str msg tk)] ((dx, dictOf [⟨h, .str "message" t, .str msg tk⟩] 1) :: (x, excO 69 dx (fl0 t0)) :: news) r s₁ := hs
  generalize ((dx, dictOf [⟨h, .str "message" t, .str msg tk⟩] 1) :: (x, excO 69 dx (fl0 t0)) :: news : Ledger) = news1 at hs hx hd hkeep
  have X : g.K.In s₁.heap := cx.X.keeps hs.F.keep
  have I : InstAt s₁.heap x (excO 69 dx (fl0 t0)) 69 (some (dictOf [⟨h, .str "message" t, .str msg tk⟩] 1)) := ⟨hs.N.get hx, rfl, rfl, hs.N.get hd⟩
  obtain ⟨cdD, hD69⟩ : ∃ cd, clsIn g.K 69 = some cd := Option.isSome_iff_exists.mp (by rw [hK]; kernel_rfl)
  show _root_.PySem.wpAt _ _ _ (execs _ _) _ _ _
  refine ks_wpAt_execs_cons (ks_wpAt_Expr_any (ks_wpAt_MethodCall ?_))
  refine' ks_node (D := 69) (C := 69) (x := x) hs.F cx.X hs.N cx.T ?hf ?hhd ?hv I ?hcode ?hvs ?hfile ?hcell ?hD ?hsub ?hsuper ?hat ?hks ?hkc ?hka ?hk ?htop ?hboot ?_
  case hf => refine IsK.look hK ?_; k_is
  case hhd => exact rfl
  case hv => exact lm_get cx.nd n0 rfl
  case hcode => refine IsK.look hK ?_; k_is
  case hvs => exact rfl
  case hfile => rw [hP]; decide +kernel
  case hcell => refine IsK.look hK ?_; k_is
  case hD => exact hD69
  case hat => exact rfl
  case hks => exact rfl
  case hkc => exact rfl
  case hka => exact rfl
  case hk => exact rfl
  case hboot => exact rfl
  case hsub => rw [hK]; k_is
  case hsuper => rw [hK]; k_is
  case htop => rw [hP]; decide +kernel
  intro so h' F' N' l1
  have hs := hs.more (tk := s₁.toks) F' N' l1
  have I : InstAt h' x (excO 69 dx (fl0 t0)) 69 (some (dictOf [⟨h, .str "message" t, .str msg tk⟩] 1)) := ⟨hs.N.get (.tail _ hx), rfl, rfl, hs.N.get (.tail _ hd)⟩
  refine ks_method (f2 := 37) (C := 69) (D := 69) (x := x) hs.F cx.X hs.N (.head _) I (by rw [hK]; k_is) (by rw [hK]; kernel_rfl) (by rw [hK]; k_is) rfl ?_
  intro q h'' F' N' l1
  have hs := hs.more (tk := s₁.toks + 1) F' N' l1
  refine callWith_M (g := 37) (self := .ref x) cx.X hs.N (.head _) (by rw [hK]; k_is) ?_ rfl rfl
  refine AR.cons (PE.exAttr (K.e69 hK) cx (PE.nameV cx n0 rfl rfl) (.tail _ (.tail _ hx)) (.tail _ (.tail _ hd)) (by rw [hK]; k_is) rfl rfl (by rw [hK]; k_is)) AR.nil rfl _ _ _ _ hs ?_
  rintro _ s₃ ⟨_, _, rfl, rfl, rfl⟩ hs
  refine ⟨methP hs.N (.head _) (cx.X.keeps hs.F.keep), ?_⟩
  refine call_meth hs.N (.head _) ?_
  refine init47 hK hP cx (rm.less (by decide)) (.tail _ (.tail _ hx)) (.tail _ (.tail _ hd)) _ _ hs ?_
  rintro v n' r' s₄ ⟨rfl, rfl, ⟨t1, h1⟩, h2⟩ hs
  show _root_.PySem.wpAt _ _ _ (execs [] _) _ _ _
  refine _root_.PySem.wpAt_of_wpAny (wpAny_execs_nil ?_)
  refine ⟨_, _, _, ⟨rfl, rfl, ⟨dx, t1, h1⟩, fun p hp => ?_⟩, hs⟩
  obtain ⟨z1, z2, z3⟩ := hkeep p hp
  exact h2 p (.tail _ (.tail _ z1)) z2 z3
end
end Mine
end

section
set_option maxRecDepth 100000
open PySem PySem.W PySem.Builtin PySem.Builtin.ObjectAttr PyProof.Rows PySem.Calls
set_option maxHeartbeats 4000000
namespace Mine
theorem dummyFill26 : (hd.heap_39 = hd.heap_39) ∧ (PySem.Challenge.rw_sv0018_01 = PySem.Challenge.rw_sv0018_01) := by
  k_fill
  exact ⟨rfl, rfl⟩
section
variable {g : Gl} {f : Fm} {A : Around} {vs : List (Option Value)} {news : Ledger} {r : Rs} {s : Shared} {E : Value → Shared → Prop} {x dx a so : Addr} {v : Value} {es : List DictEntry} {n : Nat} {pos xp p1 p2 p3 : Pos} {attr y : Str} {e ea : Expr} {fl : Array Value} {o : Obj} {rest : List Stmt} {k1 k3 : Nat} {b : Int}
/-- an error of the program, made -/
def Err (news : Ledger) (r : Rs) (v : Value) (n' : Ledger) (r' : Rs) : Prop := r = r' ∧ (∃ e dx t1, v = .ref e ∧ (e, excO 69 dx (fl0 t1)) ∈ n' ∧ e ∉ news.map (·.1)) ∧ ∀ p ∈ news, p ∈ n'
theorem exc_cls (hK : IsK g) : ∃ nm qn N bs bm hdct sn sub ab col dd k0 k1 k2 k3 k5, g.K.lookup 69 = some (excClassObj nm qn 69 N bs bm hdct sn sub ab col dd k0 k1 k2 k3 k5 "Exception.__new__") ∧ bm.contains (.type "Exception") = true ∧
    bm.contains (.type "AttributeError") = false ∧ bm.contains (.type "NameError") = false ∧ bm.contains (.type "BaseException") = true := by
  rw [hK]; exact ⟨_, _, _, _, [.ref 47, .type "Exception", .type "BaseException", .type "object"], _, _, _, _, _, _, _, _, _, _, _, by k_is, by decide, by decide, by decide, by decide⟩
theorem exc_make {msg : Str} {tk : Tok} {Q : Value → Shared → Prop} (hK : IsK g) (hP : IsP g) (cx : Cx g f) (rm : Rm f A 10) (hs : St f vs news r s) (k : ∀ v n' r' s', Err news r v n' r' → St f vs n' r' s' → Q v s') : wpAny g.M A (call (.ref 69) [.str msg tk]) Q E s := by
  obtain ⟨nm, qn, N, bs, bm, hdct, sn, sub, ab, col, dd, k0, k1, k2, k3, k5, hC, hB, hAt, hNm, _⟩ := exc_cls hK
  have X : g.K.In s.heap := cx.X.keeps hs.F.keep
  obtain ⟨h, gg, d, t, os⟩ := s
  have z1 := hs.alloc (ob := tup0 [.str msg tk]) (t := t) rfl
  have z2 := z1.alloc (ob := exc0 69 h.objs.size) (t := t) rfl
  have X2 : g.K.In ((h.push (tup0 [.str msg tk])).push (exc0 69 h.objs.size)) := cx.X.keeps z2.F.keep
  have hsz : (h.push (tup0 [.str msg tk])).objs.size = h.objs.size + 1 := Heap.size_push ..
  have z2 : St f vs ((h.objs.size + 1, exc0 69 h.objs.size) :: (h.objs.size, tup0 [.str msg tk]) :: news) r ⟨(h.push (tup0 [.str msg tk])).push (exc0 69 h.objs.size), gg, d, t, os⟩ := by rw [← hsz]; exact z2
  refine ex_call hB hAt hNm (X _ _ hC) (looks_findIn X2 (by rw [hK]; k_is)) (fun self => bind_fn X2 self (by rw [hK]; k_is)) ?_
  refine init69 hK hP cx (rm.new _ _) _ _ z2 ?_
  rintro v n' r' s' ⟨rfl, rfl, ⟨dx, t1, h1⟩, h2⟩ hs'
  refine ⟨rfl, k _ n' r s' ⟨rfl, ⟨_, dx, t1, rfl, h1, fun hm => ?_⟩, fun p hp => h2 p (.tail _ hp)⟩ hs'⟩
  have nd := z2.nd
  rw [List.map_cons, List.map_cons, List.nodup_cons] at nd
  exact nd.1 (.tail _ hm)
theorem EX.err (hK : IsK g) (hP : IsP g) (cx : Cx g f) (rm : Rm f A 10) (hk : f.env.kindOf "QuotientFilterError" = some .globalImplicit) (h : PE g f A vs news r ea (fun v => ∃ m t, v = .str m t))
    (he' : starEach [ea] f.env = (false, eval ea f.env) :: starEach [] f.env := by rfl) : EX g f A vs news r (.Call (.Name "QuotientFilterError" xp) [ea] [] pos) (Err news r) :=
  fun _ _ _ hs k => wpAny_Call_NameR (PE.nameG cx hk (v := .ref 69) (by rw [hK]; k_is) rfl _ _ _ hs fun _ _ q hs₁ => by
    subst q
    refine callWith_K cx.X (by rw [hK]; k_is) (AR.cons h AR.nil he' _ _ _ _ hs₁ fun l s₂ p hs₂ => ⟨cx.X.keeps hs₂.F.keep, ?_⟩) he' rfl
    obtain ⟨_, _, rfl, ⟨m, t, rfl⟩, rfl⟩ := p
    exact exc_make hK hP cx rm hs₂ k)
theorem X.raise {Q : Flow → Shared → Prop} (hK : IsK g) (cx : Cx g f) (hh : A.handled = none) (hs : St f vs news r s) (h : EX g f A vs news r e (Err news r)) (k : ∀ v n' r' s', Err news r v n' r' → St f vs n' r' s' → E v s') :
    wpAny g.M A (execs (.Raise (some e) none pos :: rest) f.env) Q E s := by
  obtain ⟨nm, qn, N, bs, bm, hdct, sn, sub, ab, col, dd, k0, k1, k2, k3, k5, hC, hB, hAt, hNm, hbase⟩ := exc_cls hK
  have hcB : (Value.ref 69 :: bm).contains (.type "BaseException") = true := by rw [List.contains_cons, hbase, Bool.or_true]
  refine wpAny_execs_cons ?_
  rw [arm_exec_Raise]
  refine wpAny_bind (wpAny_standAt ?_)
  unfold raiseStmt
  refine wpAny_bind (wpAny_bind (h _ _ _ hs fun v n' r' s₁ p hs₁ => ?_))
  have z := k v n' r' s₁ p hs₁
  obtain ⟨_, ⟨e, dx, t1, rfl, he, _⟩, _⟩ := p
  have he := hs₁.N.get he
  have hC := (cx.X.keeps hs₁.F.keep) _ _ hC
  obtain ⟨hp, gg, d, tk, os⟩ := s₁
  refine wpAny_bind (wpAny_standAt (wpAny_pure ?_))
  repeat (first | with_reducible refine wpAny_loadPart_at he ?_ | with_reducible refine wpAny_loadPart_at hC ?_ | (with_reducible refine wpAny_isSubtype_exc hC ?_; rw [hcB]) | wp_step)
  exact wpAny_raiseNew_none hh z
theorem PE.fstr3 {c1 c3 : Str} (h : PE g f A vs news r e (isI b)) (hb : b.natAbs.log2 < 1920) (h1 : (Str.empty ++ c1).length ≤ sizeLine) (h2 : (Str.empty ++ c1 ++ (Str.ofString (toString b))).length ≤ sizeLine) (h3 : (Str.empty ++ c1 ++ (Str.ofString (toString b)) ++ c3).length ≤ sizeLine) :
    PE g f A vs news r (.JoinedStr [.Constant (.str c1) k1 p1, .FormattedValue e (-1) none p2, .Constant (.str c3) k3 p3] pos) (fun v => ∃ m t, v = .str m t) :=
  fun _ _ _ hs k => by
    refine JoinedStr_many (joinParts_cons (wpAny_Constant_str ?_))
    refine ⟨h1, joinParts_cons (FormattedValue_plain (h _ _ _ hs.tok fun v s₁ ⟨t, q⟩ hs₁ => ?_))⟩
    subst q
    refine formatField_int_small hb ⟨h2, joinParts_cons (wpAny_Constant_str ⟨h3, joinParts_nil (k _ _ ⟨_, _, rfl⟩ hs₁.tok) h3⟩)⟩
end
end Mine
end

section
set_option maxRecDepth 100000
open PySem PySem.W PySem.Builtin PySem.Builtin.ObjectAttr PyProof.Rows PySem.Calls
set_option maxHeartbeats 4000000
namespace Mine
abbrev frs (l : List Env) : List Addr := l.filterMap (·.frame)
/-- an error on its way, the codes of l still to leave; seen from f -/
def Fly (f : Fm) (l : List Env) (news : Ledger) (r : Rs) (e : Value) (s : Shared) : Prop :=
  ∃ B ea a0, e = .ref ea ∧ Heap.FlyingW B l ea (.ref 69) a0 s.heap ∧ (∀ b o, f.h₀.get? b = some o → b ∉ frs f.outer → B.get? b = some o) ∧ (∀ p ∈ news, B.get? p.1 = some p.2) ∧ f.h₀.UpToSlots s.heap ∧
    s.gens = r.gens ∧ s.drawn = r.drawn ∧ s.os = r.os
/-- an error in f's code: just made, or come from a call -/
def Er (f : Fm) (news : Ledger) (r : Rs) (e : Value) (s : Shared) : Prop := (∃ vs m n', Err m r e n' r ∧ (∀ p ∈ news, p ∈ m) ∧ St f vs n' r s) ∨ Fly f (f.env :: f.outer) news r e s
section
variable {g : Gl} {f : Fm} {A : Around} {vs : List (Option Value)} {news : Ledger} {r : Rs} {s : Shared} {E : Value → Shared → Prop} {v e : Value}
theorem mem_frs {env : Env} {l : List Env} {a : Addr} (h : env ∈ l) (hf : env.frame = some a) : a ∈ frs l := List.mem_filterMap.mpr ⟨env, h, hf⟩
/-- f's code is left -/
theorem Er.leave {Q : Unit → Shared → Prop} (cx : Cx g f) (hfr : A.frames = some (f.env :: f.outer)) (h : Er f news r e s) (k : ∀ s', Fly f f.outer news r e s' → Q () s') : wpAny g.M A (leaving f.env e) Q E s := by
  rcases h with ⟨vs, m, n', ⟨_, ⟨ea, dx, t1, rfl, he, hnew⟩, hsub⟩, hm, hs⟩ | ⟨B, ea, a0, rfl, hfl, h1, h2, h3, h4⟩
  · have K' := pushX cx.B hs.F cx.fr cx.hk
    have hL₀ : f.h₀.get? f.L = none := Heap.get?_none_of_le hs.F.above
    have hin : ∀ env ∈ f.env :: f.outer, ∀ b, env.frame = some b → b ∈ ea :: frs (f.env :: f.outer) := fun env he b hb => .tail _ (mem_frs he hb)
    have zea := hs.N (ea, excO 69 dx (fl0 t1)) he
    have hout : ∀ b ∈ frs f.outer, ∃ o, f.h₀.get? b = some o := fun b hb => by
      obtain ⟨_, o, ho, _⟩ := cx.B.frames.mem hb
      exact ⟨o, ho⟩
    refine wpAny_leaving_firstW (base := hideAll s.heap (ea :: frs (f.env :: f.outer))) (a0 := .ref t1) hfr (funFrames_hide K'.frames hin) cx.fr zea.1 (fun b o q => of_hideAll _ q) (hideAll_none _ (.head _)) rfl rfl rfl fun h' hL => ?_
    obtain ⟨k1, ⟨_, _, k2⟩, k3, k4⟩ := hL
    refine k _ ⟨_, ea, .ref t1, rfl, ⟨k1, hideAll_none _ (.head _), k2, k3⟩, fun b o q nm => hideAll_get _ (hs.F.keep b o q) fun hm => ?_, fun p hp => hideAll_get _ (hs.N p (hsub p (hm p hp))).1 fun hmem => ?_, ?_, hs.gens, hs.drawn, hs.os⟩
    · rcases List.mem_cons.mp hm with rfl | hm
      · rw [zea.2.2] at q; cases q
      · obtain ⟨env, he, hf⟩ := List.mem_filterMap.mp hm
        rcases List.mem_cons.mp he with rfl | he
        · rw [cx.fr] at hf; cases hf; rw [hL₀] at q; cases q
        · exact nm (mem_frs he hf)
    · have z := hs.N p (hsub p (hm p hp))
      rcases List.mem_cons.mp hmem with e | hmem
      · exact hnew (e ▸ List.mem_map.mpr ⟨p, hm p hp, rfl⟩)
      · obtain ⟨env, he, hf⟩ := List.mem_filterMap.mp hmem
        rcases List.mem_cons.mp he with rfl | he
        · rw [cx.fr] at hf; exact z.2.1 (Option.some.inj hf).symm
        · obtain ⟨o, ho⟩ := hout _ (mem_frs he hf)
          rw [z.2.2] at ho; cases ho
    · exact (Heap.UpToSlots.of_keeps hs.F.keep).trans k4
  · refine wpAny_leaves_onW hfr cx.fr hfl fun h' x1 x2 => k _ ⟨B, ea, a0, rfl, x1, h1, h2, h3.trans x2, h4⟩
/-- seen from the caller -/
theorem Fly.up {f' : Fm} (ho : f'.outer = f.env :: f.outer) (hfe : f.env.frame = some f.L) (hL : f.h₀.get? f.L = none) (st : f.h₀.StaysIn f'.h₀) (h : Fly f' f'.outer news r e s) : Fly f (f.env :: f.outer) news r e s := by
  obtain ⟨B, ea, a0, e1, hfl, h1, h2, h3, h4⟩ := h
  refine ⟨B, ea, a0, e1, ho ▸ hfl, fun b o q nm => h1 b o (st b o q) fun hm => ?_, h2, (Heap.UpToSlots.of_keeps st).trans h3, h4⟩
  rw [ho] at hm
  obtain ⟨env, he, hf⟩ := List.mem_filterMap.mp hm
  rcases List.mem_cons.mp he with rfl | he
  · rw [hfe] at hf; cases hf; rw [hL] at q; cases q
  · exact nm (mem_frs he hf)
/-- a call of a def that ends in an error -/
def CR (g : Gl) (f : Fm) (A : Around) (vs : List (Option Value)) (news : Ledger) (r : Rs) (fa : Addr) (args : List Value) : Prop :=
  ∀ (R : Result → Shared → Prop) (s : Shared), St f vs news r s → (∀ e s', Fly f (f.env :: f.outer) news r e s' → s'.heap.Ns f.L (lm f.ns vs) → R (.error e) s') → codeAny g.M A (.call (.ref fa) ⟨args, []⟩) R s
/-- an expression that ends in an error -/
def ER (g : Gl) (f : Fm) (A : Around) (vs : List (Option Value)) (news : Ledger) (r : Rs) (e : Expr) : Prop :=
  ∀ (Q : Value → Shared → Prop) (E : Value → Shared → Prop) (s : Shared), St f vs news r s → (∀ x s', Fly f (f.env :: f.outer) news r x s' → s'.heap.Ns f.L (lm f.ns vs) → E x s') → wpAny g.M A (eval e f.env) Q E s
theorem CR.enter {name qual : Str} {params : Arguments} {body : List Stmt} {scope : Scope} {dV kV doc pm cdv ct oc : Value} {an od : Option Addr} {osl : Array (Option Value)} {fa : Addr} {args : List Value} {d : Nat} {binds : List (Str × Value)}
    (cx : Cx g f) (rm : Rm f A (d + 1)) (ps ns : List Str) (vals : List Value)
    (ho : g.K.lookup fa = some ⟨oc, od, .func (fnX name qual params body scope [] dV kV doc pm an cdv ct), osl⟩) (hcd : codeIn g.K cdv qual = true)
    (hb : ∀ s : Shared, g.K.In s.heap → BindsTo s (fnX name qual params body scope [] dV kV doc pm an cdv ct) ⟨args, []⟩ binds) (hbv : binds = ps.zip vals) (hl : ps.length = vals.length) (hok : defOK scope ps ns = true)
    (h : ∀ (f' : Fm) (A' : Around) (s' : Shared), Body g f' A' d scope (ps ++ ns) qual fa cdv → St f' (vals.map some ++ List.replicate ns.length none) news r s' →
      wpAny g.M A' (execs body f'.env) (fun _ _ => False) (Er f' news r) s') : CR g f A vs news r fa args := by
  simp only [defOK, Bool.and_eq_true, beq_iff_eq, decide_eq_true_eq, Bool.not_eq_true', List.all_eq_true, bne_iff_ne, ne_eq] at hok
  obtain ⟨⟨⟨⟨⟨hnd, hloc⟩, hcell⟩, hco⟩, hgen⟩, hk⟩ := hok
  intro R s hs k
  subst hbv
  refine callX_plain cx.B hs.F hs.N cx.T.nolimit rm.fr cx.fr cx.hk ((cx.X.keeps hs.F.keep) _ _ ho) rfl (codeRec_of (cx.X.keeps hs.F.keep) hcd) rm.room (hb s (cx.X.keeps hs.F.keep)) ?_ ?_ (fun x hx => hcell x hx) hco hgen hk
  · intro y hy
    have : y.1 ∈ ps ++ ns := List.mem_append_left _ (List.of_mem_zip (show (y.1, y.2) ∈ ps.zip vals from hy)).1
    exact of_decide_eq_true (List.all_eq_true.mp hloc y.1 this)
  · intro g' L' h₁ FG F' N' B' st _
    have hst : St ⟨A, f.base, f.env :: f.outer, g', L', envX qual scope L' fa cdv [], ps ++ ns⟩ (vals.map some ++ List.replicate ns.length none) news r
        { s with heap := h₁, toks := s.toks + (ps.zip vals).length } := by
      refine ⟨?_, N', hs.nd, hs.gens, hs.drawn, hs.os⟩
      have := lm_start hnd hl
      show Fr g' L' h₁ (lm (ps ++ ns) _)
      rw [← this]; exact F'
    have cx' : Cx g ⟨A, f.base, f.env :: f.outer, g', L', envX qual scope L' fa cdv [], ps ++ ns⟩ :=
      ⟨B', cx.X.keeps st, cx.T.keeps st, rfl, rfl, rfl, rfl, hk, hnd, fun i x hx => allLocal_of hloc hx⟩
    have rm' : Rm ⟨A, f.base, f.env :: f.outer, g', L', envX qual scope L' fa cdv [], ps ++ ns⟩ (A.deeper (envX qual scope L' fa cdv [])) d :=
      ⟨Around.frames_deeper rm.fr, by have := rm.dep; show A.depth + 1 + _ < _; omega, by have := rm.uni; show A.units + 3 + _ < _; omega, rm.hd⟩
    refine wpAny_mono (h _ _ _ ⟨cx', rm', rfl, fun x k hx => hx, rfl, rfl⟩ hst) (fun _ _ z => z.elim) (fun e s' hE => ?_)
    refine Er.leave cx' rm'.fr hE fun s₂ hF => ?_
    have hns := hF.choose_spec.choose_spec.choose_spec.2.2.2.2.1.ns FG.ns
    exact k e s₂ (hF.up rfl cx.fr (Heap.get?_none_of_le hs.F.above) st) hns
end
end Mine
end

section
set_option maxRecDepth 100000
open PySem PySem.W PySem.Builtin PySem.Builtin.ObjectAttr PyProof.Rows PySem.Calls
set_option maxHeartbeats 4000000
namespace Mine
theorem dummyFill27 : (hd.heap_39 = hd.heap_39) ∧ (PySem.Challenge.rw_sv0018_01 = PySem.Challenge.rw_sv0018_01) := by
  k_fill
  exact ⟨rfl, rfl⟩
section
variable {g : Gl} {f : Fm} {A : Around} {vs : List (Option Value)} {news l R : Ledger} {r : Rs} {s : Shared} {fL c' : Addr}
/-- a call whose end is told of the caller alone -/
theorem CL.enterQ {name qual : Str} {params : Arguments} {body : List Stmt} {scope : Scope} {dV kV doc pm cdv ct oc : Value} {an od : Option Addr} {osl : Array (Option Value)} {fa : Addr} {args : List Value} {d : Nat} {binds : List (Str × Value)}
    {P : Value → Ledger → Rs → Prop} (cx : Cx g f) (rm : Rm f A (d + 1)) (ps ns : List Str) (vals : List Value)
    (ho : g.K.lookup fa = some ⟨oc, od, .func (fnX name qual params body scope [] dV kV doc pm an cdv ct), osl⟩) (hcd : codeIn g.K cdv qual = true)
    (hb : ∀ s : Shared, g.K.In s.heap → BindsTo s (fnX name qual params body scope [] dV kV doc pm an cdv ct) ⟨args, []⟩ binds) (hbv : binds = ps.zip vals) (hl : ps.length = vals.length) (hok : defOK scope ps ns = true)
    (h : ∀ (f' : Fm) (A' : Around) (s' : Shared), Body g f' A' d scope (ps ++ ns) qual fa cdv → f'.outer = f.env :: f.outer → f.h₀.StaysIn f'.h₀ → f'.h₀.Ns f.L (lm f.ns vs) → (∃ s₀, St f vs news r s₀) → St f' (vals.map some ++ List.replicate ns.length none) news r s' →
      wpAny g.M A' (execs body f'.env) (fun fl s' => ∃ news' r', P (match fl with | .ret v => v | _ => .none) news' r' ∧ St f vs news' r' s') (fun _ _ => False) s') :
    CL g f A vs news r fa args P := by
  simp only [defOK, Bool.and_eq_true, beq_iff_eq, decide_eq_true_eq, Bool.not_eq_true', List.all_eq_true, bne_iff_ne, ne_eq] at hok
  obtain ⟨⟨⟨⟨⟨hnd, hloc⟩, hcell⟩, hco⟩, hgen⟩, hk⟩ := hok
  intro R s hs k
  subst hbv
  obtain ⟨FG, BG, st, lv⟩ := groundX (R := R) cx.B hs.F hs.N rm.fr cx.fr cx.hk
  have hK := cx.X.keeps hs.F.keep
  refine codeAny_call_def (fd := fnX name qual params body scope [] dV kV doc pm an cdv ct) (body := body) (binds := ps.zip vals) rm.room (hK _ _ ho) rfl (cx.T.nolimit.keeps hs.F.keep) (codeRec_of hK hcd) rfl (hb s hK) (fun x hx => hcell x hx) ?_ (fun h₁ hns hk₁ => ?_) hco hgen hk
  · intro y hy
    have : y.1 ∈ ps ++ ns := List.mem_append_left _ (List.of_mem_zip (show (y.1, y.2) ∈ ps.zip vals from hy)).1
    exact of_decide_eq_true (List.all_eq_true.mp hloc y.1 this)
  · have hst : St ⟨A, f.base, f.env :: f.outer, hideAll s.heap (news.map (·.1)), s.heap.objs.size, envX qual scope s.heap.objs.size fa cdv [], ps ++ ns⟩ (vals.map some ++ List.replicate ns.length none) news r
        { s with heap := h₁, toks := s.toks + (ps.zip vals).length } := by
      refine ⟨?_, fun p hp => ⟨hk₁ _ _ (hs.N p hp).1, Nat.ne_of_lt (Heap.lt_size (hs.N p hp).1), hideAll_none _ (List.mem_map_of_mem hp)⟩, hs.nd, hs.gens, hs.drawn, hs.os⟩
      have := lm_start hnd hl
      show Fr (hideAll s.heap (news.map (·.1))) s.heap.objs.size h₁ (lm (ps ++ ns) _)
      rw [← this]
      exact ⟨hns, fun b o e => hk₁ b o (of_hideAll _ e), Nat.le_of_eq (hideAll_size _ _)⟩
    have cx' : Cx g ⟨A, f.base, f.env :: f.outer, hideAll s.heap (news.map (·.1)), s.heap.objs.size, envX qual scope s.heap.objs.size fa cdv [], ps ++ ns⟩ :=
      ⟨BG, cx.X.keeps st, cx.T.keeps st, rfl, rfl, rfl, rfl, hk, hnd, fun i x hx => allLocal_of hloc hx⟩
    have rm' : Rm ⟨A, f.base, f.env :: f.outer, hideAll s.heap (news.map (·.1)), s.heap.objs.size, envX qual scope s.heap.objs.size fa cdv [], ps ++ ns⟩ (A.deeper (envX qual scope s.heap.objs.size fa cdv [])) d :=
      ⟨Around.frames_deeper rm.fr, by have := rm.dep; show A.depth + 1 + _ < _; omega, by have := rm.uni; show A.units + 3 + _ < _; omega, rm.hd⟩
    refine wpAny_mono (h _ _ _ ⟨cx', rm', rfl, fun x k hx => hx, rfl, rfl⟩ rfl st FG.ns ⟨s, hs⟩ hst) (fun fl s' hE => ?_) (fun _ _ z => z.elim)
    obtain ⟨news', r', hp, hs'⟩ := hE
    exact k _ news' r' s' hp hs'
/-- a lambda of the ledger -/
def LamAt (fL : Addr) (q : Str) (params : Arguments) (body : Expr) (scope : Scope) (cl : List (Str × Addr)) (news : Ledger) : Prop :=
  ∃ pm c' ctv oc ws t, (fL, kla_obj "<lambda>" q params body scope cl pm c' ctv) ∈ news ∧ (c', oc) ∈ news ∧ oc.data = .fields ws ∧ ws[1]? = some (.str q t)
theorem LamAt.mono {q : Str} {params : Arguments} {body : Expr} {scope : Scope} {cl : List (Str × Addr)} {l l' : Ledger} (h : LamAt fL q params body scope cl l) (m : ∀ p ∈ l, p ∈ l') : LamAt fL q params body scope cl l' :=
  let ⟨pm, c', ctv, oc, ws, t, h1, h2, h3, h4⟩ := h; ⟨pm, c', ctv, oc, ws, t, m _ h1, m _ h2, h3, h4⟩
/-- what a lambda's body finds -/
structure LBody (g : Gl) (f f' : Fm) (A' : Around) (d : Nat) (q : Str) (scope : Scope) (fL : Addr) (cl : List (Str × Addr)) : Prop where
  cx : Cx g f'
  rm : Rm f' A' d
  env : ∃ cd, f'.env = envX q scope f'.L fL cd cl
def lamOK (params : Arguments) (scope : Scope) : Bool := !scope.isCoroutine && !scope.isGenerator && decide (scope.kind = .function) && scope.names.all (fun x => x.2 != .cell)
theorem lam_enter {q : Str} {params : Arguments} {body : Expr} {scope : Scope} {cl : List (Str × Addr)} {d : Nat} {R : Result → Shared → Prop} (cx : Cx g f) (rm : Rm f A (d + 1)) (hl : LamAt fL q params body scope cl news) (hok : lamOK params scope = true)
    (hb : ∀ pm c' ctv, bindArgs (kla_fn "<lambda>" q params body scope cl pm (.ref c') ctv) ⟨[], []⟩ = pure []) (hs : St f vs news r s)
    (h : ∀ (f' : Fm) (A' : Around) (s' : Shared), LBody g f f' A' d q scope fL cl → f'.outer = f.env :: f.outer → f.h₀.StaysIn f'.h₀ → f'.h₀.Ns f.L (lm f.ns vs) → St f' [] news r s' → A' = A.deeper f'.env →
      wpAny g.M A' (eval body f'.env) (fun v s' => (∃ vs' news' r', St f' vs' news' r' s' ∧ (St f vs news' r' s' → R (.ok (.ret v)) s')))
        (fun e s' => wpAny g.M A' (leaving f'.env e) (fun _ s'' => R (.error e) s'') (fun e' s'' => R (.error e') s'') s') s') :
    codeAny g.M A (.call (.ref fL) ⟨[], []⟩) R s := by
  simp only [lamOK, Bool.and_eq_true, decide_eq_true_eq, Bool.not_eq_true', List.all_eq_true, bne_iff_ne, ne_eq] at hok
  obtain ⟨⟨⟨hco, hgen⟩, hk⟩, hcell⟩ := hok
  obtain ⟨pm, c', ctv, oc, ws, t, h1, h2, h3, h4⟩ := hl
  obtain ⟨FG₀, BG, st₀, lv⟩ := groundX (R := R) cx.B hs.F hs.N rm.fr cx.fr cx.hk
  refine kla_callFunE rm.room (hs.N _ h1).1 rfl hco hgen rfl (codeRec_news hs.N h2 h3 h4) ?_
  rw [hb]
  refine wpAny_pure (wpAny_newFunctionEnv hcell (fun y hy => by cases hy) (fun h₁ hns hsb => ⟨((cx.T.nolimit).keeps hs.F.keep).fresh _ hsb, ?_⟩) hk)
  show codeAny _ _ (.expr body (envX q scope s.heap.objs.size fL (.ref c') cl)) _ _
  have hk₁ : ∀ b o, s.heap.get? b = some o → h₁.get? b = some o := fun b o e => hsb.extBut b o (Nat.ne_of_lt (Heap.lt_size e)) (Heap.get?_push_of_some _ e)
  have hst : St ⟨A, f.base, f.env :: f.outer, hideAll s.heap (news.map (·.1)), s.heap.objs.size, envX q scope s.heap.objs.size fL (.ref c') cl, []⟩ [] news r { s with heap := h₁, toks := s.toks + 0 } := by
    refine ⟨?_, fun p hp => ⟨hk₁ _ _ (hs.N p hp).1, Nat.ne_of_lt (Heap.lt_size (hs.N p hp).1), hideAll_none _ (List.mem_map_of_mem hp)⟩, hs.nd, hs.gens, hs.drawn, hs.os⟩
    exact ⟨hns, fun b o e => hk₁ b o (of_hideAll _ e), Nat.le_of_eq (hideAll_size _ _)⟩
  have cx' : Cx g ⟨A, f.base, f.env :: f.outer, hideAll s.heap (news.map (·.1)), s.heap.objs.size, envX q scope s.heap.objs.size fL (.ref c') cl, []⟩ :=
    ⟨BG, cx.X.keeps st₀, cx.T.keeps st₀, rfl, rfl, rfl, rfl, hk, List.nodup_nil, fun i x hx => by cases hx⟩
  have rm' : Rm ⟨A, f.base, f.env :: f.outer, hideAll s.heap (news.map (·.1)), s.heap.objs.size, envX q scope s.heap.objs.size fL (.ref c') cl, []⟩ (A.deeper (envX q scope s.heap.objs.size fL (.ref c') cl)) d :=
    ⟨Around.frames_deeper rm.fr, by have := rm.dep; show A.depth + 1 + _ < _; omega, by have := rm.uni; show A.units + 3 + _ < _; omega, rm.hd⟩
  refine kla_codeExpr (wpAny_mono (h _ _ _ ⟨cx', rm', _, rfl⟩ rfl st₀ FG₀.ns hst rfl) (fun v s' hE => ?_) fun _ _ y => y)
  obtain ⟨vs', news', r', hs', hR⟩ := hE
  refine lv v s' ⟨_, _, news', hs'.F, hs'.N, fun F'' N'' => hR ⟨F'', N'', hs'.nd, hs'.gens, hs'.drawn, hs'.os⟩⟩
theorem CL.lam {q : Str} {params : Arguments} {body : Expr} {scope : Scope} {cl : List (Str × Addr)} {d : Nat} {P : Value → Ledger → Rs → Prop} (cx : Cx g f) (rm : Rm f A (d + 1)) (hl : LamAt fL q params body scope cl news) (hok : lamOK params scope = true)
    (hb : ∀ pm c' ctv, bindArgs (kla_fn "<lambda>" q params body scope cl pm (.ref c') ctv) ⟨[], []⟩ = pure [])
    (h : ∀ (f' : Fm) (A' : Around), LBody g f f' A' d q scope fL cl → EX g f' A' [] news r body P) : CL g f A vs news r fL [] P := by
  intro R s hs k
  refine lam_enter cx rm hl hok hb hs fun f' A' s' B _ _ _ hs' _ => ?_
  exact h f' A' B _ _ _ hs' fun v n' r' s'' p hs'' => ⟨_, n', r', hs'', fun z => k v n' r' s'' p z⟩
theorem CR.lam {q : Str} {params : Arguments} {body : Expr} {scope : Scope} {cl : List (Str × Addr)} {d : Nat} (cx : Cx g f) (rm : Rm f A (d + 1)) (hl : LamAt fL q params body scope cl news) (hok : lamOK params scope = true)
    (hb : ∀ pm c' ctv, bindArgs (kla_fn "<lambda>" q params body scope cl pm (.ref c') ctv) ⟨[], []⟩ = pure [])
    (h : ∀ (f' : Fm) (A' : Around), LBody g f f' A' d q scope fL cl → ER g f' A' [] news r body) : CR g f A vs news r fL [] := by
  intro R s hs k
  refine lam_enter cx rm hl hok hb hs fun f' A' s' B ho st ns hs' hA => ?_
  refine h f' A' B _ _ _ hs' fun e s'' hF _ => ?_
  refine Er.leave B.cx B.rm.fr (.inr hF) fun s₂ hF => ?_
  have hns := hF.choose_spec.choose_spec.choose_spec.2.2.2.2.1.ns ns
  exact k e s₂ (hF.up ho cx.fr (Heap.get?_none_of_le hs.F.above) st) hns
/-- a call without arguments of a lambda of the ledger, by a local name -/
theorem call0 {x : Str} {xp pos : Pos} {q : Str} {params : Arguments} {body : Expr} {scope : Scope} {cl : List (Str × Addr)} {Q : Value → Shared → Prop} {E : Value → Shared → Prop} (cx : Cx g f) (hn : PE g f A vs news r (.Name x xp) (· = .ref fL)) (hl : LamAt fL q params body scope cl news) (hs : St f vs news r s)
    (h : ∀ s', St f vs news r s' → codeAny g.M A (.call (.ref fL) ⟨[], []⟩) (fun r s' => match r with | .ok (.ret v) => Q v s' | .ok _ => False | .error e => E e s') s')
    (hd : eval (.Call (.Name x xp) [] [] pos) f.env = eval (.Call (.Name x xp) [] [] pos) f.env := by rfl) : wpAny g.M A (eval (.Call (.Name x xp) [] [] pos) f.env) Q E s := by
  refine wpAny_Call_NameR (hn _ _ _ hs fun _ s₁ q hs₁ => ?_)
  subst q
  obtain ⟨pm, c', ctv, oc, ws, t, h1, _⟩ := hl
  refine callWith_of (P := fun h => h.get? fL = some (kla_obj "<lambda>" _ params body scope cl pm c' ctv)) rfl (fun h e => ⟨.frame, .inl rfl, (Looks.ld (part := none) e).andThen .now⟩) (evalArgs_nil3 ⟨hs₁.N.get h1, ?_⟩)
  exact wpAny_call (h s₁ hs₁)
end
end Mine
end

section
set_option maxRecDepth 100000
open PySem PySem.W PySem.Builtin PySem.Builtin.ObjectAttr PyProof.Rows PySem.Calls
set_option maxHeartbeats 4000000
namespace Mine
theorem dummyFill28 : (hd.heap_39 = hd.heap_39) ∧ (PySem.Challenge.rw_sv0018_01 = PySem.Challenge.rw_sv0018_01) := by
  k_fill
  exact ⟨rfl, rfl⟩
section
variable {g : Gl} {f : Fm} {A : Around} {vs : List (Option Value)} {news l R : Ledger} {r : Rs} {s : Shared} {fL c' : Addr}
/-- _law_refused of a lambda that raises -/
theorem refused_yes {q : Str} {params : Arguments} {body : Expr} {scope : Scope} {cl : List (Str × Addr)} {d : Nat} (hK : IsK g) (cx : Cx g f) (rm : Rm f A (d + 1)) (hout : f.outer = []) (hl : LamAt fL q params body scope cl news)
    (hcr : ∀ (f' : Fm) (A' : Around) (vs' : List (Option Value)), Cx g f' → Rm f' A' d → CR g f' A' vs' news r fL []) : CL g f A vs news r 520 [.ref fL] (still news r (· = .bool true)) := by
  refine' CL.enterQ (d := d) cx rm ["deed"] [] [Value.ref fL] ?ho ?hcd ?hb ?hbv ?hl ?hok ?_
  case ho => refine IsK.look hK ?_; k_is
  case hcd => refine IsK.code hK ?_; k_is
  case hb => exact fun _ _ => BindsTo.of_eq rfl
  case hbv => exact rfl
  case hl => exact rfl
  case hok => decide +kernel
  intro f' A' s' B ho st hns ⟨s0, hs0⟩ hs
  have cx' := B.cx
  have rm' := B.rm
  have n0 := B.at (i := 0) rfl
  have gk := B.glob (x := "QuotientFilterError") rfl
  have hgl := cx'.glo
  have hbu := cx'.bui
  have hfr := cx'.fr
  have hkf := cx'.hk
  clear B
  replace hs : St f' [some (.ref fL)] news r s' := hs
  obtain ⟨nm, qn, N, bs, bm, hdct, sn, sub, ab, col, dd, k0, k1, k2, k3, k5, hC, hB, hAt, hNm, hbase⟩ := exc_cls hK
  refine wpAny_execs_cons (wpAny_Try_except ?_)
  refine wpAny_execs_cons (wpAny_Expr_any ?_ (interactive_no cx') rfl)
  refine call0 cx' (PE.nameV cx' n0 rfl) hl hs fun s₁ hs₁ => ?_
  refine hcr f' A' _ cx' rm' _ s₁ hs₁ fun e s₂ hF _ => ?_
  obtain ⟨B, ea, a0, rfl, hfl, h1, h2, h3, h4, h5, h6⟩ := hF
  -- what is under the frames stays
  have hL₀ : ∀ {b o}, f.h₀.get? b = some o → b ≠ f.L := by
    rintro b o e rfl
    rw [Heap.get?_none_of_le hs0.F.above] at e; cases e
  have under : ∀ b o, f.h₀.get? b = some o → B.get? b = some o := fun b o e => h1 b o (st b o e) fun hm => by
    rw [ho, hout] at hm
    obtain ⟨env, he, hf⟩ := List.mem_filterMap.mp hm
    rcases List.mem_cons.mp he with rfl | he
    · rw [cx.fr] at hf; exact hL₀ e (Option.some.inj hf).symm
    · cases he
  refine wpAny_looks_onW rm'.fr hfr hfl fun h₄ hheld₄ hsm₄ => ?_
  refine wpAny_landsW hheld₄ fun h₅ hheld hsm₅ => ?_
  have k₅ : ∀ b o, f.h₀.get? b = some o → h₅.get? b = some o := fun b o e => hheld.1 _ _ (under b o e)
  obtain ⟨ob, hob, hobc⟩ := hheld.there
  refine wpAny_handleBy_cons (codeAny_handlers_test (Name_function_global hkf gk (loadGlobal_global (hgl ▸ cx.T.g.keeps k₅) (mg_of (v := .ref 69) cx.X cx.T.g (by rw [hK]; k_is)) ?_))) (by intro q; cases q)
  refine wpAny_excMatches_sub_self (k₅ _ _ (cx.X _ _ hC)) hob hobc hbase (codeAny_handlers_suite ?_)
  refine lands_againW hheld fun h₆ hfl₆ hsm₆ => ?_
  refine wpAny_passesOwnAt .never ?_
  refine wpAny_execs_cons (wpAny_Return_some (wpAny_Constant_bool ?_))
  refine ⟨news, r, ⟨rfl, rfl, rfl⟩, ⟨(((h3.trans hsm₄).trans hsm₅).trans hsm₆).ns hns, fun b o e => hfl₆.1 _ _ (under b o e), hs0.F.above⟩, fun p hp => ⟨hfl₆.1 _ _ (h2 p hp), (hs0.N p hp).2⟩, hs0.nd, h4, h5, h6⟩
end
end Mine
end

section
set_option maxRecDepth 100000
open PySem PySem.W PySem.Builtin PySem.Builtin.ObjectAttr PyProof.Rows PySem.Calls
set_option maxHeartbeats 4000000
namespace Mine
theorem dummyFill29 : (hd.heap_39 = hd.heap_39) ∧ (PySem.Challenge.rw_sv0018_01 = PySem.Challenge.rw_sv0018_01) := by
  k_fill
  exact ⟨rfl, rfl⟩
/-- the table of the law's nested codes -/
def tabV : List (Nat × Nat × Addr) → List Value
  | [] => []
  | x :: T => rawInt x.1 :: rawInt x.2.1 :: .ref x.2.2 :: tabV T
theorem tabV_ok : ∀ T, TriplesOk (tabV T)
  | [] => trivial
  | _ :: T => tabV_ok T
theorem tabV_append : ∀ T U, tabV (T ++ U) = tabV T ++ tabV U
  | [], U => rfl
  | x :: T, U => by rw [List.cons_append, tabV, tabV_append T U]; rfl
theorem tabV_among (pos : Pos) : ∀ T, codeAmong pos (tabV T) = none ∨ ∃ x ∈ T, codeAmong pos (tabV T) = some (.ref x.2.2)
  | [] => .inl rfl
  | x :: T => by
    rw [tabV, rawInt, rawInt, codeAmong]
    split
    · exact .inr ⟨x, .head _, rfl⟩
    · rcases tabV_among pos T with h | ⟨y, hy, h⟩
      · exact .inl h
      · exact .inr ⟨y, .tail _ hy, h⟩
/-- the table, laid in the ledger -/
def Tab (P : Addr) (q : Str) (news : Ledger) : Prop := ∃ T, (P, tabObj (tabV T).toArray) ∈ news ∧ ∀ x ∈ T, ∃ oc ws t, (x.2.2, oc) ∈ news ∧ oc.data = .fields ws ∧ ws[1]? = some (.str q t)
theorem Tab.mono {P : Addr} {q : Str} {l l' : Ledger} (h : Tab P q l) (m : ∀ p ∈ l, p ∈ l') : Tab P q l' :=
  let ⟨T, h1, h2⟩ := h; ⟨T, m _ h1, fun x hx => let ⟨oc, ws, t, h3, h4⟩ := h2 x hx; ⟨oc, ws, t, m _ h3, h4⟩⟩
theorem put_same {D : Addr} {o : Obj} : ∀ {l : Ledger}, (l.map (·.1)).Nodup → (D, o) ∈ l → Mine.put D o l = l
  | [], _, h => nomatch h
  | p :: l, nd, h => by
    rw [List.map_cons, List.nodup_cons] at nd
    show (if p.1 = D then (D, o) else p) :: Mine.put D o l = p :: l
    rcases List.mem_cons.mp h with e | h
    · subst e
      rw [if_pos rfl, put_off nd.1]
    · have hne : p.1 ≠ D := fun e => nd.1 (List.mem_map.mpr ⟨_, h, e.symm⟩)
      rw [if_neg hne, put_same nd.2 h]
theorem updF_put {D : Addr} {o : Obj} : ∀ {l : Ledger}, (l.map (·.1)).Nodup → (D, o) ∈ l → UpdF D o l (fun o' => Mine.put D o' l)
  | [], _, h => nomatch h
  | p :: l, nd, h => by
    rw [List.map_cons, List.nodup_cons] at nd
    rcases List.mem_cons.mp h with e | h
    · subst e
      have : (fun o' => Mine.put D o' ((D, o) :: l)) = fun o' => (D, o') :: l := by
        funext o'
        show (if D = D then (D, o') else (D, o)) :: Mine.put D o' l = _
        rw [if_pos rfl, put_off nd.1]
      rw [this]
      exact .head fun p hp e => nd.1 (List.mem_map.mpr ⟨p, hp, e⟩)
    · have hne : p.1 ≠ D := fun e => nd.1 (List.mem_map.mpr ⟨_, h, e.symm⟩)
      have : (fun o' => Mine.put D o' (p :: l)) = fun o' => p :: Mine.put D o' l := by
        funext o'
        show (if p.1 = D then (D, o') else p) :: Mine.put D o' l = _
        rw [if_neg hne]
      rw [this]
      exact .tail hne (updF_put nd.2 h)
theorem tab_apart {P a : Addr} {T : List (Nat × Nat × Addr)} {x : Nat × Nat × Addr} {l : Ledger} {oc : Obj} {ws : Array Value} {q : Str} {t : Tok} (nd : (l.map (·.1)).Nodup) (hm : (P, tabObj (tabV T).toArray) ∈ l) (hx : x ∈ T) (h1 : (a, oc) ∈ l) (h2 : oc.data = .fields ws) (h3 : ws[1]? = some (.str q t)) (e : a = P) : False := by
  subst e
  have := nodup_same nd hm h1
  subst this
  cases h2
  cases T with
  | nil => cases hx
  | cons y T =>
    rw [List.getElem?_toArray, tabV] at h3
    simp [rawInt] at h3
section
variable {g : Gl} {f : Fm} {A : Around} {vs : List (Option Value)} {news l R : Ledger} {r : Rs} {s : Shared} {fL c' P cdA : Addr}
theorem refused_no {d : Nat} {q : Str} {params : Arguments} {body : Expr} {scope : Scope} {cl : List (Str × Addr)} {P : Ledger → Rs → Prop} (hK : IsK g) (cx : Cx g f) (rm : Rm f A (d + 1)) (hl : LamAt fL q params body scope cl news)
    (hcl : ∀ (f' : Fm) (A' : Around) (vs' : List (Option Value)), Cx g f' → Rm f' A' d → CL g f' A' vs' news r fL [] (fun _ => P)) : CL g f A vs news r 520 [.ref fL] (fun v n' r' => v = .bool false ∧ P n' r') := by
  refine' CL.enterD (d := d) cx rm ["deed"] [] [Value.ref fL] ?ho ?hcd ?hb ?hbv ?hl ?hok ?_
  case ho => refine IsK.look hK ?_; k_is
  case hcd => refine IsK.code hK ?_; k_is
  case hb => exact fun _ _ => BindsTo.of_eq rfl
  case hbv => exact rfl
  case hl => exact rfl
  case hok => decide +kernel
  intro f' A' s' B hs
  have cx' := B.cx
  have rm' := B.rm
  have n0 := B.at (i := 0) rfl
  clear B
  replace hs : St f' [some (.ref fL)] news r s' := hs
  refine wpAny_execs_cons (wpAny_Try_except ?_)
  refine wpAny_execs_cons (wpAny_Expr_any ?_ (interactive_no cx') rfl)
  refine call0 cx' (PE.nameV cx' n0 rfl) hl hs fun s₁ hs₁ => ?_
  refine hcl f' A' _ cx' rm' _ s₁ hs₁ fun v n' r' s₂ p hs₂ => ?_
  refine wpAny_execs_cons (wpAny_Return_some (wpAny_Constant_bool ?_))
  exact ⟨_, n', r', ⟨rfl, p⟩, hs₂⟩
/-- a lambda made -/
theorem EX.lam {q : Str} {params : Arguments} {body : Expr} {scope : Scope} {clos : List (Str × Addr)} {pos : Pos} {cn : Str} {cs : Scope} {a : Addr} {cl : List (Str × Addr)} (cx : Cx g f) (henv : f.env = envX cn cs f.L a (.ref cdA) cl) (C : CodeHd f.h₀ cdA P) (ht : Tab P q news)
    (hq : q = f.env.qual ++ "<lambda>") (hcl : closureFor scope f.env = pure clos) (hdef : defaultsOf params f.env = ([], []) := by rfl) :
    EX g f A vs news r (.Lambda params body scope pos) (fun v n' r' => r = r' ∧ ∃ fL m o, v = .ref fL ∧ n' = m ++ Mine.put P o news ∧ Tab P q n' ∧ LamAt fL q params body scope clos n') := by
  intro Q E s hs k
  obtain ⟨T, hm, hT⟩ := ht
  refine kla_eval hdef ?_
  rw [← hq]
  have hcl' : closureFor scope (envX cn cs f.L a (.ref cdA) cl) = pure clos := by rw [← henv]; exact hcl
  rw [henv]
  rcases tabV_among pos T with hno | ⟨y, hy, hyes⟩
  · refine kla_nest hs.F hs.N cx.T C rfl (g := fun o => Mine.put P o news) (updF_put hs.nd hm) (tabV_ok T) hno hcl' ?_
    intro fL c' oc ws t ctv h' tk F' N' hd hw hlt hcf
    have hst : St f vs ((fL, kla_obj "<lambda>" q params body scope clos ((g.mg "__name__").getD .none) c' ctv) :: (c', oc) :: Mine.put P (tabObj ((tabV T).toArray ++ #[rawInt pos.line, rawInt pos.col, .ref c'])) news) r { s with heap := h', toks := tk } := by
      refine ⟨F', N', ?_, hs.gens, hs.drawn, hs.os⟩
      rw [List.map_cons, List.map_cons, put_keys, List.nodup_cons, List.nodup_cons]
      have h1 : ∀ b, c' ≤ b → b ∉ news.map (·.1) := fun b hb hm => by
        obtain ⟨p, hp, e⟩ := List.mem_map.mp hm
        exact absurd (Nat.lt_of_lt_of_le (hlt p hp) hb) (by rw [e]; exact Nat.lt_irrefl _)
      refine ⟨fun hm => ?_, h1 c' (Nat.le_refl _), hs.nd⟩
      rcases List.mem_cons.mp hm with e | hm
      · exact Nat.ne_of_gt hcf e
      · exact h1 fL (Nat.le_of_lt hcf) hm
    refine k _ _ _ _ ⟨rfl, fL, [_, _], _, rfl, rfl, ⟨T ++ [(pos.line, pos.col, c')], ?_, ?_⟩, ⟨_, c', ctv, oc, ws, t, .head _, .tail _ (.head _), hd, hw⟩⟩ hst
    · have : (tabV (T ++ [(pos.line, pos.col, c')])).toArray = (tabV T).toArray ++ #[rawInt pos.line, rawInt pos.col, .ref c'] := by
        rw [tabV_append]; simp [tabV]
      rw [this]
      exact .tail _ (.tail _ (mem_put_self hm))
    · intro x hx
      rcases List.mem_append.mp hx with hx | hx
      · obtain ⟨oc', ws', t', h1, h2⟩ := hT x hx
        refine ⟨oc', ws', t', .tail _ (.tail _ (mem_put_ne h1 fun e => ?_)), h2⟩
        exact tab_apart hs.nd hm hx h1 h2.1 h2.2 e
      · have : x = (pos.line, pos.col, c') := by simpa using hx
        subst this
        exact ⟨oc, ws, t, .tail _ (.head _), hd, hw⟩
  · refine kla_hit hs.F hs.N cx.T C rfl hm (tabV_ok T) hyes hcl' ?_
    intro fL ctv h' tk F' N' hlt
    obtain ⟨oc, ws, t, h1, h2, h3⟩ := hT y hy
    have hst : St f vs ((fL, kla_obj "<lambda>" q params body scope clos ((g.mg "__name__").getD .none) y.2.2 ctv) :: news) r { s with heap := h', toks := tk } := by
      refine ⟨F', N', List.nodup_cons.mpr ⟨fun hm => ?_, hs.nd⟩, hs.gens, hs.drawn, hs.os⟩
      obtain ⟨p, hp, e⟩ := List.mem_map.mp hm
      exact absurd (hlt p hp) (by rw [e]; exact Nat.lt_irrefl _)
    refine k _ _ _ _ ⟨rfl, fL, [_], _, rfl, by rw [put_same hs.nd hm]; rfl, ⟨T, .tail _ hm, fun x hx => ?_⟩, ⟨_, _, ctv, oc, ws, t, .head _, .tail _ h1, h2, h3⟩⟩ hst
    obtain ⟨oc', ws', t', z1, z2⟩ := hT x hx
    exact ⟨oc', ws', t', .tail _ z1, z2⟩
end
end Mine
end

section
set_option maxRecDepth 100000
open PySem PySem.W PySem.Builtin PySem.Builtin.ObjectAttr PyProof.Rows PySem.Calls
set_option maxHeartbeats 4000000
namespace Mine
/-- a list of numbers -/
def LO (P : List Nat → Ledger → Rs → Prop) (v : Value) (n' : Ledger) (r' : Rs) : Prop := ∃ la its ep hs, v = .ref la ∧ (la, listOf its.toArray ep) ∈ n' ∧ NA its hs ∧ hs.length < 64 ∧ P hs n' r'
/-- what sorted of it gives -/
def SO (P : List Nat → Ledger → Rs → Prop) (v : Value) (n' : Ledger) (r' : Rs) : Prop := ∃ D its c hs srt n0, v = .ref D ∧ n' = (D, listOf its.toArray c) :: n0 ∧ IntsAre its srt ∧ srt.Perm (hs.map Int.ofNat) ∧ srt.Pairwise (· ≤ ·) ∧ P hs n0 r'
theorem put_it {ia : Addr} {o o' : Obj} {N t : Ledger} (nd : ((N ++ (ia, o) :: t).map (·.1)).Nodup) : Mine.put ia o' (N ++ (ia, o) :: t) = N ++ (ia, o') :: t := by
  rw [List.map_append, List.map_cons, List.nodup_append, List.nodup_cons] at nd
  have nd1 : ia ∉ N.map (·.1) := fun h => nd.2.2 _ h ia (.head _) rfl
  have nd2 : ia ∉ t.map (·.1) := nd.2.1.1
  rw [put_append, put_off nd1]
  have e : Mine.put ia o' ((ia, o) :: t) = (ia, o') :: t := by
    show (if ia = ia then _ else _) :: Mine.put ia _ t = _
    rw [if_pos rfl, put_off nd2]
  rw [e]
section
variable {g : Gl} {f : Fm} {A : Around} {vs : List (Option Value)} {news l R : Ledger} {r : Rs} {s : Shared} {fa C xa dx c la lb : Addr} {S T : QS} {ad : QA} {hs ks : List Nat} {d : Nat}
variable {e e₁ e₂ e1 e2 test o r₁ lo hi ix ea value iter : Expr} {args : List Expr} {pos xp apos p' p1 : Pos} {rest body : List Stmt} {Q : Flow → Shared → Prop} {E : Value → Shared → Prop} {its : List Value} {ep i n : Nat} {x attr : Str} {a b : Int} {v : Value} {b₁ b₂ : Bool} {P : Value → Ledger → Rs → Prop} {PA : Value → Prop}

theorem EX.sorted {P : List Nat → Ledger → Rs → Prop} (cx : Cx g f) (hk : f.env.kindOf "sorted" = some .globalImplicit) (hm : nsIn g.K mainGlobals "sorted" = some none) (h : EX g f A vs news r e (LO P)) (he : starEach [e] f.env = [(false, eval e f.env)] := by rfl) :
    EX g f A vs news r (.Call (.Name "sorted" xp) [e] [] pos) (SO P) :=
  EX.callB1 cx hk hm rfl (by decide) h (fun u n' r' Q E s ⟨la, its, ep, hs, e1, hml, hna, hlen, p⟩ hst k => by
    subst e1
    refine kso_sorted hst.F hst.N ⟨_, hst.N.get hml, rfl, ep, rfl⟩ hna.ints (by rw [List.length_map]; exact hlen) fun D vs' ns' c h' F' N' hl hi _ hp ho _ => ?_
    refine k _ _ _ _ ⟨D, vs', c, hs, ns', n', rfl, rfl, hi, hp, ho, p⟩ ⟨F', N', ?_, hst.gens, hst.drawn, hst.os⟩
    refine List.nodup_cons.mpr ⟨fun hm => ?_, hst.nd⟩
    obtain ⟨p, hp, e⟩ := List.mem_map.mp hm
    exact absurd (hl p hp) (by rw [e]; exact Nat.lt_irrefl _)) he
/-- sorted(one) != sorted(other), of the same numbers -/
theorem ET.neSorted {p2 p3 : Pos} (cx : Cx g f) (rm : Rm f A d) (hk : f.env.kindOf "sorted" = some .globalImplicit) (hm : nsIn g.K mainGlobals "sorted" = some none)
    (h1 : EX g f A vs news r e1 (LO (fun hs n' r' => hs.Perm ks ∧ Gn r r' ∧ ∃ m, n' = m ++ news))) (h2 : ∀ n' r', PE g f A vs n' r' e2 (· = .ref lb)) (hmb : (lb, listOf its.toArray ep) ∈ news) (hb : NA its ks) (hlen : ks.length < 64)
    (he1 : starEach [e1] f.env = [(false, eval e1 f.env)] := by rfl) (he2 : starEach [e2] f.env = [(false, eval e2 f.env)] := by rfl) :
    ET g f A vs news r (.Compare (.Call (.Name "sorted" xp) [e1] [] p1) [.NotEq] [.Call (.Name "sorted" p2) [e2] [] p3] pos) (fun b n' r' => b = false ∧ Gn r r' ∧ ∃ m, n' = m ++ news) := by
  refine ET.cmp (P2 := fun u v n' r' => Gn r r' ∧ (∃ m, n' = m ++ news) ∧ ∃ D1 D2 i1 i2 c1 c2 s1 s2, u = .ref D1 ∧ v = .ref D2 ∧ (D1, listOf i1.toArray c1) ∈ n' ∧ (D2, listOf i2.toArray c2) ∈ n' ∧ IntsAre i1 s1 ∧ IntsAre i2 s2 ∧ s1 = s2) (EX.sorted cx hk hm h1 he1) ?_ ?_ (by with_unfolding_all rfl)
  · rintro u n' r' ⟨D1, i1, c1, hs, s1, n0, rfl, rfl, hi1, hp1, ho1, hpk, hg, m, rfl⟩
    refine fun Q E s hst k => EX.sorted (P := fun ks' n'' r'' => ks' = ks ∧ r'' = r' ∧ n'' = (D1, listOf i1.toArray c1) :: (m ++ news)) cx hk hm ?_ he2 Q E s hst ?_
    · exact fun Q E s hst k => h2 _ _ _ _ _ hst fun v s' q hs' => k v _ _ s' ⟨lb, its, ep, ks, q, .tail _ (List.mem_append_right _ hmb), hb, hlen, rfl, rfl, rfl⟩ hs'
    · rintro v _ _ s' ⟨D2, i2, c2, _, s2, n0, rfl, rfl, hi2, hp2, ho2, rfl, rfl, rfl⟩ hs'
      refine k _ _ _ _ ⟨hg, ⟨_ :: _ :: m, rfl⟩, D1, D2, i1, i2, c1, c2, s1, s2, rfl, rfl, .tail _ (.head _), .head _, hi1, hi2, ?_⟩ hs'
      exact lks_uniq (hp1.trans ((hpk.map _).trans hp2.symm)) ho1 ho2
  · rintro _ _ n' r' Q E s ⟨hg, hm, D1, D2, i1, i2, c1, c2, s1, s2, rfl, rfl, h1, h2, hi1, hi2, e⟩ hst k
    refine ne_intsK ⟨_, hst.N.get h1, rfl, c1, rfl⟩ hi1 ⟨_, hst.N.get h2, rfl, c2, rfl⟩ hi2 (by have := rm.uni; show A.units + 64 < 9900; omega) ?_
    rw [decide_eq_true e]
    exact k _ _ _ _ ⟨rfl, hg, hm⟩ hst
/-- a filter's method, the filter told by an expression -/
theorem EX.q0 {P : Value → Ledger → Rs → Prop} (cx : Cx g f) (hq : QFm news ad S) (ho : PE g f A vs news r o (· = .ref ad.x)) (ok : MethOK g.K 476 attr fa) (hc : CL g f A vs news r fa [.ref ad.x] P) (he : MShape o attr p1 [] pos f.env := by exact ⟨_, rfl⟩) :
    EX g f A vs news r (.Call (.Attribute o attr p1) [] [] pos) P := by
  obtain ⟨sl, h1, _⟩ := hq.self
  obtain ⟨ne, h2⟩ := hq.dx
  exact EX.meth0 cx ok ho h1 h2 rfl hc he
theorem EX.q1 {P : Value → Ledger → Rs → Prop} {P1 : Value → Prop} (cx : Cx g f) (hq : QFm news ad S) (ho : PE g f A vs news r o (· = .ref ad.x)) (ok : MethOK g.K 476 attr fa) (h1 : PE g f A vs news r e1 P1) (hc : ∀ v, P1 v → CL g f A vs news r fa [.ref ad.x, v] P) (he : MShape o attr p1 [e1] pos f.env := by exact ⟨_, rfl⟩)
    (he1 : starEach [e1] f.env = (false, eval e1 f.env) :: starEach [] f.env := by rfl) : EX g f A vs news r (.Call (.Attribute o attr p1) [e1] [] pos) P := by
  obtain ⟨sl, h1', _⟩ := hq.self
  obtain ⟨ne, h2'⟩ := hq.dx
  refine EX.meth cx ok ho h1' h2' rfl (AR.cons h1 AR.nil he1) ?_ he he1 rfl
  rintro _ ⟨v, _, rfl, p, rfl⟩
  exact hc v p
/-- a method of one argument that ends in an error -/
theorem ER.q1 {P1 : Value → Prop} (cx : Cx g f) (hq : QFm news ad S) (ho : PE g f A vs news r o (· = .ref ad.x)) (ok : MethOK g.K 476 attr fa) (h1 : PE g f A vs news r e1 P1) (hc : ∀ v, P1 v → CR g f A vs news r fa [.ref ad.x, v]) (he : MShape o attr p1 [e1] pos f.env := by exact ⟨_, rfl⟩)
    (he1 : starEach [e1] f.env = (false, eval e1 f.env) :: starEach [] f.env := by rfl) : ER g f A vs news r (.Call (.Attribute o attr p1) [e1] [] pos) := by
  obtain ⟨sl, h1', _⟩ := hq.self
  obtain ⟨ne, h2'⟩ := hq.dx
  intro Q E s hs k
  obtain ⟨pl, he⟩ := he
  refine MethodCall_ (pl := pl) (ho _ _ _ hs fun _ _ q s₁ => ?_) he
  subst q
  refine method_inst s₁.F cx.X (.of_news s₁.N h1' h2') ok.hg ok.hf ok.ht rfl ?_
  refine callWith_K cx.X ok.hk (AR.cons h1 AR.nil he1 _ _ _ _ s₁ fun l s' p s₂ => ⟨cx.X.keeps s₂.F.keep, ?_⟩) he1 rfl
  obtain ⟨v, _, rfl, p, rfl⟩ := p
  exact wpAny_call (hc v p _ _ s₂ fun e s' h1 h2 => k e s' h1 h2)
/-- a method whose argument changes the ledger, that ends in an error -/
theorem ER.q1E {PX : Value → Ledger → Rs → Prop} (cx : Cx g f) (hq : QFm news ad S) (ho : PE g f A vs news r o (· = .ref ad.x)) (ok : MethOK g.K 476 attr fa) (h1 : EX g f A vs news r e1 PX)
    (hc : ∀ v n' r', PX v n' r' → CR g f A vs n' r' fa [.ref ad.x, v]) (hup : ∀ v n' r', PX v n' r' → ∀ e s, Fly f (f.env :: f.outer) n' r' e s → Fly f (f.env :: f.outer) news r e s) (he : MShape o attr p1 [e1] pos f.env := by exact ⟨_, rfl⟩)
    (he1 : starEach [e1] f.env = (false, eval e1 f.env) :: starEach [] f.env := by rfl) : ER g f A vs news r (.Call (.Attribute o attr p1) [e1] [] pos) := by
  obtain ⟨sl, h1', _⟩ := hq.self
  obtain ⟨ne, h2'⟩ := hq.dx
  intro Q E s hs k
  obtain ⟨pl, he⟩ := he
  refine MethodCall_ (pl := pl) (ho _ _ _ hs fun _ _ q s₁ => ?_) he
  subst q
  refine method_inst s₁.F cx.X (.of_news s₁.N h1' h2') ok.hg ok.hf ok.ht rfl ?_
  refine callWith_K cx.X ok.hk ?_ he1 rfl
  have : ∀ (pos : Pos) (Q : List Value → Shared → Prop) (E : Value → Shared → Prop) s, St f vs news r s → (∀ v n' r' s', PX v n' r' → St f vs n' r' s' → Q [v] s') → wpAny g.M A (spliced (backTo pos (starEach [e1] f.env))) Q E s := fun pos Q E s hs k =>
    spliced_more (h1 _ _ _ hs fun v n' r' s' p hs' => spliced_none (k v n' r' s' p hs')) he1
  refine this _ _ _ _ s₁ fun v n' r' s₂ p s₂' => ⟨cx.X.keeps s₂'.F.keep, ?_⟩
  exact wpAny_call (hc v n' r' p _ _ s₂' fun e s' h1 h2 => k e s' (hup v n' r' p e s' h1) h2)
theorem Fly.less {f : Fm} {l : List Env} {m : Ledger} {e : Value} (h : Fly f l (m ++ news) r e s) : Fly f l news r e s := by
  obtain ⟨B, ea, a0, e1, hfl, h1, h2, h3, h4⟩ := h
  exact ⟨B, ea, a0, e1, hfl, h1, fun p hp => h2 p (List.mem_append_right _ hp), h3, h4⟩
/-- a def of the program called by its name, the argument changes the ledger -/
theorem EX.funE {PX : Value → Ledger → Rs → Prop} (cx : Cx g f) (hk : f.env.kindOf x = some .globalImplicit) (hx : nsIn g.K mainGlobals x = some (some (.ref fa))) (hkeep : keepIn g.K (.ref fa) = true) (h1 : EX g f A vs news r e1 PX) (hc : ∀ v n' r', PX v n' r' → CL g f A vs n' r' fa [v] P)
    (he1 : starEach [e1] f.env = (false, eval e1 f.env) :: starEach [] f.env := by rfl) (hd : (x == ("__debug__" : Str)) = false := by decide) :
    EX g f A vs news r (.Call (.Name x xp) [e1] [] pos) P :=
  fun _ _ _ hs k => wpAny_Call_NameR (PE.nameG cx hk hx hd _ _ _ hs fun _ s₁ q hs₁ => by
    subst q
    refine callWith_K cx.X hkeep ?_ he1 rfl
    have : ∀ (pos : Pos) (Q : List Value → Shared → Prop) (E : Value → Shared → Prop) s, St f vs news r s → (∀ v n' r' s', PX v n' r' → St f vs n' r' s' → Q [v] s') → wpAny g.M A (spliced (backTo pos (starEach [e1] f.env))) Q E s := fun pos Q E s hs k =>
      spliced_more (h1 _ _ _ hs fun v n' r' s' p hs' => spliced_none (k v n' r' s' p hs')) he1
    refine this _ _ _ _ hs₁ fun v n' r' s₂ p s₂' => ⟨cx.X.keeps s₂'.F.keep, ?_⟩
    exact wpAny_call (hc v n' r' p _ _ s₂' k))
/-- key in one -/
theorem PE.inQ {PK : Value → Prop} (cx : Cx g f) (hq : QFm news ad S) (hk : PE g f A vs news r e PK) (ho : PE g f A vs news r o (· = .ref ad.x)) (hf : findIn g.K (.ref 476) "__contains__" = some (some (.ref fa))) (hfn : isFn g.K (.ref fa) = true)
    (hc : ∀ v, PK v → CL g f A vs news r fa [.ref ad.x, v] (still news r (isB b₁))) (hm : behindInMarks .In o = false := by with_unfolding_all rfl) : PE g f A vs news r (.Compare e [.In] [o] pos) (isB b₁) := by
  obtain ⟨sl, h1', _⟩ := hq.self
  obtain ⟨ne, h2'⟩ := hq.dx
  refine PE.cmpS hk ho (fun u v Q E s p q hs k => ?_) hm
  subst q
  refine in_K hs.F cx.X (.of_news hs.N h1' h2') hf hfn (wpAny_call (hc u p _ _ hs fun v n' r' s' ⟨p, e1, e2⟩ hs' => ?_))
  subst e1 e2
  rw [p]
  exact wpAny_truthy_bool (k s' hs')
/-- a for over a list just made, its target a cell -/
theorem X.forListC {its : Array Value} (I : Nat → List (Option Value) → Ledger → Rs → Prop) (cx : Cx g f) (rm : Rm f A d) (hkx : f.env.kindOf x = some .cell) (hlx : f.env.cells.lookup x = some c) (hs : St f vs news r s) (h0 : I 0 vs news r)
    (hc : ∀ j vs N r, I j vs N r → CellAt c N)
    (he : EX g f A vs news r iter (fun v n' r' => r = r' ∧ ∃ la ep t, v = .ref la ∧ n' = t ++ news ∧ (la, listOf its ep) ∈ t))
    (turn : ∀ j v vs N T r s o', its[j]? = some v → I j vs N r → o'.data = .cell (some v) → St f vs (Mine.put c o' N ++ T) r s →
      wpAny g.M A (execs body f.env) (fun fl s' => (fl = .next ∨ fl = .cont) ∧ ∃ vs' N' r', I (j + 1) vs' N' r' ∧ St f vs' (N' ++ T) r' s') (fun _ _ => False) s)
    (exit : ∀ T vs N r s, I its.size vs N r → St f vs (N ++ T) r s → wpAny g.M A (execs rest f.env) Q E s)
    (hfs : ∀ x, foldedSetIterable iter f.env x = pure x := by intro _; rfl) :
    wpAny g.M A (execs (.For (.Name x xp) iter body [] pos :: rest) f.env) Q E s := by
  refine wpAny_execs_cons (wpAny_For (he _ _ _ hs fun v n' r' s' p hs' => ?_) hfs)
  obtain ⟨rfl, la, ep, t, rfl, rfl, hmt⟩ := p
  have hL : Heap.IsList s'.heap la its := ⟨_, hs'.N.get (List.mem_append_left _ hmt), rfl, ep, rfl⟩
  refine wpAny_pyIter_list hL ?_
  have z := hs'.alloc (ob := { cls := .type "list_iterator", data := .fields #[.ref la, .int 0 0] }) (t := s'.toks) rfl
  have z := St.toEnd (a := _ :: t) (b := news) z
  generalize s'.heap.objs.size = ia at z ⊢
  refine codeAny_forLoop (fun k s => ∃ j vs N r o, k + j = its.size ∧ I j vs N r ∧ St f vs (N ++ (ia, o) :: t) r s ∧ o.cls = .type "list_iterator" ∧ o.data = .fields #[.ref la, .int j 0]) ?_ its.size ⟨0, _, _, _, _, rfl, h0, z, rfl, rfl⟩
  rintro k s ⟨j, vs, N, r, o, hk, hI, hs, hoc, hod⟩
  have hm : (ia, o) ∈ N ++ (ia, o) :: t := by simp
  have hL : Heap.IsList s.heap la its := ⟨_, hs.N.get (List.mem_append_right _ (.tail _ hmt)), rfl, ep, rfl⟩
  rcases Nat.eq_zero_or_pos k with h0 | h0
  · have : j = its.size := by omega
    subst this
    refine wpAny_pyNext_list_end rm.hd ⟨o, hs.N.get hm, hoc, hod⟩ hL (by simp) fun h' hx => ?_
    exact wpAny_execs_nil (exit t vs N r _ hI (hs.extBut hx))
  · have hj : j < its.size := by omega
    refine wpAny_pyNext_list_item (i := j) (x := its[j]) ⟨o, hs.N.get hm, hoc, hod⟩ hL (by simp [hj]) fun h' hit hsb => ?_
    obtain ⟨o', ho', hc', hd'⟩ := hit
    have z := hs.put (t := s.toks) hm hsb ho'
    rw [put_it hs.nd] at z
    obtain ⟨oc, u, hcm, hcd⟩ := hc j vs N r hI
    have hcm' : (c, oc) ∈ N ++ (ia, o') :: t := List.mem_append_left _ hcm
    refine wpAny_assign_Name (wpAny_storeName_cell cx.hk hkx hlx ⟨oc, z.N.get hcm', hcd⟩ fun h'' hv hsb' => ?_)
    obtain ⟨o2, h3, h4⟩ := z.setCell (tk := s.toks) ⟨oc, u, hcm', hcd⟩ hv hsb'
    rw [put_left z.nd hcm] at h4
    refine wpAny_mono (turn j its[j] vs N ((ia, o') :: t) r _ o2 (by simp [hj]) hI h3 h4) (fun fl s₃ h => ?_) (fun _ _ z => z.elim)
    obtain ⟨hfl, vs', N', r'', hI'', hs₃⟩ := h
    rcases hfl with rfl | rfl
    · exact ⟨k - 1, by omega, j + 1, vs', N', r'', o', by omega, hI'', hs₃, hc', hd'⟩
    · exact ⟨k - 1, by omega, j + 1, vs', N', r'', o', by omega, hI'', hs₃, hc', hd'⟩
/-- a for over a list just made -/
theorem X.forListT {its : Array Value} (I : Nat → List (Option Value) → Ledger → Rs → Prop) (cx : Cx g f) (rm : Rm f A d) (hx : f.ns[i]? = some x) (hi : ∀ j vs N r, I j vs N r → ∃ u, vs[i]? = some u) (hs : St f vs news r s) (h0 : I 0 vs news r)
    (he : EX g f A vs news r iter (fun v n' r' => r = r' ∧ ∃ la ep t, v = .ref la ∧ n' = t ++ news ∧ (la, listOf its ep) ∈ t))
    (turn : ∀ j v vs N T r s, its[j]? = some v → I j vs N r → St f (vs.set i (some v)) (N ++ T) r s →
      wpAny g.M A (execs body f.env) (fun fl s' => (fl = .next ∨ fl = .cont) ∧ ∃ vs' N' r', I (j + 1) vs' N' r' ∧ St f vs' (N' ++ T) r' s') (fun _ _ => False) s)
    (exit : ∀ T vs N r s, I its.size vs N r → St f vs (N ++ T) r s → wpAny g.M A (execs rest f.env) Q E s)
    (hfs : ∀ x, foldedSetIterable iter f.env x = pure x := by intro _; rfl) :
    wpAny g.M A (execs (.For (.Name x xp) iter body [] pos :: rest) f.env) Q E s := by
  refine wpAny_execs_cons (wpAny_For (he _ _ _ hs fun v n' r' s' p hs' => ?_) hfs)
  obtain ⟨rfl, la, ep, t, rfl, rfl, hmt⟩ := p
  have hL : Heap.IsList s'.heap la its := ⟨_, hs'.N.get (List.mem_append_left _ hmt), rfl, ep, rfl⟩
  refine wpAny_pyIter_list hL ?_
  have z := hs'.alloc (ob := { cls := .type "list_iterator", data := .fields #[.ref la, .int 0 0] }) (t := s'.toks) rfl
  have z := St.toEnd (a := _ :: t) (b := news) z
  generalize s'.heap.objs.size = ia at z ⊢
  refine codeAny_forLoop (fun k s => ∃ j vs N r o, k + j = its.size ∧ I j vs N r ∧ St f vs (N ++ (ia, o) :: t) r s ∧ o.cls = .type "list_iterator" ∧ o.data = .fields #[.ref la, .int j 0]) ?_ its.size ⟨0, _, _, _, _, rfl, h0, z, rfl, rfl⟩
  rintro k s ⟨j, vs, N, r, o, hk, hI, hs, hoc, hod⟩
  have hm : (ia, o) ∈ N ++ (ia, o) :: t := by simp
  have hL : Heap.IsList s.heap la its := ⟨_, hs.N.get (List.mem_append_right _ (.tail _ hmt)), rfl, ep, rfl⟩
  rcases Nat.eq_zero_or_pos k with h0 | h0
  · have : j = its.size := by omega
    subst this
    refine wpAny_pyNext_list_end rm.hd ⟨o, hs.N.get hm, hoc, hod⟩ hL (by simp) fun h' hx => ?_
    exact wpAny_execs_nil (exit t vs N r _ hI (hs.extBut hx))
  · have hj : j < its.size := by omega
    refine wpAny_pyNext_list_item (i := j) (x := its[j]) ⟨o, hs.N.get hm, hoc, hod⟩ hL (by simp [hj]) fun h' hit hsb => ?_
    obtain ⟨o', ho', hc', hd'⟩ := hit
    have z := hs.put (t := s.toks) hm hsb ho'
    rw [put_it hs.nd] at z
    obtain ⟨u, hu⟩ := hi j vs N r hI
    refine wpAny_assign_Name (wpAny_storeName_local (cx.kin i x hx) (z.ns cx) (fun h'' hn' hsb' => ?_) (by rw [cx.hk]; rfl))
    have hs₂ := z.store (tk := s.toks + 1) cx hx hu hn' hsb'
    refine wpAny_mono (turn j its[j] vs N ((ia, o') :: t) r _ (by simp [hj]) hI hs₂) (fun fl s₃ h => ?_) (fun _ _ z => z.elim)
    obtain ⟨hfl, vs', N', r'', hI'', hs₃⟩ := h
    rcases hfl with rfl | rfl
    · exact ⟨k - 1, by omega, j + 1, vs', N', r'', o', by omega, hI'', hs₃, hc', hd'⟩
    · exact ⟨k - 1, by omega, j + 1, vs', N', r'', o', by omega, hI'', hs₃, hc', hd'⟩
/-- a == [] of an empty list -/
theorem EX.eqNil {P1 : Value → Ledger → Rs → Prop} (rm : Rm f A d) (h : EX g f A vs news r e1 P1) (hp : ∀ v n' r', P1 v n' r' → ∃ D ep, v = .ref D ∧ (D, listOf (#[] : Array Value) ep) ∈ n') (hm : behindInMarks .Eq (.List [] p1) = false := by with_unfolding_all rfl) :
    EX g f A vs news r (.Compare e1 [.Eq] [.List [] p1] pos) (fun v n' r' => v = .bool true ∧ ∃ u o n0, P1 u n0 r' ∧ n' = o :: n0) :=
  fun _ _ _ hs k => wpAny_Compare1 (h _ _ _ hs fun u n1 r1 s₁ p1 hs₁ => EX.list AR.nil (fun l h => by rw [h]; decide) _ _ _ hs₁ fun v n2 r2 s₂ p2 hs₂ => by
    obtain ⟨a, _, rfl, rfl, rfl, rfl⟩ := p2
    obtain ⟨D, ep, rfl, hD⟩ := hp _ _ _ p1
    refine eq_intsK (vs := []) (us := []) (ns := []) (ms := []) ⟨_, hs₂.N.get (.tail _ hD), rfl, ep, rfl⟩ .nil ⟨_, hs₂.N.get (.head _), rfl, 0, rfl⟩ .nil (by have := rm.uni; show A.units + 64 < 9900; omega) ?_
    exact k _ _ _ _ ⟨rfl, _, _, _, p1, rfl⟩ hs₂) hm
end
end Mine
end

section
set_option maxRecDepth 100000
open PySem PySem.W PySem.Builtin PySem.Builtin.ObjectAttr PyProof.Rows PySem.Calls
set_option maxHeartbeats 8000000
namespace Mine
theorem dummyFill30 : (hd.heap_39 = hd.heap_39) ∧ (PySem.Challenge.rw_sv0018_01 = PySem.Challenge.rw_sv0018_01) := by
  k_fill
  exact ⟨rfl, rfl⟩
section
variable {g : Gl} {f : Fm} {A : Around} {vs : List (Option Value)} {news l R : Ledger} {r : Rs} {s : Shared} {fa C xa dx c la lb x : Addr} {S S₂ T : QS} {ad ad2 : QA} {d : Nat}
variable {e e1 e2 test o value ea : Expr} {args : List Expr} {pos xp apos p1 : Pos} {rest body orelse : List Stmt} {Q : Flow → Shared → Prop} {E : Value → Shared → Prop} {n ne : Nat} {attr : Str} {t t1 t2 : Tok} {es : List DictEntry} {PA : List Value → Prop}
theorem X.ifT (hs : St f vs news r s) (ht : PT g f A vs news r test true)
    (h : ∀ s', St f vs news r s' → wpAny g.M A (execs body f.env) (Then g f A rest Q E) E s') : wpAny g.M A (execs (.If test body orelse pos :: rest) f.env) Q E s :=
  X.if hs ht (fun _ => h) (fun h => nomatch h)
theorem X.exprR (cx : Cx g f) (hs : St f vs news r s) (h : ER g f A vs news r e) (k : ∀ x s', Fly f (f.env :: f.outer) news r x s' → E x s') (hsw : swapsWith e none pos.line f.env = pure false := by rfl) : wpAny g.M A (execs (.Expr e pos :: rest) f.env) Q E s :=
  wpAny_execs_cons (wpAny_Expr_any (h _ _ _ hs fun x s' hF _ => k x s' hF) (interactive_no cx) hsw)
theorem X.raiseEr (hK : IsK g) (cx : Cx g f) (rm : Rm f A d) (hs : St f vs news r s) (h : EX g f A vs news r e (Err news r)) (k : ∀ v s', Er f news r v s' → E v s') :
    wpAny g.M A (execs (.Raise (some e) none pos :: rest) f.env) Q E s :=
  X.raise hK cx rm.hd hs h fun v n' r' s' p hs' => k v s' (by
    have e := p.1
    subst e
    exact .inl ⟨_, _, _, p, fun _ h => h, hs'⟩)
theorem ER.meth (cx : Cx g f) (ok : MethOK g.K C attr fa) (ho : PE g f A vs news r o (· = .ref xa)) (h₁ : (xa, instS C dx sl) ∈ news) (h₂ : (dx, dictOf es n) ∈ news) (hl : getL attr es = some none)
    (ha : AR g f A vs news r (ea :: args) PA) (hc : ∀ l, PA l → CR g f A vs news r fa (.ref xa :: l)) (he : MShape o attr apos (ea :: args) pos f.env := by exact ⟨_, rfl⟩)
    (he' : starEach (ea :: args) f.env = (false, eval ea f.env) :: starEach args f.env := by rfl) (hplain : (backTo pos (starEach args f.env)).any (·.1) = false := by rfl) : ER g f A vs news r (.Call (.Attribute o attr apos) (ea :: args) [] pos) :=
  fun _ _ _ hs k => by
    obtain ⟨pl, he⟩ := he
    refine MethodCall_ (pl := pl) (ho _ _ _ hs fun _ _ q s₁ => ?_) he
    subst q
    refine method_inst s₁.F cx.X (.of_news s₁.N h₁ h₂) ok.hg ok.hf ok.ht hl ?_
    exact callWith_K cx.X ok.hk (ha _ _ _ _ s₁ fun l s' p s₂ => ⟨cx.X.keeps s₂.F.keep, wpAny_call (hc l p _ _ s₂ fun e s' h1 h2 => k e s' h1 h2)⟩) he' hplain
/-- a class called, __init__ ends in an error -/
theorem ER.new {y : Str} {C fI : Addr} (cx : Cx g f) (ok : NewOK g.K C fI) (hk : f.env.kindOf y = some .globalImplicit) (hx : nsIn g.K mainGlobals y = some (some (.ref C)))
    (ha : AR g f A vs news r (ea :: args) PA)
    (hc : ∀ l xa dx, PA l → CR g f (A.under (.builtin "type.__call__" ⟨.ref C :: l, []⟩)) vs ((xa, instS C dx #[]) :: (dx, dictOf [] 0) :: news) r fI (.ref xa :: l))
    (he' : starEach (ea :: args) f.env = (false, eval ea f.env) :: starEach args f.env := by rfl) (hplain : (backTo pos (starEach args f.env)).any (·.1) = false := by rfl) (hd : (y == ("__debug__" : Str)) = false := by decide) :
    ER g f A vs news r (.Call (.Name y xp) (ea :: args) [] pos) :=
  fun _ _ _ hs k => wpAny_Call_NameR (PE.nameG cx hk hx hd _ _ _ hs fun _ _ q hs₁ => by
    subst q
    refine callWith_K cx.X ok.hk (ha _ _ _ _ hs₁ fun l s₂ p hs₂ => ⟨cx.X.keeps hs₂.F.keep, ?_⟩) he' hplain
    refine call_cls hs₂.F cx.X hs₂.N ok.hm ok.hi ok.hf fun xa dx h' F' N' l1 l2 => ?_
    refine hc l xa dx p _ _ ⟨F', N', ?_, hs₂.gens, hs₂.drawn, hs₂.os⟩ fun e s' h1 h2 => k e s' (Fly.less (m := [_, _]) h1) h2
    have hlt : ∀ q ∈ news.map (·.1), q < dx := fun q hq => by
      obtain ⟨p, hp, e⟩ := List.mem_map.mp hq
      rw [← e]; exact l1 p hp
    rw [List.map_cons, List.map_cons, List.nodup_cons, List.nodup_cons]
    refine ⟨fun hm => ?_, fun hm => Nat.lt_irrefl _ (hlt _ hm), hs₂.nd⟩
    rcases List.mem_cons.mp hm with e | hm
    · exact Nat.ne_of_gt l2 e
    · have := hlt _ hm; exact Nat.lt_irrefl _ (Nat.lt_trans this l2))
/-- resize(3) of too many -/
theorem resize_err (hK : IsK g) (hP : IsP g) (cx : Cx g f) (rm : Rm f A 12) (hq : QFm news ad S) (h8 : 8 ≤ S.added) : CR g f A vs news r 346 [.ref ad.x, .int 3 t] := by
  refine' CR.enter (d := 11) (binds := [("self", .ref ad.x), ("quotient", .int 3 t)]) cx rm ["self", "quotient"] ["hashes", "i", "_h"] [Value.ref ad.x, .int 3 t] ?ho ?hcd ?hb ?hbv ?hl ?hok ?_
  case ho => refine IsK.look hK ?_; k_is
  case hcd => refine IsK.code hK ?_; k_is
  case hb => exact fun s X => binds_K X rfl (IsK.look hK (by k_is)) rfl rfl rfl
  case hbv => exact rfl
  case hl => exact rfl
  case hok => decide +kernel
  clear cx rm
  intro f' A' s' B hs
  have cx := B.cx
  have rm := B.rm
  have n0 := B.at (i := 0) rfl
  have n1 := B.at (i := 1) rfl
  have ke := B.glob (x := "QuotientFilterError") rfl
  clear B
  replace hs : St f' [some (.ref ad.x), some (.int 3 t), none, none, none] news r s' := hs
  refine X.ifF hs (PT.isNoneF (PE.nameV cx n1 rfl) PE.cNone (by intro q; cases q)) ?_
  intro s₁ hs
  refine X.ifT hs (PT.toB (PT.ge (Me.pAdded ⟨cx, hK, hq, 0, n0, rfl⟩ (rm.less (by omega))) (PE.toI (b := ((2 ^ 3 : Nat) : Int)) (PE.shl PE.cInt (PE.nameI cx n1 rfl) (by omega) (by omega) (by decide)) (by decide))) (by simp only [Int.ofNat_le]; exact decide_eq_true (by omega))) ?_
  intro s₁ hs
  exact X.raiseEr hK cx rm hs (EX.err hK hP cx (rm.less (by omega)) ke (PE.weaken PE.cStr fun v h => ⟨_, h⟩)) fun _ _ h => h
/-- merge of filters with other hashes -/
theorem merge_err (hK : IsK g) (hP : IsP g) (cx : Cx g f) (rm : Rm f A 12) (hq : QFm news ad S) (hq₂ : QFm news ad2 S₂) (h1 : S.hf = 506) (h2 : S₂.hf = 513) : CR g f A vs news r 353 [.ref ad.x, .ref ad2.x] := by
  refine' CR.enter (d := 11) cx rm ["self", "second"] ["_h"] [Value.ref ad.x, .ref ad2.x] ?ho ?hcd ?hb ?hbv ?hl ?hok ?_
  case ho => refine IsK.look hK ?_; k_is
  case hcd => refine IsK.code hK ?_; k_is
  case hb => exact fun _ _ => BindsTo.of_eq rfl
  case hbv => exact rfl
  case hl => exact rfl
  case hok => decide +kernel
  clear cx rm
  intro f' A' s' B hs
  have cx := B.cx
  have rm := B.rm
  have n0 := B.at (i := 0) rfl
  have n1 := B.at (i := 1) rfl
  have ke := B.glob (x := "QuotientFilterError") rfl
  clear B
  replace hs : St f' [some (.ref ad.x), some (.ref ad2.x), none] news r s' := hs
  refine X.ifT hs (PT.toB (PT.ne (Me.hash (x := "self") (c := 116) (y := "test") ⟨cx, hK, hq, 0, n0, rfl⟩ h1 (rm.less (by omega)) PE.cStr (by with_unfolding_all rfl) (by decide)) (Me.hashO (x := "second") (c := 116) (y := "test") ⟨cx, hK, hq₂, 1, n1, rfl⟩ h2 (rm.less (by omega)) PE.cStr (by with_unfolding_all rfl) (by decide))) (by decide)) ?_
  intro s₁ hs
  exact X.raiseEr hK cx rm hs (EX.err hK hP cx (rm.less (by omega)) ke (PE.weaken PE.cStr fun v h => ⟨_, h⟩)) fun _ _ h => h
/-- QuotientFilter(2) and QuotientFilter(32) -/
theorem init_err (hK : IsK g) (hP : IsP g) (cx : Cx g f) (rm : Rm f A 12) {q : Nat} (hq : q = 2 ∨ q = 32) : CR g f A vs news r 203 [.ref x, .int q t] := by
  refine' CR.enter (d := 11) (binds := [("self", .ref x), ("quotient", .int q t), ("auto_expand", .bool true), ("hash_function", .none)]) cx rm ["self", "quotient", "auto_expand", "hash_function"] [] [Value.ref x, .int q t, .bool true, .none] ?ho ?hcd ?hb ?hbv ?hl ?hok ?_
  case ho => refine IsK.look hK ?_; k_is
  case hcd => refine IsK.code hK ?_; k_is
  case hb => exact fun s X => binds_K X rfl (IsK.look hK (by k_is)) rfl rfl rfl
  case hbv => exact rfl
  case hl => exact rfl
  case hok => decide +kernel
  clear cx rm
  intro f' A' s' B hs
  have cx := B.cx
  have rm := B.rm
  have n1 := B.at (i := 1) rfl
  have ke := B.glob (x := "QuotientFilterError") rfl
  clear B
  replace hs : St f' [some (.ref x), some (.int q t), some (.bool true), some .none] news r s' := hs
  refine X.ifT hs (PT.toB (PT.or2 (PT.lt (PE.nameI cx n1 rfl) PE.cInt) (fun _ => PT.gt (PE.nameI cx n1 rfl) PE.cInt)) (by rcases hq with rfl | rfl <;> decide)) ?_
  intro s₁ hs
  refine X.raiseEr hK cx rm hs (EX.err hK hP cx (rm.less (by omega)) ke (PE.fstr3 (PE.nameI cx n1 rfl) ?_ ?_ ?_ ?_)) fun _ _ h => h
  all_goals (rcases hq with rfl | rfl <;> decide +kernel)
/-- _add of a full filter -/
theorem add_err (hK : IsK g) (hP : IsP g) (cx : Cx g f) (rm : Rm f A 12) (hq : QFm news ad S) (hfull : S.n = S.added) {qq rr : Nat} : CR g f A vs news r 374 [.ref ad.x, .int qq t1, .int rr t2] := by
  refine' CR.enter (d := 11) cx rm ["self", "q", "r"] ["start_idx", "orig_start_idx", "starts", "f"] [Value.ref ad.x, .int qq t1, .int rr t2] ?ho ?hcd ?hb ?hbv ?hl ?hok ?_
  case ho => refine IsK.look hK ?_; k_is
  case hcd => refine IsK.code hK ?_; k_is
  case hb => exact fun _ _ => BindsTo.of_eq rfl
  case hbv => exact rfl
  case hl => exact rfl
  case hok => decide +kernel
  clear cx rm
  intro f' A' s' B hs
  have cx := B.cx
  have rm := B.rm
  have n0 := B.at (i := 0) rfl
  have ke := B.glob (x := "QuotientFilterError") rfl
  clear B
  replace hs : St f' [some (.ref ad.x), some (.int qq t1), some (.int rr t2), none, none, none, none] news r s' := hs
  refine X.ifT hs (PT.toB (PT.eq (Me.aSize ⟨cx, hK, hq, 0, n0, rfl⟩) (Me.aAdded ⟨cx, hK, hq, 0, n0, rfl⟩)) (by rw [hfull]; simp)) ?_
  intro s₁ hs
  exact X.raiseEr hK cx rm hs (EX.err hK hP cx (rm.less (by omega)) ke (PE.weaken PE.cStr fun v h => ⟨_, h⟩)) fun _ _ h => h
/-- add_alt of a full filter -/
theorem add_alt_err (hK : IsK g) (hP : IsP g) (cx : Cx g f) (rm : Rm f A 14) (hq : QFm news ad S) (hfull : S.n = S.added) (hg : S.grows = false) {h : Nat} (hlt : h < 2 ^ 32) (hc : S.contained (S.quot h) (S.rmd h) = some none) : CR g f A vs news r 296 [.ref ad.x, .int h t1] := by
  refine' CR.enter (d := 13) cx rm ["self", "_hash"] ["key_quotient", "key_remainder"] [Value.ref ad.x, .int h t1] ?ho ?hcd ?hb ?hbv ?hl ?hok ?_
  case ho => refine IsK.look hK ?_; k_is
  case hcd => refine IsK.code hK ?_; k_is
  case hb => exact fun _ _ => BindsTo.of_eq rfl
  case hbv => exact rfl
  case hl => exact rfl
  case hok => decide +kernel
  clear cx rm
  intro f' A' s' B hs
  have cx := B.cx
  have rm := B.rm
  have n0 := B.at (i := 0) rfl
  have n1 := B.at (i := 1) rfl
  have n2 := B.at (i := 2) rfl
  have n3 := B.at (i := 3) rfl
  clear B
  replace hs : St f' [some (.ref ad.x), some (.int h t1), none, none] news r s' := hs
  refine X.ifF hs (PT.toB (PT.and2 (PT.val (Me.aAuto ⟨cx, hK, hq, 0, n0, rfl⟩) (fun _ => rfl)) (fun _ => PT.ge (PE.mulL PE.cInt (Me.aAdded ⟨cx, hK, hq, 0, n0, rfl⟩) (by decide)) (PE.mulL PE.cInt (Me.aSize ⟨cx, hK, hq, 0, n0, rfl⟩) (by decide)))) (by rw [← hg]; unfold QS.grows; congr 1; simp; omega)) ?_
  intro s₁ hs
  refine X.assign cx hs n2 rfl (Me.quot ⟨cx, hK, hq, 0, n0, rfl⟩ (PE.nameI cx n1 rfl)) ?_
  rintro _ s₁ ⟨t2, rfl⟩ hs
  refine X.assign cx hs n3 rfl (Me.rmd ⟨cx, hK, hq, 0, n0, rfl⟩ (PE.nameI cx n1 rfl)) ?_
  rintro _ s₁ ⟨t3, rfl⟩ hs
  refine X.ifT hs (PT.toB (PT.eq (PE.of (Me.meth2 ⟨cx, hK, hq, 0, n0, rfl⟩ (KQ.m_contained_at_loc hK) (PE.nameI cx n2 rfl) (PE.nameI cx n3 rfl) (fun v u ⟨t, e⟩ ⟨t', e'⟩ => by rw [e, e']; exact contained hK cx (rm.less (by omega)) hq (hq.quot_lt hlt) hc))) (PE.neg PE.cInt)) rfl) ?_
  intro s₁ hs
  obtain ⟨sl, h1', _⟩ := hq.self
  obtain ⟨ne, h2'⟩ := hq.dx
  refine X.exprR cx hs (ER.meth cx (KQ.m_add hK) (PE.nameV cx n0 rfl) h1' h2' rfl (AR.cons (PE.nameI cx n2 rfl) (AR.cons (PE.nameI cx n3 rfl) AR.nil)) ?_) fun _ _ h => .inr h
  rintro _ ⟨_, _, rfl, ⟨t, rfl⟩, _, _, rfl, ⟨t', rfl⟩, rfl⟩
  exact add_err hK hP cx (rm.less (by omega)) hq hfull
end
end Mine
end

section
set_option maxRecDepth 100000
open PySem PySem.W PyProof.Rows PySem.Calls
namespace Mine
def recOf {q : Program} {loose : List Str} {XP : (Str → Option Value) → Heap → Prop} {YP : World → Heap → Prop} {r : RowW} {d : DefRec} {kwd : List (Str × Expr)} {run : Value → List Value → Sem Value} {P : Prop} (_ : WalkO q loose XP YP r d kwd run → P) : DefRec := d
def lawD : DefRec := recOf hd
def lawBody : List Stmt := lawD.body
def lawScope : Scope := lawD.scope
def loopOf : List Stmt → List Stmt
  | .For _ _ b _ _ :: _ => b
  | _ => []
end Mine
end

section
namespace Mine
/-! The table seen from a base slot: cells in a row, each none or (home, remainder). -/
abbrev Cells := Nat → Option (Nat × Nat)
def Lex (p q : Nat × Nat) : Prop := p.1 < q.1 ∨ (p.1 = q.1 ∧ p.2 < q.2)
theorem Lex.trans {p q r : Nat × Nat} (h : Lex p q) (h' : Lex q r) : Lex p r := by
  unfold Lex at *
  omega
theorem Lex.irr {p : Nat × Nat} (h : Lex p p) : False := by unfold Lex at h; omega
structure WF (n : Nat) (c : Cells) : Prop where
  off : ∀ t, n ≤ t → c t = none
  le : ∀ t p, c t = some p → p.1 ≤ t
  step : ∀ t p, c (t + 1) = some p → p.1 ≤ t → ∃ q, c t = some q ∧ Lex q p
theorem WF.lt {n : Nat} {c : Cells} (w : WF n c) {t : Nat} {p : Nat × Nat} (h : c t = some p) : t < n := by
  rcases Nat.lt_or_ge t n with q | q
  · exact q
  · rw [w.off t q] at h; cases h
theorem WF.mono {n : Nat} {c : Cells} (w : WF n c) : ∀ {t : Nat} {p : Nat × Nat}, c t = some p → ∀ y, p.1 ≤ y → y < t → ∃ q, c y = some q ∧ Lex q p
  | 0, _, _, y, _, h => absurd h (Nat.not_lt_zero _)
  | t + 1, p, hp, y, h1, h2 => by
    obtain ⟨q, hq, hl⟩ := w.step t p hp (by omega)
    rcases Nat.lt_or_ge y t with h | h
    · obtain ⟨q', hq', hl'⟩ := w.mono hq y (by unfold Lex at hl; omega) h
      exact ⟨q', hq', hl'.trans hl⟩
    · have : y = t := by omega
      subst this
      exact ⟨q, hq, hl⟩
theorem WF.some_of {n : Nat} {c : Cells} (w : WF n c) {t : Nat} {p : Nat × Nat} (h : c t = some p) {y : Nat} (h1 : p.1 ≤ y) (h2 : y ≤ t) : ∃ q, c y = some q ∧ q.1 ≤ p.1 := by
  rcases Nat.lt_or_ge y t with q | q
  · obtain ⟨r, hr, hl⟩ := w.mono h y h1 q
    exact ⟨r, hr, by unfold Lex at hl; omega⟩
  · have : y = t := by omega
    subst this
    exact ⟨p, h, Nat.le_refl _⟩
/-- homes grow along the row -/
theorem WF.sorted {n : Nat} {c : Cells} (w : WF n c) {t u : Nat} {p q : Nat × Nat} (ht : c t = some p) (hu : c u = some q) (h : t < u) : Lex p q := by
  rcases Nat.lt_or_ge t q.1 with h1 | h1
  · have := w.le t p ht
    exact .inl (by omega)
  · obtain ⟨r, hr, hl⟩ := w.mono hu t h1 h
    rw [ht] at hr; cases hr; exact hl
theorem WF.inj {n : Nat} {c : Cells} (w : WF n c) {t u : Nat} {p : Nat × Nat} (ht : c t = some p) (hu : c u = some p) : t = u := by
  rcases Nat.lt_trichotomy t u with h | h | h
  · exact absurd (w.sorted ht hu h) Lex.irr
  · exact h
  · exact absurd (w.sorted hu ht h) Lex.irr
/-- whether t's cell goes on the run of the cell before -/
def same (c : Cells) : Nat → Bool
  | 0 => false
  | t + 1 => match c t, c (t + 1) with
    | some p, some q => p.1 == q.1
    | _, _ => false
def pos (n b t : Nat) : Nat := (b + t) % n
structure Conc (S : QS) (b : Nat) (c : Cells) : Prop where
  hb : b < S.n
  fil : ∀ t p, c t = some p → S.fil (pos S.n b t) = p.2
  shf : ∀ t, t < S.n → S.shf (pos S.n b t) = (match c t with | some p => p.1 != t | none => false)
  con : ∀ t, t < S.n → S.con (pos S.n b t) = same c t
  occ : ∀ x, x < S.n → (S.occ (pos S.n b x) = true ↔ ∃ t p, c t = some p ∧ p.1 = x)

theorem pos_lt {n : Nat} (hn : 0 < n) (b t : Nat) : pos n b t < n := Nat.mod_lt _ hn
theorem pos_inj {n b t u : Nat} (hn : 0 < n) (ht : t < n) (hu : u < n) (h : pos n b t = pos n b u) : t = u := by
  unfold pos at h
  have h1 := Nat.mod_add_div (b + t) n
  have h2 := Nat.mod_add_div (b + u) n
  rw [h] at h1
  have : n * ((b + t) / n) + u = n * ((b + u) / n) + t := by omega
  rcases Nat.lt_trichotomy ((b + t) / n) ((b + u) / n) with q | q | q
  · have := Nat.mul_le_mul_left n (Nat.succ_le_of_lt q)
    rw [Nat.succ_eq_add_one, Nat.mul_add] at this
    omega
  · rw [q] at this; omega
  · have := Nat.mul_le_mul_left n (Nat.succ_le_of_lt q)
    rw [Nat.succ_eq_add_one, Nat.mul_add] at this
    omega
theorem pos_self {n b : Nat} (hb : b < n) : pos n b 0 = b := by unfold pos; rw [Nat.add_zero, Nat.mod_eq_of_lt hb]
theorem pos_n {n b : Nat} : pos n b n = pos n b 0 := by unfold pos; rw [Nat.add_zero, Nat.add_mod_right]
theorem pos_nx (S : QS) (b t : Nat) : S.nx (pos S.n b t) = pos S.n b (t + 1) := by
  unfold QS.nx pos
  rw [Nat.mod_add_mod, Nat.add_assoc]
theorem pos_pv (S : QS) (b t : Nat) (hn : 0 < S.n) : S.pv (pos S.n b (t + 1)) = pos S.n b t := by
  unfold QS.pv pos
  have : (b + (t + 1)) % S.n + S.n - 1 = (b + (t + 1)) % S.n + (S.n - 1) := by omega
  rw [this, Nat.mod_add_mod, show b + (t + 1) + (S.n - 1) = b + t + S.n by omega, Nat.add_mod_right]
/-- the place of a physical slot -/
theorem pos_surj {n b i : Nat} (hb : b < n) (hi : i < n) : ∃ t, t < n ∧ pos n b t = i := by
  refine ⟨(i + n - b) % n, Nat.mod_lt _ (by omega), ?_⟩
  unfold pos
  rw [Nat.add_mod_mod, show b + (i + n - b) = i + n by omega, Nat.add_mod_right, Nat.mod_eq_of_lt hi]
theorem same_eq (c : Cells) (t : Nat) : same c (t + 1) = (match c t, c (t + 1) with | some p, some q => p.1 == q.1 | _, _ => false) := rfl
theorem same_false_of {c : Cells} {t : Nat} (h : c t = none) : same c t = false := by
  cases t with
  | zero => rfl
  | succ t => rw [same_eq, h]; cases c t <;> rfl
theorem same_succ {c : Cells} {t : Nat} {p q : Nat × Nat} (h : c t = some p) (h' : c (t + 1) = some q) : same c (t + 1) = (p.1 == q.1) := by
  rw [same_eq, h, h']
theorem same_none {c : Cells} {t : Nat} (h : c t = none) : same c (t + 1) = false := by rw [same_eq, h]
section
variable {S : QS} {b : Nat} {c : Cells}
theorem Conc.pos (k : Conc S b c) : 0 < S.n := Nat.lt_of_le_of_lt (Nat.zero_le _) k.hb
theorem Conc.emp (k : Conc S b c) (w : WF S.n c) {t : Nat} (ht : t < S.n) : S.emp (Mine.pos S.n b t) = (c t).isNone := by
  unfold QS.emp
  have h1 := k.shf t ht
  have h2 := k.con t ht
  cases hc : c t with
  | none =>
    rw [hc] at h1
    have h3 : S.occ (Mine.pos S.n b t) = false := by
      cases ho : S.occ (Mine.pos S.n b t) with
      | false => rfl
      | true =>
        obtain ⟨u, p, hu, hp⟩ := (k.occ t ht).mp ho
        obtain ⟨q, hq, _⟩ := w.some_of hu (y := t) (by omega) (by have := w.le u p hu; omega)
        rw [hc] at hq; cases hq
    have h4 : same c t = false := same_false_of hc
    rw [h3, h2, h1, h4]; rfl
  | some p =>
    rw [hc] at h1
    by_cases hp : p.1 = t
    · have : S.occ (Mine.pos S.n b t) = true := (k.occ t ht).mpr ⟨t, p, hc, hp⟩
      rw [this]; rfl
    · have : S.shf (Mine.pos S.n b t) = true := by rw [h1]; simpa using hp
      rw [this]; simp
theorem same_home {n : Nat} {c : Cells} (w : WF n c) {t : Nat} {p : Nat × Nat} (h : c t = some p) (hp : p.1 = t) : same c t = false := by
  cases t with
  | zero => rfl
  | succ t =>
    cases hc : c t with
    | none => exact same_none hc
    | some q =>
      rw [same_succ hc h, beq_eq_false_iff_ne]
      have := w.le t q hc
      omega
end
end Mine
end

section
namespace Mine
/-- how many of [lo, hi) hold -/
def cnt (o : Nat → Bool) (lo : Nat) : Nat → Nat
  | 0 => 0
  | t + 1 => if lo ≤ t then cnt o lo t + (if o t then 1 else 0) else 0
theorem cnt_empty {o : Nat → Bool} {lo hi : Nat} (h : hi ≤ lo) : cnt o lo hi = 0 := by
  cases hi with
  | zero => rfl
  | succ t => unfold cnt; rw [if_neg (by omega)]
theorem cnt_zero {o : Nat → Bool} {lo : Nat} : ∀ {hi : Nat}, (∀ y, lo ≤ y → y < hi → o y = false) → cnt o lo hi = 0
  | 0, _ => rfl
  | t + 1, h => by
    unfold cnt
    split
    · rename_i hle
      rw [cnt_zero (fun y h1 h2 => h y h1 (by omega)), h t hle (by omega)]; rfl
    · rfl
theorem cnt_first {o : Nat → Bool} {lo p : Nat} (hp : lo ≤ p) (ho : o p = true) (h : ∀ y, lo ≤ y → y < p → o y = false) : ∀ {hi : Nat}, p < hi → cnt o lo hi = 1 + cnt o (p + 1) hi
  | 0, h => absurd h (Nat.not_lt_zero _)
  | t + 1, hlt => by
    unfold cnt
    rw [if_pos (by omega)]
    rcases Nat.lt_or_ge p t with q | q
    · rw [if_pos (show p + 1 ≤ t by omega), cnt_first hp ho h q]; omega
    · have : p = t := by omega
      subst this
      rw [if_neg (show ¬ p + 1 ≤ p by omega), ho, cnt_zero h]; rfl
section
variable {S : QS} {b : Nat} {c : Cells}
abbrev oc (S : QS) (b y : Nat) : Bool := S.occ (pos S.n b y)
theorem gsBack_spec (k : Conc S b c) (w : WF S.n c) {x : Nat} (hx : x < S.n) : ∀ (t m a : Nat) (p : Nat × Nat), t ≤ x → t < m → c t = some p →
    ∃ t0 p0, t0 ≤ t ∧ c t0 = some p0 ∧ p0.1 = t0 ∧ (∀ y, t0 ≤ y → y ≤ t → ∃ q, c y = some q) ∧ S.gsBack (pos S.n b x) m (pos S.n b t) a = some (pos S.n b t0, a + (if t = x ∨ oc S b t = true then 1 else 0) + cnt (oc S b) t0 t) := by
  intro t
  induction t with
  | zero =>
    intro m a p hx' hm hp
    obtain ⟨m, rfl⟩ : ∃ j, m = j + 1 := ⟨m - 1, by omega⟩
    have hle := w.le 0 p hp
    have hs := k.shf 0 k.pos
    rw [hp] at hs
    have hs' : S.shf (pos S.n b 0) = false := by rw [hs]; simp; omega
    refine ⟨0, p, Nat.le_refl _, hp, by omega, fun y h1 h2 => ⟨p, by rw [show y = 0 by omega]; exact hp⟩, ?_⟩
    simp only [QS.gsBack, hs', Bool.false_eq_true, if_false]
    have : (pos S.n b 0 == pos S.n b x || S.occ (pos S.n b 0)) = decide (0 = x ∨ oc S b 0 = true) := by
      by_cases e : 0 = x
      · subst e; simp
      · have : pos S.n b 0 ≠ pos S.n b x := fun h => e (pos_inj k.pos k.pos hx h)
        rw [beq_eq_false_iff_ne.mpr this, Bool.false_or]
        simp [e, oc]
    rw [this, cnt_empty (Nat.le_refl _)]
    by_cases e : 0 = x ∨ oc S b 0 = true
    · rw [if_pos (by simpa using e), if_pos e]
    · rw [if_neg (by simpa using e), if_neg e]; rfl
  | succ t ih =>
    intro m a p hx' hm hp
    obtain ⟨m, rfl⟩ : ∃ j, m = j + 1 := ⟨m - 1, by omega⟩
    have hlt := w.lt hp
    have hs := k.shf (t + 1) hlt
    rw [hp] at hs
    have : (pos S.n b (t + 1) == pos S.n b x || S.occ (pos S.n b (t + 1))) = decide (t + 1 = x ∨ oc S b (t + 1) = true) := by
      by_cases e : t + 1 = x
      · subst e; simp
      · have : pos S.n b (t + 1) ≠ pos S.n b x := fun h => e (pos_inj k.pos hlt hx h)
        rw [beq_eq_false_iff_ne.mpr this, Bool.false_or]
        simp [e, oc]
    have ha : (if (pos S.n b (t + 1) == pos S.n b x || S.occ (pos S.n b (t + 1))) = true then a + 1 else a) = a + (if t + 1 = x ∨ oc S b (t + 1) = true then 1 else 0) := by
      rw [this]
      by_cases e : t + 1 = x ∨ oc S b (t + 1) = true
      · rw [if_pos (by simpa using e), if_pos e]
      · rw [if_neg (by simpa using e), if_neg e]; rfl
    simp only [QS.gsBack, ha]
    by_cases hpt : p.1 = t + 1
    · have hs' : S.shf (pos S.n b (t + 1)) = false := by rw [hs]; simpa using hpt
      refine ⟨t + 1, p, Nat.le_refl _, hp, hpt, fun y h1 h2 => ⟨p, by rw [show y = t + 1 by omega]; exact hp⟩, ?_⟩
      rw [if_neg (by rw [hs']; decide), cnt_empty (Nat.le_refl _)]; rfl
    · have hle := w.le _ _ hp
      have hs' : S.shf (pos S.n b (t + 1)) = true := by rw [hs]; simpa using hpt
      obtain ⟨q, hq, _⟩ := w.step t p hp (by omega)
      obtain ⟨t0, p0, h1, h2, h3, h4, h5⟩ := ih m (a + (if t + 1 = x ∨ oc S b (t + 1) = true then 1 else 0)) q (by omega) (by omega) hq
      refine ⟨t0, p0, by omega, h2, h3, fun y h1 h2 => ?_, ?_⟩
      · rcases Nat.lt_or_ge y (t + 1) with e | e
        · exact h4 y h1 (by omega)
        · exact ⟨p, by rw [show y = t + 1 by omega]; exact hp⟩
      · rw [if_pos hs', pos_pv S b t k.pos, h5]
        have e1 : ¬ t = x := by omega
        rw [cnt, if_pos h1]
        have : (if t = x ∨ oc S b t = true then 1 else 0) = (if oc S b t = true then 1 else 0) := by simp [e1]
        rw [this]
        congr 2
        omega

/-- the end of getStart's way: where x's run starts or would start -/
structure StartAt (c : Cells) (n x t0 s : Nat) : Prop where
  le0 : t0 ≤ x
  le : x ≤ s
  len : s ≤ n
  low : ∀ y, t0 ≤ y → y < s → ∃ p, c y = some p ∧ p.1 < x
  stop : s = n ∨ c s = none ∨ ∃ p, c s = some p ∧ x ≤ p.1
  home : ∃ p, c t0 = some p ∧ p.1 = t0

theorem no_occ (k : Conc S b c) (w : WF S.n c) {t t0 lo y : Nat} (h0 : lo = t0 ∧ t = t0 ∨ ∃ q, t0 < t ∧ c (t - 1) = some q ∧ lo = q.1 + 1 ∧ t0 ≤ q.1) (hlo : lo ≤ y) (hy : y < S.n) (ho : oc S b y = true) : ∃ u p, t ≤ u ∧ c u = some p ∧ p.1 = y := by
  obtain ⟨u, p, hu, hp⟩ := (k.occ y hy).mp ho
  refine ⟨u, p, ?_, hu, hp⟩
  have hle := w.le u p hu
  rcases h0 with ⟨h1, h2⟩ | ⟨q, h1, h2, h3, h4⟩
  · omega
  · rcases Nat.lt_or_ge u t with e | e
    · exfalso
      rcases Nat.lt_or_ge u (t - 1) with e2 | e2
      · have := w.sorted hu h2 e2
        unfold Lex at this; omega
      · have : u = t - 1 := by omega
        subst this
        rw [hu] at h2; cases h2; omega
    · exact e

theorem gsFwd_spec (k : Conc S b c) (w : WF S.n c) {x t0 : Nat} (hx : x < S.n) (h0 : t0 ≤ x) (hh : ∃ p, c t0 = some p ∧ p.1 = t0) (hu : ∀ y, t0 ≤ y → y ≤ x → ∃ q, c y = some q) :
    ∀ (j t m lo : Nat), S.n - t = j → t ≤ S.n → t0 ≤ t → j < m → (∀ y, t0 ≤ y → y < t → ∃ p, c y = some p ∧ p.1 < x) → (lo = t0 ∧ t = t0 ∨ ∃ q, t0 < t ∧ c (t - 1) = some q ∧ lo = q.1 + 1 ∧ t0 ≤ q.1) →
      ∃ s, S.gsFwd m (pos S.n b t) (cnt (oc S b) lo x + 1) = some (pos S.n b s) ∧ StartAt c S.n x t0 s := by
  intro j
  induction j with
  | zero =>
    intro t m lo hj ht h0t hm hlow hlo
    have : t = S.n := by omega
    subst this
    obtain ⟨m, rfl⟩ : ∃ j, m = j + 1 := ⟨m - 1, by omega⟩
    have hc := k.con 0 k.pos
    have hz : cnt (oc S b) lo x = 0 := cnt_zero fun y h1 h2 => by
      cases ho : oc S b y with
      | false => rfl
      | true =>
        obtain ⟨u, p, h3, h4, _⟩ := no_occ k w hlo h1 (by omega) ho
        have := w.lt h4
        omega
    refine ⟨S.n, ?_, ⟨h0, by omega, Nat.le_refl _, hlow, .inl rfl, hh⟩⟩
    rw [hz]
    simp only [QS.gsFwd, pos_n, hc]
    rfl
  | succ j ih =>
    intro t m lo hj ht h0t hm hlow hlo
    have htn : t < S.n := by omega
    have hj1 : S.n - (t + 1) = j := by clear hh hu hlow hlo ih; omega
    have ht1 : t + 1 ≤ S.n := htn
    have h0t1 : t0 ≤ t + 1 := Nat.le_succ_of_le h0t
    obtain ⟨m, rfl⟩ : ∃ j, m = j + 1 := ⟨m - 1, by omega⟩
    have hm1 : j < m := Nat.lt_of_succ_lt_succ hm
    have hc := k.con t htn
    -- the stop
    have stop : same c t = false → (c t = none ∨ ∃ p, c t = some p ∧ x ≤ p.1) → ∃ s, S.gsFwd (m + 1) (pos S.n b t) (cnt (oc S b) lo x + 1) = some (pos S.n b s) ∧ StartAt c S.n x t0 s := by
      intro hsame hstop
      have hxt : x ≤ t := by
        rcases hstop with h | ⟨p, h, h'⟩
        · rcases Nat.lt_or_ge t x with e | e
          · obtain ⟨q, hq⟩ := hu t h0t (by omega)
            rw [h] at hq; cases hq
          · exact e
        · have := w.le t p h; omega
      have hz : cnt (oc S b) lo x = 0 := cnt_zero fun y h1 h2 => by
        cases ho : oc S b y with
        | false => rfl
        | true =>
          obtain ⟨u, p, h3, h4, h5⟩ := no_occ k w hlo h1 (by omega) ho
          obtain ⟨q, hq, hq2⟩ := w.some_of h4 (y := t) (by omega) h3
          rcases hstop with h | ⟨p', h, h'⟩
          · rw [h] at hq; cases hq
          · rw [h] at hq; cases hq; omega
      refine ⟨t, ?_, ⟨h0, hxt, ht, hlow, .inr hstop, hh⟩⟩
      rw [hz]
      simp only [QS.gsFwd, hc, hsame]
      rfl
    cases hct : c t with
    | none => exact stop (same_false_of hct) (.inl hct)
    | some p =>
      have hfirst : lo = t0 ∧ t = t0 → same c t = false := fun ⟨_, h⟩ => by
        obtain ⟨p', h1, h2⟩ := hh
        subst h
        exact same_home w h1 h2
      rcases Nat.lt_or_ge p.1 x with hpx | hpx
      · have h0p : t0 ≤ p.1 := by
          rcases hlo with ⟨_, h⟩ | ⟨q, h1', h2', _, h4'⟩
          · obtain ⟨p', h1, h2⟩ := hh
            subst h
            rw [hct] at h1; cases h1; omega
          · have := w.sorted h2' hct (by omega)
            unfold Lex at this; omega
        have hlo' : p.1 + 1 = t0 ∧ t + 1 = t0 ∨ ∃ q, t0 < t + 1 ∧ c (t + 1 - 1) = some q ∧ p.1 + 1 = q.1 + 1 ∧ t0 ≤ q.1 := .inr ⟨p, by omega, by simpa using hct, rfl, h0p⟩
        have hlow' : ∀ y, t0 ≤ y → y < t + 1 → ∃ p, c y = some p ∧ p.1 < x := fun y h1 h2 => by
          rcases Nat.lt_or_ge y t with e | e
          · exact hlow y h1 e
          · have : y = t := by omega
            subst this; exact ⟨p, hct, hpx⟩
        obtain ⟨s, hs, hst⟩ := ih (t + 1) m (p.1 + 1) hj1 ht1 h0t1 hm1 hlow' hlo'
        refine ⟨s, ?_, hst⟩
        cases hsame : same c t with
        | true =>
          have heq : lo = p.1 + 1 := by
            rcases hlo with h | ⟨q, h1, h2, h3, h4⟩
            · rw [hfirst h] at hsame; cases hsame
            · obtain ⟨t', rfl⟩ : ∃ t', t = t' + 1 := ⟨t - 1, by omega⟩
              have h2 : c t' = some q := h2
              rw [same_succ h2 hct] at hsame
              have := eq_of_beq hsame
              omega
          simp only [QS.gsFwd, hc, hsame, Bool.not_true, Bool.false_eq_true, if_false, pos_nx]
          rw [heq]; exact hs
        | false =>
          have hlp : lo ≤ p.1 := by
            rcases hlo with ⟨h1, h⟩ | ⟨q, h1, h2, h3, h4⟩
            · omega
            · obtain ⟨t', rfl⟩ : ∃ t', t = t' + 1 := ⟨t - 1, by omega⟩
              have h2 : c t' = some q := h2
              rw [same_succ h2 hct] at hsame
              have := w.sorted h2 hct (by omega)
              have := ne_of_beq_false hsame
              unfold Lex at *; omega
          have ho : oc S b p.1 = true := (k.occ p.1 (by omega)).mpr ⟨t, p, hct, rfl⟩
          have hcn : cnt (oc S b) lo x = 1 + cnt (oc S b) (p.1 + 1) x := cnt_first hlp ho (fun y h1 h2 => by
            cases ho : oc S b y with
            | false => rfl
            | true =>
              obtain ⟨u, p', h3, h4, h5⟩ := no_occ k w hlo h1 (by omega) ho
              rcases Nat.lt_or_ge t u with e | e
              · have := w.sorted hct h4 e
                unfold Lex at this; omega
              · have : u = t := by omega
                subst this
                rw [hct] at h4; cases h4; omega) hpx
          rw [hcn]
          simp only [QS.gsFwd, hc, hsame, Bool.not_false, if_true, pos_nx]
          rw [if_neg (by rw [beq_iff_eq]; omega), if_neg (by rw [beq_iff_eq]; omega), show 1 + cnt (oc S b) (p.1 + 1) x + 1 - 1 = cnt (oc S b) (p.1 + 1) x + 1 by omega]
          exact hs
      · refine stop ?_ (.inr ⟨p, hct, hpx⟩)
        rcases hlo with h | ⟨q, h1, h2, h3, h4⟩
        · exact hfirst h
        · obtain ⟨t', rfl⟩ : ∃ t', t = t' + 1 := ⟨t - 1, by omega⟩
          have h2 : c t' = some q := h2
          rw [same_succ h2 hct, beq_eq_false_iff_ne]
          obtain ⟨p', h5, h6⟩ := hlow t' (by omega) (by omega)
          rw [h5] at h2; cases h2
          omega

theorem getStart_spec (k : Conc S b c) (w : WF S.n c) {x : Nat} (hx : x < S.n) {p : Nat × Nat} (hp : c x = some p) : ∃ t0 s, S.getStart (pos S.n b x) = some (pos S.n b s) ∧ StartAt c S.n x t0 s := by
  obtain ⟨t0, p0, h1, h2, h3, h4, h5⟩ := gsBack_spec k w hx x S.fuel 0 p (Nat.le_refl _) (by unfold QS.fuel; omega) hp
  obtain ⟨s, h6, h7⟩ := gsFwd_spec k w hx h1 ⟨p0, h2, h3⟩ h4 (S.n - t0) t0 S.fuel t0 rfl (by omega) (Nat.le_refl _) (by unfold QS.fuel; omega) (fun y h1 h2 => by omega) (.inl ⟨rfl, rfl⟩)
  refine ⟨t0, s, ?_, h7⟩
  unfold QS.getStart
  rw [k.emp w hx, hp]
  simp only [Option.isNone_some, Bool.false_eq_true, if_false, h5, Option.bind_some]
  rw [if_pos (.inl trivial), Nat.zero_add, Nat.add_comm]
  exact h6
/-- where x is occupied, the start is its run's first cell -/
theorem StartAt.run (w : WF S.n c) {x t0 s : Nat} (h : StartAt c S.n x t0 s) {u : Nat} {p : Nat × Nat} (hu : c u = some p) (hp : p.1 = x) : s ≤ u ∧ ∃ q, c s = some q ∧ q.1 = x := by
  have hle := w.le u p hu
  have h0 := h.le0
  have h1 := h.le
  have hsu : s ≤ u := by
    rcases Nat.lt_or_ge u s with e | e
    · obtain ⟨q, hq, hq2⟩ := h.low u (by omega) e
      rw [hu] at hq; cases hq; omega
    · exact e
  refine ⟨hsu, ?_⟩
  obtain ⟨q, hq, hq2⟩ := w.some_of hu (y := s) (by omega) hsu
  refine ⟨q, hq, ?_⟩
  rcases h.stop with e | e | ⟨p', e, e'⟩
  · have := w.lt hu; omega
  · rw [e] at hq; cases hq
  · rw [e] at hq; cases hq; omega
end
end Mine
end

section
namespace Mine
section
variable {S : QS} {b : Nat} {c : Cells}
theorem StartAt.first (w : WF S.n c) {x t0 s : Nat} (h : StartAt c S.n x t0 s) : same c s = false := by
  rcases Nat.lt_or_ge t0 s with e | e
  · obtain ⟨s', rfl⟩ : ∃ s', s = s' + 1 := ⟨s - 1, by omega⟩
    obtain ⟨q, hq, hq2⟩ := h.low s' (by omega) (by omega)
    rcases h.stop with h1 | h1 | ⟨p, h1, h2⟩
    · exact same_false_of (w.off _ (by omega))
    · exact same_false_of h1
    · rw [same_succ hq h1, beq_eq_false_iff_ne]; omega
  · have h1 := h.le
    have h2 := h.le0
    have : s = t0 := by omega
    obtain ⟨p, hp, hp2⟩ := h.home
    subst this
    exact same_home w hp hp2
theorem cLoop_spec (k : Conc S b c) (w : WF S.n c) {x r s : Nat} (hx : x ≤ s) (hs : s < S.n) (hfirst : same c s = false) (hrun : ∃ p, c s = some p ∧ p.1 = x) (hall : ∀ u f, c u = some (x, f) → s ≤ u) :
    ∀ (j t m st : Nat), S.n - t = j → t ≤ S.n → s ≤ t → j < m → st = (if t = s then 0 else 1) → (∀ y, s ≤ y → y < t → ∃ f, c y = some (x, f) ∧ f < r) →
      ∃ res, S.cLoop r m (pos S.n b t) st = some res ∧ (∀ u, c u = some (x, r) → res = some (pos S.n b u)) ∧ ((∀ u, c u ≠ some (x, r)) → res = none) := by
  intro j
  induction j with
  | zero =>
    intro t m st hj ht hst hm hs' hlow
    have : t = S.n := by clear hrun hall hlow; omega
    subst this
    obtain ⟨m, rfl⟩ : ∃ j, m = j + 1 := ⟨m - 1, by clear hrun hall hlow; omega⟩
    have hno : ∀ u, c u ≠ some (x, r) := fun u hu => by
      have h1 := hall u r hu
      obtain ⟨f, hf, hf2⟩ := hlow u h1 (w.lt hu)
      rw [hu] at hf; cases hf; omega
    refine ⟨none, ?_, fun u hu => absurd hu (hno u), fun _ => rfl⟩
    have hc := k.con 0 k.pos
    have : st = 1 := by rw [hs', if_neg (by clear hrun hall hlow; omega)]
    simp only [QS.cLoop, pos_n, hc, same, this]
    cases S.emp (pos S.n b 0) <;> rfl
  | succ j ih =>
    intro t m st hj ht hst hm hs' hlow
    have htn : t < S.n := by clear hrun hall hlow; omega
    have hj1 : S.n - (t + 1) = j := by clear hrun hall hlow ih; omega
    obtain ⟨m, rfl⟩ : ∃ j, m = j + 1 := ⟨m - 1, by clear hrun hall hlow; omega⟩
    have hm1 : j < m := Nat.lt_of_succ_lt_succ hm
    have hc := k.con t htn
    have he := k.emp w htn
    have hbelow : ∀ u, c u = some (x, r) → t ≤ u := fun u hu => by
      have h1 := hall u r hu
      rcases Nat.lt_or_ge u t with e | e
      · obtain ⟨f, hf, hf2⟩ := hlow u h1 e
        rw [hu] at hf; cases hf; omega
      · exact e
    cases hct : c t with
    | none =>
      rw [hct] at he
      have hno : ∀ u, c u ≠ some (x, r) := fun u hu => by
        obtain ⟨q, hq, _⟩ := w.some_of hu (y := t) (by show x ≤ t; omega) (hbelow u hu)
        rw [hct] at hq; cases hq
      refine ⟨none, ?_, fun u hu => absurd hu (hno u), fun _ => rfl⟩
      simp only [QS.cLoop, he]
      rfl
    | some p =>
      rw [hct] at he
      have hfil := k.fil t p hct
      by_cases hp : p.1 = x
      · -- in the run
        have hst1 : (if (!S.con (pos S.n b t)) = true then st + 1 else st) = 1 := by
          rw [hc, hs']
          by_cases e : t = s
          · subst e; rw [hfirst]; simp
          · rw [if_neg e]
            obtain ⟨t', rfl⟩ : ∃ t', t = t' + 1 := ⟨t - 1, by clear hrun hall hlow; omega⟩
            obtain ⟨f, hf, _⟩ := hlow t' (by clear hrun hall hlow; omega) (by clear hrun hall hlow; omega)
            rw [same_succ hf hct]
            simp [hp]
        rcases Nat.lt_trichotomy p.2 r with hlt | heq | hgt
        · obtain ⟨res, h1, h2, h3⟩ := ih (t + 1) m 1 hj1 htn (by clear hrun hall hlow; omega) hm1 (by rw [if_neg (by clear hrun hall hlow; omega)]) (fun y h1 h2 => by
            rcases Nat.lt_or_ge y t with e | e
            · exact hlow y h1 e
            · have : y = t := by omega
              subst this
              exact ⟨p.2, by rw [hct, ← hp], hlt⟩)
          refine ⟨res, ?_, h2, h3⟩
          simp only [QS.cLoop, he, hst1, hfil, Option.isNone_some, Bool.false_eq_true, if_false, pos_nx]
          rw [if_neg (by simp; omega), if_neg (by simp; omega)]
          exact h1
        · refine ⟨some (pos S.n b t), ?_, fun u hu => ?_, fun hno => absurd (by rw [hct, ← hp, ← heq]) (hno t)⟩
          · simp only [QS.cLoop, he, hst1, hfil, Option.isNone_some, Bool.false_eq_true, if_false]
            rw [if_neg (by simp; omega), if_pos (by simpa using heq)]
          · have : u = t := w.inj hu (by rw [hct, ← hp, ← heq])
            rw [this]
        · have hno : ∀ u, c u ≠ some (x, r) := fun u hu => by
            have h1 := hbelow u hu
            rcases Nat.lt_or_ge t u with e | e
            · have := w.sorted hct hu e
              unfold Lex at this
              simp only at this; omega
            · have : u = t := by omega
              subst this
              rw [hct] at hu; cases hu; omega
          refine ⟨none, ?_, fun u hu => absurd hu (hno u), fun _ => rfl⟩
          simp only [QS.cLoop, he, hst1, hfil, Option.isNone_some, Bool.false_eq_true, if_false]
          rw [if_pos (by simp; omega)]
      · -- behind it
        have hts : t ≠ s := fun e => by
          obtain ⟨p', h1, h2⟩ := hrun
          subst e
          rw [hct] at h1; cases h1; exact hp h2
        obtain ⟨t', rfl⟩ : ∃ t', t = t' + 1 := ⟨t - 1, by clear hrun hall hlow; omega⟩
        obtain ⟨f, hf, _⟩ := hlow t' (by clear hrun hall hlow; omega) (by clear hrun hall hlow; omega)
        have hsf : same c (t' + 1) = false := by rw [same_succ hf hct, beq_eq_false_iff_ne]; exact fun h => hp h.symm
        have hst2 : (if (!S.con (pos S.n b (t' + 1))) = true then st + 1 else st) = 2 := by
          rw [hc, hsf, hs', if_neg hts]; rfl
        have hgt := w.sorted hf hct (Nat.lt_succ_self _)
        have hno : ∀ u, c u ≠ some (x, r) := fun u hu => by
          have h1 := hbelow u hu
          rcases Nat.lt_or_ge (t' + 1) u with e | e
          · have := w.sorted hct hu e
            unfold Lex at this hgt
            simp only at this hgt; omega
          · have : u = t' + 1 := by omega
            subst this
            rw [hct] at hu; cases hu; exact hp rfl
        refine ⟨none, ?_, fun u hu => absurd hu (hno u), fun _ => rfl⟩
        simp only [QS.cLoop, he, hst2, Option.isNone_some, Bool.false_eq_true, if_false]
        rw [if_pos (by simp)]
theorem contained_spec (k : Conc S b c) (w : WF S.n c) {x r : Nat} (hx : x < S.n) :
    ∃ res, S.contained (pos S.n b x) r = some res ∧ (∀ u, c u = some (x, r) → res = some (pos S.n b u)) ∧ ((∀ u, c u ≠ some (x, r)) → res = none) := by
  unfold QS.contained
  cases ho : S.occ (pos S.n b x) with
  | false =>
    refine ⟨none, rfl, fun u hu => ?_, fun _ => rfl⟩
    have := (k.occ x hx).mpr ⟨u, _, hu, rfl⟩
    rw [ho] at this; cases this
  | true =>
    obtain ⟨u, p, hu, hp⟩ := (k.occ x hx).mp ho
    obtain ⟨q, hq, _⟩ := w.some_of hu (y := x) (by omega) (by have := w.le u p hu; omega)
    obtain ⟨t0, s, h1, h2⟩ := getStart_spec k w hx hq
    obtain ⟨hsu, hrun⟩ := h2.run w hu hp
    obtain ⟨res, h3, h4, h5⟩ := cLoop_spec (r := r) k w h2.le (Nat.lt_of_le_of_lt hsu (w.lt hu)) (h2.first w) hrun (fun u f hu => (h2.run w hu rfl).1) (S.n - s) s S.fuel 0 rfl h2.len (Nat.le_refl _) (by unfold QS.fuel; omega) (by rw [if_pos rfl]) (fun y h1 h2 => absurd h1 (Nat.not_le_of_lt h2))
    refine ⟨res, ?_, h4, h5⟩
    rw [h1]
    exact h3
end
end Mine
end

section
namespace Mine
def Meta (S T : QS) : Prop := T.q = S.q ∧ T.n = S.n ∧ T.added = S.added ∧ T.auto = S.auto ∧ T.hf = S.hf
theorem Meta.rfl (S : QS) : Meta S S := ⟨_root_.rfl, _root_.rfl, _root_.rfl, _root_.rfl, _root_.rfl⟩
theorem Meta.trans {S T U : QS} (h : Meta S T) (h' : Meta T U) : Meta S U := ⟨h'.1.trans h.1, h'.2.1.trans h.2.1, h'.2.2.1.trans h.2.2.1, h'.2.2.2.1.trans h.2.2.2.1, h'.2.2.2.2.trans h.2.2.2.2⟩
theorem upd_pos {α : Type} {n b j y : Nat} (f : Nat → α) (v : α) (hj : j < n) (hy : y < n) : upd f (pos n b j) v (pos n b y) = if y = j then v else f (pos n b y) := by
  have hn : 0 < n := by omega
  by_cases h : y = j
  · subst h; rw [upd_self, if_pos rfl]
  · rw [upd_ne _ _ (fun e => h (pos_inj hn hy hj e)), if_neg h]
structure Sh (S0 : QS) (b i t : Nat) (S : QS) : Prop where
  m : Meta S0 S
  occ : S.occ = S0.occ
  con : ∀ y, y < S0.n → S.con (pos S0.n b y) = if y = i then S0.con (pos S0.n b t) else if i < y ∧ y ≤ t then S0.con (pos S0.n b (y - 1)) else S0.con (pos S0.n b y)
  fil : ∀ y, y < S0.n → S.fil (pos S0.n b y) = if y = i then S0.fil (pos S0.n b t) else if i < y ∧ y ≤ t then S0.fil (pos S0.n b (y - 1)) else S0.fil (pos S0.n b y)
  shf : ∀ y, y < S0.n → S.shf (pos S0.n b y) = if i < y ∧ y ≤ t then true else S0.shf (pos S0.n b y)
theorem Sh.start (S : QS) (b i : Nat) : Sh S b i i S where
  m := Meta.rfl S
  occ := rfl
  con := fun y _ => by
    by_cases h : y = i
    · rw [if_pos h, h]
    · rw [if_neg h, if_neg (by omega)]
  fil := fun y _ => by
    by_cases h : y = i
    · rw [if_pos h, h]
    · rw [if_neg h, if_neg (by omega)]
  shf := fun y _ => by rw [if_neg (by omega)]
theorem Sh.step {S0 S : QS} {b i t : Nat} (h : Sh S0 b i t S) (hit : i ≤ t) (ht : t + 1 < S0.n) : Sh S0 b i (t + 1) (S.siStep (pos S0.n b i) (pos S0.n b (t + 1))) where
  m := h.m
  occ := h.occ
  con := fun y hy => by
    show upd (upd S.con (pos S0.n b (t + 1)) (S.con (pos S0.n b i))) (pos S0.n b i) (S.con (pos S0.n b (t + 1))) (pos S0.n b y) = _
    rw [upd_pos _ _ (by omega) hy, upd_pos _ _ ht hy]
    by_cases h1 : y = i
    · rw [if_pos h1, if_pos h1, h.con _ ht, if_neg (by omega), if_neg (by omega)]
    · rw [if_neg h1, if_neg h1]
      by_cases h2 : y = t + 1
      · rw [if_pos h2, if_pos (by omega), h.con _ (by omega), if_pos rfl, h2]; rfl
      · rw [if_neg h2, h.con _ hy, if_neg h1]
        by_cases h3 : i < y ∧ y ≤ t
        · rw [if_pos h3, if_pos (by omega)]
        · rw [if_neg h3, if_neg (by omega)]
  fil := fun y hy => by
    show upd (upd S.fil (pos S0.n b (t + 1)) (S.fil (pos S0.n b i))) (pos S0.n b i) (S.fil (pos S0.n b (t + 1))) (pos S0.n b y) = _
    rw [upd_pos _ _ (by omega) hy, upd_pos _ _ ht hy]
    by_cases h1 : y = i
    · rw [if_pos h1, if_pos h1, h.fil _ ht, if_neg (by omega), if_neg (by omega)]
    · rw [if_neg h1, if_neg h1]
      by_cases h2 : y = t + 1
      · rw [if_pos h2, if_pos (by omega), h.fil _ (by omega), if_pos rfl, h2]; rfl
      · rw [if_neg h2, h.fil _ hy, if_neg h1]
        by_cases h3 : i < y ∧ y ≤ t
        · rw [if_pos h3, if_pos (by omega)]
        · rw [if_neg h3, if_neg (by omega)]
  shf := fun y hy => by
    show upd S.shf (pos S0.n b (t + 1)) true (pos S0.n b y) = _
    rw [upd_pos _ _ ht hy]
    by_cases h2 : y = t + 1
    · rw [if_pos h2, if_pos (by omega)]
    · rw [if_neg h2, h.shf _ hy]
      by_cases h3 : i < y ∧ y ≤ t
      · rw [if_pos h3, if_pos (by omega)]
      · rw [if_neg h3, if_neg (by omega)]
theorem siLoop_spec {S0 : QS} {b i e : Nat} (hen : e < S0.n) (hfull : ∀ y, i < y → y < e → S0.emp (pos S0.n b y) = false) (he : S0.emp (pos S0.n b e) = true) :
    ∀ (j t m : Nat) (S : QS), e = t + 1 + j → i ≤ t → j < m → Sh S0 b i t S → ∃ T, QS.siLoop (pos S0.n b i) m S (pos S0.n b (t + 1)) = some T ∧ Sh S0 b i e T := by
  intro j
  induction j with
  | zero =>
    intro t m S ht hit hm h
    obtain ⟨m, rfl⟩ : ∃ j, m = j + 1 := ⟨m - 1, by omega⟩
    have : S.emp (pos S0.n b (t + 1)) = true := by
      rw [← he, ht]
      unfold QS.emp
      have g1 : ¬ t + 1 = i := by omega
      have g2 : ¬ (i < t + 1 ∧ t + 1 ≤ t) := by omega
      rw [h.occ, h.con _ (by omega), h.shf _ (by omega), if_neg g1, if_neg g2, if_neg g2]
    refine ⟨S.siStep (pos S0.n b i) (pos S0.n b (t + 1)), ?_, by subst ht; exact h.step hit hen⟩
    simp only [QS.siLoop, this, if_true]
  | succ j ih =>
    intro t m S ht hit hm h
    obtain ⟨m, rfl⟩ : ∃ j, m = j + 1 := ⟨m - 1, by omega⟩
    have : S.emp (pos S0.n b (t + 1)) = false := by
      rw [← hfull (t + 1) (by omega) (by omega)]
      unfold QS.emp
      have g1 : ¬ t + 1 = i := by omega
      have g2 : ¬ (i < t + 1 ∧ t + 1 ≤ t) := by omega
      rw [h.occ, h.con _ (by omega), h.shf _ (by omega), if_neg g1, if_neg g2, if_neg g2]
    obtain ⟨T, h1, h2⟩ := ih (t + 1) m _ (by omega) (by omega) (by omega) (h.step hit (by omega))
    refine ⟨T, ?_, h2⟩
    simp only [QS.siLoop, this, Bool.false_eq_true, if_false]
    have hn : S.n = S0.n := h.m.2.1
    have := pos_nx S b (t + 1)
    rw [hn] at this
    rw [this]; exact h1
/-- the row with a cell put in at i, shifted up to the empty e -/
def insC (c : Cells) (i e : Nat) (p : Nat × Nat) (t : Nat) : Option (Nat × Nat) := if t < i then c t else if t = i then some p else if t ≤ e then c (t - 1) else c t
section
variable {S : QS} {b n : Nat} {c : Cells}
structure Ins (n : Nat) (c : Cells) (x r i e : Nat) : Prop where
  xi : x ≤ i
  ie : i ≤ e
  en : e < n
  non : c e = none
  full : ∀ y, i ≤ y → y < e → ∃ q, c y = some q
  low : ∀ y, x ≤ y → y < i → ∃ q, c y = some q ∧ Lex q (x, r)
  up : ∀ q, c i = some q → Lex (x, r) q
theorem insC_lt {i e t : Nat} {p : Nat × Nat} (h : t < i) : insC c i e p t = c t := if_pos h
theorem insC_at {i e : Nat} {p : Nat × Nat} : insC c i e p i = some p := by unfold insC; rw [if_neg (by omega), if_pos rfl]
theorem insC_mid {i e t : Nat} {p : Nat × Nat} (h : i < t) (h' : t ≤ e) : insC c i e p t = c (t - 1) := by unfold insC; rw [if_neg (by omega), if_neg (by omega), if_pos h']
theorem insC_gt {i e t : Nat} {p : Nat × Nat} (h : i ≤ e) (h' : e < t) : insC c i e p t = c t := by unfold insC; rw [if_neg (by omega), if_neg (by omega), if_neg (by omega)]
theorem Ins.wf {x r i e : Nat} (h : Ins n c x r i e) (w : WF n c) : WF n (insC c i e (x, r)) where
  off := fun t ht => by rw [insC_gt h.ie (by have := h.en; omega)]; exact w.off t ht
  le := fun t p hp => by
    rcases Nat.lt_trichotomy t i with q | q | q
    · rw [insC_lt q] at hp; exact w.le t p hp
    · subst q; rw [insC_at] at hp; cases hp; exact h.xi
    · rcases Nat.lt_or_ge e t with q' | q'
      · rw [insC_gt h.ie q'] at hp; exact w.le t p hp
      · rw [insC_mid q q'] at hp; have := w.le _ p hp; omega
  step := fun t p hp hle => by
    have hie := h.ie
    rcases Nat.lt_trichotomy (t + 1) i with q | q | q
    · rw [insC_lt q] at hp; rw [insC_lt (by omega)]; exact w.step t p hp hle
    · rw [← q, insC_at] at hp; cases hp
      rw [insC_lt (by omega)]
      exact h.low t hle (by omega)
    · rcases Nat.lt_or_ge e (t + 1) with q' | q'
      · rw [insC_gt h.ie q'] at hp
        rcases Nat.lt_or_ge e t with q2 | q2
        · rw [insC_gt h.ie q2]; exact w.step t p hp hle
        · have : t = e := by omega
          subst this
          obtain ⟨r, hr, _⟩ := w.step t p hp hle
          rw [h.non] at hr; cases hr
      · rw [insC_mid q q'] at hp
        have hp : c t = some p := hp
        rcases Nat.lt_or_ge i t with q2 | q2
        · rw [insC_mid q2 (by omega)]
          obtain ⟨t, rfl⟩ : ∃ u, t = u + 1 := ⟨t - 1, by omega⟩
          rcases Nat.lt_or_ge t p.1 with q3 | q3
          · obtain ⟨q, hq⟩ := h.full t (by omega) (by omega)
            have := w.le t q hq
            exact ⟨q, hq, .inl (by omega)⟩
          · exact w.step t p hp q3
        · have : t = i := by omega
          subst this
          exact ⟨_, insC_at, h.up p hp⟩
theorem Ins.mem {x r i e : Nat} (h : Ins n c x r i e) (p : Nat × Nat) : (∃ u, insC c i e (x, r) u = some p) ↔ p = (x, r) ∨ ∃ u, c u = some p := by
  have hie := h.ie
  constructor
  · rintro ⟨t, hp⟩
    rcases Nat.lt_trichotomy t i with q | q | q
    · rw [insC_lt q] at hp; exact .inr ⟨t, hp⟩
    · subst q; rw [insC_at] at hp; cases hp; exact .inl rfl
    · rcases Nat.lt_or_ge e t with q' | q'
      · rw [insC_gt h.ie q'] at hp; exact .inr ⟨t, hp⟩
      · rw [insC_mid q q'] at hp; exact .inr ⟨_, hp⟩
  · rintro (rfl | ⟨u, hu⟩)
    · exact ⟨i, insC_at⟩
    · rcases Nat.lt_or_ge u i with q | q
      · exact ⟨u, by rw [insC_lt q]; exact hu⟩
      · rcases Nat.lt_trichotomy u e with q' | q' | q'
        · exact ⟨u + 1, by rw [insC_mid (by omega) (by omega)]; exact hu⟩
        · subst q'; rw [h.non] at hu; cases hu
        · exact ⟨u, by rw [insC_gt h.ie q']; exact hu⟩
end
end Mine
end

section
namespace Mine
section
variable {S : QS} {b : Nat} {c : Cells}
theorem same_congr {c d : Cells} {t : Nat} (h1 : ∀ u, t = u + 1 → c u = d u) (h2 : c t = d t) : same c t = same d t := by
  cases t with
  | zero => rfl
  | succ u => rw [same_eq, same_eq, h1 u rfl, h2]
theorem conc_ins (k : Conc S b c) (w : WF S.n c) {x r i e : Nat} (h : Ins S.n c x r i e) {T : QS} (hn : T.n = S.n)
    (hocc : ∀ y, y < S.n → T.occ (pos S.n b y) = if y = x then true else S.occ (pos S.n b y))
    (hfil : ∀ y, y < S.n → T.fil (pos S.n b y) = if y = i then r else if i < y ∧ y ≤ e then S.fil (pos S.n b (y - 1)) else S.fil (pos S.n b y))
    (hshf : ∀ y, y < S.n → T.shf (pos S.n b y) = if y = i then decide (i ≠ x) else if i < y ∧ y ≤ e then true else S.shf (pos S.n b y))
    (hcon : ∀ y, y < S.n → T.con (pos S.n b y) = if y = i then same (insC c i e (x, r)) i else if y = i + 1 ∧ y ≤ e then same (insC c i e (x, r)) (i + 1) else if i < y ∧ y ≤ e then S.con (pos S.n b (y - 1)) else S.con (pos S.n b y)) :
    Conc T b (insC c i e (x, r)) where
  hb := by rw [hn]; exact k.hb
  fil := fun t p hp => by
    rw [hn]
    have ht := (h.wf w).lt hp
    rw [hfil t ht]
    have hie := h.ie
    rcases Nat.lt_trichotomy t i with q | q | q
    · rw [insC_lt q] at hp; rw [if_neg (by omega), if_neg (by omega)]; exact k.fil t p hp
    · subst q; rw [insC_at] at hp; cases hp; rw [if_pos rfl]
    · rcases Nat.lt_or_ge e t with q' | q'
      · rw [insC_gt h.ie q'] at hp; rw [if_neg (by omega), if_neg (by omega)]; exact k.fil t p hp
      · rw [insC_mid q q'] at hp; rw [if_neg (by omega), if_pos ⟨q, q'⟩]; exact k.fil _ p hp
  shf := fun t ht => by
    rw [hn] at ht ⊢
    rw [hshf t ht]
    have hie := h.ie
    rcases Nat.lt_trichotomy t i with q | q | q
    · rw [insC_lt q, if_neg (by omega), if_neg (by omega)]; exact k.shf t ht
    · subst q; rw [insC_at, if_pos rfl]
      by_cases e : t = x
      · subst e; simp
      · have : x ≠ t := fun h => e h.symm
        simp [e, this]
    · rcases Nat.lt_or_ge e t with q' | q'
      · rw [insC_gt h.ie q', if_neg (by omega), if_neg (by omega)]; exact k.shf t ht
      · rw [insC_mid q q', if_neg (by omega), if_pos ⟨q, q'⟩]
        obtain ⟨p, hp⟩ := h.full (t - 1) (by omega) (by omega)
        rw [hp]
        have := w.le _ p hp
        show true = (p.1 != t)
        symm; rw [bne_iff_ne]; omega
  con := fun t ht => by
    rw [hn] at ht ⊢
    rw [hcon t ht]
    have hie := h.ie
    rcases Nat.lt_trichotomy t i with q | q | q
    · rw [if_neg (by omega), if_neg (by omega), if_neg (by omega), k.con t ht]
      exact same_congr (fun u hu => (insC_lt (by omega)).symm) (insC_lt q).symm
    · subst q; rw [if_pos rfl]
    · rcases Nat.lt_or_ge e t with q' | q'
      · rw [if_neg (by omega), if_neg (by omega), if_neg (by omega), k.con t ht]
        rcases Nat.lt_or_ge (e + 1) t with q2 | q2
        · exact same_congr (fun u hu => (insC_gt h.ie (by omega)).symm) (insC_gt h.ie q').symm
        · have : t = e + 1 := by omega
          subst this
          rw [same_none h.non, same_eq, insC_gt h.ie q']
          cases hc : c (e + 1) with
          | none => cases insC c i e (x, r) e <;> rfl
          | some p =>
            cases hd : insC c i e (x, r) e with
            | none => rfl
            | some q =>
              have h1 := (h.wf w).le _ _ hd
              have h2 : p.1 = e + 1 := by
                have h3 := w.le _ _ hc
                rcases Nat.lt_or_ge e p.1 with z | z
                · omega
                · obtain ⟨s, hs, _⟩ := w.step e p hc z
                  rw [h.non] at hs; cases hs
              show false = (q.1 == p.1)
              symm; rw [beq_eq_false_iff_ne]; omega
      · by_cases q2 : t = i + 1
        · rw [if_neg (by omega), if_pos ⟨q2, q'⟩, q2]
        · rw [if_neg (by omega), if_neg (by omega), if_pos ⟨q, q'⟩, k.con _ (by omega)]
          obtain ⟨u, rfl⟩ : ∃ u, t = u + 2 := ⟨t - 2, by omega⟩
          show same c (u + 1) = same (insC c i e (x, r)) (u + 2)
          rw [same_eq, same_eq, insC_mid (t := u + 1) (by omega) (by omega), insC_mid (t := u + 1 + 1) (by omega) (by omega)]
          rfl
  occ := fun y hy => by
    rw [hn] at hy ⊢
    rw [hocc y hy]
    by_cases e1 : y = x
    · rw [if_pos e1]
      exact ⟨fun _ => by
        obtain ⟨u, hu⟩ := (h.mem (x, r)).mpr (.inl rfl)
        exact ⟨u, _, hu, e1.symm⟩, fun _ => rfl⟩
    · rw [if_neg e1, k.occ y hy]
      constructor
      · rintro ⟨t, p, hp, h1⟩
        obtain ⟨u, hu⟩ := (h.mem p).mpr (.inr ⟨t, hp⟩)
        exact ⟨u, p, hu, h1⟩
      · rintro ⟨t, p, hp, h1⟩
        rcases (h.mem p).mp ⟨t, hp⟩ with rfl | ⟨u, hu⟩
        · exact absurd h1.symm e1
        · exact ⟨u, p, hu, h1⟩
theorem shiftInsert_spec (k : Conc S b c) (w : WF S.n c) {x r i e s : Nat} (h : Ins S.n c x r i e) (hx : x < S.n) (hs : s < S.n) {flag : Bool}
    (hsame : same (insC c i e (x, r)) i = decide (i ≠ s)) (hnext : i < e → same (insC c i e (x, r)) (i + 1) = (flag || S.con (pos S.n b i))) :
    ∃ T, S.shiftInsert (pos S.n b x) r (pos S.n b s) (pos S.n b i) flag = some T ∧ Meta S T ∧ Conc T b (insC c i e (x, r)) := by
  have hie := h.ie
  have hen := h.en
  have hd : ∀ {j l : Nat}, j < S.n → l < S.n → (pos S.n b j != pos S.n b l) = decide (j ≠ l) := fun {j l} hj hl => by
    by_cases e : j = l
    · subst e; simp
    · have : pos S.n b j ≠ pos S.n b l := fun h => e (pos_inj k.pos hj hl h)
      rw [bne_iff_ne.mpr this, decide_eq_true e]
  unfold QS.shiftInsert
  rw [k.emp w (Nat.lt_of_le_of_lt hie hen)]
  rcases Nat.lt_or_ge i e with q | q
  · obtain ⟨p, hp⟩ := h.full i (Nat.le_refl _) q
    obtain ⟨T, h1, h2⟩ := siLoop_spec (S0 := S) (b := b) hen (fun y h1 h2 => by
      obtain ⟨p, hp⟩ := h.full y (by omega) h2
      rw [k.emp w (by omega), hp]; rfl) (by rw [k.emp w hen, h.non]; rfl) (e - i - 1) i S.fuel S (by omega) (Nat.le_refl _) (by unfold QS.fuel; omega) (Sh.start S b i)
    have hTn : T.n = S.n := h2.m.2.1
    rw [hp]
    simp only [Option.isNone_some, Bool.false_eq_true, if_false, pos_nx, h1, Option.map_some]
    refine ⟨_, rfl, ?_, ?_⟩
    · have : Meta S (T.place (pos S.n b x) r (pos S.n b s) (pos S.n b i)) := h2.m
      split
      · exact this
      · exact this
    · have ho : ∀ (U : QS), U.occ = upd T.occ (pos S.n b x) true → ∀ y, y < S.n → U.occ (pos S.n b y) = if y = x then true else S.occ (pos S.n b y) := fun U hU y hy => by
        rw [hU, upd_pos _ _ hx hy, h2.occ]
      have hf : ∀ (U : QS), U.fil = upd T.fil (pos S.n b i) r → ∀ y, y < S.n → U.fil (pos S.n b y) = if y = i then r else if i < y ∧ y ≤ e then S.fil (pos S.n b (y - 1)) else S.fil (pos S.n b y) := fun U hU y hy => by
        rw [hU, upd_pos _ _ (by omega) hy, h2.fil y hy]
        by_cases h1 : y = i
        · rw [if_pos h1, if_pos h1]
        · rw [if_neg h1, if_neg h1, if_neg h1]
      have hsh : ∀ (U : QS), U.shf = upd T.shf (pos S.n b i) (pos S.n b i != pos S.n b x) → ∀ y, y < S.n → U.shf (pos S.n b y) = if y = i then decide (i ≠ x) else if i < y ∧ y ≤ e then true else S.shf (pos S.n b y) := fun U hU y hy => by
        rw [hU, upd_pos _ _ (by omega) hy, hd (by omega) hx, h2.shf y hy]
      have hc0 : ∀ y, y < S.n → (T.place (pos S.n b x) r (pos S.n b s) (pos S.n b i)).con (pos S.n b y) = if y = i then same (insC c i e (x, r)) i else if i < y ∧ y ≤ e then S.con (pos S.n b (y - 1)) else S.con (pos S.n b y) := fun y hy => by
        show upd T.con (pos S.n b i) (pos S.n b i != pos S.n b s) (pos S.n b y) = _
        rw [upd_pos _ _ (by omega) hy, hd (by omega) hs, h2.con y hy, hsame]
        by_cases h1 : y = i
        · rw [if_pos h1, if_pos h1]
        · rw [if_neg h1, if_neg h1, if_neg h1]
      cases flag with
      | true =>
        simp only [if_true]
        refine conc_ins k w h hTn (ho _ rfl) (hf _ rfl) (hsh _ rfl) fun y hy => ?_
        show upd (T.place (pos S.n b x) r (pos S.n b s) (pos S.n b i)).con (pos S.n b (i + 1)) true (pos S.n b y) = _
        rw [upd_pos _ _ (by omega) hy, hc0 y hy, hnext q]
        by_cases h1 : y = i + 1
        · rw [if_pos h1, if_neg (by omega), if_pos ⟨h1, by omega⟩]; rfl
        · rw [if_neg h1, if_neg (c := y = i + 1 ∧ y ≤ e) (by omega)]
      | false =>
        simp only [Bool.false_eq_true, if_false]
        refine conc_ins k w h hTn (ho _ rfl) (hf _ rfl) (hsh _ rfl) fun y hy => ?_
        rw [hc0 y hy, hnext q]
        by_cases h1 : y = i + 1
        · rw [if_neg (by omega), if_pos (by omega), if_neg (by omega), if_pos ⟨h1, by omega⟩, h1]; rfl
        · rw [if_neg (c := y = i + 1 ∧ y ≤ e) (by omega)]
  · have : i = e := by omega
    subst this
    rw [h.non]
    simp only [Option.isNone_none, if_true]
    refine ⟨_, rfl, Meta.rfl S, ?_⟩
    refine conc_ins k w h rfl (fun y hy => ?_) (fun y hy => ?_) (fun y hy => ?_) (fun y hy => ?_)
    · show upd S.occ (pos S.n b x) true (pos S.n b y) = _
      rw [upd_pos _ _ hx hy]
    · show upd S.fil (pos S.n b i) r (pos S.n b y) = _
      rw [upd_pos _ _ hen hy, if_neg (c := i < y ∧ y ≤ i) (by omega)]
    · show upd S.shf (pos S.n b i) (pos S.n b i != pos S.n b x) (pos S.n b y) = _
      rw [upd_pos _ _ hen hy, hd hen hx, if_neg (c := i < y ∧ y ≤ i) (by omega)]
    · show upd S.con (pos S.n b i) (pos S.n b i != pos S.n b s) (pos S.n b y) = _
      rw [upd_pos _ _ hen hy, hd hen hs, hsame, if_neg (c := i < y ∧ y ≤ i) (by omega), if_neg (c := y = i + 1 ∧ y ≤ i) (by omega)]
end
end Mine
end

section
namespace Mine
section
variable {S : QS} {b : Nat} {c : Cells}
theorem aLoop_spec (k : Conc S b c) (w : WF S.n c) (hlast : c (S.n - 1) = none) {x r s : Nat} (hnot : ∀ u, c u ≠ some (x, r)) :
    ∀ (j t m : Nat), S.n - t = j → s ≤ t → t < S.n → j < m → (∃ f, c t = some (x, f)) → (∀ y, s ≤ y → y < t → ∃ f, c y = some (x, f) ∧ f < r) →
      ∃ i st, S.aLoop r m (pos S.n b t) 0 = some (pos S.n b i, st) ∧ s ≤ i ∧ i < S.n ∧ (∀ y, s ≤ y → y < i → ∃ f, c y = some (x, f) ∧ f < r) ∧ ((st = 0 ∧ ∃ f, c i = some (x, f) ∧ r < f) ∨ (st = 1 ∧ s < i ∧ ∀ f, c i ≠ some (x, f))) := by
  intro j
  induction j with
  | zero => intro t m h1 _ h2; omega
  | succ j ih =>
    intro t m hj hst ht hm ⟨f, hf⟩ hlow
    obtain ⟨m, rfl⟩ : ∃ j, m = j + 1 := ⟨m - 1, by clear hlow; omega⟩
    have he := k.emp w ht
    rw [hf] at he
    have hfil : S.fil (pos S.n b t) = f := k.fil t _ hf
    rcases Nat.lt_trichotomy f r with q | q | q
    · have ht1 : t + 1 < S.n := by
        rcases Nat.lt_or_ge (t + 1) S.n with z | z
        · exact z
        · have : t = S.n - 1 := by clear hlow; omega
          rw [this, hlast] at hf; cases hf
      have hc := k.con (t + 1) ht1
      have hlow' : ∀ y, s ≤ y → y < t + 1 → ∃ f, c y = some (x, f) ∧ f < r := fun y h1 h2 => by
        rcases Nat.lt_or_ge y t with z | z
        · exact hlow y h1 z
        · have : y = t := by omega
          subst this; exact ⟨f, hf, q⟩
      by_cases hn : ∃ f, c (t + 1) = some (x, f)
      · obtain ⟨i, st, h1, h2⟩ := ih (t + 1) m (by clear hlow hlow'; omega) (by clear hlow hlow'; omega) ht1 (by clear hlow hlow'; omega) hn hlow'
        obtain ⟨f', hf'⟩ := hn
        refine ⟨i, st, ?_, h2⟩
        simp only [QS.aLoop, he, hfil, pos_nx, hc, same_succ hf hf']
        simpa [q] using h1
      · have hsf : same c (t + 1) = false := by
          cases hd : c (t + 1) with
          | none => exact same_false_of hd
          | some p =>
            rw [same_succ hf hd, beq_eq_false_iff_ne]
            exact fun h => hn ⟨p.2, hd.trans (congrArg some (Prod.ext (Eq.symm h) rfl))⟩
        refine ⟨t + 1, 1, ?_, by clear hlow hlow'; omega, ht1, hlow', .inr ⟨rfl, by clear hlow hlow'; omega, fun f h => hn ⟨f, h⟩⟩⟩
        obtain ⟨m, rfl⟩ : ∃ j, m = j + 1 := ⟨m - 1, by clear hlow hlow'; omega⟩
        simp only [QS.aLoop, he, hfil, pos_nx, hc, hsf]
        simp [q]
    · subst q; exact absurd hf (hnot t)
    · refine ⟨t, 0, ?_, hst, ht, hlow, .inl ⟨rfl, f, hf, q⟩⟩
      simp only [QS.aLoop, he, hfil]
      simp only [decide_eq_false (Nat.not_lt_of_gt q), Bool.and_false, Bool.false_eq_true, if_false]
theorem first_none {n : Nat} {c : Cells} (hlast : c (n - 1) = none) : ∀ (j i : Nat), n - i = j → i < n → ∃ e, i ≤ e ∧ e < n ∧ c e = none ∧ ∀ y, i ≤ y → y < e → ∃ q, c y = some q := by
  intro j
  induction j with
  | zero => intro i h1 h2; omega
  | succ j ih =>
    intro i h1 h2
    cases hc : c i with
    | none => exact ⟨i, Nat.le_refl _, h2, hc, fun y h1 h2 => by omega⟩
    | some p =>
      have : i + 1 < n := by
        rcases Nat.lt_or_ge (i + 1) n with z | z
        · exact z
        · rw [show n - 1 = i by omega, hc] at hlast; cases hlast
      obtain ⟨e, h3, h4, h5, h6⟩ := ih (i + 1) (by omega) this
      refine ⟨e, by omega, h4, h5, fun y h7 h8 => ?_⟩
      rcases Nat.lt_or_ge i y with z | z
      · exact h6 y z h8
      · exact ⟨p, by rw [show y = i by omega]; exact hc⟩
theorem addAt_spec (k : Conc S b c) (w : WF S.n c) (hlast : c (S.n - 1) = none) {x r : Nat} (hx : x < S.n) (hnot : ∀ u, c u ≠ some (x, r)) :
    ∃ T d, S.addAt (pos S.n b x) r = some T ∧ Meta S T ∧ Conc T b d ∧ WF S.n d ∧ (∀ p, (∃ u, d u = some p) ↔ p = (x, r) ∨ ∃ u, c u = some p) := by
  unfold QS.addAt
  rw [k.emp w hx]
  cases hcx : c x with
  | none =>
    have h : Ins S.n c x r x x := ⟨Nat.le_refl _, Nat.le_refl _, hx, hcx, fun y h1 h2 => by omega, fun y h1 h2 => by omega, fun q hq => by rw [hcx] at hq; cases hq⟩
    simp only [Option.isNone_none, if_true]
    refine ⟨_, _, rfl, Meta.rfl S, conc_ins k w h rfl (fun y hy => ?_) (fun y hy => ?_) (fun y hy => ?_) (fun y hy => ?_), h.wf w, h.mem⟩
    · show upd S.occ (pos S.n b x) true (pos S.n b y) = _
      rw [upd_pos _ _ hx hy]
    · show upd S.fil (pos S.n b x) r (pos S.n b y) = _
      rw [upd_pos _ _ hx hy, if_neg (c := x < y ∧ y ≤ x) (by omega)]
    · show S.shf (pos S.n b y) = _
      rw [if_neg (c := x < y ∧ y ≤ x) (by omega)]
      by_cases e : y = x
      · subst e; rw [if_pos rfl, k.shf _ hx, hcx]; simp
      · rw [if_neg e]
    · show S.con (pos S.n b y) = _
      rw [if_neg (c := x < y ∧ y ≤ x) (by omega), if_neg (c := y = x + 1 ∧ y ≤ x) (by omega)]
      by_cases e : y = x
      · subst e; rw [if_pos rfl, k.con _ hx, same_false_of hcx, same_home (h.wf w) insC_at rfl]
      · rw [if_neg e]
  | some p0 =>
    obtain ⟨t0, s, h1, h2⟩ := getStart_spec k w hx hcx
    have hsn : s < S.n := by
      rcases Nat.lt_or_ge s S.n with z | z
      · exact z
      · have := h2.len
        have := h2.le
        have := h2.le0
        obtain ⟨p, hp, _⟩ := h2.low (S.n - 1) (by omega) (by omega)
        rw [hlast] at hp; cases hp
    have hss : ∀ {e : Nat} (_ : WF S.n (insC c s e (x, r))), same (insC c s e (x, r)) s = false := fun {e} w' => by
      rcases Nat.lt_or_ge x s with z | z
      · obtain ⟨s', rfl⟩ : ∃ s', s = s' + 1 := ⟨s - 1, by omega⟩
        obtain ⟨q, hq, hq2⟩ := h2.low s' (by have := h2.le0; omega) (by omega)
        rw [same_succ (by rw [insC_lt (Nat.lt_succ_self _)]; exact hq) insC_at, beq_eq_false_iff_ne]
        show q.1 ≠ x
        omega
      · have := h2.le
        have : s = x := by omega
        subst this
        exact same_home w' insC_at rfl
    simp only [Option.isNone_some, Bool.false_eq_true, if_false, h1, Option.bind_some]
    cases ho : S.occ (pos S.n b x) with
    | false =>
      have hno : ∀ u p, c u = some p → p.1 ≠ x := fun u p hu hp => by
        have := (k.occ x hx).mpr ⟨u, p, hu, hp⟩
        rw [ho] at this; cases this
      obtain ⟨e, h3, h4, h5, h6⟩ := first_none hlast (S.n - s) s rfl hsn
      have hup : ∀ q, c s = some q → x < q.1 := fun q hq => by
        have := hno _ _ hq
        rcases h2.stop with z | z | ⟨p, z, z'⟩
        · omega
        · rw [z] at hq; cases hq
        · rw [z] at hq; cases hq; omega
      have h : Ins S.n c x r s e := ⟨h2.le, h3, h4, h5, h6, fun y h1 h3 => by
        obtain ⟨p, hp, hp2⟩ := h2.low y (by have := h2.le0; omega) h3
        exact ⟨p, hp, .inl hp2⟩, fun q hq => .inl (hup q hq)⟩
      obtain ⟨T, h7, h8, h9⟩ := shiftInsert_spec (flag := false) k w h hx hsn (by rw [hss (h.wf w)]; simp) (fun hlt => by
        obtain ⟨q, hq⟩ := h6 s (Nat.le_refl _) hlt
        rw [same_succ insC_at (by rw [insC_mid (Nat.lt_succ_self _) hlt]; exact hq), k.con s hsn, h2.first w, Bool.false_or, beq_eq_false_iff_ne]
        have := hup q hq
        show x ≠ q.1
        omega)
      exact ⟨T, _, by simpa using h7, h8, h9, h.wf w, h.mem⟩
    | true =>
      obtain ⟨u, p, hu, hp⟩ := (k.occ x hx).mp ho
      obtain ⟨hsu, q0, hq0, hq0'⟩ := h2.run w hu hp
      obtain ⟨i, st, h3, h4, h5, h6, h7⟩ := aLoop_spec k w hlast (s := s) hnot (S.n - s) s S.fuel rfl (Nat.le_refl _) hsn (by unfold QS.fuel; omega) ⟨q0.2, by rw [hq0, ← hq0']⟩ (fun y h1 h2 => by omega)
      obtain ⟨e, g1, g2, g3, g4⟩ := first_none hlast (S.n - i) i rfl h5
      have hprev : s < i → ∃ i' f, i = i' + 1 ∧ c i' = some (x, f) ∧ f < r := fun hlt => by
        obtain ⟨i', rfl⟩ : ∃ i', i = i' + 1 := ⟨i - 1, by omega⟩
        obtain ⟨f, hf, hf2⟩ := h6 i' (by omega) (by omega)
        exact ⟨i', f, rfl, hf, hf2⟩
      have h : Ins S.n c x r i e := ⟨Nat.le_trans h2.le h4, g1, g2, g3, g4, fun y h1 h3 => by
        rcases Nat.lt_or_ge y s with z | z
        · obtain ⟨p, hp, hp2⟩ := h2.low y (by have := h2.le0; omega) z
          exact ⟨p, hp, .inl hp2⟩
        · obtain ⟨f, hf, hf2⟩ := h6 y z h3
          exact ⟨_, hf, .inr ⟨rfl, hf2⟩⟩, fun q hq => by
        rcases h7 with ⟨_, f, hf, hf2⟩ | ⟨_, hlt, hno⟩
        · rw [hf] at hq; cases hq; exact .inr ⟨rfl, hf2⟩
        · obtain ⟨i', f, rfl, hf, _⟩ := hprev hlt
          have := w.sorted hf hq (Nat.lt_succ_self _)
          have h9 : q.1 ≠ x := fun h => hno q.2 (by rw [hq, ← h])
          unfold Lex at *
          simp only at this ⊢
          omega⟩
      have hsame : same (insC c i e (x, r)) i = decide (i ≠ s) := by
        rcases Nat.lt_or_ge s i with z | z
        · obtain ⟨i', f, rfl, hf, _⟩ := hprev z
          rw [same_succ (by rw [insC_lt (Nat.lt_succ_self _)]; exact hf) insC_at, decide_eq_true (by omega)]
          simp
        · have : i = s := by omega
          subst this
          rw [hss (h.wf w)]; simp
      have hin : ∀ q, i < e → c i = some q → same (insC c i e (x, r)) (i + 1) = (x == q.1) := fun q hlt hq => same_succ insC_at (by rw [insC_mid (Nat.lt_succ_self _) hlt]; exact hq)
      simp only [Bool.not_true, Bool.false_eq_true, if_false, h3, Option.bind_some]
      rcases h7 with ⟨rfl, f, hf, hf2⟩ | ⟨rfl, hlt, hno⟩
      · obtain ⟨T, h7, h8, h9⟩ := shiftInsert_spec (flag := true) k w h hx hsn hsame (fun hlt => by rw [hin _ hlt hf]; simp)
        exact ⟨T, _, by simpa using h7, h8, h9, h.wf w, h.mem⟩
      · obtain ⟨T, h7, h8, h9⟩ := shiftInsert_spec (flag := false) k w h hx hsn hsame (fun hlt' => by
          obtain ⟨q, hq⟩ := g4 i (Nat.le_refl _) hlt'
          rw [hin _ hlt' hq, k.con i h5, Bool.false_or]
          obtain ⟨i', f, rfl, hf, _⟩ := hprev hlt
          rw [same_succ hf hq])
        exact ⟨T, _, by simpa using h7, h8, h9, h.wf w, h.mem⟩
end
end Mine
end

section
namespace Mine
/-- the row seen from behind the empty cell u -/
def rot (n u : Nat) (c : Cells) (t : Nat) : Option (Nat × Nat) :=
  if n ≤ t then none else if t + u + 1 < n then (c (t + u + 1)).map fun p => (p.1 - (u + 1), p.2) else (c (t + u + 1 - n)).map fun p => (p.1 + n - (u + 1), p.2)
section
variable {S : QS} {b n u : Nat} {c : Cells}
theorem rot_hi {t : Nat} (h : t + u + 1 < n) : rot n u c t = (c (t + u + 1)).map fun p => (p.1 - (u + 1), p.2) := by unfold rot; rw [if_neg (by omega), if_pos h]
theorem rot_lo {t : Nat} (ht : t < n) (h : n ≤ t + u + 1) : rot n u c t = (c (t + u + 1 - n)).map fun p => (p.1 + n - (u + 1), p.2) := by unfold rot; rw [if_neg (by omega), if_neg (by omega)]
theorem rot_off {t : Nat} (h : n ≤ t) : rot n u c t = none := if_pos h
theorem map_some_inv {α β : Type} {o : Option α} {f : α → β} {p : β} (h : o.map f = some p) : ∃ q, o = some q ∧ f q = p := Option.map_eq_some_iff.mp h
theorem WF.above (w : WF n c) (hu : c u = none) {t : Nat} {p : Nat × Nat} (h : c t = some p) (ht : u < t) : u < p.1 := by
  rcases Nat.lt_or_ge u p.1 with z | z
  · exact z
  · obtain ⟨q, hq, _⟩ := w.mono h u z ht
    rw [hu] at hq; cases hq
theorem rot_cases (w : WF n c) (hun : u < n) (hu : c u = none) {t : Nat} {p : Nat × Nat} (h : rot n u c t = some p) :
    (∃ q, t + u + 1 < n ∧ c (t + u + 1) = some q ∧ u < q.1 ∧ q.1 ≤ t + u + 1 ∧ p = (q.1 - (u + 1), q.2)) ∨ (∃ q, t < n ∧ n ≤ t + u + 1 ∧ c (t + u + 1 - n) = some q ∧ q.1 ≤ t + u + 1 - n ∧ p = (q.1 + n - (u + 1), q.2)) := by
  rcases Nat.lt_or_ge t n with z | z
  · rcases Nat.lt_or_ge (t + u + 1) n with z' | z'
    · rw [rot_hi z'] at h
      obtain ⟨q, hq, he⟩ := map_some_inv h
      exact .inl ⟨q, z', hq, w.above hu hq (by omega), w.le _ _ hq, he.symm⟩
    · rw [rot_lo z z'] at h
      obtain ⟨q, hq, he⟩ := map_some_inv h
      exact .inr ⟨q, z, z', hq, w.le _ _ hq, he.symm⟩
  · rw [rot_off z] at h; cases h
theorem rot_of (w : WF n c) (hun : u < n) (hu : c u = none) {t : Nat} {q : Nat × Nat} (h : c t = some q) :
    (u < q.1 ∧ rot n u c (t - (u + 1)) = some (q.1 - (u + 1), q.2)) ∨ (q.1 < u ∧ rot n u c (t + n - (u + 1)) = some (q.1 + n - (u + 1), q.2)) := by
  have hlt := w.lt h
  have hle := w.le _ _ h
  rcases Nat.lt_trichotomy u t with z | z | z
  · refine .inl ⟨w.above hu h z, ?_⟩
    rw [rot_hi (by omega), show t - (u + 1) + u + 1 = t by omega, h]; rfl
  · subst z; rw [hu] at h; cases h
  · refine .inr ⟨by omega, ?_⟩
    rw [rot_lo (by omega) (by omega), show t + n - (u + 1) + u + 1 - n = t by omega, h]; rfl
theorem WF.rot (w : WF n c) (hun : u < n) (hu : c u = none) : WF n (rot n u c) where
  off := fun t ht => rot_off ht
  le := fun t p h => by
    rcases rot_cases w hun hu h with ⟨q, h1, h2, h3, h4, rfl⟩ | ⟨q, h1, h2, h3, h4, rfl⟩
    · show q.1 - (u + 1) ≤ t; omega
    · show q.1 + n - (u + 1) ≤ t; omega
  step := fun t p h hle => by
    rcases rot_cases w hun hu h with ⟨q, h1, h2, h3, h4, rfl⟩ | ⟨q, h1, h2, h3, h4, rfl⟩
    · have hle : q.1 - (u + 1) ≤ t := hle
      obtain ⟨q', g1, g2⟩ := w.step (t + u + 1) q (by rw [show t + u + 1 + 1 = t + 1 + u + 1 by omega]; exact h2) (by omega)
      have := w.above hu g1 (by omega)
      exact ⟨_, by rw [rot_hi (by omega), g1]; rfl, by unfold Lex at *; simp only at *; omega⟩
    · have hle : q.1 + n - (u + 1) ≤ t := hle
      obtain ⟨q', g1, g2⟩ := w.step (t + u + 1 - n) q (by rw [show t + u + 1 - n + 1 = t + 1 + u + 1 - n by omega]; exact h3) (by omega)
      exact ⟨_, by rw [rot_lo (by omega) (by omega), g1]; rfl, by unfold Lex at *; simp only at *; omega⟩
theorem pos_rot (t : Nat) : pos n (pos n b (u + 1)) t = pos n b (t + u + 1) := by
  unfold pos
  rw [Nat.mod_add_mod]; congr 1; omega
theorem pos_sub {t : Nat} (h : n ≤ t) : pos n b t = pos n b (t - n) := by
  unfold pos
  rw [show b + t = b + (t - n) + n by omega, Nat.add_mod_right]
theorem Conc.rot (k : Conc S b c) (w : WF S.n c) (hun : u < S.n) (hu : c u = none) : Conc S (Mine.pos S.n b (u + 1)) (rot S.n u c) where
  hb := pos_lt k.pos _ _
  fil := fun t p h => by
    rw [pos_rot]
    rcases rot_cases w hun hu h with ⟨q, h1, h2, h3, h4, rfl⟩ | ⟨q, h1, h2, h3, h4, rfl⟩
    · exact k.fil _ q h2
    · rw [pos_sub h2]; exact k.fil _ q h3
  shf := fun t ht => by
    rw [pos_rot]
    rcases Nat.lt_or_ge (t + u + 1) S.n with z | z
    · rw [k.shf _ z, rot_hi z]
      cases hc : c (t + u + 1) with
      | none => rfl
      | some q =>
        have := w.above hu hc (by omega)
        show (q.1 != t + u + 1) = (q.1 - (u + 1) != t)
        rw [Bool.eq_iff_iff, bne_iff_ne, bne_iff_ne]; omega
    · rw [pos_sub z, k.shf _ (by omega), rot_lo ht z]
      cases hc : c (t + u + 1 - S.n) with
      | none => rfl
      | some q =>
        have := w.le _ _ hc
        show (q.1 != t + u + 1 - S.n) = (q.1 + S.n - (u + 1) != t)
        rw [Bool.eq_iff_iff, bne_iff_ne, bne_iff_ne]; omega
  con := fun t ht => by
    rw [pos_rot]
    cases t with
    | zero =>
      show _ = false
      rcases Nat.lt_or_ge (u + 1) S.n with z | z
      · rw [Nat.zero_add, k.con _ z, same_none hu]
      · rw [Nat.zero_add, pos_sub z, show u + 1 - S.n = 0 by omega, k.con _ k.pos]; rfl
    | succ t =>
      rw [same_eq]
      rcases Nat.lt_or_ge (t + 1 + u + 1) S.n with z | z
      · rw [k.con _ z, rot_hi z, rot_hi (t := t) (by omega), show t + 1 + u + 1 = t + u + 1 + 1 by omega, same_eq]
        cases hc : c (t + u + 1) with
        | none => rfl
        | some q =>
          cases hc' : c (t + u + 1 + 1) with
          | none => rfl
          | some q' =>
            have := w.above hu hc (by omega)
            have := w.above hu hc' (by omega)
            show (q.1 == q'.1) = (q.1 - (u + 1) == q'.1 - (u + 1))
            rw [Bool.eq_iff_iff, beq_iff_eq, beq_iff_eq]; omega
      · rw [pos_sub z, k.con _ (by omega), rot_lo (by omega) z]
        rcases Nat.lt_or_ge (t + u + 1) S.n with z' | z'
        · rw [rot_hi z', show t + 1 + u + 1 - S.n = 0 by omega]
          show false = _
          cases hc : c (t + u + 1) with
          | none => rfl
          | some q =>
            cases hc' : c 0 with
            | none => rfl
            | some q' =>
              have := w.le _ _ hc
              show false = (q.1 - (u + 1) == q'.1 + S.n - (u + 1))
              symm; rw [beq_eq_false_iff_ne]; omega
        · rw [rot_lo (by omega) z', show t + 1 + u + 1 - S.n = t + u + 1 - S.n + 1 by omega, same_eq]
          cases hc : c (t + u + 1 - S.n) with
          | none => rfl
          | some q =>
            cases hc' : c (t + u + 1 - S.n + 1) with
            | none => rfl
            | some q' =>
              show (q.1 == q'.1) = (q.1 + S.n - (u + 1) == q'.1 + S.n - (u + 1))
              rw [Bool.eq_iff_iff, beq_iff_eq, beq_iff_eq]; omega
  occ := fun x hx => by
    rw [pos_rot]
    rcases Nat.lt_or_ge (x + u + 1) S.n with z | z
    · rw [k.occ _ z]
      constructor
      · rintro ⟨t, q, h1, h2⟩
        rcases rot_of w hun hu h1 with ⟨_, h⟩ | ⟨h3, h⟩
        · exact ⟨_, _, h, by show q.1 - (u + 1) = x; omega⟩
        · omega
      · rintro ⟨t, p, h1, h2⟩
        rcases rot_cases w hun hu h1 with ⟨q, h1, h3, h4, h5, rfl⟩ | ⟨q, h1, h3, h4, h5, rfl⟩
        · exact ⟨_, q, h3, by simp only at h2; omega⟩
        · simp only at h2; omega
    · rw [pos_sub z, k.occ _ (by omega)]
      constructor
      · rintro ⟨t, q, h1, h2⟩
        rcases rot_of w hun hu h1 with ⟨h3, h⟩ | ⟨_, h⟩
        · omega
        · exact ⟨_, _, h, by show q.1 + S.n - (u + 1) = x; omega⟩
      · rintro ⟨t, p, h1, h2⟩
        rcases rot_cases w hun hu h1 with ⟨q, h1, h3, h4, h5, rfl⟩ | ⟨q, h1, h3, h4, h5, rfl⟩
        · simp only at h2; omega
        · exact ⟨_, q, h4, by simp only at h2; omega⟩
/-- what the table holds: first part and rest -/
def Cells.Has (n b : Nat) (c : Cells) (q r : Nat) : Prop := ∃ t p, c t = some p ∧ pos n b p.1 = q ∧ p.2 = r
theorem has_rot (w : WF n c) (hun : u < n) (hu : c u = none) (q r : Nat) : Cells.Has n (pos n b (u + 1)) (rot n u c) q r ↔ Cells.Has n b c q r := by
  constructor
  · rintro ⟨t, p, h1, h2, h3⟩
    rw [pos_rot] at h2
    rcases rot_cases w hun hu h1 with ⟨q, g1, g3, g4, g5, rfl⟩ | ⟨q, g1, g3, g4, g5, rfl⟩
    · exact ⟨_, q, g3, by rw [← h2]; congr 1; show q.1 = q.1 - (u + 1) + u + 1; omega, h3⟩
    · refine ⟨_, q, g4, ?_, h3⟩
      rw [← h2]
      show pos n b q.1 = pos n b (q.1 + n - (u + 1) + u + 1)
      rw [pos_sub (t := q.1 + n - (u + 1) + u + 1) (by omega)]; congr 1; omega
  · rintro ⟨t, p, h1, h2, h3⟩
    rcases rot_of w hun hu h1 with ⟨g, h⟩ | ⟨g, h⟩
    · refine ⟨_, _, h, ?_, h3⟩
      rw [pos_rot, ← h2]; congr 1; show p.1 - (u + 1) + u + 1 = p.1; omega
    · refine ⟨_, _, h, ?_, h3⟩
      rw [pos_rot, ← h2]
      show pos n b (p.1 + n - (u + 1) + u + 1) = pos n b p.1
      rw [pos_sub (by omega)]; congr 1; omega
end
end Mine
end

section
namespace Mine
/-- the row with the cell at u taken out, the cells up to e one down -/
def delC (c : Cells) (u e t : Nat) : Option (Nat × Nat) := if t < u then c t else if t + 1 < e then c (t + 1) else if t < e then none else c t
structure Del (n : Nat) (c : Cells) (u e : Nat) : Prop where
  ue : u < e
  en : e < n
  at_ : ∃ p, c u = some p
  full : ∀ y, u < y → y < e → ∃ q, c y = some q ∧ q.1 < y
  stop : ∀ q, c e = some q → q.1 = e
section
variable {S : QS} {b n : Nat} {c : Cells} {u e : Nat}
theorem delC_lt {t : Nat} (h : t < u) : delC c u e t = c t := if_pos h
theorem delC_mid {t : Nat} (h : u ≤ t) (h' : t + 1 < e) : delC c u e t = c (t + 1) := by unfold delC; rw [if_neg (by omega), if_pos h']
theorem delC_last {t : Nat} (h : u ≤ t) (h' : t + 1 = e) : delC c u e t = none := by unfold delC; rw [if_neg (by omega), if_neg (by omega), if_pos (by omega)]
theorem delC_gt {t : Nat} (hu : u < e) (h : e ≤ t) : delC c u e t = c t := by unfold delC; rw [if_neg (by omega), if_neg (by omega), if_neg (by omega)]
theorem delC_cases (hu : u < e) (t : Nat) : (t < u ∧ delC c u e t = c t) ∨ (u ≤ t ∧ t + 1 < e ∧ delC c u e t = c (t + 1)) ∨ (u ≤ t ∧ t + 1 = e ∧ delC c u e t = none) ∨ (e ≤ t ∧ delC c u e t = c t) := by
  rcases Nat.lt_or_ge t u with z | z
  · exact .inl ⟨z, delC_lt z⟩
  · rcases Nat.lt_trichotomy (t + 1) e with z' | z' | z'
    · exact .inr (.inl ⟨z, z', delC_mid z z'⟩)
    · exact .inr (.inr (.inl ⟨z, z', delC_last z z'⟩))
    · exact .inr (.inr (.inr ⟨by omega, delC_gt hu (by omega)⟩))
theorem Del.wf (d : Del n c u e) (w : WF n c) : WF n (delC c u e) where
  off := fun t ht => by rw [delC_gt d.ue (by have := d.en; omega)]; exact w.off t ht
  le := fun t p hp => by
    rcases delC_cases (c := c) d.ue t with ⟨h1, h⟩ | ⟨h1, h2, h⟩ | ⟨h1, h2, h⟩ | ⟨h1, h⟩
    · rw [h] at hp; exact w.le _ _ hp
    · rw [h] at hp
      obtain ⟨q, hq, hlt⟩ := d.full (t + 1) (by omega) h2
      rw [hp] at hq; cases hq; omega
    · rw [h] at hp; cases hp
    · rw [h] at hp; exact w.le _ _ hp
  step := fun t p hp hle => by
    have hue := d.ue
    rcases delC_cases (c := c) d.ue (t + 1) with ⟨h1, h⟩ | ⟨h1, h2, h⟩ | ⟨h1, h2, h⟩ | ⟨h1, h⟩
    · rw [h] at hp; rw [delC_lt (by omega)]; exact w.step _ _ hp hle
    · rw [h] at hp
      rcases Nat.lt_or_ge t u with z | z
      · rw [delC_lt z]; exact w.mono hp t hle (by omega)
      · rw [delC_mid z (by omega)]; exact w.step _ _ hp (by omega)
    · rw [h] at hp; cases hp
    · rw [h] at hp
      rcases Nat.lt_or_ge t e with z | z
      · have : e = t + 1 := by omega
        subst this
        have := d.stop p hp; omega
      · rw [delC_gt d.ue z]; exact w.step _ _ hp hle
theorem Del.mem (d : Del n c u e) (w : WF n c) (p : Nat × Nat) : (∃ t, delC c u e t = some p) ↔ (∃ t, c t = some p) ∧ c u ≠ some p := by
  have hue := d.ue
  constructor
  · rintro ⟨t, hp⟩
    rcases delC_cases (c := c) d.ue t with ⟨h1, h⟩ | ⟨h1, h2, h⟩ | ⟨h1, h2, h⟩ | ⟨h1, h⟩
    · rw [h] at hp; exact ⟨⟨_, hp⟩, fun h' => by have := w.inj hp h'; omega⟩
    · rw [h] at hp; exact ⟨⟨_, hp⟩, fun h' => by have := w.inj hp h'; omega⟩
    · rw [h] at hp; cases hp
    · rw [h] at hp; exact ⟨⟨_, hp⟩, fun h' => by have := w.inj hp h'; omega⟩
  · rintro ⟨⟨t, hp⟩, hne⟩
    have : t ≠ u := fun h => hne (h ▸ hp)
    rcases Nat.lt_or_ge t u with z | z
    · exact ⟨t, by rw [delC_lt z]; exact hp⟩
    · rcases Nat.lt_or_ge t e with z' | z'
      · exact ⟨t - 1, by rw [delC_mid (by omega) (by omega), show t - 1 + 1 = t by omega]; exact hp⟩
      · exact ⟨t, by rw [delC_gt hue z']; exact hp⟩
end
/-- the places z of [lo, hi) where o holds, told as slots -/
def ql (n b : Nat) (o : Nat → Bool) (lo : Nat) : Nat → List Nat
  | 0 => []
  | t + 1 => if lo ≤ t then ql n b o lo t ++ (if o t then [pos n b t] else []) else []
section
variable {n b : Nat} {o : Nat → Bool}
theorem ql_empty {lo hi : Nat} (h : hi ≤ lo) : ql n b o lo hi = [] := by
  cases hi with
  | zero => rfl
  | succ t => unfold ql; rw [if_neg (by omega)]
theorem ql_zero {lo : Nat} : ∀ {hi : Nat}, (∀ y, lo ≤ y → y < hi → o y = false) → ql n b o lo hi = []
  | 0, _ => rfl
  | t + 1, h => by
    unfold ql
    split
    · rename_i hle
      rw [ql_zero (fun y h1 h2 => h y h1 (by omega)), h t hle (by omega)]; rfl
    · rfl
theorem ql_succ {lo t : Nat} (h : lo ≤ t) : ql n b o lo (t + 1) = if o t then ql n b o lo t ++ [pos n b t] else ql n b o lo t := by
  rw [ql, if_pos h]
  split
  · rfl
  · exact List.append_nil _
theorem ql_first {lo p : Nat} (hp : lo ≤ p) (ho : o p = true) (h : ∀ y, lo ≤ y → y < p → o y = false) : ∀ {hi : Nat}, p < hi → ql n b o lo hi = pos n b p :: ql n b o (p + 1) hi
  | 0, h => absurd h (Nat.not_lt_zero _)
  | t + 1, hlt => by
    rw [ql, if_pos (by omega)]
    rcases Nat.lt_or_ge p t with q | q
    · rw [ql, if_pos (show p + 1 ≤ t by omega), ql_first hp ho h q]; rfl
    · have : p = t := by omega
      subst this
      rw [ql_empty (Nat.le_refl _), ho, ql_zero h]; rfl
end
end Mine
end

section
namespace Mine
/-- the queue's state before the cell y -/
structure QI (c : Cells) (n b m lo y cur : Nat) : Prop where
  my : m ≤ y
  le : lo ≤ y
  below : ∀ t p, t < y → c t = some p → p.1 < lo
  src : lo = m ∨ ∃ t p, t < y ∧ c t = some p ∧ lo = p.1 + 1
  cur : ∀ t p, y = t + 1 → m ≤ t → c t = some p → cur = pos n b p.1
section
variable {n b m lo y cur : Nat} {c : Cells} {o : Nat → Bool}
theorem QI.none (q : QI c n b m lo y cur) (w : WF n c) (ho : ∀ x, x < n → (o x = true ↔ ∃ t p, c t = some p ∧ p.1 = x)) (hy : y < n) (h : c y = none) :
    ql n b o lo y = [] ∧ o y = false ∧ QI c n b m lo (y + 1) cur ∧ ql n b o lo (y + 1) = [] := by
  have h1 : ∀ z, lo ≤ z → z ≤ y → o z = false := fun z g1 g2 => by
    cases hz : o z with
    | false => rfl
    | true =>
      obtain ⟨t, p, g3, g4⟩ := (ho z (by omega)).mp hz
      rcases Nat.lt_or_ge t y with g | g
      · have := q.below t p g g3; omega
      · obtain ⟨r, hr, _⟩ := w.some_of g3 (y := y) (by omega) g
        rw [h] at hr; cases hr
  refine ⟨ql_zero fun z g1 g2 => h1 z g1 (by omega), h1 y q.le (Nat.le_refl _), ⟨by have := q.my; omega, by have := q.le; omega, fun t p g1 g2 => ?_, ?_, fun t p g1 g2 g3 => ?_⟩, ql_zero fun z g1 g2 => h1 z g1 (by omega)⟩
  · rcases Nat.lt_or_ge t y with g | g
    · exact q.below t p g g2
    · rw [show t = y by omega, h] at g2; cases g2
  · rcases q.src with g | ⟨t, p, g1, g2, g3⟩
    · exact .inl g
    · exact .inr ⟨t, p, by omega, g2, g3⟩
  · rw [show t = y by omega, h] at g3; cases g3
theorem QI.fresh (q : QI c n b m lo y cur) (w : WF n c) (ho : ∀ x, x < n → (o x = true ↔ ∃ t p, c t = some p ∧ p.1 = x)) (hm : ∀ t p, m ≤ t → c t = some p → m ≤ p.1) {p : Nat × Nat} (h : c y = some p) (hs : same c y = false) :
    ql n b o lo (y + 1) = pos n b p.1 :: ql n b o (p.1 + 1) (y + 1) ∧ QI c n b m (p.1 + 1) (y + 1) (pos n b p.1) := by
  have hyn := w.lt h
  have hle := w.le _ _ h
  have hlo : lo ≤ p.1 := by
    rcases q.src with g | ⟨t, r, g1, g2, g3⟩
    · rw [g]; exact hm y p q.my h
    · have g4 := w.sorted g2 h g1
      rcases Nat.lt_or_ge r.1 p.1 with z | z
      · omega
      · exfalso
        have : r.1 = p.1 := by unfold Lex at g4; omega
        obtain ⟨y', rfl⟩ : ∃ y', y = y' + 1 := ⟨y - 1, by omega⟩
        obtain ⟨r', g5, g6⟩ : ∃ r', c y' = some r' ∧ Lex r' p := w.mono h y' (by have := w.le _ _ g2; omega) (Nat.lt_succ_self _)
        rw [same_succ g5 h, beq_eq_false_iff_ne] at hs
        rcases Nat.lt_or_ge t y' with z2 | z2
        · have := w.sorted g2 g5 z2
          unfold Lex at *; omega
        · have : t = y' := by omega
          subst this
          rw [g2] at g5; cases g5; omega
  refine ⟨ql_first hlo ((ho p.1 (by omega)).mpr ⟨y, p, h, rfl⟩) (fun z g1 g2 => ?_) (by omega), ⟨by have := q.my; omega, by omega, fun t r g1 g2 => ?_, .inr ⟨y, p, Nat.lt_succ_self _, h, rfl⟩, fun t r g1 g2 g3 => ?_⟩⟩
  · cases hz : o z with
    | false => rfl
    | true =>
      obtain ⟨t, r, g3, g4⟩ := (ho z (by omega)).mp hz
      rcases Nat.lt_trichotomy t y with g | g | g
      · have := q.below t r g g3; omega
      · subst g; rw [h] at g3; cases g3; omega
      · have := w.sorted h g3 g
        unfold Lex at this; omega
  · rcases Nat.lt_or_ge t y with g | g
    · have := w.sorted g2 h g
      unfold Lex at this; omega
    · rw [show t = y by omega, h] at g2; cases g2; omega
  · rw [show t = y by omega, h] at g3; cases g3; rfl
theorem QI.more (q : QI c n b m lo y cur) {p : Nat × Nat} (h : c y = some p) (hs : same c y = true) (hmy : m < y) :
    cur = pos n b p.1 ∧ (∃ y', y = y' + 1 ∧ ∃ r, c y' = some r ∧ r.1 = p.1) ∧ QI c n b m lo (y + 1) cur := by
  obtain ⟨y', rfl⟩ : ∃ y', y = y' + 1 := ⟨y - 1, by omega⟩
  cases hr : c y' with
  | none => rw [same_none hr] at hs; cases hs
  | some r =>
    rw [same_succ hr h, beq_iff_eq] at hs
    have hc : cur = pos n b p.1 := by rw [q.cur y' r rfl (by omega) hr, hs]
    refine ⟨hc, ⟨y', rfl, r, hr, hs⟩, ⟨by have := q.my; omega, by have := q.le; omega, fun t s g1 g2 => ?_, ?_, fun t s g1 g2 g3 => ?_⟩⟩
    · rcases Nat.lt_or_ge t (y' + 1) with g | g
      · exact q.below t s g g2
      · rw [show t = y' + 1 by omega, h] at g2; cases g2
        have := q.below y' r (Nat.lt_succ_self _) hr
        omega
    · rcases q.src with g | ⟨t, p, g1, g2, g3⟩
      · exact .inl g
      · exact .inr ⟨t, p, by omega, g2, g3⟩
    · rw [show t = y' + 1 by omega, h] at g3; cases g3; exact hc
end
end Mine
end

section
namespace Mine
/-- the hashes of the row from y on, k cells -/
def hsl (S : QS) (b : Nat) (c : Cells) : Nat → Nat → List Nat
  | 0, _ => []
  | k + 1, y => match c y with
    | none => hsl S b c k (y + 1)
    | some p => (pos S.n b p.1 * 2 ^ (32 - S.q) + p.2) :: hsl S b c k (y + 1)
section
variable {S : QS} {b : Nat} {c : Cells}
theorem Conc.rst (k : Conc S b c) {y : Nat} {p : Nat × Nat} (hy : y < S.n) (h : c y = some p) : S.rst (Mine.pos S.n b y) = !same c y := by
  unfold QS.rst
  rw [k.con y hy]
  have h1 := k.shf y hy
  rw [h] at h1
  have : (S.occ (Mine.pos S.n b y) || S.shf (Mine.pos S.n b y)) = true := by
    by_cases e : p.1 = y
    · rw [(k.occ y hy).mpr ⟨y, p, h, e⟩]; rfl
    · have : S.shf (Mine.pos S.n b y) = true := by rw [h1]; simpa using e
      rw [this, Bool.or_true]
  rw [this, Bool.and_true]
theorem hLoop_spec (k : Conc S b c) (w : WF S.n c) : ∀ (j y i cur lo : Nat), y + j ≤ S.n → i % S.n = pos S.n b y → QI c S.n b 0 lo y cur →
    S.hLoop j i cur (ql S.n b (oc S b) lo y) = some (hsl S b c j y) := by
  intro j
  induction j with
  | zero => intro y i cur lo _ _ _; rfl
  | succ j ih =>
    intro y i cur lo hy hi q
    have hyn : y < S.n := by omega
    have hi' : (i + 1) % S.n = pos S.n b (y + 1) := by
      unfold pos at hi ⊢
      rw [← Nat.mod_add_mod, hi, Nat.mod_add_mod]; rfl
    have he := k.emp w hyn
    cases h : c y with
    | none =>
      rw [h] at he
      obtain ⟨h1, h2, h3, h4⟩ := q.none w k.occ hyn h
      simp only [QS.hLoop, hi, he, hsl, h, h1]
      have := ih (y + 1) (i + 1) cur lo (by omega) hi' h3
      rw [h4] at this
      simpa using this
    | some p =>
      rw [h] at he
      have hq : (if S.occ (pos S.n b y) = true then ql S.n b (oc S b) lo y ++ [pos S.n b y] else ql S.n b (oc S b) lo y) = ql S.n b (oc S b) lo (y + 1) := (ql_succ (o := oc S b) q.le).symm
      simp only [QS.hLoop, hi, he, hsl, h, hq, k.rst hyn h, k.fil y p h]
      cases hs : same c y with
      | false =>
        obtain ⟨h1, h2⟩ := q.fresh w k.occ (fun _ _ _ _ => Nat.zero_le _) h hs
        rw [h1]
        simp only [Bool.not_false, if_true, ih (y + 1) (i + 1) _ _ (by omega) hi' h2]
        rfl
      | true =>
        have : 0 < y := by
          cases y with
          | zero => cases hs
          | succ y => omega
        obtain ⟨h1, _, h2⟩ := q.more h hs this
        simp only [Bool.not_true, Bool.false_eq_true, if_false, ih (y + 1) (i + 1) _ _ (by omega) hi' h2]
        rw [h1]; rfl
theorem hsl_mem (S : QS) (b : Nat) (c : Cells) (v : Nat) : ∀ (k y : Nat), v ∈ hsl S b c k y ↔ ∃ t p, y ≤ t ∧ t < y + k ∧ c t = some p ∧ v = pos S.n b p.1 * 2 ^ (32 - S.q) + p.2
  | 0, y => by
    constructor
    · intro h; cases h
    · rintro ⟨t, p, h1, h2, _⟩; omega
  | k + 1, y => by
    have ih := hsl_mem S b c v k (y + 1)
    have key : (∃ t p, y ≤ t ∧ t < y + (k + 1) ∧ c t = some p ∧ v = pos S.n b p.1 * 2 ^ (32 - S.q) + p.2) ↔ (∃ p, c y = some p ∧ v = pos S.n b p.1 * 2 ^ (32 - S.q) + p.2) ∨ ∃ t p, y + 1 ≤ t ∧ t < y + 1 + k ∧ c t = some p ∧ v = pos S.n b p.1 * 2 ^ (32 - S.q) + p.2 := by
      constructor
      · rintro ⟨t, p, h1, h2, h3, h4⟩
        rcases Nat.lt_or_ge y t with z | z
        · exact .inr ⟨t, p, z, by omega, h3, h4⟩
        · have : t = y := by omega
          subst this; exact .inl ⟨p, h3, h4⟩
      · rintro (⟨p, h3, h4⟩ | ⟨t, p, h1, h2, h3, h4⟩)
        · exact ⟨y, p, Nat.le_refl _, by omega, h3, h4⟩
        · exact ⟨t, p, by omega, by omega, h3, h4⟩
    rw [key, ← ih]
    rw [hsl]
    cases h : c y with
    | none => simp
    | some p => simp
end
end Mine
end

section
namespace Mine
section
variable {S : QS} {b : Nat} {c : Cells}
theorem code_inj {B q r q' r' : Nat} (hr : r < B) (hr' : r' < B) (h : q * B + r = q' * B + r') : q = q' ∧ r = r' := by
  have hB : 0 < B := by omega
  have h1 : (q * B + r) / B = q := by rw [Nat.mul_comm, Nat.mul_add_div hB, Nat.div_eq_of_lt hr, Nat.add_zero]
  have h2 : (q' * B + r') / B = q' := by rw [Nat.mul_comm, Nat.mul_add_div hB, Nat.div_eq_of_lt hr', Nat.add_zero]
  have : q = q' := by rw [← h1, ← h2, h]
  subst this
  exact ⟨rfl, by omega⟩
theorem hsl_nodup (w : WF S.n c) (hr : ∀ t p, c t = some p → p.2 < 2 ^ (32 - S.q)) : ∀ (k y : Nat), (hsl S b c k y).Nodup
  | 0, y => List.nodup_nil
  | k + 1, y => by
    rw [hsl]
    cases h : c y with
    | none => exact hsl_nodup w hr k (y + 1)
    | some p =>
      refine List.nodup_cons.mpr ⟨fun hm => ?_, hsl_nodup w hr k (y + 1)⟩
      obtain ⟨t, p', h1, h2, h3, h4⟩ := (hsl_mem S b c _ k (y + 1)).mp hm
      obtain ⟨h5, h6⟩ := code_inj (hr _ _ h) (hr _ _ h3) h4
      have l1 := w.lt h
      have l2 := w.lt h3
      have l3 := w.le _ _ h
      have l4 := w.le _ _ h3
      have h7 := pos_inj (by omega) (by omega) (by omega) h5
      have : t = y := w.inj h3 (by rw [h]; exact congrArg some (Prod.ext h7 h6))
      omega
theorem firstEmp_some (S : QS) : ∀ (k i : Nat), (∃ s, i ≤ s ∧ s < S.n ∧ S.emp s = true) → S.n < k + i → ∃ s, S.firstEmp k i = some s ∧ s < S.n ∧ S.emp s = true
  | 0, i, ⟨s, h1, h2, _⟩, h => by omega
  | k + 1, i, ⟨s, h1, h2, h3⟩, h => by
    rw [QS.firstEmp, if_neg (by omega)]
    cases he : S.emp i with
    | true => exact ⟨i, by rw [if_pos rfl], by omega, he⟩
    | false =>
      rw [if_neg (by decide)]
      refine firstEmp_some S k (i + 1) ⟨s, ?_, h2, h3⟩ (by omega)
      rcases Nat.lt_or_ge i s with z | z
      · exact z
      · rw [show i = s by omega, h3] at he; cases he
theorem rot_last {n u : Nat} (hun : u < n) (hu : c u = none) : rot n u c (n - 1) = none := by
  rw [rot_lo (by omega) (by omega), show n - 1 + u + 1 - n = u by omega, hu]; rfl
theorem hashes_spec (k : Conc S b c) (w : WF S.n c) (hr : ∀ t p, c t = some p → p.2 < 2 ^ (32 - S.q)) {u : Nat} (hun : u < S.n) (hu : c u = none) :
    ∃ l, S.hashes = some l ∧ l.Nodup ∧ ∀ v, v ∈ l ↔ ∃ q r, Cells.Has S.n b c q r ∧ v = q * 2 ^ (32 - S.q) + r := by
  obtain ⟨s, h1, h2, h3⟩ := firstEmp_some S (S.n + 1) 0 ⟨pos S.n b u, Nat.zero_le _, pos_lt k.pos _ _, by rw [k.emp w hun, hu]; rfl⟩ (by omega)
  obtain ⟨v, hv, hvs⟩ := pos_surj k.hb h2
  have hcv : c v = none := by
    have := k.emp w hv
    rw [hvs, h3] at this
    cases hc : c v with
    | none => rfl
    | some p => rw [hc] at this; cases this
  have k' := k.rot w hv hcv
  have w' := w.rot hv hcv
  have hl := rot_last hv hcv
  obtain ⟨n', hn'⟩ : ∃ n', S.n = n' + 1 := ⟨S.n - 1, by omega⟩
  have hL := hLoop_spec k' w' n' 0 (s + 1) 0 0 (by omega) (by
    rw [pos_rot, ← hvs]
    unfold pos
    rw [Nat.mod_add_mod]; congr 1; omega) ⟨Nat.le_refl _, Nat.le_refl _, fun t p h => by omega, .inl rfl, fun t p h => by omega⟩
  have hr' : ∀ t p, rot S.n v c t = some p → p.2 < 2 ^ (32 - S.q) := fun t p h => by
    rcases rot_cases w hv hcv h with ⟨q, _, h2, _, _, rfl⟩ | ⟨q, _, _, h2, _, rfl⟩
    · exact hr _ q h2
    · exact hr _ q h2
  refine ⟨hsl S (pos S.n b (v + 1)) (rot S.n v c) n' 0, ?_, hsl_nodup w' hr' _ _, fun x => ?_⟩
  · unfold QS.hashes
    rw [h1, Option.bind_some]
    have : S.hLoop (n' + 1) s 0 [] = some (hsl S (pos S.n b (v + 1)) (rot S.n v c) n' 0) := by
      rw [QS.hLoop]
      simp only [Nat.mod_eq_of_lt h2, h3, if_true, List.isEmpty_nil]
      exact hL
    rw [← this, ← hn']
  · rw [hsl_mem]
    constructor
    · rintro ⟨t, p, g1, g2, g3, g4⟩
      exact ⟨_, _, (has_rot w hv hcv _ _).mp ⟨t, p, g3, rfl, rfl⟩, g4⟩
    · rintro ⟨q, r, g1, g2⟩
      obtain ⟨t, p, g3, g4, g5⟩ := (has_rot w hv hcv q r).mpr g1
      have := w'.lt g3
      refine ⟨t, p, Nat.zero_le _, ?_, g3, by rw [g4, g5]; exact g2⟩
      rcases Nat.lt_or_ge t n' with z | z
      · omega
      · rw [show t = S.n - 1 by omega, hl] at g3; cases g3
end
end Mine
end

section
namespace Mine
section
variable {S0 : QS} {b : Nat} {c : Cells}
/-- while the cells behind u go one down: t is the free place, f where the moving began -/
structure Dn (S0 : QS) (b u t : Nat) (cu : Bool) (S : QS) : Prop where
  m : Meta S0 S
  occ : S.occ = S0.occ
  con : ∀ y, y < S0.n → S.con (pos S0.n b y) = if u ≤ y ∧ y < t then (if y = u then cu else S0.con (pos S0.n b (y + 1))) else S0.con (pos S0.n b y)
  fil : ∀ y, y < S0.n → S.fil (pos S0.n b y) = if u ≤ y ∧ y < t then S0.fil (pos S0.n b (y + 1)) else S0.fil (pos S0.n b y)
  shf : ∀ y, y < S0.n → S.shf (pos S0.n b y) = if u ≤ y ∧ y < t then S0.shf (pos S0.n b (y + 1)) else S0.shf (pos S0.n b y)
theorem Dn.start (S : QS) (b u : Nat) (cu : Bool) : Dn S b u u cu S where
  m := Meta.rfl S
  occ := rfl
  con := fun y _ => by rw [if_neg (by omega)]
  fil := fun y _ => by rw [if_neg (by omega)]
  shf := fun y _ => by rw [if_neg (by omega)]
theorem Dn.step {S : QS} {u t : Nat} {cu : Bool} (h : Dn S0 b u t cu S) (hut : u ≤ t) (ht : t + 1 < S0.n) {v : Bool} (hv : v = if t = u then cu else S0.con (pos S0.n b (t + 1))) :
    Dn S0 b u (t + 1) cu (((S.setFil (pos S0.n b t) (S.fil (pos S0.n b (t + 1)))).setCon (pos S0.n b t) v).setShf (pos S0.n b t) (S.shf (pos S0.n b (t + 1)))) where
  m := h.m
  occ := h.occ
  con := fun y hy => by
    show upd S.con (pos S0.n b t) v (pos S0.n b y) = _
    rw [upd_pos _ _ (by omega) hy, h.con _ hy, hv]
    by_cases h1 : y = t
    · rw [if_pos h1, if_pos (c := u ≤ y ∧ y < t + 1) (by omega), h1]
    · rw [if_neg h1]
      by_cases h2 : u ≤ y ∧ y < t
      · rw [if_pos h2, if_pos (c := u ≤ y ∧ y < t + 1) (by omega)]
      · rw [if_neg h2, if_neg (c := u ≤ y ∧ y < t + 1) (by omega)]
  fil := fun y hy => by
    show upd S.fil (pos S0.n b t) (S.fil (pos S0.n b (t + 1))) (pos S0.n b y) = _
    rw [upd_pos _ _ (by omega) hy, h.fil _ hy, h.fil _ ht, if_neg (c := u ≤ t + 1 ∧ t + 1 < t) (by omega)]
    by_cases h1 : y = t
    · rw [if_pos h1, if_pos (c := u ≤ y ∧ y < t + 1) (by omega), h1]
    · rw [if_neg h1]
      by_cases h2 : u ≤ y ∧ y < t
      · rw [if_pos h2, if_pos (c := u ≤ y ∧ y < t + 1) (by omega)]
      · rw [if_neg h2, if_neg (c := u ≤ y ∧ y < t + 1) (by omega)]
  shf := fun y hy => by
    show upd S.shf (pos S0.n b t) (S.shf (pos S0.n b (t + 1))) (pos S0.n b y) = _
    rw [upd_pos _ _ (by omega) hy, h.shf _ hy, h.shf _ ht, if_neg (c := u ≤ t + 1 ∧ t + 1 < t) (by omega)]
    by_cases h1 : y = t
    · rw [if_pos h1, if_pos (c := u ≤ y ∧ y < t + 1) (by omega), h1]
    · rw [if_neg h1]
      by_cases h2 : u ≤ y ∧ y < t
      · rw [if_pos h2, if_pos (c := u ≤ y ∧ y < t + 1) (by omega)]
      · rw [if_neg h2, if_neg (c := u ≤ y ∧ y < t + 1) (by omega)]
end
end Mine
end

section
namespace Mine
section
variable {S0 : QS} {b : Nat} {c : Cells}
theorem Dn.marks {S : QS} {u t : Nat} {cu : Bool} (h : Dn S0 b u t cu S) {y : Nat} (hy : y < S0.n) (ht : t ≤ y) : S.emp (pos S0.n b y) = S0.emp (pos S0.n b y) ∧ S.cst (pos S0.n b y) = S0.cst (pos S0.n b y) := by
  have g : ¬ (u ≤ y ∧ y < t) := by omega
  unfold QS.emp QS.cst
  rw [h.occ, h.con _ hy, h.shf _ hy, if_neg g, if_neg g]
  exact ⟨rfl, rfl⟩
theorem seLoop_spec {u e : Nat} {cu : Bool} (hen : e < S0.n) (hfull : ∀ y, u < y → y < e → S0.cst (pos S0.n b y) = false ∧ S0.emp (pos S0.n b y) = false) (hstop : S0.cst (pos S0.n b e) = true ∨ S0.emp (pos S0.n b e) = true) :
    ∀ (j t m : Nat) (S : QS), e = t + 1 + j → u ≤ t → (t = u → cu = S0.con (pos S0.n b (u + 1))) → j < m → Dn S0 b u t cu S →
      ∃ T, QS.seLoop m S (pos S0.n b t) (pos S0.n b (t + 1)) = some (T, pos S0.n b (e - 1), pos S0.n b e) ∧ Dn S0 b u (e - 1) cu T := by
  intro j
  induction j with
  | zero =>
    intro t m S ht hut hcu hm h
    obtain ⟨m, rfl⟩ : ∃ j, m = j + 1 := ⟨m - 1, by omega⟩
    have he : e = t + 1 := by omega
    subst he
    obtain ⟨h1, h2⟩ := h.marks hen (Nat.le_succ t)
    refine ⟨S, ?_, h⟩
    rw [QS.seLoop, h1, h2]
    rcases hstop with z | z
    · rw [z]; rfl
    · rw [z, Bool.not_true, Bool.and_false]; rfl
  | succ j ih =>
    intro t m S ht hut hcu hm h
    obtain ⟨m, rfl⟩ : ∃ j, m = j + 1 := ⟨m - 1, by omega⟩
    have htn : t + 1 < S0.n := by omega
    obtain ⟨h1, h2⟩ := h.marks htn (Nat.le_succ t)
    obtain ⟨h3, h4⟩ := hfull (t + 1) (by omega) (by omega)
    have hv : S.con (pos S0.n b (t + 1)) = if t = u then cu else S0.con (pos S0.n b (t + 1)) := by
      have g : ¬ (u ≤ t + 1 ∧ t + 1 < t) := by omega
      rw [h.con _ htn, if_neg g]
      by_cases z : t = u
      · rw [if_pos z, hcu z, z]
      · rw [if_neg z]
    obtain ⟨T, g1, g2⟩ := ih (t + 1) m _ (by omega) (by omega) (fun z => by omega) (by omega) (h.step hut htn hv)
    refine ⟨T, ?_, g2⟩
    have hn : S.n = S0.n := h.m.2.1
    have hx := pos_nx S b (t + 1)
    rw [hn] at hx
    rw [QS.seLoop, h1, h2, h3, h4]
    simp only [Bool.not_false, Bool.and_self, if_true]
    rw [hx]; exact g1
theorem fcLoop_spec {S : QS} (k : Conc S b c) (w : WF S.n c) : ∀ (u m : Nat) (p : Nat × Nat), c u = some p → u < m → ∃ t0 p0, t0 ≤ u ∧ c t0 = some p0 ∧ p0.1 = t0 ∧ (∀ y, t0 ≤ y → y ≤ u → ∃ q, c y = some q) ∧ S.fcLoop m (pos S.n b u) = some (pos S.n b t0) := by
  intro u
  induction u with
  | zero =>
    intro m p hp hm
    obtain ⟨m, rfl⟩ : ∃ j, m = j + 1 := ⟨m - 1, by omega⟩
    have hle := w.le 0 p hp
    refine ⟨0, p, Nat.le_refl _, hp, by omega, fun y h1 h2 => ⟨p, by rw [show y = 0 by omega]; exact hp⟩, ?_⟩
    have : S.cst (pos S.n b 0) = true := by
      unfold QS.cst
      have h1 := k.shf 0 k.pos
      rw [hp] at h1
      rw [(k.occ 0 k.pos).mpr ⟨0, p, hp, by omega⟩, k.con 0 k.pos, h1]
      show (true && (!false && !(p.1 != 0))) = true
      rw [show p.1 = 0 by omega]; rfl
    rw [QS.fcLoop, this]; rfl
  | succ u ih =>
    intro m p hp hm
    obtain ⟨m, rfl⟩ : ∃ j, m = j + 1 := ⟨m - 1, by omega⟩
    have hlt := w.lt hp
    have hs := k.shf (u + 1) hlt
    rw [hp] at hs
    by_cases hpt : p.1 = u + 1
    · refine ⟨u + 1, p, Nat.le_refl _, hp, hpt, fun y h1 h2 => ⟨p, by rw [show y = u + 1 by omega]; exact hp⟩, ?_⟩
      have : S.cst (pos S.n b (u + 1)) = true := by
        unfold QS.cst
        rw [(k.occ _ hlt).mpr ⟨u + 1, p, hp, hpt⟩, k.con _ hlt, hs, same_home w hp hpt]
        show (true && (!false && !(p.1 != u + 1))) = true
        rw [hpt]; simp
      rw [QS.fcLoop, this]; rfl
    · have hle := w.le _ _ hp
      have : S.cst (pos S.n b (u + 1)) = false := by
        unfold QS.cst
        have : S.shf (pos S.n b (u + 1)) = true := by rw [hs]; simpa using hpt
        rw [this]; simp
      obtain ⟨q, hq, _⟩ := w.step u p hp (by omega)
      obtain ⟨t0, p0, h1, h2, h3, h4, h5⟩ := ih m q hq (by omega)
      refine ⟨t0, p0, by omega, h2, h3, fun y h1 h2 => ?_, ?_⟩
      · rcases Nat.lt_or_ge y (u + 1) with e | e
        · exact h4 y h1 (by omega)
        · exact ⟨p, by rw [show y = u + 1 by omega]; exact hp⟩
      · rw [QS.fcLoop, this, if_neg (by decide), pos_pv S b u k.pos]; exact h5
end
end Mine
end

section
namespace Mine
/-- the table while the marks are mended: y is next, e the stop -/
structure Fx (n b : Nat) (d : Cells) (e y : Nat) (T : QS) : Prop where
  hn : T.n = n
  occ : ∀ x, x < n → (T.occ (pos n b x) = true ↔ ∃ t p, d t = some p ∧ p.1 = x)
  fil : ∀ t p, d t = some p → T.fil (pos n b t) = p.2
  con : ∀ t, t < n → T.con (pos n b t) = same d t
  shfA : ∀ t p, d t = some p → p.1 ≠ t → T.shf (pos n b t) = true
  shfB : ∀ t, t < n → d t = none → T.shf (pos n b t) = false
  shfC : ∀ t p, d t = some p → p.1 = t → (t < y ∨ e ≤ t) → T.shf (pos n b t) = false
section
variable {n b e y m : Nat} {d : Cells} {T : QS}
theorem Fx.next (f : Fx n b d e y T) (h : ∀ p, d y = some p → p.1 ≠ y) : Fx n b d e (y + 1) T :=
  ⟨f.hn, f.occ, f.fil, f.con, f.shfA, f.shfB, fun t p h1 h2 h3 => by
    by_cases z : t = y
    · subst z; exact absurd h2 (h p h1)
    · exact f.shfC t p h1 h2 (by omega)⟩
theorem Fx.step (f : Fx n b d e y T) (w : WF n d) {p : Nat × Nat} (h : d y = some p) (hp : p.1 = y) : Fx n b d e (y + 1) (T.fxStep (pos n b y)) where
  hn := f.hn
  occ := fun x hx => by
    have hy := w.lt h
    show upd T.occ (pos n b y) true (pos n b x) = true ↔ _
    rw [upd_pos _ _ hy hx]
    by_cases z : x = y
    · rw [if_pos z]; exact ⟨fun _ => ⟨y, p, h, by omega⟩, fun _ => rfl⟩
    · rw [if_neg z]; exact f.occ x hx
  fil := f.fil
  con := fun t ht => by
    have hy := w.lt h
    show upd T.con (pos n b y) false (pos n b t) = _
    rw [upd_pos _ _ hy ht]
    by_cases z : t = y
    · rw [if_pos z, z, same_home w h hp]
    · rw [if_neg z]; exact f.con t ht
  shfA := fun t q h1 h2 => by
    have hy := w.lt h
    show upd T.shf (pos n b y) false (pos n b t) = _
    rw [upd_pos _ _ hy (w.lt h1)]
    by_cases z : t = y
    · subst z; rw [h] at h1; cases h1; exact absurd hp h2
    · rw [if_neg z]; exact f.shfA t q h1 h2
  shfB := fun t ht h1 => by
    have hy := w.lt h
    show upd T.shf (pos n b y) false (pos n b t) = _
    rw [upd_pos _ _ hy ht]
    by_cases z : t = y
    · rw [if_pos z]
    · rw [if_neg z]; exact f.shfB t ht h1
  shfC := fun t q h1 h2 h3 => by
    have hy := w.lt h
    show upd T.shf (pos n b y) false (pos n b t) = _
    rw [upd_pos _ _ hy (w.lt h1)]
    by_cases z : t = y
    · rw [if_pos z]
    · rw [if_neg z]; exact f.shfC t q h1 h2 (by omega)
theorem Fx.rst (f : Fx n b d e y T) {t : Nat} {p : Nat × Nat} (ht : t < n) (h : d t = some p) : T.rst (pos n b t) = !same d t := by
  unfold QS.rst
  rw [f.con t ht]
  have : (T.occ (pos n b t) || T.shf (pos n b t)) = true := by
    by_cases z : p.1 = t
    · rw [(f.occ t ht).mpr ⟨t, p, h, z⟩]; rfl
    · rw [f.shfA t p h z, Bool.or_true]
  rw [this, Bool.and_true]
theorem fxLoop_spec (hn : 0 < n) (w : WF n d) (hen : e < n) (hm : ∀ t p, m ≤ t → d t = some p → m ≤ p.1) (hm1 : ∃ p, d m = some p) :
    ∀ (j y k lo cn : Nat) (cur : Option Nat) (T : QS), e = y + j → j < k → Fx n b d e y T → QI d n b m lo y cn → (cur = none ∧ y = m ∨ cur = some cn ∧ m < y) → (∀ v, cur = some v → ∃ h, h < y ∧ v = pos n b h) →
      ∃ U, QS.fxLoop (pos n b e) k T (pos n b y) cur (ql n b (fun x => T.occ (pos n b x)) lo y) = some U ∧ Meta T U ∧ Fx n b d e e U := by
  intro j
  induction j with
  | zero =>
    intro y k lo cn cur T hj hk f q hc hcur
    obtain ⟨k, rfl⟩ : ∃ j, k = j + 1 := ⟨k - 1, by omega⟩
    have : e = y := by omega
    subst this
    exact ⟨T, by rw [QS.fxLoop, if_pos (beq_self_eq_true _)], Meta.rfl T, f⟩
  | succ j ih =>
    intro y k lo cn cur T hj hk f q hc hcur
    obtain ⟨k, rfl⟩ : ∃ j, k = j + 1 := ⟨k - 1, by omega⟩
    have hy : y < n := by omega
    have hne : ∀ {h : Nat}, h < n → h ≠ y → (pos n b h == pos n b y) = false := fun {h} h1 h2 => beq_eq_false_iff_ne.mpr fun h3 => h2 (pos_inj hn h1 hy h3)
    have hnx : T.nx (pos n b y) = pos n b (y + 1) := by
      have := pos_nx T b y
      rw [f.hn] at this; exact this
    have hcne : (cur == some (pos n b y)) = false := by
      cases hcu : cur with
      | none => rfl
      | some v =>
        obtain ⟨h, h1, h2⟩ := hcur v hcu
        have h3 := hne (h := h) (by omega) (by omega)
        rw [h2]; exact h3
    have hq : (if T.occ (pos n b y) = true then ql n b (fun x => T.occ (pos n b x)) lo y ++ [pos n b y] else ql n b (fun x => T.occ (pos n b x)) lo y) = ql n b (fun x => T.occ (pos n b x)) lo (y + 1) := (ql_succ (o := fun x => T.occ (pos n b x)) q.le).symm
    have hey : (pos n b y == pos n b e) = false := beq_eq_false_iff_ne.mpr fun h3 => by have := pos_inj hn hy hen h3; omega
    have hcur' : ∀ v, cur = some v → ∃ h, h < y + 1 ∧ v = pos n b h := fun v hv => by
      obtain ⟨h, h1, h2⟩ := hcur v hv
      exact ⟨h, by omega, h2⟩
    cases hd : d y with
    | none =>
      obtain ⟨h1, h2, h3, h4⟩ := q.none w f.occ hy hd
      have hr : T.rst (pos n b y) = false := by
        unfold QS.rst
        rw [f.shfB y hy hd, h2]; simp
      obtain ⟨U, g1, g2, g3⟩ := ih (y + 1) k lo cn cur T (by omega) (by omega) (f.next fun p hp => by rw [hd] at hp; cases hp) h3 (by
        rcases hc with ⟨z1, z2⟩ | ⟨z1, z2⟩
        · obtain ⟨p, hp⟩ := hm1
          rw [← z2, hd] at hp; cases hp
        · exact .inr ⟨z1, by omega⟩) hcur'
      refine ⟨U, ?_, g2, g3⟩
      rw [QS.fxLoop, hey]
      simp only [hq, hr, hcne, hnx]
      exact g1
    | some p =>
      have hr := f.rst hy hd
      cases hs : same d y with
      | false =>
        obtain ⟨h1, h2⟩ := q.fresh w f.occ hm hd hs
        have hpy := w.le _ _ hd
        have hcc : ∀ v, some (pos n b p.1) = some v → ∃ h, h < y + 1 ∧ v = pos n b h := fun v hv => by
          cases hv; exact ⟨p.1, by omega, rfl⟩
        have hmy : m < y + 1 := by have := q.my; omega
        by_cases z : p.1 = y
        · obtain ⟨U, g1, g2, g3⟩ := ih (y + 1) k (p.1 + 1) _ (some (pos n b p.1)) _ (by omega) (by omega) (f.step w hd z) h2 (.inr ⟨rfl, hmy⟩) hcc
          refine ⟨U, ?_, Meta.trans ⟨rfl, rfl, rfl, rfl, rfl⟩ g2, g3⟩
          rw [QS.fxLoop, hey]
          simp only [hq, hr, hs, hnx, h1]
          have : ql n b (fun x => (T.fxStep (pos n b y)).occ (pos n b x)) (p.1 + 1) (y + 1) = ql n b (fun x => T.occ (pos n b x)) (p.1 + 1) (y + 1) := by
            rw [z, ql_empty (Nat.le_refl _), ql_empty (Nat.le_refl _)]
          rw [this] at g1
          simp only [z, beq_self_eq_true, Bool.not_false, if_true, Bool.false_eq_true, if_false]
          simp only [z] at g1
          exact g1
        · obtain ⟨U, g1, g2, g3⟩ := ih (y + 1) k (p.1 + 1) _ (some (pos n b p.1)) T (by omega) (by omega) (f.next fun p' hp' => by rw [hd] at hp'; cases hp'; exact z) h2 (.inr ⟨rfl, hmy⟩) hcc
          refine ⟨U, ?_, g2, g3⟩
          rw [QS.fxLoop, hey]
          simp only [hq, hr, hs, hnx, h1, hne (h := p.1) (by omega) z]
          exact g1
      | true =>
        have hmy : m < y := by
          rcases Nat.lt_or_ge m y with z | z
          · exact z
          · have : m = y := by have := q.my; omega
            subst this
            have h1 := hm m p (Nat.le_refl _) hd
            have h2 := w.le _ _ hd
            rw [same_home w hd (by omega)] at hs; cases hs
        obtain ⟨h1, ⟨y', h2, r, h3, h4⟩, h5⟩ := q.more hd hs hmy
        have := w.le _ _ h3
        obtain ⟨U, g1, g2, g3⟩ := ih (y + 1) k lo cn cur T (by omega) (by omega) (f.next fun p' hp' => by rw [hd] at hp'; cases hp'; omega) h5 (by
          rcases hc with ⟨z1, z2⟩ | ⟨z1, z2⟩
          · omega
          · exact .inr ⟨z1, by omega⟩) hcur'
        refine ⟨U, ?_, g2, g3⟩
        rw [QS.fxLoop, hey]
        simp only [hq, hr, hs, hcne, hnx]
        exact g1
end
end Mine
end

section
namespace Mine
theorem same_true {c : Cells} {t : Nat} (h : same c t = true) : ∃ v p q, t = v + 1 ∧ c v = some p ∧ c t = some q ∧ p.1 = q.1 := by
  cases t with
  | zero => cases h
  | succ v =>
    rw [same_eq] at h
    cases hp : c v with
    | none => rw [hp] at h; cases c (v + 1) <;> cases h
    | some p =>
      cases hq : c (v + 1) with
      | none => rw [hp, hq] at h; cases h
      | some q =>
        rw [hp, hq] at h
        exact ⟨v, p, q, rfl, hp, rfl, by simpa using h⟩
section
variable {S : QS} {b n : Nat} {c : Cells} {u e : Nat}
theorem Del.home (d : Del n c u e) (w : WF n c) {p : Nat × Nat} (hp : c u = some p) :
    (∃ t q, delC c u e t = some q ∧ q.1 = p.1) ↔ (!same c u && !same c (u + 1)) = false := by
  constructor
  · rintro ⟨t, q, h1, h2⟩
    obtain ⟨⟨v, hv⟩, hne⟩ := (d.mem w q).mp ⟨t, h1⟩
    have hvu : v ≠ u := fun h => hne (h ▸ hv)
    have hle := w.le _ _ hv
    have hleu := w.le _ _ hp
    rcases Nat.lt_or_ge v u with z | z
    · obtain ⟨s, rfl⟩ : ∃ s, u = s + 1 := ⟨u - 1, by omega⟩
      obtain ⟨p', g1, g2⟩ := w.mono hp s (by omega) (Nat.lt_succ_self _)
      have : p'.1 = p.1 := by
        rcases Nat.lt_or_ge v s with z2 | z2
        · have := w.sorted hv g1 z2
          unfold Lex at *; omega
        · have : v = s := by omega
          subst this; rw [hv] at g1; cases g1; exact h2
      rw [same_succ g1 hp, this]; simp
    · obtain ⟨p', g1, g2⟩ := w.some_of hv (y := u + 1) (by omega) (by omega)
      have g3 := w.sorted hp g1 (Nat.lt_succ_self _)
      have : p.1 = p'.1 := by unfold Lex at g3; omega
      rw [same_succ hp g1, this]; simp
  · intro h
    rcases Bool.eq_false_or_eq_true (same c u) with hs | hs
    · obtain ⟨v, p', q', h1, h2, h3, h4⟩ := same_true hs
      rw [hp] at h3; cases h3
      obtain ⟨t, ht⟩ := (d.mem w p').mpr ⟨⟨v, h2⟩, fun h => by have := w.inj h h2; omega⟩
      exact ⟨t, p', ht, h4⟩
    · rw [hs] at h
      have hs2 : same c (u + 1) = true := by simpa using h
      obtain ⟨v, p', q', h1, h2, h3, h4⟩ := same_true hs2
      have : v = u := by omega
      subst this
      rw [hp] at h2; cases h2
      obtain ⟨t, ht⟩ := (d.mem w q').mpr ⟨⟨v + 1, h3⟩, fun h => by have := w.inj h h3; omega⟩
      exact ⟨t, q', ht, h4.symm⟩
theorem Del.home_ne (d : Del n c u e) (w : WF n c) {p : Nat × Nat} (hp : c u = some p) {y : Nat} (hy : y ≠ p.1) :
    (∃ t q, delC c u e t = some q ∧ q.1 = y) ↔ ∃ t q, c t = some q ∧ q.1 = y := by
  constructor
  · rintro ⟨t, q, h1, h2⟩
    obtain ⟨⟨v, hv⟩, _⟩ := (d.mem w q).mp ⟨t, h1⟩
    exact ⟨v, q, hv, h2⟩
  · rintro ⟨t, q, h1, h2⟩
    obtain ⟨v, hv⟩ := (d.mem w q).mpr ⟨⟨t, h1⟩, fun h => by rw [hp] at h; cases h; exact hy h2.symm⟩
    exact ⟨v, q, hv, h2⟩
theorem del_ex (w : WF n c) (hlast : c (n - 1) = none) {p : Nat × Nat} (hp : c u = some p) :
    ∀ (j t : Nat), t + j = n - 1 → u < t → (∀ y, u < y → y < t → ∃ q, c y = some q ∧ q.1 < y) → ∃ e, Del n c u e := by
  have hun := w.lt hp
  intro j
  induction j with
  | zero =>
    intro t h1 h2 h3
    have : t = n - 1 := by omega
    subst this
    exact ⟨n - 1, h2, by omega, ⟨p, hp⟩, h3, fun q h => by rw [hlast] at h; cases h⟩
  | succ j ih =>
    intro t h1 h2 h3
    by_cases h : ∃ q, c t = some q ∧ q.1 < t
    · refine ih (t + 1) (by omega) (by omega) fun y g1 g2 => ?_
      rcases Nat.lt_or_ge y t with z | z
      · exact h3 y g1 z
      · have : y = t := by omega
        subst this; exact h
    · exact ⟨t, h2, by omega, ⟨p, hp⟩, h3, fun q hq => by
        have := w.le _ _ hq
        rcases Nat.lt_or_ge q.1 t with z | z
        · exact absurd ⟨q, hq, z⟩ h
        · omega⟩
theorem Del.same_stop (d : Del n c u e) (w : WF n c) : same c e = false := by
  have hue := d.ue
  cases he : c e with
  | none =>
    obtain ⟨v, rfl⟩ : ∃ v, e = v + 1 := ⟨e - 1, by omega⟩
    rw [same_eq, he]; cases c v <;> rfl
  | some q => exact same_home w he (d.stop q he)
/-- which cells go on the run before, afterwards -/
theorem Del.same_ (d : Del n c u e) (w : WF n c) {t : Nat} (ht : t < n) (hu : t ≠ u ∨ u + 1 = e) : same (delC c u e) t = if t < u then same c t else if t + 1 < e then same c (t + 1) else if t + 1 = e then false else same c t := by
  have hue := d.ue
  have hst := d.same_stop w
  cases t with
  | zero =>
    by_cases z : 0 < u
    · rw [if_pos z]; rfl
    · rw [if_neg z]
      rw [if_neg (by omega)]
      split
      · rfl
      · rfl
  | succ t =>
    rw [same_eq]
    by_cases z1 : t + 1 < u
    · have h1 : delC c u e t = c t := delC_lt (by omega)
      rw [if_pos z1, h1, delC_lt z1, same_eq]
    · rw [if_neg z1]
      by_cases z2 : t + 1 + 1 < e
      · have h1 : delC c u e t = c (t + 1) := delC_mid (by omega) (by omega)
        have h2 : delC c u e (t + 1) = c (t + 1 + 1) := delC_mid (by omega) (by omega)
        rw [if_pos z2, h1, h2, same_eq]
      · rw [if_neg z2]
        by_cases z3 : t + 1 + 1 = e
        · have h2 : delC c u e (t + 1) = none := delC_last (by omega) (by omega)
          rw [if_pos z3, h2]
          cases delC c u e t <;> rfl
        · rw [if_neg z3]
          have h2 : delC c u e (t + 1) = c (t + 1) := delC_gt d.ue (by omega)
          by_cases z4 : e = t + 1
          · have h1 : delC c u e t = none := delC_last (by omega) (by omega)
            rw [h1, ← z4, hst]
          · have h1 : delC c u e t = c t := delC_gt d.ue (by omega)
            rw [h1, h2, same_eq]
end
end Mine
end

section
namespace Mine
section
variable {S : QS} {b : Nat} {c : Cells} {u e : Nat}
/-- at the end of the mending -/
theorem Fx.conc {n : Nat} {d : Cells} {T : QS} (f : Fx n b d e e T) (hb : b < n) : Conc T b d where
  hb := by rw [f.hn]; exact hb
  fil := fun t p h => by rw [f.hn]; exact f.fil t p h
  shf := fun t ht => by
    rw [f.hn] at ht ⊢
    cases hd : d t with
    | none => exact f.shfB t ht hd
    | some p =>
      show T.shf (pos n b t) = (p.1 != t)
      by_cases z : p.1 = t
      · rw [f.shfC t p hd z (by omega), z]; simp
      · rw [f.shfA t p hd z]; simpa using z
  con := fun t ht => by rw [f.hn] at ht ⊢; exact f.con t ht
  occ := fun x hx => by rw [f.hn] at hx ⊢; exact f.occ x hx
/-- after the cells have gone down, the marks are mended from the cluster's start on -/
theorem Fx.mk0 (k : Conc S b c) (w : WF S.n c) (d : Del S.n c u e) (hue : u + 1 < e) {p : Nat × Nat} (hp : c u = some p) {cu : Bool} (hcu : cu = same (delC c u e) u) {T T' : QS} {o : Bool} (ho : o = (!same c u && !same c (u + 1)))
    (h : Dn S b u (e - 1) cu T) (hT : T' = if o then (T.clearLast (pos S.n b (e - 1))).setOcc (pos S.n b p.1) false else T.clearLast (pos S.n b (e - 1))) {m : Nat} (hm : m ≤ u) : Fx S.n b (delC c u e) e m T' := by
  have hen := d.en
  have hn := k.pos
  have hle := w.le _ _ hp
  have hocc : ∀ x, x < S.n → (T'.occ (pos S.n b x) = true ↔ ∃ t q, delC c u e t = some q ∧ q.1 = x) := by
    intro x hx
    have h1 : (T.clearLast (pos S.n b (e - 1))).occ (pos S.n b x) = S.occ (pos S.n b x) := by
      show upd T.occ (pos S.n b (e - 1)) false (pos S.n b x) = _
      rw [upd_pos _ _ (by omega) hx, h.occ]
      by_cases z : x = e - 1
      · rw [if_pos z]
        symm
        cases hz : S.occ (pos S.n b x) with
        | false => rfl
        | true =>
          obtain ⟨t, q, h1, h2⟩ := (k.occ x hx).mp hz
          have h3 := w.le _ _ h1
          rcases Nat.lt_or_ge t e with z2 | z2
          · have : t = e - 1 := by omega
            subst this
            obtain ⟨q', h4, h5⟩ := d.full (e - 1) (by omega) (by omega)
            rw [h1] at h4; cases h4; omega
          · obtain ⟨q', h4, h5⟩ := w.some_of h1 (y := e) (by omega) z2
            have := d.stop q' h4; omega
      · rw [if_neg z]
    by_cases z : x = p.1
    · subst z
      rw [d.home w hp, hT, ho]
      cases hob : (!same c u && !same c (u + 1)) with
      | true =>
        simp only [if_true]
        show upd (T.clearLast (pos S.n b (e - 1))).occ (pos S.n b p.1) false (pos S.n b p.1) = true ↔ _
        rw [upd_self]; simp
      | false =>
        simp only [Bool.false_eq_true, if_false]
        rw [h1, k.occ p.1 hx]
        exact ⟨fun _ => trivial, fun _ => ⟨u, p, hp, rfl⟩⟩
    · rw [d.home_ne w hp z, ← k.occ x hx, hT]
      cases o with
      | true =>
        simp only [if_true]
        show upd (T.clearLast (pos S.n b (e - 1))).occ (pos S.n b p.1) false (pos S.n b x) = true ↔ _
        rw [upd_pos _ _ (by omega) hx, if_neg z, h1]
      | false =>
        simp only [Bool.false_eq_true, if_false]
        rw [h1]
  have hfil : ∀ t, t < S.n → T'.fil (pos S.n b t) = if t = e - 1 then 0 else T.fil (pos S.n b t) := fun t ht => by
    rw [hT]
    have : (T.clearLast (pos S.n b (e - 1))).fil (pos S.n b t) = if t = e - 1 then 0 else T.fil (pos S.n b t) := by
      show upd T.fil (pos S.n b (e - 1)) 0 (pos S.n b t) = _
      exact upd_pos _ _ (by omega) ht
    cases o <;> exact this
  have hcon : ∀ t, t < S.n → T'.con (pos S.n b t) = if t = e - 1 then false else T.con (pos S.n b t) := fun t ht => by
    rw [hT]
    have : (T.clearLast (pos S.n b (e - 1))).con (pos S.n b t) = if t = e - 1 then false else T.con (pos S.n b t) := by
      show upd T.con (pos S.n b (e - 1)) false (pos S.n b t) = _
      exact upd_pos _ _ (by omega) ht
    cases o <;> exact this
  have hshf : ∀ t, t < S.n → T'.shf (pos S.n b t) = if t = e - 1 then false else T.shf (pos S.n b t) := fun t ht => by
    rw [hT]
    have : (T.clearLast (pos S.n b (e - 1))).shf (pos S.n b t) = if t = e - 1 then false else T.shf (pos S.n b t) := by
      show upd T.shf (pos S.n b (e - 1)) false (pos S.n b t) = _
      exact upd_pos _ _ (by omega) ht
    cases o <;> exact this
  have hTn : T'.n = S.n := by
    rw [hT]
    cases o <;> exact h.m.2.1
  refine ⟨hTn, hocc, fun t q hq => ?_, fun t ht => ?_, fun t q hq hne => ?_, fun t ht hq => ?_, fun t q hq hne hc => ?_⟩
  · have ht := (d.wf w).lt hq
    rw [hfil t ht, h.fil t ht]
    rcases delC_cases (c := c) d.ue t with ⟨h1, g⟩ | ⟨h1, h2, g⟩ | ⟨h1, h2, g⟩ | ⟨h1, g⟩
    · rw [g] at hq
      rw [if_neg (by omega), if_neg (by omega)]; exact k.fil t q hq
    · rw [g] at hq
      rw [if_neg (by omega), if_pos ⟨h1, by omega⟩]; exact k.fil (t + 1) q hq
    · rw [g] at hq; cases hq
    · rw [g] at hq
      rw [if_neg (by omega), if_neg (by omega)]; exact k.fil t q hq
  · rw [hcon t ht, h.con t ht]
    by_cases z : t = u
    · subst z
      rw [if_neg (by omega), if_pos ⟨Nat.le_refl _, by omega⟩, if_pos rfl, hcu]
    · rw [d.same_ w ht (.inl z)]
      by_cases z1 : t < u
      · rw [if_neg (by omega), if_neg (by omega), if_pos z1]; exact k.con t ht
      · rw [if_neg z1]
        by_cases z2 : t + 1 < e
        · rw [if_neg (by omega), if_pos ⟨by omega, by omega⟩, if_neg z, if_pos z2]; exact k.con (t + 1) (by omega)
        · rw [if_neg z2]
          by_cases z3 : t + 1 = e
          · rw [if_pos (by omega), if_pos z3]
          · rw [if_neg (by omega), if_neg (by omega), if_neg z3]; exact k.con t ht
  · have ht := (d.wf w).lt hq
    rw [hshf t ht, h.shf t ht]
    rcases delC_cases (c := c) d.ue t with ⟨h1, g⟩ | ⟨h1, h2, g⟩ | ⟨h1, h2, g⟩ | ⟨h1, g⟩
    · rw [g] at hq
      have := k.shf t ht
      rw [hq] at this
      rw [if_neg (by omega), if_neg (by omega), this]; simpa using hne
    · rw [g] at hq
      have := k.shf (t + 1) (by omega)
      rw [hq] at this
      obtain ⟨q', g1, g2⟩ := d.full (t + 1) (by omega) h2
      rw [hq] at g1; cases g1
      rw [if_neg (by omega), if_pos ⟨h1, by omega⟩, this]
      have : q.1 ≠ t + 1 := by omega
      simpa using this
    · rw [g] at hq; cases hq
    · rw [g] at hq
      have := k.shf t ht
      rw [hq] at this
      rw [if_neg (by omega), if_neg (by omega), this]; simpa using hne
  · rw [hshf t ht, h.shf t ht]
    rcases delC_cases (c := c) d.ue t with ⟨h1, g⟩ | ⟨h1, h2, g⟩ | ⟨h1, h2, g⟩ | ⟨h1, g⟩
    · rw [g] at hq
      have := k.shf t ht
      rw [hq] at this
      rw [if_neg (by omega), if_neg (by omega), this]
    · rw [g] at hq
      obtain ⟨q', g1, g2⟩ := d.full (t + 1) (by omega) h2
      rw [hq] at g1; cases g1
    · rw [if_pos (by omega)]
    · rw [g] at hq
      have := k.shf t ht
      rw [hq] at this
      rw [if_neg (by omega), if_neg (by omega), this]
  · have ht := (d.wf w).lt hq
    rw [hshf t ht, h.shf t ht]
    rcases delC_cases (c := c) d.ue t with ⟨h1, g⟩ | ⟨h1, h2, g⟩ | ⟨h1, h2, g⟩ | ⟨h1, g⟩
    · rw [g] at hq
      have := k.shf t ht
      rw [hq] at this
      rw [if_neg (by omega), if_neg (by omega), this]; simpa using hne
    · omega
    · rw [g] at hq; cases hq
    · rw [g] at hq
      have := k.shf t ht
      rw [hq] at this
      rw [if_neg (by omega), if_neg (by omega), this]; simpa using hne
end
end Mine
end

section
namespace Mine
section
variable {S : QS} {b : Nat} {c : Cells} {u e : Nat}
theorem rcs_of {S : QS} {i : Nat} (h : S.emp i = false) : S.rcs i = !S.con i := by
  unfold QS.rcs QS.rst QS.cst
  unfold QS.emp at h
  cases ho : S.occ i <;> cases hc : S.con i <;> cases hs : S.shf i <;> simp_all
theorem Conc.cst_home (k : Conc S b c) (w : WF S.n c) {t : Nat} {p : Nat × Nat} (h : c t = some p) (hp : p.1 = t) : S.cst (Mine.pos S.n b t) = true := by
  have ht := w.lt h
  have h1 := k.shf t ht
  rw [h] at h1
  unfold QS.cst
  rw [(k.occ t ht).mpr ⟨t, p, h, hp⟩, k.con t ht, h1, same_home w h hp]
  simp [hp]
theorem Conc.cst_away (k : Conc S b c) (w : WF S.n c) {t : Nat} {p : Nat × Nat} (h : c t = some p) (hp : p.1 ≠ t) : S.cst (Mine.pos S.n b t) = false := by
  have ht := w.lt h
  have h1 := k.shf t ht
  rw [h] at h1
  unfold QS.cst
  have : S.shf (Mine.pos S.n b t) = true := by rw [h1]; simpa using hp
  rw [this]; simp
theorem remClear_conc (k : Conc S b c) (w : WF S.n c) (d : Del S.n c u e) (hue : u + 1 = e) {p : Nat × Nat} (hp : c u = some p) {o : Bool} (ho : o = (!same c u && !same c (u + 1))) :
    Conc (S.remClear (pos S.n b u) (pos S.n b p.1) o) b (delC c u e) ∧ Meta S (S.remClear (pos S.n b u) (pos S.n b p.1) o) := by
  have hen := d.en
  have hn := k.pos
  have hle := w.le _ _ hp
  have hm : Meta S (S.remClear (pos S.n b u) (pos S.n b p.1) o) := by
    unfold QS.remClear
    cases o <;> exact Meta.rfl S
  have hno : ∀ t q, c t = some q → q.1 = u → t = u := fun t q h1 h2 => by
    have h3 := w.le _ _ h1
    rcases Nat.lt_or_ge u t with z | z
    · obtain ⟨q', h4, h5⟩ := w.some_of h1 (y := e) (by omega) (by omega)
      have := d.stop q' h4; omega
    · omega
  have hu : ∀ (α : Type) (f : Nat → α) (v : α) t, t < S.n → upd f (pos S.n b u) v (pos S.n b t) = if t = u then v else f (pos S.n b t) := fun α f v t ht => upd_pos _ _ (by omega) ht
  refine ⟨⟨by rw [hm.2.1]; exact k.hb, fun t q hq => ?_, fun t ht => ?_, fun t ht => ?_, fun x hx => ?_⟩, hm⟩ <;> rw [hm.2.1] at *
  · have ht := (d.wf w).lt hq
    have : (S.remClear (pos S.n b u) (pos S.n b p.1) o).fil (pos S.n b t) = upd S.fil (pos S.n b u) 0 (pos S.n b t) := by
      unfold QS.remClear
      cases o <;> rfl
    rw [this, hu _ _ _ t ht]
    rcases delC_cases (c := c) d.ue t with ⟨h1, g⟩ | ⟨h1, h2, g⟩ | ⟨h1, h2, g⟩ | ⟨h1, g⟩
    · rw [g] at hq; rw [if_neg (by omega)]; exact k.fil t q hq
    · omega
    · rw [g] at hq; cases hq
    · rw [g] at hq; rw [if_neg (by omega)]; exact k.fil t q hq
  · have : (S.remClear (pos S.n b u) (pos S.n b p.1) o).shf (pos S.n b t) = upd S.shf (pos S.n b u) false (pos S.n b t) := by
      unfold QS.remClear
      cases o <;> rfl
    rw [this, hu _ _ _ t ht]
    rcases delC_cases (c := c) d.ue t with ⟨h1, g⟩ | ⟨h1, h2, g⟩ | ⟨h1, h2, g⟩ | ⟨h1, g⟩
    · rw [g, if_neg (by omega)]; exact k.shf t ht
    · omega
    · rw [g, if_pos (by omega)]
    · rw [g, if_neg (by omega)]; exact k.shf t ht
  · have : (S.remClear (pos S.n b u) (pos S.n b p.1) o).con (pos S.n b t) = upd S.con (pos S.n b u) false (pos S.n b t) := by
      unfold QS.remClear
      cases o <;> rfl
    rw [this, hu _ _ _ t ht, d.same_ w ht (.inr hue)]
    by_cases z : t = u
    · rw [if_pos z, if_neg (by omega), if_neg (by omega), if_pos (by omega)]
    · rw [if_neg z]
      by_cases z1 : t < u
      · rw [if_pos z1]; exact k.con t ht
      · rw [if_neg z1, if_neg (by omega), if_neg (by omega)]; exact k.con t ht
  · have h1 : (S.remClear (pos S.n b u) (pos S.n b p.1) o).occ (pos S.n b x) = if o = true then (if x = p.1 then false else upd S.occ (pos S.n b u) false (pos S.n b x)) else upd S.occ (pos S.n b u) false (pos S.n b x) := by
      unfold QS.remClear
      cases o with
      | false => rfl
      | true =>
        simp only [if_true]
        show upd (upd S.occ (pos S.n b u) false) (pos S.n b p.1) false (pos S.n b x) = _
        exact upd_pos _ _ (by omega) hx
    rw [h1, hu _ _ _ x hx]
    by_cases z : x = p.1
    · subst z
      rw [d.home w hp, ← ho]
      cases hob : o with
      | true => simp
      | false =>
        simp only [Bool.false_eq_true, if_false, iff_true]
        rw [if_neg]
        · exact (k.occ p.1 hx).mpr ⟨u, p, hp, rfl⟩
        · intro hpu
          rw [hob] at ho
          obtain ⟨t, q, h2, h3⟩ := (d.home w hp).mpr ho.symm
          obtain ⟨⟨v, hv⟩, hne⟩ := (d.mem w q).mp ⟨t, h2⟩
          have := hno v q hv (by omega)
          exact hne (this ▸ hv)
    · rw [d.home_ne w hp z]
      have : (if o = true then (if x = p.1 then false else if x = u then false else S.occ (pos S.n b x)) else if x = u then false else S.occ (pos S.n b x)) = if x = u then false else S.occ (pos S.n b x) := by
        rw [if_neg z]; cases o <;> rfl
      rw [this]
      by_cases z2 : x = u
      · rw [if_pos z2]
        constructor
        · intro h; cases h
        · rintro ⟨t, q, h2, h3⟩
          have := hno t q h2 (by omega)
          subst this
          rw [hp] at h2; cases h2
          exact absurd h3.symm z
      · rw [if_neg z2]; exact k.occ x hx
theorem remove_spec (k : Conc S b c) (w : WF S.n c) (hlast : c (S.n - 1) = none) {x r : Nat} (hx : x < S.n) :
    ∃ T d, S.remove_ (pos S.n b x) r = some T ∧ Meta S T ∧ Conc T b d ∧ WF S.n d ∧ (∀ p, (∃ t, d t = some p) ↔ (∃ t, c t = some p) ∧ p ≠ (x, r)) ∧ d (S.n - 1) = none := by
  obtain ⟨res, hres, hin, hout⟩ := contained_spec (r := r) k w hx
  unfold QS.remove_
  rw [hres, Option.bind_some]
  by_cases hh : ∃ u, c u = some (x, r)
  · obtain ⟨u, hu⟩ := hh
    rw [hin u hu]
    have hun := w.lt hu
    have hn := k.pos
    obtain ⟨e, d⟩ := del_ex w hlast hu (S.n - 1 - (u + 1)) (u + 1) (by
      have : u ≠ S.n - 1 := fun h => by rw [h, hlast] at hu; cases hu
      omega) (by omega) (fun y h1 h2 => by omega)
    have hen := d.en
    have hue := d.ue
    have hmem : ∀ p, (∃ t, delC c u e t = some p) ↔ (∃ t, c t = some p) ∧ p ≠ (x, r) := fun p => by
      rw [d.mem w p, hu]
      simp [eq_comm]
    have hlast' : delC c u e (S.n - 1) = none := by rw [delC_gt d.ue (by omega)]; exact hlast
    have heu : S.emp (pos S.n b u) = false := by rw [k.emp w hun, hu]; rfl
    have horig : (S.rcs (pos S.n b u) && !S.con (S.nx (pos S.n b u))) = (!same c u && !same c (u + 1)) := by
      rw [rcs_of heu, k.con u hun, pos_nx, k.con (u + 1) (by omega)]
    have hfull : ∀ y, u < y → y < e → S.cst (pos S.n b y) = false ∧ S.emp (pos S.n b y) = false := fun y h1 h2 => by
      obtain ⟨q, h3, h4⟩ := d.full y h1 h2
      exact ⟨k.cst_away w h3 (by omega), by rw [k.emp w (by omega), h3]; rfl⟩
    have hstop : S.cst (pos S.n b e) = true ∨ S.emp (pos S.n b e) = true := by
      cases hce : c e with
      | none => exact .inr (by rw [k.emp w hen, hce]; rfl)
      | some q => exact .inl (k.cst_home w hce (d.stop q hce))
    simp only [horig]
    by_cases hcase : u + 1 = e
    · have : (S.emp (S.nx (pos S.n b u)) || S.cst (S.nx (pos S.n b u))) = true := by
        rw [pos_nx, hcase]
        rcases hstop with z | z
        · rw [z, Bool.or_true]
        · rw [z, Bool.true_or]
      rw [if_pos this]
      obtain ⟨h1, h2⟩ := remClear_conc k w d hcase hu rfl
      exact ⟨_, delC c u e, rfl, h2, h1, d.wf w, hmem, hlast'⟩
    · have : (S.emp (S.nx (pos S.n b u)) || S.cst (S.nx (pos S.n b u))) = false := by
        rw [pos_nx]
        obtain ⟨h1, h2⟩ := hfull (u + 1) (by omega) (by omega)
        rw [h1, h2]; rfl
      rw [if_neg (by rw [this]; decide)]
      obtain ⟨m, p0, hm, hm0, hm1, hm2, hfc⟩ := fcLoop_spec k w u S.fuel _ hu (by unfold QS.fuel; omega)
      rw [hfc, Option.bind_some]
      -- the cells go down
      have hcontu := k.con (u + 1) (show u + 1 < S.n by omega)
      have hd_u : delC c u e u = c (u + 1) := delC_mid (Nat.le_refl _) (by omega)
      obtain ⟨q1, hq1, hq1'⟩ := d.full (u + 1) (by omega) (by omega)
      have hl1 := w.sorted hu hq1 (Nat.lt_succ_self _)
      have hsu1 : same c (u + 1) = (x == q1.1) := same_succ hu hq1
      have key : ∃ T cu, (let (S₁, i₁, j₁) := S.firstMove (pos S.n b u) (S.nx (pos S.n b u)); QS.seLoop S.fuel S₁ i₁ j₁) = some (T, pos S.n b (e - 1), pos S.n b e) ∧ cu = same (delC c u e) u ∧ Dn S b u (e - 1) cu T := by
        unfold QS.firstMove
        rw [pos_nx, rcs_of heu, k.con u hun, hcontu]
        cases hA : (!same c u && same c (u + 1)) with
        | true =>
          simp only [if_true]
          have hs : same c u = false := by cases h : same c u <;> rw [h] at hA <;> simp at hA ⊢
          have hs1 : same c (u + 1) = true := by cases h : same c (u + 1) <;> rw [h] at hA <;> simp at hA ⊢
          have hcu : same (delC c u e) u = false := by
            cases huu : u with
            | zero => rfl
            | succ v =>
              subst huu
              have h1 : delC c (v + 1) e v = c v := delC_lt (Nat.lt_succ_self _)
              rw [same_eq, h1, hd_u, hq1]
              rw [same_eq, hu] at hs
              cases hv : c v with
              | none => rfl
              | some p' =>
                rw [hv] at hs
                rw [hsu1] at hs1
                have : x = q1.1 := by simpa using hs1
                show (p'.1 == q1.1) = false
                rw [← this]; exact hs
          have hD := (Dn.start S b u false).step (Nat.le_refl _) (show u + 1 < S.n by omega) (v := false) (by rw [if_pos rfl])
          obtain ⟨T, h1, h2⟩ := seLoop_spec hen hfull hstop (e - 1 - (u + 1)) (u + 1) S.fuel _ (by omega) (by omega) (fun z => by omega) (by unfold QS.fuel; omega) hD
          refine ⟨T, false, ?_, hcu.symm, h2⟩
          rw [pos_nx]; exact h1
        | false =>
          simp only [Bool.false_eq_true, if_false]
          have hcu : same (delC c u e) u = same c (u + 1) := by
            rw [hsu1]
            cases huu : u with
            | zero =>
              subst huu
              rw [show same (delC c 0 e) 0 = false from rfl]
              rw [hsu1] at hA
              have : same c 0 = false := rfl
              rw [this] at hA
              simpa using hA.symm
            | succ v =>
              subst huu
              have h1 : delC c (v + 1) e v = c v := delC_lt (Nat.lt_succ_self _)
              rw [same_eq, h1, hd_u, hq1]
              rw [hsu1, same_eq, hu] at hA
              cases hv : c v with
              | none =>
                rw [hv] at hA
                simpa using hA.symm
              | some p' =>
                rw [hv] at hA
                have h3 := w.sorted hv hu (Nat.lt_succ_self _)
                show (p'.1 == q1.1) = _
                rcases Nat.lt_or_ge x q1.1 with z | z
                · have : x ≠ q1.1 := by omega
                  have g1 : (x == q1.1) = false := by simpa using this
                  have g2 : (p'.1 == q1.1) = false := by
                    have : p'.1 ≠ q1.1 := by unfold Lex at h3; simp only at h3; omega
                    simpa using this
                  rw [g1, g2]
                · have hxq : x = q1.1 := by unfold Lex at hl1; simp only at hl1; omega
                  rw [← hxq] at hA ⊢
                  rw [beq_self_eq_true, Bool.and_true] at hA
                  rw [beq_self_eq_true]
                  cases hpx : (p'.1 == x) with
                  | true => rfl
                  | false =>
                    exfalso
                    simp only [hpx] at hA
                    cases hA
          obtain ⟨T, h1, h2⟩ := seLoop_spec hen hfull hstop (e - 1 - u) u S.fuel S (by omega) (Nat.le_refl _) (fun _ => hcontu.symm) (by unfold QS.fuel; omega) (Dn.start S b u (same c (u + 1)))
          exact ⟨T, same c (u + 1), h1, hcu.symm, h2⟩
      obtain ⟨T, cu, hT, hcu, hD⟩ := key
      have hT' : (QS.seLoop S.fuel (S.firstMove (pos S.n b u) (S.nx (pos S.n b u))).1 (S.firstMove (pos S.n b u) (S.nx (pos S.n b u))).2.1 (S.firstMove (pos S.n b u) (S.nx (pos S.n b u))).2.2) = some (T, pos S.n b (e - 1), pos S.n b e) := hT
      simp only [hT', Option.bind_some]
      have hF := Fx.mk0 k w d (by omega) hu hcu rfl hD rfl hm
      have wd := d.wf w
      have hQ : QI (delC c u e) S.n b m m m 0 := ⟨Nat.le_refl _, Nat.le_refl _, fun t p h1 h2 => by
        have := wd.le _ _ h2; omega, .inl rfl, fun t p h1 h2 => by omega⟩
      have hmh : ∀ t p, m ≤ t → c t = some p → m ≤ p.1 := fun t p h1 h2 => by
        rcases Nat.lt_or_ge m t with z | z
        · have := w.sorted hm0 h2 z
          unfold Lex at this; omega
        · have : t = m := by omega
          subst this; rw [hm0] at h2; cases h2; omega
      obtain ⟨U, h1, h2, h3⟩ := fxLoop_spec hn wd hen (m := m) (fun t p h1 h2 => by
        obtain ⟨⟨v, hv⟩, _⟩ := (d.mem w p).mp ⟨t, h2⟩
        rcases delC_cases (c := c) d.ue t with ⟨g1, g⟩ | ⟨g1, g3, g⟩ | ⟨g1, g3, g⟩ | ⟨g1, g⟩
        · rw [g] at h2; exact hmh _ _ h1 h2
        · rw [g] at h2; exact hmh _ _ (by omega) h2
        · rw [g] at h2; cases h2
        · rw [g] at h2; exact hmh _ _ h1 h2) (by
        rcases Nat.lt_or_ge m u with z | z
        · exact ⟨p0, by rw [delC_lt z]; exact hm0⟩
        · have : m = u := by omega
          subst this; exact ⟨q1, by rw [hd_u]; exact hq1⟩) (e - m) m S.fuel m 0 none _ (by omega) (by unfold QS.fuel; omega) hF hQ (.inl ⟨rfl, rfl⟩) (fun v h => by cases h)
      refine ⟨U, delC c u e, ?_, ?_, h3.conc k.hb, wd, hmem, hlast'⟩
      · rw [← h1, ql_empty (Nat.le_refl _)]
      · refine Meta.trans hD.m (Meta.trans ?_ h2)
        cases (!same c u && !same c (u + 1)) <;> exact Meta.rfl _
  · have hh' : ∀ u, c u ≠ some (x, r) := fun u h => hh ⟨u, h⟩
    rw [hout hh']
    exact ⟨S, c, rfl, Meta.rfl S, k, w, fun p => ⟨fun h => ⟨h, fun h' => by obtain ⟨t, ht⟩ := h; rw [h'] at ht; exact hh' t ht⟩, fun h => h.1⟩, hlast⟩
end
end Mine
end

section
namespace Mine
theorem nodup_le : ∀ {l m : List Nat}, l.Nodup → (∀ x, x ∈ l → x ∈ m) → l.length ≤ m.length
  | [], _, _, _ => Nat.zero_le _
  | a :: l, m, h, hs => by
    have ha : a ∈ m := hs a (.head _)
    obtain ⟨h1, h2⟩ := List.nodup_cons.mp h
    have := nodup_le h2 (m := m.erase a) fun x hx => (List.mem_erase_of_ne (fun e => by rw [e] at hx; exact h1 hx)).mpr (hs x (.tail _ hx))
    rw [List.length_erase_of_mem ha] at this
    have := List.length_pos_of_mem ha
    simp only [List.length_cons]; omega
/-- what the table holds, told by a list -/
structure Rep (S : QS) (l : List Nat) : Prop where
  ex : ∃ b c, Conc S b c ∧ WF S.n c ∧ ∀ q r, Cells.Has S.n b c q r ↔ ∃ v, v ∈ l ∧ S.quot v = q ∧ S.rmd v = r
  nd : l.Nodup
  lt : ∀ v, v ∈ l → v < 2 ^ 32
  n : S.n = 2 ^ S.q
  q3 : 3 ≤ S.q
  q10 : S.q ≤ 10
theorem Rep.congr {S : QS} {l m : List Nat} (h : Rep S l) (hd : m.Nodup) (hm : ∀ v, v ∈ m ↔ v ∈ l) : Rep S m where
  ex := by
    obtain ⟨b, c, h1, h2, h3⟩ := h.ex
    exact ⟨b, c, h1, h2, fun q r => by rw [h3]; simp only [hm]⟩
  nd := hd
  lt := fun v hv => h.lt v ((hm v).mp hv)
  n := h.n
  q3 := h.q3
  q10 := h.q10
theorem len_congr {l m : List Nat} (hl : l.Nodup) (hd : m.Nodup) (hm : ∀ v, v ∈ m ↔ v ∈ l) : m.length = l.length :=
  Nat.le_antisymm (nodup_le hd fun x h => (hm x).mp h) (nodup_le hl fun x h => (hm x).mpr h)
theorem quot_lt {S : QS} (hn : S.n = 2 ^ S.q) (hq : S.q ≤ 10) {v : Nat} (hv : v < 2 ^ 32) : S.quot v < S.n := by
  unfold QS.quot
  rw [hn]
  refine Nat.div_lt_of_lt_mul ?_
  rw [← Nat.pow_add, show 32 - S.q + S.q = 32 by omega]
  exact hv
theorem code_eq (S : QS) (v : Nat) : S.quot v * 2 ^ (32 - S.q) + S.rmd v = v := by
  unfold QS.quot QS.rmd
  rw [Nat.mul_comm]
  exact Nat.div_add_mod v _
theorem code_quot {S : QS} {v w : Nat} (h1 : S.quot v = S.quot w) (h2 : S.rmd v = S.rmd w) : v = w := by
  rw [← code_eq S v, ← code_eq S w, h1, h2]
theorem rmd_lt (S : QS) (v : Nat) : S.rmd v < 2 ^ (32 - S.q) := Nat.mod_lt _ (Nat.two_pow_pos _)
/-- the same, opened -/
theorem Rep.open {S : QS} {l : List Nat} (h : Rep S l) : ∃ b c, Conc S b c ∧ WF S.n c ∧ (∀ q r, Cells.Has S.n b c q r ↔ ∃ v, v ∈ l ∧ S.quot v = q ∧ S.rmd v = r) ∧
    (∀ t p, c t = some p → p.2 < 2 ^ (32 - S.q)) ∧ (∀ v, v < 2 ^ 32 → ∃ x, x < S.n ∧ pos S.n b x = S.quot v) := by
  obtain ⟨b, c, h1, h2, h3⟩ := h.ex
  refine ⟨b, c, h1, h2, h3, fun t p hp => ?_, fun v hv => pos_surj h1.hb (quot_lt h.n h.q10 hv)⟩
  obtain ⟨v, _, _, h4⟩ := (h3 _ _).mp ⟨t, p, hp, rfl, rfl⟩
  rw [← h4]; exact rmd_lt S v
theorem has_at {S : QS} {b : Nat} {c : Cells} (w : WF S.n c) (hn : 0 < S.n) {x : Nat} (hx : x < S.n) (r : Nat) : Cells.Has S.n b c (pos S.n b x) r ↔ ∃ u, c u = some (x, r) := by
  constructor
  · rintro ⟨t, p, h1, h2, h3⟩
    have h4 := pos_inj hn (by have := w.le _ _ h1; have := w.lt h1; omega) hx h2
    exact ⟨t, by rw [h1, ← h4, ← h3]⟩
  · rintro ⟨u, hu⟩
    exact ⟨u, _, hu, rfl, rfl⟩
theorem Rep.free {S : QS} {l : List Nat} (h : Rep S l) (hl : l.length < S.n) {b : Nat} {c : Cells} (k : Conc S b c) (w : WF S.n c) (hh : ∀ q r, Cells.Has S.n b c q r ↔ ∃ v, v ∈ l ∧ S.quot v = q ∧ S.rmd v = r) :
    ∃ u, u < S.n ∧ c u = none := by
  refine Classical.byContradiction fun hno => ?_
  have hall : ∀ t, t < S.n → ∃ p, c t = some p := fun t ht => by
    cases hc : c t with
    | none => exact absurd ⟨t, ht, hc⟩ hno
    | some p => exact ⟨p, rfl⟩
  let f : Nat → Nat := fun t => match c t with | some p => pos S.n b p.1 * 2 ^ (32 - S.q) + p.2 | none => 0
  have hr : ∀ t p, c t = some p → p.2 < 2 ^ (32 - S.q) := fun t p hp => by
    obtain ⟨v, _, _, h4⟩ := (hh _ _).mp ⟨t, p, hp, rfl, rfl⟩
    rw [← h4]; exact rmd_lt S v
  have hf : ∀ t p, c t = some p → f t = pos S.n b p.1 * 2 ^ (32 - S.q) + p.2 := fun t p hp => by
    show (match c t with | some p => pos S.n b p.1 * 2 ^ (32 - S.q) + p.2 | none => 0) = _
    rw [hp]
  have hnd : ((List.range S.n).map f).Nodup := by
    refine List.Pairwise.map f (R := fun a b => a ∈ List.range S.n ∧ b ∈ List.range S.n ∧ a ≠ b) ?_ ?_
    · rintro t t' ⟨h1, h2, h3⟩ h4
      obtain ⟨p, hp⟩ := hall t (List.mem_range.mp h1)
      obtain ⟨p', hp'⟩ := hall t' (List.mem_range.mp h2)
      rw [hf _ _ hp, hf _ _ hp'] at h4
      obtain ⟨h5, h6⟩ := code_inj (hr _ _ hp) (hr _ _ hp') h4
      have h7 := pos_inj k.pos (by have := w.le _ _ hp; have := w.lt hp; omega) (by have := w.le _ _ hp'; have := w.lt hp'; omega) h5
      have : p = p' := by
        cases p; cases p'
        simp only at h7 h6
        rw [h7, h6]
      subst this
      exact h3 (w.inj hp hp')
    · exact List.Pairwise.imp_of_mem (fun h1 h2 h3 => ⟨h1, h2, h3⟩) List.nodup_range
  have hsub : ∀ x, x ∈ (List.range S.n).map f → x ∈ l := fun x hx => by
    obtain ⟨t, ht, rfl⟩ := List.mem_map.mp hx
    obtain ⟨p, hp⟩ := hall t (List.mem_range.mp ht)
    obtain ⟨v, h1, h2, h3⟩ := (hh _ _).mp ⟨t, p, hp, rfl, rfl⟩
    have := code_eq S v
    rw [h2, h3, ← hf _ _ hp] at this
    rw [this]; exact h1
  have := nodup_le hnd hsub
  rw [List.length_map, List.length_range] at this
  omega
/-- looking up -/
theorem Rep.contained {S : QS} {l : List Nat} (h : Rep S l) {v : Nat} (hv : v < 2 ^ 32) : ∃ res, S.contained (S.quot v) (S.rmd v) = some res ∧ (res.isSome = true ↔ v ∈ l) := by
  obtain ⟨b, c, k, w, hh, hr, hx⟩ := h.open
  obtain ⟨x, hx1, hx2⟩ := hx v hv
  obtain ⟨res, h1, h2, h3⟩ := contained_spec (r := S.rmd v) k w hx1
  rw [hx2] at h1
  refine ⟨res, h1, ?_⟩
  have hiff : (∃ u, c u = some (x, S.rmd v)) ↔ v ∈ l := by
    rw [← has_at w k.pos hx1, hx2, hh]
    constructor
    · rintro ⟨v', g1, g2, g3⟩
      rw [← code_quot g2 g3]; exact g1
    · intro g; exact ⟨v, g, rfl, rfl⟩
  rw [← hiff]
  by_cases g : ∃ u, c u = some (x, S.rmd v)
  · obtain ⟨u, hu⟩ := g
    rw [h2 u hu]
    simp only [Option.isSome_some, true_iff]
    exact ⟨u, hu⟩
  · rw [h3 fun u hu => g ⟨u, hu⟩]
    simp only [Option.isSome_none, Bool.false_eq_true, false_iff]
    exact g
theorem Meta.quot {S T : QS} (m : Meta S T) (v : Nat) : T.quot v = S.quot v ∧ T.rmd v = S.rmd v := by
  unfold QS.quot QS.rmd
  rw [m.1]
  exact ⟨_root_.rfl, _root_.rfl⟩
/-- one more -/
theorem Rep.addAt {S : QS} {l : List Nat} (h : Rep S l) (hl : l.length < S.n) {v : Nat} (hv : v < 2 ^ 32) (hnv : v ∉ l) : ∃ T, S.addAt (S.quot v) (S.rmd v) = some T ∧ Meta S T ∧ Rep T (l ++ [v]) := by
  obtain ⟨b0, c0, k0, w0, hh0, hr0, _⟩ := h.open
  obtain ⟨u, hun, hu⟩ := h.free hl k0 w0 hh0
  have k := k0.rot w0 hun hu
  have w := w0.rot hun hu
  have hlast := rot_last hun hu
  have hh : ∀ q r, Cells.Has S.n (pos S.n b0 (u + 1)) (rot S.n u c0) q r ↔ ∃ v, v ∈ l ∧ S.quot v = q ∧ S.rmd v = r := fun q r => by rw [has_rot w0 hun hu, hh0]
  obtain ⟨x, hx1, hx2⟩ := pos_surj k.hb (quot_lt h.n h.q10 hv)
  have hnot : ∀ t, rot S.n u c0 t ≠ some (x, S.rmd v) := fun t ht => by
    obtain ⟨v', g1, g2, g3⟩ := (hh _ _).mp ((has_at w k.pos hx1 _).mpr ⟨t, ht⟩)
    rw [hx2] at g2
    rw [code_quot g2 g3] at g1
    exact hnv g1
  obtain ⟨T, d, h1, h2, h3, h4, h5⟩ := addAt_spec k w hlast hx1 hnot
  rw [hx2] at h1
  have hTn : T.n = S.n := h2.2.1
  refine ⟨T, h1, h2, ⟨_, d, h3, by rw [hTn]; exact h4, fun q r => ?_⟩, ?_, ?_, by rw [hTn, h2.1]; exact h.n, by rw [h2.1]; exact h.q3, by rw [h2.1]; exact h.q10⟩
  · rw [hTn]
    constructor
    · rintro ⟨t, p, g1, g2, g3⟩
      rcases (h5 p).mp ⟨t, g1⟩ with rfl | ⟨t', g4⟩
      · refine ⟨v, by simp, ?_, ?_⟩
        · rw [(h2.quot v).1, ← g2]; exact hx2.symm
        · rw [(h2.quot v).2]; exact g3
      · obtain ⟨v', g5, g6, g7⟩ := (hh q r).mp ⟨t', p, g4, g2, g3⟩
        exact ⟨v', by simp [g5], by rw [(h2.quot v').1]; exact g6, by rw [(h2.quot v').2]; exact g7⟩
    · rintro ⟨v', g1, g2, g3⟩
      rw [(h2.quot v').1] at g2
      rw [(h2.quot v').2] at g3
      rcases List.mem_append.mp g1 with g | g
      · obtain ⟨t, p, g4, g5, g6⟩ := (hh q r).mpr ⟨v', g, g2, g3⟩
        obtain ⟨t', ht'⟩ := (h5 p).mpr (.inr ⟨t, g4⟩)
        exact ⟨t', p, ht', g5, g6⟩
      · have : v' = v := by simpa using g
        subst this
        obtain ⟨t', ht'⟩ := (h5 _).mpr (.inl rfl)
        exact ⟨t', _, ht', by rw [← g2]; exact hx2, g3⟩
  · rw [List.nodup_append]
    refine ⟨h.nd, by simp, fun a ha b' hb' e => ?_⟩
    have : b' = v := by simpa using hb'
    rw [e, this] at ha
    exact hnv ha
  · intro v' hv'
    rcases List.mem_append.mp hv' with g | g
    · exact h.lt v' g
    · have : v' = v := by simpa using g
      rw [this]; exact hv
/-- one less -/
theorem Rep.removeAlt {S : QS} {l : List Nat} (h : Rep S l) (hl : l.length < S.n) {v : Nat} (hv : v < 2 ^ 32) : ∃ T, S.removeAlt v = some T ∧ Meta S T ∧ Rep T (l.filter (· != v)) := by
  obtain ⟨b0, c0, k0, w0, hh0, hr0, _⟩ := h.open
  obtain ⟨u, hun, hu⟩ := h.free hl k0 w0 hh0
  have k := k0.rot w0 hun hu
  have w := w0.rot hun hu
  have hlast := rot_last hun hu
  have hh : ∀ q r, Cells.Has S.n (pos S.n b0 (u + 1)) (rot S.n u c0) q r ↔ ∃ v, v ∈ l ∧ S.quot v = q ∧ S.rmd v = r := fun q r => by rw [has_rot w0 hun hu, hh0]
  obtain ⟨x, hx1, hx2⟩ := pos_surj k.hb (quot_lt h.n h.q10 hv)
  obtain ⟨T, d, h1, h2, h3, h4, h5, _⟩ := remove_spec (r := S.rmd v) k w hlast hx1
  rw [hx2] at h1
  have hTn : T.n = S.n := h2.2.1
  have hpe : ∀ p : Nat × Nat, (∃ t, rot S.n u c0 t = some p) → (p = (x, S.rmd v) ↔ pos S.n (pos S.n b0 (u + 1)) p.1 = S.quot v ∧ p.2 = S.rmd v) := fun p ⟨t, ht⟩ => by
    constructor
    · rintro rfl
      exact ⟨hx2, rfl⟩
    · rintro ⟨g1, g2⟩
      rw [← hx2] at g1
      have := pos_inj k.pos (by have := w.le _ _ ht; have := w.lt ht; omega) hx1 g1
      cases p
      simp only at this g2
      rw [this, g2]
  refine ⟨T, h1, h2, ⟨_, d, h3, by rw [hTn]; exact h4, fun q r => ?_⟩, h.nd.filter _, fun v' hv' => h.lt v' (List.mem_filter.mp hv').1, by rw [hTn, h2.1]; exact h.n, by rw [h2.1]; exact h.q3, by rw [h2.1]; exact h.q10⟩
  rw [hTn]
  constructor
  · rintro ⟨t, p, g1, g2, g3⟩
    obtain ⟨g4, g5⟩ := (h5 p).mp ⟨t, g1⟩
    obtain ⟨t', g6⟩ := g4
    obtain ⟨v', g7, g8, g9⟩ := (hh q r).mp ⟨t', p, g6, g2, g3⟩
    refine ⟨v', List.mem_filter.mpr ⟨g7, ?_⟩, by rw [(h2.quot v').1]; exact g8, by rw [(h2.quot v').2]; exact g9⟩
    have : v' ≠ v := fun e => g5 ((hpe p ⟨t', g6⟩).mpr ⟨by rw [g2, ← g8, e], by rw [g3, ← g9, e]⟩)
    simpa using this
  · rintro ⟨v', g1, g2, g3⟩
    rw [(h2.quot v').1] at g2
    rw [(h2.quot v').2] at g3
    obtain ⟨g4, g5⟩ := List.mem_filter.mp g1
    obtain ⟨t, p, g6, g7, g8⟩ := (hh q r).mpr ⟨v', g4, g2, g3⟩
    obtain ⟨t', ht'⟩ := (h5 p).mpr ⟨⟨t, g6⟩, fun e => by
      obtain ⟨e1, e2⟩ := (hpe p ⟨t, g6⟩).mp e
      rw [g7, ← g2] at e1
      rw [g8, ← g3] at e2
      have := code_quot e1 e2
      subst this
      simp at g5⟩
    exact ⟨t', p, ht', g7, g8⟩
theorem Rep.hashes {S : QS} {l : List Nat} (h : Rep S l) (hl : l.length < S.n) : ∃ m, S.hashes = some m ∧ m.Nodup ∧ ∀ v, v ∈ m ↔ v ∈ l := by
  obtain ⟨b, c, k, w, hh, hr, _⟩ := h.open
  obtain ⟨u, hun, hu⟩ := h.free hl k w hh
  obtain ⟨m, h1, h2, h3⟩ := hashes_spec k w hr hun hu
  refine ⟨m, h1, h2, fun v => ?_⟩
  rw [h3]
  constructor
  · rintro ⟨q, r, g1, rfl⟩
    obtain ⟨v', g2, g3, g4⟩ := (hh q r).mp g1
    rw [← g3, ← g4, code_eq]; exact g2
  · intro g
    exact ⟨_, _, (hh _ _).mpr ⟨v, g, rfl, rfl⟩, (code_eq S v).symm⟩
theorem Rep.fresh {q : Nat} (auto : Bool) (hf : Nat) (h3 : 3 ≤ q) (h10 : q ≤ 10) : Rep (QS.fresh q auto hf) [] where
  ex := by
    refine ⟨0, fun _ => none, ⟨Nat.two_pow_pos q, fun t p h => (by cases h), fun t _ => rfl, fun t _ => ?_, fun x _ => ?_⟩, ⟨fun _ _ => rfl, fun t p h => (by cases h), fun t p h => by cases h⟩, fun q r => ?_⟩
    · show false = _
      cases t <;> rfl
    · show false = true ↔ _
      simp
    · constructor
      · rintro ⟨t, p, h, _⟩; cases h
      · rintro ⟨v, h, _⟩; cases h
  nd := List.nodup_nil
  lt := fun v h => by cases h
  n := rfl
  q3 := h3
  q10 := h10
end Mine
end

section
namespace Mine
/-- v put at the end, if it is not there yet -/
def ins (l : List Nat) (v : Nat) : List Nat := if v ∈ l then l else l ++ [v]
theorem ins_mem {l : List Nat} {v : Nat} (x : Nat) : x ∈ ins l v ↔ x ∈ l ∨ x = v := by
  unfold ins
  split
  · rename_i h
    constructor
    · exact .inl
    · rintro (h' | rfl)
      · exact h'
      · exact h
  · simp
theorem ins_len {l : List Nat} {v : Nat} : (ins l v).length = l.length + if v ∈ l then 0 else 1 := by
  unfold ins
  split <;> simp
theorem ins_nodup {l : List Nat} {v : Nat} (h : l.Nodup) : (ins l v).Nodup := by
  unfold ins
  split
  · exact h
  · rename_i hv
    rw [List.nodup_append]
    refine ⟨h, by simp, fun a ha b' hb' e => ?_⟩
    have : b' = v := by simpa using hb'
    rw [e, this] at ha
    exact hv ha
/-- what stays: how a filter is set -/
def Same (S T : QS) : Prop := T.auto = S.auto ∧ T.hf = S.hf
theorem Same.trans {S T U : QS} (h : Same S T) (h' : Same T U) : Same S U := ⟨h'.1.trans h.1, h'.2.trans h.2⟩
theorem Rep.addHere {S : QS} {l : List Nat} (h : Rep S l) {v : Nat} (hv : v < 2 ^ 32) (hl : l.length ≤ S.added) (ha : S.added < S.n) :
    ∃ T, S.addHere v = some T ∧ Rep T (ins l v) ∧ Same S T ∧ T.q = S.q ∧ T.n = S.n ∧ T.added = S.added + if v ∈ l then 0 else 1 := by
  obtain ⟨res, h1, h2⟩ := h.contained hv
  unfold QS.addHere
  rw [if_neg (by omega), h1, Option.bind_some]
  by_cases hm : v ∈ l
  · obtain ⟨i, rfl⟩ := Option.isSome_iff_exists.mp (h2.mpr hm)
    exact ⟨S, rfl, by unfold ins; rw [if_pos hm]; exact h, ⟨rfl, rfl⟩, rfl, rfl, by rw [if_pos hm]; rfl⟩
  · have : res = none := by
      cases res with
      | none => rfl
      | some i => exact absurd (h2.mp rfl) hm
    subst this
    obtain ⟨T, h3, h4, h5⟩ := h.addAt (by omega) hv hm
    refine ⟨{ T with added := T.added + 1 }, ?_, ?_, ⟨h4.2.2.2.1, h4.2.2.2.2⟩, h4.1, h4.2.1, by rw [if_neg hm, ← h4.2.2.1]⟩
    · show (QS.add_ S (S.quot v) (S.rmd v)) = _
      unfold QS.add_
      rw [if_neg (by rw [beq_iff_eq]; omega), h3]
      rfl
    · have : ins l v = l ++ [v] := by unfold ins; rw [if_neg hm]
      rw [this]
      exact ⟨by
        obtain ⟨b, c, g1, g2, g3⟩ := h5.ex
        exact ⟨b, c, ⟨g1.hb, g1.fil, g1.shf, g1.con, g1.occ⟩, g2, g3⟩, h5.nd, h5.lt, h5.n, h5.q3, h5.q10⟩
/-- what is there already -/
theorem Rep.addHere_in {S : QS} {l : List Nat} (h : Rep S l) {v : Nat} (hm : v ∈ l) : S.addHere v = some S := by
  have hv := h.lt v hm
  obtain ⟨res, h1, h2⟩ := h.contained hv
  unfold QS.addHere
  rw [if_neg (by omega), h1, Option.bind_some]
  obtain ⟨i, rfl⟩ := Option.isSome_iff_exists.mp (h2.mpr hm)
  rfl
theorem addAlt_flat {S : QS} (h : S.grows = false) (d v : Nat) : QS.addAlt (d + 1) S v = S.addHere v := by
  unfold QS.addAlt
  rw [h]; rfl
/-- a fold that never grows -/
theorem fold_flat : ∀ (m : List Nat) (S : QS) (l : List Nat), Rep S l → l.length ≤ S.added → S.added + m.length ≤ S.n → (S.auto = true → 2 * (S.added + m.length) ≤ S.n) → (∀ v, v ∈ m → v < 2 ^ 32) → m.Nodup → (∀ v, v ∈ m → v ∉ l) → ∀ d,
    ∃ T, QS.foldQ (QS.addAlt (d + 1)) m S = some T ∧ Rep T (l ++ m) ∧ Same S T ∧ T.q = S.q ∧ T.n = S.n ∧ T.added = S.added + m.length
  | [], S, l, h, _, _, _, _, _, _, d => ⟨S, rfl, by rw [List.append_nil]; exact h, ⟨rfl, rfl⟩, rfl, rfl, rfl⟩
  | v :: m, S, l, h, hl, hn, ha, hv, hd, hx, d => by
    simp only [List.length_cons] at hn ha
    have hg : S.grows = false := by
      unfold QS.grows
      cases hau : S.auto with
      | false => rfl
      | true =>
        have := ha hau
        rw [Bool.true_and, decide_eq_false_iff_not]; omega
    obtain ⟨T, h1, h2, h3, h4, h5, h6⟩ := h.addHere (hv v (.head _)) hl (by omega)
    have hvl : v ∉ l := hx v (.head _)
    have hins : ins l v = l ++ [v] := by unfold ins; rw [if_neg hvl]
    rw [hins] at h2
    rw [if_neg hvl] at h6
    obtain ⟨hd1, hd2⟩ := List.nodup_cons.mp hd
    obtain ⟨U, g1, g2, g3, g4, g5, g6⟩ := fold_flat m T (l ++ [v]) h2 (by simp; omega) (by omega) (fun g => by have := ha (h3.1 ▸ g); omega) (fun w hw => hv w (.tail _ hw)) hd2 (fun w hw => by
      intro hc
      rcases List.mem_append.mp hc with g | g
      · exact hx w (.tail _ hw) g
      · have : w = v := by simpa using g
        exact hd1 (this ▸ hw)) d
    refine ⟨U, ?_, by rw [List.append_assoc] at g2; exact g2, h3.trans g3, g4.trans h4, g5.trans h5, by rw [g6, h6, List.length_cons]; omega⟩
    rw [QS.foldQ, addAlt_flat hg, h1]
    exact g1
theorem Rep.resize {S : QS} {l : List Nat} (h : Rep S l) (hl : l.length < S.n) {q : Nat} (hq : S.added < 2 ^ q) (h3 : 3 ≤ q) (h10 : q ≤ 10) (hle : l.length ≤ 2 ^ q) (ha : S.auto = true → 2 * l.length ≤ 2 ^ q) (d : Nat) :
    ∃ T, QS.resize (d + 2) S q = some T ∧ Rep T l ∧ Same S T ∧ T.q = q ∧ T.n = 2 ^ q ∧ T.added = l.length := by
  obtain ⟨m, h1, h2, h4⟩ := h.hashes hl
  have hlen := len_congr h.nd h2 h4
  unfold QS.resize
  have : (decide (2 ^ q ≤ S.added) || decide (q < 3) || decide (10 < q)) = false := by
    simp only [Bool.or_eq_false_iff, decide_eq_false_iff_not]; omega
  rw [if_neg (by rw [this]; decide), h1, Option.bind_some]
  obtain ⟨T, g1, g2, g3, g4, g5, g6⟩ := fold_flat m (QS.fresh q S.auto S.hf) [] (Rep.fresh S.auto S.hf h3 h10) (Nat.le_refl _) (by show 0 + m.length ≤ 2 ^ q; omega) (fun hau => by show 2 * (0 + m.length) ≤ 2 ^ q; have := ha hau; omega) (fun v hv => h.lt v ((h4 v).mp hv)) h2 (fun v _ => by simp) d
  refine ⟨T, g1, ?_, g3, g4, g5, by rw [g6, hlen]; exact Nat.zero_add _⟩
  exact g2.congr h.nd fun v => by rw [List.nil_append, h4]
theorem Rep.addAlt {S : QS} {l : List Nat} (h : Rep S l) {v : Nat} (hv : v < 2 ^ 32) (hl : l.length ≤ S.added) (ha : S.added < S.n) (hq : S.grows = true → S.q < 10) (d : Nat) :
    ∃ T, QS.addAlt (d + 3) S v = some T ∧ Rep T (ins l v) ∧ Same S T ∧ (S.grows = false → T.q = S.q ∧ T.n = S.n ∧ T.added = S.added + if v ∈ l then 0 else 1) ∧
      (S.grows = true → T.q = S.q + 1 ∧ T.n = 2 * S.n ∧ T.added = l.length + if v ∈ l then 0 else 1) := by
  cases hg : S.grows with
  | false =>
    obtain ⟨T, h1, h2, h3, h4, h5, h6⟩ := h.addHere hv hl ha
    exact ⟨T, by rw [addAlt_flat hg]; exact h1, h2, h3, fun _ => ⟨h4, h5, h6⟩, fun h => by cases h⟩
  | true =>
    have hq' := hq hg
    have hn : S.n = 2 ^ S.q := h.n
    have hp : 2 ^ (S.q + 1) = 2 * S.n := by rw [hn, Nat.pow_succ]; omega
    obtain ⟨T, h1, h2, h3, h4, h5, h6⟩ := h.resize (q := S.q + 1) (by omega) (by omega) (by have := h.q3; omega) (by omega) (by omega) (fun _ => by omega) d
    obtain ⟨U, g1, g2, g3, g4, g5, g6⟩ := h2.addHere hv (by omega) (by omega)
    refine ⟨U, ?_, g2, h3.trans g3, (fun h => by cases h), fun _ => ⟨by omega, by omega, by omega⟩⟩
    unfold QS.addAlt
    rw [hg, if_pos rfl, h1]
    exact g1
end Mine
end

section
namespace Mine
/-- what the law's loop keeps; b: at most so many were added -/
structure LInv (gr : Bool) (S : QS) (held : List Nat) (room used b : Nat) : Prop where
  rep : Rep S held
  auto : S.auto = gr
  hf : S.hf = 506
  len : held.length ≤ S.added
  lt : S.added < S.n
  r816 : room = 8 ∨ room = 16
  flat : gr = false → S.n = room ∧ S.added = used
  gro : gr = true → S.added ≤ b ∧ S.n ≤ 128 ∧ (room = 8 → S.n ≤ 64)
section
variable {gr : Bool} {S : QS} {held : List Nat} {room used b : Nat}
theorem LInv.more (h : LInv gr S held room used b) {b' : Nat} (hb : b ≤ b') : LInv gr S held room used b' := { h with gro := fun g => let ⟨x, y, z⟩ := h.gro g; ⟨by omega, y, z⟩ }
theorem LInv.small (h : LInv gr S held room used b) (hb : b ≤ 48) : held.length ≤ 48 := by
  have h1 := h.len
  have h2 := h.lt
  cases gr with
  | true => have := h.gro rfl; omega
  | false => have := h.flat rfl; have := h.r816; omega
theorem LInv.ltn (h : LInv gr S held room used b) : held.length < S.n := Nat.lt_of_le_of_lt h.len h.lt
theorem pow_le128 {q n : Nat} (h : n = 2 ^ q) (hn : n ≤ 128) : q ≤ 7 := by
  rcases Nat.lt_or_ge 7 q with g | g
  · have : 2 ^ 8 ≤ 2 ^ q := Nat.pow_le_pow_right (by decide) g
    have : (2 : Nat) ^ 8 = 256 := by decide
    omega
  · exact g
theorem pow_55 {q n : Nat} (h : n = 2 ^ q) (hn : n ≤ 56) : n ≤ 32 := by
  rcases Nat.lt_or_ge 5 q with g | g
  · have : 2 ^ 6 ≤ 2 ^ q := Nat.pow_le_pow_right (by decide) g
    have : (2 : Nat) ^ 6 = 64 := by decide
    omega
  · have : 2 ^ q ≤ 2 ^ 5 := Nat.pow_le_pow_right (by decide) g
    have : (2 : Nat) ^ 5 = 32 := by decide
    omega
theorem LInv.n8 (h : LInv gr S held room used b) : 8 ≤ S.n := by
  rw [h.rep.n]
  have : 2 ^ 3 ≤ 2 ^ S.q := Nat.pow_le_pow_right (by decide) h.rep.q3
  omega
theorem LInv.add (h : LInv gr S held room used b) {v : Nat} (hv : v < 2 ^ 32) (hb : b + 1 ≤ 48) (hr : gr = true ∨ used + 1 < room ∨ v ∈ held) :
    ∃ T, QS.addAlt 3 S v = some T ∧ LInv gr T (ins held v) room (used + if v ∈ held then 0 else 1) (b + 1) := by
  have hlen := h.len
  have hlt := h.lt
  have h8 := h.n8
  obtain ⟨T, h1, h2, h3, h4, h5⟩ := h.rep.addAlt hv h.len h.lt (fun hg => by
    cases gr with
    | true => have := pow_le128 h.rep.n (h.gro rfl).2.1; omega
    | false => unfold QS.grows at hg; rw [h.auto] at hg; cases hg) 0
  have hil := @ins_len held v
  refine ⟨T, h1, h2, h3.1.trans h.auto, h3.2.trans h.hf, ?_, ?_, h.r816, ?_, ?_⟩
  · cases hg : S.grows with
    | false => obtain ⟨_, _, e⟩ := h4 hg; omega
    | true => obtain ⟨_, _, e⟩ := h5 hg; omega
  · cases hg : S.grows with
    | false =>
      obtain ⟨_, e1, e⟩ := h4 hg
      cases gr with
      | true =>
        unfold QS.grows at hg
        rw [h.auto, Bool.true_and, decide_eq_false_iff_not] at hg
        split at e <;> omega
      | false =>
        have hf := h.flat rfl
        split at e
        · omega
        · rename_i hnm
          rcases hr with g | g | g
          · cases g
          · omega
          · exact absurd g hnm
    | true =>
      obtain ⟨_, e1, e⟩ := h5 hg
      split at e <;> omega
  · intro g
    subst g
    have hg : S.grows = false := by unfold QS.grows; rw [h.auto]; rfl
    obtain ⟨_, e1, e⟩ := h4 hg
    have hf := h.flat rfl
    exact ⟨by omega, by omega⟩
  · intro g
    have hq := h.gro g
    cases hg : S.grows with
    | false =>
      obtain ⟨_, e1, e⟩ := h4 hg
      refine ⟨?_, by omega, fun r => by have := hq.2.2 r; omega⟩
      split at e <;> omega
    | true =>
      obtain ⟨_, e1, e⟩ := h5 hg
      have hn : S.n ≤ 32 := by
        unfold QS.grows at hg
        rw [h.auto, g, Bool.true_and, decide_eq_true_eq] at hg
        exact pow_55 h.rep.n (by omega)
      refine ⟨?_, by omega, fun r => by omega⟩
      split at e <;> omega
theorem LInv.remove (h : LInv gr S held room used b) {v : Nat} (hv : v < 2 ^ 32) :
    ∃ T, S.removeAlt v = some T ∧ LInv gr T (held.filter (· != v)) room used b := by
  obtain ⟨T, h1, m, h3⟩ := h.rep.removeAlt h.ltn hv
  have hl : (held.filter (· != v)).length ≤ held.length := List.length_filter_le _ _
  have hlen := h.len
  have hlt := h.lt
  obtain ⟨m1, m2, m3, m4, m5⟩ := m
  refine ⟨T, h1, h3, m4.trans h.auto, m5.trans h.hf, by omega, by omega, h.r816, fun g => ?_, fun g => ?_⟩
  · have := h.flat g; exact ⟨by omega, by omega⟩
  · have := h.gro g; exact ⟨by omega, by omega, fun r => by have := this.2.2 r; omega⟩
theorem LInv.resize (h : LInv gr S held room used b) (hr : room < 16) :
    ∃ T, QS.resize 2 S (S.q + 1) = some T ∧ LInv gr T held (room * 2) held.length b := by
  have hlen := h.len
  have hlt := h.lt
  have hn := h.rep.n
  have hr8 : room = 8 := by have := h.r816; omega
  have hq7 : S.q ≤ 7 := by
    cases gr with
    | true => exact pow_le128 hn (h.gro rfl).2.1
    | false => exact pow_le128 hn (by have := h.flat rfl; omega)
  have hp : 2 ^ (S.q + 1) = 2 * S.n := by rw [hn, Nat.pow_succ]; omega
  obtain ⟨T, h1, h2, h3, h4, h5, h6⟩ := h.rep.resize h.ltn (q := S.q + 1) (by omega) (by have := h.rep.q3; omega) (by omega) (by omega) (fun _ => by omega) 0
  refine ⟨T, h1, h2, h3.1.trans h.auto, h3.2.trans h.hf, by omega, by omega, by omega, fun g => ?_, fun g => ?_⟩
  · have := h.flat g; exact ⟨by omega, by omega⟩
  · have := h.gro g; exact ⟨by omega, by have := this.2.2 hr8; omega, fun r => by omega⟩
theorem LInv.shrink (h : LInv false S held room used b) (hl : held.length < 8) (hu : used = held.length) :
    ∃ T, QS.resize 2 S 3 = some T ∧ LInv false T held 8 used b := by
  have hlen := h.len
  have hf := h.flat rfl
  obtain ⟨T, h1, h2, h3, h4, h5, h6⟩ := h.rep.resize h.ltn (q := 3) (by omega) (by decide) (by decide) (by omega) (fun g => by rw [h.auto] at g; cases g) 0
  have h5 : T.n = 8 := h5
  exact ⟨T, h1, h2, h3.1.trans h.auto, h3.2.trans h.hf, by omega, by omega, .inl rfl, fun _ => ⟨by omega, by omega⟩, fun g => by cases g⟩
theorem LInv.congr (h : LInv gr S held room used b) {l : List Nat} (hd : l.Nodup) (hm : ∀ v, v ∈ l ↔ v ∈ held) : LInv gr S l room used b :=
  { h with rep := h.rep.congr hd hm, len := by rw [len_congr h.rep.nd hd hm]; exact h.len }
theorem fold_ins_len : ∀ (m held : List Nat), held.length ≤ (m.foldl ins held).length
  | [], held => Nat.le_refl _
  | v :: m, held => Nat.le_trans (by rw [ins_len]; omega) (fold_ins_len m (ins held v))
theorem fold_ins_le : ∀ (m held : List Nat), (m.foldl ins held).length ≤ held.length + m.length
  | [], held => Nat.le_refl _
  | v :: m, held => by
    have h := fold_ins_le m (ins held v)
    rw [ins_len] at h
    rw [List.foldl_cons, List.length_cons]
    split at h <;> omega
theorem fold_ins_mem : ∀ (m held : List Nat) (x : Nat), x ∈ m.foldl ins held ↔ x ∈ held ∨ x ∈ m
  | [], held, x => by simp
  | v :: m, held, x => by
    rw [List.foldl_cons, fold_ins_mem m (ins held v) x, ins_mem, List.mem_cons, or_assoc]
theorem fold_ins_nodup : ∀ (m held : List Nat), held.Nodup → (m.foldl ins held).Nodup
  | [], _, h => h
  | v :: m, held, h => fold_ins_nodup m (ins held v) (ins_nodup h)
theorem LInv.fold : ∀ (m : List Nat) {S : QS} {held : List Nat} {used b : Nat}, LInv gr S held room used b → (∀ v, v ∈ m → v < 2 ^ 32) → b + m.length ≤ 48 → (gr = true ∨ used + m.length < room) →
    ∃ T, QS.foldQ (QS.addAlt 3) m S = some T ∧ LInv gr T (m.foldl ins held) room (used + ((m.foldl ins held).length - held.length)) (b + m.length)
  | [], S, held, used, b, h, _, _, _ => ⟨S, rfl, by simpa using h⟩
  | v :: m, S, held, used, b, h, hv, hb, hr => by
    simp only [List.length_cons] at hb hr
    obtain ⟨T, h1, h2⟩ := h.add (hv v (.head _)) (by omega) (hr.imp id fun g => .inl (by omega))
    obtain ⟨U, g1, g2⟩ := LInv.fold m h2 (fun w hw => hv w (.tail _ hw)) (by omega) (hr.imp id fun g => by split <;> omega)
    refine ⟨U, by rw [QS.foldQ, h1]; exact g1, ?_⟩
    have e1 := fold_ins_len m (ins held v)
    have e2 := @ins_len held v
    have : used + ((List.foldl ins held (v :: m)).length - held.length) = (used + if v ∈ held then 0 else 1) + ((List.foldl ins (ins held v) m).length - (ins held v).length) := by
      rw [List.foldl_cons]; omega
    rw [this, List.foldl_cons, List.length_cons, show b + (m.length + 1) = b + 1 + m.length by omega]
    exact g2
theorem LInv.merge (h : LInv gr S held room used b) {T₂ : QS} {others m : List Nat} (hm : T₂.hashes = some m) (hd : m.Nodup) (hmem : ∀ v, v ∈ m ↔ v ∈ others) (hdo : others.Nodup) (hv : ∀ v, v ∈ others → v < 2 ^ 32) (hb : b + others.length ≤ 48) (hr : gr = true ∨ used + others.length < room) :
    ∃ T, QS.merge 3 S T₂ = some T ∧ LInv gr T (others.foldl ins held) room (used + ((others.foldl ins held).length - held.length)) (b + others.length) := by
  have hlen := len_congr hdo hd hmem
  obtain ⟨T, h1, h2⟩ := h.fold m (fun v hx => hv v ((hmem v).mp hx)) (by omega) (hr.imp id fun g => by omega)
  have nd := h.rep.nd
  have hmm : ∀ v, v ∈ others.foldl ins held ↔ v ∈ m.foldl ins held := fun v => by rw [fold_ins_mem, fold_ins_mem, hmem]
  have e := len_congr (fold_ins_nodup m _ nd) (fold_ins_nodup others _ nd) hmm
  refine ⟨T, by unfold QS.merge; rw [hm]; exact h1, ?_⟩
  rw [e, ← hlen]
  exact h2.congr (fold_ins_nodup others _ nd) hmm
theorem LInv.check (h : LInv gr S held room used b) {v : Nat} (hv : v < 2 ^ 32) : S.checkAlt v = some (decide (v ∈ held)) := by
  obtain ⟨res, h1, h2⟩ := h.rep.contained hv
  unfold QS.checkAlt
  rw [h1, Option.map_some]
  congr 1
  rw [Bool.eq_iff_iff, decide_eq_true_eq]
  exact h2
theorem LInv.hashes (h : LInv gr S held room used b) : ∃ m, S.hashes = some m ∧ m.Perm held := by
  obtain ⟨m, h1, h2, h3⟩ := h.rep.hashes h.ltn
  exact ⟨m, h1, (List.perm_ext_iff_of_nodup h2 h.rep.nd).mpr h3⟩
/-- the start -/
theorem LInv.start : LInv gr (QS.fresh 3 gr 506) [] 8 0 0 where
  rep := Rep.fresh gr 506 (by decide) (by decide)
  auto := rfl
  hf := rfl
  len := Nat.le_refl _
  lt := by show 0 < 2 ^ 3; decide
  r816 := .inl rfl
  flat := fun _ => ⟨rfl, rfl⟩
  gro := fun _ => ⟨Nat.le_refl _, by show 2 ^ 3 ≤ 128; decide, fun _ => by show 2 ^ 3 ≤ 64; decide⟩
/-- second: few, and never grows -/
structure SInv (S : QS) (others : List Nat) (j : Nat) : Prop where
  rep : Rep S others
  hf : S.hf = 506
  n : S.n = 8
  len : others.length ≤ S.added
  le : S.added ≤ j
theorem SInv.start : SInv (QS.fresh 3 true 506) [] 0 := ⟨Rep.fresh true 506 (by decide) (by decide), rfl, rfl, Nat.le_refl _, Nat.le_refl _⟩
theorem SInv.add {others : List Nat} {j : Nat} (h : SInv S others j) (hj : j < 4) {v : Nat} (hv : v < 2 ^ 32) : ∃ T, QS.addAlt 3 S v = some T ∧ SInv T (ins others v) (j + 1) := by
  have hn := h.n
  have hle := h.le
  have hg : S.grows = false := by
    unfold QS.grows
    rw [Bool.and_eq_false_iff, decide_eq_false_iff_not]; right; omega
  have hlen := h.len
  obtain ⟨T, h1, h2, h3, h4, _⟩ := h.rep.addAlt hv h.len (by omega) (fun g => by rw [hg] at g; cases g) 0
  obtain ⟨_, e1, e2⟩ := h4 hg
  refine ⟨T, h1, h2, h3.2.trans h.hf, by omega, by rw [ins_len, e2]; omega, by rw [e2]; split <;> omega⟩
theorem SInv.hashes {others : List Nat} {j : Nat} (h : SInv S others j) (hj : j ≤ 4) : ∃ m, S.hashes = some m ∧ m.Nodup ∧ ∀ v, v ∈ m ↔ v ∈ others := by
  have hn := h.n
  have hle := h.le
  have hlen := h.len
  exact h.rep.hashes (by omega)
/-- small: no growth -/
structure TInv (S : QS) (l : List Nat) : Prop where
  rep : Rep S l
  hf : S.hf = 506
  n : S.n = 8
  auto : S.auto = false
  added : S.added = l.length
theorem TInv.start : TInv (QS.fresh 3 false 506) [] := ⟨Rep.fresh false 506 (by decide) (by decide), rfl, rfl, rfl, rfl⟩
theorem TInv.flat {l : List Nat} (h : TInv S l) : S.grows = false := by unfold QS.grows; rw [h.auto]; rfl
theorem TInv.add {l : List Nat} (h : TInv S l) (hl : l.length < 8) {v : Nat} (hv : v < 2 ^ 32) (hm : v ∉ l) : ∃ T, QS.addAlt 3 S v = some T ∧ TInv T (l ++ [v]) := by
  have hn := h.n
  have ha := h.added
  obtain ⟨T, h1, h2, h3, h4, h5, h6⟩ := h.rep.addHere hv (by omega) (by omega)
  have e : ins l v = l ++ [v] := by unfold ins; rw [if_neg hm]
  rw [e] at h2
  rw [if_neg hm] at h6
  exact ⟨T, by rw [addAlt_flat h.flat]; exact h1, h2, h3.2.trans h.hf, by omega, h3.1.trans h.auto, by rw [List.length_append]; show _ = l.length + 1; omega⟩
theorem TInv.again {l : List Nat} (h : TInv S l) {v : Nat} (hm : v ∈ l) : QS.addAlt 3 S v = some S := by
  rw [addAlt_flat h.flat]; exact h.rep.addHere_in hm
theorem TInv.check {l : List Nat} (h : TInv S l) {v : Nat} (hv : v < 2 ^ 32) : S.checkAlt v = some (decide (v ∈ l)) := by
  obtain ⟨res, h1, h2⟩ := h.rep.contained hv
  unfold QS.checkAlt
  rw [h1, Option.map_some]
  congr 1
  rw [Bool.eq_iff_iff, decide_eq_true_eq]
  exact h2
theorem TInv.no {l : List Nat} (h : TInv S l) {v : Nat} (hv : v < 2 ^ 32) (hm : v ∉ l) : S.contained (S.quot v) (S.rmd v) = some none := by
  obtain ⟨res, h1, h2⟩ := h.rep.contained hv
  rw [h1]
  cases res with
  | none => rfl
  | some i => exact absurd (h2.mp rfl) hm
end
end Mine
end

section
set_option maxRecDepth 100000
open PySem PySem.W PySem.Builtin PySem.Builtin.ObjectAttr PyProof.Rows PySem.Calls
open PyProof.Rows.LCg (NsObj lst)
set_option maxHeartbeats 4000000
namespace Mine
def lawNs : List Str := ["script", "n", "numbers", "letters", "grows", "second", "others", "at", "held", "room", "used", "deed", "more", "other"]
/-- what the law's frame holds -/
structure LAd where
  cO : Addr
  cC : Addr
  cE : Addr
  cS : Addr
  nA : Addr
  hA : Addr
  oA : Addr
  xO : Option Value
  xC : Option Value
  xE : Option Value
  xS : Option Value
  nums : List Nat
  held : List Nat
  others : List Nat
  q : Str
def LAd.keys (a : LAd) : List Addr := [a.cO, a.cC, a.cE, a.cS, 522, a.nA, a.hA, a.oA]
def CellV (c : Addr) (u : Option Value) (l : Ledger) : Prop := ∃ o, (c, o) ∈ l ∧ o.data = .cell u
theorem CellV.mono {c : Addr} {v : Option Value} {l l' : Ledger} (h : CellV c v l) (m : ∀ p ∈ l, p ∈ l') : CellV c v l' := let ⟨o, h1, h2⟩ := h; ⟨o, m _ h1, h2⟩
theorem CellV.at {c : Addr} {v : Option Value} {l : Ledger} (h : CellV c v l) : CellAt c l := let ⟨o, h1, h2⟩ := h; ⟨o, _, h1, h2⟩
/-- what is known of the law's ledger, but for the filters -/
structure Kn (R : Ledger) (a : LAd) : Prop where
  nd : a.keys.Nodup
  one : CellV a.cO a.xO R
  code : CellV a.cC a.xC R
  eight : CellV a.cE a.xE R
  small : CellV a.cS a.xS R
  tab : Tab 522 a.q R
  num : ∃ its ep, (a.nA, listOf its.toArray ep) ∈ R ∧ NA its a.nums
  held : ∃ its ep, (a.hA, listOf its.toArray ep) ∈ R ∧ NA its a.held
  oth : ∃ its ep, (a.oA, listOf its.toArray ep) ∈ R ∧ NA its a.others
/-- the law's own frame -/
structure LEnv (f : Fm) (fa cdA : Addr) (a : LAd) : Prop where
  env : f.env = envX "law" lawScope f.L fa (.ref cdA) [("small", a.cS), ("one", a.cO), ("eight", a.cE), ("code", a.cC)]
  ns : f.ns = lawNs
  cd : CodeHd f.h₀ cdA 522
  outer : f.outer = []
  q : a.q = f.env.qual ++ "<lambda>"
theorem CellV.put {c D : Addr} {v : Option Value} {o : Obj} {l : Ledger} (h : CellV c v l) (n : c ≠ D) : CellV c v (Mine.put D o l) := let ⟨a, b, d⟩ := h; ⟨a, mem_put_ne b n, d⟩
theorem CellIs.put {c D : Addr} {v : Value} {o : Obj} {l : Ledger} (h : CellIs c v l) (n : c ≠ D) : CellIs c v (Mine.put D o l) := let ⟨a, b, d⟩ := h; ⟨a, mem_put_ne b n, d⟩
theorem CellAt.put {c D : Addr} {o : Obj} {l : Ledger} (h : CellAt c l) (n : c ≠ D) : CellAt c (Mine.put D o l) := let ⟨a, u, b, d⟩ := h; ⟨a, u, mem_put_ne b n, d⟩
theorem CellAt.mono {c : Addr} {l l' : Ledger} (h : CellAt c l) (m : ∀ p ∈ l, p ∈ l') : CellAt c l' := let ⟨o, u, h1, h2⟩ := h; ⟨o, u, m _ h1, h2⟩
theorem Tab.put {P D : Addr} {q : Str} {o o0 : Obj} {l : Ledger} (h : Tab P q l) (n : P ≠ D) (nd : (l.map (·.1)).Nodup) (hD : (D, o0) ∈ l) (hno : ∀ ws, o0.data ≠ .fields ws) : Tab P q (Mine.put D o l) := by
  obtain ⟨T, h1, h2⟩ := h
  refine ⟨T, mem_put_ne h1 n, fun x hx => ?_⟩
  obtain ⟨oc, ws, t, h3, h4, h5⟩ := h2 x hx
  refine ⟨oc, ws, t, mem_put_ne h3 fun e => ?_, h4, h5⟩
  rw [e] at h3
  have := nodup_same nd h3 hD
  subst this
  exact hno _ h4
section
variable {R R' : Ledger} {a : LAd} {its : List Value} {ep : Nat} {o : Obj}
theorem Kn.mono (h : Kn R a) (m : ∀ p ∈ R, p ∈ R') : Kn R' a :=
  ⟨h.nd, h.one.mono m, h.code.mono m, h.eight.mono m, h.small.mono m, h.tab.mono m, let ⟨a, b, c, d⟩ := h.num; ⟨a, b, m _ c, d⟩, let ⟨a, b, c, d⟩ := h.held; ⟨a, b, m _ c, d⟩, let ⟨a, b, c, d⟩ := h.oth; ⟨a, b, m _ c, d⟩⟩
theorem Kn.ne (h : Kn R a) {i j : Nat} {b c : Addr} (hi : a.keys[i]? = some b) (hj : a.keys[j]? = some c) (hne : i ≠ j) : b ≠ c := nodup_ne h.nd hi hj hne
theorem Kn.putO (h : Kn R a) (nd : (R.map (·.1)).Nodup) {v : Option Value} (hd : o.data = .cell v) : Kn (Mine.put a.cO o R) { a with xO := v } := by
  obtain ⟨o0, hm, hd0⟩ := h.one
  have hno : ∀ ws, o0.data ≠ .fields ws := by rw [hd0]; intro ws; exact fun e => by cases e
  exact ⟨h.nd, ⟨o, mem_put_self hm, hd⟩, h.code.put (h.ne (i := 1) (j := 0) rfl rfl (by decide)), h.eight.put (h.ne (i := 2) (j := 0) rfl rfl (by decide)), h.small.put (h.ne (i := 3) (j := 0) rfl rfl (by decide)), h.tab.put (h.ne (i := 4) (j := 0) rfl rfl (by decide)) nd hm hno, (let ⟨a, b, c, d⟩ := h.num; ⟨a, b, mem_put_ne c (h.ne (i := 5) (j := 0) rfl rfl (by decide)), d⟩), (let ⟨a, b, c, d⟩ := h.held; ⟨a, b, mem_put_ne c (h.ne (i := 6) (j := 0) rfl rfl (by decide)), d⟩), (let ⟨a, b, c, d⟩ := h.oth; ⟨a, b, mem_put_ne c (h.ne (i := 7) (j := 0) rfl rfl (by decide)), d⟩)⟩
theorem Kn.putC (h : Kn R a) (nd : (R.map (·.1)).Nodup) {v : Option Value} (hd : o.data = .cell v) : Kn (Mine.put a.cC o R) { a with xC := v } := by
  obtain ⟨o0, hm, hd0⟩ := h.code
  have hno : ∀ ws, o0.data ≠ .fields ws := by rw [hd0]; intro ws; exact fun e => by cases e
  exact ⟨h.nd, h.one.put (h.ne (i := 0) (j := 1) rfl rfl (by decide)), ⟨o, mem_put_self hm, hd⟩, h.eight.put (h.ne (i := 2) (j := 1) rfl rfl (by decide)), h.small.put (h.ne (i := 3) (j := 1) rfl rfl (by decide)), h.tab.put (h.ne (i := 4) (j := 1) rfl rfl (by decide)) nd hm hno, (let ⟨a, b, c, d⟩ := h.num; ⟨a, b, mem_put_ne c (h.ne (i := 5) (j := 1) rfl rfl (by decide)), d⟩), (let ⟨a, b, c, d⟩ := h.held; ⟨a, b, mem_put_ne c (h.ne (i := 6) (j := 1) rfl rfl (by decide)), d⟩), (let ⟨a, b, c, d⟩ := h.oth; ⟨a, b, mem_put_ne c (h.ne (i := 7) (j := 1) rfl rfl (by decide)), d⟩)⟩
theorem Kn.putE (h : Kn R a) (nd : (R.map (·.1)).Nodup) {v : Option Value} (hd : o.data = .cell v) : Kn (Mine.put a.cE o R) { a with xE := v } := by
  obtain ⟨o0, hm, hd0⟩ := h.eight
  have hno : ∀ ws, o0.data ≠ .fields ws := by rw [hd0]; intro ws; exact fun e => by cases e
  exact ⟨h.nd, h.one.put (h.ne (i := 0) (j := 2) rfl rfl (by decide)), h.code.put (h.ne (i := 1) (j := 2) rfl rfl (by decide)), ⟨o, mem_put_self hm, hd⟩, h.small.put (h.ne (i := 3) (j := 2) rfl rfl (by decide)), h.tab.put (h.ne (i := 4) (j := 2) rfl rfl (by decide)) nd hm hno, (let ⟨a, b, c, d⟩ := h.num; ⟨a, b, mem_put_ne c (h.ne (i := 5) (j := 2) rfl rfl (by decide)), d⟩), (let ⟨a, b, c, d⟩ := h.held; ⟨a, b, mem_put_ne c (h.ne (i := 6) (j := 2) rfl rfl (by decide)), d⟩), (let ⟨a, b, c, d⟩ := h.oth; ⟨a, b, mem_put_ne c (h.ne (i := 7) (j := 2) rfl rfl (by decide)), d⟩)⟩
theorem Kn.putS (h : Kn R a) (nd : (R.map (·.1)).Nodup) {v : Option Value} (hd : o.data = .cell v) : Kn (Mine.put a.cS o R) { a with xS := v } := by
  obtain ⟨o0, hm, hd0⟩ := h.small
  have hno : ∀ ws, o0.data ≠ .fields ws := by rw [hd0]; intro ws; exact fun e => by cases e
  exact ⟨h.nd, h.one.put (h.ne (i := 0) (j := 3) rfl rfl (by decide)), h.code.put (h.ne (i := 1) (j := 3) rfl rfl (by decide)), h.eight.put (h.ne (i := 2) (j := 3) rfl rfl (by decide)), ⟨o, mem_put_self hm, hd⟩, h.tab.put (h.ne (i := 4) (j := 3) rfl rfl (by decide)) nd hm hno, (let ⟨a, b, c, d⟩ := h.num; ⟨a, b, mem_put_ne c (h.ne (i := 5) (j := 3) rfl rfl (by decide)), d⟩), (let ⟨a, b, c, d⟩ := h.held; ⟨a, b, mem_put_ne c (h.ne (i := 6) (j := 3) rfl rfl (by decide)), d⟩), (let ⟨a, b, c, d⟩ := h.oth; ⟨a, b, mem_put_ne c (h.ne (i := 7) (j := 3) rfl rfl (by decide)), d⟩)⟩
theorem Kn.putHeld (h : Kn R a) (nd : (R.map (·.1)).Nodup) {l : List Nat} (hna : NA its l) : Kn (Mine.put a.hA (listOf its.toArray ep) R) { a with held := l } := by
  obtain ⟨i0, e0, hm, _⟩ := h.held
  have hno : ∀ ws, (listOf i0.toArray e0).data ≠ .fields ws := by intro ws; exact fun e => by cases e
  exact ⟨h.nd, h.one.put (h.ne (i := 0) (j := 6) rfl rfl (by decide)), h.code.put (h.ne (i := 1) (j := 6) rfl rfl (by decide)), h.eight.put (h.ne (i := 2) (j := 6) rfl rfl (by decide)), h.small.put (h.ne (i := 3) (j := 6) rfl rfl (by decide)), h.tab.put (h.ne (i := 4) (j := 6) rfl rfl (by decide)) nd hm hno, (let ⟨a, b, c, d⟩ := h.num; ⟨a, b, mem_put_ne c (h.ne (i := 5) (j := 6) rfl rfl (by decide)), d⟩), ⟨_, _, mem_put_self hm, hna⟩, (let ⟨a, b, c, d⟩ := h.oth; ⟨a, b, mem_put_ne c (h.ne (i := 7) (j := 6) rfl rfl (by decide)), d⟩)⟩
theorem Kn.putOth (h : Kn R a) (nd : (R.map (·.1)).Nodup) {l : List Nat} (hna : NA its l) : Kn (Mine.put a.oA (listOf its.toArray ep) R) { a with others := l } := by
  obtain ⟨i0, e0, hm, _⟩ := h.oth
  have hno : ∀ ws, (listOf i0.toArray e0).data ≠ .fields ws := by intro ws; exact fun e => by cases e
  exact ⟨h.nd, h.one.put (h.ne (i := 0) (j := 7) rfl rfl (by decide)), h.code.put (h.ne (i := 1) (j := 7) rfl rfl (by decide)), h.eight.put (h.ne (i := 2) (j := 7) rfl rfl (by decide)), h.small.put (h.ne (i := 3) (j := 7) rfl rfl (by decide)), h.tab.put (h.ne (i := 4) (j := 7) rfl rfl (by decide)) nd hm hno, (let ⟨a, b, c, d⟩ := h.num; ⟨a, b, mem_put_ne c (h.ne (i := 5) (j := 7) rfl rfl (by decide)), d⟩), (let ⟨a, b, c, d⟩ := h.held; ⟨a, b, mem_put_ne c (h.ne (i := 6) (j := 7) rfl rfl (by decide)), d⟩), ⟨_, _, mem_put_self hm, hna⟩⟩
theorem Kn.putTab (h : Kn R a) {m : Ledger} (ht : Tab 522 a.q (m ++ Mine.put 522 o R)) : Kn (m ++ Mine.put 522 o R) a :=
  ⟨h.nd, (h.one.put (h.ne (i := 0) (j := 4) rfl rfl (by decide))).mono fun _ => List.mem_append_right _, (h.code.put (h.ne (i := 1) (j := 4) rfl rfl (by decide))).mono fun _ => List.mem_append_right _, (h.eight.put (h.ne (i := 2) (j := 4) rfl rfl (by decide))).mono fun _ => List.mem_append_right _,
    (h.small.put (h.ne (i := 3) (j := 4) rfl rfl (by decide))).mono fun _ => List.mem_append_right _, ht, (let ⟨a, b, c, d⟩ := h.num; ⟨a, b, List.mem_append_right _ (mem_put_ne c (h.ne (i := 5) (j := 4) rfl rfl (by decide))), d⟩),
    (let ⟨a, b, c, d⟩ := h.held; ⟨a, b, List.mem_append_right _ (mem_put_ne c (h.ne (i := 6) (j := 4) rfl rfl (by decide))), d⟩), (let ⟨a, b, c, d⟩ := h.oth; ⟨a, b, List.mem_append_right _ (mem_put_ne c (h.ne (i := 7) (j := 4) rfl rfl (by decide))), d⟩)⟩
theorem Kn.newHeld (h : Kn R a) {D : Addr} {m : Ledger} (nd : (((D, listOf its.toArray ep) :: (m ++ R)).map (·.1)).Nodup) {l : List Nat} (hna : NA its l) : Kn ((D, listOf its.toArray ep) :: (m ++ R)) { a with hA := D, held := l } := by
  have hD : ∀ a o, (a, o) ∈ R → D ≠ a := by
    rintro a o ha rfl
    rw [List.map_cons, List.nodup_cons] at nd
    exact nd.1 (List.mem_map.mpr ⟨_, List.mem_append_right _ ha, rfl⟩)
  have k := h.mono (R' := (D, listOf its.toArray ep) :: (m ++ R)) fun p hp => .tail _ (List.mem_append_right _ hp)
  refine ⟨?_, k.one, k.code, k.eight, k.small, k.tab, k.num, ⟨its, ep, .head _, hna⟩, k.oth⟩
  have h0 := h.nd
  simp only [LAd.keys, List.nodup_cons, List.mem_cons, List.mem_nil_iff, or_false, not_or, List.nodup_nil, and_true, not_false_eq_true] at h0 ⊢
  obtain ⟨⟨a1, a2, a3, a4, a5, a6, a7⟩, ⟨b2, b3, b4, b5, b6, b7⟩, ⟨d3, d4, d5, d6, d7⟩, ⟨e4, e5, e6, e7⟩, ⟨f5, f6, f7⟩, ⟨g6, g7⟩, i7⟩ := h0
  obtain ⟨o1, m1, _⟩ := h.one
  obtain ⟨o2, m2, _⟩ := h.code
  obtain ⟨o3, m3, _⟩ := h.eight
  obtain ⟨o4, m4, _⟩ := h.small
  obtain ⟨T, m5, _⟩ := h.tab
  obtain ⟨_, _, m6, _⟩ := h.num
  obtain ⟨_, _, m7, _⟩ := h.held
  obtain ⟨_, _, m8, _⟩ := h.oth
  exact ⟨⟨a1, a2, a3, a4, a5, (hD _ _ m1).symm, a7⟩, ⟨b2, b3, b4, b5, (hD _ _ m2).symm, b7⟩, ⟨d3, d4, d5, (hD _ _ m3).symm, d7⟩, ⟨e4, e5, (hD _ _ m4).symm, e7⟩, ⟨f5, (hD _ _ m5).symm, f7⟩, ⟨(hD _ _ m6).symm, g7⟩, hD _ _ m8⟩
theorem Kn.newOth (h : Kn R a) {D : Addr} {m : Ledger} (nd : (((D, listOf its.toArray ep) :: (m ++ R)).map (·.1)).Nodup) {l : List Nat} (hna : NA its l) : Kn ((D, listOf its.toArray ep) :: (m ++ R)) { a with oA := D, others := l } := by
  have hD : ∀ a o, (a, o) ∈ R → D ≠ a := by
    rintro a o ha rfl
    rw [List.map_cons, List.nodup_cons] at nd
    exact nd.1 (List.mem_map.mpr ⟨_, List.mem_append_right _ ha, rfl⟩)
  have k := h.mono (R' := (D, listOf its.toArray ep) :: (m ++ R)) fun p hp => .tail _ (List.mem_append_right _ hp)
  refine ⟨?_, k.one, k.code, k.eight, k.small, k.tab, k.num, k.held, ⟨its, ep, .head _, hna⟩⟩
  have h0 := h.nd
  simp only [LAd.keys, List.nodup_cons, List.mem_cons, List.mem_nil_iff, or_false, not_or, List.nodup_nil, and_true, not_false_eq_true] at h0 ⊢
  obtain ⟨⟨a1, a2, a3, a4, a5, a6, a7⟩, ⟨b2, b3, b4, b5, b6, b7⟩, ⟨d3, d4, d5, d6, d7⟩, ⟨e4, e5, e6, e7⟩, ⟨f5, f6, f7⟩, ⟨g6, g7⟩, i7⟩ := h0
  obtain ⟨o1, m1, _⟩ := h.one
  obtain ⟨o2, m2, _⟩ := h.code
  obtain ⟨o3, m3, _⟩ := h.eight
  obtain ⟨o4, m4, _⟩ := h.small
  obtain ⟨T, m5, _⟩ := h.tab
  obtain ⟨_, _, m6, _⟩ := h.num
  obtain ⟨_, _, m7, _⟩ := h.held
  obtain ⟨_, _, m8, _⟩ := h.oth
  exact ⟨⟨a1, a2, a3, a4, a5, a6, (hD _ _ m1).symm⟩, ⟨b2, b3, b4, b5, b6, (hD _ _ m2).symm⟩, ⟨d3, d4, d5, d6, (hD _ _ m3).symm⟩, ⟨e4, e5, e6, (hD _ _ m4).symm⟩, ⟨f5, f6, (hD _ _ m5).symm⟩, ⟨g6, (hD _ _ m6).symm⟩, (hD _ _ m7).symm⟩
end
section
variable {g : Gl} {f : Fm} {A : Around} {vs : List (Option Value)} {news l X R m : Ledger} {r : Rs} {s : Shared} {fa cdA P : Addr} {a : LAd}
theorem LEnv.glob (h : LEnv f fa cdA a) {x : Str} (e : lawScope.names.lookup x = some .globalImplicit) : f.env.kindOf x = some .globalImplicit := by rw [h.env]; exact e
theorem LEnv.cell (h : LEnv f fa cdA a) {x : Str} (e : lawScope.names.lookup x = some .cell) : f.env.kindOf x = some .cell := by rw [h.env]; exact e
theorem LEnv.at (h : LEnv f fa cdA a) {i : Nat} {x : Str} (e : lawNs[i]? = some x) : f.ns[i]? = some x := by rw [h.ns]; exact e
theorem LEnv.lkO (h : LEnv f fa cdA a) : f.env.cells.lookup ("one" : Str) = some a.cO := by rw [h.env]; rfl
theorem LEnv.lkC (h : LEnv f fa cdA a) : f.env.cells.lookup ("code" : Str) = some a.cC := by rw [h.env]; rfl
theorem LEnv.lkE (h : LEnv f fa cdA a) : f.env.cells.lookup ("eight" : Str) = some a.cE := by rw [h.env]; rfl
theorem LEnv.lkS (h : LEnv f fa cdA a) : f.env.cells.lookup ("small" : Str) = some a.cS := by rw [h.env]; rfl
theorem St.junk (hs : St f vs (m ++ (l ++ (X ++ R))) r s) : St f vs (l ++ (X ++ (m ++ R))) r s := by
  refine hs.perm ?_
  rw [← List.append_assoc, ← List.append_assoc, ← List.append_assoc, ← List.append_assoc]
  refine List.Perm.append_right R ?_
  rw [List.append_assoc]
  exact List.perm_append_comm
theorem St.junk1 {p : Addr × Obj} (hs : St f vs (p :: (l ++ (X ++ R))) r s) : St f vs (l ++ (X ++ (p :: R))) r s := St.junk (m := [p]) hs
theorem St.ndR (hs : St f vs (l ++ (X ++ R)) r s) : (R.map (·.1)).Nodup := by
  have := hs.nd
  rw [List.map_append, List.map_append, List.nodup_append, List.nodup_append] at this
  exact this.2.1.2.1
theorem put_R {D : Addr} {o o0 : Obj} (nd : ((l ++ (X ++ R)).map (·.1)).Nodup) (h : (D, o0) ∈ R) : Mine.put D o (l ++ (X ++ R)) = l ++ (X ++ Mine.put D o R) := by
  have hR : D ∈ R.map (·.1) := List.mem_map.mpr ⟨_, h, rfl⟩
  rw [List.map_append, List.map_append, List.nodup_append, List.nodup_append] at nd
  rw [put_append, put_append, put_off (l := l), put_off (l := X)]
  · exact fun q => nd.2.1.2.2 D q D hR rfl
  · exact fun q => nd.2.2 D q D (List.mem_append_right _ hR) rfl
theorem mem_R {p : Addr × Obj} (h : p ∈ R) : p ∈ l ++ (X ++ R) := List.mem_append_right _ (List.mem_append_right _ h)
theorem mem_X {p : Addr × Obj} (h : p ∈ X) : p ∈ l ++ (X ++ R) := List.mem_append_right _ (List.mem_append_left _ h)
/-- a lambda made; R holds the table -/
theorem EX.lamR {q : Str} {params : Arguments} {body : Expr} {scope : Scope} {clos : List (Str × Addr)} {pos : Pos} {cn : Str} {cs : Scope} {a : Addr} {cl : List (Str × Addr)} (cx : Cx g f) (henv : f.env = envX cn cs f.L a (.ref cdA) cl) (C : CodeHd f.h₀ cdA P) (ht : Tab P q R)
    (hq : q = f.env.qual ++ "<lambda>") (hcl : closureFor scope f.env = pure clos) (hdef : defaultsOf params f.env = ([], []) := by rfl) :
    EX g f A vs (l ++ (X ++ R)) r (.Lambda params body scope pos) (fun v n' r' => r = r' ∧ ∃ fL m o, v = .ref fL ∧ n' = m ++ (l ++ (X ++ Mine.put P o R)) ∧ Tab P q (m ++ Mine.put P o R) ∧ LamAt fL q params body scope clos (m ++ Mine.put P o R)) := by
  intro Q E s hs k
  obtain ⟨T, hm, hT⟩ := ht
  refine kla_eval hdef ?_
  rw [← hq]
  have hcl' : closureFor scope (envX cn cs f.L a (.ref cdA) cl) = pure clos := by rw [← henv]; exact hcl
  rw [henv]
  have hmN : (P, tabObj (tabV T).toArray) ∈ l ++ (X ++ R) := mem_R hm
  rcases tabV_among pos T with hno | ⟨y, hy, hyes⟩
  · refine kla_nest hs.F hs.N cx.T C rfl (g := fun o => Mine.put P o (l ++ (X ++ R))) (updF_put hs.nd hmN) (tabV_ok T) hno hcl' ?_
    intro fL c' oc ws t ctv h' tk F' N' hd hw hlt hcf
    have hst : St f vs ((fL, kla_obj "<lambda>" q params body scope clos ((g.mg "__name__").getD .none) c' ctv) :: (c', oc) :: Mine.put P (tabObj ((tabV T).toArray ++ #[rawInt pos.line, rawInt pos.col, .ref c'])) (l ++ (X ++ R))) r { s with heap := h', toks := tk } := by
      refine ⟨F', N', ?_, hs.gens, hs.drawn, hs.os⟩
      rw [List.map_cons, List.map_cons, put_keys, List.nodup_cons, List.nodup_cons]
      have h1 : ∀ b, c' ≤ b → b ∉ (l ++ (X ++ R)).map (·.1) := fun b hb hm => by
        obtain ⟨p, hp, e⟩ := List.mem_map.mp hm
        exact absurd (Nat.lt_of_lt_of_le (hlt p hp) hb) (by rw [e]; exact Nat.lt_irrefl _)
      refine ⟨fun hm => ?_, h1 c' (Nat.le_refl _), hs.nd⟩
      rcases List.mem_cons.mp hm with e | hm
      · exact Nat.ne_of_gt hcf e
      · exact h1 fL (Nat.le_of_lt hcf) hm
    rw [put_R hs.nd hm] at hst
    refine k _ _ _ _ ⟨rfl, fL, [(fL, kla_obj "<lambda>" q params body scope clos ((g.mg "__name__").getD .none) c' ctv), (c', oc)], _, rfl, rfl, ⟨T ++ [(pos.line, pos.col, c')], ?_, ?_⟩, ⟨_, c', ctv, oc, ws, t, .head _, .tail _ (.head _), hd, hw⟩⟩ hst
    · have : (tabV (T ++ [(pos.line, pos.col, c')])).toArray = (tabV T).toArray ++ #[rawInt pos.line, rawInt pos.col, .ref c'] := by
        rw [tabV_append]; simp [tabV]
      rw [this]
      exact .tail _ (.tail _ (mem_put_self hm))
    · intro x hx
      rcases List.mem_append.mp hx with hx | hx
      · obtain ⟨oc', ws', t', h1, h2⟩ := hT x hx
        refine ⟨oc', ws', t', .tail _ (.tail _ (mem_put_ne h1 fun e => ?_)), h2⟩
        exact tab_apart hs.nd hmN hx (mem_R h1) h2.1 h2.2 e
      · have : x = (pos.line, pos.col, c') := by simpa using hx
        subst this
        exact ⟨oc, ws, t, .tail _ (.head _), hd, hw⟩
  · refine kla_hit hs.F hs.N cx.T C rfl hmN (tabV_ok T) hyes hcl' ?_
    intro fL ctv h' tk F' N' hlt
    obtain ⟨oc, ws, t, h1, h2, h3⟩ := hT y hy
    have hst : St f vs ((fL, kla_obj "<lambda>" q params body scope clos ((g.mg "__name__").getD .none) y.2.2 ctv) :: (l ++ (X ++ R))) r { s with heap := h', toks := tk } := by
      refine ⟨F', N', List.nodup_cons.mpr ⟨fun hm => ?_, hs.nd⟩, hs.gens, hs.drawn, hs.os⟩
      obtain ⟨p, hp, e⟩ := List.mem_map.mp hm
      exact absurd (hlt p hp) (by rw [e]; exact Nat.lt_irrefl _)
    have e := put_same (St.ndR hs) hm
    refine k _ _ _ _ ⟨rfl, fL, [(fL, kla_obj "<lambda>" q params body scope clos ((g.mg "__name__").getD .none) y.2.2 ctv)], tabObj (tabV T).toArray, rfl, by rw [e]; rfl, ?_, ?_⟩ hst
    · rw [e]
      refine ⟨T, .tail _ hm, fun x hx => ?_⟩
      obtain ⟨oc', ws', t', z1, z2⟩ := hT x hx
      exact ⟨oc', ws', t', .tail _ z1, z2⟩
    · rw [e]
      exact ⟨_, _, ctv, oc, ws, t, .head _, .tail _ h1, h2, h3⟩
end
end Mine
end

section
set_option maxRecDepth 100000
open PySem PySem.W PySem.Builtin PySem.Builtin.ObjectAttr PyProof.Rows PySem.Calls
open PyProof.Rows.LCg (NsObj lst)
set_option maxHeartbeats 8000000
namespace Mine
theorem dummyFill31 : (hd.heap_39 = hd.heap_39) ∧ (PySem.Challenge.rw_sv0018_01 = PySem.Challenge.rw_sv0018_01) := by
  k_fill
  exact ⟨rfl, rfl⟩
theorem lawCode_lt {a : Nat} (h : a < 24) : lawCode a < 2 ^ 32 := by unfold lawCode; omega
theorem lawCode_inj : ∀ a, a < 24 → ∀ b, b < 24 → lawCode a = lawCode b → a = b := by decide +kernel
theorem intBits_small {n : Nat} (h : n < 2 ^ 40) : Builtin.Int.intBits (n : Int) ≤ 64 := by
  unfold Builtin.Int.intBits
  split
  · omega
  · rename_i hne
    have hne : n ≠ 0 := by rintro rfl; exact hne rfl
    rw [Int.natAbs_natCast]
    have := (Nat.log2_lt hne).mpr h
    omega
theorem NA.at : ∀ {its : List Value} {hs : List Nat} {j h : Nat}, NA its hs → hs[j]? = some h → ∃ v, its[j]? = some v ∧ isI h v
  | v :: vs, n :: ns, 0, u, h, e => by simp at e; subst e; exact ⟨v, rfl, h.1⟩
  | v :: vs, n :: ns, j + 1, u, h, e => by
    simp only [List.getElem?_cons_succ] at e ⊢
    exact NA.at h.2 e
  | [], [], j, _, _, e => by simp at e
  | [], _ :: _, _, _, h, _ => h.elim
  | _ :: _, [], _, _, h, _ => h.elim
theorem NA.of : ∀ {its : List Value} {hs : List Nat}, IntsAre its (hs.map Int.ofNat) → NA its hs
  | _, [], h => by cases h; trivial
  | _, n :: hs, h => by
    cases h with
    | cons _ t r => exact ⟨⟨t, rfl⟩, NA.of r⟩
theorem NA.app : ∀ {a b : List Value} {k l : List Nat}, NA a k → NA b l → NA (a ++ b) (k ++ l)
  | [], _, [], _, _, h => h
  | _ :: _, _, _ :: _, _, h, h' => ⟨h.1, NA.app h.2 h'⟩
  | [], _, _ :: _, _, h, _ => h.elim
  | _ :: _, _, [], _, h, _ => h.elim
/-- the numbers read from the script -/
def numOf (l : List Int) : List Nat := l.map fun m => (m.fmod 1000003).toNat
theorem F2.num {F : Value → Value → Prop} (hF : ∀ m v y, isI m v → F v y → isI (m.fmod 1000003) y) : ∀ {its ys : List Value} {l : List Int}, IntsAre its l → F2 F its ys → NA ys (numOf l)
  | _, [], [], .nil, _ => trivial
  | _, y :: ys, m :: l, .cons _ t r, h => by
    have := hF m _ y ⟨t, rfl⟩ h.1
    have h0 : 0 ≤ m.fmod 1000003 := Int.fmod_nonneg_of_pos _ (by decide)
    refine ⟨?_, F2.num hF r h.2⟩
    rw [Int.toNat_of_nonneg h0]; exact this
  | _, _ :: _, [], .nil, h => h.elim
  | _, [], _ :: _, .cons _ _ _, h => h.elim
theorem numOf_lt {l : List Int} {x : Nat} (h : x ∈ numOf l) : x < 1000003 := by
  obtain ⟨m, _, rfl⟩ := List.mem_map.mp h
  have h0 : 0 ≤ m.fmod 1000003 := Int.fmod_nonneg_of_pos _ (by decide)
  have h1 : m.fmod 1000003 < 1000003 := Int.fmod_lt_of_pos _ (by decide)
  omega
section
variable {g : Gl} {f : Fm} {A : Around} {vs : List (Option Value)} {news l X R T m : Ledger} {r : Rs} {s : Shared} {fa cdA P : Addr} {a : LAd} {e iter elt : Expr} {pos p1 p2 : Pos} {k : Nat}
theorem EX.post {P P' : Value → Ledger → Rs → Prop} (h : EX g f A vs news r e P) (w : ∀ v n' r', P v n' r' → P' v n' r') : EX g f A vs news r e P' :=
  fun _ _ _ hs k => h _ _ _ hs fun v n' r' s' p hs' => k v n' r' s' (w _ _ _ p) hs'
theorem St.intoX (hs : St f vs ((l ++ (X ++ R)) ++ T) r s) : St f vs (l ++ ((T ++ X) ++ R)) r s := by
  refine hs.perm ?_
  rw [List.append_assoc l]
  refine List.Perm.append_left l ?_
  rw [List.append_assoc T]
  exact List.perm_append_comm
theorem St.outX (hs : St f vs (l ++ ((T ++ X) ++ R)) r s) : St f vs ((l ++ (X ++ R)) ++ T) r s := by
  refine hs.perm ?_
  rw [List.append_assoc l]
  refine List.Perm.append_left l ?_
  rw [List.append_assoc T]
  exact List.perm_append_comm
theorem PE.num (cx : Cx g f) (LE : LEnv f fa cdA a) (hv : vs[2]? = some (some (.ref a.nA))) {its : List Value} {ep : Nat} (hm : (a.nA, listOf its.toArray ep) ∈ news) (hna : NA its a.nums) {h : Nat} (hk : a.nums[k]? = some h) (hk2 : k < 2 ^ 62)
    (hsub : ∀ t, subscripted (.Constant (.int k) 0 p1) false (.ref a.nA) (.int (k : Int) t) = operate [.ref a.nA, .int (k : Int) t] (getItem (.ref a.nA) (.int (k : Int) t)) := by intro; rfl) :
    PE g f A vs news r (.Subscript (.Name "numbers" p2) (.Constant (.int k) 0 p1) pos) (isI h) := by
  obtain ⟨v, h1, h2⟩ := hna.at hk
  refine PE.item (PE.nameV cx (LE.at (i := 2) rfl) hv) PE.cInt hm (by omega) (by omega) ?_ h2 hsub
  rw [List.getElem?_toArray, Int.toNat_natCast]; exact h1
/-- _law_code(e) -/
theorem PE.lawCode (hK : IsK g) (cx : Cx g f) (hk : f.env.kindOf "_law_code" = some .globalImplicit) (rm : Rm f A 1) {n : Nat} (h : PE g f A vs news r e (isI n)) (hn : n < 24) (he : starEach [e] f.env = (false, eval e f.env) :: starEach [] f.env := by rfl) :
    PE g f A vs news r (.Call (.Name "_law_code" p1) [e] [] pos) (isI (lawCode n)) := by
  refine PE.of (EX.fun (PA := fun l => ∃ t, l = [.int (n : Int) t]) cx hk (by rw [hK]; k_is) (by rw [hK]; k_is) ?_ ?_ he)
  · intro pos Q E s hs k
    refine (AR.cons h AR.nil he) pos Q E s hs ?_
    rintro _ s' ⟨_, _, rfl, ⟨t, rfl⟩, rfl⟩ hs
    exact k _ s' ⟨t, rfl⟩ hs
  · rintro _ ⟨t, rfl⟩
    exact law_code hK cx rm hn
end
end Mine
end

section
set_option maxRecDepth 100000
open PySem PySem.W PySem.Builtin PySem.Builtin.ObjectAttr PyProof.Rows PySem.Calls
open PyProof.Rows.LCg (NsObj lst)
set_option maxHeartbeats 8000000
namespace Mine
theorem dummyFill32 : (hd.heap_39 = hd.heap_39) ∧ (PySem.Challenge.rw_sv0018_01 = PySem.Challenge.rw_sv0018_01) := by
  k_fill
  exact ⟨rfl, rfl⟩
def lettersS : Str := "abcdefghijklmnopqrstuvwx"
/-- the law's locals, the loop running -/
def lvs (sA : Addr) (vn : Option Value) (nA : Addr) (tl : Tok) (gr : Bool) (x2 oA : Addr) (vat : Option Value) (hA : Addr) (room : Nat) (tr : Tok) (used : Nat) (tu : Tok) (vd vm vo : Option Value) : List (Option Value) :=
  [some (.ref sA), vn, some (.ref nA), some (.str lettersS tl), some (.bool gr), some (.ref x2), some (.ref oA), vat, some (.ref hA), some (.int room tr), some (.int used tu), vd, vm, vo]
/-- second and its numbers, that stay -/
structure LSec (X : Ledger) (x2 : Addr) (others : List Nat) : Prop where
  ex : ∃ ad2 S j, ad2.x = x2 ∧ QFm X ad2 S ∧ SInv S others j ∧ j ≤ 4 ∧ S.hf = 506 ∧ others.length ≤ 4 ∧ others.Nodup
  code : ∀ v ∈ others, ∃ c < 24, v = lawCode c
/-- the loop's state -/
def LState (a : LAd) (x2 : Addr) (sA : Addr) (gr : Bool) (x : Addr) (r0 : Rs) (X : Ledger) (b : Nat) (vs : List (Option Value)) (news : Ledger) (r : Rs) : Prop :=
  ∃ (hA : Addr) (held : List Nat) (xc : Option Value) (l R : Ledger) (ad : QA) (S : QS) (room used : Nat) (vn vat vd vm vo : Option Value) (tl tr tu : Tok), vs = lvs sA vn a.nA tl gr x2 a.oA vat hA room tr used tu vd vm vo ∧ news = l ++ (X ++ R) ∧ ad.x = x ∧ QFm l ad S ∧
    Kn R { a with hA := hA, held := held, xC := xc } ∧ LInv gr S held room used b ∧ Gn r0 r ∧ ∀ v ∈ held, ∃ c < 24, v = lawCode c
theorem put_r {D : Addr} {o o0 : Obj} {l R : Ledger} (nd : ((l ++ R).map (·.1)).Nodup) (h : (D, o0) ∈ R) : Mine.put D o (l ++ R) = l ++ Mine.put D o R := put_R (X := []) nd h
theorem nd_r {l R : Ledger} (nd : ((l ++ R).map (·.1)).Nodup) : (R.map (·.1)).Nodup := by
  rw [List.map_append, List.nodup_append] at nd; exact nd.2.1
section
variable {g : Gl} {f : Fm} {A : Around} {vs : List (Option Value)} {news l X R T m : Ledger} {r : Rs} {s : Shared} {fa cdA sA P : Addr} {a : LAd}
theorem cell_of {R : Ledger} {c : Addr} {v : Value} (h : CellV c (some v) R) : CellIs c v R := h
theorem law_first (hK : IsK g) (cx : Cx g f) (rm : Rm f A 60) (LE : LEnv f fa cdA a) {vals : List Value} {ns : List Int} (hl : f.h₀.IsList sA vals.toArray) (hi : IntsAre vals ns) (hlen : vals.length ≤ 1000000)
    (hc : [a.cO, a.cC, a.cE, a.cS, 522].Nodup) (h1 : CellV a.cO a.xO R) (h2 : CellV a.cC a.xC R) (h3 : CellV a.cE a.xE R) (h4 : CellV a.cS a.xS R) (h5 : Tab 522 a.q R)
    (hs : St f [some (.ref sA), none, none, none, none, none, none, none, none, none, none, none, none, none] R r s) {Q : Flow → Shared → Prop} {E : Value → Shared → Prop}
    (k : ∀ (a' : LAd) (x2 : Addr) (gr : Bool) (x : Addr) (X : Ledger) (vs : List (Option Value)) (news : Ledger) (r' : Rs) (s' : Shared), LState a' x2 sA gr x r X 0 vs news r' → a'.xO = some (.ref x) → LSec X x2 a'.others → 4 ≤ a'.nums.length → a'.nums.length ≤ 14 → LEnv f fa cdA a' → St f vs news r' s' →
      wpAny g.M A (execs (lawBody.drop 10) f.env) Q E s') :
    wpAny g.M A (execs lawBody f.env) Q E s := by
  have gQF := LE.glob (x := "QuotientFilter") rfl
  have gH := LE.glob (x := "_law_hash") rfl
  have gC := LE.glob (x := "_law_code") rfl
  have gR := LE.glob (x := "range") rfl
  have n0 := LE.at (i := 0) rfl
  have n2 := LE.at (i := 2) rfl
  have n3 := LE.at (i := 3) rfl
  have n4 := LE.at (i := 4) rfl
  have n5 := LE.at (i := 5) rfl
  have n6 := LE.at (i := 6) rfl
  have n7 := LE.at (i := 7) rfl
  -- numbers
  have hsl : ∀ s, St f [some (.ref sA), none, none, none, none, none, none, none, none, none, none, none, none, none] R r s → s.heap.IsList sA vals.toArray := fun s hs => let ⟨o, z1, z2⟩ := hl; ⟨o, hs.F.keep _ _ z1, z2⟩
  refine X.assignV cx hs n2 rfl (EX.cat
    (P1 := fun v n' r' => r = r' ∧ ∃ D ys m, v = .ref D ∧ n' = (D, listOf ys.toArray ys.length) :: (m ++ R) ∧ NA ys (numOf (ns.take 10)))
    (P2 := fun u v n' r' => r = r' ∧ ∃ D ys m D2 zs, u = .ref D ∧ v = .ref D2 ∧ n' = (D2, listOf zs.toArray 0) :: (D, listOf ys.toArray ys.length) :: (m ++ R) ∧ NA ys (numOf (ns.take 10)) ∧ NA zs [1, 29, 56, 4])
    (P := fun v n' r' => r = r' ∧ ∃ D ys m D2 zs D3 xs, v = .ref D3 ∧ n' = (D3, listOf xs.toArray 0) :: (D2, listOf zs.toArray 0) :: (D, listOf ys.toArray ys.length) :: (m ++ R) ∧ NA ys (numOf (ns.take 10)) ∧ NA zs [1, 29, 56, 4] ∧ NA xs (numOf (ns.take 10) ++ [1, 29, 56, 4]))
    ?_ ?_ ?_) ?_
  · refine EX.post (EX.compU (d := 60) (F := fun v y => ∀ m, isI m v → isI (m.fmod 1000003) y) (its := slicePick vals.toArray none (some 10) none) (cl := []) rm ?_ (by decide) rfl rfl ?_ ?_ ?_) ?_
    · rw [LE.env]; rfl
    · refine EX.post (EX.slice (items := vals.toArray) (ia := none) (ib := some 10) hsl (PE.nameV cx n0 rfl) (by simpa using hlen) (fun Q E s hs k => part_none hs k) (fun Q E s hs k => part_int PE.cInt hs k) (fun _ _ => rfl)) ?_
      rintro v n' r' ⟨rfl, D, sl, so, rfl, rfl⟩
      exact ⟨rfl, D, 0, [(D, listOf (slicePick vals.toArray none (some 10) none) 0), (sl, so)], rfl, rfl, .head _⟩
    · refine Nat.le_trans (slicePick_size_le _ _ _ _) (by simpa using hlen)
    · intro m j v N C oC m₂ Q E s hj hC hNs hx hsub hs kk
      obtain ⟨mm, tt, rfl⟩ : ∃ mm tt, v = .int mm tt := by
        have hI := kmk_upto hi (y := 10) (by decide)
        rw [← Array.getElem?_toList] at hj
        obtain ⟨n, t, e, _⟩ := IntsAre.at hI _ _ hj
        exact ⟨n, t, e⟩
      refine wpAny_BinOp (LCgL.ld_own hs.N hC hNs hx (wpAny_Constant_int (mod_int' (by decide) ?_)))
      refine kk _ _ (fun m hm => ?_) hs.tok
      obtain ⟨t, e⟩ := hm
      cases e
      exact ⟨_, rfl⟩
    · rintro v n' r' ⟨rfl, D, ys, m, rfl, rfl, hF⟩
      refine ⟨rfl, D, ys, m, rfl, rfl, ?_⟩
      exact F2.num (fun m v y h1 h2 => h2 m h1) (kmk_upto hi (y := 10) (by decide)) hF
  · rintro u n' r' ⟨rfl, D, ys, m, rfl, rfl, hna⟩
    refine EX.post (EX.list (AR.cons PE.cInt (AR.cons PE.cInt (AR.cons PE.cInt (AR.cons PE.cInt AR.nil)))) ?_) ?_
    · rintro _ ⟨_, _, rfl, _, _, _, rfl, _, _, _, rfl, _, _, _, rfl, _, rfl⟩
      exact Nat.le_of_ble_eq_true rfl
    · rintro v n' r' ⟨D2, _, rfl, ⟨_, _, rfl, h1, _, _, rfl, h2, _, _, rfl, h3, _, _, rfl, h4, rfl⟩, rfl, rfl⟩
      exact ⟨rfl, D, ys, m, D2, _, rfl, rfl, rfl, hna, ⟨h1, h2, h3, h4, trivial⟩⟩
  · rintro u v n' r' ⟨rfl, D, ys, m, D2, zs, rfl, rfl, rfl, hna, hnz⟩
    have e1 := hna.len
    have e2 := hnz.len
    refine ⟨D, D2, ys, zs, ys.length, 0, rfl, rfl, .tail _ (.head _), .head _, ?_, fun D3 => ⟨rfl, D, ys, m, D2, zs, D3, ys ++ zs, rfl, rfl, hna, hnz, hna.app hnz⟩⟩
    have : (numOf (ns.take 10)).length ≤ 10 := by unfold numOf; rw [List.length_map, List.length_take]; omega
    have : ([1, 29, 56, 4] : List Nat).length = 4 := rfl
    omega
  rintro _ _ _ s ⟨rfl, D, ys, m, D2, zs, D3, xs, rfl, rfl, hny, hnz, hnx⟩ hs
  generalize hnums : numOf (ns.take 10) ++ [1, 29, 56, 4] = nums at hnx
  have hn4 : 4 ≤ nums.length ∧ nums.length ≤ 14 := by
    rw [← hnums]
    have : (numOf (ns.take 10)).length ≤ 10 := by unfold numOf; rw [List.length_map, List.length_take]; omega
    rw [List.length_append]
    have : ([1, 29, 56, 4] : List Nat).length = 4 := rfl
    omega
  have hnlt : ∀ x ∈ nums, x < 1000003 := by
    rw [← hnums]
    intro x hx
    rcases List.mem_append.mp hx with h | h
    · exact numOf_lt h
    · simp only [List.mem_cons, List.mem_nil_iff, or_false] at h
      omega
  obtain ⟨a0, ha0⟩ : ∃ x, nums[0]? = some x := ⟨nums[0]'(by omega), by simp⟩
  obtain ⟨a1, ha1⟩ : ∃ x, nums[1]? = some x := ⟨nums[1]'(by omega), by simp⟩
  have ha1lt : a1 < 1000003 := hnlt a1 (List.mem_of_getElem? ha1)
  have ha0lt : a0 < 1000003 := hnlt a0 (List.mem_of_getElem? ha0)
  -- the ledger named
  obtain ⟨R1, hR1⟩ : ∃ R1, R1 = (D3, listOf xs.toArray 0) :: (D2, listOf zs.toArray 0) :: (D, listOf ys.toArray ys.length) :: (m ++ R) := ⟨_, rfl⟩
  have kn : Kn R1 { a with nA := D3, hA := D2, oA := D, nums := nums, held := [1, 29, 56, 4], others := numOf (ns.take 10) } := by
    have hsub : ∀ p ∈ R, p ∈ R1 := fun p hp => by rw [hR1]; exact .tail _ (.tail _ (.tail _ (List.mem_append_right _ hp)))
    have nd := hs.nd
    have hk : ∀ b o, (b, o) ∈ R → b ≠ D3 ∧ b ≠ D2 ∧ b ≠ D := by
      intro b o hb
      rw [List.map_cons, List.map_cons, List.map_cons, List.nodup_cons, List.nodup_cons, List.nodup_cons] at nd
      have hmem : b ∈ (m ++ R).map (·.1) := List.mem_map.mpr ⟨_, List.mem_append_right _ hb, rfl⟩
      exact ⟨fun e => nd.1 (e ▸ .tail _ (.tail _ hmem)), fun e => nd.2.1 (e ▸ .tail _ hmem), fun e => nd.2.2.1 (e ▸ hmem)⟩
    have hD : D3 ≠ D2 ∧ D3 ≠ D ∧ D2 ≠ D := by
      rw [List.map_cons, List.map_cons, List.map_cons, List.nodup_cons, List.nodup_cons] at nd
      exact ⟨fun e => nd.1 (e ▸ .head _), fun e => nd.1 (e ▸ .tail _ (.head _)), fun e => nd.2.1 (e ▸ .head _)⟩
    refine ⟨?_, h1.mono hsub, h2.mono hsub, h3.mono hsub, h4.mono hsub, h5.mono hsub, ⟨xs, 0, by rw [hR1]; exact .head _, hnx⟩, ⟨zs, 0, by rw [hR1]; exact .tail _ (.head _), hnz⟩, ⟨ys, ys.length, by rw [hR1]; exact .tail _ (.tail _ (.head _)), hny⟩⟩
    obtain ⟨o1, m1, _⟩ := h1
    obtain ⟨o2, m2, _⟩ := h2
    obtain ⟨o3, m3, _⟩ := h3
    obtain ⟨o4, m4, _⟩ := h4
    obtain ⟨T, m5, _⟩ := h5
    obtain ⟨k1, k2, k3⟩ := hk _ _ m1
    obtain ⟨k4, k5, k6⟩ := hk _ _ m2
    obtain ⟨k7, k8, k9⟩ := hk _ _ m3
    obtain ⟨k10, k11, k12⟩ := hk _ _ m4
    obtain ⟨k13, k14, k15⟩ := hk _ _ m5
    simp only [LAd.keys, List.nodup_cons, List.mem_cons, List.mem_nil_iff, or_false, not_or, List.nodup_nil, and_true, not_false_eq_true] at hc ⊢
    obtain ⟨⟨q1, q2, q3, q4⟩, ⟨q5, q6, q7⟩, ⟨q8, q9⟩, q10⟩ := hc
    exact ⟨⟨q1, q2, q3, q4, k1, k2, k3⟩, ⟨q5, q6, q7, k4, k5, k6⟩, ⟨q8, q9, k7, k8, k9⟩, ⟨q10, k10, k11, k12⟩, ⟨k13, k14, k15⟩, ⟨hD.1, hD.2.1⟩, hD.2.2⟩
  rw [← hR1] at hs
  clear hR1 hny hnz
  obtain ⟨b1, hb1⟩ : ∃ b1 : LAd, b1 = { a with nA := D3, hA := D2, oA := D, nums := nums, held := [1, 29, 56, 4], others := numOf (ns.take 10) } := ⟨_, rfl⟩
  have LE1 : LEnv f fa cdA b1 := by rw [hb1]; exact ⟨LE.env, LE.ns, LE.cd, LE.outer, LE.q⟩
  have e1 : b1.nA = D3 := by rw [hb1]
  have e2 : b1.nums = nums := by rw [hb1]
  rw [← hb1] at kn
  rw [← e1] at hs
  rw [← e2] at ha0 ha1 hn4
  clear LE hb1 e1 e2 hnx hsl h1 h2 h3 h4 h5 hc
  replace hs : St f [some (.ref sA), none, some (.ref b1.nA), none, none, none, none, none, none, none, none, none, none, none] R1 r s := hs
  refine X.assign cx hs n3 rfl PE.cStr ?_
  rintro _ s ⟨tl, rfl⟩ hs
  obtain ⟨nits, nep, hnm, hnn⟩ := kn.num
  refine X.assign cx hs n4 rfl (PE.cmpEq (PE.modN (c := 2) (PE.num (k := 0) cx LE1 rfl hnm hnn ha0 (by decide)) (by decide)) PE.cInt) ?_
  rintro _ s rfl hs
  generalize (((a0 % 2 : Nat) : Int) == 1) = gr at hs
  -- one
  refine X.assignCell (c := b1.cO) cx hs (LE1.cell rfl) LE1.lkO (EX.newQF (q := 3) (au := gr) (hf := 506) hK cx (rm.less (by decide)) (by decide) (by decide) gQF (PE.toI PE.cInt rfl) (PE.name cx n4 rfl rfl) (PE.nameG cx gH (by rw [hK]; k_is))) ?_ ?_
  · rintro v n' r' ⟨rfl, ad, l', rfl, rfl, _⟩
    exact kn.one.at.mono fun _ => List.mem_append_right _
  rintro _ _ _ o1 s ⟨rfl, ad1, l1, rfl, rfl, hq1⟩ hd1 hs
  obtain ⟨o0, hm0, _⟩ := kn.one
  have nd0 := hs.nd
  rw [put_keys] at nd0
  rw [put_r nd0 hm0] at hs
  have kn := kn.putO (nd_r nd0) hd1
  generalize Mine.put b1.cO o1 R1 = R2 at hs kn
  clear hm0 nd0 hnm hnn hd1
  -- second
  refine X.assignV cx hs n5 rfl (EX.newQF (q := 3) (au := true) (hf := 506) hK cx (rm.less (by decide)) (by decide) (by decide) gQF (PE.toI PE.cInt rfl) PE.cBool (PE.nameG cx gH (by rw [hK]; k_is))) ?_
  rintro _ _ _ s ⟨rfl, ad2, l2, rfl, rfl, hq2⟩ hs
  refine X.assignV cx hs n6 rfl (EX.list AR.nil (fun l h => by rw [h]; decide)) ?_
  rintro _ _ _ s ⟨oA, _, rfl, rfl, rfl, rfl⟩ hs
  have hs := St.junk1 hs
  have kn := Kn.newOth (m := []) kn (St.ndR hs) (its := []) (ep := 0) (l := []) trivial
  obtain ⟨R3, hR3⟩ : ∃ R3, R3 = (oA, listOf ([] : List Value).toArray 0) :: R2 := ⟨_, rfl⟩
  obtain ⟨b2, hb2⟩ : ∃ b2 : LAd, b2 = { b1 with xO := some (.ref ad1.x), oA := oA, others := [] } := ⟨_, rfl⟩
  have LE2 : LEnv f fa cdA b2 := by rw [hb2]; exact ⟨LE1.env, LE1.ns, LE1.cd, LE1.outer, LE1.q⟩
  replace kn : Kn R3 b2 := by rw [hR3, hb2]; exact kn
  replace hs : St f [some (.ref sA), none, some (.ref b2.nA), some (.str lettersS tl), some (.bool gr), some (.ref ad2.x), some (.ref b2.oA), none, none, none, none, none, none, none] (l2 ++ (l1 ++ R3)) r s := by rw [hR3, hb2]; exact hs
  have hx2 : b2.xO = some (.ref ad1.x) := by rw [hb2]
  have ho2 : b2.others = [] := by rw [hb2]
  replace ha0 : b2.nums[0]? = some a0 := by rw [hb2]; exact ha0
  replace ha1 : b2.nums[1]? = some a1 := by rw [hb2]; exact ha1
  replace hn4 : 4 ≤ b2.nums.length ∧ b2.nums.length ≤ 14 := by rw [hb2]; exact hn4
  clear hR3 hb2 LE1 gQF gH
  obtain ⟨nits, nep, hnm, hnn⟩ := kn.num
  refine X.forRange (n := a0 / 2 % 5) (d := 60) (fun j vs N r' => ∃ (xc : Option Value) (oth : List Nat) (l R : Ledger) (ad : QA) (S : QS) (vat : Option Value), vs = [some (.ref sA), none, some (.ref b2.nA), some (.str lettersS tl), some (.bool gr), some (.ref ad2.x), some (.ref b2.oA), vat, none, none, none, none, none, none] ∧
    N = l ++ (l1 ++ R) ∧ ad.x = ad2.x ∧ QFm l ad S ∧ SInv S oth j ∧ Kn R { b2 with xC := xc, others := oth } ∧ Gn r r' ∧ ∀ v ∈ oth, ∃ c < 24, v = lawCode c) cx rm n7 ?_ hs ?_
    (EX.range1 cx gR (by rw [hK]; k_is) (PE.modN (c := 5) (PE.divN (c := 2) (PE.num (k := 0) cx LE2 rfl (mem_R hnm) hnn ha0 (by decide)) (by decide) (PyProof.noPylong_small (by decide))) (by decide))) (by rw [rangeSize_one]; split <;> omega) (small_one (by omega) (by omega) (by omega) (by omega)) ?_ ?_
  · rintro j vs N r' ⟨xc, oth, l, R, ad, S, vat, rfl, _⟩
    exact ⟨vat, rfl⟩
  · exact ⟨b2.xC, [], l2, R3, ad2, _, none, rfl, rfl, rfl, hq2, SInv.start, by rw [← ho2]; exact kn, Gn.refl r, fun v h => nomatch h⟩
  · rintro j t vs N T r' s hj ⟨xc, oth, l, R, ad, S, vat, rfl, rfl, hx, hq, hS, kn, hgn, hcd⟩ hs
    have hs := St.intoX hs
    have LE3 : LEnv f fa cdA { b2 with xC := xc, others := oth } := ⟨LE2.env, LE2.ns, LE2.cd, LE2.outer, LE2.q⟩
    obtain ⟨nits, nep, hnm, hnn⟩ := kn.num
    obtain ⟨oc, hcm, _⟩ := kn.code
    have hjj : j ≤ 4 := by omega
    have hs : St f [some (.ref sA), none, some (.ref b2.nA), some (.str lettersS tl), some (.bool gr), some (.ref ad2.x), some (.ref b2.oA), some (.int (j : Nat) t), none, none, none, none, none, none] (l ++ ((T ++ l1) ++ R)) r' s := by
      have e : ((0 : Int) + j * 1) = ((j : Nat) : Int) := by omega
      rw [e] at hs; exact hs
    have hc24 : (a1 + j * (a0 / 10 % 23 + 1)) % 24 < 24 := Nat.mod_lt _ (by decide)
    refine X.assignCell (c := b2.cC) cx hs (LE2.cell rfl) LE2.lkC (PE.ex (PE.lawCode hK cx gC (rm.less (by decide)) (PE.modN (c := 24) (n := a1 + j * (a0 / 10 % 23 + 1)) (PE.toI (PE.add (PE.num (k := 1) cx LE3 rfl (mem_R hnm) hnn ha1 (by decide)) (PE.mulL (PE.nameI cx n7 rfl)
      (PE.add (PE.modN (c := 23) (PE.divN (c := 10) (PE.num (k := 0) cx LE3 rfl (mem_R hnm) hnn ha0 (by decide)) (by decide) (PyProof.noPylong_small (by decide))) (by decide)) PE.cInt) (intBits_small (by omega)))) (by push_cast; rfl)) (by decide)) hc24)) ?_ ?_
    · rintro v n' r' ⟨_, rfl, rfl⟩
      exact kn.code.at.mono fun _ => mem_R
    generalize (a1 + j * (a0 / 10 % 23 + 1)) % 24 = cc at hc24
    rintro _ _ _ oc s ⟨⟨tc, rfl⟩, rfl, rfl⟩ hd hs
    have nd0 := hs.nd
    rw [put_keys] at nd0
    rw [put_R nd0 hcm] at hs
    have ndR : (R.map (·.1)).Nodup := by
      rw [List.map_append, List.map_append, List.nodup_append, List.nodup_append] at nd0
      exact nd0.2.1.2.1
    have kn := kn.putC ndR hd
    generalize Mine.put b2.cC oc R = R' at hs kn
    clear hcm nd0 ndR hnm hnn hd
    obtain ⟨U, hU, hSU⟩ := hS.add (by omega) (lawCode_lt hc24)
    rw [← hx] at hs
    refine X.expr cx hs (EX.q1 (S := S) cx hq.app (PE.nameV cx n5 rfl) (KQ.madd_alt hK) (PE.cell cx (LE2.cell rfl) LE2.lkC (kn.code.mono fun _ => mem_R)) (P := NowX ad U ((T ++ l1) ++ R') r') (fun v e => by rw [e]; exact (all_walk hK 3).1 f A _ l _ _ ad S U _ tc cx (rm.less (by decide)) hq hU)) (fun v n' r' h a => by rw [h.1]; exact fun z => nomatch z) ?_
    rintro _ _ r'' s ⟨rfl, hgn2, l, ad', hx', rfl, hq⟩ hs
    rw [hx] at hs
    obtain ⟨oits, oep, hom, hon⟩ := kn.oth
    replace hon : NA oits oth := hon
    refine X.ifJ (c := !decide (lawCode cc ∈ oth)) (fun s => ∃ R', Kn R' { b2 with xC := some (.int (lawCode cc : Nat) tc), others := ins oth (lawCode cc) } ∧ St f [some (.ref sA), none, some (.ref b2.nA), some (.str lettersS tl), some (.bool gr), some (.ref ad2.x), some (.ref b2.oA), some (.int (j : Nat) t), none, none, none, none, none, none] (l ++ ((T ++ l1) ++ R')) r'' s) hs
      (PT.cmpS (PE.weaken (PE.cell cx (LE2.cell rfl) LE2.lkC (kn.code.mono fun _ => mem_R)) (fun v e => by rw [e]; exact ⟨_, rfl⟩)) (PE.nameV cx n6 rfl) (cmpNotIn (k := lawCode cc) (mem_R hom) hon)) ?_ ?_ ?_
    · intro c s hs
      have c : lawCode cc ∉ oth := by simpa using c
      refine X.expr cx hs (EX.append (PE.nameV cx n6 rfl) (mem_R hom) (PE.weaken (PE.cell cx (LE2.cell rfl) LE2.lkC (kn.code.mono fun _ => mem_R)) (P' := isI (lawCode cc : Nat)) (fun v e => by rw [e]; exact ⟨_, rfl⟩)) (by have := hon.len; have := hS.len; have := hS.le; omega)) (fun v n' r' h a => by rw [h.1]; exact fun z => nomatch z) ?_
      rintro _ _ _ s ⟨rfl, rfl, u, hu, rfl⟩ hs
      have nd0 := hs.nd
      rw [put_keys] at nd0
      rw [put_R nd0 hom] at hs
      have ndR : (R'.map (·.1)).Nodup := by
        rw [List.map_append, List.map_append, List.nodup_append, List.nodup_append] at nd0
        exact nd0.2.1.2.1
      have e : ins oth (lawCode cc) = oth ++ [lawCode cc] := by unfold ins; rw [if_neg c]
      exact X.nil (g := g) hs ⟨rfl, _, by rw [e]; exact kn.putOth ndR (hon.snoc hu), hs⟩
    · intro c s hs
      have c : lawCode cc ∈ oth := by simpa using c
      have e : ins oth (lawCode cc) = oth := by unfold ins; rw [if_pos c]
      exact X.nil (g := g) hs ⟨rfl, _, by rw [e]; exact kn, hs⟩
    rintro s ⟨R', kn, hs⟩
    refine X.nil (g := g) hs ⟨.inl rfl, _, _, _, ⟨_, _, l, R', ad', U, _, rfl, rfl, hx'.trans hx, hq, hSU, kn, hgn.trans hgn2, ?_⟩, St.outX hs⟩
    intro v hv
    rcases (ins_mem v).mp hv with h | rfl
    · exact hcd v h
    · exact ⟨cc, hc24, rfl⟩
  rintro T vs N r' s ⟨xc, oth, l, R, ad, S, vat, rfl, rfl, hx, hq, hS, kn, hgn, hcd⟩ hs
  have hs := St.intoX hs
  have n8 := LE2.at (i := 8) rfl
  have n9 := LE2.at (i := 9) rfl
  have n10 := LE2.at (i := 10) rfl
  refine X.assignV cx hs n8 rfl (EX.list AR.nil (fun l h => by rw [h]; decide)) ?_
  rintro _ _ _ s ⟨hA, _, rfl, rfl, rfl, rfl⟩ hs
  have hs := St.junk1 hs
  have kn := Kn.newHeld (m := []) kn (St.ndR hs) (its := []) (ep := 0) (l := []) trivial
  refine X.assign cx hs n9 rfl PE.cInt ?_
  rintro _ s ⟨tr, rfl⟩ hs
  refine X.assign cx hs n10 rfl PE.cInt ?_
  rintro _ s ⟨tu, rfl⟩ hs
  have hs := hs.perm (news' := l1 ++ ((T ++ l) ++ ((hA, listOf ([] : List Value).toArray 0) :: ([] ++ R)))) (by
    rw [← List.append_assoc l, ← List.append_assoc l1]
    refine List.Perm.append_right _ ?_
    rw [← List.append_assoc l]
    refine (List.perm_append_comm (l₁ := l ++ T) (l₂ := l1)).trans ?_
    exact List.Perm.append_left _ List.perm_append_comm)
  refine k { b2 with xC := xc, others := oth } ad2.x gr ad1.x (T ++ l) _ _ r' s ⟨hA, [], xc, l1, _, ad1, _, 8, 0, none, vat, none, none, none, tl, tr, tu, rfl, rfl, rfl, hq1, kn, LInv.start, hgn, fun v h => nomatch h⟩ hx2 ⟨⟨ad, S, a0 / 2 % 5, hx, ?_, hS, by omega, hS.hf, ?_, hS.rep.nd⟩, hcd⟩ hn4.1 hn4.2 ⟨LE2.env, LE2.ns, LE2.cd, LE2.outer, LE2.q⟩ hs
  · exact hq.mono (l' := T ++ l) fun p hp => List.mem_append_right _ hp
  · have := hS.len; have := hS.le; show oth.length ≤ 4; omega
end
end Mine
end

section
set_option maxRecDepth 100000
open PySem PySem.W PySem.Builtin PySem.Builtin.ObjectAttr PyProof.Rows PySem.Calls
open PyProof.Rows.LCg (NsObj lst)
set_option maxHeartbeats 8000000
namespace Mine
theorem dummyFill33 : (hd.heap_39 = hd.heap_39) ∧ (PySem.Challenge.rw_sv0018_01 = PySem.Challenge.rw_sv0018_01) := by
  k_fill
  exact ⟨rfl, rfl⟩
theorem letter_at : ∀ at' : Nat, at' < 24 → (seqIndex? (at' : Int) lettersS.length).bind (lettersS.cps[·]?) = some (97 + at') := by decide +kernel
theorem first_one (c : Nat) : First ⟨#[c]⟩ c := rfl
/-- a value that is a number other than n -/
def notN (n : Nat) : Value → Bool
  | .int a _ => a != (n : Int)
  | _ => false
theorem NA.filter {n : Nat} : ∀ {its : List Value} {hs : List Nat}, NA its hs → NA (its.filter (notN n)) (hs.filter (· != n))
  | [], [], _ => trivial
  | v :: vs, m :: ms, h => by
    obtain ⟨⟨t, rfl⟩, h2⟩ := h
    have e : notN n (.int (m : Int) t) = (m != n) := by
      show ((m : Int) != (n : Int)) = (m != n)
      rw [natBne]
    rw [List.filter_cons, List.filter_cons, e]
    split
    · exact ⟨⟨t, rfl⟩, h2.filter⟩
    · exact h2.filter
  | [], _ :: _, h => h.elim
  | _ :: _, [], h => h.elim
section
variable {g : Gl} {f : Fm} {A : Around} {vs : List (Option Value)} {news l X R T m : Ledger} {r : Rs} {s : Shared} {fa cdA sA P x2 x : Addr} {a : LAd} {e e₁ e₂ : Expr} {es : List Expr} {pos p1 p2 : Pos} {b b₁ b₂ gr : Bool} {tl : Tok}
def AL (g : Gl) (f : Fm) (A : Around) (vs : List (Option Value)) (news : Ledger) (r : Rs) (es : List Expr) (b : Bool) : Prop :=
  ∀ (pos : Pos) (whole : Sem Value) (Q : Bool → Shared → Prop) (E : Value → Shared → Prop) (s : Shared), St f vs news r s → (∀ s', St f vs news r s' → Q b s') → wpAny g.M A (isTrue (.BoolOp .And es pos) f.env whole) Q E s
theorem AL.nil : AL g f A vs news r [] true := fun _ _ _ _ _ hs k => isTrue_and_nil (k _ hs)
theorem AL.cons (h₁ : PT g f A vs news r e b₁) (h₂ : b₁ = true → AL g f A vs news r es b₂) : AL g f A vs news r (e :: es) (b₁ && b₂) :=
  fun _ _ _ _ _ hs k => isTrue_and (h₁ _ _ _ _ rfl hs fun s₁ hs₁ => by
    cases b₁ with
    | true => exact h₂ rfl _ _ _ _ _ hs₁ k
    | false => exact k _ hs₁)
theorem PT.all (h : AL g f A vs news r es b) : PT g f A vs news r (.BoolOp .And es pos) b := fun _ _ _ _ _ hs k => h _ _ _ _ _ hs k
theorem ET.andF {P : Ledger → Rs → Prop} (h₁ : PT g f A vs news r e₁ b₁) (h₂ : b₁ = true → ET g f A vs news r e₂ (fun b n' r' => b = false ∧ P n' r')) (h0 : P news r) : ET g f A vs news r (.BoolOp .And [e₁, e₂] pos) (fun b n' r' => b = false ∧ P n' r') :=
  fun _ _ _ _ _ hs k => isTrue_and (h₁ _ _ _ _ rfl hs fun s₁ hs₁ => by
    cases b₁ with
    | true =>
      refine isTrue_and (h₂ rfl _ _ _ _ rfl hs₁ fun b n' r' s₂ p hs₂ => ?_)
      obtain ⟨rfl, p⟩ := p
      exact k _ _ _ _ ⟨rfl, p⟩ hs₂
    | false => exact k _ _ _ _ ⟨rfl, h0⟩ hs₁)
/-- letters[at] -/
theorem PE.letter (cx : Cx g f) (LE : LEnv f fa cdA a) (h3 : vs[3]? = some (some (.str lettersS tl))) {n : Nat} {ta : Tok} (h7 : vs[7]? = some (some (.int (n : Int) ta))) (hn : n < 24) :
    PE g f A vs news r (.Subscript (.Name "letters" p1) (.Name "at" p2) pos) (fun v => ∃ t, v = .str ⟨#[97 + n]⟩ t) :=
  PE.strItem (PE.name cx (LE.at (i := 3) rfl) h3 ⟨_, rfl⟩) (PE.nameI cx (LE.at (i := 7) rfl) h7) (by simp; omega) (letter_at n hn)
/-- the code, of its cell -/
theorem PE.codeC (cx : Cx g f) (LE : LEnv f fa cdA a) {c : Nat} {tc : Tok} (h : CellV a.cC (some (.int (c : Int) tc)) news) : PE g f A vs news r (.Name "code" p1) (isI c) :=
  PE.weaken (PE.cell cx (LE.cell rfl) LE.lkC h) (fun v e => by rw [e]; exact ⟨_, rfl⟩)
theorem PE.codeV (cx : Cx g f) (LE : LEnv f fa cdA a) {v : Value} (h : CellV a.cC (some v) news) : PE g f A vs news r (.Name "code" p1) (· = v) :=
  PE.cell cx (LE.cell rfl) LE.lkC h
theorem PE.oneV (cx : Cx g f) (LE : LEnv f fa cdA a) {v : Value} (h : CellV a.cO (some v) news) : PE g f A vs news r (.Name "one" p1) (· = v) :=
  PE.cell cx (LE.cell rfl) LE.lkO h
theorem nd_R (nd : ((l ++ (X ++ R)).map (·.1)).Nodup) : (R.map (·.1)).Nodup := by
  rw [List.map_append, List.map_append, List.nodup_append, List.nodup_append] at nd
  exact nd.2.1.2.1
theorem St.junkM (hs : St f vs (m ++ (l ++ (X ++ R))) r s) : St f vs (l ++ (X ++ (m ++ R))) r s := St.junk hs
/-- a list appended to -/
theorem X.appendR {Y : Ledger} {rest : List Stmt} {Q : Flow → Shared → Prop} {E : Value → Shared → Prop} {la : Addr} {its : List Value} {ep i : Nat} {y : Str} {PV : Value → Prop} (cx : Cx g f) (hs : St f vs (l ++ (Y ++ R)) r s) (hn : f.ns[i]? = some y) (hv : vs[i]? = some (some (.ref la))) (hm : (la, listOf its.toArray ep) ∈ R) (he : PE g f A vs (l ++ (Y ++ R)) r e PV) (hl : its.length ≤ 10000000)
    (k : ∀ u s', PV u → St f vs (l ++ (Y ++ Mine.put la (listOf (its ++ [u]).toArray (ep + 1)) R)) r s' → (R.map (·.1)).Nodup → wpAny g.M A (execs rest f.env) Q E s')
    (hsh : MShape (.Name y p1) "append" p2 [e] pos f.env := by exact ⟨_, rfl⟩)
    (he1 : starEach [e] f.env = (false, eval e f.env) :: starEach [] f.env := by rfl) (hd : (y == ("__debug__" : Str)) = false := by decide)
    {pos' : Pos} (hsw : swapsWith (.Call (.Attribute (.Name y p1) "append" p2) [e] [] pos) none pos'.line f.env = pure false := by rfl) :
    wpAny g.M A (execs (.Expr (.Call (.Attribute (.Name y p1) "append" p2) [e] [] pos) pos' :: rest) f.env) Q E s := by
  refine X.expr cx hs (EX.append (PE.nameV cx hn hv hd) (mem_R hm) he hl hsh he1) (fun v n' r' h a => by rw [h.1]; exact fun z => nomatch z) ?_ hsw
  rintro _ _ _ s ⟨rfl, rfl, u, hu, rfl⟩ hs
  have nd0 := hs.nd
  rw [put_keys] at nd0
  rw [put_R nd0 hm] at hs
  exact k u s hu hs (nd_R nd0)
theorem PE.cmpGe {x y : Int} (h₁ : PE g f A vs news r e (isI x)) (h₂ : PE g f A vs news r e₂ (isI y)) (hm : behindInMarks .GtE e₂ = false := by with_unfolding_all rfl) : PE g f A vs news r (.Compare e [.GtE] [e₂] pos) (isB (decide (y ≤ x))) :=
  PE.cmpS h₁ h₂ (fun u v Q E s ⟨_, e1⟩ ⟨_, e2⟩ hs k => by subst e1 e2; exact PyProof.Rows.ge_int (k s hs)) hm
theorem EX.perm {news' : Ledger} {P : Value → Ledger → Rs → Prop} (hp : news.Perm news') (h : EX g f A vs news' r e P) : EX g f A vs news r e P := fun _ _ _ hs k => h _ _ _ (hs.perm hp) k
theorem junk_perm : (m ++ (l ++ (X ++ R))).Perm (l ++ (X ++ (m ++ R))) := by
  rw [← List.append_assoc, ← List.append_assoc, ← List.append_assoc, ← List.append_assoc]
  refine List.Perm.append_right R ?_
  rw [List.append_assoc]
  exact List.perm_append_comm
theorem CL.perm {news' : Ledger} {c : Addr} {args : List Value} {P : Value → Ledger → Rs → Prop} (hp : news.Perm news') (h : CL g f A vs news' r c args P) : CL g f A vs news r c args P := fun _ _ hs k => h _ _ (hs.perm hp) k
/-- _law_refused(lambda) -/
theorem EX.refused {a' : LAd} {params : Arguments} {body : Expr} {scope : Scope} {clos : List (Str × Addr)} {P : Value → Ledger → Rs → Prop} (hK : IsK g) (cx : Cx g f) (gF : f.env.kindOf "_law_refused" = some .globalImplicit) (LE : LEnv f fa cdA a) (kn : Kn R a') (hq : a'.q = a.q) (hcl : closureFor scope f.env = pure clos)
    (h : ∀ fL m o, Kn (m ++ Mine.put 522 o R) a' → LamAt fL a.q params body scope clos (l ++ (X ++ (m ++ Mine.put 522 o R))) → CL g f A vs (l ++ (X ++ (m ++ Mine.put 522 o R))) r 520 [.ref fL] P) (hdef : defaultsOf params f.env = ([], []) := by rfl)
    (he1 : starEach [.Lambda params body scope p2] f.env = (false, eval (.Lambda params body scope p2) f.env) :: starEach [] f.env := by rfl) :
    EX g f A vs (l ++ (X ++ R)) r (.Call (.Name "_law_refused" p1) [.Lambda params body scope p2] [] pos) P := by
  refine EX.funE (fa := 520) cx gF (by rw [hK]; k_is) (by rw [hK]; k_is) (EX.lamR cx LE.env LE.cd (hq ▸ kn.tab) LE.q hcl hdef) ?_ he1
  rintro _ n' r' ⟨rfl, fL, m, o, rfl, rfl, ht, hl⟩
  exact CL.perm junk_perm (h fL m o (kn.putTab (hq ▸ ht)) (hl.mono fun _ => mem_R))
theorem EX.listV {la : Addr} {its : Array Value} {k : Nat} (h : PE g f A vs news r e (· = .ref la)) (hm : (la, listOf its k) ∈ news) : EX g f A vs news r e (fun v n' r' => r = r' ∧ ∃ ax k m, v = .ref ax ∧ n' = m ++ news ∧ (ax, listOf its k) ∈ n') :=
  fun _ _ _ hs kk => h _ _ _ hs fun v s' e hs' => kk v _ _ s' ⟨rfl, la, k, [], e, rfl, hm⟩ hs'
theorem EX.listW {la : Addr} (h : PE g f A vs news r e (· = .ref la)) : EX g f A vs news r e (fun v n' r' => r = r' ∧ v = .ref la ∧ ∃ t, n' = t ++ news) :=
  fun _ _ _ hs kk => h _ _ _ hs fun v s' e hs' => kk v _ _ s' ⟨rfl, e, [], rfl⟩ hs'
theorem ListG.lo {hl ks : List Nat} {v : Value} {n' : Ledger} {r' : Rs} (h : ListG hl news r v n' r') (hp : hl.Perm ks) (hlen : ks.length < 64) : LO (fun hs n' r' => hs.Perm ks ∧ Gn r r' ∧ ∃ m, n' = m ++ news) v n' r' := by
  obtain ⟨S, its, ep, m', rfl, hna, hg, rfl⟩ := h
  exact ⟨S, its, ep, hl, rfl, .head _, hna, by rw [hp.length_eq]; exact hlen, hp, hg, _ :: m', rfl⟩
theorem assoc_perm {T : Ledger} : ((l ++ (X ++ R)) ++ T).Perm (l ++ (X ++ (R ++ T))) := by
  rw [List.append_assoc, List.append_assoc]
end
end Mine
end

section
set_option maxRecDepth 100000
open PySem PySem.W PySem.Builtin PySem.Builtin.ObjectAttr PyProof.Rows PySem.Calls
open PyProof.Rows.LCg (NsObj lst)
set_option maxHeartbeats 8000000
namespace Mine
theorem dummyFill34 : (hd.heap_39 = hd.heap_39) ∧ (PySem.Challenge.rw_sv0018_01 = PySem.Challenge.rw_sv0018_01) := by
  k_fill
  exact ⟨rfl, rfl⟩
def lawTurn : List Stmt := loopOf (lawBody.drop 10)
section
variable {g : Gl} {f : Fm} {A : Around} {vs : List (Option Value)} {news l Y R T m : Ledger} {r r0 : Rs} {s : Shared} {fa cdA sA P x2 x : Addr} {a : LAd} {b : Nat} {gr : Bool}
/-- the state between the deed and the look at it -/
def KSt (f : Fm) (a : LAd) (x2 sA : Addr) (gr : Bool) (x : Addr) (r0 : Rs) (Y : Ledger) (b : Nat) (v : Value) (at' : Nat) (ta : Tok) (deed : Nat) (td : Tok) (more : Nat) (tm tl : Tok) (s : Shared) : Prop :=
  ∃ (hA : Addr) (held : List Nat) (xc : Option Value) (l R : Ledger) (ad : QA) (S : QS) (room used : Nat) (vo : Option Value) (tr tu : Tok) (r' : Rs), ad.x = x ∧ QFm l ad S ∧ Kn R { a with hA := hA, held := held, xC := xc } ∧ LInv gr S held room used b ∧ Gn r0 r' ∧ (∀ v ∈ held, ∃ c < 24, v = lawCode c) ∧
    St f (lvs sA (some v) a.nA tl gr x2 a.oA (some (.int at' ta)) hA room tr used tu (some (.int deed td)) (some (.int more tm)) vo) (l ++ (Y ++ R)) r' s
theorem law_turn (hK : IsK g) (hP : IsP g) (cx : Cx g f) (rm : Rm f A 60) (LE : LEnv f fa cdA a) (hx : a.xO = some (.ref x)) (hY : LSec Y x2 a.others) (hb : b + 4 ≤ 48) (hL : LState a x2 sA gr x r0 Y b vs news r) {n : Nat} {v : Value} (hv : isI n v)
    (hs : St f (vs.set 1 (some v)) news r s) :
    wpAny g.M A (execs lawTurn f.env) (fun fl s' => fl = .next ∧ ∃ vs' news' r', LState a x2 sA gr x r0 Y (b + 4) vs' news' r' ∧ St f vs' news' r' s') (fun _ _ => False) s := by
  obtain ⟨hA, held, xc, l, R, ad, S, room, used, vn, vat, vd, vm, vo, tl, tr, tu, rfl, rfl, hax, hq, kn, inv, hgn, hcodes⟩ := hL
  have gC := LE.glob (x := "_law_code") rfl
  have gS := LE.glob (x := "sorted") rfl
  have gL := LE.glob (x := "len") rfl
  have gF := LE.glob (x := "_law_refused") rfl
  have n1 := LE.at (i := 1) rfl
  have n4 := LE.at (i := 4) rfl
  have n5 := LE.at (i := 5) rfl
  have n6 := LE.at (i := 6) rfl
  have n7 := LE.at (i := 7) rfl
  have n8 := LE.at (i := 8) rfl
  have n9 := LE.at (i := 9) rfl
  have n10 := LE.at (i := 10) rfl
  have n11 := LE.at (i := 11) rfl
  have n12 := LE.at (i := 12) rfl
  have n13 := LE.at (i := 13) rfl
  obtain ⟨tn, rfl⟩ := hv
  replace hs : St f (lvs sA (some (.int n tn)) a.nA tl gr x2 a.oA vat hA room tr used tu vd vm vo) (l ++ (Y ++ R)) r s := hs
  refine X.assign cx hs n11 rfl (PE.modN (c := 7) (PE.nameI cx n1 rfl) (by decide)) ?_
  rintro _ s ⟨td, rfl⟩ hs
  refine X.assign cx hs n7 rfl (PE.modN (c := 24) (PE.divN (c := 7) (PE.nameI cx n1 rfl) (by decide) (PyProof.noPylong_small (by decide))) (by decide)) ?_
  rintro _ s ⟨ta, rfl⟩ hs
  refine X.assign cx hs n12 rfl (PE.divN (c := 168) (PE.nameI cx n1 rfl) (by decide) (PyProof.noPylong_small (by decide))) ?_
  rintro _ s ⟨tm, rfl⟩ hs
  have hat : n / 7 % 24 < 24 := Nat.mod_lt _ (by decide)
  generalize n / 7 % 24 = at' at hs hat
  generalize n / 168 = more at hs
  generalize n % 7 = deed at hs
  replace hs : St f (lvs sA (some (.int n tn)) a.nA tl gr x2 a.oA (some (.int at' ta)) hA room tr used tu (some (.int deed td)) (some (.int more tm)) vo) (l ++ (Y ++ R)) r s := hs
  obtain ⟨oc, hcm, _⟩ := kn.code
  refine X.assignCell (c := a.cC) cx hs (LE.cell rfl) LE.lkC (PE.ex (PE.lawCode hK cx gC (rm.less (by decide)) (PE.nameI cx n7 rfl) hat)) ?_ ?_
  · rintro v n' r' ⟨_, rfl, rfl⟩
    exact kn.code.at.mono fun _ => mem_R
  rintro _ _ _ oc s ⟨⟨tc, rfl⟩, rfl, rfl⟩ hd hs
  have nd0 := hs.nd
  rw [put_keys] at nd0
  rw [put_R nd0 hcm] at hs
  have kn := kn.putC (nd_R nd0) hd
  generalize Mine.put a.cC oc R = R' at hs kn
  clear hcm nd0 hd
  obtain ⟨c, hc⟩ : ∃ c, c = lawCode at' := ⟨_, rfl⟩
  rw [← hc] at kn
  have hc32 : c < 2 ^ 32 := hc ▸ lawCode_lt hat
  obtain ⟨hits, hep, hhm, hhn⟩ := kn.held
  replace hhm : (hA, listOf hits.toArray hep) ∈ R' := hhm
  replace hhn : NA hits held := hhn
  have hlen48 := inv.small (by omega)
  have hone : CellV a.cO (some (.ref ad.x)) R' := by have := kn.one; rw [hax, ← hx]; exact this
  have hcode : CellV a.cC (some (.int (c : Nat) tc)) R' := kn.code
  have hinL : ∀ pos p1 p2, PT g f A (lvs sA (some (.int n tn)) a.nA tl gr x2 a.oA (some (.int at' ta)) hA room tr used tu (some (.int deed td)) (some (.int more tm)) vo) (l ++ (Y ++ R')) r (.Compare (.Name "code" p1) [.In] [.Name "held" p2] pos) (decide (c ∈ held)) :=
    fun pos p1 p2 => PT.cmpS (PE.codeC cx LE (hcode.mono fun _ => mem_R)) (PE.nameV cx n8 rfl) (cmpIn (k := c) (mem_R hhm) hhn)
  have hinB : ∀ pos p1 p2, PE g f A (lvs sA (some (.int n tn)) a.nA tl gr x2 a.oA (some (.int at' ta)) hA room tr used tu (some (.int deed td)) (some (.int more tm)) vo) (l ++ (Y ++ R')) r (.Compare (.Name "code" p1) [.In] [.Name "held" p2] pos) (isB (decide (c ∈ held))) :=
    fun pos p1 p2 => PE.cmpS (PE.codeC cx LE (hcode.mono fun _ => mem_R)) (PE.nameV cx n8 rfl) (cmpIn (k := c) (mem_R hhm) hhn)
  have h97 : (97 + at' - 97) % 24 = at' := by omega
  have hdeed : ∀ (k : Nat) pos p1 p2 kk, PT g f A (lvs sA (some (.int n tn)) a.nA tl gr x2 a.oA (some (.int at' ta)) hA room tr used tu (some (.int deed td)) (some (.int more tm)) vo) (l ++ (Y ++ R')) r (.Compare (.Name "deed" p1) [.Eq] [.Constant (.int k) kk p2] pos) (deed == k) :=
    fun k pos p1 p2 kk => PT.toB (PT.eq (PE.nameI cx n11 rfl) PE.cInt) (natBeq deed k)
  refine X.ifJ (KSt f a x2 sA gr x r0 Y (b + 4) (.int n tn) at' ta deed td more tm tl) hs
    (PT.and2 (PT.toB (PT.lt (PE.nameI cx n11 rfl) PE.cInt) (b := decide (deed < 3)) (by rw [show (3 : Int) = ((3 : Nat) : Int) from rfl, natLt])) (fun _ => PT.or3 (PT.val (PE.name cx n4 rfl rfl) (fun _ => rfl)) (fun _ => PT.toB (PT.lt (PE.add (PE.nameI cx n10 rfl) PE.cInt) (PE.nameI cx n9 rfl)) (b := decide (used + 1 < room)) (by rw [show ((used : Int) + 1) = ((used + 1 : Nat) : Int) by push_cast; rfl, natLt])) (fun _ _ => hinL _ _ _))) ?_ ?_ ?_
  · -- add
    intro ht s hs
    have hr : gr = true ∨ used + 1 < room ∨ c ∈ held := by
      simp only [Bool.and_eq_true, Bool.or_eq_true, decide_eq_true_eq] at ht
      exact ht.2
    obtain ⟨T, hT, inv'⟩ := inv.add hc32 (by omega) hr
    refine X.ifJ (fun s => ∃ (l' : Ledger) (ad' : QA) (r' : Rs), ad'.x = x ∧ QFm l' ad' T ∧ Gn r0 r' ∧ St f (lvs sA (some (.int n tn)) a.nA tl gr x2 a.oA (some (.int at' ta)) hA room tr used tu (some (.int deed td)) (some (.int more tm)) vo) (l' ++ (Y ++ R')) r' s) hs
      (PT.eq (PE.modN (c := 2) (PE.nameI cx n12 rfl) (by decide)) PE.cInt) ?_ ?_ ?_
    · intro _ s hs
      refine X.expr cx hs (EX.q1 (S := S) cx hq.app (PE.oneV cx LE (hone.mono fun _ => mem_R)) (KQ.madd hK) (PE.letter cx LE rfl rfl hat) (P := NowX ad T (Y ++ R') r) (fun v ⟨t, e⟩ => by rw [e]; exact add_walk hK (d := 3) cx (rm.less (by decide)) hq inv.hf (first_one _) (by omega) (by rw [h97, ← hc]; exact hT))) (fun v n' r' h a => by rw [h.1]; exact fun z => nomatch z) ?_
      rintro _ _ r'' s ⟨rfl, hgn2, l', ad', hx', rfl, hq'⟩ hs
      exact X.nil (g := g) hs ⟨rfl, l', ad', r'', hx'.trans hax, hq', hgn.trans hgn2, hs⟩
    · intro _ s hs
      refine X.expr cx hs (EX.q1 (S := S) cx hq.app (PE.oneV cx LE (hone.mono fun _ => mem_R)) (KQ.madd_alt hK) (PE.codeV cx LE (hcode.mono fun _ => mem_R)) (P := NowX ad T (Y ++ R') r) (fun v e => by rw [e]; exact (all_walk hK 3).1 f A _ l _ _ ad S T _ tc cx (rm.less (by decide)) hq hT)) (fun v n' r' h a => by rw [h.1]; exact fun z => nomatch z) ?_
      rintro _ _ r'' s ⟨rfl, hgn2, l', ad', hx', rfl, hq'⟩ hs
      exact X.nil (g := g) hs ⟨rfl, l', ad', r'', hx'.trans hax, hq', hgn.trans hgn2, hs⟩
    rintro s ⟨l', ad', r', hax', hq', hgn', hs⟩
    have hcod : ∀ v ∈ ins held c, ∃ c < 24, v = lawCode c := by
      intro v hv
      rcases (ins_mem v).mp hv with h | rfl
      · exact hcodes v h
      · exact ⟨at', hat, hc⟩
    have inv'' := inv'.more (b' := b + 4) (by omega)
    refine X.if hs (PT.cmpS (PE.codeC cx LE (hcode.mono fun _ => mem_R)) (PE.nameV cx n8 rfl) (cmpNotIn (k := c) (mem_R hhm) hhn)) ?_ ?_
    · intro hne s hs
      have hne : c ∉ held := by simpa using hne
      have e : ins held c = held ++ [c] := by unfold ins; rw [if_neg hne]
      rw [if_neg hne, e] at inv''
      rw [e] at hcod
      refine X.appendR cx hs n8 rfl hhm (PE.codeC cx LE (hcode.mono fun _ => mem_R)) (by have := hhn.len; omega) ?_
      intro u s hu hs ndR
      refine X.assign cx hs n10 rfl (PE.toI (b := (used + 1 : Nat)) (PE.add (PE.nameI cx n10 rfl) PE.cInt) (by push_cast; rfl)) ?_
      rintro _ s ⟨tu', rfl⟩ hs
      exact X.nil (g := g) hs (X.nil (g := g) hs ⟨rfl, hA, held ++ [c], _, l', _, ad', T, room, used + 1, vo, tr, tu', r', hax', hq', kn.putHeld ndR (hhn.snoc hu), inv'', hgn', hcod, hs⟩)
    · intro hne s hs
      have hne : c ∈ held := by simpa using hne
      have e : ins held c = held := by unfold ins; rw [if_pos hne]
      rw [if_pos hne, e] at inv''
      rw [e] at hcod
      exact X.nil (g := g) hs (X.nil (g := g) hs ⟨rfl, hA, held, _, l', _, ad', T, room, used, vo, tr, tu, r', hax', hq', kn, inv'', hgn', hcod, hs⟩)
  intro _ s hs
  refine X.if hs (PT.or2 (hdeed 4 _ _ _ _) (fun _ => hdeed 5 _ _ _ _)) ?_ ?_
  · -- remove
    intro _ s hs
    obtain ⟨T, hT, inv'⟩ := inv.remove hc32
    refine X.ifJ (fun s => ∃ (l' : Ledger), QFm l' ad T ∧ St f (lvs sA (some (.int n tn)) a.nA tl gr x2 a.oA (some (.int at' ta)) hA room tr used tu (some (.int deed td)) (some (.int more tm)) vo) (l' ++ (Y ++ R')) r s) hs (hdeed 4 _ _ _ _) ?_ ?_ ?_
    · intro _ s hs
      refine X.expr cx hs (EX.q1 (S := S) cx hq.app (PE.oneV cx LE (hone.mono fun _ => mem_R)) (KQ.mremove hK) (PE.letter cx LE rfl rfl hat) (P := Now ad T (Y ++ R') r (· = .none)) (fun v ⟨t, e⟩ => by rw [e]; exact remove_walk hK cx (rm.less (by decide)) hq inv.hf (first_one _) (by omega) (by rw [h97, ← hc]; exact hc32) (by rw [h97, ← hc]; exact hT))) (fun v n' r' h a => by rw [h.1]; exact fun z => nomatch z) ?_
      rintro _ _ _ s ⟨rfl, rfl, l', rfl, hq'⟩ hs
      exact X.nil (g := g) hs ⟨rfl, l', hq', hs⟩
    · intro _ s hs
      refine X.expr cx hs (EX.q1 (S := S) cx hq.app (PE.oneV cx LE (hone.mono fun _ => mem_R)) (KQ.mremove_alt hK) (PE.codeV cx LE (hcode.mono fun _ => mem_R)) (P := Now ad T (Y ++ R') r (· = .none)) (fun v e => by rw [e]; exact remove_alt hK cx (rm.less (by decide)) hq hc32 hT)) (fun v n' r' h a => by rw [h.1]; exact fun z => nomatch z) ?_
      rintro _ _ _ s ⟨rfl, rfl, l', rfl, hq'⟩ hs
      exact X.nil (g := g) hs ⟨rfl, l', hq', hs⟩
    rintro s ⟨l', hq', hs⟩
    obtain ⟨occ, hocm, hocd⟩ := hcode
    refine X.assignCompT (i := 8) (x := "other") (d := 60) (p := notN c) (its := hits.toArray) (cl := [("code", a.cC)]) (hsw := by rw [LE.env]; with_unfolding_all rfl) cx rm hs n8 rfl ?_ (by decide) rfl rfl ?_ (by rw [List.size_toArray]; have := hhn.len; omega) ?_ ?_ ?_
    · rw [LE.env]; rfl
    · exact EX.listV (PE.nameV cx n8 rfl) (mem_R hhm)
    · intro m j v N C oC m₂ Q E s hj hC hNs hx hsub hs kk
      rw [List.getElem?_toArray] at hj
      obtain ⟨hh, _, tt, rfl⟩ := hhn.get hj
      exact wpAny_isTrue_Compare1 (LCgL.ld_own hs.N hC hNs hx (lcf_cell hs.N rfl (hsub _ (List.mem_append_right _ (mem_R hocm))) hocd (ne_int (wpAny_truthy_bool (kk _ hs))) rfl (by rw [LE.env]; rfl)))
    · intro m j v N C oC m₂ Q E s hj hC hNs hx hsub hs kk
      exact LCgL.ld_own hs.N hC hNs hx (kk v _ rfl hs)
    intro D m s hs
    have hs := St.junk (m := (D, lst (hits.toArray.toList.filter (notN c))) :: m) hs
    have kn' := Kn.newHeld kn (m := m) (its := hits.filter (notN c)) (ep := (hits.filter (notN c)).length) (St.ndR hs) (hhn.filter (n := c))
    exact X.nil (g := g) hs (X.nil (g := g) hs ⟨rfl, D, held.filter (· != c), _, l', _, ad, T, room, used, vo, tr, tu, r, hax, hq', kn', inv'.more (by omega), hgn, fun v hv => hcodes v (List.mem_filter.mp hv).1, hs⟩)
  intro _ s hs
  refine X.if hs (PT.and3 (hdeed 6 _ _ _ _) (fun _ => PT.toB (PT.eq (PE.modN (c := 3) (PE.nameI cx n12 rfl) (by decide)) PE.cInt) (natBeq (more % 3) 0)) (fun _ _ => PT.toB (PT.lt (PE.nameI cx n9 rfl) PE.cInt) (natLt room 16))) ?_ ?_
  · -- resize
    intro ht s hs
    have hr : room < 16 := by
      simp only [Bool.and_eq_true, decide_eq_true_eq] at ht
      exact ht.2.2
    obtain ⟨T, hT, inv'⟩ := inv.resize hr
    refine X.expr cx hs (EX.q0 (S := S) cx hq.app (PE.oneV cx LE (hone.mono fun _ => mem_R)) (KQ.mresize hK) ((all_walk hK 2).2 f A _ l (Y ++ R') r ad S T (S.q + 1) .none _ cx (rm.less (by decide)) hq hT (.inl ⟨rfl, rfl, rfl⟩))) (fun v n' r' h a => by rw [h.1]; exact fun z => nomatch z) ?_
    rintro _ _ r'' s ⟨rfl, hgn2, l', ad', hx', rfl, hq'⟩ hs
    refine X.assign cx hs n9 rfl (PE.toI (b := (room * 2 : Nat)) (PE.mulR (PE.nameI cx n9 rfl) PE.cInt (by decide)) (by push_cast; rfl)) ?_
    rintro _ s ⟨tr', rfl⟩ hs
    refine X.assign cx hs n10 rfl (PE.toI (b := (held.length : Nat)) (PE.len cx gL (by rw [hK]; k_is) (PE.nameV cx n8 rfl) (mem_R hhm) (by rw [hhn.size]; omega)) (by rw [hhn.size])) ?_
    rintro _ s ⟨tu', rfl⟩ hs
    exact X.nil (g := g) hs (X.nil (g := g) hs (X.nil (g := g) hs ⟨rfl, hA, held, _, l', _, ad', T, room * 2, held.length, vo, tr', tu', r'', hx'.trans hax, hq', kn, inv'.more (by omega), hgn.trans hgn2, hcodes, hs⟩))
  intro _ s hs
  obtain ⟨oits, oep, hom, hon⟩ := kn.oth
  replace hom : (a.oA, listOf oits.toArray oep) ∈ R' := hom
  replace hon : NA oits a.others := hon
  obtain ⟨ad2, S2, j2, hx2, hq2, hS2, hj2, hf2, hol, hond⟩ := hY.ex
  have hq2' : QFm (Y ++ R') ad2 S2 := hq2.app
  refine X.if hs (PT.and3 (hdeed 6 _ _ _ _) (fun _ => PT.toB (PT.eq (PE.modN (c := 3) (PE.nameI cx n12 rfl) (by decide)) PE.cInt) (natBeq (more % 3) 1)) (fun _ _ => PT.or2 (PT.val (PE.name cx n4 rfl rfl) (fun _ => rfl))
    (fun _ => PT.toB (PT.lt (PE.add (PE.nameI cx n10 rfl) (PE.len cx gL (by rw [hK]; k_is) (PE.nameV cx n6 rfl) (mem_R hom) (by rw [hon.size]; omega))) (PE.nameI cx n9 rfl)) (b := decide (used + a.others.length < room)) (by rw [hon.size, ← Int.natCast_add, natLt])))) ?_ ?_
  · -- merge
    intro ht s hs
    have hr : gr = true ∨ used + a.others.length < room := by
      simp only [Bool.and_eq_true, Bool.or_eq_true, decide_eq_true_eq] at ht
      exact ht.2.2
    obtain ⟨m2, hm2, hnd2, hmem2⟩ := hS2.hashes hj2
    have hoc32 : ∀ v ∈ a.others, v < 2 ^ 32 := fun v hv => by
      obtain ⟨c, h1, rfl⟩ := hY.code v hv
      exact lawCode_lt h1
    obtain ⟨T, hT, inv'⟩ := inv.merge hm2 hnd2 hmem2 hond hoc32 (by omega) hr
    refine X.expr cx hs (EX.q1 (S := S) cx hq.app (PE.oneV cx LE (hone.mono fun _ => mem_R)) (KQ.mmerge hK) (PE.nameV cx n5 rfl) (P := NowX ad T (Y ++ R') r) (fun v e => by rw [e, ← hx2]; exact merge_walk hK (d := 3) cx (rm.less (by decide)) hq hq2' inv.hf hf2 hT)) (fun v n' r' h a => by rw [h.1]; exact fun z => nomatch z) ?_
    rintro _ _ r1 s ⟨rfl, hgn2, l', ad', hx', rfl, hq'⟩ hs
    refine X.forList (la := a.oA) (its := oits.toArray) (ep := oep) (d := 60) (fun j vs N r' => r' = r1 ∧ ∃ (R2 : Ledger) (vo : Option Value) (tu : Tok), vs = lvs sA (some (.int n tn)) a.nA tl gr x2 a.oA (some (.int at' ta)) hA room tr (used + (((a.others.take j).foldl ins held).length - held.length)) tu (some (.int deed td)) (some (.int more tm)) vo ∧
      N = l' ++ (Y ++ R2) ∧ (a.oA, listOf oits.toArray oep) ∈ R2 ∧ Kn R2 { a with hA := hA, held := (a.others.take j).foldl ins held, xC := some (.int (c : Nat) tc) }) cx rm n13 ?_ hs ?_ (EX.listW (PE.nameV cx n6 rfl)) ?_ ?_ ?_
    · rintro j vs N r' ⟨_, R2, vo, tu, rfl, _⟩
      exact ⟨vo, rfl⟩
    · refine ⟨rfl, R', vo, tu, ?_, rfl, hom, kn⟩
      rw [List.take_zero, List.foldl_nil, Nat.sub_self, Nat.add_zero]
    · rintro j vs N r' ⟨_, R2, vo, tu, rfl, rfl, hm, _⟩
      exact mem_R hm
    · rintro j v vs N T0 r' s hj ⟨rfl, R2, vo, tu, rfl, rfl, hm, kn⟩ hs
      rw [List.getElem?_toArray] at hj
      obtain ⟨w, hw, tw, rfl⟩ := hon.get hj
      have htk : a.others.take (j + 1) = a.others.take j ++ [w] := by rw [List.take_add_one, hw]; rfl
      have hlen := fold_ins_len (a.others.take j) held
      have hln2 : ((a.others.take j).foldl ins held).length ≤ held.length + 4 := by
        have := fold_ins_le (a.others.take j) held
        rw [List.length_take] at this
        omega
      rw [htk, List.foldl_append]
      show wpAny _ _ _ (fun fl s' => _ ∧ ∃ vs' N' r'', (r'' = r' ∧ ∃ (R2 : Ledger) (vo : Option Value) (tu : Tok), vs' = lvs sA (some (.int n tn)) a.nA tl gr x2 a.oA (some (.int at' ta)) hA room tr (used + ((ins ((a.others.take j).foldl ins held) w).length - held.length)) tu (some (.int deed td)) (some (.int more tm)) vo ∧ N' = l' ++ (Y ++ R2) ∧ (a.oA, listOf oits.toArray oep) ∈ R2 ∧ Kn R2 { a with hA := hA, held := ins ((a.others.take j).foldl ins held) w, xC := some (.int (c : Nat) tc) }) ∧ _) _ _
      generalize (a.others.take j).foldl ins held = hj at kn hlen hln2 hs
      have hs := St.intoX hs
      obtain ⟨jits, jep, hjm, hjn⟩ := kn.held
      replace hjm : (hA, listOf jits.toArray jep) ∈ R2 := hjm
      replace hjn : NA jits hj := hjn
      replace hs : St f (lvs sA (some (.int n tn)) a.nA tl gr x2 a.oA (some (.int at' ta)) hA room tr (used + (hj.length - held.length)) tu (some (.int deed td)) (some (.int more tm)) (some (.int w tw))) (l' ++ ((T0 ++ Y) ++ R2)) r' s := hs
      refine X.if hs (PT.cmpS (PE.nameI cx n13 rfl) (PE.nameV cx n8 rfl) (cmpNotIn (k := w) (mem_R hjm) hjn)) ?_ ?_
      · intro hne s hs
        have hne : w ∉ hj := by simpa using hne
        have e : ins hj w = hj ++ [w] := by unfold ins; rw [if_neg hne]
        rw [e]
        have hAo : hA ≠ a.oA := kn.ne (i := 6) (j := 7) rfl rfl (by decide)
        refine X.appendR cx hs n8 rfl hjm (PE.nameI cx n13 rfl) (by have := hjn.len; omega) ?_
        intro u s hu hs ndR
        refine X.assign cx hs n10 rfl (PE.toI (b := (used + ((hj ++ [w]).length - held.length) : Nat)) (PE.add (PE.nameI cx n10 rfl) PE.cInt) (by rw [List.length_append]; simp only [List.length_cons, List.length_nil]; omega)) ?_
        rintro _ s ⟨tu', rfl⟩ hs
        exact X.nil (g := g) hs (X.nil (g := g) hs ⟨.inl rfl, _, l' ++ (Y ++ Mine.put hA _ R2), r', ⟨rfl, _, _, tu', rfl, rfl, mem_put_ne hm (Ne.symm hAo), kn.putHeld ndR (hjn.snoc hu)⟩, St.outX hs⟩)
      · intro hne s hs
        have hne : w ∈ hj := by simpa using hne
        have e : ins hj w = hj := by unfold ins; rw [if_pos hne]
        rw [e]
        exact X.nil (g := g) hs (X.nil (g := g) hs ⟨.inl rfl, _, l' ++ (Y ++ R2), r', ⟨rfl, _, _, tu, rfl, rfl, hm, kn⟩, St.outX hs⟩)
    rintro T0 vs N r' s ⟨rfl, R2, vo, tu, rfl, rfl, hm, kn⟩ hs
    have hs := hs.perm assoc_perm
    have kn := kn.mono (R' := R2 ++ T0) fun _ => List.mem_append_left _
    have htk : a.others.take oits.toArray.size = a.others := by rw [hon.size, List.take_length]
    rw [htk] at hs kn
    have hcod : ∀ v ∈ a.others.foldl ins held, ∃ c < 24, v = lawCode c := fun v hv => ((fold_ins_mem _ _ v).mp hv).elim (hcodes v) (hY.code v)
    refine X.ifEF hs (ET.neSorted (its := oits) (ep := oep) cx rm gS (by rw [hK]; k_is) (EX.post (EX.q0 (S := S2) (ad := ad2) cx (hq2.mono fun _ => mem_X) (PE.name cx n5 rfl (by rw [hx2])) (KQ.mget_hashes hK) (get_hashes hK cx (rm.less (by decide)) (hq2.mono fun _ => mem_X) hm2 (by have := len_congr hond hnd2 hmem2; omega))) fun v n' r' h => h.lo ((List.perm_ext_iff_of_nodup hnd2 hond).mpr hmem2) (by omega))
      (fun n' r' => PE.nameV cx n6 rfl) (mem_R (List.mem_append_left _ hm)) hon (by omega)) (fun b n' r' h => h.1) ?_
    rintro _ r2 s ⟨_, hg2, m, rfl⟩ hs
    have hs := St.junk hs
    have kn := kn.mono (R' := m ++ (R2 ++ T0)) fun _ => List.mem_append_right _
    exact X.nil (g := g) hs (X.nil (g := g) hs (X.nil (g := g) hs (X.nil (g := g) hs ⟨rfl, hA, _, _, l', _, ad', T, room, _, vo, tr, tu, r2, hx'.trans hax, hq', kn, inv'.more (by omega), (hgn.trans hgn2).trans hg2, hcod, hs⟩)))
  intro _ s hs
  have hlenP : ∀ vs r (h8 : vs[8]? = some (some (.ref hA))) l R' (hm : (hA, listOf hits.toArray hep) ∈ R') (p1 p2 pos : Pos), PE g f A vs (l ++ (Y ++ R')) r (.Call (.Name "len" p1) [.Name "held" p2] [] pos) (isI (held.length : Nat)) := fun vs r h8 l R' hm p1 p2 pos =>
    PE.toI (PE.len cx gL (by rw [hK]; k_is) (PE.nameV cx n8 h8) (mem_R hm) (by rw [hhn.size]; omega)) (by rw [hhn.size])
  refine X.if hs (PT.all (AL.cons (hdeed 6 _ _ _ _) fun _ => AL.cons (PT.toB (PT.eq (PE.modN (c := 3) (PE.nameI cx n12 rfl) (by decide)) PE.cInt) (natBeq (more % 3) 2)) fun _ => AL.cons (PT.not (PT.val (PE.name cx n4 rfl rfl) (fun _ => rfl))) fun _ => AL.cons (PT.toB (PT.lt (PE.nameI cx n9 rfl) PE.cInt) (natLt room 32)) fun _ =>
    AL.cons (PT.or2 (PT.toB (PT.ge (hlenP _ _ rfl _ _ hhm _ _ _) PE.cInt) (b := decide (8 ≤ held.length)) (by simp only [decide_eq_decide]; omega)) (fun _ => PT.toB (PT.eq (PE.nameI cx n10 rfl) (hlenP _ _ rfl _ _ hhm _ _ _)) (natBeq used held.length))) fun _ => AL.nil)) ?_ ?_
  · -- shrink
    intro ht s hs
    have ht' : gr = false ∧ (8 ≤ held.length ∨ used = held.length) := by
      simp only [Bool.and_eq_true, Bool.or_eq_true, Bool.not_eq_true', decide_eq_true_eq, beq_iff_eq, Bool.and_true] at ht
      exact ⟨ht.2.2.1, ht.2.2.2.2⟩
    obtain ⟨rfl, hor⟩ := ht'
    rcases Nat.lt_or_ge held.length 8 with h8 | h8
    · have hu : used = held.length := by omega
      obtain ⟨T, hT, inv'⟩ := inv.shrink h8 hu
      refine X.ifEF hs (P := fun b n' r' => b = false ∧ Gn r r' ∧ ∃ l' R2 ad', ad'.x = x ∧ n' = l' ++ (Y ++ R2) ∧ QFm l' ad' T ∧ (hA, listOf hits.toArray hep) ∈ R2 ∧ Kn R2 { a with hA := hA, held := held, xC := some (.int (c : Nat) tc) })
        (ET.cmp (P1 := fun v n' r' => v = .bool false ∧ Gn r r' ∧ ∃ l' R2 ad', ad'.x = x ∧ n' = l' ++ (Y ++ R2) ∧ QFm l' ad' T ∧ (hA, listOf hits.toArray hep) ∈ R2 ∧ Kn R2 { a with hA := hA, held := held, xC := some (.int (c : Nat) tc) })
          (P2 := fun u v n' r' => u = .bool false ∧ v = .bool false ∧ Gn r r' ∧ ∃ l' R2 ad', ad'.x = x ∧ n' = l' ++ (Y ++ R2) ∧ QFm l' ad' T ∧ (hA, listOf hits.toArray hep) ∈ R2 ∧ Kn R2 { a with hA := hA, held := held, xC := some (.int (c : Nat) tc) }) ?_ ?_ ?_) (fun b n' r' h => h.1) ?_
      · refine EX.refused hK cx gF LE kn rfl (clos := [("one", a.cO)]) (by rw [LE.env]; rfl) ?_
        intro fL m o kn' hl
        have hone' : CellV a.cO (some (.ref ad.x)) (m ++ Mine.put 522 o R') := by have := kn'.one; rw [hax, ← hx]; exact this
        have hhm' : (hA, listOf hits.toArray hep) ∈ m ++ Mine.put 522 o R' := List.mem_append_right _ (mem_put_ne hhm (Ne.symm (kn.ne (i := 4) (j := 6) rfl rfl (by decide))))
        refine CL.post (refused_no (d := 50) (P := fun n' r' => Gn r r' ∧ ∃ l' ad', ad'.x = x ∧ n' = l' ++ (Y ++ (m ++ Mine.put 522 o R')) ∧ QFm l' ad' T) hK cx (rm.less (by decide)) hl ?_) ?_
        · intro f' A' vs' cx' rm'
          refine CL.lam (d := 49) (P := fun _ n' r' => Gn r r' ∧ ∃ l' ad', ad'.x = x ∧ n' = l' ++ (Y ++ (m ++ Mine.put 522 o R')) ∧ QFm l' ad' T) cx' rm' hl (by decide) (fun _ _ _ => rfl) ?_
          intro f2 A2 B
          obtain ⟨cd, henv⟩ := B.env
          refine EX.post (EX.q1 (S := S) B.cx hq.app (PE.free B.cx (by rw [henv]; rfl) (by rw [henv]; rfl) (hone'.mono fun _ => mem_R)) (KQ.mresize hK) PE.cInt (P := NowX ad T (Y ++ (m ++ Mine.put 522 o R')) r) (fun v ⟨t, e⟩ => by rw [e]; exact (all_walk hK 2).2 f2 A2 _ l _ r ad S T 3 (.int 3 t) _ B.cx (B.rm.less (by decide)) hq hT (.inr ⟨⟨t, rfl⟩, rfl⟩))) ?_
          rintro v n' r' ⟨_, hg, l', ad', hx', rfl, hq'⟩
          exact ⟨hg, l', ad', hx'.trans hax, rfl, hq'⟩
        · rintro v n' r' ⟨rfl, hg, l', ad', hx', rfl, hq'⟩
          exact ⟨rfl, hg, l', _, ad', hx', rfl, hq', hhm', kn'⟩
      · rintro u n' r' ⟨rfl, hg, l', R2, ad', hx', rfl, hq', hhm', kn'⟩
        refine EX.post (PE.ex (PE.cmpGe (hlenP _ _ rfl _ _ hhm' _ _ _) PE.cInt)) ?_
        rintro v n' r' ⟨hv, rfl, rfl⟩
        refine ⟨rfl, ?_, hg, l', R2, ad', hx', rfl, hq', hhm', kn'⟩
        rw [hv, decide_eq_false (by omega)]
      · rintro _ _ n' r' Q E s ⟨rfl, rfl, h⟩ hs kk
        exact ne_bool (kk _ _ _ s ⟨rfl, h⟩ hs)
      rintro _ r2 s ⟨_, hg2, l', R2, ad', hx', rfl, hq', hhm', kn'⟩ hs
      refine X.if hs (PT.toB (PT.lt (hlenP _ _ rfl _ _ hhm' _ _ _) PE.cInt) (natLt held.length 8)) ?_ (fun h => absurd h8 (of_decide_eq_false h))
      intro _ s hs
      refine X.assign cx hs n9 rfl PE.cInt ?_
      rintro _ s ⟨tr', rfl⟩ hs
      exact X.nil (g := g) hs (X.nil (g := g) hs (X.nil (g := g) hs (X.nil (g := g) hs (X.nil (g := g) hs (X.nil (g := g) hs ⟨rfl, hA, held, _, l', _, ad', T, 8, used, vo, tr', tu, r2, hx', hq', kn', inv'.more (by omega), hgn.trans hg2, hcodes, hs⟩)))))
    · have h8a : 8 ≤ S.added := Nat.le_trans h8 inv.len
      refine X.ifEF hs (P := fun b n' r' => b = false ∧ r = r' ∧ ∃ R2, n' = l ++ (Y ++ R2) ∧ (hA, listOf hits.toArray hep) ∈ R2 ∧ Kn R2 { a with hA := hA, held := held, xC := some (.int (c : Nat) tc) })
        (ET.cmp (P1 := fun v n' r' => v = .bool true ∧ r = r' ∧ ∃ R2, n' = l ++ (Y ++ R2) ∧ (hA, listOf hits.toArray hep) ∈ R2 ∧ Kn R2 { a with hA := hA, held := held, xC := some (.int (c : Nat) tc) })
          (P2 := fun u v n' r' => u = .bool true ∧ v = .bool true ∧ r = r' ∧ ∃ R2, n' = l ++ (Y ++ R2) ∧ (hA, listOf hits.toArray hep) ∈ R2 ∧ Kn R2 { a with hA := hA, held := held, xC := some (.int (c : Nat) tc) }) ?_ ?_ ?_) (fun b n' r' h => h.1) ?_
      · refine EX.refused hK cx gF LE kn rfl (clos := [("one", a.cO)]) (by rw [LE.env]; rfl) ?_
        intro fL m o kn' hl
        have hone' : CellV a.cO (some (.ref ad.x)) (m ++ Mine.put 522 o R') := by have := kn'.one; rw [hax, ← hx]; exact this
        have hhm' : (hA, listOf hits.toArray hep) ∈ m ++ Mine.put 522 o R' := List.mem_append_right _ (mem_put_ne hhm (Ne.symm (kn.ne (i := 4) (j := 6) rfl rfl (by decide))))
        refine CL.post (refused_yes (d := 50) hK cx (rm.less (by decide)) LE.outer hl ?_) ?_
        · intro f' A' vs' cx' rm'
          refine CR.lam (d := 49) cx' rm' hl (by decide) (fun _ _ _ => rfl) ?_
          intro f2 A2 B
          obtain ⟨cd, henv⟩ := B.env
          exact ER.q1 (S := S) B.cx hq.app (PE.free B.cx (by rw [henv]; rfl) (by rw [henv]; rfl) (hone'.mono fun _ => mem_R)) (KQ.mresize hK) PE.cInt (fun v ⟨t, e⟩ => by rw [e]; exact resize_err hK hP B.cx (B.rm.less (by decide)) hq.app h8a)
        · rintro v n' r' ⟨rfl, rfl, rfl⟩
          exact ⟨rfl, rfl, _, rfl, hhm', kn'⟩
      · rintro u n' r' ⟨rfl, rfl, R2, rfl, hhm', kn'⟩
        refine EX.post (PE.ex (PE.cmpGe (hlenP _ _ rfl _ _ hhm' _ _ _) PE.cInt)) ?_
        rintro v n' r' ⟨hv, rfl, rfl⟩
        refine ⟨rfl, ?_, rfl, R2, rfl, hhm', kn'⟩
        rw [hv, decide_eq_true (by omega)]
      · rintro _ _ n' r' Q E s ⟨rfl, rfl, h⟩ hs kk
        exact ne_bool (kk _ _ _ s ⟨rfl, h⟩ hs)
      rintro _ r2 s ⟨_, rfl, R2, rfl, hhm', kn'⟩ hs
      refine X.ifF hs (PT.toB (PT.lt (hlenP _ _ rfl _ _ hhm' _ _ _) PE.cInt) ((natLt held.length 8).trans (decide_eq_false (by omega)))) ?_
      intro s hs
      repeat (refine X.nil (g := g) hs ?_)
      exact ⟨rfl, hA, held, _, l, _, ad, S, room, used, vo, tr, tu, r, hax, hq, kn', inv.more (by omega), hgn, hcodes, hs⟩
  intro _ s hs
  have done : ∀ s, St f (lvs sA (some (.int n tn)) a.nA tl gr x2 a.oA (some (.int at' ta)) hA room tr used tu (some (.int deed td)) (some (.int more tm)) vo) (l ++ (Y ++ R')) r s → KSt f a x2 sA gr x r0 Y (b + 4) (.int n tn) at' ta deed td more tm tl s := fun s hs =>
    ⟨hA, held, _, l, _, ad, S, room, used, vo, tr, tu, r, hax, hq, kn, inv.more (by omega), hgn, hcodes, hs⟩
  refine X.if hs (hdeed 6 _ _ _ _) ?_ ?_
  · -- in
    intro _ s hs
    refine X.ifF hs (PT.toB (PE.cmpNeB (PE.inQ (S := S) cx hq.app (PE.letter cx LE rfl rfl hat) (PE.oneV cx LE (hone.mono fun _ => mem_R)) (KQ.m__contains__ hK).hf (KQ.m__contains__ hK).ht (fun v ⟨t, e⟩ => by rw [e]; exact contains_walk hK cx (rm.less (by decide)) hq.app inv.hf (first_one _) (by omega) (by rw [h97, ← hc]; exact hc32) (by rw [h97, ← hc]; exact inv.check hc32))) (hinB _ _ _)) (by simp)) ?_
    intro s hs
    repeat (refine X.nil (g := g) hs ?_)
    exact ⟨rfl, done s hs⟩
  intro _ s hs
  refine X.if hs (PT.eq (PE.modN (c := 2) (PE.nameI cx n12 rfl) (by decide)) PE.cInt) ?_ ?_
  · intro _ s hs
    refine X.ifF hs (PT.toB (PE.cmpNeB (PE.of (EX.q1 (S := S) cx hq.app (PE.oneV cx LE (hone.mono fun _ => mem_R)) (KQ.mcheck hK) (PE.letter cx LE rfl rfl hat) (P := still _ _ (isB (decide (c ∈ held)))) (fun v ⟨t, e⟩ => by rw [e]; exact check_walk hK cx (rm.less (by decide)) hq.app inv.hf (first_one _) (by omega) (by rw [h97, ← hc]; exact hc32) (by rw [h97, ← hc]; exact inv.check hc32)))) (hinB _ _ _)) (by simp)) ?_
    intro s hs
    repeat (refine X.nil (g := g) hs ?_)
    exact ⟨rfl, done s hs⟩
  · intro _ s hs
    refine X.ifF hs (PT.toB (PE.cmpNeB (PE.of (EX.q1 (S := S) cx hq.app (PE.oneV cx LE (hone.mono fun _ => mem_R)) (KQ.mcheck_alt hK) (PE.codeV cx LE (hcode.mono fun _ => mem_R)) (P := still _ _ (isB (decide (c ∈ held)))) (fun v e => by rw [e]; exact check_alt hK cx (rm.less (by decide)) hq.app hc32 (inv.check hc32)))) (hinB _ _ _)) (by simp)) ?_
    intro s hs
    repeat (refine X.nil (g := g) hs ?_)
    exact ⟨rfl, done s hs⟩
  -- the look
  rintro s ⟨hA, held, xc, l, R, ad, S, room, used, vo, tr, tu, r, hax, hq, kn, inv, hgn, hcodes, hs⟩
  obtain ⟨hits, hep, hhm, hhn⟩ := kn.held
  replace hhm : (hA, listOf hits.toArray hep) ∈ R := hhm
  replace hhn : NA hits held := hhn
  have hlen48 := inv.small (by omega)
  have hone : CellV a.cO (some (.ref ad.x)) R := by have := kn.one; rw [hax, ← hx]; exact this
  obtain ⟨hl, hhl, hperm⟩ := inv.hashes
  refine X.ifEF hs (ET.andF (b₁ := deed != 3) (P := fun n' r' => Gn r r' ∧ ∃ m, n' = m ++ (l ++ (Y ++ R))) (PT.toB (PT.ne (PE.nameI cx n11 rfl) PE.cInt) (natBne deed 3)) (fun _ => ET.neSorted (its := hits) (ep := hep) cx rm gS (by rw [hK]; k_is)
    (EX.post (EX.q0 (S := S) (ad := ad) cx hq.app (PE.oneV cx LE (hone.mono fun _ => mem_R)) (KQ.mget_hashes hK) (get_hashes hK cx (rm.less (by decide)) hq.app hhl (by rw [hperm.length_eq]; omega))) fun v n' r' h => h.lo hperm (by omega)) (fun n' r' => PE.nameV cx n8 rfl) (mem_R hhm) hhn (by omega)) ⟨Gn.refl r, [], rfl⟩) (fun b n' r' h => h.1) ?_
  rintro _ r2 s ⟨_, hg2, m, rfl⟩ hs
  have hs := St.junk hs
  have kn := kn.mono (R' := m ++ R) fun _ => List.mem_append_right _
  exact X.nil (g := g) hs ⟨rfl, _, _, r2, ⟨hA, held, xc, l, _, ad, S, room, used, _, _, _, _, vo, tl, tr, tu, rfl, rfl, hax, hq, kn, inv, hgn.trans hg2, hcodes⟩, hs⟩
end
end Mine
end

section
set_option maxRecDepth 100000
open PySem PySem.W PySem.Builtin PySem.Builtin.ObjectAttr PyProof.Rows PySem.Calls
open PyProof.Rows.LCg (NsObj lst)
set_option maxHeartbeats 8000000
namespace Mine
theorem dummyFill35 : (hd.heap_39 = hd.heap_39) ∧ (PySem.Challenge.rw_sv0018_01 = PySem.Challenge.rw_sv0018_01) := by
  k_fill
  exact ⟨rfl, rfl⟩
section
variable {g : Gl} {f : Fm} {A : Around} {vs : List (Option Value)} {news l Y R T m : Ledger} {r r0 : Rs} {s : Shared} {fa cdA sA P x2 x : Addr} {a : LAd} {b : Nat} {gr : Bool}
theorem EX.refusedNew {p1 p2 p3 p4 p5 p6 : Pos} {params : Arguments} {scope : Scope} {n : Int} {kk q : Nat} {a' : LAd} (hK : IsK g) (hP : IsP g) (cx : Cx g f) (rm : Rm f A 60) (LE : LEnv f fa cdA a) (kn : Kn R a') (haq : a'.q = a.q) (gF : f.env.kindOf "_law_refused" = some .globalImplicit) (hq : q = 2 ∨ q = 32) (hn : n = (q : Int)) (hsc : scope.names.lookup ("QuotientFilter" : Str) = some .globalImplicit)
    (hok : lamOK params scope = true) (hcl : closureFor scope f.env = pure []) (hdef : defaultsOf params f.env = ([], [])) (hb : ∀ pm c' ctv, bindArgs (kla_fn "<lambda>" a.q params (.Call (.Name "QuotientFilter" p2) [.Constant (.int n) kk p3] [] p4) scope [] pm (.ref c') ctv) ⟨[], []⟩ = pure []) :
    EX g f A vs (l ++ (Y ++ R)) r (.Call (.Name "_law_refused" p1) [.Lambda params (.Call (.Name "QuotientFilter" p2) [.Constant (.int n) kk p3] [] p4) scope p5] [] p6) (fun v n' r'' => ∃ b, v = .bool b ∧ b = true ∧ r = r'' ∧ ∃ R2, n' = l ++ (Y ++ R2) ∧ Kn R2 a') := by
  refine EX.refused hK cx gF LE kn haq (clos := []) hcl ?_ hdef
  intro fL m o kn' hlm
  refine CL.post (refused_yes (d := 50) hK cx (rm.less (by decide)) LE.outer hlm ?_) ?_
  · intro f' A' vs' cx' rm'
    refine CR.lam (d := 49) cx' rm' hlm hok hb ?_
    intro f2 A2 B
    obtain ⟨cd, henv⟩ := B.env
    refine ER.new (C := 476) (fI := 203) B.cx (by rw [hK]; exact ⟨by k_is, by k_is, by k_is, by k_is⟩) (by rw [henv]; exact hsc) (by rw [hK]; k_is) (AR.cons (PE.toI PE.cInt hn) AR.nil) ?_
    rintro _ xa dx ⟨_, _, rfl, ⟨t, rfl⟩, rfl⟩
    exact init_err hK hP B.cx ((B.rm.less (d' := 13) (by decide)).new _ _) hq
  · rintro v n' r'' ⟨rfl, rfl, rfl⟩
    exact ⟨true, rfl, rfl, rfl, _, rfl, kn'⟩
theorem law_last1 (hK : IsK g) (hP : IsP g) (cx : Cx g f) (rm : Rm f A 60) (LE : LEnv f fa cdA a) (hx : a.xO = some (.ref x)) (hb : b ≤ 48) (hn4 : 4 ≤ a.nums.length) (hL : LState a x2 sA gr x r0 Y b vs news r) (hs : St f vs news r s) {Q : Flow → Shared → Prop} {E : Value → Shared → Prop}
    (k : ∀ (hA : Addr) (held : List Nat) (xc : Option Value) (Z R : Ledger) (room used : Nat) (vn vat vd vm vo : Option Value) (tl tr tu : Tok) (r' : Rs) (s' : Shared), Kn R { a with hA := hA, held := held, xC := xc } → Gn r0 r' → St f (lvs sA vn a.nA tl gr x2 a.oA vat hA room tr used tu vd vm vo) (Z ++ R) r' s' →
      wpAny g.M A (execs (lawBody.drop 14) f.env) Q E s') :
    wpAny g.M A (execs (lawBody.drop 11) f.env) Q E s := by
  obtain ⟨hA, held, xc, l, R, ad, S, room, used, vn, vat, vd, vm, vo, tl, tr, tu, rfl, rfl, hax, hq, kn, inv, hgn, hcodes⟩ := hL
  have gC := LE.glob (x := "_law_code") rfl
  have gS := LE.glob (x := "sorted") rfl
  have gR := LE.glob (x := "range") rfl
  have gF := LE.glob (x := "_law_refused") rfl
  have n7 := LE.at (i := 7) rfl
  have n8 := LE.at (i := 8) rfl
  obtain ⟨a1, ha1⟩ : ∃ x, a.nums[1]? = some x := ⟨a.nums[1]'(by omega), by simp⟩
  obtain ⟨nits, nep, hnm, hnn⟩ := kn.num
  have hlen48 := inv.small hb
  refine X.forRange (n := 12) (d := 60) (fun j vs N r' => r' = r ∧ N = l ++ (Y ++ R) ∧ ∃ vat, vs = lvs sA vn a.nA tl gr x2 a.oA vat hA room tr used tu vd vm vo) cx rm n7 ?_ hs ⟨rfl, rfl, vat, rfl⟩
    (EX.range3 cx gR (by rw [hK]; k_is) (PE.modN (c := 2) (PE.num (k := 1) cx LE rfl (mem_R hnm) hnn ha1 (by decide)) (by decide)) PE.cInt PE.cInt (by decide) (PyProof.noPylong_small (by decide))) ?_ ?_ ?_ ?_
  · rintro j vs N r' ⟨_, _, vat, rfl⟩
    exact ⟨vat, rfl⟩
  · rcases Nat.mod_two_eq_zero_or_one a1 with h | h <;> rw [h] <;> rfl
  · rcases Nat.mod_two_eq_zero_or_one a1 with h | h <;> rw [h] <;> rfl
  · rintro j t vs N T r' s hj ⟨rfl, rfl, vat, rfl⟩ hs
    have hs := St.intoX hs
    have hat : a1 % 2 + j * 2 < 24 := by omega
    have hone : CellV a.cO (some (.ref ad.x)) R := by have := kn.one; rw [hax, ← hx]; exact this
    obtain ⟨hits, hep, hhm, hhn⟩ := kn.held
    replace hhm : (hA, listOf hits.toArray hep) ∈ R := hhm
    replace hhn : NA hits held := hhn
    have e : (((a1 % 2 : Nat) : Int) + j * 2) = ((a1 % 2 + j * 2 : Nat) : Int) := by push_cast; rfl
    rw [e] at hs
    generalize a1 % 2 + j * 2 = at' at hs hat
    replace hs : St f (lvs sA vn a.nA tl gr x2 a.oA (some (.int (at' : Nat) t)) hA room tr used tu vd vm vo) (l ++ ((T ++ Y) ++ R)) r' s := hs
    refine X.ifF hs (PT.toB (PE.cmpNeB (PE.of (EX.q1 (S := S) cx hq.app (PE.oneV cx LE (hone.mono fun _ => mem_R)) (KQ.mcheck_alt hK) (PE.lawCode hK cx gC (rm.less (by decide)) (PE.nameI cx n7 rfl) hat) (P := still _ _ (isB (decide (lawCode at' ∈ held)))) (fun v ⟨t, e⟩ => by rw [e]; exact check_alt hK cx (rm.less (by decide)) hq.app (lawCode_lt hat) (inv.check (lawCode_lt hat)))))
      (PE.cmpS (PE.lawCode hK cx gC (rm.less (by decide)) (PE.nameI cx n7 rfl) hat) (PE.nameV cx n8 rfl) (cmpIn (k := lawCode at') (mem_R hhm) hhn))) (by simp)) ?_
    intro s hs
    exact X.nil (g := g) hs ⟨.inl rfl, _, _, r', ⟨rfl, rfl, _, rfl⟩, St.outX hs⟩
  rintro T vs N r' s ⟨rfl, rfl, vat, rfl⟩ hs
  have hs := St.intoX hs
  obtain ⟨hits, hep, hhm, hhn⟩ := kn.held
  replace hhm : (hA, listOf hits.toArray hep) ∈ R := hhm
  replace hhn : NA hits held := hhn
  obtain ⟨hl, hhl, hperm⟩ := inv.hashes
  -- merge refused, the filter still itself
  refine X.ifEF hs (ET.or2 (P1 := fun b n' r'' => b = false ∧ r' = r'' ∧ ∃ R2, n' = l ++ ((T ++ Y) ++ R2) ∧ (hA, listOf hits.toArray hep) ∈ R2 ∧ Kn R2 { a with hA := hA, held := held, xC := xc })
      (P2 := fun b n' r'' => b = false ∧ Gn r' r'' ∧ ∃ R2 m, n' = m ++ (l ++ ((T ++ Y) ++ R2)) ∧ Kn R2 { a with hA := hA, held := held, xC := xc })
      (ET.mono (ET.not (ET.val (P := fun b n' r'' => b = true ∧ r' = r'' ∧ ∃ R2, n' = l ++ ((T ++ Y) ++ R2) ∧ (hA, listOf hits.toArray hep) ∈ R2 ∧ Kn R2 { a with hA := hA, held := held, xC := xc }) ?_ (fun _ => rfl))) ?_) ?_) ?_ ?_
  · refine EX.refused hK cx gF LE kn rfl (clos := [("one", a.cO)]) (by rw [LE.env]; rfl) ?_
    intro fL m o kn' hlm
    have hone' : CellV a.cO (some (.ref ad.x)) (m ++ Mine.put 522 o R) := by have := kn'.one; rw [hax, ← hx]; exact this
    have hhm' : (hA, listOf hits.toArray hep) ∈ m ++ Mine.put 522 o R := List.mem_append_right _ (mem_put_ne hhm (Ne.symm (kn.ne (i := 4) (j := 6) rfl rfl (by decide))))
    refine CL.post (refused_yes (d := 50) hK cx (rm.less (by decide)) LE.outer hlm ?_) ?_
    · intro f' A' vs' cx' rm'
      refine CR.lam (d := 49) cx' rm' hlm (by decide) (fun _ _ _ => rfl) ?_
      intro f2 A2 B
      obtain ⟨cd, henv⟩ := B.env
      refine ER.q1E (S := S) B.cx hq.app (PE.free B.cx (by rw [henv]; rfl) (by rw [henv]; rfl) (hone'.mono fun _ => mem_R)) (KQ.mmerge hK)
        (EX.newQF (q := 3) (au := true) (hf := 513) hK B.cx (B.rm.less (by decide)) (by decide) (by decide) (by rw [henv]; rfl) (PE.toI PE.cInt rfl) PE.cBool (PE.nameG B.cx (by rw [henv]; rfl) (by rw [hK]; k_is))) ?_ ?_
      · rintro v n' r'' ⟨rfl, ad', l', rfl, rfl, hq'⟩
        exact merge_err hK hP B.cx (B.rm.less (by decide)) (hq.app.mono fun p hp => List.mem_append_right _ hp) hq'.app inv.hf rfl
      · rintro v n' r'' ⟨rfl, ad', l', rfl, rfl, hq'⟩ e s hF
        exact Fly.less hF
    · rintro v n' r'' ⟨rfl, rfl, rfl⟩
      exact ⟨true, rfl, rfl, rfl, _, rfl, hhm', kn'⟩
  · rintro b n' r'' ⟨h1, h2⟩
    exact ⟨by simpa using h1, h2⟩
  · rintro n' r'' ⟨_, rfl, R2, rfl, hhm', kn'⟩
    have hone' : CellV a.cO (some (.ref ad.x)) R2 := by have := kn'.one; rw [hax, ← hx]; exact this
    refine ET.mono (ET.neSorted (its := hits) (ep := hep) (ks := held) cx rm gS (by rw [hK]; k_is)
      (EX.post (EX.q0 (S := S) (ad := ad) cx hq.app (PE.oneV cx LE (hone'.mono fun _ => mem_R)) (KQ.mget_hashes hK) (get_hashes hK cx (rm.less (by decide)) hq.app hhl (by rw [hperm.length_eq]; omega))) fun v n' r' h => h.lo hperm (by omega)) (fun n' r' => PE.nameV cx n8 rfl) (mem_R hhm') hhn (by omega)) ?_
    rintro b n' r2 ⟨h1, h2, m, rfl⟩
    exact ⟨h1, h2, R2, m, rfl, kn'⟩
  · rintro b n' r'' (⟨_, h, _⟩ | ⟨h, _⟩)
    · cases h
    · exact h
  rintro n' r2 s (⟨h, _⟩ | ⟨_, hg2, R2, m, rfl, kn⟩) hs
  · cases h
  have hs := St.junk hs
  have kn := kn.mono (R' := m ++ R2) fun _ => List.mem_append_right _
  generalize m ++ R2 = R at hs kn
  clear hhm hperm hhl inv hq hnm hnn ha1
  -- bad quotients refused
  refine X.ifEF hs (ET.or2 (P1 := fun b n' r'' => b = false ∧ r2 = r'' ∧ ∃ R2, n' = l ++ ((T ++ Y) ++ R2) ∧ Kn R2 { a with hA := hA, held := held, xC := xc })
      (P2 := fun b n' r'' => b = false ∧ r2 = r'' ∧ ∃ R2, n' = l ++ ((T ++ Y) ++ R2) ∧ Kn R2 { a with hA := hA, held := held, xC := xc })
      (ET.mono (ET.not (ET.val (P := fun b n' r'' => b = true ∧ r2 = r'' ∧ ∃ R2, n' = l ++ ((T ++ Y) ++ R2) ∧ Kn R2 { a with hA := hA, held := held, xC := xc }) (EX.refusedNew (q := 2) hK hP cx rm LE kn rfl gF (.inl rfl) rfl rfl (by decide) ?_ rfl (fun _ _ _ => rfl)) (fun _ => rfl))) ?_) ?_) ?_ ?_
  · rw [LE.env]; rfl
  · rintro b n' r'' ⟨h1, h2⟩
    exact ⟨by simpa using h1, h2⟩
  · rintro n' r'' ⟨_, rfl, R2, rfl, kn'⟩
    refine ET.mono (ET.not (ET.val (P := fun b n' r'' => b = true ∧ r2 = r'' ∧ ∃ R2, n' = l ++ ((T ++ Y) ++ R2) ∧ Kn R2 { a with hA := hA, held := held, xC := xc }) (EX.refusedNew (q := 32) hK hP cx rm LE kn' rfl gF (.inr rfl) rfl rfl (by decide) ?_ rfl (fun _ _ _ => rfl)) (fun _ => rfl))) ?_
    · rw [LE.env]; rfl
    · rintro b n' r'' ⟨h1, h2⟩
      exact ⟨by simpa using h1, h2⟩
  · rintro b n' r'' (⟨_, h, _⟩ | ⟨h, _⟩)
    · cases h
    · exact h
  rintro n' r3 s (⟨h, _⟩ | ⟨_, rfl, R2, rfl, kn⟩) hs
  · cases h
  have hs := hs.perm (news' := (l ++ (T ++ Y)) ++ R2) (by rw [List.append_assoc l (T ++ Y) R2])
  exact k hA held xc _ R2 room used vn vat vd vm vo tl tr tu r2 s kn (hgn.trans hg2) hs
end
end Mine
end

section
set_option maxRecDepth 100000
open PySem PySem.W PySem.Builtin PySem.Builtin.ObjectAttr PyProof.Rows PySem.Calls
open PyProof.Rows.LCg (NsObj lst)
set_option maxHeartbeats 8000000
namespace Mine
theorem dummyFill36 : (hd.heap_39 = hd.heap_39) ∧ (PySem.Challenge.rw_sv0018_01 = PySem.Challenge.rw_sv0018_01) := by
  k_fill
  exact ⟨rfl, rfl⟩
/-- the law's eight codes and the ninth -/
def eN (a0 a1 j : Nat) : Nat := if a0 % 4 < 2 then (a1 + j / 3 * 5 + j % 3 * 8) % 24 else (a1 + j * 5) % 24
theorem eN_lt (a0 a1 j : Nat) : eN a0 a1 j < 24 := by unfold eN; split <;> exact Nat.mod_lt _ (by decide)
theorem eN_inj1 : ∀ a, a < 24 → ∀ i, i < 9 → ∀ j, j < 9 → (a + i / 3 * 5 + i % 3 * 8) % 24 = (a + j / 3 * 5 + j % 3 * 8) % 24 → i = j := by decide +kernel
theorem eN_inj2 : ∀ a, a < 24 → ∀ i, i < 9 → ∀ j, j < 9 → (a + i * 5) % 24 = (a + j * 5) % 24 → i = j := by decide +kernel
theorem eN_inj (a0 a1 : Nat) {i j : Nat} (hi : i < 9) (hj : j < 9) (h : eN a0 a1 i = eN a0 a1 j) : i = j := by
  unfold eN at h
  have hm : a1 % 24 < 24 := Nat.mod_lt _ (by decide)
  split at h
  · exact eN_inj1 (a1 % 24) hm i hi j hj (by omega)
  · exact eN_inj2 (a1 % 24) hm i hi j hj (by omega)
def eC (a0 a1 j : Nat) : Nat := lawCode (eN a0 a1 j)
def eL (a0 a1 k : Nat) : List Nat := (List.range k).map (eC a0 a1)
theorem eC_lt (a0 a1 j : Nat) : eC a0 a1 j < 2 ^ 32 := lawCode_lt (eN_lt a0 a1 j)
theorem eL_succ (a0 a1 k : Nat) : eL a0 a1 (k + 1) = eL a0 a1 k ++ [eC a0 a1 k] := by unfold eL; rw [List.range_succ, List.map_append]; rfl
theorem eL_len (a0 a1 k : Nat) : (eL a0 a1 k).length = k := by unfold eL; rw [List.length_map, List.length_range]
theorem eL_get (a0 a1 k : Nat) {j : Nat} (h : j < k) : (eL a0 a1 k)[j]? = some (eC a0 a1 j) := by unfold eL; simp [h]
theorem eL_take (a0 a1 k j : Nat) (h : j ≤ k) : (eL a0 a1 k).take j = eL a0 a1 j := by
  unfold eL
  rw [← List.map_take, List.take_range, Nat.min_eq_left h]
theorem eC_not (a0 a1 : Nat) {k j : Nat} (hkj : k ≤ j) (hj : j < 9) : eC a0 a1 j ∉ eL a0 a1 k := by
  intro h
  obtain ⟨i, hi, e⟩ := List.mem_map.mp h
  have hi : i < k := List.mem_range.mp hi
  have := lawCode_inj _ (eN_lt a0 a1 i) _ (eN_lt a0 a1 j) e
  have := eN_inj a0 a1 (by omega) hj this
  omega
theorem eC_mem (a0 a1 : Nat) {k j : Nat} (h : j < k) : eC a0 a1 j ∈ eL a0 a1 k := List.mem_of_getElem? (eL_get a0 a1 k h)
section
variable {g : Gl} {f : Fm} {A : Around} {vs : List (Option Value)} {news l Z R T m : Ledger} {r r0 : Rs} {s : Shared} {fa cdA sA P x2 x : Addr} {a : LAd} {e o : Expr} {pos p1 p2 : Pos}
theorem X.appendO {rest : List Stmt} {Q : Flow → Shared → Prop} {E : Value → Shared → Prop} {la : Addr} {its : List Value} {ep : Nat} {PV : Value → Prop} (cx : Cx g f) (hs : St f vs (l ++ (Z ++ R)) r s) (ho : PE g f A vs (l ++ (Z ++ R)) r o (· = .ref la)) (hm : (la, listOf its.toArray ep) ∈ R) (he : PE g f A vs (l ++ (Z ++ R)) r e PV) (hl : its.length ≤ 10000000)
    (k : ∀ u s', PV u → St f vs (l ++ (Z ++ Mine.put la (listOf (its ++ [u]).toArray (ep + 1)) R)) r s' → (R.map (·.1)).Nodup → wpAny g.M A (execs rest f.env) Q E s')
    (hsh : MShape o "append" p2 [e] pos f.env := by exact ⟨_, rfl⟩)
    (he1 : starEach [e] f.env = (false, eval e f.env) :: starEach [] f.env := by rfl)
    {pos' : Pos} (hsw : swapsWith (.Call (.Attribute o "append" p2) [e] [] pos) none pos'.line f.env = pure false := by rfl) :
    wpAny g.M A (execs (.Expr (.Call (.Attribute o "append" p2) [e] [] pos) pos' :: rest) f.env) Q E s := by
  refine X.expr cx hs (EX.append ho (mem_R hm) he hl hsh he1) (fun v n' r' h a => by rw [h.1]; exact fun z => nomatch z) ?_ hsw
  rintro _ _ _ s ⟨rfl, rfl, u, hu, rfl⟩ hs
  have nd0 := hs.nd
  rw [put_keys] at nd0
  rw [put_R nd0 hm] at hs
  exact k u s hu hs (nd_R nd0)
theorem PE.eightV (cx : Cx g f) (LE : LEnv f fa cdA a) {v : Value} (h : CellV a.cE (some v) news) : PE g f A vs news r (.Name "eight" p1) (· = v) := PE.cell cx (LE.cell rfl) LE.lkE h
theorem PE.smallV (cx : Cx g f) (LE : LEnv f fa cdA a) {v : Value} (h : CellV a.cS (some v) news) : PE g f A vs news r (.Name "small" p1) (· = v) := PE.cell cx (LE.cell rfl) LE.lkS h
theorem law_last2 (hK : IsK g) (hP : IsP g) (cx : Cx g f) (rm : Rm f A 60) (LE : LEnv f fa cdA a) (hn4 : 4 ≤ a.nums.length) {hA : Addr} {held : List Nat} {xc : Option Value} {room used : Nat} {vn vat vd vm vo : Option Value} {tl tr tu : Tok} {gr : Bool} (kn : Kn R { a with hA := hA, held := held, xC := xc }) (hgn : Gn r0 r)
    (hs : St f (lvs sA vn a.nA tl gr x2 a.oA vat hA room tr used tu vd vm vo) (Z ++ R) r s) :
    wpAny g.M A (execs (lawBody.drop 14) f.env) (fun fl s' => fl = .ret (.bool true) ∧ ∃ vs' news' r', St f vs' news' r' s' ∧ Gn r0 r' ∧ Tab 522 a.q news') (fun _ _ => False) s := by
  have gQF := LE.glob (x := "QuotientFilter") rfl
  have gH := LE.glob (x := "_law_hash") rfl
  have gC := LE.glob (x := "_law_code") rfl
  have gR := LE.glob (x := "range") rfl
  have gF := LE.glob (x := "_law_refused") rfl
  have n7 := LE.at (i := 7) rfl
  obtain ⟨a0, ha0⟩ : ∃ x, a.nums[0]? = some x := ⟨a.nums[0]'(by omega), by simp⟩
  obtain ⟨a1, ha1⟩ : ∃ x, a.nums[1]? = some x := ⟨a.nums[1]'(by omega), by simp⟩
  -- small
  refine X.assignCell (c := a.cS) cx hs (LE.cell rfl) LE.lkS (EX.newQF (q := 3) (au := false) (hf := 506) hK cx (rm.less (by decide)) (by decide) (by decide) gQF (PE.toI PE.cInt rfl) PE.cBool (PE.nameG cx gH (by rw [hK]; k_is))) ?_ ?_
  · rintro v n' r' ⟨rfl, ad, l', rfl, rfl, _⟩
    exact kn.small.at.mono fun _ h => List.mem_append_right _ (List.mem_append_right _ h)
  rintro _ _ _ o1 s ⟨rfl, ad3, l3, rfl, rfl, hq3⟩ hd1 hs
  obtain ⟨o0, hm0, _⟩ := kn.small
  have nd0 := hs.nd
  rw [put_keys] at nd0
  rw [put_R nd0 hm0] at hs
  have kn := kn.putS (nd_R nd0) hd1
  generalize Mine.put a.cS o1 R = R1 at hs kn
  clear hm0 nd0 hd1
  -- eight
  refine X.assignCell (c := a.cE) cx hs (LE.cell rfl) LE.lkE (EX.list AR.nil (fun l h => by rw [h]; decide)) ?_ ?_
  · rintro v n' r' ⟨eA, _, rfl, rfl, rfl, rfl⟩
    exact kn.eight.at.mono fun _ h => .tail _ (mem_R h)
  rintro _ _ _ o2 s ⟨eA, _, rfl, rfl, rfl, rfl⟩ hd2 hs
  obtain ⟨o0, hm0, _⟩ := kn.eight
  have nd0 := hs.nd
  rw [put_keys] at nd0
  have nd1 : ((l3 ++ (Z ++ ((eA, listOf ([] : List Value).toArray 0) :: ([] ++ R1)))).map (·.1)).Nodup := by
    refine ((List.Perm.map _ ?_).nodup_iff).mp nd0
    exact junk_perm (m := [(eA, listOf ([] : List Value).toArray 0)])
  have kn := Kn.newOth (m := []) kn (nd_R nd1) (its := []) (ep := 0) (l := []) trivial
  have e2 : Mine.put a.cE o2 ((eA, listOf ([] : List Value).toArray 0) :: (l3 ++ (Z ++ R1))) = (eA, listOf ([] : List Value).toArray 0) :: (l3 ++ (Z ++ Mine.put a.cE o2 R1)) := by
    have hne : eA ≠ a.cE := by
      rintro rfl
      rw [List.map_cons, List.nodup_cons] at nd0
      exact nd0.1 (List.mem_map.mpr ⟨_, mem_R hm0, rfl⟩)
    have nd2 : ((l3 ++ (Z ++ R1)).map (·.1)).Nodup := (List.nodup_cons.mp nd0).2
    show (if eA = a.cE then _ else _) :: Mine.put a.cE o2 (l3 ++ (Z ++ R1)) = _
    rw [if_neg hne, put_R nd2 hm0]
  have kn := kn.putE (nd_R nd1) hd2
  have e3 : Mine.put a.cE o2 ((eA, listOf ([] : List Value).toArray 0) :: ([] ++ R1)) = (eA, listOf ([] : List Value).toArray 0) :: Mine.put a.cE o2 R1 := by
    have hne : eA ≠ a.cE := by
      rintro rfl
      rw [List.map_cons, List.nodup_cons] at nd0
      exact nd0.1 (List.mem_map.mpr ⟨_, mem_R hm0, rfl⟩)
    show (if eA = a.cE then _ else _) :: Mine.put a.cE o2 R1 = _
    rw [if_neg hne]
  rw [e3] at kn
  rw [e2] at hs
  have hs := St.junk1 hs
  generalize (eA, listOf ([] : List Value).toArray 0) :: Mine.put a.cE o2 R1 = R2 at hs kn
  clear e2 e3 nd0 nd1 hd2 hm0
  obtain ⟨b3, hb3⟩ : ∃ b3 : LAd, b3 = { a with hA := hA, held := held, xC := xc, xS := some (.ref ad3.x), oA := eA, others := [], xE := some (.ref eA) } := ⟨_, rfl⟩
  replace kn : Kn R2 b3 := by rw [hb3]; exact kn
  have LE3 : LEnv f fa cdA b3 := by rw [hb3]; exact ⟨LE.env, LE.ns, LE.cd, LE.outer, LE.q⟩
  have q1 : b3.nA = a.nA := by rw [hb3]
  have q2 : b3.nums = a.nums := by rw [hb3]
  have q3 : b3.xE = some (.ref b3.oA) := by rw [hb3]
  have q4 : b3.xS = some (.ref ad3.x) := by rw [hb3]
  have q5 : b3.q = a.q := by rw [hb3]
  have q6 : b3.others = [] := by rw [hb3]
  rw [← q2] at ha0 ha1
  clear hb3
  refine X.forRange (n := 9) (d := 60) (fun j vs N r' => r' = r ∧ ∃ (vat : Option Value) (R : Ledger), vs = lvs sA vn a.nA tl gr x2 a.oA vat hA room tr used tu vd vm vo ∧ N = l3 ++ (Z ++ R) ∧ Kn R { b3 with others := eL a0 a1 j }) cx rm n7 ?_ hs ⟨rfl, vat, R2, rfl, rfl, by rw [show eL a0 a1 0 = b3.others by rw [q6]; rfl]; exact kn⟩
    (EX.range1 cx gR (by rw [hK]; k_is) PE.cInt) rfl rfl ?_ ?_
  · rintro j vs N r' ⟨_, vat, R, rfl, _⟩
    exact ⟨vat, rfl⟩
  · rintro j t vs N T r' s hj ⟨rfl, vat, R, rfl, rfl, kn⟩ hs
    have hs := St.intoX hs
    obtain ⟨nits, nep, hnm, hnn⟩ := kn.num
    replace hnm : (b3.nA, listOf nits.toArray nep) ∈ R := hnm
    replace hnn : NA nits b3.nums := hnn
    obtain ⟨oits, oep, hom, hon⟩ := kn.oth
    replace hom : (b3.oA, listOf oits.toArray oep) ∈ R := hom
    replace hon : NA oits (eL a0 a1 j) := hon
    have hE : CellV b3.cE (some (.ref b3.oA)) R := by rw [← q3]; exact kn.eight
    have e : ((0 : Int) + j * 1) = ((j : Nat) : Int) := by omega
    rw [e] at hs
    replace hs : St f (lvs sA vn b3.nA tl gr x2 a.oA (some (.int (j : Nat) t)) hA room tr used tu vd vm vo) (l3 ++ ((T ++ Z) ++ R)) r' s := by rw [q1]; exact hs
    have hlen : oits.length ≤ 10000000 := by rw [hon.len, eL_len]; omega
    have fin : ∀ u s, isI (eC a0 a1 j : Nat) u → St f (lvs sA vn b3.nA tl gr x2 a.oA (some (.int (j : Nat) t)) hA room tr used tu vd vm vo) (l3 ++ ((T ++ Z) ++ Mine.put b3.oA (listOf (oits ++ [u]).toArray (oep + 1)) R)) r' s → (R.map (·.1)).Nodup →
        ∃ vs' N' r'', (r'' = r' ∧ ∃ (vat : Option Value) (R : Ledger), vs' = lvs sA vn a.nA tl gr x2 a.oA vat hA room tr used tu vd vm vo ∧ N' = l3 ++ (Z ++ R) ∧ Kn R { b3 with others := eL a0 a1 (j + 1) }) ∧ St f vs' (N' ++ T) r'' s := fun u s hu hs ndR =>
      ⟨_, _, r', ⟨rfl, _, _, rfl, rfl, by rw [eL_succ]; exact kn.putOth (ep := oep + 1) ndR (hon.snoc hu)⟩, by rw [q1] at hs; exact St.outX hs⟩
    refine X.if hs (PT.toB (PT.lt (PE.modN (c := 4) (PE.num (k := 0) cx LE3 rfl (mem_R hnm) hnn ha0 (by decide)) (by decide)) PE.cInt) (natLt (a0 % 4) 2)) ?_ ?_
    · intro hc s hs
      have hc : a0 % 4 < 2 := of_decide_eq_true hc
      have he : eC a0 a1 j = lawCode ((a1 + j / 3 * 5 + j % 3 * 8) % 24) := by unfold eC eN; rw [if_pos hc]
      refine X.appendO cx hs (PE.eightV cx LE3 (hE.mono fun _ => mem_R)) hom (PE.lawCode hK cx gC (rm.less (by decide)) (PE.modN (c := 24) (n := a1 + j / 3 * 5 + j % 3 * 8) (PE.toI (PE.add (PE.add (PE.num (k := 1) cx LE3 rfl (mem_R hnm) hnn ha1 (by decide)) (PE.mulR (PE.divN (c := 3) (PE.nameI cx n7 rfl) (by decide) (PyProof.noPylong_small (by decide))) PE.cInt (by decide)))
        (PE.mulR (PE.modN (c := 3) (PE.nameI cx n7 rfl) (by decide)) PE.cInt (by decide))) (by push_cast; rfl)) (by decide)) (Nat.mod_lt _ (by decide))) hlen ?_
      intro u s hu hs ndR
      rw [← he] at hu
      exact X.nil (g := g) hs (X.nil (g := g) hs ⟨.inl rfl, fin u s hu hs ndR⟩)
    · intro hc s hs
      have hc : ¬ a0 % 4 < 2 := of_decide_eq_false hc
      have he : eC a0 a1 j = lawCode ((a1 + j * 5) % 24) := by unfold eC eN; rw [if_neg hc]
      refine X.appendO cx hs (PE.eightV cx LE3 (hE.mono fun _ => mem_R)) hom (PE.lawCode hK cx gC (rm.less (by decide)) (PE.modN (c := 24) (n := a1 + j * 5) (PE.toI (PE.add (PE.num (k := 1) cx LE3 rfl (mem_R hnm) hnn ha1 (by decide)) (PE.mulR (PE.nameI cx n7 rfl) PE.cInt (by decide))) (by push_cast; rfl)) (by decide)) (Nat.mod_lt _ (by decide))) hlen ?_
      intro u s hu hs ndR
      rw [← he] at hu
      exact X.nil (g := g) hs (X.nil (g := g) hs ⟨.inl rfl, fin u s hu hs ndR⟩)
  rintro T vs N r' s ⟨rfl, vat, R, rfl, rfl, kn⟩ hs
  have hs := St.intoX hs
  generalize T ++ Z = Z at hs
  -- the eight
  obtain ⟨oits, oep, hom, hon⟩ := kn.oth
  replace hom : (b3.oA, listOf oits.toArray oep) ∈ R := hom
  replace hon : NA oits (eL a0 a1 9) := hon
  have hE : CellV b3.cE (some (.ref b3.oA)) R := by rw [← q3]; exact kn.eight
  have hosz : oits.toArray.size ≤ 1000000 := by rw [hon.size, eL_len]; decide
  have hna8 : NA (slicePick oits.toArray none (some 8) none).toList (eL a0 a1 8) := by
    have h := kmk_upto hon.ints (y := 8) (by decide)
    rw [← List.map_take] at h
    have h := NA.of h
    rw [show (8 : Int).toNat = 8 from rfl, eL_take a0 a1 9 8 (by decide)] at h
    exact h
  have hsz8 : (slicePick oits.toArray none (some 8) none).size = 8 := by
    have := hna8.len
    rw [eL_len, Array.length_toList] at this
    exact this
  have sl8 : ∀ vs l R (p1 p2 p3 p4 : Pos) (kk : Nat) r, (b3.oA, listOf oits.toArray oep) ∈ R → CellV b3.cE (some (.ref b3.oA)) R → EX g f A vs (l ++ (Z ++ R)) r (.Subscript (.Name "eight" p1) (.Slice none (some (.Constant (.int 8) kk p2)) none p3) p4)
      (fun v n' r' => r = r' ∧ ∃ la ep t, v = .ref la ∧ n' = t ++ (l ++ (Z ++ R)) ∧ (la, listOf (slicePick oits.toArray none (some 8) none) ep) ∈ t) := by
    intro vs l R p1 p2 p3 p4 kk r hom hE
    refine EX.post (EX.slice (items := oits.toArray) (ia := none) (ib := some 8) (fun s hs => ⟨_, hs.N.get (mem_R hom), rfl, oep, rfl⟩) (PE.eightV cx LE3 (hE.mono fun _ => mem_R)) hosz (fun Q E s hs k => part_none hs k) (fun Q E s hs k => part_int PE.cInt hs k) (fun _ _ => rfl)) ?_
    rintro v n' r' ⟨rfl, D, sl, so, rfl, rfl⟩
    exact ⟨rfl, D, 0, [_, _], rfl, rfl, .head _⟩
  refine X.forListC (its := slicePick oits.toArray none (some 8) none) (c := b3.cC) (d := 60) (fun j vs N r'' => vs = lvs sA vn a.nA tl gr x2 a.oA vat hA room tr used tu vd vm vo ∧ Gn r' r'' ∧ ∃ (l R : Ledger) (S : QS) (ad : QA) (xc : Option Value), N = l ++ (Z ++ R) ∧ ad.x = ad3.x ∧ QFm l ad S ∧ TInv S (eL a0 a1 j) ∧ (b3.oA, listOf oits.toArray oep) ∈ R ∧ Kn R { b3 with others := eL a0 a1 9, xC := xc }) cx rm (LE3.cell rfl) LE3.lkC hs
    ⟨rfl, Gn.refl r', l3, R, _, ad3, b3.xC, rfl, rfl, hq3, TInv.start, hom, kn⟩ ?_ (sl8 _ _ _ _ _ _ _ _ _ hom hE) ?_ ?_
  · rintro j vs N r'' ⟨_, _, l, R, S, ad, xc, rfl, _, _, _, _, kn⟩
    exact kn.code.at.mono fun _ => mem_R
  · rintro j v vs N T r'' s o' hj ⟨rfl, hgn', l, R, S, ad, xc, rfl, hx', hq, hS, hom, kn⟩ hd hs
    have hj8 : j < 8 := by
      rcases Nat.lt_or_ge j 8 with h | h
      · exact h
      · rw [Array.getElem?_eq_none (by omega)] at hj; cases hj
    rw [← Array.getElem?_toList] at hj
    obtain ⟨w, hw, tw, rfl⟩ := hna8.get hj
    rw [eL_get a0 a1 8 hj8] at hw
    cases hw
    obtain ⟨oc, hcm, _⟩ := kn.code
    have nd0 := hs.nd
    rw [List.map_append, put_keys, List.nodup_append] at nd0
    rw [put_R nd0.1 hcm] at hs
    have kn := kn.putC (nd_R nd0.1) hd
    have hom := mem_put_ne (o' := o') hom (kn.ne (i := 7) (j := 1) rfl rfl (by decide))
    generalize Mine.put b3.cC o' R = R' at hs kn hom
    clear hcm nd0 hd
    have hs := St.intoX hs
    obtain ⟨U, hU, hSU⟩ := hS.add (by rw [eL_len]; exact hj8) (eC_lt a0 a1 j) (eC_not a0 a1 (Nat.le_refl _) (by omega))
    rw [← eL_succ] at hSU
    have hsm : CellV b3.cS (some (.ref ad.x)) R' := by have := kn.small; rw [hx', ← q4]; exact this
    have hcd : CellV b3.cC (some (.int (eC a0 a1 j : Nat) tw)) R' := kn.code
    refine X.expr cx hs (EX.q1 (S := S) cx hq.app (PE.smallV cx LE3 (hsm.mono fun _ => mem_R)) (KQ.madd_alt hK) (PE.codeV cx LE3 (hcd.mono fun _ => mem_R)) (P := NowX ad U ((T ++ Z) ++ R') r'') (fun v e => by rw [e]; exact (all_walk hK 3).1 f A _ l _ _ ad S U _ tw cx (rm.less (by decide)) hq hU)) (fun v n' r' h a => by rw [h.1]; exact fun z => nomatch z) ?_
    rintro _ _ r3 s ⟨rfl, hgn2, l', ad', hx'', rfl, hq'⟩ hs
    exact X.nil (g := g) hs ⟨.inl rfl, _, l' ++ (Z ++ R'), r3, ⟨rfl, hgn'.trans hgn2, l', R', U, ad', _, rfl, hx''.trans hx', hq', hSU, hom, kn⟩, St.outX hs⟩
  rintro T vs N r3 s ⟨rfl, hgn', l, R, S, ad, xc, rfl, hx', hq, hS, hom, kn⟩ hs
  rw [hsz8] at hS
  have hs := hs.perm assoc_perm
  have kn := kn.mono (R' := R ++ T) fun _ => List.mem_append_left _
  replace hom := List.mem_append_left T hom
  generalize R ++ T = R at hs kn hom
  have hsm : CellV b3.cS (some (.ref ad.x)) R := by have := kn.small; rw [hx', ← q4]; exact this
  have hE : CellV b3.cE (some (.ref b3.oA)) R := by rw [← q3]; exact kn.eight
  have item : ∀ {g2 : Gl} {f2 : Fm} {A2 : Around} {vs2 : List (Option Value)} {news2 : Ledger} {rr : Rs} {o : Expr} {p1 p2 : Pos} {kk : Nat} (k : Nat), k < 9 → PE g2 f2 A2 vs2 news2 rr o (· = .ref b3.oA) → (b3.oA, listOf oits.toArray oep) ∈ news2 →
      (∀ t, subscripted (.Constant (.int k) kk p1) false (.ref b3.oA) (.int (k : Int) t) = operate [.ref b3.oA, .int (k : Int) t] (getItem (.ref b3.oA) (.int (k : Int) t))) → PE g2 f2 A2 vs2 news2 rr (.Subscript o (.Constant (.int k) kk p1) p2) (isI (eC a0 a1 k : Nat)) := by
    intro g2 f2 A2 vs2 news2 rr o p1 p2 kk k hk ho hm hsub
    obtain ⟨v, h1, h2⟩ := hon.at (eL_get a0 a1 9 hk)
    refine PE.item ho PE.cInt hm (by omega) (by omega) ?_ h2 hsub
    rw [List.getElem?_toArray, Int.toNat_natCast]; exact h1
  -- once more
  have hagain : QS.addAlt 3 S (eC a0 a1 3) = some S := hS.again (eC_mem a0 a1 (by decide))
  refine X.expr cx hs (EX.q1 (S := S) cx hq.app (PE.smallV cx LE3 (hsm.mono fun _ => mem_R)) (KQ.madd_alt hK) (item 3 (by decide) (PE.eightV cx LE3 (hE.mono fun _ => mem_R)) (mem_R hom) (fun _ => rfl)) (P := NowX ad S (Z ++ R) r3) (fun v ⟨t, e⟩ => by rw [e]; exact (all_walk hK 3).1 f A _ l _ _ ad S S _ t cx (rm.less (by decide)) hq hagain)) (fun v n' r' h a => by rw [h.1]; exact fun z => nomatch z) ?_
  rintro _ _ r4 s ⟨rfl, hgn2, l', ad', hx'', rfl, hq'⟩ hs
  replace hsm : CellV b3.cS (some (.ref ad'.x)) R := by rw [hx'']; exact hsm
  have hx3 : ad'.x = ad3.x := hx''.trans hx'
  clear hq hx''
  -- the ninth refused
  refine X.ifEF hs (ET.or2 (P1 := fun b n' r'' => b = false ∧ r4 = r'' ∧ ∃ R2, n' = l' ++ (Z ++ R2) ∧ (b3.oA, listOf oits.toArray oep) ∈ R2 ∧ Kn R2 { b3 with others := eL a0 a1 9, xC := xc })
      (P2 := fun b n' r'' => b = false ∧ r4 = r'' ∧ ∃ R2, n' = l' ++ (Z ++ R2) ∧ (b3.oA, listOf oits.toArray oep) ∈ R2 ∧ Kn R2 { b3 with others := eL a0 a1 9, xC := xc })
      (ET.mono (ET.not (ET.val (P := fun b n' r'' => b = true ∧ r4 = r'' ∧ ∃ R2, n' = l' ++ (Z ++ R2) ∧ (b3.oA, listOf oits.toArray oep) ∈ R2 ∧ Kn R2 { b3 with others := eL a0 a1 9, xC := xc }) ?_ (fun _ => rfl))) ?_) ?_) ?_ ?_
  · refine EX.refused hK cx gF LE3 kn rfl (clos := [("small", b3.cS), ("eight", b3.cE)]) (by rw [LE3.env]; rfl) ?_
    intro fL m o kn' hlm
    have hsm' : CellV b3.cS (some (.ref ad'.x)) (m ++ Mine.put 522 o R) := (hsm.put (kn.ne (i := 3) (j := 4) rfl rfl (by decide))).mono fun _ => List.mem_append_right _
    have hE' : CellV b3.cE (some (.ref b3.oA)) (m ++ Mine.put 522 o R) := (hE.put (kn.ne (i := 2) (j := 4) rfl rfl (by decide))).mono fun _ => List.mem_append_right _
    have hom' : (b3.oA, listOf oits.toArray oep) ∈ m ++ Mine.put 522 o R := List.mem_append_right _ (mem_put_ne hom (kn.ne (i := 7) (j := 4) rfl rfl (by decide)))
    refine CL.post (refused_yes (d := 50) hK cx (rm.less (by decide)) LE3.outer hlm ?_) ?_
    · intro f' A' vs' cx' rm'
      refine CR.lam (d := 49) cx' rm' hlm (by decide) (fun _ _ _ => rfl) ?_
      intro f2 A2 B
      obtain ⟨cd, henv⟩ := B.env
      refine ER.q1 (S := S) B.cx hq'.app (PE.free B.cx (by rw [henv]; rfl) (by rw [henv]; rfl) (hsm'.mono fun _ => mem_R)) (KQ.madd_alt hK) (item 8 (by decide) (PE.free B.cx (by rw [henv]; rfl) (by rw [henv]; rfl) (hE'.mono fun _ => mem_R)) (mem_R hom') (fun _ => rfl)) ?_
      rintro v ⟨t, e⟩
      rw [e]
      exact add_alt_err hK hP B.cx (B.rm.less (by decide)) hq'.app (by rw [hS.n, hS.added, eL_len]) hS.flat (eC_lt a0 a1 8) (hS.no (eC_lt a0 a1 8) (eC_not a0 a1 (Nat.le_refl _) (by decide)))
    · rintro v n' r'' ⟨rfl, rfl, rfl⟩
      exact ⟨true, rfl, rfl, rfl, _, rfl, hom', kn'⟩
  · rintro b n' r'' ⟨h1, h2⟩
    exact ⟨by simpa using h1, h2⟩
  · rintro n' r'' ⟨_, rfl, R2, rfl, hom', kn'⟩
    have hsm' : CellV b3.cS (some (.ref ad'.x)) R2 := by have h := kn'.small; rw [hx3, ← q4]; exact h
    have hE' : CellV b3.cE (some (.ref b3.oA)) R2 := by have := kn'.eight; rw [← q3]; exact this
    refine ET.mono (PT.et (PT.val (PE.of (EX.q1 (S := S) cx hq'.app (PE.smallV cx LE3 (hsm'.mono fun _ => mem_R)) (KQ.mcheck_alt hK) (item 8 (by decide) (PE.eightV cx LE3 (hE'.mono fun _ => mem_R)) (mem_R hom') (fun _ => rfl)) (P := still _ _ (isB (decide (eC a0 a1 8 ∈ eL a0 a1 8)))) (fun v ⟨t, e⟩ => by rw [e]; exact check_alt hK cx (rm.less (by decide)) hq'.app (eC_lt a0 a1 8) (hS.check (eC_lt a0 a1 8))))) (fun _ => rfl))) ?_
    rintro b n' r'' ⟨rfl, rfl, rfl⟩
    exact ⟨decide_eq_false (eC_not a0 a1 (Nat.le_refl _) (by decide)), rfl, R2, rfl, hom', kn'⟩
  · rintro b n' r'' (⟨_, h, _⟩ | ⟨h, _⟩)
    · cases h
    · exact h
  rintro n' r5 s' (⟨h, _⟩ | ⟨_, rfl, R2, rfl, hom', kn'⟩) hs'
  · cases h
  have hsm' : CellV b3.cS (some (.ref ad'.x)) R2 := by have h := kn'.small; rw [hx3, ← q4]; exact h
  have hE' : CellV b3.cE (some (.ref b3.oA)) R2 := by have := kn'.eight; rw [← q3]; exact this
  -- all are there
  obtain ⟨sl, hsl1, _⟩ := hq'.self
  obtain ⟨ne, hsl2⟩ := hq'.dx
  obtain ⟨osm, hsmm, hsmd⟩ := hsm'
  refine X.ret hs' (EX.eqNil (d := 60) rm (EX.compT (d := 60) (x := "code") (its := slicePick oits.toArray none (some 8) none) (p := fun _ => false) (cl := [("small", b3.cS)]) rm ?_ (by decide) rfl rfl ?_ (by rw [hsz8]; decide) ?_ ?_) ?_) ?_
  · rw [LE3.env]; rfl
  · refine EX.post (sl8 _ _ _ _ _ _ _ _ _ hom' hE') ?_
    rintro v n' r' ⟨rfl, la, ep, t, rfl, rfl, hm⟩
    exact ⟨rfl, la, ep, t, rfl, rfl, List.mem_append_left _ hm⟩
  · intro m j v N C oC m₂ Q E s hj hC hNs hx hsub hs kk
    have hsub' : ∀ p ∈ l' ++ (Z ++ R2), p ∈ N := fun p hp => hsub p (List.mem_append_right _ hp)
    have hj8 : j < 8 := by
      rcases Nat.lt_or_ge j 8 with h | h
      · exact h
      · rw [Array.getElem?_eq_none (by omega)] at hj; cases hj
    rw [← Array.getElem?_toList] at hj
    obtain ⟨w, hw, tw, rfl⟩ := hna8.get hj
    rw [eL_get a0 a1 8 hj8] at hw
    cases hw
    have hqN : QFm N ad' S := hq'.app.mono hsub'
    refine isTrue_not (isTrue_plain (MethodCall_ (pl := _) (lcf_cell hs.N rfl (hsub' _ (mem_R hsmm)) hsmd ?_ rfl (by rw [LE3.env]; rfl)) rfl) rfl)
    refine method_inst hs.F cx.X (.of_news hs.N (hsub' _ (List.mem_append_left _ hsl1)) (hsub' _ (List.mem_append_left _ hsl2))) (KQ.mcheck_alt hK).hg (KQ.mcheck_alt hK).hf (KQ.mcheck_alt hK).ht rfl ?_
    refine callWith_K cx.X (KQ.mcheck_alt hK).hk (spliced_more (LCgL.ld_own hs.N hC hNs hx (spliced_none ⟨cx.X.keeps hs.F.keep, wpAny_call (check_alt hK cx (rm.less (by decide)) hqN (eC_lt a0 a1 j) (hS.check (eC_lt a0 a1 j)) _ _ hs fun v n' r' s' p hs' => ?_)⟩)) rfl) rfl rfl
    obtain ⟨p, rfl, rfl⟩ := p
    rw [show v = .bool true by rw [p, decide_eq_true (eC_mem a0 a1 hj8)]]
    exact wpAny_truthy_bool (kk _ hs')
  · intro m j v N C oC m₂ Q E s hj hC hNs hx hsub hs kk
    exact LCgL.ld_own hs.N hC hNs hx (kk v _ rfl hs)
  · rintro v n' r' ⟨rfl, D, m, rfl, rfl⟩
    refine ⟨D, 0, rfl, ?_⟩
    rw [List.filter_eq_nil_iff.mpr (fun _ _ => by simp)]
    exact .head _
  rintro v n' r' s'' ⟨rfl, u, o, n0, ⟨rfl, D, m, rfl, rfl⟩, rfl⟩ hs''
  exact ⟨rfl, _, _, _, hs'', (hgn.trans hgn').trans hgn2, q5 ▸ kn'.tab.mono fun _ h => .tail _ (.tail _ (List.mem_append_right _ (mem_R h)))⟩
end
end Mine
end

section
set_option maxRecDepth 100000
open PySem PySem.W PySem.Builtin PySem.Builtin.ObjectAttr PyProof.Rows PySem.Calls
open PyProof.Rows.LCg (NsObj lst)
set_option maxHeartbeats 8000000
namespace Mine
section
variable {g : Gl} {f : Fm} {A : Around} {vs : List (Option Value)} {news l Y R T m : Ledger} {r r0 : Rs} {s : Shared} {fa cdA sA P x2 x : Addr} {a : LAd} {gr : Bool} {b : Nat}
theorem LState.into (h : LState a x2 sA gr x r0 Y b vs news r) : ∃ N, LState a x2 sA gr x r0 (T ++ Y) b vs N r ∧ (news ++ T).Perm N := by
  obtain ⟨hA, held, xc, l, R, ad, S, room, used, vn, vat, vd, vm, vo, tl, tr, tu, h1, rfl, h⟩ := h
  refine ⟨l ++ ((T ++ Y) ++ R), ⟨hA, held, xc, l, R, ad, S, room, used, vn, vat, vd, vm, vo, tl, tr, tu, h1, rfl, h⟩, ?_⟩
  rw [List.append_assoc l]
  refine List.Perm.append_left l ?_
  rw [List.append_assoc T]
  exact List.perm_append_comm
theorem LState.back {N : Ledger} (h : LState a x2 sA gr x r0 (T ++ Y) b vs N r) : ∃ news, LState a x2 sA gr x r0 Y b vs news r ∧ N.Perm (news ++ T) := by
  obtain ⟨hA, held, xc, l, R, ad, S, room, used, vn, vat, vd, vm, vo, tl, tr, tu, h1, rfl, h⟩ := h
  refine ⟨l ++ (Y ++ R), ⟨hA, held, xc, l, R, ad, S, room, used, vn, vat, vd, vm, vo, tl, tr, tu, h1, rfl, h⟩, ?_⟩
  rw [List.append_assoc l]
  refine List.Perm.append_left l ?_
  rw [List.append_assoc T]
  exact List.perm_append_comm
theorem LSec.more (h : LSec Y x2 others) : LSec (T ++ Y) x2 others := by
  obtain ⟨⟨ad2, S, j, h1, h2, h3⟩, hc⟩ := h
  exact ⟨⟨ad2, S, j, h1, h2.mono fun p hp => List.mem_append_right _ hp, h3⟩, hc⟩
theorem law_all (hK : IsK g) (hP : IsP g) (cx : Cx g f) (rm : Rm f A 60) (LE : LEnv f fa cdA a) {vals : List Value} {ns : List Int} (hl : f.h₀.IsList sA vals.toArray) (hi : IntsAre vals ns) (hlen : vals.length ≤ 1000000)
    (hc : [a.cO, a.cC, a.cE, a.cS, 522].Nodup) (h1 : CellV a.cO a.xO R) (h2 : CellV a.cC a.xC R) (h3 : CellV a.cE a.xE R) (h4 : CellV a.cS a.xS R) (h5 : Tab 522 a.q R)
    (hs : St f [some (.ref sA), none, none, none, none, none, none, none, none, none, none, none, none, none] R r s) :
    wpAny g.M A (execs lawBody f.env) (fun fl s' => fl = .ret (.bool true) ∧ ∃ vs' news' r' q, St f vs' news' r' s' ∧ Gn r r' ∧ Tab 522 q news') (fun _ _ => False) s := by
  refine law_first hK cx rm LE hl hi hlen hc h1 h2 h3 h4 h5 hs ?_
  clear h1 h2 h3 h4 h5 hs hc LE
  intro a x2 gr x Y vs news r' s hL hx hY hn4 hn14 LE hs
  obtain ⟨nits, nep, hnna, hnm⟩ : ∃ nits nep, NA nits a.nums ∧ (a.nA, listOf nits.toArray nep) ∈ news := by
    obtain ⟨hA, held, xc, l, R, ad, S, room, used, vn, vat, vd, vm, vo, tl, tr, tu, _, rfl, _, _, kn, _⟩ := hL
    obtain ⟨i, e, h1, h2⟩ := kn.num
    exact ⟨i, e, h2, mem_R h1⟩
  have hnA : vs[2]? = some (some (.ref a.nA)) := by
    obtain ⟨hA, held, xc, l, R, ad, S, room, used, vn, vat, vd, vm, vo, tl, tr, tu, rfl, _⟩ := hL
    rfl
  have hlen2 := hnna.len
  have hna2 : NA (slicePick nits.toArray (some 2) none none).toList (a.nums.drop 2) := by
    have h := kmk_from hnna.ints (x := 2) (by decide)
    rw [← List.map_drop] at h
    exact NA.of h
  have hsz : (slicePick nits.toArray (some 2) none none).size ≤ 12 := by
    have := hna2.len
    rw [Array.length_toList, List.length_drop] at this
    omega
  refine X.forListT (its := slicePick nits.toArray (some 2) none none) (d := 60) (fun j vs N r'' => LState a x2 sA gr x r Y (4 * j) vs N r'') cx rm (LE.at (i := 1) rfl) ?_ hs hL ?_ ?_ ?_
  · rintro j vs N r'' ⟨hA, held, xc, l, R, ad, S, room, used, vn, vat, vd, vm, vo, tl, tr, tu, rfl, _⟩
    exact ⟨vn, rfl⟩
  · refine EX.post (EX.slice (items := nits.toArray) (ia := some 2) (ib := none) (fun s hs => ⟨_, hs.N.get hnm, rfl, nep, rfl⟩) (PE.nameV cx (LE.at (i := 2) rfl) hnA) (by rw [hnna.size]; omega) (fun Q E s hs k => part_int PE.cInt hs k) (fun Q E s hs k => part_none hs k) (fun _ _ => rfl)) ?_
    rintro v n' r' ⟨rfl, D, sl, so, rfl, rfl⟩
    exact ⟨rfl, D, 0, [_, _], rfl, rfl, .head _⟩
  · intro j v vs N T r'' s hj hL hs
    have hj12 : j < 12 := by
      rcases Nat.lt_or_ge j 12 with h | h
      · exact h
      · rw [Array.getElem?_eq_none (by omega)] at hj; cases hj
    rw [← Array.getElem?_toList] at hj
    obtain ⟨w, hw, hv⟩ := hna2.get hj
    obtain ⟨N', hL', hp⟩ := hL.into (T := T)
    refine wpAny_mono (law_turn hK hP cx rm LE hx hY.more (by omega) hL' hv (hs.perm hp)) (fun fl s' h => ?_) (fun _ _ z => z)
    obtain ⟨rfl, vs', N2, r3, hL2, hs2⟩ := h
    obtain ⟨N3, hL3, hp3⟩ := hL2.back
    exact ⟨.inl rfl, vs', N3, r3, hL3, hs2.perm hp3⟩
  · intro T vs N r'' s hL hs
    obtain ⟨N', hL', hp⟩ := hL.into (T := T)
    refine law_last1 hK hP cx rm LE hx (by omega) hn4 hL' (hs.perm hp) ?_
    intro hA held xc Z R room used vn vat vd vm vo tl tr tu r3 s kn hgn hs
    refine wpAny_mono (law_last2 hK hP cx rm LE hn4 kn hgn hs) (fun fl s' h => ?_) (fun _ _ z => z)
    obtain ⟨h1, vs', N', r4, h2, h3, h4⟩ := h
    exact ⟨h1, vs', N', r4, a.q, h2, h3, h4⟩
end
end Mine
end

section
set_option maxRecDepth 100000
open PySem PySem.W PySem.Builtin PySem.Builtin.ObjectAttr PyProof.Rows PySem.Calls
set_option maxHeartbeats 400000
namespace Mine
theorem dummyFill37 : (hd.heap_39 = hd.heap_39) ∧ (PySem.Challenge.rw_sv0018_01 = PySem.Challenge.rw_sv0018_01) := by
  k_fill
  exact ⟨rfl, rfl⟩
theorem law_ns : lawNs.Nodup := by decide
theorem law_loc : allLocal lawScope lawNs = true := by decide
theorem nd5 (L : Nat) (h : 522 < L) : [L + 1 + 1 + 1 + 1, L + 1 + 1 + 1, L + 1 + 1, L + 1, 522].Nodup := by
  simp only [List.nodup_cons, List.mem_cons, List.mem_nil_iff, or_false, not_or, List.nodup_nil, and_true, not_false_eq_true]
  omega
theorem nd5' (L : Nat) (h : 522 < L) : [L + 1 + 1 + 1, L + 1, L + 1 + 1, L + 1 + 1 + 1 + 1, 522].Nodup := by
  simp only [List.nodup_cons, List.mem_cons, List.mem_nil_iff, or_false, not_or, List.nodup_nil, and_true, not_false_eq_true]
  omega
theorem look_none {y : Str} (l : List (Str × Option Value)) (h : ∀ p ∈ l, p.2 = none) : (l.lookup y).join = none := by
  induction l with
  | nil => rfl
  | cons p l ih =>
    obtain ⟨n, v⟩ := p
    rw [List.lookup_cons]
    have hv : v = none := h _ (.head _)
    subst hv
    cases y == n with
    | true => rfl
    | false => exact ih fun p hp => h p (.tail _ hp)
theorem law_m {kindOf : Str → Option NameKind} {v : Value} (hk : kindOf "script" = some .local) : bindL kindOf [("script", v)] (fun _ => none) = lm lawNs [some v, none, none, none, none, none, none, none, none, none, none, none, none, none] := by
  funext y
  show (if kindOf "script" = some .local then (fun y : Str => if y = ("script" : Str) then some v else none) else (fun _ => none)) y = _
  rw [if_pos hk]
  show (if y = ("script" : Str) then some v else none) = (List.lookup y ((("script" : Str), some v) :: ((lawNs.drop 1).zip (List.replicate 13 none)))).join
  rw [List.lookup_cons]
  by_cases h : y = ("script" : Str)
  · subst h; rfl
  · rw [if_neg h, show (y == ("script" : Str)) = false from beq_eq_false_iff_ne.mpr h]
    refine (look_none _ ?_).symm
    intro p hp
    have := (List.of_mem_zip (show (p.1, p.2) ∈ _ from hp)).2
    exact List.eq_of_mem_replicate this
def lawFm (G : Heap) (L : Addr) (env : Env) : Fm := ⟨callerA, G, [], G, L, env, lawNs⟩
def lawA (L : Addr) (u3 u2 u1 u0 : Option Value) (q : Str) : LAd := { cO := L + 1 + 1 + 1, cC := L + 1, cE := L + 1 + 1, cS := L + 1 + 1 + 1 + 1, nA := 0, hA := 0, oA := 0, xO := u2, xC := u0, xE := u1, xS := u3, nums := [], held := [], others := [], q := q }
section
variable {g : Gl} {G : Heap} {L fa cdA : Addr} {env : Env}
theorem law_cx (X : g.K.In G) (T : Top g.p g.loose g.mean g.mg g.mb G) (K : Below callerA G [] G) (henv : env = envX "law" lawScope L fa (.ref cdA) [("small", L + 1 + 1 + 1 + 1), ("one", L + 1 + 1 + 1), ("eight", L + 1 + 1), ("code", L + 1)]) : Cx g (lawFm G L env) where
  B := K
  X := X
  T := T
  loc := by rw [henv]; rfl
  glo := by rw [henv]; rfl
  bui := by rw [henv]; rfl
  fr := by rw [henv]; rfl
  hk := by rw [henv]; rfl
  nd := law_ns
  kin := fun i x hx => by rw [henv]; exact allLocal_of law_loc hx
theorem law_rm : Rm (lawFm G L env) (callerA.deeper env) 60 where
  fr := Around.frames_deeper rfl
  dep := by show 301 + 1 + 3 * 60 < 900; decide
  uni := by show 4 + 3 + 20 * 60 < 6000; decide
  hd := rfl
theorem law_end (hK : IsK g) (hP : IsP g) {sA : Addr} {m : Str → Option Value} {s : Shared} {Q : Flow → Shared → Prop} {E : Value → Shared → Prop} {w3 w2 w1 w0 : Obj} {u3 u2 u1 u0 : Option Value} {vals : List Value} {ns : List Int}
    (X : g.K.In G) (T : Top g.p g.loose g.mean g.mg g.mb G) (K : Below callerA G [] G) (F : Fr G L s.heap m) (N : News G L s.heap [(L + 1 + 1 + 1 + 1, w3), (L + 1 + 1 + 1, w2), (L + 1 + 1, w1), (L + 1, w0), (522, tabObj #[])])
    (h3 : w3.data = .cell u3) (h2 : w2.data = .cell u2) (h1 : w1.data = .cell u1) (h0 : w0.data = .cell u0) (hl : G.IsList sA vals.toArray) (hI : IntsAre vals ns) (hlen : vals.length ≤ 1000000) (hC : CodeHd G cdA 522) (hL : 522 < L)
    (hm : m = lm lawNs [some (.ref sA), none, none, none, none, none, none, none, none, none, none, none, none, none])
    (henv : env = envX "law" lawScope L fa (.ref cdA) [("small", L + 1 + 1 + 1 + 1), ("one", L + 1 + 1 + 1), ("eight", L + 1 + 1), ("code", L + 1)]) (hg : s.gens = #[])
    (hQ : ∀ s' : Shared, (∀ b o, G.get? b = some o → s'.heap.get? b = some o) → s'.os = s.os → AllBare s'.gens → GrownAll [(524, 522)] s'.heap → Q (.ret (.bool true)) s') :
    wpAny g.M (callerA.deeper env) (execs lawBody env) Q E s := by
  have LE : LEnv (lawFm G L env) fa cdA (lawA L u3 u2 u1 u0 (env.qual ++ "<lambda>")) := ⟨henv, rfl, hC, rfl, rfl⟩
  have hs : St (lawFm G L env) [some (.ref sA), none, none, none, none, none, none, none, none, none, none, none, none, none] [(L + 1 + 1 + 1 + 1, w3), (L + 1 + 1 + 1, w2), (L + 1 + 1, w1), (L + 1, w0), (522, tabObj #[])] ⟨s.gens, s.drawn, s.os⟩ s := by
    rw [hm] at F
    exact ⟨F, N, nd5 L hL, rfl, rfl, rfl⟩
  have main := law_all hK hP (law_cx X T K henv) law_rm LE hl hI hlen (nd5' L hL) ⟨w2, .tail _ (.head _), h2⟩ ⟨w0, .tail _ (.tail _ (.tail _ (.head _))), h0⟩ ⟨w1, .tail _ (.tail _ (.head _)), h1⟩ ⟨w3, .head _, h3⟩ ⟨[], .tail _ (.tail _ (.tail _ (.tail _ (.head _)))), fun x hx => nomatch hx⟩ hs
  refine wpAny_mono main (fun fl s' h => ?_) (fun _ _ z => z.elim)
  obtain ⟨rfl, vs', N', r', q, hs', hgn, T', hT1, _⟩ := h
  refine hQ s' hs'.F.keep (hs'.os.trans hgn.os) ?_ ⟨⟨_, hs'.N.get hT1⟩, trivial⟩
  rw [hs'.gens]
  refine hgn.bare ?_
  show AllBare s.gens
  rw [hg]
  intro x hx
  simp at hx
end
end Mine
end

section
set_option maxRecDepth 100000
open PySem PySem.W PyProof.Rows PySem.Calls PySem.Spec
set_option maxHeartbeats 4000000
namespace Mine
/-- what is asked of a law that answers True -/
theorem lawPost {M : Model} {A : Around} {cd : Code} {s s₁ : Shared} {cw : ClaimW} {cl : Str → Option Addr} {mean : ExcName → Option Value} {args : List WData} {tabs : List (Addr × Addr)} (hT : TabsAt tabs s₁.heap) (hr : ∀ a x, cw.raises a x = false)
    (hp : cw.post args (.bool true) args = true)
    (h : codeAny M A cd (fun r s' => r = .ok (.ret (.bool true)) ∧ (∀ b o, (ghostOf s₁.heap tabs).get? b = some o → s'.heap.get? b = some o) ∧ s'.os = s₁.os ∧ AllBare s'.gens ∧ GrownAll tabs s'.heap) s) : codeAny M A cd (GoodWG cw cl mean args s₁) s :=
  codeAny_mono h fun r s' ⟨er, hk, hos, hg, hgr⟩ => by
    subst er
    refine ⟨.inl ⟨_, _, _, rfl, fun c => hr _ c, ReadsW.bool true, hp, fun _ => ⟨List.nodup_nil, fun _ h => nomatch h⟩⟩, ⟨fun b o e => ?_, fun b o e => ?_⟩, hos, hg⟩
    · by_cases hb : b ∈ tabs.map (·.2)
      · obtain ⟨q, hq, rfl⟩ := List.mem_map.mp hb
        have e2 := (hT q hq).2
        rw [e] at e2
        cases e2
        obtain ⟨ps, hP⟩ := hgr.get q hq
        exact .inr (.inl ⟨((hT q hq).1.tab (hT q hq).2).isCodeTable, rfl, #[], ps, rfl, by rw [Array.empty_append]; exact hP⟩)
      · exact .inl (hk b o (ghost_ne e hb))
    · by_cases hb : b ∈ tabs.map (·.2)
      · obtain ⟨q, hq, rfl⟩ := List.mem_map.mp hb
        obtain ⟨ps, hP⟩ := hgr.get q hq
        exact ⟨_, hP⟩
      · exact ⟨o, hk b o (ghost_ne e hb)⟩
theorem claimed : PySem.Challenge.rw_sv0018_01.Holds := by
  refine hd ?_
  k_fill
  intro w s₀ s₁ mg mb G Y fa o pm cd doc dV kV ho hd hcd hD hmg hg args vals as hpre hlay hrd hwl hlo
  have KX := km_in_of Y
  km_tabs Y
  have X := (Ground.X G).1
  have V := (Ground.X G).2
  refine Ground.open G ?_
  intro T B D TE TW
  try (refine guard_noD D (by decide +kernel) ?_; clear D)
  km_lay T hmg ho hd cd
  clear hmg
  wrow_args hpre hlay hrd hwl hlo
  refine enter_call ?_
  w_top on
  refine lawPost hT9 (fun _ _ => rfl) ?hp ?_
  case hp => first | wrow_post | (exact postW_of (by wrow_shape) (by first | rfl | wtm_val) (by w_fin))
  w_call any ho hd hcd hD T F
  clear hd
  kn_ghosts F T
  k_drop
  rename_i ws hs0 hlay0 hL1 hr1 hl2 wa wb sA vals wc hL ra w10 r0 hI hr hcond hcond2 h1 tk1 w3 w2 w1 w0 hd3 hd2 hd1 hd0 X0 X' T' K' F' N' l0
  have hlen : vals.length ≤ 1000000 := by
    have := IntsAre.length hI
    omega
  refine law_end (g := ⟨PySem.Challenge.rw_sv0018_01.row.prog, w, _root_.Mine.hd.heap_39 w.params, _, _, _, _, _⟩) (fa := fa) rfl rfl X' T' K' F' N' hd3 hd2 hd1 hd0 lifted hI hlen codeHd l0 ?_ ?_ hg ?_
  · exact law_m rfl
  · rfl
  · intro s' z1 z2 z3 z4
    exact ⟨rfl, z1, z2, z3, z4⟩
end Mine
end

set_option maxRecDepth 100000 in
theorem PySem.Challenge.cw_sv0018_01_holds : PySem.Challenge.rw_sv0018_01.Holds := by
  exact Mine.claimed
