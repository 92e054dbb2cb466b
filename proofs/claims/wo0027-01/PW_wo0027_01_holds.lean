import PyProof.Rows.All
import Wide.All
import OpenK.AllK
import Wide.FinOn
import Lean
import PySem.Challenge.RW_wo0027_01
open PySem PySem.W PyProof.Rows
set_option Elab.async false
section
open PySem PySem.W PyProof.Rows
set_option Elab.async false
set_option maxRecDepth 100000
set_option maxHeartbeats 8000000
namespace Mine
noncomputable def viewX : { q : Program // q = { PySem.Challenge.pw_wo0027_01 with main := { PySem.Challenge.pw_wo0027_01.main with body := [1, 3, 4, 5, 6, 7, 8, 9, 10, 12, 13, 14, 16, 17, 18, 19].filterMap fun i => PySem.Challenge.pw_wo0027_01.main.body[i]? } } } := by
  refine ⟨?_, ?_⟩
  rotate_left
  · dsimp only [PySem.Challenge.pw_wo0027_01, List.filterMap, List.getElem?_cons_succ, List.getElem?_cons_zero, List.getElem?_nil]
    exact rfl
noncomputable def view : Program := viewX.1
local macro_rules | `(tactic| o_law) => `(tactic| refine holds_law (by decide +kernel) fun said => ?_)
local macro_rules | `(tactic| o_head (kHook $K $as $e)) => `(tactic| (
    refine holds_open (q := Mine.view) (loose := [PySem.Str.ofString "ONE_THIRD", PySem.Str.ofString "ONE_SIXTH", PySem.Str.ofString "TWO_THIRD"]) (Xt := fun s => xlAt Mine.view [(PySem.Str.ofString "ONE_THIRD", WData.float 4599676419421066581), (PySem.Str.ofString "ONE_SIXTH", WData.float 4595172819793696085), (PySem.Str.ofString "TWO_THIRD", WData.float 4604180019048437077)] s && recOk (RowW.records (OpenRow.toRowW (OpenLaw.row PySem.Challenge.rw_wo0027_01))) s) (XP := XL Mine.view [(PySem.Str.ofString "ONE_THIRD", WData.float 4599676419421066581), (PySem.Str.ofString "ONE_SIXTH", WData.float 4595172819793696085), (PySem.Str.ofString "TWO_THIRD", WData.float 4604180019048437077)]) (Yf := Hook.obs (kHook $K $as $e)) (Ya := Hook.val (kHook $K $as $e)) (YP := Hook.says (kHook $K $as $e)) (N := 1166) ?hl (Hook.of (kHook $K $as $e)) (Hook.keeps (kHook $K $as $e)) (fun s e => xl_of s (Bool.and_eq_true_iff.mp e).1) XL.keeps (by rfl) (by rfl) (by rfl) (fun s e => recFacts_of (Bool.and_eq_true_iff.mp e).2) (by rfl) (by first | assumption | decide +kernel) (by decide +kernel) ⟨rfl, rfl, rfl, rfl, rfl, by decide +kernel⟩ ?hw ?hc
    case hl => exact fun w => by kernel_rfl))
open_top hd for PySem.Challenge.rw_wo0027_01
end Mine
end
local macro_rules | `(tactic| walk_at $s:str) => `(tactic| k_extra $s)
local macro_rules | `(tactic| k_all) => `(tactic| assumption)
local macro_rules | `(tactic| omega) => `(tactic| first | with_reducible rfl | lia | omega +splitDisjunctions)

section
open PySem PySem.W PyProof.Rows
set_option Elab.async false
set_option maxRecDepth 100000
set_option maxHeartbeats 8000000
namespace Mine
/-- keeps what stands behind a generalize from being put back -/
theorem lock {p : Prop} (h : p) : p := h
/-- what a call of the def at f with the values vs does, from any frame, beside any ledger -/
noncomputable def Does (w : World) (dn un₀ : Nat) (f : Addr) (vs : List Value) (news : List (Addr × Obj)) (Post : Value → List (Addr × Obj) → Prop) : Prop :=
  ∀ (p : Program) (loose : List Str) (mean : ExcName → Option Value) (mg mb : Str → Option Value) (dp un : Nat) (gd : Option (List Code)) (cn : Str) (cs : Scope) (a : Addr) (ccd : Value) (cl : List (Str × Addr)) (outer : List Env) (A₀ : Around) (base h₀ : Heap) (L : Addr) (m : Str → Option Value) (s : Shared)
    (Q E : Value → Shared → Prop),
    Below A₀ base outer h₀ → Fr h₀ L s.heap m → (hd.heap_1 w.params).In h₀ → News h₀ L s.heap news → Top p loose mean mg mb h₀ → cs.kind = .function → dp + dn < recursionLimit → un + un₀ < cLine →
    (∀ r tl h' tk', Fr h₀ L h' m → News h₀ L h' (tl ++ news) → (∀ p ∈ tl, ∀ q ∈ news, q.1 < p.1) → Post r tl → Q r { s with heap := h', toks := tk' }) →
    wpAny (model Challenge.rw_wo0027_01.row.prog w) (ktrTop dp un gd cn cs L a ccd cl outer) (PySem.call (.ref f) vs) Q E s
/-- the same at one choice of the frames and the state -/
noncomputable def DoesAt (w : World) (dn un₀ : Nat) (f : Addr) (vs : List Value) (news : List (Addr × Obj)) (Post : Value → List (Addr × Obj) → Prop) (p : Program) (loose : List Str) (mean : ExcName → Option Value) (mg mb : Str → Option Value) (dp un : Nat) (gd : Option (List Code)) (cn : Str) (cs : Scope) (a : Addr) (ccd : Value) (cl : List (Str × Addr)) (outer : List Env) (A₀ : Around) (base h₀ : Heap) (L : Addr) (m : Str → Option Value) (s : Shared)
    (Q E : Value → Shared → Prop) : Prop :=
    Below A₀ base outer h₀ → Fr h₀ L s.heap m → (hd.heap_1 w.params).In h₀ → News h₀ L s.heap news → Top p loose mean mg mb h₀ → cs.kind = .function → dp + dn < recursionLimit → un + un₀ < cLine →
    (∀ r tl h' tk', Fr h₀ L h' m → News h₀ L h' (tl ++ news) → (∀ p ∈ tl, ∀ q ∈ news, q.1 < p.1) → Post r tl → Q r { s with heap := h', toks := tk' }) →
    wpAny (model Challenge.rw_wo0027_01.row.prog w) (ktrTop dp un gd cn cs L a ccd cl outer) (PySem.call (.ref f) vs) Q E s
/-- the count of tokens under a new name -/
theorem toks_succ {α : Type} {M : Model} {A : Around} {c : Sem α} {Q : α → Shared → Prop} {E : Value → Shared → Prop} {h : Heap} {g : Array GenState} {d : Drawn} {X : Nat} {o : OsState} (H : ∀ n : Nat, wpAny M A c Q E ⟨h, g, d, n, o⟩) : wpAny M A c Q E ⟨h, g, d, X + 1, o⟩ := H _
/-- a law for all data is shown at the least favourable data -/
noncomputable def bad {α : Type} (ne : Nonempty α) (P : α → Prop) : α := @Classical.epsilon α ne fun x => ¬ P x
theorem all_of_bad {α : Type} (ne : Nonempty α) {P : α → Prop} (h : P (bad ne P)) (x : α) : P x := Classical.byContradiction fun hx => Classical.epsilon_spec (p := fun x => ¬ P x) ⟨x, hx⟩ h
end Mine
end
section
open PySem PySem.W PyProof.Rows
set_option Elab.async false
set_option maxRecDepth 100000
set_option maxHeartbeats 8000000
set_option pp.deepTerms false
set_option pp.deepTerms.threshold 4
set_option pp.maxSteps 6000
namespace Mine
abbrev tup (vs : Array Value) : Obj := { cls := .type "tuple", data := .seq vs }
noncomputable def ltF (x y : UInt64) : Bool := Float64.cmp x y == some .lt
noncomputable def max3 (a b c : UInt64) : UInt64 := if ltF a b then (if ltF b c then c else b) else (if ltF a c then c else a)
noncomputable def min3 (a b c : UInt64) : UInt64 := if ltF b a then (if ltF c b then c else b) else (if ltF c a then c else a)
section
variable {prog : Program} {w : World} {A : Around} {E : Value → Shared → Prop} {s : Shared} {Q : Value → Shared → Prop} {a b c : UInt64} {t u x : Tok}
theorem max3_grown (hh : A.handled = none)
    (h : ∀ h' tk v, (∀ d o, s.heap.get? d = some o → h'.get? d = some o) → Q (.float (max3 a b c) v) { s with heap := h', toks := tk }) :
    wpAny (model prog w) A (PySem.call (.builtin "max") [.float a t, .float b u, .float c x]) Q E s := by
  have hT : (s.heap.push { cls := .type "tuple", data := .seq #[.float a t, .float b u, .float c x] }).IsTuple s.heap.objs.size #[.float a t, .float b u, .float c x] := ⟨_, Heap.get?_push_size _ rfl, rfl, 0, rfl⟩
  refine call_max_three (wpAny_pyIter_tuple hT ?_)
  have hsz : (s.heap.push { cls := .type "tuple", data := .seq #[.float a t, .float b u, .float c x] }).objs.size = s.heap.objs.size + 1 := Heap.size_push ..
  refine ⟨_, [_, s.heap.objs.size], [_], _, _, _, _, rfl, Walks.tuple (A := A.in1) hh _ s.heap.objs.size (by rw [hsz]; exact Nat.ne_of_lt (Nat.lt_succ_self _)) #[.float a t, .float b u, .float c x],
    ⟨⟨_, Heap.get?_push_size _ rfl, rfl, rfl⟩, hT.push _⟩, fun d hd => ?_, by simp, PySem.Flt.cmpOf_gt #[.float a t, .float b u, .float c x] (by simp [PySem.Flt.NumV.float]), fun v h' tk hP hk => ?_⟩
  · show d < ((s.heap.push _).push _).objs.size
    rw [Heap.size_push, hsz]
    rcases List.mem_cons.mp hd with rfl | hd
    · rw [hsz]; exact Nat.lt_succ_self _
    · rcases List.mem_cons.mp hd with rfl | hd
      · exact Nat.lt_succ_of_lt (Nat.lt_succ_self _)
      · cases hd
  · have hold : ∀ d o, s.heap.get? d = some o → h'.get? d = some o := fun d o e => by
      refine hk d o (fun hm => ?_) (Heap.get?_push_of_some _ (Heap.get?_push_of_some _ e))
      rcases List.mem_cons.mp hm with e1 | hm
      · have := Heap.lt_size e; rw [e1, hsz] at this; exact Nat.lt_irrefl _ (Nat.lt_of_succ_lt this)
      · cases hm
    have hv : ∃ y, v = .float (max3 a b c) y := by
      unfold max3 ltF
      by_cases h1 : (Float64.cmp a b == some Ordering.lt) = true <;> by_cases h2 : (Float64.cmp b c == some Ordering.lt) = true <;> by_cases h3 : (Float64.cmp a c == some Ordering.lt) = true <;>
        simp [argBest, PySem.Flt.ltV, h1, h2, h3] at hP <;> simp [h1, h2, h3, ← hP]
    obtain ⟨y, rfl⟩ := hv
    exact h h' tk y hold
theorem min3_grown (hh : A.handled = none)
    (h : ∀ h' tk v, (∀ d o, s.heap.get? d = some o → h'.get? d = some o) → Q (.float (min3 a b c) v) { s with heap := h', toks := tk }) :
    wpAny (model prog w) A (PySem.call (.builtin "min") [.float a t, .float b u, .float c x]) Q E s := by
  have hT : (s.heap.push { cls := .type "tuple", data := .seq #[.float a t, .float b u, .float c x] }).IsTuple s.heap.objs.size #[.float a t, .float b u, .float c x] := ⟨_, Heap.get?_push_size _ rfl, rfl, 0, rfl⟩
  refine call_min_three (wpAny_pyIter_tuple hT ?_)
  have hsz : (s.heap.push { cls := .type "tuple", data := .seq #[.float a t, .float b u, .float c x] }).objs.size = s.heap.objs.size + 1 := Heap.size_push ..
  refine ⟨_, [_, s.heap.objs.size], [_], _, _, _, _, rfl, Walks.tuple (A := A.in1) hh _ s.heap.objs.size (by rw [hsz]; exact Nat.ne_of_lt (Nat.lt_succ_self _)) #[.float a t, .float b u, .float c x],
    ⟨⟨_, Heap.get?_push_size _ rfl, rfl, rfl⟩, hT.push _⟩, fun d hd => ?_, by simp, PySem.Flt.cmpOf_lt #[.float a t, .float b u, .float c x] (by simp [PySem.Flt.NumV.float]), fun v h' tk hP hk => ?_⟩
  · show d < ((s.heap.push _).push _).objs.size
    rw [Heap.size_push, hsz]
    rcases List.mem_cons.mp hd with rfl | hd
    · rw [hsz]; exact Nat.lt_succ_self _
    · rcases List.mem_cons.mp hd with rfl | hd
      · exact Nat.lt_succ_of_lt (Nat.lt_succ_self _)
      · cases hd
  · have hold : ∀ d o, s.heap.get? d = some o → h'.get? d = some o := fun d o e => by
      refine hk d o (fun hm => ?_) (Heap.get?_push_of_some _ (Heap.get?_push_of_some _ e))
      rcases List.mem_cons.mp hm with e1 | hm
      · have := Heap.lt_size e; rw [e1, hsz] at this; exact Nat.lt_irrefl _ (Nat.lt_of_succ_lt this)
      · cases hm
    have hv : ∃ y, v = .float (min3 a b c) y := by
      unfold min3 ltF
      by_cases h1 : (Float64.cmp b a == some Ordering.lt) = true <;> by_cases h2 : (Float64.cmp c b == some Ordering.lt) = true <;> by_cases h3 : (Float64.cmp c a == some Ordering.lt) = true <;>
        simp [argBest, PySem.Flt.ltV, h1, h2, h3] at hP <;> simp [h1, h2, h3, ← hP]
    obtain ⟨y, rfl⟩ := hv
    exact h h' tk y hold
variable {h₀ : Heap} {L : Addr} {m : Str → Option Value} {news : List (Addr × Obj)}
theorem max3_N (hh : A.handled = none) (F : Fr h₀ L s.heap m) (N : News h₀ L s.heap news)
    (h : ∀ h' tk v, Fr h₀ L h' m → News h₀ L h' news → Q (.float (max3 a b c) v) { s with heap := h', toks := tk }) :
    wpAny (model prog w) A (PySem.call (.builtin "max") [.float a t, .float b u, .float c x]) Q E s :=
  max3_grown hh fun h' tk v kp => h h' tk v (F.grownK kp) (N.grown kp)
theorem min3_N (hh : A.handled = none) (F : Fr h₀ L s.heap m) (N : News h₀ L s.heap news)
    (h : ∀ h' tk v, Fr h₀ L h' m → News h₀ L h' news → Q (.float (min3 a b c) v) { s with heap := h', toks := tk }) :
    wpAny (model prog w) A (PySem.call (.builtin "min") [.float a t, .float b u, .float c x]) Q E s :=
  min3_grown hh fun h' tk v kp => h h' tk v (F.grownK kp) (N.grown kp)
end
end Mine
end
section
open PySem PySem.W PyProof.Rows
set_option Elab.async false
set_option maxRecDepth 100000
set_option maxHeartbeats 8000000
set_option pp.deepTerms false
set_option pp.deepTerms.threshold 4
set_option pp.maxSteps 6000
namespace Mine
noncomputable def eqF (x y : UInt64) : Bool := Float64.cmp x y == some .eq
noncomputable def vF (m1 m2 h0 : UInt64) : UInt64 :=
  let h := (Float64.divmod h0 0x3ff0000000000000).2
  if ltF h 4595172819793696085 then Float64.add m1 (Float64.mul (Float64.mul (Float64.sub m2 m1) h) 0x4018000000000000)
  else if ltF h 0x3fe0000000000000 then m2
  else if ltF h 4604180019048437077 then Float64.add m1 (Float64.mul (Float64.mul (Float64.sub m2 m1) (Float64.sub 4604180019048437077 h)) 0x4018000000000000)
  else m1
namespace EI1
noncomputable def Pr9 (w : World) (news : List (Addr × Obj)) (m1 : UInt64) (m2 : UInt64) (hue : UInt64) (t1 : Tok) (t2 : Tok) (t3 : Tok) (p : Program) (loose : List Str) (mean : ExcName → Option Value) (mg : Str → Option Value) (mb : Str → Option Value) (dp : Nat) (un : Nat) (gd : Option (List Code)) (cn : Str) (cs : Scope) (a : Addr) (ccd : Value) (cl : List (Str × Addr)) (outer : List Env) (A₀ : Around) (base : Heap) (h₀ : Heap) (L : Addr) (m : Str → Option Value) (s : Shared) (Q : Value → Shared → Prop) (E : Value → Shared → Prop) : Prop := DoesAt w 1 8 42 [.float m1 t1, .float m2 t2, .float hue t3] news (fun r tl => tl = [] ∧ ∃ x t, r = .float x t ∧ vF m1 m2 hue = x) p loose mean mg mb dp un gd cn cs a ccd cl outer A₀ base h₀ L m s Q E
abbrev Pack9 : Type := (World) × (List (Addr × Obj)) × (UInt64) × (UInt64) × (UInt64) × (Tok) × (Tok) × (Tok) × (Program) × (List Str) × (ExcName → Option Value) × (Str → Option Value) × (Str → Option Value) × (Nat) × (Nat) × (Option (List Code)) × (Str) × (Scope) × (Addr) × (Value) × (List (Str × Addr)) × (List Env) × (Around) × (Heap) × (Heap) × (Addr) × (Str → Option Value) × (Shared) × (Value → Shared → Prop) × (Value → Shared → Prop)
noncomputable def PrX9 (x : Pack9) : Prop := Pr9 (x.1) (x.2.1) (x.2.2.1) (x.2.2.2.1) (x.2.2.2.2.1) (x.2.2.2.2.2.1) (x.2.2.2.2.2.2.1) (x.2.2.2.2.2.2.2.1) (x.2.2.2.2.2.2.2.2.1) (x.2.2.2.2.2.2.2.2.2.1) (x.2.2.2.2.2.2.2.2.2.2.1) (x.2.2.2.2.2.2.2.2.2.2.2.1) (x.2.2.2.2.2.2.2.2.2.2.2.2.1) (x.2.2.2.2.2.2.2.2.2.2.2.2.2.1) (x.2.2.2.2.2.2.2.2.2.2.2.2.2.2.1) (x.2.2.2.2.2.2.2.2.2.2.2.2.2.2.2.1) (x.2.2.2.2.2.2.2.2.2.2.2.2.2.2.2.2.1) (x.2.2.2.2.2.2.2.2.2.2.2.2.2.2.2.2.2.1) (x.2.2.2.2.2.2.2.2.2.2.2.2.2.2.2.2.2.2.1) (x.2.2.2.2.2.2.2.2.2.2.2.2.2.2.2.2.2.2.2.1) (x.2.2.2.2.2.2.2.2.2.2.2.2.2.2.2.2.2.2.2.2.1) (x.2.2.2.2.2.2.2.2.2.2.2.2.2.2.2.2.2.2.2.2.2.1) (x.2.2.2.2.2.2.2.2.2.2.2.2.2.2.2.2.2.2.2.2.2.2.1) (x.2.2.2.2.2.2.2.2.2.2.2.2.2.2.2.2.2.2.2.2.2.2.2.1) (x.2.2.2.2.2.2.2.2.2.2.2.2.2.2.2.2.2.2.2.2.2.2.2.2.1) (x.2.2.2.2.2.2.2.2.2.2.2.2.2.2.2.2.2.2.2.2.2.2.2.2.2.1) (x.2.2.2.2.2.2.2.2.2.2.2.2.2.2.2.2.2.2.2.2.2.2.2.2.2.2.1) (x.2.2.2.2.2.2.2.2.2.2.2.2.2.2.2.2.2.2.2.2.2.2.2.2.2.2.2.1) (x.2.2.2.2.2.2.2.2.2.2.2.2.2.2.2.2.2.2.2.2.2.2.2.2.2.2.2.2.1) (x.2.2.2.2.2.2.2.2.2.2.2.2.2.2.2.2.2.2.2.2.2.2.2.2.2.2.2.2.2)
theorem ne9 : Nonempty Pack9 := ⟨(aWorld 1, default, default, default, default, default, default, default, default, default, default, default, default, default, default, default, default, default, default, default, default, default, callerA, default, default, default, default, (start Mine.view).1, default, default)⟩
@[irreducible] noncomputable def pk9 : Pack9 := bad ne9 PrX9
@[irreducible] noncomputable def w : World := pk9.1
@[irreducible] noncomputable def news : List (Addr × Obj) := pk9.2.1
@[irreducible] noncomputable def m1 : UInt64 := pk9.2.2.1
@[irreducible] noncomputable def m2 : UInt64 := pk9.2.2.2.1
@[irreducible] noncomputable def hue : UInt64 := pk9.2.2.2.2.1
@[irreducible] noncomputable def t1 : Tok := pk9.2.2.2.2.2.1
@[irreducible] noncomputable def t2 : Tok := pk9.2.2.2.2.2.2.1
@[irreducible] noncomputable def t3 : Tok := pk9.2.2.2.2.2.2.2.1
@[irreducible] noncomputable def p : Program := pk9.2.2.2.2.2.2.2.2.1
@[irreducible] noncomputable def loose : List Str := pk9.2.2.2.2.2.2.2.2.2.1
@[irreducible] noncomputable def mean : ExcName → Option Value := pk9.2.2.2.2.2.2.2.2.2.2.1
@[irreducible] noncomputable def mg : Str → Option Value := pk9.2.2.2.2.2.2.2.2.2.2.2.1
@[irreducible] noncomputable def mb : Str → Option Value := pk9.2.2.2.2.2.2.2.2.2.2.2.2.1
@[irreducible] noncomputable def dp : Nat := pk9.2.2.2.2.2.2.2.2.2.2.2.2.2.1
@[irreducible] noncomputable def un : Nat := pk9.2.2.2.2.2.2.2.2.2.2.2.2.2.2.1
@[irreducible] noncomputable def gd : Option (List Code) := pk9.2.2.2.2.2.2.2.2.2.2.2.2.2.2.2.1
@[irreducible] noncomputable def cn : Str := pk9.2.2.2.2.2.2.2.2.2.2.2.2.2.2.2.2.1
@[irreducible] noncomputable def cs : Scope := pk9.2.2.2.2.2.2.2.2.2.2.2.2.2.2.2.2.2.1
@[irreducible] noncomputable def a : Addr := pk9.2.2.2.2.2.2.2.2.2.2.2.2.2.2.2.2.2.2.1
@[irreducible] noncomputable def ccd : Value := pk9.2.2.2.2.2.2.2.2.2.2.2.2.2.2.2.2.2.2.2.1
@[irreducible] noncomputable def cl : List (Str × Addr) := pk9.2.2.2.2.2.2.2.2.2.2.2.2.2.2.2.2.2.2.2.2.1
@[irreducible] noncomputable def outer : List Env := pk9.2.2.2.2.2.2.2.2.2.2.2.2.2.2.2.2.2.2.2.2.2.1
@[irreducible] noncomputable def A₀ : Around := pk9.2.2.2.2.2.2.2.2.2.2.2.2.2.2.2.2.2.2.2.2.2.2.1
@[irreducible] noncomputable def base : Heap := pk9.2.2.2.2.2.2.2.2.2.2.2.2.2.2.2.2.2.2.2.2.2.2.2.1
@[irreducible] noncomputable def h₀ : Heap := pk9.2.2.2.2.2.2.2.2.2.2.2.2.2.2.2.2.2.2.2.2.2.2.2.2.1
@[irreducible] noncomputable def L : Addr := pk9.2.2.2.2.2.2.2.2.2.2.2.2.2.2.2.2.2.2.2.2.2.2.2.2.2.1
@[irreducible] noncomputable def m : Str → Option Value := pk9.2.2.2.2.2.2.2.2.2.2.2.2.2.2.2.2.2.2.2.2.2.2.2.2.2.2.1
@[irreducible] noncomputable def s : Shared := pk9.2.2.2.2.2.2.2.2.2.2.2.2.2.2.2.2.2.2.2.2.2.2.2.2.2.2.2.1
@[irreducible] noncomputable def Q : Value → Shared → Prop := pk9.2.2.2.2.2.2.2.2.2.2.2.2.2.2.2.2.2.2.2.2.2.2.2.2.2.2.2.2.1
@[irreducible] noncomputable def E : Value → Shared → Prop := pk9.2.2.2.2.2.2.2.2.2.2.2.2.2.2.2.2.2.2.2.2.2.2.2.2.2.2.2.2.2
theorem core9 : Pr9 w news m1 m2 hue t1 t2 t3 p loose mean mg mb dp un gd cn cs a ccd cl outer A₀ base h₀ L m s Q E := by
  unfold Pr9
  w_top off
  k_with_none
  k_with "execs cons" => (k_here; (with_reducible refine toks_succ ?_); intro tk8ₓ)
  k_with "call builtin:max" => ((with_reducible show wpAny _ _ (PySem.call (Value.builtin "max") [Value.float _ _, Value.float _ _, Value.float _ _]) _ _ _); (rename News _ _ _ _ => N'ₓ); (rename Fr _ _ _ _ => F'ₓ); refine max3_N rfl F'ₓ N'ₓ ?_; clear N'ₓ; intro _ _ _ _ _)
  k_with "call builtin:min" => ((with_reducible show wpAny _ _ (PySem.call (Value.builtin "min") [Value.float _ _, Value.float _ _, Value.float _ _]) _ _ _); (rename News _ _ _ _ => N'ₓ); (rename Fr _ _ _ _ => F'ₓ); refine min3_N rfl F'ₓ N'ₓ ?_; clear N'ₓ; intro _ _ _ _ _)
  unfold DoesAt
  k_fill
  intro B F X N T hk hd' hu' hret
  refine wpAny_call ?_
  k_dflt ktr_enter
  k_steps
  all_goals (refine hret _ [] _ _ (by assumption) (by assumption) (fun _ h => nomatch h) ⟨rfl, _, _, rfl, ?_⟩; simp [vF, ltF, *])
theorem all9 (x : Pack9) : PrX9 x := all_of_bad ne9 (by with_unfolding_all exact core9) x
end EI1
theorem v_does (w : World) (news : List (Addr × Obj)) (m1 m2 hue : UInt64) (t1 t2 t3 : Tok) : Does w 1 8 42 [.float m1 t1, .float m2 t2, .float hue t3] news (fun r tl => tl = [] ∧ ∃ x t, r = .float x t ∧ vF m1 m2 hue = x) :=
  fun q90 q91 q92 q93 q94 q95 q96 q97 q98 q99 q910 q911 q912 q913 q914 q915 q916 q917 q918 q919 q920 q921 => EI1.all9 (w, news, m1, m2, hue, t1, t2, t3, q90, q91, q92, q93, q94, q95, q96, q97, q98, q99, q910, q911, q912, q913, q914, q915, q916, q917, q918, q919, q920, q921) 
noncomputable def hsvF (r g b : UInt64) : UInt64 × UInt64 × UInt64 :=
  if eqF (min3 r g b) (max3 r g b) then (0, 0, max3 r g b)
  else
    let maxc := max3 r g b
    let minc := min3 r g b
    let rangec := Float64.sub maxc minc
    let rc := Float64.div (Float64.sub maxc r) rangec
    let gc := Float64.div (Float64.sub maxc g) rangec
    let bc := Float64.div (Float64.sub maxc b) rangec
    let h := if eqF r maxc then Float64.sub bc gc else if eqF g maxc then Float64.sub (Float64.add 0x4000000000000000 rc) bc else Float64.sub (Float64.add 0x4010000000000000 gc) rc
    ((Float64.divmod (Float64.div h 0x4018000000000000) 0x3ff0000000000000).2, Float64.div rangec maxc, maxc)
noncomputable def hlsF (r g b : UInt64) : UInt64 × UInt64 × UInt64 :=
  let maxc := max3 r g b
  let minc := min3 r g b
  let sumc := Float64.add maxc minc
  let l := Float64.div sumc 0x4000000000000000
  if eqF minc maxc then (0, l, 0)
  else
    let rangec := Float64.sub maxc minc
    let s := if Float64.cmp l 0x3fe0000000000000 == some .lt || Float64.cmp l 0x3fe0000000000000 == some .eq then Float64.div rangec sumc else Float64.div rangec (Float64.sub (Float64.sub 0x4000000000000000 maxc) minc)
    let rc := Float64.div (Float64.sub maxc r) rangec
    let gc := Float64.div (Float64.sub maxc g) rangec
    let bc := Float64.div (Float64.sub maxc b) rangec
    let h := if eqF r maxc then Float64.sub bc gc else if eqF g maxc then Float64.sub (Float64.add 0x4000000000000000 rc) bc else Float64.sub (Float64.add 0x4010000000000000 gc) rc
    ((Float64.divmod (Float64.div h 0x4018000000000000) 0x3ff0000000000000).2, l, s)
namespace EI2
noncomputable def Pr9 (w : World) (news : List (Addr × Obj)) (r : UInt64) (g : UInt64) (b : UInt64) (t1 : Tok) (t2 : Tok) (t3 : Tok) (p : Program) (loose : List Str) (mean : ExcName → Option Value) (mg : Str → Option Value) (mb : Str → Option Value) (dp : Nat) (un : Nat) (gd : Option (List Code)) (cn : Str) (cs : Scope) (a : Addr) (ccd : Value) (cl : List (Str × Addr)) (outer : List Env) (A₀ : Around) (base : Heap) (h₀ : Heap) (L : Addr) (m : Str → Option Value) (s : Shared) (Q : Value → Shared → Prop) (E : Value → Shared → Prop) : Prop := ∀ (hz : eqF (min3 r g b) (max3 r g b) = false → Float64.isZero (max3 r g b) = false ∧ Float64.isZero (Float64.sub (max3 r g b) (min3 r g b)) = false) , DoesAt w 1 8 49 [.float r t1, .float g t2, .float b t3] news (fun v tl => ∃ D x y z u1 u2 u3, v = .ref D ∧ tl = [(D, tup #[.float x u1, .float y u2, .float z u3])] ∧ hsvF r g b = (x, y, z)) p loose mean mg mb dp un gd cn cs a ccd cl outer A₀ base h₀ L m s Q E
abbrev Pack9 : Type := (World) × (List (Addr × Obj)) × (UInt64) × (UInt64) × (UInt64) × (Tok) × (Tok) × (Tok) × (Program) × (List Str) × (ExcName → Option Value) × (Str → Option Value) × (Str → Option Value) × (Nat) × (Nat) × (Option (List Code)) × (Str) × (Scope) × (Addr) × (Value) × (List (Str × Addr)) × (List Env) × (Around) × (Heap) × (Heap) × (Addr) × (Str → Option Value) × (Shared) × (Value → Shared → Prop) × (Value → Shared → Prop)
noncomputable def PrX9 (x : Pack9) : Prop := Pr9 (x.1) (x.2.1) (x.2.2.1) (x.2.2.2.1) (x.2.2.2.2.1) (x.2.2.2.2.2.1) (x.2.2.2.2.2.2.1) (x.2.2.2.2.2.2.2.1) (x.2.2.2.2.2.2.2.2.1) (x.2.2.2.2.2.2.2.2.2.1) (x.2.2.2.2.2.2.2.2.2.2.1) (x.2.2.2.2.2.2.2.2.2.2.2.1) (x.2.2.2.2.2.2.2.2.2.2.2.2.1) (x.2.2.2.2.2.2.2.2.2.2.2.2.2.1) (x.2.2.2.2.2.2.2.2.2.2.2.2.2.2.1) (x.2.2.2.2.2.2.2.2.2.2.2.2.2.2.2.1) (x.2.2.2.2.2.2.2.2.2.2.2.2.2.2.2.2.1) (x.2.2.2.2.2.2.2.2.2.2.2.2.2.2.2.2.2.1) (x.2.2.2.2.2.2.2.2.2.2.2.2.2.2.2.2.2.2.1) (x.2.2.2.2.2.2.2.2.2.2.2.2.2.2.2.2.2.2.2.1) (x.2.2.2.2.2.2.2.2.2.2.2.2.2.2.2.2.2.2.2.2.1) (x.2.2.2.2.2.2.2.2.2.2.2.2.2.2.2.2.2.2.2.2.2.1) (x.2.2.2.2.2.2.2.2.2.2.2.2.2.2.2.2.2.2.2.2.2.2.1) (x.2.2.2.2.2.2.2.2.2.2.2.2.2.2.2.2.2.2.2.2.2.2.2.1) (x.2.2.2.2.2.2.2.2.2.2.2.2.2.2.2.2.2.2.2.2.2.2.2.2.1) (x.2.2.2.2.2.2.2.2.2.2.2.2.2.2.2.2.2.2.2.2.2.2.2.2.2.1) (x.2.2.2.2.2.2.2.2.2.2.2.2.2.2.2.2.2.2.2.2.2.2.2.2.2.2.1) (x.2.2.2.2.2.2.2.2.2.2.2.2.2.2.2.2.2.2.2.2.2.2.2.2.2.2.2.1) (x.2.2.2.2.2.2.2.2.2.2.2.2.2.2.2.2.2.2.2.2.2.2.2.2.2.2.2.2.1) (x.2.2.2.2.2.2.2.2.2.2.2.2.2.2.2.2.2.2.2.2.2.2.2.2.2.2.2.2.2)
theorem ne9 : Nonempty Pack9 := ⟨(aWorld 1, default, default, default, default, default, default, default, default, default, default, default, default, default, default, default, default, default, default, default, default, default, callerA, default, default, default, default, (start Mine.view).1, default, default)⟩
@[irreducible] noncomputable def pk9 : Pack9 := bad ne9 PrX9
@[irreducible] noncomputable def w : World := pk9.1
@[irreducible] noncomputable def news : List (Addr × Obj) := pk9.2.1
@[irreducible] noncomputable def r : UInt64 := pk9.2.2.1
@[irreducible] noncomputable def g : UInt64 := pk9.2.2.2.1
@[irreducible] noncomputable def b : UInt64 := pk9.2.2.2.2.1
@[irreducible] noncomputable def t1 : Tok := pk9.2.2.2.2.2.1
@[irreducible] noncomputable def t2 : Tok := pk9.2.2.2.2.2.2.1
@[irreducible] noncomputable def t3 : Tok := pk9.2.2.2.2.2.2.2.1
@[irreducible] noncomputable def p : Program := pk9.2.2.2.2.2.2.2.2.1
@[irreducible] noncomputable def loose : List Str := pk9.2.2.2.2.2.2.2.2.2.1
@[irreducible] noncomputable def mean : ExcName → Option Value := pk9.2.2.2.2.2.2.2.2.2.2.1
@[irreducible] noncomputable def mg : Str → Option Value := pk9.2.2.2.2.2.2.2.2.2.2.2.1
@[irreducible] noncomputable def mb : Str → Option Value := pk9.2.2.2.2.2.2.2.2.2.2.2.2.1
@[irreducible] noncomputable def dp : Nat := pk9.2.2.2.2.2.2.2.2.2.2.2.2.2.1
@[irreducible] noncomputable def un : Nat := pk9.2.2.2.2.2.2.2.2.2.2.2.2.2.2.1
@[irreducible] noncomputable def gd : Option (List Code) := pk9.2.2.2.2.2.2.2.2.2.2.2.2.2.2.2.1
@[irreducible] noncomputable def cn : Str := pk9.2.2.2.2.2.2.2.2.2.2.2.2.2.2.2.2.1
@[irreducible] noncomputable def cs : Scope := pk9.2.2.2.2.2.2.2.2.2.2.2.2.2.2.2.2.2.1
@[irreducible] noncomputable def a : Addr := pk9.2.2.2.2.2.2.2.2.2.2.2.2.2.2.2.2.2.2.1
@[irreducible] noncomputable def ccd : Value := pk9.2.2.2.2.2.2.2.2.2.2.2.2.2.2.2.2.2.2.2.1
@[irreducible] noncomputable def cl : List (Str × Addr) := pk9.2.2.2.2.2.2.2.2.2.2.2.2.2.2.2.2.2.2.2.2.1
@[irreducible] noncomputable def outer : List Env := pk9.2.2.2.2.2.2.2.2.2.2.2.2.2.2.2.2.2.2.2.2.2.1
@[irreducible] noncomputable def A₀ : Around := pk9.2.2.2.2.2.2.2.2.2.2.2.2.2.2.2.2.2.2.2.2.2.2.1
@[irreducible] noncomputable def base : Heap := pk9.2.2.2.2.2.2.2.2.2.2.2.2.2.2.2.2.2.2.2.2.2.2.2.1
@[irreducible] noncomputable def h₀ : Heap := pk9.2.2.2.2.2.2.2.2.2.2.2.2.2.2.2.2.2.2.2.2.2.2.2.2.1
@[irreducible] noncomputable def L : Addr := pk9.2.2.2.2.2.2.2.2.2.2.2.2.2.2.2.2.2.2.2.2.2.2.2.2.2.1
@[irreducible] noncomputable def m : Str → Option Value := pk9.2.2.2.2.2.2.2.2.2.2.2.2.2.2.2.2.2.2.2.2.2.2.2.2.2.2.1
@[irreducible] noncomputable def s : Shared := pk9.2.2.2.2.2.2.2.2.2.2.2.2.2.2.2.2.2.2.2.2.2.2.2.2.2.2.2.1
@[irreducible] noncomputable def Q : Value → Shared → Prop := pk9.2.2.2.2.2.2.2.2.2.2.2.2.2.2.2.2.2.2.2.2.2.2.2.2.2.2.2.2.1
@[irreducible] noncomputable def E : Value → Shared → Prop := pk9.2.2.2.2.2.2.2.2.2.2.2.2.2.2.2.2.2.2.2.2.2.2.2.2.2.2.2.2.2
theorem core9 : Pr9 w news r g b t1 t2 t3 p loose mean mg mb dp un gd cn cs a ccd cl outer A₀ base h₀ L m s Q E := by
  intro hz
  w_top off
  k_with_none
  k_with "execs cons" => (k_here; (with_reducible refine toks_succ ?_); intro tk8ₓ)
  k_with "call builtin:max" => ((with_reducible show wpAny _ _ (PySem.call (Value.builtin "max") [Value.float _ _, Value.float _ _, Value.float _ _]) _ _ _); (rename News _ _ _ _ => N'ₓ); (rename Fr _ _ _ _ => F'ₓ); refine max3_N rfl F'ₓ N'ₓ ?_; clear N'ₓ; intro _ _ _ _ _)
  k_with "call builtin:min" => ((with_reducible show wpAny _ _ (PySem.call (Value.builtin "min") [Value.float _ _, Value.float _ _, Value.float _ _]) _ _ _); (rename News _ _ _ _ => N'ₓ); (rename Fr _ _ _ _ => F'ₓ); refine min3_N rfl F'ₓ N'ₓ ?_; clear N'ₓ; intro _ _ _ _ _)
  unfold DoesAt
  k_fill
  intro B F X N T hk hd' hu' hret
  refine wpAny_call ?_
  k_dflt ktr_enter
  k_steps
  all_goals first
    | (refine hret _ [_] _ _ (by assumption) (by assumption) ?_ ⟨_, _, _, _, _, _, _, rfl, rfl, ?_⟩
       · intro p hp q hq; rw [List.mem_singleton.mp hp]; exact (by assumption : ∀ p ∈ news, p.1 < _) q hq
       · simp [hsvF, ltF, eqF, *])
    | (exfalso; simp_all [eqF])
theorem all9 (x : Pack9) : PrX9 x := all_of_bad ne9 (by with_unfolding_all exact core9) x
end EI2
theorem hsv_does (w : World) (news : List (Addr × Obj)) (r g b : UInt64) (t1 t2 t3 : Tok) (hz : eqF (min3 r g b) (max3 r g b) = false → Float64.isZero (max3 r g b) = false ∧ Float64.isZero (Float64.sub (max3 r g b) (min3 r g b)) = false) : Does w 1 8 49 [.float r t1, .float g t2, .float b t3] news (fun v tl => ∃ D x y z u1 u2 u3, v = .ref D ∧ tl = [(D, tup #[.float x u1, .float y u2, .float z u3])] ∧ hsvF r g b = (x, y, z)) :=
  fun q90 q91 q92 q93 q94 q95 q96 q97 q98 q99 q910 q911 q912 q913 q914 q915 q916 q917 q918 q919 q920 q921 => EI2.all9 (w, news, r, g, b, t1, t2, t3, q90, q91, q92, q93, q94, q95, q96, q97, q98, q99, q910, q911, q912, q913, q914, q915, q916, q917, q918, q919, q920, q921) hz
namespace EI3
noncomputable def Pr9 (w : World) (news : List (Addr × Obj)) (r : UInt64) (g : UInt64) (b : UInt64) (t1 : Tok) (t2 : Tok) (t3 : Tok) (p : Program) (loose : List Str) (mean : ExcName → Option Value) (mg : Str → Option Value) (mb : Str → Option Value) (dp : Nat) (un : Nat) (gd : Option (List Code)) (cn : Str) (cs : Scope) (a : Addr) (ccd : Value) (cl : List (Str × Addr)) (outer : List Env) (A₀ : Around) (base : Heap) (h₀ : Heap) (L : Addr) (m : Str → Option Value) (s : Shared) (Q : Value → Shared → Prop) (E : Value → Shared → Prop) : Prop := ∀ (hz : eqF (min3 r g b) (max3 r g b) = false → Float64.isZero (Float64.add (max3 r g b) (min3 r g b)) = false ∧ Float64.isZero (Float64.sub (max3 r g b) (min3 r g b)) = false ∧ Float64.isZero (Float64.sub (Float64.sub 0x4000000000000000 (max3 r g b)) (min3 r g b)) = false) , DoesAt w 1 8 28 [.float r t1, .float g t2, .float b t3] news (fun v tl => ∃ D x y z u1 u2 u3, v = .ref D ∧ tl = [(D, tup #[.float x u1, .float y u2, .float z u3])] ∧ hlsF r g b = (x, y, z)) p loose mean mg mb dp un gd cn cs a ccd cl outer A₀ base h₀ L m s Q E
abbrev Pack9 : Type := (World) × (List (Addr × Obj)) × (UInt64) × (UInt64) × (UInt64) × (Tok) × (Tok) × (Tok) × (Program) × (List Str) × (ExcName → Option Value) × (Str → Option Value) × (Str → Option Value) × (Nat) × (Nat) × (Option (List Code)) × (Str) × (Scope) × (Addr) × (Value) × (List (Str × Addr)) × (List Env) × (Around) × (Heap) × (Heap) × (Addr) × (Str → Option Value) × (Shared) × (Value → Shared → Prop) × (Value → Shared → Prop)
noncomputable def PrX9 (x : Pack9) : Prop := Pr9 (x.1) (x.2.1) (x.2.2.1) (x.2.2.2.1) (x.2.2.2.2.1) (x.2.2.2.2.2.1) (x.2.2.2.2.2.2.1) (x.2.2.2.2.2.2.2.1) (x.2.2.2.2.2.2.2.2.1) (x.2.2.2.2.2.2.2.2.2.1) (x.2.2.2.2.2.2.2.2.2.2.1) (x.2.2.2.2.2.2.2.2.2.2.2.1) (x.2.2.2.2.2.2.2.2.2.2.2.2.1) (x.2.2.2.2.2.2.2.2.2.2.2.2.2.1) (x.2.2.2.2.2.2.2.2.2.2.2.2.2.2.1) (x.2.2.2.2.2.2.2.2.2.2.2.2.2.2.2.1) (x.2.2.2.2.2.2.2.2.2.2.2.2.2.2.2.2.1) (x.2.2.2.2.2.2.2.2.2.2.2.2.2.2.2.2.2.1) (x.2.2.2.2.2.2.2.2.2.2.2.2.2.2.2.2.2.2.1) (x.2.2.2.2.2.2.2.2.2.2.2.2.2.2.2.2.2.2.2.1) (x.2.2.2.2.2.2.2.2.2.2.2.2.2.2.2.2.2.2.2.2.1) (x.2.2.2.2.2.2.2.2.2.2.2.2.2.2.2.2.2.2.2.2.2.1) (x.2.2.2.2.2.2.2.2.2.2.2.2.2.2.2.2.2.2.2.2.2.2.1) (x.2.2.2.2.2.2.2.2.2.2.2.2.2.2.2.2.2.2.2.2.2.2.2.1) (x.2.2.2.2.2.2.2.2.2.2.2.2.2.2.2.2.2.2.2.2.2.2.2.2.1) (x.2.2.2.2.2.2.2.2.2.2.2.2.2.2.2.2.2.2.2.2.2.2.2.2.2.1) (x.2.2.2.2.2.2.2.2.2.2.2.2.2.2.2.2.2.2.2.2.2.2.2.2.2.2.1) (x.2.2.2.2.2.2.2.2.2.2.2.2.2.2.2.2.2.2.2.2.2.2.2.2.2.2.2.1) (x.2.2.2.2.2.2.2.2.2.2.2.2.2.2.2.2.2.2.2.2.2.2.2.2.2.2.2.2.1) (x.2.2.2.2.2.2.2.2.2.2.2.2.2.2.2.2.2.2.2.2.2.2.2.2.2.2.2.2.2)
theorem ne9 : Nonempty Pack9 := ⟨(aWorld 1, default, default, default, default, default, default, default, default, default, default, default, default, default, default, default, default, default, default, default, default, default, callerA, default, default, default, default, (start Mine.view).1, default, default)⟩
@[irreducible] noncomputable def pk9 : Pack9 := bad ne9 PrX9
@[irreducible] noncomputable def w : World := pk9.1
@[irreducible] noncomputable def news : List (Addr × Obj) := pk9.2.1
@[irreducible] noncomputable def r : UInt64 := pk9.2.2.1
@[irreducible] noncomputable def g : UInt64 := pk9.2.2.2.1
@[irreducible] noncomputable def b : UInt64 := pk9.2.2.2.2.1
@[irreducible] noncomputable def t1 : Tok := pk9.2.2.2.2.2.1
@[irreducible] noncomputable def t2 : Tok := pk9.2.2.2.2.2.2.1
@[irreducible] noncomputable def t3 : Tok := pk9.2.2.2.2.2.2.2.1
@[irreducible] noncomputable def p : Program := pk9.2.2.2.2.2.2.2.2.1
@[irreducible] noncomputable def loose : List Str := pk9.2.2.2.2.2.2.2.2.2.1
@[irreducible] noncomputable def mean : ExcName → Option Value := pk9.2.2.2.2.2.2.2.2.2.2.1
@[irreducible] noncomputable def mg : Str → Option Value := pk9.2.2.2.2.2.2.2.2.2.2.2.1
@[irreducible] noncomputable def mb : Str → Option Value := pk9.2.2.2.2.2.2.2.2.2.2.2.2.1
@[irreducible] noncomputable def dp : Nat := pk9.2.2.2.2.2.2.2.2.2.2.2.2.2.1
@[irreducible] noncomputable def un : Nat := pk9.2.2.2.2.2.2.2.2.2.2.2.2.2.2.1
@[irreducible] noncomputable def gd : Option (List Code) := pk9.2.2.2.2.2.2.2.2.2.2.2.2.2.2.2.1
@[irreducible] noncomputable def cn : Str := pk9.2.2.2.2.2.2.2.2.2.2.2.2.2.2.2.2.1
@[irreducible] noncomputable def cs : Scope := pk9.2.2.2.2.2.2.2.2.2.2.2.2.2.2.2.2.2.1
@[irreducible] noncomputable def a : Addr := pk9.2.2.2.2.2.2.2.2.2.2.2.2.2.2.2.2.2.2.1
@[irreducible] noncomputable def ccd : Value := pk9.2.2.2.2.2.2.2.2.2.2.2.2.2.2.2.2.2.2.2.1
@[irreducible] noncomputable def cl : List (Str × Addr) := pk9.2.2.2.2.2.2.2.2.2.2.2.2.2.2.2.2.2.2.2.2.1
@[irreducible] noncomputable def outer : List Env := pk9.2.2.2.2.2.2.2.2.2.2.2.2.2.2.2.2.2.2.2.2.2.1
@[irreducible] noncomputable def A₀ : Around := pk9.2.2.2.2.2.2.2.2.2.2.2.2.2.2.2.2.2.2.2.2.2.2.1
@[irreducible] noncomputable def base : Heap := pk9.2.2.2.2.2.2.2.2.2.2.2.2.2.2.2.2.2.2.2.2.2.2.2.1
@[irreducible] noncomputable def h₀ : Heap := pk9.2.2.2.2.2.2.2.2.2.2.2.2.2.2.2.2.2.2.2.2.2.2.2.2.1
@[irreducible] noncomputable def L : Addr := pk9.2.2.2.2.2.2.2.2.2.2.2.2.2.2.2.2.2.2.2.2.2.2.2.2.2.1
@[irreducible] noncomputable def m : Str → Option Value := pk9.2.2.2.2.2.2.2.2.2.2.2.2.2.2.2.2.2.2.2.2.2.2.2.2.2.2.1
@[irreducible] noncomputable def s : Shared := pk9.2.2.2.2.2.2.2.2.2.2.2.2.2.2.2.2.2.2.2.2.2.2.2.2.2.2.2.1
@[irreducible] noncomputable def Q : Value → Shared → Prop := pk9.2.2.2.2.2.2.2.2.2.2.2.2.2.2.2.2.2.2.2.2.2.2.2.2.2.2.2.2.1
@[irreducible] noncomputable def E : Value → Shared → Prop := pk9.2.2.2.2.2.2.2.2.2.2.2.2.2.2.2.2.2.2.2.2.2.2.2.2.2.2.2.2.2
theorem core9 : Pr9 w news r g b t1 t2 t3 p loose mean mg mb dp un gd cn cs a ccd cl outer A₀ base h₀ L m s Q E := by
  intro hz
  w_top off
  k_with_none
  k_with "execs cons" => (k_here; (with_reducible refine toks_succ ?_); intro tk8ₓ)
  k_with "call builtin:max" => ((with_reducible show wpAny _ _ (PySem.call (Value.builtin "max") [Value.float _ _, Value.float _ _, Value.float _ _]) _ _ _); (rename News _ _ _ _ => N'ₓ); (rename Fr _ _ _ _ => F'ₓ); refine max3_N rfl F'ₓ N'ₓ ?_; clear N'ₓ; intro _ _ _ _ _)
  k_with "call builtin:min" => ((with_reducible show wpAny _ _ (PySem.call (Value.builtin "min") [Value.float _ _, Value.float _ _, Value.float _ _]) _ _ _); (rename News _ _ _ _ => N'ₓ); (rename Fr _ _ _ _ => F'ₓ); refine min3_N rfl F'ₓ N'ₓ ?_; clear N'ₓ; intro _ _ _ _ _)
  unfold DoesAt
  k_fill
  intro B F X N T hk hd' hu' hret
  refine wpAny_call ?_
  k_dflt ktr_enter
  k_steps
  all_goals first
    | (refine hret _ [_] _ _ (by assumption) (by assumption) ?_ ⟨_, _, _, _, _, _, _, rfl, rfl, ?_⟩
       · intro p hp q hq; rw [List.mem_singleton.mp hp]; exact (by assumption : ∀ p ∈ news, p.1 < _) q hq
       · simp [hlsF, ltF, eqF, *])
    | (exfalso; simp_all [eqF])
theorem all9 (x : Pack9) : PrX9 x := all_of_bad ne9 (by with_unfolding_all exact core9) x
end EI3
theorem hls_does (w : World) (news : List (Addr × Obj)) (r g b : UInt64) (t1 t2 t3 : Tok) (hz : eqF (min3 r g b) (max3 r g b) = false → Float64.isZero (Float64.add (max3 r g b) (min3 r g b)) = false ∧ Float64.isZero (Float64.sub (max3 r g b) (min3 r g b)) = false ∧ Float64.isZero (Float64.sub (Float64.sub 0x4000000000000000 (max3 r g b)) (min3 r g b)) = false) : Does w 1 8 28 [.float r t1, .float g t2, .float b t3] news (fun v tl => ∃ D x y z u1 u2 u3, v = .ref D ∧ tl = [(D, tup #[.float x u1, .float y u2, .float z u3])] ∧ hlsF r g b = (x, y, z)) :=
  fun q90 q91 q92 q93 q94 q95 q96 q97 q98 q99 q910 q911 q912 q913 q914 q915 q916 q917 q918 q919 q920 q921 => EI3.all9 (w, news, r, g, b, t1, t2, t3, q90, q91, q92, q93, q94, q95, q96, q97, q98, q99, q910, q911, q912, q913, q914, q915, q916, q917, q918, q919, q920, q921) hz
end Mine
end
section
open PySem PySem.W PyProof.Rows
set_option Elab.async false
set_option maxRecDepth 100000
set_option maxHeartbeats 8000000
set_option pp.deepTerms false
set_option pp.deepTerms.threshold 4
set_option pp.maxSteps 6000
namespace Mine
theorem Does.use {w : World} {dn un₀ : Nat} {f : Addr} {vs : List Value} {news : List (Addr × Obj)} {Post : Value → List (Addr × Obj) → Prop} (D : Does w dn un₀ f vs news Post)
    {p : Program} {loose : List Str} {mean : ExcName → Option Value} {mg mb : Str → Option Value} {dp un : Nat} {gd : Option (List Code)} {cn : Str} {cs : Scope} {a : Addr} {ccd : Value} {cl : List (Str × Addr)} {outer : List Env} {A₀ : Around} {base h₀ : Heap} {L : Addr} {m : Str → Option Value} {s : Shared}
    {Q E : Value → Shared → Prop} (B : Below A₀ base outer h₀) (F : Fr h₀ L s.heap m) (X : (hd.heap_1 w.params).In h₀) (N : News h₀ L s.heap news) (T : Top p loose mean mg mb h₀) (hk : cs.kind = .function) (h1 : dp + dn < recursionLimit) (h2 : un + un₀ < cLine)
    (ret : ∀ r tl h' tk', Fr h₀ L h' m → News h₀ L h' (tl ++ news) → (∀ p ∈ tl, ∀ q ∈ news, q.1 < p.1) → Post r tl → Q r { s with heap := h', toks := tk' }) :
    wpAny (model Challenge.rw_wo0027_01.row.prog w) (ktrTop dp un gd cn cs L a ccd cl outer) (PySem.call (.ref f) vs) Q E s := D _ _ _ _ _ _ _ _ _ _ _ _ _ _ _ _ _ _ _ _ _ _ B F X N T hk h1 h2 ret
noncomputable def ihlsF (h l s : UInt64) : UInt64 × UInt64 × UInt64 :=
  if eqF s 0 then (l, l, l)
  else
    let m2 := if Float64.cmp l 0x3fe0000000000000 == some .lt || Float64.cmp l 0x3fe0000000000000 == some .eq then Float64.mul l (Float64.add 0x3ff0000000000000 s) else Float64.sub (Float64.add l s) (Float64.mul l s)
    let m1 := Float64.sub (Float64.mul 0x4000000000000000 l) m2
    (vF m1 m2 (Float64.add h 4599676419421066581), vF m1 m2 h, vF m1 m2 (Float64.sub h 4599676419421066581))
noncomputable def ihsvF (h s v : UInt64) : UInt64 × UInt64 × UInt64 :=
  if eqF s 0 then (v, v, v)
  else
    let i := Flt.toInt Float64.truncOf (Float64.mul h 0x4018000000000000)
    let f := Float64.sub (Float64.mul h 0x4018000000000000) (Float64.ofInt i)
    let p := Float64.mul v (Float64.sub 0x3ff0000000000000 s)
    let q := Float64.mul v (Float64.sub 0x3ff0000000000000 (Float64.mul s f))
    let t := Float64.mul v (Float64.sub 0x3ff0000000000000 (Float64.mul s (Float64.sub 0x3ff0000000000000 f)))
    if i.fmod 6 = 0 then (v, t, p) else if i.fmod 6 = 1 then (q, v, p) else if i.fmod 6 = 2 then (p, v, t) else if i.fmod 6 = 3 then (p, q, v) else if i.fmod 6 = 4 then (t, p, v) else (v, p, q)
namespace EI5
noncomputable def Pr9 (w : World) (news : List (Addr × Obj)) (h : UInt64) (l : UInt64) (s9 : UInt64) (t1 : Tok) (t2 : Tok) (t3 : Tok) (p : Program) (loose : List Str) (mean : ExcName → Option Value) (mg : Str → Option Value) (mb : Str → Option Value) (dp : Nat) (un : Nat) (gd : Option (List Code)) (cn : Str) (cs : Scope) (a : Addr) (ccd : Value) (cl : List (Str × Addr)) (outer : List Env) (A₀ : Around) (base : Heap) (h₀ : Heap) (L : Addr) (m : Str → Option Value) (s : Shared) (Q : Value → Shared → Prop) (E : Value → Shared → Prop) : Prop := DoesAt w 3 24 35 [.float h t1, .float l t2, .float s9 t3] news (fun v tl => ∃ D x y z u1 u2 u3, v = .ref D ∧ tl = [(D, tup #[.float x u1, .float y u2, .float z u3])] ∧ ihlsF h l s9 = (x, y, z)) p loose mean mg mb dp un gd cn cs a ccd cl outer A₀ base h₀ L m s Q E
abbrev Pack9 : Type := (World) × (List (Addr × Obj)) × (UInt64) × (UInt64) × (UInt64) × (Tok) × (Tok) × (Tok) × (Program) × (List Str) × (ExcName → Option Value) × (Str → Option Value) × (Str → Option Value) × (Nat) × (Nat) × (Option (List Code)) × (Str) × (Scope) × (Addr) × (Value) × (List (Str × Addr)) × (List Env) × (Around) × (Heap) × (Heap) × (Addr) × (Str → Option Value) × (Shared) × (Value → Shared → Prop) × (Value → Shared → Prop)
noncomputable def PrX9 (x : Pack9) : Prop := Pr9 (x.1) (x.2.1) (x.2.2.1) (x.2.2.2.1) (x.2.2.2.2.1) (x.2.2.2.2.2.1) (x.2.2.2.2.2.2.1) (x.2.2.2.2.2.2.2.1) (x.2.2.2.2.2.2.2.2.1) (x.2.2.2.2.2.2.2.2.2.1) (x.2.2.2.2.2.2.2.2.2.2.1) (x.2.2.2.2.2.2.2.2.2.2.2.1) (x.2.2.2.2.2.2.2.2.2.2.2.2.1) (x.2.2.2.2.2.2.2.2.2.2.2.2.2.1) (x.2.2.2.2.2.2.2.2.2.2.2.2.2.2.1) (x.2.2.2.2.2.2.2.2.2.2.2.2.2.2.2.1) (x.2.2.2.2.2.2.2.2.2.2.2.2.2.2.2.2.1) (x.2.2.2.2.2.2.2.2.2.2.2.2.2.2.2.2.2.1) (x.2.2.2.2.2.2.2.2.2.2.2.2.2.2.2.2.2.2.1) (x.2.2.2.2.2.2.2.2.2.2.2.2.2.2.2.2.2.2.2.1) (x.2.2.2.2.2.2.2.2.2.2.2.2.2.2.2.2.2.2.2.2.1) (x.2.2.2.2.2.2.2.2.2.2.2.2.2.2.2.2.2.2.2.2.2.1) (x.2.2.2.2.2.2.2.2.2.2.2.2.2.2.2.2.2.2.2.2.2.2.1) (x.2.2.2.2.2.2.2.2.2.2.2.2.2.2.2.2.2.2.2.2.2.2.2.1) (x.2.2.2.2.2.2.2.2.2.2.2.2.2.2.2.2.2.2.2.2.2.2.2.2.1) (x.2.2.2.2.2.2.2.2.2.2.2.2.2.2.2.2.2.2.2.2.2.2.2.2.2.1) (x.2.2.2.2.2.2.2.2.2.2.2.2.2.2.2.2.2.2.2.2.2.2.2.2.2.2.1) (x.2.2.2.2.2.2.2.2.2.2.2.2.2.2.2.2.2.2.2.2.2.2.2.2.2.2.2.1) (x.2.2.2.2.2.2.2.2.2.2.2.2.2.2.2.2.2.2.2.2.2.2.2.2.2.2.2.2.1) (x.2.2.2.2.2.2.2.2.2.2.2.2.2.2.2.2.2.2.2.2.2.2.2.2.2.2.2.2.2)
theorem ne9 : Nonempty Pack9 := ⟨(aWorld 1, default, default, default, default, default, default, default, default, default, default, default, default, default, default, default, default, default, default, default, default, default, callerA, default, default, default, default, (start Mine.view).1, default, default)⟩
@[irreducible] noncomputable def pk9 : Pack9 := bad ne9 PrX9
@[irreducible] noncomputable def w : World := pk9.1
@[irreducible] noncomputable def news : List (Addr × Obj) := pk9.2.1
@[irreducible] noncomputable def h : UInt64 := pk9.2.2.1
@[irreducible] noncomputable def l : UInt64 := pk9.2.2.2.1
@[irreducible] noncomputable def s9 : UInt64 := pk9.2.2.2.2.1
@[irreducible] noncomputable def t1 : Tok := pk9.2.2.2.2.2.1
@[irreducible] noncomputable def t2 : Tok := pk9.2.2.2.2.2.2.1
@[irreducible] noncomputable def t3 : Tok := pk9.2.2.2.2.2.2.2.1
@[irreducible] noncomputable def p : Program := pk9.2.2.2.2.2.2.2.2.1
@[irreducible] noncomputable def loose : List Str := pk9.2.2.2.2.2.2.2.2.2.1
@[irreducible] noncomputable def mean : ExcName → Option Value := pk9.2.2.2.2.2.2.2.2.2.2.1
@[irreducible] noncomputable def mg : Str → Option Value := pk9.2.2.2.2.2.2.2.2.2.2.2.1
@[irreducible] noncomputable def mb : Str → Option Value := pk9.2.2.2.2.2.2.2.2.2.2.2.2.1
@[irreducible] noncomputable def dp : Nat := pk9.2.2.2.2.2.2.2.2.2.2.2.2.2.1
@[irreducible] noncomputable def un : Nat := pk9.2.2.2.2.2.2.2.2.2.2.2.2.2.2.1
@[irreducible] noncomputable def gd : Option (List Code) := pk9.2.2.2.2.2.2.2.2.2.2.2.2.2.2.2.1
@[irreducible] noncomputable def cn : Str := pk9.2.2.2.2.2.2.2.2.2.2.2.2.2.2.2.2.1
@[irreducible] noncomputable def cs : Scope := pk9.2.2.2.2.2.2.2.2.2.2.2.2.2.2.2.2.2.1
@[irreducible] noncomputable def a : Addr := pk9.2.2.2.2.2.2.2.2.2.2.2.2.2.2.2.2.2.2.1
@[irreducible] noncomputable def ccd : Value := pk9.2.2.2.2.2.2.2.2.2.2.2.2.2.2.2.2.2.2.2.1
@[irreducible] noncomputable def cl : List (Str × Addr) := pk9.2.2.2.2.2.2.2.2.2.2.2.2.2.2.2.2.2.2.2.2.1
@[irreducible] noncomputable def outer : List Env := pk9.2.2.2.2.2.2.2.2.2.2.2.2.2.2.2.2.2.2.2.2.2.1
@[irreducible] noncomputable def A₀ : Around := pk9.2.2.2.2.2.2.2.2.2.2.2.2.2.2.2.2.2.2.2.2.2.2.1
@[irreducible] noncomputable def base : Heap := pk9.2.2.2.2.2.2.2.2.2.2.2.2.2.2.2.2.2.2.2.2.2.2.2.1
@[irreducible] noncomputable def h₀ : Heap := pk9.2.2.2.2.2.2.2.2.2.2.2.2.2.2.2.2.2.2.2.2.2.2.2.2.1
@[irreducible] noncomputable def L : Addr := pk9.2.2.2.2.2.2.2.2.2.2.2.2.2.2.2.2.2.2.2.2.2.2.2.2.2.1
@[irreducible] noncomputable def m : Str → Option Value := pk9.2.2.2.2.2.2.2.2.2.2.2.2.2.2.2.2.2.2.2.2.2.2.2.2.2.2.1
@[irreducible] noncomputable def s : Shared := pk9.2.2.2.2.2.2.2.2.2.2.2.2.2.2.2.2.2.2.2.2.2.2.2.2.2.2.2.1
@[irreducible] noncomputable def Q : Value → Shared → Prop := pk9.2.2.2.2.2.2.2.2.2.2.2.2.2.2.2.2.2.2.2.2.2.2.2.2.2.2.2.2.1
@[irreducible] noncomputable def E : Value → Shared → Prop := pk9.2.2.2.2.2.2.2.2.2.2.2.2.2.2.2.2.2.2.2.2.2.2.2.2.2.2.2.2.2
theorem core9 : Pr9 w news h l s9 t1 t2 t3 p loose mean mg mb dp un gd cn cs a ccd cl outer A₀ base h₀ L m s Q E := by
  unfold Pr9
  w_top off
  k_with_none
  k_with "execs cons" => (k_here; (with_reducible refine toks_succ ?_); intro tk8ₓ)
  k_with "call ref" => (k_here; (with_reducible show wpAny _ _ (PySem.call (Value.ref 42) _) _ _ _); k_dflt (refine' Does.use (v_does _ _ _ _ _ _ _ _) ?k1x7 ?k2x7 ?k3x7 ?k4x7 ?k5x7 ?kKx7 ?kdx7 ?kux7 ?_; (case k1x7 => k_asm); (case k2x7 => k_asm); (case k3x7 => k_asm); (case k4x7 => k_asm); (case k5x7 => k_asm); (case kKx7 => first | exact rfl | assumption); (case kdx7 => ktr_room); (case kux7 => ktr_units); intro r9ₓ tl9ₓ h9ₓ tk9ₓ F9ₓ N9ₓ l9ₓ p9ₓ; obtain ⟨e1ₓ, x9ₓ, t9ₓ, e2ₓ, e3ₓ⟩ := p9ₓ; subst e1ₓ; subst e2ₓ; clear l9ₓ; (try simp only [List.nil_append] at N9ₓ); (try dsimp only); (try k_sweep)))
  unfold DoesAt
  k_fill
  intro B F X N T hk hd' hu' hret
  refine wpAny_call ?_
  k_dflt ktr_enter
  k_steps
  all_goals first
    | (refine hret _ [_] _ _ (by assumption) (by assumption) ?_ ⟨_, _, _, _, _, _, _, rfl, rfl, ?_⟩
       · intro p hp q hq; rw [List.mem_singleton.mp hp]; exact (by assumption : ∀ p ∈ news, p.1 < _) q hq
       · simp [ihlsF, ltF, eqF, *])
    | (exfalso; simp_all [eqF]; done)
    | trace_state
theorem all9 (x : Pack9) : PrX9 x := all_of_bad ne9 (by with_unfolding_all exact core9) x
end EI5
theorem ihls_does (w : World) (news : List (Addr × Obj)) (h l s : UInt64) (t1 t2 t3 : Tok) : Does w 3 24 35 [.float h t1, .float l t2, .float s t3] news (fun v tl => ∃ D x y z u1 u2 u3, v = .ref D ∧ tl = [(D, tup #[.float x u1, .float y u2, .float z u3])] ∧ ihlsF h l s = (x, y, z)) :=
  fun q90 q91 q92 q93 q94 q95 q96 q97 q98 q99 q910 q911 q912 q913 q914 q915 q916 q917 q918 q919 q920 q921 => EI5.all9 (w, news, h, l, s, t1, t2, t3, q90, q91, q92, q93, q94, q95, q96, q97, q98, q99, q910, q911, q912, q913, q914, q915, q916, q917, q918, q919, q920, q921) 
theorem six {k : Int} (h0 : k.fmod 6 ≠ 0) (h1 : k.fmod 6 ≠ 1) (h2 : k.fmod 6 ≠ 2) (h3 : k.fmod 6 ≠ 3) (h4 : k.fmod 6 ≠ 4) (h5 : k.fmod 6 ≠ 5) : False := by
  have a := Int.fmod_nonneg_of_pos k (by decide : (0 : Int) < 6)
  have b := Int.fmod_lt_of_pos k (by decide : (0 : Int) < 6)
  omega
namespace EI4
noncomputable def Pr9 (w : World) (news : List (Addr × Obj)) (h : UInt64) (s9 : UInt64) (v : UInt64) (t1 : Tok) (t2 : Tok) (t3 : Tok) (p : Program) (loose : List Str) (mean : ExcName → Option Value) (mg : Str → Option Value) (mb : Str → Option Value) (dp : Nat) (un : Nat) (gd : Option (List Code)) (cn : Str) (cs : Scope) (a : Addr) (ccd : Value) (cl : List (Str × Addr)) (outer : List Env) (A₀ : Around) (base : Heap) (h₀ : Heap) (L : Addr) (m : Str → Option Value) (s : Shared) (Q : Value → Shared → Prop) (E : Value → Shared → Prop) : Prop := ∀ (hz1 : Float64.isNaN (Float64.mul h 0x4018000000000000) = false) (hz2 : Float64.isInf (Float64.mul h 0x4018000000000000) = false) (hz3 : ¬ 2 ^ 1024 - 2 ^ 970 ≤ (Flt.toInt Float64.truncOf (Float64.mul h 0x4018000000000000)).natAbs) , DoesAt w 1 8 56 [.float h t1, .float s9 t2, .float v t3] news (fun r tl => ∃ D x y z u1 u2 u3, r = .ref D ∧ tl = [(D, tup #[.float x u1, .float y u2, .float z u3])] ∧ ihsvF h s9 v = (x, y, z)) p loose mean mg mb dp un gd cn cs a ccd cl outer A₀ base h₀ L m s Q E
abbrev Pack9 : Type := (World) × (List (Addr × Obj)) × (UInt64) × (UInt64) × (UInt64) × (Tok) × (Tok) × (Tok) × (Program) × (List Str) × (ExcName → Option Value) × (Str → Option Value) × (Str → Option Value) × (Nat) × (Nat) × (Option (List Code)) × (Str) × (Scope) × (Addr) × (Value) × (List (Str × Addr)) × (List Env) × (Around) × (Heap) × (Heap) × (Addr) × (Str → Option Value) × (Shared) × (Value → Shared → Prop) × (Value → Shared → Prop)
noncomputable def PrX9 (x : Pack9) : Prop := Pr9 (x.1) (x.2.1) (x.2.2.1) (x.2.2.2.1) (x.2.2.2.2.1) (x.2.2.2.2.2.1) (x.2.2.2.2.2.2.1) (x.2.2.2.2.2.2.2.1) (x.2.2.2.2.2.2.2.2.1) (x.2.2.2.2.2.2.2.2.2.1) (x.2.2.2.2.2.2.2.2.2.2.1) (x.2.2.2.2.2.2.2.2.2.2.2.1) (x.2.2.2.2.2.2.2.2.2.2.2.2.1) (x.2.2.2.2.2.2.2.2.2.2.2.2.2.1) (x.2.2.2.2.2.2.2.2.2.2.2.2.2.2.1) (x.2.2.2.2.2.2.2.2.2.2.2.2.2.2.2.1) (x.2.2.2.2.2.2.2.2.2.2.2.2.2.2.2.2.1) (x.2.2.2.2.2.2.2.2.2.2.2.2.2.2.2.2.2.1) (x.2.2.2.2.2.2.2.2.2.2.2.2.2.2.2.2.2.2.1) (x.2.2.2.2.2.2.2.2.2.2.2.2.2.2.2.2.2.2.2.1) (x.2.2.2.2.2.2.2.2.2.2.2.2.2.2.2.2.2.2.2.2.1) (x.2.2.2.2.2.2.2.2.2.2.2.2.2.2.2.2.2.2.2.2.2.1) (x.2.2.2.2.2.2.2.2.2.2.2.2.2.2.2.2.2.2.2.2.2.2.1) (x.2.2.2.2.2.2.2.2.2.2.2.2.2.2.2.2.2.2.2.2.2.2.2.1) (x.2.2.2.2.2.2.2.2.2.2.2.2.2.2.2.2.2.2.2.2.2.2.2.2.1) (x.2.2.2.2.2.2.2.2.2.2.2.2.2.2.2.2.2.2.2.2.2.2.2.2.2.1) (x.2.2.2.2.2.2.2.2.2.2.2.2.2.2.2.2.2.2.2.2.2.2.2.2.2.2.1) (x.2.2.2.2.2.2.2.2.2.2.2.2.2.2.2.2.2.2.2.2.2.2.2.2.2.2.2.1) (x.2.2.2.2.2.2.2.2.2.2.2.2.2.2.2.2.2.2.2.2.2.2.2.2.2.2.2.2.1) (x.2.2.2.2.2.2.2.2.2.2.2.2.2.2.2.2.2.2.2.2.2.2.2.2.2.2.2.2.2)
theorem ne9 : Nonempty Pack9 := ⟨(aWorld 1, default, default, default, default, default, default, default, default, default, default, default, default, default, default, default, default, default, default, default, default, default, callerA, default, default, default, default, (start Mine.view).1, default, default)⟩
@[irreducible] noncomputable def pk9 : Pack9 := bad ne9 PrX9
@[irreducible] noncomputable def w : World := pk9.1
@[irreducible] noncomputable def news : List (Addr × Obj) := pk9.2.1
@[irreducible] noncomputable def h : UInt64 := pk9.2.2.1
@[irreducible] noncomputable def s9 : UInt64 := pk9.2.2.2.1
@[irreducible] noncomputable def v : UInt64 := pk9.2.2.2.2.1
@[irreducible] noncomputable def t1 : Tok := pk9.2.2.2.2.2.1
@[irreducible] noncomputable def t2 : Tok := pk9.2.2.2.2.2.2.1
@[irreducible] noncomputable def t3 : Tok := pk9.2.2.2.2.2.2.2.1
@[irreducible] noncomputable def p : Program := pk9.2.2.2.2.2.2.2.2.1
@[irreducible] noncomputable def loose : List Str := pk9.2.2.2.2.2.2.2.2.2.1
@[irreducible] noncomputable def mean : ExcName → Option Value := pk9.2.2.2.2.2.2.2.2.2.2.1
@[irreducible] noncomputable def mg : Str → Option Value := pk9.2.2.2.2.2.2.2.2.2.2.2.1
@[irreducible] noncomputable def mb : Str → Option Value := pk9.2.2.2.2.2.2.2.2.2.2.2.2.1
@[irreducible] noncomputable def dp : Nat := pk9.2.2.2.2.2.2.2.2.2.2.2.2.2.1
@[irreducible] noncomputable def un : Nat := pk9.2.2.2.2.2.2.2.2.2.2.2.2.2.2.1
@[irreducible] noncomputable def gd : Option (List Code) := pk9.2.2.2.2.2.2.2.2.2.2.2.2.2.2.2.1
@[irreducible] noncomputable def cn : Str := pk9.2.2.2.2.2.2.2.2.2.2.2.2.2.2.2.2.1
@[irreducible] noncomputable def cs : Scope := pk9.2.2.2.2.2.2.2.2.2.2.2.2.2.2.2.2.2.1
@[irreducible] noncomputable def a : Addr := pk9.2.2.2.2.2.2.2.2.2.2.2.2.2.2.2.2.2.2.1
@[irreducible] noncomputable def ccd : Value := pk9.2.2.2.2.2.2.2.2.2.2.2.2.2.2.2.2.2.2.2.1
@[irreducible] noncomputable def cl : List (Str × Addr) := pk9.2.2.2.2.2.2.2.2.2.2.2.2.2.2.2.2.2.2.2.2.1
@[irreducible] noncomputable def outer : List Env := pk9.2.2.2.2.2.2.2.2.2.2.2.2.2.2.2.2.2.2.2.2.2.1
@[irreducible] noncomputable def A₀ : Around := pk9.2.2.2.2.2.2.2.2.2.2.2.2.2.2.2.2.2.2.2.2.2.2.1
@[irreducible] noncomputable def base : Heap := pk9.2.2.2.2.2.2.2.2.2.2.2.2.2.2.2.2.2.2.2.2.2.2.2.1
@[irreducible] noncomputable def h₀ : Heap := pk9.2.2.2.2.2.2.2.2.2.2.2.2.2.2.2.2.2.2.2.2.2.2.2.2.1
@[irreducible] noncomputable def L : Addr := pk9.2.2.2.2.2.2.2.2.2.2.2.2.2.2.2.2.2.2.2.2.2.2.2.2.2.1
@[irreducible] noncomputable def m : Str → Option Value := pk9.2.2.2.2.2.2.2.2.2.2.2.2.2.2.2.2.2.2.2.2.2.2.2.2.2.2.1
@[irreducible] noncomputable def s : Shared := pk9.2.2.2.2.2.2.2.2.2.2.2.2.2.2.2.2.2.2.2.2.2.2.2.2.2.2.2.1
@[irreducible] noncomputable def Q : Value → Shared → Prop := pk9.2.2.2.2.2.2.2.2.2.2.2.2.2.2.2.2.2.2.2.2.2.2.2.2.2.2.2.2.1
@[irreducible] noncomputable def E : Value → Shared → Prop := pk9.2.2.2.2.2.2.2.2.2.2.2.2.2.2.2.2.2.2.2.2.2.2.2.2.2.2.2.2.2
theorem core9 : Pr9 w news h s9 v t1 t2 t3 p loose mean mg mb dp un gd cn cs a ccd cl outer A₀ base h₀ L m s Q E := by
  intro hz1 hz2 hz3
  w_top off
  k_with_none
  k_with "execs cons" => (k_here; (with_reducible refine toks_succ ?_); intro tk8ₓ)
  k_with "call ref" => (k_here; (with_reducible show wpAny _ _ (PySem.call (Value.ref 42) _) _ _ _); k_dflt (refine' Does.use (v_does _ _ _ _ _ _ _ _) ?k1x8 ?k2x8 ?k3x8 ?k4x8 ?k5x8 ?kKx8 ?kdx8 ?kux8 ?_; (case k1x8 => k_asm); (case k2x8 => k_asm); (case k3x8 => k_asm); (case k4x8 => k_asm); (case k5x8 => k_asm); (case kKx8 => first | exact rfl | assumption); (case kdx8 => ktr_room); (case kux8 => ktr_units); intro r9ₓ tl9ₓ h9ₓ tk9ₓ F9ₓ N9ₓ l9ₓ p9ₓ; obtain ⟨e1ₓ, x9ₓ, t9ₓ, e2ₓ, e3ₓ⟩ := p9ₓ; subst e1ₓ; subst e2ₓ; clear l9ₓ; (try simp only [List.nil_append] at N9ₓ); (try dsimp only); (try k_sweep)))
  unfold DoesAt
  k_fill
  intro B F X N T hk hd' hu' hret
  refine wpAny_call ?_
  k_dflt ktr_enter
  k_steps
  all_goals first
    | (refine hret _ [_] _ _ (by assumption) (by assumption) ?_ ⟨_, _, _, _, _, _, _, rfl, rfl, ?_⟩
       · intro p hp q hq; rw [List.mem_singleton.mp hp]; exact (by assumption : ∀ p ∈ news, p.1 < _) q hq
       · simp [ihsvF, ltF, eqF, *])
    | exact absurd (by assumption) hz3
    | exact (six (by assumption) (by assumption) (by assumption) (by assumption) (by assumption) (by assumption) : False).elim
    | (exfalso; rw [hz1] at *; contradiction)
    | (exfalso; rw [hz2] at *; contradiction)
    | trace_state
theorem all9 (x : Pack9) : PrX9 x := all_of_bad ne9 (by with_unfolding_all exact core9) x
end EI4
theorem ihsv_does (w : World) (news : List (Addr × Obj)) (h s v : UInt64) (t1 t2 t3 : Tok) (hz1 : Float64.isNaN (Float64.mul h 0x4018000000000000) = false) (hz2 : Float64.isInf (Float64.mul h 0x4018000000000000) = false) (hz3 : ¬ 2 ^ 1024 - 2 ^ 970 ≤ (Flt.toInt Float64.truncOf (Float64.mul h 0x4018000000000000)).natAbs) : Does w 1 8 56 [.float h t1, .float s t2, .float v t3] news (fun r tl => ∃ D x y z u1 u2 u3, r = .ref D ∧ tl = [(D, tup #[.float x u1, .float y u2, .float z u3])] ∧ ihsvF h s v = (x, y, z)) :=
  fun q90 q91 q92 q93 q94 q95 q96 q97 q98 q99 q910 q911 q912 q913 q914 q915 q916 q917 q918 q919 q920 q921 => EI4.all9 (w, news, h, s, v, t1, t2, t3, q90, q91, q92, q93, q94, q95, q96, q97, q98, q99, q910, q911, q912, q913, q914, q915, q916, q917, q918, q919, q920, q921) hz1 hz2 hz3
end Mine
end
section
open PySem PySem.W PySem.Calls PyProof.Rows
set_option Elab.async false
set_option maxRecDepth 100000
set_option maxHeartbeats 2000000
namespace Mine
theorem allLt_all {d : Nat} : ∀ {l : List (Addr × Obj)}, AllLt d l → ∀ p ∈ l, p.1 < d
  | [], _, _, hp => nomatch hp
  | q :: r, h, p, hp => by
    rcases List.mem_cons.mp hp with rfl | hp
    · exact h.1
    · exact allLt_all h.2 p hp
/-- the objects of tl all lie above the ledger led -/
noncomputable def Above (led : List (Addr × Obj)) : List (Addr × Obj) → Prop
  | [] => True
  | p :: r => AllLt p.1 led ∧ Above led r
theorem Above.all {led : List (Addr × Obj)} : ∀ {tl : List (Addr × Obj)}, Above led tl → ∀ p ∈ tl, ∀ q ∈ led, q.1 < p.1
  | [], _, _, hp => nomatch hp
  | a :: r, h, p, hp => by
    rcases List.mem_cons.mp hp with rfl | hp
    · exact allLt_all h.1
    · exact Above.all h.2 p hp
/-- the end of one turn: what it made lies ahead of the ledger -/
noncomputable def TurnEnd (h₀ : Heap) (L : Addr) (m : Str → Option Value) (s : Shared) (led : List (Addr × Obj)) (rest : List (Addr × Obj) → Prop) (s₂ : Shared) : Prop :=
  ∃ h' tk tl, s₂ = { s with heap := h', toks := tk } ∧ Fr h₀ L h' m ∧ News h₀ L h' (tl ++ led) ∧ Above led tl ∧ rest tl
abbrev testsOf (ifs : List Expr) (env : Env) : Sem Bool := forIn ifs true fun c r => if r = true then do let ok ← isTrue c env (eval c env); pure (ForInStep.yield ok) else pure (ForInStep.yield r)
noncomputable def snoc (ys : List Value) (y : Value) : List Value := ys ++ [y]
/-- the turns of a comprehension that are left -/
noncomputable def Rest (prog : Program) (w : World) (A : Around) (h₀ : Heap) (L : Addr) (m : Str → Option Value) (env : Env) (elt : Expr) (ifs : List Expr) (scope : Scope) (cells : Addr → List (Str × Addr)) (s : Shared)
    (Bound : Addr → Nat → List (Addr × Obj) → Prop) (Fin : List Value → List (Addr × Obj) → Prop) : Nat → Nat → List Value → List (Addr × Obj) → Prop
  | 0, _, ys, nw => Fin ys nw
  | k + 1, i, ys, nw => ∀ (C D : Addr) (own fpo : List (Addr × Obj)) (h : Heap) (tk : Nat) (E' : Value → Shared → Prop), Bound C i own → Fr h₀ L h m → News h₀ L h (own ++ (D, LCg.lst ys) :: (nw ++ fpo)) → @LT.lt Nat _ D C →
      wpAny (model prog w) A (testsOf ifs (compEnvC scope (cells C) C env)) (fun ok s₃ =>
        if ok = true then wpAny (model prog w) A (eval elt (compEnvC scope (cells C) C env)) (fun y s₄ =>
            TurnEnd h₀ L m s (own ++ (D, LCg.lst ys) :: (nw ++ fpo)) (fun tl => Rest prog w A h₀ L m env elt ifs scope cells s Bound Fin k (i + 1) (snoc ys y) (tl ++ nw)) s₄) E' s₃
        else TurnEnd h₀ L m s (own ++ (D, LCg.lst ys) :: (nw ++ fpo)) (fun tl => Rest prog w A h₀ L m env elt ifs scope cells s Bound Fin k (i + 1) ys (tl ++ nw)) s₃) E' { s with heap := h, toks := tk }
/-- how the block draws its items and binds them -/
structure Drw (prog : Program) (w : World) (A : Around) (target : Expr) (cenv : Env) (I : Addr) (fp wr ownA : List Addr) (n : Nat) (St : Nat → Heap → Prop) (Own : Heap → Prop) (Bound : Nat → List (Addr × Obj) → Prop) : Prop where
  frame : ∀ i h h', St i h → (∀ b ∈ fp, ∀ o, h.get? b = some o → h'.get? b = some o) → St i h'
  live : ∀ i h, St i h → ∀ b ∈ wr, ∃ o, h.get? b = some o
  sub : ∀ b ∈ wr, b ∈ fp
  ownAt : ∀ i own, Bound i own → ∀ p ∈ own, p.1 ∈ ownA
  ownAll : ∀ i own, Bound i own → ∀ b ∈ ownA, ∃ o, (b, o) ∈ own
  ownIs : ∀ i own h, Bound i own → (∀ p ∈ own, h.get? p.1 = some p.2) → Own h
  ownFr : ∀ h h', Own h → (∀ b ∈ ownA, ∀ o, h.get? b = some o → h'.get? b = some o) → Own h'
  draw : ∀ i (s : Shared) (Q : Option Value → Shared → Prop) (E : Value → Shared → Prop), i < n → St i s.heap → Own s.heap →
    (∀ v s₁, (∀ Q' : Unit → Shared → Prop, (∀ own h' tk, Bound i own → (∀ p ∈ own, h'.get? p.1 = some p.2) → St (i + 1) h' → (∀ b o, b ∉ wr → b ∉ ownA → s.heap.get? b = some o → h'.get? b = some o) → Q' () { s with heap := h', toks := tk }) →
      wpAny (model prog w) A (letOwnedTupleGo target (.ref I) v) (fun _ s₂ => wpAny (model prog w) A (assign target cenv v) Q' E s₂) E s₁) → Q (some v) s₁) →
    wpAny (model prog w) A (pyNext (.ref I)) Q E s
  done : ∀ (s : Shared) (Q : Option Value → Shared → Prop) (E : Value → Shared → Prop), St n s.heap →
    (∀ h' tk, (∀ b o, b ∉ wr → s.heap.get? b = some o → h'.get? b = some o) → Q none { s with heap := h', toks := tk }) → wpAny (model prog w) A (pyNext (.ref I)) Q E s
  self : ∀ i (s : Shared) (Q : Value → Shared → Prop) (E : Value → Shared → Prop), St i s.heap → Q (.ref I) s → wpAny (model prog w) A (pyIter (.ref I)) Q E s
noncomputable def fpOf (h₀ h : Heap) (fp : List Addr) : List (Addr × Obj) := fp.filterMap fun b => match h₀.get? b with
  | some _ => none
  | none => (h.get? b).map fun o => (b, o)
theorem mem_fpOf {h₀ h : Heap} {fp : List Addr} {p : Addr × Obj} : p ∈ fpOf h₀ h fp ↔ p.1 ∈ fp ∧ h₀.get? p.1 = none ∧ h.get? p.1 = some p.2 := by
  unfold fpOf
  rw [List.mem_filterMap]
  constructor
  · rintro ⟨b, hb, e⟩
    cases q : h₀.get? b with
    | some _ => rw [q] at e; cases e
    | none =>
      rw [q] at e
      cases z : h.get? b with
      | none => simp [z] at e
      | some o => simp [z] at e; subst e; exact ⟨hb, q, z⟩
  · rintro ⟨hb, q, z⟩
    exact ⟨p.1, hb, by simp [q, z]⟩
section
variable {prog : Program} {w : World} {A : Around} {R : Result → Shared → Prop} {s : Shared}
theorem comp_turns {elt target iter : Expr} {ifs : List Expr} {scope : Scope} {pos : Pos} {it acc : Value} {env : Env} (I : Nat → Shared → Prop)
    (turn : ∀ n s, I n s → wpAny (model prog w) A (pyNext it) (fun r s₁ => match r with
      | none => R (.ok .next) s₁
      | some v => wpAny (model prog w) A (letOwnedTupleGo target it v) (fun _ s₂ => wpAny (model prog w) A (assign target env v) (fun _ s₃ =>
          wpAny (model prog w) A (testsOf ifs env) (fun ok s₄ =>
            if ok = true then wpAny (model prog w) A (eval elt env) (fun x s₅ =>
              wpAny (model prog w) A (call (.builtin "list.append") [acc, x]) (fun _ s₆ => ∃ m, m < n ∧ I m s₆) (notedBy (model prog w) A env fun e s' => R (.error e) s') s₅) (notedBy (model prog w) A env fun e s' => R (.error e) s') s₄
            else ∃ m, m < n ∧ I m s₄) (notedBy (model prog w) A env fun e s' => R (.error e) s') s₃) (notedBy (model prog w) A env fun e s' => R (.error e) s') s₂)
          (notedBy (model prog w) A env fun e s' => R (.error e) s') s₁) (notedBy (model prog w) A env fun e s' => R (.error e) s') s)
    (n : Nat) (h : I n s) : codeAny (model prog w) A (.compLoop (.ListComp elt [⟨target, iter, ifs, 0⟩] scope pos) 0 it acc env) R s := by
  refine codeAny_loop rfl I (fun n s hI => ?_) n h
  show wpAny _ A ((compTurn (.ListComp elt [⟨target, iter, ifs, 0⟩] scope pos) 0 it acc env).onRaise (fun x => do noteFrame x env; theTreesLotGoes x)) _ _ s
  refine wpAny_noted ?_
  rw [compTurn_list]
  refine wpAny_bind (wpAny_standAt (wpAny_bind (wpAny_mono (turn n s hI) (fun r s₁ h₁ => ?_) fun _ _ e => e)))
  cases r with
  | none => exact wpAny_pure h₁
  | some v =>
    refine wpAny_bind (wpAny_mono h₁ (fun _ s₂ h₂ => wpAny_bind (wpAny_mono h₂ (fun _ s₃ h₃ => wpAny_bind (wpAny_mono h₃ (fun ok s₄ h₄ => ?_) fun _ _ e => e)) fun _ _ e => e)) fun _ _ e => e)
    cases ok with
    | false => exact wpAny_pure ⟨rfl, h₄⟩
    | true => exact wpAny_bind (wpAny_bind (wpAny_mono h₄ (fun x s₅ h₅ => wpAny_bind (wpAny_mono h₅ (fun _ s₆ h₆ => wpAny_pure (wpAny_pure ⟨rfl, h₆⟩)) fun _ _ e => e)) fun _ _ e => e))
theorem comp_loop {h₀ : Heap} {L : Addr} {m : Str → Option Value} {env : Env} {elt target iter : Expr} {ifs : List Expr} {scope : Scope} {cells : Addr → List (Str × Addr)} {pos : Pos} {C D I : Addr} {fp wr ownA : List Addr} {n : Nat} {St : Nat → Heap → Prop} {Own : Heap → Prop} {Bound : Addr → Nat → List (Addr × Obj) → Prop}
    {Fin : List Value → List (Addr × Obj) → Prop} {nw : List (Addr × Obj)}
    (W : Drw prog w A target (compEnvC scope (cells C) C env) I fp wr ownA n St Own (Bound C)) (hsz : n ≤ sizeLine)
    (hLfp : L ∉ fp) (hLown : L ∉ ownA) (hDL : D ≠ L) (hD₀ : h₀.get? D = none) (hwr₀ : ∀ b ∈ wr, h₀.get? b = none) (hown₀ : ∀ b ∈ ownA, h₀.get? b = none)
    (hDfp : D ∉ fp) (hDown : D ∉ ownA) (hDC : @LT.lt Nat _ D C)
    (st : St 0 s.heap) (ow : Own s.heap) (F : Fr h₀ L s.heap m) (N : News h₀ L s.heap ((D, LCg.lst []) :: nw)) (off : ∀ p ∈ nw, p.1 ∉ wr ∧ p.1 ∉ ownA ∧ p.1 ≠ D)
    (T : Rest prog w A h₀ L m env elt ifs scope cells s Bound Fin n 0 [] nw)
    (hR : ∀ h tk ys nw', Fr h₀ L h m → News h₀ L h ((D, LCg.lst ys) :: nw') → (∀ p ∈ nw', p.1 ∉ wr ∧ p.1 ∉ ownA ∧ p.1 ≠ D) → Own h → Fin ys nw' → R (.ok .next) { s with heap := h, toks := tk })
    (hfpown : ∀ b ∈ ownA, b ∉ fp) :
    codeAny (model prog w) A (.compLoop (.ListComp elt [⟨target, iter, ifs, 0⟩] scope pos) 0 (.ref I) (.ref D) (compEnvC scope (cells C) C env)) R s := by
  refine comp_turns (fun k s' => ∃ h' tk i ys nw', s' = { s with heap := h', toks := tk } ∧ i ≤ n ∧ k = n + 1 - i ∧ ys.length ≤ i ∧ St i h' ∧ Own h' ∧ Fr h₀ L h' m ∧ News h₀ L h' ((D, LCg.lst ys) :: nw') ∧
    (∀ p ∈ nw', p.1 ∉ wr ∧ p.1 ∉ ownA ∧ p.1 ≠ D) ∧ Rest prog w A h₀ L m env elt ifs scope cells s Bound Fin (n - i) i ys nw') ?_ (n + 1) ⟨s.heap, s.toks, 0, [], nw, rfl, Nat.zero_le _, rfl, Nat.le_refl _, st, ow, F, N, off, T⟩
  rintro k s' ⟨h, tk, i, ys, nw', rfl, hi, rfl, hyl, st', ow', F', N', off', T'⟩
  by_cases hlt : i < n
  · obtain ⟨j, hj⟩ : ∃ j, n - i = j + 1 := ⟨n - i - 1, by omega⟩
    rw [hj] at T'
    refine W.draw i _ _ _ hlt st' ow' fun v s₁ hv => hv _ ?_
    intro own h₂ tk₂ hB hob st₂ kp
    have hLw : L ∉ wr := fun q => hLfp (W.sub _ q)
    have hDw : D ∉ wr := fun q => hDfp (W.sub _ q)
    have F₂ : Fr h₀ L h₂ m := ⟨F'.ns.at' fun o e => kp L o hLw hLown e, fun b o e => kp b o (fun q => by rw [hwr₀ b q] at e; cases e) (fun q => by rw [hown₀ b q] at e; cases e) (F'.keep b o e), F'.above⟩
    have N₂ : News h₀ L h₂ (own ++ (D, LCg.lst ys) :: (nw' ++ fpOf h₀ h₂ fp)) := fun p hp => by
      rcases List.mem_append.mp hp with hp | hp
      · exact ⟨hob p hp, fun q => hLown (q ▸ W.ownAt i own hB p hp), hown₀ _ (W.ownAt i own hB p hp)⟩
      · rcases List.mem_cons.mp hp with rfl | hp
        · exact ⟨kp _ _ hDw hDown (N' _ List.mem_cons_self).1, hDL, hD₀⟩
        · rcases List.mem_append.mp hp with hp | hp
          · have z := N' p (List.mem_cons_of_mem _ hp)
            exact ⟨kp _ _ (off' p hp).1 (off' p hp).2.1 z.1, z.2⟩
          · have z := mem_fpOf.mp hp
            exact ⟨z.2.2, fun q => hLfp (q ▸ z.1), z.2.1⟩
    -- what a turn's end gives
    have back : ∀ (rest : List (Addr × Obj) → Prop) s₄, TurnEnd h₀ L m s (own ++ (D, LCg.lst ys) :: (nw' ++ fpOf h₀ h₂ fp)) rest s₄ →
        ∃ h₄ tk₄ tl, s₄ = { s with heap := h₄, toks := tk₄ } ∧ St (i + 1) h₄ ∧ Own h₄ ∧ Fr h₀ L h₄ m ∧ News h₀ L h₄ ((D, LCg.lst ys) :: (tl ++ nw')) ∧ (∀ p ∈ tl ++ nw', p.1 ∉ wr ∧ p.1 ∉ ownA ∧ p.1 ≠ D) ∧ rest tl := by
      rintro rest s₄ ⟨h₄, tk₄, tl, rfl, F₄, N₄, ab, T₄⟩
      have abv := ab.all
      refine ⟨h₄, tk₄, tl, rfl, W.frame _ _ _ st₂ fun b hb o e => ?_, W.ownIs i own h₄ hB fun p hp => (N₄ p (List.mem_append_right _ (List.mem_append_left _ hp))).1, F₄, fun p hp => ?_, fun p hp => ?_, T₄⟩
      · cases q : h₀.get? b with
        | some o' =>
          have := F₂.keep b o' q
          rw [e] at this; cases this
          exact F₄.keep b _ q
        | none => exact (N₄ (b, o) (List.mem_append_right _ (List.mem_append_right _ (List.mem_cons_of_mem _ (List.mem_append_right _ (mem_fpOf.mpr ⟨hb, q, e⟩)))))).1
      · rcases List.mem_cons.mp hp with rfl | hp
        · exact N₄ _ (List.mem_append_right _ (List.mem_append_right _ List.mem_cons_self))
        · rcases List.mem_append.mp hp with hp | hp
          · exact N₄ p (List.mem_append_left _ hp)
          · exact N₄ p (List.mem_append_right _ (List.mem_append_right _ (List.mem_cons_of_mem _ (List.mem_append_left _ hp))))
      · rcases List.mem_append.mp hp with hp | hp
        · refine ⟨fun q => ?_, fun q => ?_, fun q => ?_⟩
          · obtain ⟨o, e⟩ := W.live _ _ st₂ p.1 q
            exact Nat.lt_irrefl _ (abv p hp (p.1, o) (List.mem_append_right _ (List.mem_cons_of_mem _ (List.mem_append_right _ (mem_fpOf.mpr ⟨W.sub _ q, hwr₀ _ q, e⟩)))))
          · obtain ⟨o, e⟩ := W.ownAll i own hB p.1 q
            exact Nat.lt_irrefl _ (abv p hp (p.1, o) (List.mem_append_left _ e))
          · have z := abv p hp (D, LCg.lst ys) (List.mem_append_right _ List.mem_cons_self)
            rw [q] at z; exact Nat.lt_irrefl _ z
        · exact off' p hp
    refine wpAny_mono (T' C D own (fpOf h₀ h₂ fp) h₂ tk₂ _ hB F₂ N₂ hDC) (fun ok s₄ h₄ => ?_) fun _ _ e => e
    cases ok with
    | false =>
      simp only [Bool.false_eq_true, if_false] at h₄ ⊢
      obtain ⟨h₄', tk₄, tl, rfl, st₄, ow₄, F₄, N₄, off₄, T₄⟩ := back _ s₄ h₄
      exact ⟨n + 1 - (i + 1), by omega, h₄', tk₄, i + 1, ys, tl ++ nw', rfl, hlt, rfl, Nat.le_succ_of_le hyl, st₄, ow₄, F₄, N₄, off₄, by rw [show n - (i + 1) = j by omega]; exact T₄⟩
    | true =>
      simp only [if_true] at h₄ ⊢
      refine wpAny_mono h₄ (fun y s₅ h₅ => ?_) fun _ _ e => e
      obtain ⟨h₅', tk₅, tl, rfl, st₅, ow₅, F₅, N₅, off₅, T₅⟩ := back _ s₅ h₅
      refine append_at (hsz := by show ys.toArray.size ≤ sizeLine; rw [List.size_toArray]; omega) (N₅ _ List.mem_cons_self).1 fun h₆ hs₆ hD₆ => ?_
      refine ⟨n + 1 - (i + 1), by omega, h₆, tk₅, i + 1, snoc ys y, tl ++ nw', rfl, hlt, rfl, by unfold snoc; rw [List.length_append, List.length_singleton]; omega,
        W.frame _ _ _ st₅ fun b hb o e => hs₆.extBut b o (fun q => hDfp (q ▸ hb)) e, W.ownFr _ _ ow₅ fun b hb o e => hs₆.extBut b o (fun q => hDown (q ▸ hb)) e, F₅.change hs₆ hDL hD₀, fun p hp => ?_, off₅, by rw [show n - (i + 1) = j by omega]; exact T₅⟩
      rcases List.mem_cons.mp hp with rfl | hp
      · exact ⟨hD₆.trans (congrArg some (LCg.lst_snoc ys y)), hDL, hD₀⟩
      · have z := N₅ p (List.mem_cons_of_mem _ hp)
        exact ⟨hs₆.extBut _ _ (off₅ p hp).2.2 z.1, z.2⟩
  · obtain rfl : i = n := Nat.le_antisymm hi (Nat.not_lt.mp hlt)
    rw [Nat.sub_self] at T'
    refine W.done _ _ _ st' fun h₂ tk₂ kp => ?_
    have hLw : L ∉ wr := fun q => hLfp (W.sub _ q)
    have hDw : D ∉ wr := fun q => hDfp (W.sub _ q)
    exact hR h₂ tk₂ ys nw' ⟨F'.ns.at' fun o e => kp L o hLw e, fun b o e => kp b o (fun q => by rw [hwr₀ b q] at e; cases e) (F'.keep b o e), F'.above⟩ (fun p hp => by
      rcases List.mem_cons.mp hp with rfl | hp
      · have z := N' _ List.mem_cons_self; exact ⟨kp _ _ hDw z.1, z.2⟩
      · have z := N' p (List.mem_cons_of_mem _ hp); exact ⟨kp _ _ (off' p hp).1 z.1, z.2⟩) off' (W.ownFr _ _ ow' fun b hb o e => kp b o (fun q => hfpown b hb (W.sub _ q)) e) T'
end
end Mine
end
section
open PySem PySem.W PySem.Calls PyProof.Rows
set_option Elab.async false
set_option maxRecDepth 100000
set_option maxHeartbeats 2000000
namespace Mine
section
variable {M : Model} {A : Around} {E : Value → Shared → Prop} {s : Shared}
theorem newEnv_comp {scope : Scope} {globals : Addr} {cl : List (Str × Addr)} {qual : Str} {env : Env} {Q : Env → Shared → Prop}
    (h : Q { scope := scope, locals := s.heap.objs.size, globals := globals, cells := cellsFrom (s.heap.objs.size + 1) scope.names cl, qual := qual, func := none, code := env.code, frame := env.frame, builtins := env.builtins }
      { s with heap := pushCells (s.heap.push { cls := .type "dict", data := .dict #[] }) scope.names }) :
    wpAny M A (newFunctionEnv scope globals cl [] qual none .none (some env)) Q E s := by
  simp only [newFunctionEnv, Option.isSome_some, if_true]
  refine wpAny_bind (wpAny_alloc (wpAny_bind (wpAny_layCells _ (fun name kind cells => by cases kind == NameKind.cell <;> simp) _ _ _ _ ?_)))
  rw [show ({ s with heap := s.heap.push { cls := .type "dict", data := .dict #[] } } : Shared).heap.objs.size = s.heap.objs.size + 1 from Heap.size_push ..]
  refine wpAny_bind ?_
  rw [List.forIn_nil]
  exact wpAny_pure (wpAny_pure h)
end
theorem pushCells_size : ∀ (names : List (Str × NameKind)) (h : Heap), h.objs.size ≤ (pushCells h names).objs.size
  | [], _ => Nat.le_refl _
  | (_, kind) :: r, h => by
    unfold pushCells
    split
    · exact Nat.le_trans (by rw [Heap.size_push]; exact Nat.le_succ _) (pushCells_size r _)
    · exact pushCells_size r h
section
variable {prog : Program} {w : World} {A : Around} {E : Value → Shared → Prop} {s : Shared}
theorem comp_setup {h₀ : Heap} {L : Addr} {m : Str → Option Value} {env : Env} {elt target iter : Expr} {ifs : List Expr} {scope : Scope} {cl : List (Str × Addr)} {cells : Addr → List (Str × Addr)} {pos : Pos} {I : Addr} {fp wr : List Addr} {ownA : Addr → List Addr} {n : Nat} {St : Nat → Heap → Prop} {Own : Addr → Heap → Prop} {Bound : Addr → Nat → List (Addr × Obj) → Prop}
    {Fin : List Value → List (Addr × Obj) → Prop} {nw : List (Addr × Obj)} {RR : Value → Addr → Result → Shared → Prop}
    (hcl : ∀ C, cellsFrom (C + 1) scope.names cl = cells C)
    (hOwn : ∀ h : Heap, Own h.objs.size (pushCells (h.push { cls := .type "dict", data := .dict #[] }) scope.names)) (hNs : ∀ C h, Own C h → ∃ m', h.Ns C m')
    (hA : ∀ C, ∀ b ∈ ownA C, @LE.le Nat _ C b) (hA' : ∀ C, C ∈ ownA C)
    (W : ∀ C, (∀ b ∈ fp, @LT.lt Nat _ b C) → Drw prog w A target (compEnvC scope (cells C) C env) I fp wr (ownA C) n St (Own C) (Bound C)) (hsz : n ≤ sizeLine)
    (hfp : ∀ b ∈ fp, @LT.lt Nat _ b s.heap.objs.size) (hLfp : L ∉ fp) (hwr₀ : ∀ b ∈ wr, h₀.get? b = none)
    (st : St 0 s.heap) (F : Fr h₀ L s.heap m) (N : News h₀ L s.heap nw) (off : ∀ p ∈ nw, p.1 ∉ wr)
    (T : ∀ g : Heap, Rest prog w A h₀ L m env elt ifs scope cells { s with heap := g } Bound Fin n 0 [] nw)
    (hRR : ∀ D C h tk m' ys nw', (∀ p ∈ nw, @LT.lt Nat _ p.1 D) → Fr h₀ L h m → News h₀ L h ((D, LCg.lst ys) :: nw') → (∀ p ∈ nw', p.1 ≠ C ∧ p.1 ≠ D) → h.Ns C m' → C ≠ L → D ≠ L → D ≠ C → h₀.get? C = none → h₀.get? D = none → Fin ys nw' → RR (.ref D) C (.ok .next) { s with heap := h, toks := tk }) :
    wpAny (model prog w) A (newList []) (fun acc s₃ => wpAny (model prog w) A (newFunctionEnv scope env.globals cl [] env.qual none .none (some env)) (fun cenv s₄ =>
      codeAny (model prog w) A (.compStart (.ListComp elt [⟨target, iter, ifs, 0⟩] scope pos) 0 (.ref I) acc { cenv with scope := relabel scope env }) (RR acc cenv.locals) s₄) E s₃) E s := by
  refine wpAny_newObj_type (newEnv_comp ?_)
  dsimp only
  rw [hcl]
  generalize hH : s.heap.push { cls := .type "list", dict := none, data := .seq ([] : List Value).toArray } = H
  have hC : H.objs.size = s.heap.objs.size + 1 := by rw [← hH, Heap.size_push]
  have hO := hOwn H
  generalize hK : pushCells (H.push { cls := .type "dict", data := .dict #[] }) scope.names = K at hO ⊢
  have old : ∀ b o, s.heap.get? b = some o → K.get? b = some o := fun b o e => hK ▸ pushCells_keeps _ _ b o (Heap.get?_push_of_some _ (hH ▸ Heap.get?_push_of_some _ e))
  have hD : K.get? s.heap.objs.size = some (LCg.lst []) := hK ▸ pushCells_keeps _ _ _ _ (Heap.get?_push_of_some _ (hH ▸ Heap.get?_push_size _ rfl))
  have fresh₀ : ∀ a, s.heap.objs.size ≤ a → h₀.get? a = none := fun a ha => by
    cases e : h₀.get? a with
    | none => rfl
    | some o' => exact absurd (Heap.lt_size (F.keep a o' e)) (Nat.not_lt.mpr ha)
  have hLlt : @LT.lt Nat _ L s.heap.objs.size := F.ns.lt
  have hDC : @LT.lt Nat _ s.heap.objs.size H.objs.size := by rw [hC]; exact Nat.lt_succ_self _
  have Wc := W H.objs.size fun b hb => Nat.lt_trans (hfp b hb) hDC
  have ownLo : ∀ b ∈ ownA H.objs.size, @LT.lt Nat _ s.heap.objs.size b := fun b hb => Nat.lt_of_lt_of_le hDC (hA _ b hb)
  have stK : St 0 K := Wc.frame _ _ _ st fun b _ o e => old b o e
  have loop : codeAny (model prog w) A (.compLoop (.ListComp elt [⟨target, iter, ifs, 0⟩] scope pos) 0 (.ref I) (.ref s.heap.objs.size) (compEnvC scope (cells H.objs.size) H.objs.size env))
      (RR (.ref s.heap.objs.size) H.objs.size) { s with heap := K } := by
    refine comp_loop (s := { s with heap := K }) (Fin := Fin) (nw := nw) Wc hsz hLfp (fun q => Nat.lt_asymm hLlt (ownLo L q)) (Nat.ne_of_gt hLlt) (fresh₀ _ (Nat.le_refl _)) hwr₀ (fun b hb => fresh₀ b (Nat.le_of_lt (ownLo b hb))) (fun q => Nat.lt_irrefl _ (hfp _ q))
      (fun q => Nat.lt_irrefl _ (ownLo _ q)) hDC stK hO (F.keeps old) (fun p hp => ?_) (fun p hp => ?_) ?_ ?_ (fun b hb q => Nat.lt_asymm (ownLo b hb) (hfp b q))
    · rcases List.mem_cons.mp hp with rfl | hp
      · exact ⟨hD, Nat.ne_of_gt hLlt, fresh₀ _ (Nat.le_refl _)⟩
      · have z := N p hp; exact ⟨old _ _ z.1, z.2⟩
    · have z := Heap.lt_size (N p hp).1
      exact ⟨off p hp, fun q => Nat.lt_asymm z (ownLo _ q), Nat.ne_of_lt z⟩
    · exact T K
    · intro h tk ys nw' F' N' off' ow fin
      obtain ⟨m', hn⟩ := hNs _ _ ow
      exact hRR _ _ h tk m' ys nw' (fun p hp => Heap.lt_size (N p hp).1) F' N' (fun p hp => ⟨fun q => (off' p hp).2.1 (q ▸ hA' _), (off' p hp).2.2⟩) hn (Nat.ne_of_gt (Nat.lt_trans hLlt hDC)) (Nat.ne_of_gt hLlt) (Nat.ne_of_lt hDC) (fresh₀ _ (Nat.le_of_lt hDC)) (fresh₀ _ (Nat.le_refl _)) fin
  exact codeAny_compStart_list loop (Wc.self 0 _ _ _ stK loop)
/-- the names' way of binding: a local of the block's own -/
noncomputable def BoundN (P : Nat → Value → Prop) (x : Str) (C : Addr) (i : Nat) (own : List (Addr × Obj)) : Prop := ∃ oC m v, own = [(C, oC)] ∧ LCg.NsObj oC m ∧ m x = some v ∧ P i v
/-- a cell of the block's own -/
noncomputable def BoundX (P : Nat → Value → Prop) (C : Addr) (i : Nat) (own : List (Addr × Obj)) : Prop := ∃ oX oC m v, own = [(C + 1, oX), (C, oC)] ∧ LCg.NsObj oC m ∧ oX.data = .cell (some v) ∧ P i v
/-- two locals of the block's own -/
noncomputable def BoundP (P : Nat → Array Value → Prop) (x y : Str) (C : Addr) (i : Nat) (own : List (Addr × Obj)) : Prop := ∃ oC m u v, own = [(C, oC)] ∧ LCg.NsObj oC m ∧ m x = some u ∧ m y = some v ∧ P i #[u, v]
theorem drw_name {I : Addr} {fp wr : List Addr} {n : Nat} {P : Nat → Value → Prop} {St : Nat → Heap → Prop} {cenv : Env} {x : Str} {px : Pos}
    (W : Walks prog w A I fp wr n P St) (live : ∀ i h, St i h → ∀ b ∈ wr, ∃ o, h.get? b = some o) (hx : cenv.kindOf x = some .local) (hk : cenv.scope.kind = .function) (hC : cenv.locals ∉ fp) :
    Drw prog w A (.Name x px) cenv I fp wr [cenv.locals] n St (fun h => ∃ m, h.Ns cenv.locals m) (BoundN P x cenv.locals) where
  frame := W.frame
  live := live
  sub := W.sub
  ownAt := by rintro i own ⟨oC, m, v, rfl, _⟩ p hp; rw [List.mem_singleton.mp hp]; exact List.mem_cons_self
  ownAll := by rintro i own ⟨oC, m, v, rfl, _⟩ b hb; rw [List.mem_singleton.mp hb]; exact ⟨oC, List.mem_cons_self⟩
  ownIs := by rintro i own h ⟨oC, m, v, rfl, hn, _⟩ ho; exact ⟨m, hn.ns (ho _ List.mem_cons_self)⟩
  ownFr := by rintro h h' ⟨m, hn⟩ k; exact ⟨m, hn.at' fun o e => k _ List.mem_cons_self o e⟩
  draw := by
    rintro i s Q E hi st ⟨m, hn⟩ hQ
    refine W.item i s Q E hi st fun v h₁ tk₁ hP st₁ kp => hQ v _ fun Q' hQ' => ?_
    show wpAny _ A (pure ()) _ E _
    refine wpAny_pure (wpAny_assign_Name (wpAny_storeName_local hx (hn.at' fun o e => kp _ o (fun q => hC (W.sub _ q)) e) (fun h₂ hn₂ hs₂ => ?_) (by rw [hk]; rfl)))
    obtain ⟨oC, heC, hoC⟩ := LCg.ns_obj hn₂
    refine hQ' [(cenv.locals, oC)] h₂ _ ⟨oC, _, v, rfl, hoC, by simp, hP⟩ (fun p hp => by rw [List.mem_singleton.mp hp]; exact heC) (W.frame _ _ _ st₁ fun b hb o e => hs₂.extBut b o (fun q => hC (q ▸ hb)) e)
      fun b o h1 h2 e => hs₂.extBut b o (fun q => h2 (q ▸ List.mem_cons_self)) (kp b o h1 e)
  done := W.done
  self := W.self
theorem drw_cell {I : Addr} {fp wr : List Addr} {n : Nat} {P : Nat → Value → Prop} {St : Nat → Heap → Prop} {cenv : Env} {x : Str} {px : Pos}
    (W : Walks prog w A I fp wr n P St) (live : ∀ i h, St i h → ∀ b ∈ wr, ∃ o, h.get? b = some o) (hx : cenv.kindOf x = some .cell) (hk : cenv.scope.kind = .function) (hc : cenv.cells.lookup x = some (cenv.locals + 1)) (hC : cenv.locals ∉ fp) (hC' : cenv.locals + 1 ∉ fp) :
    Drw prog w A (.Name x px) cenv I fp wr [cenv.locals + 1, cenv.locals] n St (fun h => (∃ m, h.Ns cenv.locals m) ∧ ∃ v, h.IsCell (cenv.locals + 1) v) (BoundX P cenv.locals) where
  frame := W.frame
  live := live
  sub := W.sub
  ownAt := by
    rintro i own ⟨oX, oC, m, v, rfl, _⟩ p hp
    rcases List.mem_cons.mp hp with rfl | hp
    · exact List.mem_cons_self
    · rw [List.mem_singleton.mp hp]; exact List.mem_cons_of_mem _ List.mem_cons_self
  ownAll := by
    rintro i own ⟨oX, oC, m, v, rfl, _⟩ b hb
    rcases List.mem_cons.mp hb with rfl | hb
    · exact ⟨oX, List.mem_cons_self⟩
    · rw [List.mem_singleton.mp hb]; exact ⟨oC, List.mem_cons_of_mem _ List.mem_cons_self⟩
  ownIs := by rintro i own h ⟨oX, oC, m, v, rfl, hn, hd, _⟩ ho; exact ⟨⟨m, hn.ns (ho _ (List.mem_cons_of_mem _ List.mem_cons_self))⟩, some v, oX, ho _ List.mem_cons_self, hd⟩
  ownFr := by
    rintro h h' ⟨⟨m, hn⟩, v, o, ho, hd⟩ k
    exact ⟨⟨m, hn.at' fun o e => k _ (List.mem_cons_of_mem _ List.mem_cons_self) o e⟩, v, o, k _ List.mem_cons_self o ho, hd⟩
  draw := by
    rintro i s Q E hi st ⟨⟨m, hn⟩, v₀, o₀, ho₀, hd₀⟩ hQ
    refine W.item i s Q E hi st fun v h₁ tk₁ hP st₁ kp => hQ v _ fun Q' hQ' => ?_
    show wpAny _ A (pure ()) _ E _
    refine wpAny_pure (wpAny_assign_Name (wpAny_storeName_cell hk hx hc ⟨o₀, kp _ o₀ (fun q => hC' (W.sub _ q)) ho₀, hd₀⟩ fun h₂ hv hs₂ => ?_))
    obtain ⟨oX, heX, hdX⟩ := hv
    obtain ⟨oC, heC, hoC⟩ := LCg.ns_obj ((hn.at' fun o e => kp _ o (fun q => hC (W.sub _ q)) e).sameBut hs₂ (Nat.ne_of_lt (Nat.lt_succ_self _)))
    refine hQ' [(cenv.locals + 1, oX), (cenv.locals, oC)] h₂ _ ⟨oX, oC, _, v, rfl, hoC, hdX, hP⟩ (fun p hp => ?_) (W.frame _ _ _ st₁ fun b hb o e => hs₂.extBut b o (fun q => hC' (q ▸ hb)) e)
      fun b o h1 h2 e => hs₂.extBut b o (fun q => h2 (q ▸ List.mem_cons_self)) (kp b o h1 e)
    rcases List.mem_cons.mp hp with rfl | hp
    · exact heX
    · rw [List.mem_singleton.mp hp]; exact heC
  done := W.done
  self := W.self
theorem drw_pair {I : Addr} {fp wr : List Addr} {n : Nat} {P : Nat → Array Value → Prop} {St : Nat → Heap → Prop} {Mid : Nat → Addr → Heap → Prop} {cenv : Env} {x y : Str} {px py tp : Pos} {kk : Nat}
    (W : WalksT prog w A I fp wr n P St Mid) (hh : A.handled = none) (live : ∀ i h, St i h → ∀ b ∈ wr, ∃ o, h.get? b = some o) (hx : cenv.kindOf x = some .local) (hy : cenv.kindOf y = some .local) (hxy : x ≠ y) (hk : cenv.scope.kind = .function) (hC : cenv.locals ∉ fp)
    (hP : ∀ i vals, P i vals → ∃ u v, vals = #[u, v]) :
    Drw prog w A (.Tuple [.Name x px, .Name y py] kk tp) cenv I fp wr [cenv.locals] n St (fun h => ∃ m, h.Ns cenv.locals m) (BoundP P x y cenv.locals) where
  frame := W.frame
  live := live
  sub := W.sub
  ownAt := by rintro i own ⟨oC, m, u, v, rfl, _⟩ p hp; rw [List.mem_singleton.mp hp]; exact List.mem_cons_self
  ownAll := by rintro i own ⟨oC, m, u, v, rfl, _⟩ b hb; rw [List.mem_singleton.mp hb]; exact ⟨oC, List.mem_cons_self⟩
  ownIs := by rintro i own h ⟨oC, m, u, v, rfl, hn, _⟩ ho; exact ⟨m, hn.ns (ho _ List.mem_cons_self)⟩
  ownFr := by rintro h h' ⟨m, hn⟩ k; exact ⟨m, hn.at' fun o e => k _ List.mem_cons_self o e⟩
  draw := by
    rintro i s Q E hi st ⟨m, hn⟩ hQ
    refine W.item i s Q E hi st fun T vals h₁ tk₁ hPv hT hTt mid kp => hQ (.ref T) _ fun Q' hQ' => ?_
    refine W.go _ _ _ i T _ _ _ mid fun h₂ st₂ kp₂ => ?_
    obtain ⟨u, v, rfl⟩ := hP i vals hPv
    obtain ⟨oT, hoT, rT⟩ := hTt
    have hT₂ : IsTup h₂ T #[u, v] := ⟨oT, kp₂ _ _ (W.apart _ _ _ mid) hoT, rT⟩
    refine assign_Tuple_tuple hh hT₂ rfl rfl fun h₃ he => ?_
    have k₃ : ∀ b o, h₂.get? b = some o → h₃.get? b = some o := fun b o e => he b o (Nat.ne_of_lt (Heap.lt_size e)) e
    have hCw : cenv.locals ∉ wr := fun q => hC (W.sub _ q)
    have hn₃ : h₃.Ns cenv.locals m := hn.at' fun o e => k₃ _ _ (kp₂ _ _ hCw (kp _ _ hCw e))
    refine assignInOrder_cons (wpAny_assign_Name (wpAny_storeName_local hx hn₃ (fun h₄ hn₄ hs₄ => ?_) (by rw [hk]; rfl)))
    refine assignInOrder_cons (wpAny_assign_Name (wpAny_storeName_local hy hn₄ (fun h₅ hn₅ hs₅ => ?_) (by rw [hk]; rfl)))
    refine assignInOrder_nil ?_
    obtain ⟨oC, heC, hoC⟩ := LCg.ns_obj hn₅
    have k₅ : ∀ b o, b ≠ cenv.locals → h₂.get? b = some o → h₅.get? b = some o := fun b o hb e => hs₅.extBut b o hb (hs₄.extBut b o hb (k₃ b o e))
    refine hQ' [(cenv.locals, oC)] h₅ _ ⟨oC, _, u, v, rfl, hoC, by simp [hxy], by simp, hPv⟩ (fun p hp => by rw [List.mem_singleton.mp hp]; exact heC) (W.frame _ _ _ st₂ fun b hb o e => k₅ b o (fun q => hC (q ▸ hb)) e)
      fun b o h1 h2 e => k₅ b o (fun q => h2 (q ▸ List.mem_cons_self)) (kp₂ b o h1 (kp b o h1 e))
  done := W.done
  self := W.self
end
end Mine
end
section
open PySem PySem.W PySem.Calls PyProof.Rows
set_option Elab.async false
set_option maxRecDepth 100000
set_option maxHeartbeats 2000000
namespace Mine
/-- the comprehension's end, as a value: the new list lies above all that stood -/
noncomputable def CFinE (h₀ : Heap) (L : Addr) (m : Str → Option Value) (s : Shared) (Q : Value → Shared → Prop) (nw₀ : List (Addr × Obj)) (ys : List Value) (nw : List (Addr × Obj)) : Prop :=
  ∀ D h tk, (∀ p ∈ nw₀, @LT.lt Nat _ p.1 D) → Fr h₀ L h m → News h₀ L h ((D, LCg.lst ys) :: nw) → LCg.Off1 D nw → Q (.ref D) { s with heap := h, toks := tk }
/-- the comprehension's end, stored into a local -/
noncomputable def CFinA (h₀ : Heap) (L : Addr) (m : Str → Option Value) (s : Shared) (y : Str) (Q : Flow → Shared → Prop) (nw₀ : List (Addr × Obj)) (ys : List Value) (nw : List (Addr × Obj)) : Prop :=
  ∀ D h tk, (∀ p ∈ nw₀, @LT.lt Nat _ p.1 D) → Fr h₀ L h (fun z => if z = y then some (.ref D) else m z) → News h₀ L h ((D, LCg.lst ys) :: nw) → LCg.Off1 D nw → Q .next { s with heap := h, toks := tk }
/-- what the iterable's value is drawn by -/
noncomputable def CSrc (prog : Program) (w : World) (A : Around) (h₀ : Heap) (L : Addr) (m : Str → Option Value) (env : Env) (elt target : Expr) (ifs : List Expr) (scope : Scope) (cells : Addr → List (Str × Addr)) (ownA : Addr → List Addr) (Own : Addr → Heap → Prop) (E : Value → Shared → Prop)
    (Fin : Shared → List (Addr × Obj) → List Value → List (Addr × Obj) → Prop) (xv : Value) (s₁ : Shared) : Prop :=
  wpAny (model prog w) A (pyIter xv) (fun it s₂ => ∃ I fp wr n St Bound nw, it = .ref I ∧ (∀ C, (∀ b ∈ fp, @LT.lt Nat _ b C) → Drw prog w A target (compEnvC scope (cells C) C env) I fp wr (ownA C) n St (Own C) (Bound C)) ∧ n ≤ sizeLine ∧
    (∀ b ∈ fp, @LT.lt Nat _ b s₂.heap.objs.size) ∧ L ∉ fp ∧ (∀ b ∈ wr, h₀.get? b = none) ∧ St 0 s₂.heap ∧ Fr h₀ L s₂.heap m ∧ News h₀ L s₂.heap nw ∧ (∀ p ∈ nw, p.1 ∉ wr) ∧ ∀ g : Heap, Rest prog w A h₀ L m env elt ifs scope cells { s₂ with heap := g } Bound (Fin s₂ nw) n 0 [] nw) E s₁
section
variable {prog : Program} {w : World} {A : Around} {E : Value → Shared → Prop} {s : Shared} {h₀ : Heap} {L : Addr} {m : Str → Option Value} {env : Env} {elt target iter : Expr} {ifs : List Expr} {scope : Scope} {cl : List (Str × Addr)} {cells : Addr → List (Str × Addr)} {pos : Pos} {ownA : Addr → List Addr} {Own : Addr → Heap → Prop}
theorem off1_of {D : Addr} : ∀ {l : List (Addr × Obj)}, (∀ p ∈ l, p.1 ≠ D) → LCg.Off1 D l
  | [], _ => trivial
  | _ :: _, h => ⟨h _ List.mem_cons_self, off1_of fun p hp => h p (List.mem_cons_of_mem _ hp)⟩
theorem comp_expr {Q : Value → Shared → Prop} (_F₀ : Fr h₀ L s.heap m)
    (hclos : closureFor scope env = pure cl) (hkind : scope.kind = .function) (hnames : ∀ y ∈ scope.names, y.2 = .local → scope.names.lookup y.1 = some .local)
    (hcl : ∀ C, cellsFrom (C + 1) scope.names cl = cells C)
    (hOwn : ∀ h : Heap, Own h.objs.size (pushCells (h.push { cls := .type "dict", data := .dict #[] }) scope.names)) (hNs : ∀ C h, Own C h → ∃ m', h.Ns C m')
    (hA : ∀ C, ∀ b ∈ ownA C, @LE.le Nat _ C b) (hA' : ∀ C, C ∈ ownA C)
    (h : wpAny (model prog w) A (eval iter env) (CSrc prog w A h₀ L m env elt target ifs scope cells ownA Own E (fun s₂ nw₀ => CFinE h₀ L m s₂ Q nw₀)) E s)
    (hs : ∀ x, foldedSetIterable iter env x = pure x := by intro _; rfl) :
    wpAny (model prog w) A (eval (.ListComp elt [⟨target, iter, ifs, 0⟩] scope pos) env) Q E s := by
  rw [eval_ListComp]
  refine wpAny_comprehension_free (use := none) rfl hs hclos hkind hnames (wpAny_mono h (fun xv s₁ h₁ => wpAny_mono h₁ (fun it s₂ h₂ => ?_) fun _ _ e => e) fun _ _ e => e)
  obtain ⟨I, fp, wr, n, St, Bound, nw, rfl, W, hsz, hfp, hL, hwr, st, F, N, off, T⟩ := h₂
  refine comp_setup hcl hOwn hNs hA hA' W hsz hfp hL hwr st F N off T ?_
  intro D C h tk m' ys nw' low F' N' off' hn hCL hDL hDC hC₀ hD₀ fin
  refine ⟨m', hn, fun h'' hs'' => fin D h'' tk low (F'.change hs'' hCL hC₀) (fun p hp => ?_) (off1_of fun p hp => (off' p hp).2)⟩
  refine ⟨hs''.extBut _ _ ?_ (N' p hp).1, (N' p hp).2⟩
  rcases List.mem_cons.mp hp with rfl | hp
  · exact hDC
  · exact (off' p hp).1
theorem comp_assign {y : Str} {py spos : Pos} {Q : Flow → Shared → Prop} (_F₀ : Fr h₀ L s.heap m) (hLe : env.locals = L)
    (hsw : swapsWith (.ListComp elt [⟨target, iter, ifs, 0⟩] scope pos) (some (.Name y py)) spos.line env = pure true)
    (hclos : closureFor scope env = pure cl) (hkind : scope.kind = .function) (hnames : ∀ y ∈ scope.names, y.2 = .local → scope.names.lookup y.1 = some .local)
    (hcl : ∀ C, cellsFrom (C + 1) scope.names cl = cells C)
    (hOwn : ∀ h : Heap, Own h.objs.size (pushCells (h.push { cls := .type "dict", data := .dict #[] }) scope.names)) (hNs : ∀ C h, Own C h → ∃ m', h.Ns C m')
    (hA : ∀ C, ∀ b ∈ ownA C, @LE.le Nat _ C b) (hA' : ∀ C, C ∈ ownA C)
    (hy : env.kindOf y = some .local) (hp : (env.scope.kind == .class || (env.scope.kind == .module && env.locals != env.globals)) = false)
    (h : wpAny (model prog w) A (eval iter env) (CSrc prog w A h₀ L m env elt target ifs scope cells ownA Own E (fun s₂ nw₀ => CFinA h₀ L m s₂ y Q nw₀)) E s)
    (hs : ∀ x, foldedSetIterable iter env x = pure x := by intro _; rfl) :
    wpAny (model prog w) A (exec (.Assign [.Name y py] (.ListComp elt [⟨target, iter, ifs, 0⟩] scope pos) spos) env) Q E s := by
  subst hLe
  rw [exec_Assign_Name_used _ _ _ _ hsw]
  refine wpAny_bind (wpAny_standAt (wpAny_bind ?_))
  show wpAny _ A (do let _ ← comprehension (.ListComp elt [⟨target, iter, ifs, 0⟩] scope pos) scope env _ (newList []) false (eval iter env) (some (assign (.Name y py) env))) _ _ s
  refine wpAny_bind (wpAny_mono (wpAny_comprehension_free (use := some (assign (.Name y py) env)) (Q := fun _ s' => Q .next s') rfl hs hclos hkind hnames
    (wpAny_mono h (fun xv s₁ h₁ => wpAny_mono h₁ (fun it s₂ h₂ => ?_) fun _ _ e => e) fun _ _ e => e)) (fun _ s' hq => wpAny_pure (wpAny_pure hq)) fun _ _ e => e)
  obtain ⟨I, fp, wr, n, St, Bound, nw, rfl, W, hsz, hfp, hL, hwr, st, F, N, off, T⟩ := h₂
  refine comp_setup hcl hOwn hNs hA hA' W hsz hfp hL hwr st F N off T ?_
  intro D C h tk m' ys nw' low F' N' off' hn hCL hDL hDC hC₀ hD₀ fin
  show wpAny _ A (assign (.Name y py) env (.ref D)) _ _ _
  refine wpAny_assign_Name (wpAny_storeName_local hy F'.ns (fun h₂ hn₂ hs₂ => ?_) hp)
  have hL₀ : h₀.get? env.locals = none := Heap.get?_none_of_le F'.above
  have F₂ : Fr h₀ env.locals h₂ (fun z => if z = y then some (.ref D) else m z) := ⟨hn₂, fun b o e => hs₂.extBut b o (fun q => by rw [q, hL₀] at e; cases e) (F'.keep b o e), F'.above⟩
  refine ⟨m', hn.sameBut hs₂ hCL, fun h'' hs'' => fin D h'' _ low (F₂.change hs'' hCL hC₀) (fun p hp => ?_) (off1_of fun p hp => (off' p hp).2)⟩
  have z : h₂.get? p.1 = some p.2 := hs₂.extBut _ _ (N' p hp).2.1 (N' p hp).1
  refine ⟨hs''.extBut _ _ ?_ z, (N' p hp).2⟩
  rcases List.mem_cons.mp hp with rfl | hp
  · exact hDC
  · exact (off' p hp).1
/-! the iterables -/
theorem ns_not_seq {h : Heap} {L a : Addr} {m : Str → Option Value} (F : Fr h₀ L h m) {o : Obj} (ho : h.get? a = some o) (hd : ∀ es ep, o.data ≠ .dict es ep) : L ≠ a := by
  rintro rfl
  obtain ⟨o', es, ep, e, hd', _⟩ := F.ns
  rw [ho] at e; cases e
  exact hd es ep hd'
theorem fresh_of {h : Heap} (F : Fr h₀ L h m) {a : Addr} (ha : h.objs.size ≤ a) : h₀.get? a = none := by
  cases e : h₀.get? a with
  | none => rfl
  | some o' => exact absurd (Heap.lt_size (F.keep a o' e)) (Nat.not_lt.mpr ha)
section
variable {ax : Addr} {its : Array Value} {news : List (Addr × Obj)} {Fin : Shared → List (Addr × Obj) → List Value → List (Addr × Obj) → Prop} {x y : Str} {px py tp : Pos} {kk : Nat}
/-- a Name's block over anything that Walks -/
theorem csrc_walks_name {I : Addr} {fp wr : List Addr} {n : Nat} {P : Nat → Value → Prop} {St : Nat → Heap → Prop} (W : Walks prog w A I fp wr n P St) (live : ∀ i h, St i h → ∀ b ∈ wr, ∃ o, h.get? b = some o)
    (hx : (relabel scope env).names.lookup x = some .local) (hk : scope.kind = .function) : ∀ C, (∀ b ∈ fp, @LT.lt Nat _ b C) → Drw prog w A (.Name x px) (compEnvC scope (cells C) C env) I fp wr [C] n St (fun h => ∃ m, h.Ns C m) (BoundN P x C) :=
  fun C hC => drw_name (cenv := compEnvC scope (cells C) C env) W live hx hk fun q => Nat.lt_irrefl _ (hC _ q)
theorem csrc_walks_cell {I : Addr} {fp wr : List Addr} {n : Nat} {P : Nat → Value → Prop} {St : Nat → Heap → Prop} (W : Walks prog w A I fp wr n P St) (live : ∀ i h, St i h → ∀ b ∈ wr, ∃ o, h.get? b = some o)
    (hx : (relabel scope env).names.lookup x = some .cell) (hk : scope.kind = .function) (hc : ∀ C, (cells C).lookup x = some (C + 1)) : ∀ C, (∀ b ∈ fp, @LT.lt Nat _ b C) → Drw prog w A (.Name x px) (compEnvC scope (cells C) C env) I fp wr [C + 1, C] n St (fun h => (∃ m, h.Ns C m) ∧ ∃ v, h.IsCell (C + 1) v) (BoundX P C) :=
  fun C hC => drw_cell (cenv := compEnvC scope (cells C) C env) W live hx hk (hc C) (fun q => Nat.lt_irrefl _ (hC _ q)) fun q => Nat.lt_irrefl _ (Nat.lt_trans (Nat.lt_succ_self _) (hC _ q))
theorem csrc_list {Bound : Addr → Nat → List (Addr × Obj) → Prop} (_hh : A.handled = none) (F : Fr h₀ L s.heap m) (N : News h₀ L s.heap news) (hl : s.heap.IsList ax its) (hsz : its.size ≤ sizeLine)
    (W : ∀ I, ax ≠ I → ∀ C, (∀ b ∈ [I, ax], @LT.lt Nat _ b C) → Drw prog w A target (compEnvC scope (cells C) C env) I [I, ax] [I] (ownA C) its.size (fun i h => h.IsListIter I ax i ∧ h.IsList ax its) (Own C) (Bound C))
    (T : ∀ g g' : Heap, Rest prog w A h₀ L m env elt ifs scope cells { s with heap := g } Bound (Fin { s with heap := g' } news) its.size 0 [] news) :
    CSrc prog w A h₀ L m env elt target ifs scope cells ownA Own E Fin (.ref ax) s := by
  have hlt : ax < s.heap.objs.size := by obtain ⟨_, e, _⟩ := hl; exact Heap.lt_size e
  have hLa : L ≠ ax := by obtain ⟨o, e, _, k, hd⟩ := hl; exact ns_not_seq F e (by rw [hd]; intro _ _ q; cases q)
  refine wpAny_pyIter_list hl ⟨s.heap.objs.size, [s.heap.objs.size, ax], [s.heap.objs.size], its.size, _, Bound, news, rfl, W _ (Nat.ne_of_lt hlt), hsz, fun b hb => ?_, fun hb => ?_, fun b hb => ?_, ⟨⟨_, Heap.get?_push_size _ rfl, rfl, rfl⟩, hl.push _⟩,
    F.keeps fun b o e => Heap.get?_push_of_some _ e, N.grown fun b o e => Heap.get?_push_of_some _ e, fun p hp hb => ?_, fun g => T g _⟩
  · show b < (s.heap.push _).objs.size
    rw [Heap.size_push]
    rcases List.mem_cons.mp hb with rfl | hb
    · exact Nat.lt_succ_self _
    · rw [List.mem_singleton.mp hb]; exact Nat.lt_succ_of_lt hlt
  · rcases List.mem_cons.mp hb with q | hb
    · exact Nat.ne_of_lt F.ns.lt q
    · exact hLa (List.mem_singleton.mp hb)
  · rw [List.mem_singleton.mp hb]; exact fresh_of F (Nat.le_refl _)
  · have z := Heap.lt_size (N p hp).1
    rw [List.mem_singleton.mp hb] at z; exact Nat.lt_irrefl _ z
theorem csrc_tuple {Bound : Addr → Nat → List (Addr × Obj) → Prop} (_hh : A.handled = none) (F : Fr h₀ L s.heap m) (N : News h₀ L s.heap news) (hl : s.heap.IsTuple ax its) (hsz : its.size ≤ sizeLine)
    (W : ∀ I, ax ≠ I → ∀ C, (∀ b ∈ [I, ax], @LT.lt Nat _ b C) → Drw prog w A target (compEnvC scope (cells C) C env) I [I, ax] [I] (ownA C) its.size (fun i h => h.IsTupleIter I ax i ∧ h.IsTuple ax its) (Own C) (Bound C))
    (T : ∀ g g' : Heap, Rest prog w A h₀ L m env elt ifs scope cells { s with heap := g } Bound (Fin { s with heap := g' } news) its.size 0 [] news) :
    CSrc prog w A h₀ L m env elt target ifs scope cells ownA Own E Fin (.ref ax) s := by
  have hlt : ax < s.heap.objs.size := by obtain ⟨_, e, _⟩ := hl; exact Heap.lt_size e
  have hLa : L ≠ ax := by obtain ⟨o, e, _, k, hd⟩ := hl; exact ns_not_seq F e (by rw [hd]; intro _ _ q; cases q)
  refine wpAny_pyIter_tuple hl ⟨s.heap.objs.size, [s.heap.objs.size, ax], [s.heap.objs.size], its.size, _, Bound, news, rfl, W _ (Nat.ne_of_lt hlt), hsz, fun b hb => ?_, fun hb => ?_, fun b hb => ?_, ⟨⟨_, Heap.get?_push_size _ rfl, rfl, rfl⟩, hl.push _⟩,
    F.keeps fun b o e => Heap.get?_push_of_some _ e, N.grown fun b o e => Heap.get?_push_of_some _ e, fun p hp hb => ?_, fun g => T g _⟩
  · show b < (s.heap.push _).objs.size
    rw [Heap.size_push]
    rcases List.mem_cons.mp hb with rfl | hb
    · exact Nat.lt_succ_self _
    · rw [List.mem_singleton.mp hb]; exact Nat.lt_succ_of_lt hlt
  · rcases List.mem_cons.mp hb with q | hb
    · exact Nat.ne_of_lt F.ns.lt q
    · exact hLa (List.mem_singleton.mp hb)
  · rw [List.mem_singleton.mp hb]; exact fresh_of F (Nat.le_refl _)
  · have z := Heap.lt_size (N p hp).1
    rw [List.mem_singleton.mp hb] at z; exact Nat.lt_irrefl _ z
theorem csrc_range {Bound : Addr → Nat → List (Addr × Obj) → Prop} {r : Addr} {a b : Int} {t u v : Tok} {n : Nat} (_hh : A.handled = none) (F : Fr h₀ L s.heap m) (N : News h₀ L s.heap news) (hr : IsRange s.heap r a b 1 t u v) (hsm : Builtin.Range.small a b 1 = true) (hn : Builtin.Range.rangeSize a b 1 = ((n : Nat) : Int)) (hsz : n ≤ sizeLine)
    (W : ∀ I, ∀ C, (∀ b ∈ [I], @LT.lt Nat _ b C) → Drw prog w A target (compEnvC scope (cells C) C env) I [I] [I] (ownA C) n (fun i h => IsRangeIter h I (a + (i : Nat) * 1) ((n : Int) - (i : Nat)) 1) (Own C) (Bound C))
    (T : ∀ g g' : Heap, Rest prog w A h₀ L m env elt ifs scope cells { s with heap := g } Bound (Fin { s with heap := g' } news) n 0 [] news) :
    CSrc prog w A h₀ L m env elt target ifs scope cells ownA Own E Fin (.ref r) s := by
  refine wpAny_pyIter_range hr hsm ⟨s.heap.objs.size, [s.heap.objs.size], [s.heap.objs.size], n, _, Bound, news, rfl, W _, hsz, fun b hb => ?_, fun hb => ?_, fun b hb => ?_, by show IsRangeIter _ _ _ _ _; rw [hn]; simpa using Heap.get?_push_size _ rfl,
    F.keeps fun b o e => Heap.get?_push_of_some _ e, N.grown fun b o e => Heap.get?_push_of_some _ e, fun p hp hb => ?_, fun g => T g _⟩
  · show b < (s.heap.push _).objs.size
    rw [Heap.size_push, List.mem_singleton.mp hb]
    exact Nat.lt_succ_self _
  · exact Nat.ne_of_lt F.ns.lt (List.mem_singleton.mp hb)
  · rw [List.mem_singleton.mp hb]; exact fresh_of F (Nat.le_refl _)
  · have z := Heap.lt_size (N p hp).1
    rw [List.mem_singleton.mp hb] at z; exact Nat.lt_irrefl _ z
theorem csrc_zip {l1 l2 : Addr} {xs ys : Array Value} {x y : Str} {px py tp : Pos} {kk : Nat} (hh : A.handled = none) (F : Fr h₀ L s.heap m) (N : News h₀ L s.heap news) (hl1 : s.heap.IsList l1 xs) (hl2 : s.heap.IsList l2 ys) (hsz : min xs.size ys.size ≤ sizeLine)
    (hx : (relabel scope env).names.lookup x = some .local) (hy : (relabel scope env).names.lookup y = some .local) (hxy : x ≠ y) (hk : scope.kind = .function)
    (T : ∀ g g' : Heap, Rest prog w A h₀ L m env elt ifs scope cells { s with heap := g } (BoundP (fun i vals => ∃ x y, xs[i]? = some x ∧ ys[i]? = some y ∧ vals = #[x, y]) x y) (Fin { s with heap := g' } news) (min xs.size ys.size) 0 [] news) :
    wpAny (model prog w) A (call (.type "zip") [.ref l1, .ref l2]) (CSrc prog w A h₀ L m env elt (.Tuple [.Name x px, .Name y py] kk tp) ifs scope cells (fun C => [C]) (fun C h => ∃ m, h.Ns C m) E Fin) E s := by
  have hLa : L ≠ l1 := by obtain ⟨o, e, _, k, hd⟩ := hl1; exact ns_not_seq F e (by rw [hd]; intro _ _ q; cases q)
  have hLb : L ≠ l2 := by obtain ⟨o, e, _, k, hd⟩ := hl2; exact ns_not_seq F e (by rw [hd]; intro _ _ q; cases q)
  have b1 : l1 < s.heap.objs.size := by obtain ⟨_, e, _⟩ := hl1; exact Heap.lt_size e
  have b2 : l2 < s.heap.objs.size := by obtain ⟨_, e, _⟩ := hl2; exact Heap.lt_size e
  refine call_zip_2 hl1 hl2 fun h' hz hTI hTO hi1 hi2 hsz' kp => ?_
  have W := WalksT.zip2 (prog := prog) (w := w) hh _ _ _ _ _ _ _ (zipApart_new b1 b2) xs ys
  have hLs : @LT.lt Nat _ L s.heap.objs.size := F.ns.lt
  refine wpAny_pyIter_zip hz ⟨s.heap.objs.size + 4, [s.heap.objs.size + 4, s.heap.objs.size + 2, s.heap.objs.size + 3, s.heap.objs.size, s.heap.objs.size + 1, l1, l2], [s.heap.objs.size + 4, s.heap.objs.size + 3, s.heap.objs.size, s.heap.objs.size + 1], min xs.size ys.size, _, _, news, rfl,
    fun C hC => drw_pair (cenv := compEnvC scope (cells C) C env) W hh ?_ hx hy hxy hk (fun q => Nat.lt_irrefl _ (hC _ q)) ?_, hsz, fun b hb => ?_, fun hb => ?_, fun b hb => ?_, ⟨hz, hTI, ⟨_, _, hTO⟩, hi1, hi2, hl1.at fun o e => kp _ o e, hl2.at fun o e => kp _ o e⟩,
    F.keeps kp, N.grown kp, fun p hp hb => ?_, fun g => T g _⟩
  · rintro i h ⟨z1, z2, ⟨a, b, z3⟩, ⟨o4, z4, _⟩, ⟨o5, z5, _⟩, _⟩ b hb
    simp only [List.mem_cons, List.not_mem_nil, or_false] at hb
    rcases hb with rfl | rfl | rfl | rfl
    · exact ⟨_, z1⟩
    · exact ⟨_, z3⟩
    · exact ⟨_, z4⟩
    · exact ⟨_, z5⟩
  · rintro i vals ⟨u, v, _, _, e⟩; exact ⟨u, v, e⟩
  · show b < h'.objs.size
    rw [hsz']
    simp only [List.mem_cons, List.not_mem_nil, or_false] at hb
    rcases hb with rfl | rfl | rfl | rfl | rfl | rfl | rfl
    · exact Nat.lt_succ_self _
    · exact Nat.add_lt_add_left (by decide) _
    · exact Nat.add_lt_add_left (by decide) _
    · exact Nat.lt_add_of_pos_right (by decide)
    · exact Nat.add_lt_add_left (by decide) _
    · exact Nat.lt_of_lt_of_le b1 (Nat.le_add_right _ _)
    · exact Nat.lt_of_lt_of_le b2 (Nat.le_add_right _ _)
  · simp only [List.mem_cons, List.not_mem_nil, or_false] at hb
    rcases hb with q | q | q | q | q | q | q
    · exact Nat.ne_of_lt (Nat.lt_of_lt_of_le hLs (Nat.le_add_right _ _)) q
    · exact Nat.ne_of_lt (Nat.lt_of_lt_of_le hLs (Nat.le_add_right _ _)) q
    · exact Nat.ne_of_lt (Nat.lt_of_lt_of_le hLs (Nat.le_add_right _ _)) q
    · exact Nat.ne_of_lt hLs q
    · exact Nat.ne_of_lt (Nat.lt_of_lt_of_le hLs (Nat.le_add_right _ _)) q
    · exact hLa q
    · exact hLb q
  · simp only [List.mem_cons, List.not_mem_nil, or_false] at hb
    rcases hb with rfl | rfl | rfl | rfl
    · exact fresh_of F (Nat.le_add_right _ _)
    · exact fresh_of F (Nat.le_add_right _ _)
    · exact fresh_of F (Nat.le_refl _)
    · exact fresh_of F (Nat.le_add_right _ _)
  · have z : @LT.lt Nat _ p.1 s.heap.objs.size := Heap.lt_size (N p hp).1
    simp only [List.mem_cons, List.not_mem_nil, or_false] at hb
    rcases hb with q | q | q | q
    · rw [q] at z; exact Nat.not_lt.mpr (Nat.le_add_right _ _) z
    · rw [q] at z; exact Nat.not_lt.mpr (Nat.le_add_right _ _) z
    · rw [q] at z; exact Nat.lt_irrefl _ z
    · rw [q] at z; exact Nat.not_lt.mpr (Nat.le_add_right _ _) z
theorem csrc_enum {l : Addr} {xs : Array Value} {x y : Str} {px py tp : Pos} {kk : Nat} (hh : A.handled = none) (F : Fr h₀ L s.heap m) (N : News h₀ L s.heap news) (hl : s.heap.IsList l xs) (hsz : xs.size ≤ sizeLine)
    (hx : (relabel scope env).names.lookup x = some .local) (hy : (relabel scope env).names.lookup y = some .local) (hxy : x ≠ y) (hk : scope.kind = .function)
    (T : ∀ g g' : Heap, Rest prog w A h₀ L m env elt ifs scope cells { s with heap := g } (BoundP (fun i vals => ∃ t x, xs[i]? = some x ∧ vals = #[.int i t, x]) x y) (Fin { s with heap := g' } news) xs.size 0 [] news) :
    wpAny (model prog w) A (call (.type "enumerate") [.ref l]) (CSrc prog w A h₀ L m env elt (.Tuple [.Name x px, .Name y py] kk tp) ifs scope cells (fun C => [C]) (fun C h => ∃ m, h.Ns C m) E Fin) E s := by
  have hLa : L ≠ l := by obtain ⟨o, e, _, k, hd⟩ := hl; exact ns_not_seq F e (by rw [hd]; intro _ _ q; cases q)
  have b1 : l < s.heap.objs.size := by obtain ⟨_, e, _⟩ := hl; exact Heap.lt_size e
  refine enum_rows F hl fun h' he hi hl' F' kp n1 n2 n3 _ _ => ?_
  have W := WalksT.enumerate (prog := prog) (w := w) hh _ _ _ n1 n2 n3 xs
  have hLs : @LT.lt Nat _ L s.heap.objs.size := F.ns.lt
  have hsz' : s.heap.objs.size + 1 < h'.objs.size := Heap.lt_size he
  refine wpAny_pyIter_enum he ⟨s.heap.objs.size + 1, [s.heap.objs.size + 1, s.heap.objs.size, l], [s.heap.objs.size + 1, s.heap.objs.size], xs.size, _, _, news, rfl,
    fun C hC => drw_pair (cenv := compEnvC scope (cells C) C env) W hh ?_ hx hy hxy hk (fun q => Nat.lt_irrefl _ (hC _ q)) ?_, hsz, fun b hb => ?_, fun hb => ?_, fun b hb => ?_, ⟨⟨_, he⟩, hi, hl'⟩,
    F', N.grown kp, fun p hp hb => ?_, fun g => T g _⟩
  · rintro i h ⟨⟨old, z1⟩, ⟨o4, z4, _⟩, _⟩ b hb
    simp only [List.mem_cons, List.not_mem_nil, or_false] at hb
    rcases hb with rfl | rfl
    · exact ⟨_, z1⟩
    · exact ⟨_, z4⟩
  · rintro i vals ⟨t, v, _, e⟩; exact ⟨_, v, e⟩
  · show b < h'.objs.size
    simp only [List.mem_cons, List.not_mem_nil, or_false] at hb
    rcases hb with rfl | rfl | rfl
    · exact hsz'
    · exact Nat.lt_of_succ_lt hsz'
    · exact Nat.lt_trans b1 (Nat.lt_of_succ_lt hsz')
  · simp only [List.mem_cons, List.not_mem_nil, or_false] at hb
    rcases hb with q | q | q
    · exact Nat.ne_of_lt (Nat.lt_of_lt_of_le hLs (Nat.le_add_right _ _)) q
    · exact Nat.ne_of_lt hLs q
    · exact hLa q
  · simp only [List.mem_cons, List.not_mem_nil, or_false] at hb
    rcases hb with rfl | rfl
    · exact fresh_of F (Nat.le_add_right _ _)
    · exact fresh_of F (Nat.le_refl _)
  · have z : @LT.lt Nat _ p.1 s.heap.objs.size := Heap.lt_size (N p hp).1
    simp only [List.mem_cons, List.not_mem_nil, or_false] at hb
    rcases hb with q | q
    · rw [q] at z; exact Nat.not_lt.mpr (Nat.le_add_right _ _) z
    · rw [q] at z; exact Nat.lt_irrefl _ z
theorem live_list {I ax : Addr} {its : Array Value} : ∀ i (h : Heap), (h.IsListIter I ax i ∧ h.IsList ax its) → ∀ b ∈ [I], ∃ o, h.get? b = some o := by
  rintro i h ⟨⟨o, e, _⟩, _⟩ b hb; rw [List.mem_singleton.mp hb]; exact ⟨o, e⟩
theorem live_tuple {I ax : Addr} {its : Array Value} : ∀ i (h : Heap), (h.IsTupleIter I ax i ∧ h.IsTuple ax its) → ∀ b ∈ [I], ∃ o, h.get? b = some o := by
  rintro i h ⟨⟨o, e, _⟩, _⟩ b hb; rw [List.mem_singleton.mp hb]; exact ⟨o, e⟩
theorem live_range {I : Addr} {a : Int} {n : Nat} : ∀ i (h : Heap), IsRangeIter h I (a + (i : Nat) * 1) ((n : Int) - (i : Nat)) 1 → ∀ b ∈ [I], ∃ o, h.get? b = some o := by
  intro i h e b hb; rw [List.mem_singleton.mp hb]; exact ⟨_, e⟩
/-! the six ways in: the block's names a Name (local or cell) over a list, a tuple, a range -/
theorem csrc_listN (hh : A.handled = none) (F : Fr h₀ L s.heap m) (N : News h₀ L s.heap news) (hl : s.heap.IsList ax its) (hsz : its.size ≤ sizeLine) (hx : (relabel scope env).names.lookup x = some .local) (hk : scope.kind = .function)
    (T : ∀ g g' : Heap, Rest prog w A h₀ L m env elt ifs scope cells { s with heap := g } (BoundN (fun i v => its[i]? = some v) x) (Fin { s with heap := g' } news) its.size 0 [] news) :
    CSrc prog w A h₀ L m env elt (.Name x px) ifs scope cells (fun C => [C]) (fun C h => ∃ m, h.Ns C m) E Fin (.ref ax) s :=
  csrc_list hh F N hl hsz (fun I hI => csrc_walks_name (Walks.list hh I ax hI its) live_list hx hk) T
theorem csrc_listX (hh : A.handled = none) (F : Fr h₀ L s.heap m) (N : News h₀ L s.heap news) (hl : s.heap.IsList ax its) (hsz : its.size ≤ sizeLine) (hx : (relabel scope env).names.lookup x = some .cell) (hk : scope.kind = .function) (hc : ∀ C, (cells C).lookup x = some (C + 1))
    (T : ∀ g g' : Heap, Rest prog w A h₀ L m env elt ifs scope cells { s with heap := g } (BoundX (fun i v => its[i]? = some v)) (Fin { s with heap := g' } news) its.size 0 [] news) :
    CSrc prog w A h₀ L m env elt (.Name x px) ifs scope cells (fun C => [C + 1, C]) (fun C h => (∃ m, h.Ns C m) ∧ ∃ v, h.IsCell (C + 1) v) E Fin (.ref ax) s :=
  csrc_list hh F N hl hsz (fun I hI => csrc_walks_cell (Walks.list hh I ax hI its) live_list hx hk hc) T
theorem csrc_tupleN (hh : A.handled = none) (F : Fr h₀ L s.heap m) (N : News h₀ L s.heap news) (hl : s.heap.IsTuple ax its) (hsz : its.size ≤ sizeLine) (hx : (relabel scope env).names.lookup x = some .local) (hk : scope.kind = .function)
    (T : ∀ g g' : Heap, Rest prog w A h₀ L m env elt ifs scope cells { s with heap := g } (BoundN (fun i v => its[i]? = some v) x) (Fin { s with heap := g' } news) its.size 0 [] news) :
    CSrc prog w A h₀ L m env elt (.Name x px) ifs scope cells (fun C => [C]) (fun C h => ∃ m, h.Ns C m) E Fin (.ref ax) s :=
  csrc_tuple hh F N hl hsz (fun I hI => csrc_walks_name (Walks.tuple hh I ax hI its) live_tuple hx hk) T
theorem csrc_rangeN {r : Addr} {a b : Int} {t u v : Tok} {n : Nat} (hh : A.handled = none) (F : Fr h₀ L s.heap m) (N : News h₀ L s.heap news) (hr : IsRange s.heap r a b 1 t u v) (hsm : Builtin.Range.small a b 1 = true) (hn : Builtin.Range.rangeSize a b 1 = ((n : Nat) : Int)) (hsz : n ≤ sizeLine) (hx : (relabel scope env).names.lookup x = some .local) (hk : scope.kind = .function)
    (T : ∀ g g' : Heap, Rest prog w A h₀ L m env elt ifs scope cells { s with heap := g } (BoundN (fun i v => ∃ t, v = .int (a + (i : Int)) t) x) (Fin { s with heap := g' } news) n 0 [] news) :
    CSrc prog w A h₀ L m env elt (.Name x px) ifs scope cells (fun C => [C]) (fun C h => ∃ m, h.Ns C m) E Fin (.ref r) s :=
  csrc_range hh F N hr hsm hn hsz (fun _ => csrc_walks_name (LCg.range_walks hh a n) live_range hx hk) T
theorem csrc_rangeX {r : Addr} {a b : Int} {t u v : Tok} {n : Nat} (hh : A.handled = none) (F : Fr h₀ L s.heap m) (N : News h₀ L s.heap news) (hr : IsRange s.heap r a b 1 t u v) (hsm : Builtin.Range.small a b 1 = true) (hn : Builtin.Range.rangeSize a b 1 = ((n : Nat) : Int)) (hsz : n ≤ sizeLine) (hx : (relabel scope env).names.lookup x = some .cell) (hk : scope.kind = .function) (hc : ∀ C, (cells C).lookup x = some (C + 1))
    (T : ∀ g g' : Heap, Rest prog w A h₀ L m env elt ifs scope cells { s with heap := g } (BoundX (fun i v => ∃ t, v = .int (a + (i : Int)) t)) (Fin { s with heap := g' } news) n 0 [] news) :
    CSrc prog w A h₀ L m env elt (.Name x px) ifs scope cells (fun C => [C + 1, C]) (fun C h => (∃ m, h.Ns C m) ∧ ∃ v, h.IsCell (C + 1) v) E Fin (.ref r) s :=
  csrc_range hh F N hr hsm hn hsz (fun _ => csrc_walks_cell (LCg.range_walks hh a n) live_range hx hk hc) T
theorem own_name (scope : Scope) (hp : ∀ h, pushCells h scope.names = h) : ∀ h : Heap, ∃ m, (pushCells (h.push { cls := .type "dict", data := .dict #[] }) scope.names).Ns h.objs.size m := fun h => by
  rw [hp]; exact ⟨_, Heap.Ns.new h (.type "dict")⟩
theorem own_cell (scope : Scope) (hp : ∀ h, pushCells h scope.names = h.push { cls := .type "cell", data := .cell none }) : ∀ h : Heap, (∃ m, (pushCells (h.push { cls := .type "dict", data := .dict #[] }) scope.names).Ns h.objs.size m) ∧ ∃ v, (pushCells (h.push { cls := .type "dict", data := .dict #[] }) scope.names).IsCell (h.objs.size + 1) v := fun h => by
  rw [hp]
  refine ⟨⟨_, (Heap.Ns.new h (.type "dict")).keeps fun b o e => Heap.get?_push_of_some _ e⟩, none, { cls := .type "cell", data := .cell none }, ?_, rfl⟩
  have e : (h.push { cls := .type "dict", data := .dict #[] }).objs.size = h.objs.size + 1 := Heap.size_push ..
  rw [← e]; exact Heap.get?_push_size _ rfl
theorem comp_exprN {Q : Value → Shared → Prop} (F₀ : Fr h₀ L s.heap m) (hclos : closureFor scope env = pure cl) (hkind : scope.kind = .function) (hnames : ∀ y ∈ scope.names, y.2 = .local → scope.names.lookup y.1 = some .local)
    (hcl : ∀ C, cellsFrom (C + 1) scope.names cl = cl) (hp : ∀ h, pushCells h scope.names = h)
    (h : wpAny (model prog w) A (eval iter env) (CSrc prog w A h₀ L m env elt target ifs scope (fun _ => cl) (fun C => [C]) (fun C h => ∃ m, h.Ns C m) E (fun s₂ nw₀ => CFinE h₀ L m s₂ Q nw₀)) E s)
    (hs : ∀ x, foldedSetIterable iter env x = pure x := by intro _; rfl) :
    wpAny (model prog w) A (eval (.ListComp elt [⟨target, iter, ifs, 0⟩] scope pos) env) Q E s :=
  comp_expr (Own := fun C h => ∃ m, h.Ns C m) F₀ hclos hkind hnames hcl (own_name scope hp) (fun _ _ x => x) (fun C b hb => by rw [List.mem_singleton.mp hb]; exact Nat.le_refl _) (fun C => List.mem_cons_self) h hs
theorem comp_exprX {Q : Value → Shared → Prop} {x : Str} (F₀ : Fr h₀ L s.heap m) (hclos : closureFor scope env = pure cl) (hkind : scope.kind = .function) (hnames : ∀ y ∈ scope.names, y.2 = .local → scope.names.lookup y.1 = some .local)
    (hcl : ∀ C, cellsFrom (C + 1) scope.names cl = (x, C + 1) :: cl) (hp : ∀ h, pushCells h scope.names = h.push { cls := .type "cell", data := .cell none })
    (h : wpAny (model prog w) A (eval iter env) (CSrc prog w A h₀ L m env elt target ifs scope (fun C => (x, C + 1) :: cl) (fun C => [C + 1, C]) (fun C h => (∃ m, h.Ns C m) ∧ ∃ v, h.IsCell (C + 1) v) E (fun s₂ nw₀ => CFinE h₀ L m s₂ Q nw₀)) E s)
    (hs : ∀ x, foldedSetIterable iter env x = pure x := by intro _; rfl) :
    wpAny (model prog w) A (eval (.ListComp elt [⟨target, iter, ifs, 0⟩] scope pos) env) Q E s :=
  comp_expr (Own := fun C h => (∃ m, h.Ns C m) ∧ ∃ v, h.IsCell (C + 1) v) F₀ hclos hkind hnames hcl (own_cell scope hp) (fun _ _ x => x.1) (fun C b hb => by
    rcases List.mem_cons.mp hb with rfl | hb
    · exact Nat.le_succ _
    · rw [List.mem_singleton.mp hb]; exact Nat.le_refl _) (fun C => List.mem_cons_of_mem _ List.mem_cons_self) h hs
theorem comp_assignN {y : Str} {py spos : Pos} {Q : Flow → Shared → Prop} (F₀ : Fr h₀ L s.heap m) (hLe : env.locals = L) (hsw : swapsWith (.ListComp elt [⟨target, iter, ifs, 0⟩] scope pos) (some (.Name y py)) spos.line env = pure true)
    (hclos : closureFor scope env = pure cl) (hkind : scope.kind = .function) (hnames : ∀ y ∈ scope.names, y.2 = .local → scope.names.lookup y.1 = some .local)
    (hcl : ∀ C, cellsFrom (C + 1) scope.names cl = cl) (hp : ∀ h, pushCells h scope.names = h)
    (hy : env.kindOf y = some .local) (hp' : (env.scope.kind == .class || (env.scope.kind == .module && env.locals != env.globals)) = false)
    (h : wpAny (model prog w) A (eval iter env) (CSrc prog w A h₀ L m env elt target ifs scope (fun _ => cl) (fun C => [C]) (fun C h => ∃ m, h.Ns C m) E (fun s₂ nw₀ => CFinA h₀ L m s₂ y Q nw₀)) E s)
    (hs : ∀ x, foldedSetIterable iter env x = pure x := by intro _; rfl) :
    wpAny (model prog w) A (exec (.Assign [.Name y py] (.ListComp elt [⟨target, iter, ifs, 0⟩] scope pos) spos) env) Q E s :=
  comp_assign (Own := fun C h => ∃ m, h.Ns C m) F₀ hLe hsw hclos hkind hnames hcl (own_name scope hp) (fun _ _ x => x) (fun C b hb => by rw [List.mem_singleton.mp hb]; exact Nat.le_refl _) (fun C => List.mem_cons_self) hy hp' h hs
end
/-! the turns -/
section
variable {cells : Addr → List (Str × Addr)} {Bound : Addr → Nat → List (Addr × Obj) → Prop} {Fin : List Value → List (Addr × Obj) → Prop} {k i : Nat} {ys : List Value} {nw : List (Addr × Obj)}
theorem Rest.zero (h : Fin ys nw) : Rest prog w A h₀ L m env elt ifs scope cells s Bound Fin 0 i ys nw := h
theorem Rest.succ0 (h : ∀ (C D : Addr) (own fpo : List (Addr × Obj)) (h : Heap) (tk : Nat) (E' : Value → Shared → Prop), Bound C i own → Fr h₀ L h m → News h₀ L h (own ++ (D, LCg.lst ys) :: (nw ++ fpo)) → @LT.lt Nat _ D C →
      wpAny (model prog w) A (eval elt (compEnvC scope (cells C) C env)) (fun y s₄ => TurnEnd h₀ L m s (own ++ (D, LCg.lst ys) :: (nw ++ fpo)) (fun tl => Rest prog w A h₀ L m env elt [] scope cells s Bound Fin k (i + 1) (snoc ys y) (tl ++ nw)) s₄) E' { s with heap := h, toks := tk }) :
    Rest prog w A h₀ L m env elt [] scope cells s Bound Fin (k + 1) i ys nw :=
  fun C D own fpo h' tk E' hB F N lt => wpAny_tests_nil (by simp only [if_true]; exact h C D own fpo h' tk E' hB F N lt)
theorem Rest.succ1 {c : Expr} (h : ∀ (C D : Addr) (own fpo : List (Addr × Obj)) (h : Heap) (tk : Nat) (E' : Value → Shared → Prop), Bound C i own → Fr h₀ L h m → News h₀ L h (own ++ (D, LCg.lst ys) :: (nw ++ fpo)) → @LT.lt Nat _ D C →
      wpAny (model prog w) A (isTrue c (compEnvC scope (cells C) C env) (eval c (compEnvC scope (cells C) C env))) (fun ok s₃ =>
        if ok = true then wpAny (model prog w) A (eval elt (compEnvC scope (cells C) C env)) (fun y s₄ => TurnEnd h₀ L m s (own ++ (D, LCg.lst ys) :: (nw ++ fpo)) (fun tl => Rest prog w A h₀ L m env elt [c] scope cells s Bound Fin k (i + 1) (snoc ys y) (tl ++ nw)) s₄) E' s₃
        else TurnEnd h₀ L m s (own ++ (D, LCg.lst ys) :: (nw ++ fpo)) (fun tl => Rest prog w A h₀ L m env elt [c] scope cells s Bound Fin k (i + 1) ys (tl ++ nw)) s₃) E' { s with heap := h, toks := tk }) :
    Rest prog w A h₀ L m env elt [c] scope cells s Bound Fin (k + 1) i ys nw :=
  fun C D own fpo h' tk E' hB F N lt => wpAny_tests_one (h C D own fpo h' tk E' hB F N lt)
theorem TurnEnd.mk0 {led : List (Addr × Obj)} {rest : List (Addr × Obj) → Prop} {h' : Heap} {tk : Nat} (F : Fr h₀ L h' m) (N : News h₀ L h' led) (r : rest []) : TurnEnd h₀ L m s led rest { s with heap := h', toks := tk } := ⟨h', tk, [], rfl, F, N, trivial, r⟩
theorem TurnEnd.mk1 {led : List (Addr × Obj)} {rest : List (Addr × Obj) → Prop} {h' : Heap} {tk : Nat} {a : Addr × Obj} (F : Fr h₀ L h' m) (N : News h₀ L h' (a :: led)) (l : AllLt a.1 led) (r : rest [a]) : TurnEnd h₀ L m s led rest { s with heap := h', toks := tk } := ⟨h', tk, [a], rfl, F, N, ⟨l, trivial⟩, r⟩
theorem news_tail {h' : Heap} {a : Addr × Obj} {r : List (Addr × Obj)} (N : News h₀ L h' (a :: r)) : News h₀ L h' r := fun p hp => N p (List.mem_cons_of_mem _ hp)
theorem news_snd {h' : Heap} {a b : Addr × Obj} {r : List (Addr × Obj)} (N : News h₀ L h' (a :: b :: r)) : News h₀ L h' (a :: r) := fun p hp => N p (by
  rcases List.mem_cons.mp hp with rfl | hp
  · exact List.mem_cons_self
  · exact List.mem_cons_of_mem _ (List.mem_cons_of_mem _ hp))
theorem pair_inj {a b c d : Value} (h : (#[a, b] : Array Value) = #[c, d]) : a = c ∧ b = d := by simpa using h
end
end
end Mine
end
section
open PySem PySem.W PySem.Calls PyProof.Rows
set_option Elab.async false
set_option maxRecDepth 100000
set_option maxHeartbeats 2000000
namespace Mine
/-- a rest that the walk does not look into -/
noncomputable def Hid (K : Value → Shared → Prop) (y : Value) (s : Shared) : Prop := K y s
/-- a ledger: what the turns made, what stood, what the source holds -/
noncomputable def Led (tl nb fpo : List (Addr × Obj)) : List (Addr × Obj) := (tl ++ nb) ++ fpo
theorem mem_led {tl nb fpo : List (Addr × Obj)} {p : Addr × Obj} (h : p ∈ nb) : p ∈ Led tl nb fpo := List.mem_append_left _ (List.mem_append_right _ h)
theorem mem_led_sub {tl nb fpo l : List (Addr × Obj)} {p : Addr × Obj} (hs : ∀ q, q ∈ l → q ∈ nb) (h : p ∈ l) : p ∈ Led tl nb fpo := mem_led (hs p h)
/-- each of the ledger is one of nb, as premises in a row -/
noncomputable def AllInC (nb : List (Addr × Obj)) : List (Addr × Obj) → Prop → Prop
  | [], G => G
  | p :: r, G => p ∈ nb → AllInC nb r G
theorem AllInC.of {nb : List (Addr × Obj)} {G : Prop} : ∀ {l : List (Addr × Obj)}, ((∀ p, p ∈ l → p ∈ nb) → G) → AllInC nb l G
  | [], h => h fun _ q => nomatch q
  | a :: r, h => fun ha => AllInC.of (l := r) fun hr => h fun p hp => by
    rcases List.mem_cons.mp hp with rfl | hp
    · exact ha
    · exact hr p hp
theorem AllInC.out {nb : List (Addr × Obj)} {G : Prop} : ∀ {l : List (Addr × Obj)}, AllInC nb l G → (∀ p, p ∈ l → p ∈ nb) → G
  | [], h, _ => h
  | a :: _, h, H => AllInC.out (h (H a List.mem_cons_self)) fun p hp => H p (List.mem_cons_of_mem _ hp)
theorem AllInC.skip {nb : List (Addr × Obj)} {G : Prop} {l : List (Addr × Obj)} (h : G) : AllInC nb l G := AllInC.of fun _ => h
theorem AllInC.both {nb : List (Addr × Obj)} {G : Prop} {l : List (Addr × Obj)} (h : (∀ p, p ∈ l → p ∈ nb) → AllInC nb l G) : AllInC nb l G := AllInC.of fun hs => AllInC.out (h hs) hs
theorem allLt_mk {d : Nat} : ∀ {l : List (Addr × Obj)}, (∀ p ∈ l, @LT.lt Nat _ p.1 d) → AllLt d l
  | [], _ => True.intro
  | a :: r, h => ⟨h a List.mem_cons_self, allLt_mk fun p hp => h p (List.mem_cons_of_mem _ hp)⟩
theorem allLt_led {d : Nat} {c1 c2 : Addr × Obj} {tl nb fpo news : List (Addr × Obj)} (h : AllLt d (c1 :: c2 :: Led tl nb fpo)) (hs : ∀ q, q ∈ news → q ∈ nb) : AllLt d news :=
  allLt_mk fun p hp => allLt_all h.2.2 p (mem_led (hs p hp))
theorem allLt_led3 {d : Nat} {c1 c2 c3 : Addr × Obj} {tl nb fpo news : List (Addr × Obj)} (h : AllLt d (c1 :: c2 :: c3 :: Led tl nb fpo)) (hs : ∀ q, q ∈ news → q ∈ nb) : AllLt d news :=
  allLt_mk fun p hp => allLt_all h.2.2.2 p (mem_led (hs p hp))
section
variable {prog : Program} {w : World} {A : Around} {E : Value → Shared → Prop} {s : Shared} {h₀ : Heap} {L : Addr} {m : Str → Option Value} {env : Env} {elt target iter : Expr} {ifs : List Expr} {scope : Scope} {cl : List (Str × Addr)} {cells : Addr → List (Str × Addr)} {pos : Pos} {ownA : Addr → List Addr} {Own : Addr → Heap → Prop}
/-- the turns that are left, the ledger in two parts -/
noncomputable def RestL (prog : Program) (w : World) (A : Around) (h₀ : Heap) (L : Addr) (m : Str → Option Value) (env : Env) (elt : Expr) (ifs : List Expr) (scope : Scope) (cells : Addr → List (Str × Addr)) (s : Shared)
    (Bound : Addr → Nat → List (Addr × Obj) → Prop) (Fin : List Value → List (Addr × Obj) → Prop) (k i : Nat) (ys : List Value) (tl nb : List (Addr × Obj)) : Prop :=
  Rest prog w A h₀ L m env elt ifs scope cells s Bound Fin k i ys (tl ++ nb)
section
variable {Bound : Addr → Nat → List (Addr × Obj) → Prop} {Fin' : List Value → List (Addr × Obj) → Prop} {k i : Nat} {ys : List Value} {tl nb news : List (Addr × Obj)} {led : List (Addr × Obj)}
theorem turnEnd_back {s₄ : Shared} {zs : List Value} (x : TurnEnd h₀ L m s led (fun t => RestL prog w A h₀ L m env elt ifs scope cells s Bound Fin' k i zs (t ++ tl) nb) s₄) :
    TurnEnd h₀ L m s led (fun t => Rest prog w A h₀ L m env elt ifs scope cells s Bound Fin' k i zs (t ++ (tl ++ nb))) s₄ := by
  obtain ⟨h', tk, t, e, F, N, ab, r⟩ := x
  refine ⟨h', tk, t, e, F, N, ab, ?_⟩
  unfold RestL at r
  rw [List.append_assoc] at r
  exact r
theorem RestL.zero {F1 : Shared → List (Addr × Obj) → List Value → List (Addr × Obj) → Prop} {FE : Shared → List (Addr × Obj) → List Value → List (Addr × Obj) → Prop} {s₂ : Shared}
    (h2 : ∀ ys tl, F1 s₂ news ys (tl ++ news) → Fin' ys (tl ++ nb)) (h1 : ∀ s nw₀ ys nw, FE s nw₀ ys nw → F1 s nw₀ ys nw) (h : FE s₂ news ys (tl ++ news)) :
    RestL prog w A h₀ L m env elt ifs scope cells s Bound Fin' 0 i ys tl nb := h2 _ _ (h1 _ _ _ _ h)
theorem hid_fact {K : Value → Shared → Prop} {R : Nat} {c1 c2 : Addr × Obj} {fpo led : List (Addr × Obj)} {s' : Shared} (h : AllLt R (c1 :: c2 :: Led tl nb fpo)) (hs : ∀ q, q ∈ led → q ∈ nb) (k : AllLt R led → Hid K (.ref R) s') : Hid K (.ref R) s' := k (allLt_led h hs)
theorem hid_fact3 {K : Value → Shared → Prop} {R : Nat} {c1 c2 c3 : Addr × Obj} {fpo led : List (Addr × Obj)} {s' : Shared} (h : AllLt R (c1 :: c2 :: c3 :: Led tl nb fpo)) (hs : ∀ q, q ∈ led → q ∈ nb) (k : AllLt R led → Hid K (.ref R) s') : Hid K (.ref R) s' := k (allLt_led3 h hs)
theorem turn0 {K : Value → Shared → Prop} {y : Value} {s' : Shared} {h' : Heap} {tk : Nat}
    (hK : ∀ y s₄, TurnEnd h₀ L m s led (fun t => RestL prog w A h₀ L m env elt ifs scope cells s Bound Fin' k i (snoc ys y) (t ++ tl) nb) s₄ → K y s₄)
    (e : s' = { s with heap := h', toks := tk }) (F : Fr h₀ L h' m) (N : News h₀ L h' led) (r : RestL prog w A h₀ L m env elt ifs scope cells s Bound Fin' k i (snoc ys y) tl nb) : Hid K y s' :=
  e ▸ hK _ _ (TurnEnd.mk0 F N r)
theorem turn1 {K : Value → Shared → Prop} {y : Value} {s' : Shared} {h' : Heap} {tk : Nat} {a : Addr × Obj}
    (hK : ∀ y s₄, TurnEnd h₀ L m s led (fun t => RestL prog w A h₀ L m env elt ifs scope cells s Bound Fin' k i (snoc ys y) (t ++ tl) nb) s₄ → K y s₄)
    (e : s' = { s with heap := h', toks := tk }) (F : Fr h₀ L h' m) (N : News h₀ L h' (a :: led)) (l : AllLt a.1 led) (r : RestL prog w A h₀ L m env elt ifs scope cells s Bound Fin' k i (snoc ys y) (a :: tl) nb) : Hid K y s' :=
  e ▸ hK _ _ (TurnEnd.mk1 F N l r)
theorem turnF {K : Value → Shared → Prop} {s' : Shared} {h' : Heap} {tk : Nat}
    (hK : ∀ (y : Value) s₄, TurnEnd h₀ L m s led (fun t => RestL prog w A h₀ L m env elt ifs scope cells s Bound Fin' k i ys (t ++ tl) nb) s₄ → K y s₄)
    (e : s' = { s with heap := h', toks := tk }) (F : Fr h₀ L h' m) (N : News h₀ L h' led) (r : RestL prog w A h₀ L m env elt ifs scope cells s Bound Fin' k i ys tl nb) : Hid K Value.none s' :=
  e ▸ hK _ _ (TurnEnd.mk0 F N r)
theorem RestL.l0 {its : Array Value} {x : Str} {v : Value} (e : its.toList[i]? = some v) (T : ∀ (C D : Addr) (fpo : List (Addr × Obj)) (h : Heap) (tk : Nat) (E' K : Value → Shared → Prop) (oC : Obj) (m' : Str → Option Value), (∀ (y : Value) s₄, TurnEnd h₀ L m s ((C, oC) :: (D, LCg.lst ys) :: Led tl nb fpo) (fun t => RestL prog w A h₀ L m env elt [] scope cells s (BoundN (fun i v => its[i]? = some v) x) Fin' k (i + 1) (snoc ys y) (t ++ tl) nb) s₄ → K y s₄) → LCg.NsObj oC m' → m' x = some v → Fr h₀ L h m → News h₀ L h ((C, oC) :: (D, LCg.lst ys) :: Led tl nb fpo) → @LT.lt Nat _ D C →
      wpAny (model prog w) A (eval elt (compEnvC scope (cells C) C env)) (Hid K) E' { s with heap := h, toks := tk }) :
    RestL prog w A h₀ L m env elt [] scope cells s (BoundN (fun i v => its[i]? = some v) x) Fin' (k + 1) i ys tl nb := by
  refine Rest.succ0 fun C D own fpo h tk E' hB F N lt => ?_
  obtain ⟨oC, m', v', rfl, hn, hx, hP⟩ := hB
  obtain rfl : v = v' := Option.some.inj (e.symm.trans (Array.getElem?_toList.trans hP))
  exact wpAny_mono (T C D fpo h tk E' (fun y s₄ => TurnEnd h₀ L m s _ (fun t => RestL prog w A h₀ L m env elt [] scope cells s (BoundN (fun i v => its[i]? = some v) x) Fin' k (i + 1) (snoc ys y) (t ++ tl) nb) s₄) oC m' (fun _ _ x => x) hn hx F N lt) (fun _ _ x => turnEnd_back x) fun _ _ e => e
theorem RestL.lx0 {its : Array Value} {v : Value} (e : its.toList[i]? = some v) (T : ∀ (C D : Addr) (fpo : List (Addr × Obj)) (h : Heap) (tk : Nat) (E' K : Value → Shared → Prop) (oX oC : Obj) (m' : Str → Option Value), (∀ (y : Value) s₄, TurnEnd h₀ L m s ((C + 1, oX) :: (C, oC) :: (D, LCg.lst ys) :: Led tl nb fpo) (fun t => RestL prog w A h₀ L m env elt [] scope cells s (BoundX (fun i v => its[i]? = some v)) Fin' k (i + 1) (snoc ys y) (t ++ tl) nb) s₄ → K y s₄) → LCg.NsObj oC m' → oX.data = .cell (some v) → Fr h₀ L h m → News h₀ L h ((C + 1, oX) :: (C, oC) :: (D, LCg.lst ys) :: Led tl nb fpo) → @LT.lt Nat _ D C →
      wpAny (model prog w) A (eval elt (compEnvC scope (cells C) C env)) (Hid K) E' { s with heap := h, toks := tk }) :
    RestL prog w A h₀ L m env elt [] scope cells s (BoundX (fun i v => its[i]? = some v)) Fin' (k + 1) i ys tl nb := by
  refine Rest.succ0 fun C D own fpo h tk E' hB F N lt => ?_
  obtain ⟨oX, oC, m', v', rfl, hn, hx, hP⟩ := hB
  obtain rfl : v = v' := Option.some.inj (e.symm.trans (Array.getElem?_toList.trans hP))
  exact wpAny_mono (T C D fpo h tk E' (fun y s₄ => TurnEnd h₀ L m s _ (fun t => RestL prog w A h₀ L m env elt [] scope cells s (BoundX (fun i v => its[i]? = some v)) Fin' k (i + 1) (snoc ys y) (t ++ tl) nb) s₄) oX oC m' (fun _ _ x => x) hn hx F N lt) (fun _ _ x => turnEnd_back x) fun _ _ e => e
theorem RestL.r0 {a : Int} {x : Str} (T : ∀ (C D : Addr) (fpo : List (Addr × Obj)) (h : Heap) (tk : Nat) (E' K : Value → Shared → Prop) (oC : Obj) (m' : Str → Option Value) (t9 : Tok), (∀ (y : Value) s₄, TurnEnd h₀ L m s ((C, oC) :: (D, LCg.lst ys) :: Led tl nb fpo) (fun t => RestL prog w A h₀ L m env elt [] scope cells s (BoundN (fun i v => ∃ t, v = .int (a + (i : Int)) t) x) Fin' k (i + 1) (snoc ys y) (t ++ tl) nb) s₄ → K y s₄) → LCg.NsObj oC m' → m' x = some (.int (a + (i : Int)) t9) → Fr h₀ L h m → News h₀ L h ((C, oC) :: (D, LCg.lst ys) :: Led tl nb fpo) → @LT.lt Nat _ D C →
      wpAny (model prog w) A (eval elt (compEnvC scope (cells C) C env)) (Hid K) E' { s with heap := h, toks := tk }) :
    RestL prog w A h₀ L m env elt [] scope cells s (BoundN (fun i v => ∃ t, v = .int (a + (i : Int)) t) x) Fin' (k + 1) i ys tl nb := by
  refine Rest.succ0 fun C D own fpo h tk E' hB F N lt => ?_
  obtain ⟨oC, m', v', rfl, hn, hx, t9, rfl⟩ := hB
  exact wpAny_mono (T C D fpo h tk E' (fun y s₄ => TurnEnd h₀ L m s _ (fun t => RestL prog w A h₀ L m env elt [] scope cells s (BoundN (fun i v => ∃ t, v = .int (a + (i : Int)) t) x) Fin' k (i + 1) (snoc ys y) (t ++ tl) nb) s₄) oC m' t9 (fun _ _ x => x) hn hx F N lt) (fun _ _ x => turnEnd_back x) fun _ _ e => e
theorem RestL.rx0 {a : Int} (T : ∀ (C D : Addr) (fpo : List (Addr × Obj)) (h : Heap) (tk : Nat) (E' K : Value → Shared → Prop) (oX oC : Obj) (m' : Str → Option Value) (t9 : Tok), (∀ (y : Value) s₄, TurnEnd h₀ L m s ((C + 1, oX) :: (C, oC) :: (D, LCg.lst ys) :: Led tl nb fpo) (fun t => RestL prog w A h₀ L m env elt [] scope cells s (BoundX (fun i v => ∃ t, v = .int (a + (i : Int)) t)) Fin' k (i + 1) (snoc ys y) (t ++ tl) nb) s₄ → K y s₄) → LCg.NsObj oC m' → oX.data = .cell (some (.int (a + (i : Int)) t9)) → Fr h₀ L h m → News h₀ L h ((C + 1, oX) :: (C, oC) :: (D, LCg.lst ys) :: Led tl nb fpo) → @LT.lt Nat _ D C →
      wpAny (model prog w) A (eval elt (compEnvC scope (cells C) C env)) (Hid K) E' { s with heap := h, toks := tk }) :
    RestL prog w A h₀ L m env elt [] scope cells s (BoundX (fun i v => ∃ t, v = .int (a + (i : Int)) t)) Fin' (k + 1) i ys tl nb := by
  refine Rest.succ0 fun C D own fpo h tk E' hB F N lt => ?_
  obtain ⟨oX, oC, m', v', rfl, hn, hx, t9, rfl⟩ := hB
  exact wpAny_mono (T C D fpo h tk E' (fun y s₄ => TurnEnd h₀ L m s _ (fun t => RestL prog w A h₀ L m env elt [] scope cells s (BoundX (fun i v => ∃ t, v = .int (a + (i : Int)) t)) Fin' k (i + 1) (snoc ys y) (t ++ tl) nb) s₄) oX oC m' t9 (fun _ _ x => x) hn hx F N lt) (fun _ _ x => turnEnd_back x) fun _ _ e => e
theorem RestL.z0 {xs zs : Array Value} {nx ny : Str} {u v : Value} (e : xs.toList[i]? = some u) (e' : zs.toList[i]? = some v) (T : ∀ (C D : Addr) (fpo : List (Addr × Obj)) (h : Heap) (tk : Nat) (E' K : Value → Shared → Prop) (oC : Obj) (m' : Str → Option Value), (∀ (y : Value) s₄, TurnEnd h₀ L m s ((C, oC) :: (D, LCg.lst ys) :: Led tl nb fpo) (fun t => RestL prog w A h₀ L m env elt [] scope cells s (BoundP (fun i vals => ∃ x y, xs[i]? = some x ∧ zs[i]? = some y ∧ vals = #[x, y]) nx ny) Fin' k (i + 1) (snoc ys y) (t ++ tl) nb) s₄ → K y s₄) → LCg.NsObj oC m' → m' nx = some u → m' ny = some v → Fr h₀ L h m → News h₀ L h ((C, oC) :: (D, LCg.lst ys) :: Led tl nb fpo) → @LT.lt Nat _ D C →
      wpAny (model prog w) A (eval elt (compEnvC scope (cells C) C env)) (Hid K) E' { s with heap := h, toks := tk }) :
    RestL prog w A h₀ L m env elt [] scope cells s (BoundP (fun i vals => ∃ x y, xs[i]? = some x ∧ zs[i]? = some y ∧ vals = #[x, y]) nx ny) Fin' (k + 1) i ys tl nb := by
  refine Rest.succ0 fun C D own fpo h tk E' hB F N lt => ?_
  obtain ⟨oC, m', u', v', rfl, hn, hx, hy, x8, y8, e7, e8, e9⟩ := hB
  obtain ⟨rfl, rfl⟩ := pair_inj e9
  obtain rfl : u = u' := Option.some.inj (e.symm.trans (Array.getElem?_toList.trans e7))
  obtain rfl : v = v' := Option.some.inj (e'.symm.trans (Array.getElem?_toList.trans e8))
  exact wpAny_mono (T C D fpo h tk E' (fun y s₄ => TurnEnd h₀ L m s _ (fun t => RestL prog w A h₀ L m env elt [] scope cells s (BoundP (fun i vals => ∃ x y, xs[i]? = some x ∧ zs[i]? = some y ∧ vals = #[x, y]) nx ny) Fin' k (i + 1) (snoc ys y) (t ++ tl) nb) s₄) oC m' (fun _ _ x => x) hn hx hy F N lt) (fun _ _ x => turnEnd_back x) fun _ _ e => e
theorem RestL.e1 {c : Expr} {xs : Array Value} {nx ny : Str} {v : Value} (e : xs.toList[i]? = some v) (T : ∀ (C D : Addr) (fpo : List (Addr × Obj)) (h : Heap) (tk : Nat) (E' K KF : Value → Shared → Prop) (oC : Obj) (m' : Str → Option Value) (t9 : Tok), (∀ (y : Value) s₄, TurnEnd h₀ L m s ((C, oC) :: (D, LCg.lst ys) :: Led tl nb fpo) (fun t => RestL prog w A h₀ L m env elt [c] scope cells s (BoundP (fun i vals => ∃ t x, xs[i]? = some x ∧ vals = #[.int i t, x]) nx ny) Fin' k (i + 1) (snoc ys y) (t ++ tl) nb) s₄ → K y s₄) → (∀ (y : Value) s₄, TurnEnd h₀ L m s ((C, oC) :: (D, LCg.lst ys) :: Led tl nb fpo) (fun t => RestL prog w A h₀ L m env elt [c] scope cells s (BoundP (fun i vals => ∃ t x, xs[i]? = some x ∧ vals = #[.int i t, x]) nx ny) Fin' k (i + 1) (ys) (t ++ tl) nb) s₄ → KF y s₄) → LCg.NsObj oC m' → m' nx = some (.int i t9) → m' ny = some v → Fr h₀ L h m → News h₀ L h ((C, oC) :: (D, LCg.lst ys) :: Led tl nb fpo) → @LT.lt Nat _ D C →
      wpAny (model prog w) A (isTrue c (compEnvC scope (cells C) C env) (eval c (compEnvC scope (cells C) C env))) (fun ok s₃ => if ok = true then wpAny (model prog w) A (eval elt (compEnvC scope (cells C) C env)) (Hid K) E' s₃ else Hid KF Value.none s₃) E' { s with heap := h, toks := tk }) :
    RestL prog w A h₀ L m env elt [c] scope cells s (BoundP (fun i vals => ∃ t x, xs[i]? = some x ∧ vals = #[.int i t, x]) nx ny) Fin' (k + 1) i ys tl nb := by
  refine Rest.succ1 fun C D own fpo h tk E' hB F N lt => ?_
  obtain ⟨oC, m', u', v', rfl, hn, hx, hy, t9, y8, e8, e9⟩ := hB
  obtain ⟨rfl, rfl⟩ := pair_inj e9
  obtain rfl : v = v' := Option.some.inj (e.symm.trans (Array.getElem?_toList.trans e8))
  refine wpAny_mono (T C D fpo h tk E' (fun y s₄ => TurnEnd h₀ L m s _ (fun t => RestL prog w A h₀ L m env elt [c] scope cells s (BoundP (fun i vals => ∃ t x, xs[i]? = some x ∧ vals = #[.int i t, x]) nx ny) Fin' k (i + 1) (snoc ys y) (t ++ tl) nb) s₄) (fun y s₄ => TurnEnd h₀ L m s _ (fun t => RestL prog w A h₀ L m env elt [c] scope cells s (BoundP (fun i vals => ∃ t x, xs[i]? = some x ∧ vals = #[.int i t, x]) nx ny) Fin' k (i + 1) (ys) (t ++ tl) nb) s₄) oC m' t9 (fun _ _ x => x) (fun _ _ x => x) hn hx hy F N lt) (fun ok s₃ x => ?_) fun _ _ e => e
  by_cases q : ok = true
  · rw [if_pos q] at x ⊢; exact wpAny_mono x (fun _ _ x => turnEnd_back x) fun _ _ e => e
  · rw [if_neg q] at x ⊢; exact turnEnd_back x
end
section
variable {ax : Addr} {its : Array Value} {news : List (Addr × Obj)} {Fin : Shared → List (Addr × Obj) → List Value → List (Addr × Obj) → Prop} {x y : Str} {px py tp : Pos} {kk : Nat}
theorem csrc_listNH (hh : A.handled = none) (F : Fr h₀ L s.heap m) (N : News h₀ L s.heap news) (hl : s.heap.IsList ax its) (hsz : its.size ≤ sizeLine) (hx : (relabel scope env).names.lookup x = some .local) (hk : scope.kind = .function)
    (T : ∀ (g g' : Heap) (nb : List (Addr × Obj)) (Fin' : List Value → List (Addr × Obj) → Prop), (∀ ys tl, Fin { s with heap := g' } news ys (tl ++ news) → Fin' ys (tl ++ nb)) → AllInC nb news (RestL prog w A h₀ L m env elt ifs scope cells { s with heap := g } (BoundN (fun i v => its[i]? = some v) x) Fin' its.size 0 [] [] nb)) :
    CSrc prog w A h₀ L m env elt (.Name x px) ifs scope cells (fun C => [C]) (fun C h => ∃ m, h.Ns C m) E Fin (.ref ax) s :=
  csrc_listN hh F N hl hsz hx hk fun g g' => AllInC.out (T g g' news (Fin _ news) fun _ _ x => x) fun _ x => x
theorem csrc_listXH (hh : A.handled = none) (F : Fr h₀ L s.heap m) (N : News h₀ L s.heap news) (hl : s.heap.IsList ax its) (hsz : its.size ≤ sizeLine) (hx : (relabel scope env).names.lookup x = some .cell) (hk : scope.kind = .function) (hc : ∀ C, (cells C).lookup x = some (C + 1))
    (T : ∀ (g g' : Heap) (nb : List (Addr × Obj)) (Fin' : List Value → List (Addr × Obj) → Prop), (∀ ys tl, Fin { s with heap := g' } news ys (tl ++ news) → Fin' ys (tl ++ nb)) → AllInC nb news (RestL prog w A h₀ L m env elt ifs scope cells { s with heap := g } (BoundX (fun i v => its[i]? = some v)) Fin' its.size 0 [] [] nb)) :
    CSrc prog w A h₀ L m env elt (.Name x px) ifs scope cells (fun C => [C + 1, C]) (fun C h => (∃ m, h.Ns C m) ∧ ∃ v, h.IsCell (C + 1) v) E Fin (.ref ax) s :=
  csrc_listX hh F N hl hsz hx hk hc fun g g' => AllInC.out (T g g' news (Fin _ news) fun _ _ x => x) fun _ x => x
theorem csrc_tupleNH (hh : A.handled = none) (F : Fr h₀ L s.heap m) (N : News h₀ L s.heap news) (hl : s.heap.IsTuple ax its) (hsz : its.size ≤ sizeLine) (hx : (relabel scope env).names.lookup x = some .local) (hk : scope.kind = .function)
    (T : ∀ (g g' : Heap) (nb : List (Addr × Obj)) (Fin' : List Value → List (Addr × Obj) → Prop), (∀ ys tl, Fin { s with heap := g' } news ys (tl ++ news) → Fin' ys (tl ++ nb)) → AllInC nb news (RestL prog w A h₀ L m env elt ifs scope cells { s with heap := g } (BoundN (fun i v => its[i]? = some v) x) Fin' its.size 0 [] [] nb)) :
    CSrc prog w A h₀ L m env elt (.Name x px) ifs scope cells (fun C => [C]) (fun C h => ∃ m, h.Ns C m) E Fin (.ref ax) s :=
  csrc_tupleN hh F N hl hsz hx hk fun g g' => AllInC.out (T g g' news (Fin _ news) fun _ _ x => x) fun _ x => x
theorem csrc_rangeNH {r : Addr} {a b : Int} {t u v : Tok} {n : Nat} (hh : A.handled = none) (F : Fr h₀ L s.heap m) (N : News h₀ L s.heap news) (hr : IsRange s.heap r a b 1 t u v) (hsm : Builtin.Range.small a b 1 = true) (hn : Builtin.Range.rangeSize a b 1 = ((n : Nat) : Int)) (hsz : n ≤ sizeLine) (hx : (relabel scope env).names.lookup x = some .local) (hk : scope.kind = .function)
    (T : ∀ (g g' : Heap) (nb : List (Addr × Obj)) (Fin' : List Value → List (Addr × Obj) → Prop), (∀ ys tl, Fin { s with heap := g' } news ys (tl ++ news) → Fin' ys (tl ++ nb)) → AllInC nb news (RestL prog w A h₀ L m env elt ifs scope cells { s with heap := g } (BoundN (fun i v => ∃ t, v = .int (a + (i : Int)) t) x) Fin' n 0 [] [] nb)) :
    CSrc prog w A h₀ L m env elt (.Name x px) ifs scope cells (fun C => [C]) (fun C h => ∃ m, h.Ns C m) E Fin (.ref r) s :=
  csrc_rangeN hh F N hr hsm hn hsz hx hk fun g g' => AllInC.out (T g g' news (Fin _ news) fun _ _ x => x) fun _ x => x
theorem csrc_rangeXH {r : Addr} {a b : Int} {t u v : Tok} {n : Nat} (hh : A.handled = none) (F : Fr h₀ L s.heap m) (N : News h₀ L s.heap news) (hr : IsRange s.heap r a b 1 t u v) (hsm : Builtin.Range.small a b 1 = true) (hn : Builtin.Range.rangeSize a b 1 = ((n : Nat) : Int)) (hsz : n ≤ sizeLine) (hx : (relabel scope env).names.lookup x = some .cell) (hk : scope.kind = .function) (hc : ∀ C, (cells C).lookup x = some (C + 1))
    (T : ∀ (g g' : Heap) (nb : List (Addr × Obj)) (Fin' : List Value → List (Addr × Obj) → Prop), (∀ ys tl, Fin { s with heap := g' } news ys (tl ++ news) → Fin' ys (tl ++ nb)) → AllInC nb news (RestL prog w A h₀ L m env elt ifs scope cells { s with heap := g } (BoundX (fun i v => ∃ t, v = .int (a + (i : Int)) t)) Fin' n 0 [] [] nb)) :
    CSrc prog w A h₀ L m env elt (.Name x px) ifs scope cells (fun C => [C + 1, C]) (fun C h => (∃ m, h.Ns C m) ∧ ∃ v, h.IsCell (C + 1) v) E Fin (.ref r) s :=
  csrc_rangeX hh F N hr hsm hn hsz hx hk hc fun g g' => AllInC.out (T g g' news (Fin _ news) fun _ _ x => x) fun _ x => x
theorem csrc_zipH {l1 l2 : Addr} {xs ys : Array Value} {x y : Str} {px py tp : Pos} {kk : Nat} (hh : A.handled = none) (F : Fr h₀ L s.heap m) (N : News h₀ L s.heap news) (hl1 : s.heap.IsList l1 xs) (hl2 : s.heap.IsList l2 ys) (hsz : min xs.size ys.size ≤ sizeLine)
    (hx : (relabel scope env).names.lookup x = some .local) (hy : (relabel scope env).names.lookup y = some .local) (hxy : x ≠ y) (hk : scope.kind = .function)
    (T : ∀ (g g' : Heap) (nb : List (Addr × Obj)) (Fin' : List Value → List (Addr × Obj) → Prop), (∀ ys tl, Fin { s with heap := g' } news ys (tl ++ news) → Fin' ys (tl ++ nb)) → AllInC nb news (RestL prog w A h₀ L m env elt ifs scope cells { s with heap := g } (BoundP (fun i vals => ∃ x y, xs[i]? = some x ∧ ys[i]? = some y ∧ vals = #[x, y]) x y) Fin' (min xs.size ys.size) 0 [] [] nb)) :
    wpAny (model prog w) A (call (.type "zip") [.ref l1, .ref l2]) (CSrc prog w A h₀ L m env elt (.Tuple [.Name x px, .Name y py] kk tp) ifs scope cells (fun C => [C]) (fun C h => ∃ m, h.Ns C m) E Fin) E s :=
  csrc_zip hh F N hl1 hl2 hsz hx hy hxy hk fun g g' => AllInC.out (T g g' news (Fin _ news) fun _ _ x => x) fun _ x => x
theorem csrc_enumH {l : Addr} {xs : Array Value} {x y : Str} {px py tp : Pos} {kk : Nat} (hh : A.handled = none) (F : Fr h₀ L s.heap m) (N : News h₀ L s.heap news) (hl : s.heap.IsList l xs) (hsz : xs.size ≤ sizeLine)
    (hx : (relabel scope env).names.lookup x = some .local) (hy : (relabel scope env).names.lookup y = some .local) (hxy : x ≠ y) (hk : scope.kind = .function)
    (T : ∀ (g g' : Heap) (nb : List (Addr × Obj)) (Fin' : List Value → List (Addr × Obj) → Prop), (∀ ys tl, Fin { s with heap := g' } news ys (tl ++ news) → Fin' ys (tl ++ nb)) → AllInC nb news (RestL prog w A h₀ L m env elt ifs scope cells { s with heap := g } (BoundP (fun i vals => ∃ t x, xs[i]? = some x ∧ vals = #[.int i t, x]) x y) Fin' xs.size 0 [] [] nb)) :
    wpAny (model prog w) A (call (.type "enumerate") [.ref l]) (CSrc prog w A h₀ L m env elt (.Tuple [.Name x px, .Name y py] kk tp) ifs scope cells (fun C => [C]) (fun C h => ∃ m, h.Ns C m) E Fin) E s :=
  csrc_enum hh F N hl hsz hx hy hxy hk fun g g' => AllInC.out (T g g' news (Fin _ news) fun _ _ x => x) fun _ x => x
end
theorem comp_exprNH {Q : Value → Shared → Prop} (F₀ : Fr h₀ L s.heap m) (hclos : closureFor scope env = pure cl) (hkind : scope.kind = .function) (hnames : ∀ y ∈ scope.names, y.2 = .local → scope.names.lookup y.1 = some .local)
    (hcl : ∀ C, cellsFrom (C + 1) scope.names cl = cl) (hp : ∀ h, pushCells h scope.names = h)
    (h : ∀ Fin' : Shared → List (Addr × Obj) → List Value → List (Addr × Obj) → Prop, (∀ s₂ nw₀ ys nw, CFinE h₀ L m s₂ Q nw₀ ys nw → Fin' s₂ nw₀ ys nw) → wpAny (model prog w) A (eval iter env) (CSrc prog w A h₀ L m env elt target ifs scope (fun _ => cl) (fun C => [C]) (fun C h => ∃ m, h.Ns C m) E Fin') E s)
    (hs : ∀ x, foldedSetIterable iter env x = pure x := by intro _; rfl) :
    wpAny (model prog w) A (eval (.ListComp elt [⟨target, iter, ifs, 0⟩] scope pos) env) Q E s :=
  comp_exprN F₀ hclos hkind hnames hcl hp (h _ fun _ _ _ _ x => x) hs
theorem comp_exprXH {Q : Value → Shared → Prop} {x : Str} (F₀ : Fr h₀ L s.heap m) (hclos : closureFor scope env = pure cl) (hkind : scope.kind = .function) (hnames : ∀ y ∈ scope.names, y.2 = .local → scope.names.lookup y.1 = some .local)
    (hcl : ∀ C, cellsFrom (C + 1) scope.names cl = (x, C + 1) :: cl) (hp : ∀ h, pushCells h scope.names = h.push { cls := .type "cell", data := .cell none })
    (h : ∀ Fin' : Shared → List (Addr × Obj) → List Value → List (Addr × Obj) → Prop, (∀ s₂ nw₀ ys nw, CFinE h₀ L m s₂ Q nw₀ ys nw → Fin' s₂ nw₀ ys nw) → wpAny (model prog w) A (eval iter env) (CSrc prog w A h₀ L m env elt target ifs scope (fun C => (x, C + 1) :: cl) (fun C => [C + 1, C]) (fun C h => (∃ m, h.Ns C m) ∧ ∃ v, h.IsCell (C + 1) v) E Fin') E s)
    (hs : ∀ x, foldedSetIterable iter env x = pure x := by intro _; rfl) :
    wpAny (model prog w) A (eval (.ListComp elt [⟨target, iter, ifs, 0⟩] scope pos) env) Q E s :=
  comp_exprX F₀ hclos hkind hnames hcl hp (h _ fun _ _ _ _ x => x) hs
theorem comp_assignNH {y : Str} {py spos : Pos} {Q : Flow → Shared → Prop} (F₀ : Fr h₀ L s.heap m) (hLe : env.locals = L) (hsw : swapsWith (.ListComp elt [⟨target, iter, ifs, 0⟩] scope pos) (some (.Name y py)) spos.line env = pure true)
    (hclos : closureFor scope env = pure cl) (hkind : scope.kind = .function) (hnames : ∀ y ∈ scope.names, y.2 = .local → scope.names.lookup y.1 = some .local)
    (hcl : ∀ C, cellsFrom (C + 1) scope.names cl = cl) (hp : ∀ h, pushCells h scope.names = h)
    (hy : env.kindOf y = some .local) (hp' : (env.scope.kind == .class || (env.scope.kind == .module && env.locals != env.globals)) = false)
    (h : ∀ Fin' : Shared → List (Addr × Obj) → List Value → List (Addr × Obj) → Prop, (∀ s₂ nw₀ ys nw, CFinA h₀ L m s₂ y Q nw₀ ys nw → Fin' s₂ nw₀ ys nw) → wpAny (model prog w) A (eval iter env) (CSrc prog w A h₀ L m env elt target ifs scope (fun _ => cl) (fun C => [C]) (fun C h => ∃ m, h.Ns C m) E Fin') E s)
    (hs : ∀ x, foldedSetIterable iter env x = pure x := by intro _; rfl) :
    wpAny (model prog w) A (exec (.Assign [.Name y py] (.ListComp elt [⟨target, iter, ifs, 0⟩] scope pos) spos) env) Q E s :=
  comp_assignN F₀ hLe hsw hclos hkind hnames hcl hp hy hp' (h _ fun _ _ _ _ x => x) hs
end
theorem ne_allLt9 {D A : Nat} {o : Obj} {l : List (Addr × Obj)} (h : AllLt D l) (hm : (A, o) ∈ l) : @Ne Addr D A := fun e => Nat.lt_irrefl D (by have := allLt_all h _ hm; rw [← e] at this; exact this)
theorem ne_allLt9' {D A : Nat} {o : Obj} {l : List (Addr × Obj)} (h : AllLt D l) (hm : (A, o) ∈ l) : @Ne Addr A D := (ne_allLt9 h hm).symm
theorem ne_up9 {L X c : Nat} (h : @LT.lt Nat _ (L + 1 + 1 + 1 + 1 + 1 + 1 + 1 + 1 + 1) X) (le : @LE.le Nat _ c (L + 1 + 1 + 1 + 1 + 1 + 1 + 1 + 1 + 1)) : @Ne Addr X c := Nat.ne_of_gt (Nat.lt_of_le_of_lt le h)
theorem ne_up9' {L X c : Nat} (h : @LT.lt Nat _ (L + 1 + 1 + 1 + 1 + 1 + 1 + 1 + 1 + 1) X) (le : @LE.le Nat _ c (L + 1 + 1 + 1 + 1 + 1 + 1 + 1 + 1 + 1)) : @Ne Addr c X := Nat.ne_of_lt (Nat.lt_of_le_of_lt le h)
theorem ne_lt9 {a b : Nat} (h : @LE.le Nat _ (a + 1) b) : @Ne Addr a b := Nat.ne_of_lt h
theorem ne_lt9' {a b : Nat} (h : @LE.le Nat _ (a + 1) b) : @Ne Addr b a := Nat.ne_of_gt h
end Mine
end
local macro_rules | `(tactic| is_list) => `(tactic| exact News.isList (by k_asm) (by k_mem))
local macro_rules | `(tactic| k_mem) => `(tactic| ((with_reducible (repeat (first | exact List.mem_cons_self | exact Mine.mem_led (by with_reducible assumption) | refine List.mem_cons_of_mem _ ?_ | refine Mine.mem_led_sub (by with_reducible assumption) ?_))); (first | done | with_reducible assumption | assumption)))
local macro_rules | `(tactic| k_lt $h:ident) => `(tactic| (have hAll9 := allLt_of $h; replace $h := allLt_of $h; simp only [AllLt, and_true] at $h:ident))
local macro_rules | `(tactic| k_ne) => `(tactic| first | with_reducible assumption | with_reducible exact neN (by assumption) | exact Mine.ne_allLt9 (by with_reducible assumption) (by ((with_reducible (repeat (first | exact List.mem_cons_self | exact Mine.mem_led (by with_reducible assumption) | refine List.mem_cons_of_mem _ ?_ | refine Mine.mem_led_sub (by with_reducible assumption) ?_))); (first | done | with_reducible assumption))) | exact Mine.ne_allLt9' (by with_reducible assumption) (by ((with_reducible (repeat (first | exact List.mem_cons_self | exact Mine.mem_led (by with_reducible assumption) | refine List.mem_cons_of_mem _ ?_ | refine Mine.mem_led_sub (by with_reducible assumption) ?_))); (first | done | with_reducible assumption))) | exact Mine.ne_up9 (by with_reducible assumption) (by ((repeat (first | exact Nat.le_refl _ | refine Nat.le_succ_of_le ?_)); first | done | fail)) | exact Mine.ne_up9' (by with_reducible assumption) (by ((repeat (first | exact Nat.le_refl _ | refine Nat.le_succ_of_le ?_)); first | done | fail)) | exact Mine.ne_lt9 (by with_reducible ((repeat (first | exact Nat.le_refl _ | refine Nat.le_succ_of_le ?_)); first | done | fail)) | exact Mine.ne_lt9' (by with_reducible ((repeat (first | exact Nat.le_refl _ | refine Nat.le_succ_of_le ?_)); first | done | fail)) | (refine neN ?_; (try dsimp only); omega))

section
open PySem PySem.W PySem.Calls PyProof.Rows
set_option Elab.async false
set_option maxRecDepth 100000
set_option maxHeartbeats 8000000
set_option pp.deepTerms false
set_option pp.deepTerms.threshold 4
set_option pp.maxSteps 6000
namespace Mine

noncomputable def half (p : Int) : UInt64 := Float64.div (Float64.ofInt p) 0x4000000000000000
noncomputable def third (p : Int) : UInt64 := Float64.div (Float64.ofInt p) 0x4008000000000000
noncomputable def hsvOkB (r g b : UInt64) : Bool := eqF (min3 r g b) (max3 r g b) || (!Float64.isZero (max3 r g b) && !Float64.isZero (Float64.sub (max3 r g b) (min3 r g b)))
noncomputable def hlsOkB (r g b : UInt64) : Bool := eqF (min3 r g b) (max3 r g b) || (!Float64.isZero (Float64.add (max3 r g b) (min3 r g b)) && !Float64.isZero (Float64.sub (max3 r g b) (min3 r g b)) && !Float64.isZero (Float64.sub (Float64.sub 0x4000000000000000 (max3 r g b)) (min3 r g b)))
noncomputable def ihsvOkB (h : UInt64) : Bool := !Float64.isNaN (Float64.mul h 0x4018000000000000) && !Float64.isInf (Float64.mul h 0x4018000000000000) && decide ((Flt.toInt Float64.truncOf (Float64.mul h 0x4018000000000000)).natAbs < 1000)
noncomputable def outF (x : UInt64) : UInt64 := Float64.add (Float64.mul 0x4000000000000000 x) 0x3fe0000000000000
noncomputable def outB (x : UInt64) (q : Int) : Bool := !Float64.isNaN (outF x) && !Float64.isInf (outF x) && decide (Flt.toInt Float64.truncOf (outF x) = q)
noncomputable def imgB (p0 p1 p2 mir thirds q0 q1 q2 : Int) : Bool :=
  if mir = 0 then hsvOkB (half p0) (half p1) (half p2) && ihsvOkB (Float64.add (hsvF (half p0) (half p1) (half p2)).1 (third thirds)) &&
      (let o := ihsvF (Float64.add (hsvF (half p0) (half p1) (half p2)).1 (third thirds)) (hsvF (half p0) (half p1) (half p2)).2.1 (hsvF (half p0) (half p1) (half p2)).2.2; outB o.1 q0 && outB o.2.1 q1 && outB o.2.2 q2)
  else hlsOkB (half p0) (half p1) (half p2) &&
      (let o := ihlsF (Float64.sub (third thirds) (hlsF (half p0) (half p1) (half p2)).1) (hlsF (half p0) (half p1) (half p2)).2.1 (hlsF (half p0) (half p1) (half p2)).2.2; outB o.1 q0 && outB o.2.1 q1 && outB o.2.2 q2)
/-- the image of a colour by the six turnings -/
noncomputable def pick3 (p0 p1 p2 : Int) (k : Int) : Int := if k = 0 then p0 else if k = 1 then p1 else p2
noncomputable def ordOf (mir thirds place : Int) : Int := (if mir = 0 then place - thirds else thirds - place).fmod 3
set_option maxRecDepth 100000 in
theorem img_table : ((List.range 3).all fun a => (List.range 3).all fun b => (List.range 3).all fun c => (List.range 3).all fun t => (List.range 2).all fun m =>
    imgB a b c m t (pick3 a b c (ordOf m t 0)) (pick3 a b c (ordOf m t 1)) (pick3 a b c (ordOf m t 2))) = true := by decide +kernel

theorem hsvOk_of {r g b : UInt64} (h : hsvOkB r g b = true) : eqF (min3 r g b) (max3 r g b) = false → Float64.isZero (max3 r g b) = false ∧ Float64.isZero (Float64.sub (max3 r g b) (min3 r g b)) = false := by
  intro e; simp [hsvOkB, e] at h; exact h
theorem hlsOk_of {r g b : UInt64} (h : hlsOkB r g b = true) : eqF (min3 r g b) (max3 r g b) = false → Float64.isZero (Float64.add (max3 r g b) (min3 r g b)) = false ∧ Float64.isZero (Float64.sub (max3 r g b) (min3 r g b)) = false ∧ Float64.isZero (Float64.sub (Float64.sub 0x4000000000000000 (max3 r g b)) (min3 r g b)) = false := by
  intro e; simp [hlsOkB, e] at h; exact ⟨h.1.1, h.1.2, h.2⟩
theorem ihsvOk_of {h : UInt64} (e : ihsvOkB h = true) : Float64.isNaN (Float64.mul h 0x4018000000000000) = false ∧ Float64.isInf (Float64.mul h 0x4018000000000000) = false ∧ ¬ 2 ^ 1024 - 2 ^ 970 ≤ (Flt.toInt Float64.truncOf (Float64.mul h 0x4018000000000000)).natAbs := by
  unfold ihsvOkB at e
  rw [Bool.and_eq_true, Bool.and_eq_true, Bool.not_eq_true', Bool.not_eq_true', decide_eq_true_eq] at e
  refine ⟨e.1.1, e.1.2, fun q => ?_⟩
  have : (1000 : Nat) ≤ 2 ^ 1024 - 2 ^ 970 := by decide +kernel
  exact Nat.lt_irrefl _ (Nat.lt_of_lt_of_le e.2 (Nat.le_trans this q))
section
variable {p0 p1 p2 mir thirds q0 q1 q2 : Int} (H : imgB p0 p1 p2 mir thirds q0 q1 q2 = true)
include H
theorem img_hsv (hm : mir = 0) : hsvOkB (half p0) (half p1) (half p2) = true := by
  unfold imgB at H; rw [if_pos hm, Bool.and_eq_true, Bool.and_eq_true] at H; exact H.1.1
theorem img_ihsv (hm : mir = 0) {x y z : UInt64} (e : hsvF (half p0) (half p1) (half p2) = (x, y, z)) : ihsvOkB (Float64.add x (third thirds)) = true := by
  unfold imgB at H; rw [if_pos hm, Bool.and_eq_true, Bool.and_eq_true, e] at H; exact H.1.2
theorem img_hls (hm : mir ≠ 0) : hlsOkB (half p0) (half p1) (half p2) = true := by
  unfold imgB at H; rw [if_neg hm, Bool.and_eq_true] at H; exact H.1
theorem img_out0 (hm : mir = 0) {x y z x' y' z' : UInt64} (e : hsvF (half p0) (half p1) (half p2) = (x, y, z)) (e' : ihsvF (Float64.add x (third thirds)) y z = (x', y', z')) : outB x' q0 = true ∧ outB y' q1 = true ∧ outB z' q2 = true := by
  unfold imgB at H; rw [if_pos hm, Bool.and_eq_true, e] at H
  have := H.2; rw [e'] at this; simp only [Bool.and_eq_true] at this; exact ⟨this.1.1, this.1.2, this.2⟩
theorem img_out1 (hm : mir ≠ 0) {x y z x' y' z' : UInt64} (e : hlsF (half p0) (half p1) (half p2) = (x, y, z)) (e' : ihlsF (Float64.sub (third thirds) x) y z = (x', y', z')) : outB x' q0 = true ∧ outB y' q1 = true ∧ outB z' q2 = true := by
  unfold imgB at H; rw [if_neg hm, Bool.and_eq_true, e] at H
  have := H.2; rw [e'] at this; simp only [Bool.and_eq_true] at this; exact ⟨this.1.1, this.1.2, this.2⟩
end
theorem out_of {x : UInt64} {q : Int} (h : outB x q = true) : ¬ Float64.isNaN (Float64.add (Float64.mul 0x4000000000000000 x) 0x3fe0000000000000) = true ∧ ¬ Float64.isInf (Float64.add (Float64.mul 0x4000000000000000 x) 0x3fe0000000000000) = true ∧ Flt.toInt Float64.truncOf (Float64.add (Float64.mul 0x4000000000000000 x) 0x3fe0000000000000) = q := by
  unfold outB at h; rw [Bool.and_eq_true, Bool.and_eq_true, Bool.not_eq_true', Bool.not_eq_true', decide_eq_true_eq] at h; exact ⟨by rw [Bool.not_eq_true]; exact h.1.1, by rw [Bool.not_eq_true]; exact h.1.2, h.2⟩

namespace EI6
noncomputable def Pr9 (w : World) (news : List (Addr × Obj)) (l : Addr) (n : Nat) (p0 : Int) (p1 : Int) (p2 : Int) (mir : Int) (thirds : Int) (t0 : Tok) (t1 : Tok) (t2 : Tok) (t3 : Tok) (t4 : Tok) (p : Program) (loose : List Str) (mean : ExcName → Option Value) (mg : Str → Option Value) (mb : Str → Option Value) (dp : Nat) (un : Nat) (gd : Option (List Code)) (cn : Str) (cs : Scope) (a : Addr) (ccd : Value) (cl : List (Str × Addr)) (outer : List Env) (A₀ : Around) (base : Heap) (h₀ : Heap) (L : Addr) (m : Str → Option Value) (s : Shared) (Q : Value → Shared → Prop) (E : Value → Shared → Prop) : Prop := ∀ (q0 : Int) (q1 : Int) (q2 : Int) (hm : (l, W.listOf #[.int p0 t0, .int p1 t1, .int p2 t2] n) ∈ news) (hp0 : 0 ≤ p0 ∧ p0 ≤ 2) (hp1 : 0 ≤ p1 ∧ p1 ≤ 2) (hp2 : 0 ≤ p2 ∧ p2 ≤ 2) (ht : 0 ≤ thirds ∧ thirds ≤ 2) (H : imgB p0 p1 p2 mir thirds q0 q1 q2 = true) , DoesAt w 5 48 82 [.ref l, .int mir t3, .int thirds t4] news (fun r tl => ∃ D u0 u1 u2 k, r = .ref D ∧ tl = [(D, W.listOf #[.int q0 u0, .int q1 u1, .int q2 u2] k)]) p loose mean mg mb dp un gd cn cs a ccd cl outer A₀ base h₀ L m s Q E
abbrev Pack9 : Type := (World) × (List (Addr × Obj)) × (Addr) × (Nat) × (Int) × (Int) × (Int) × (Int) × (Int) × (Tok) × (Tok) × (Tok) × (Tok) × (Tok) × (Program) × (List Str) × (ExcName → Option Value) × (Str → Option Value) × (Str → Option Value) × (Nat) × (Nat) × (Option (List Code)) × (Str) × (Scope) × (Addr) × (Value) × (List (Str × Addr)) × (List Env) × (Around) × (Heap) × (Heap) × (Addr) × (Str → Option Value) × (Shared) × (Value → Shared → Prop) × (Value → Shared → Prop)
noncomputable def PrX9 (x : Pack9) : Prop := Pr9 (x.1) (x.2.1) (x.2.2.1) (x.2.2.2.1) (x.2.2.2.2.1) (x.2.2.2.2.2.1) (x.2.2.2.2.2.2.1) (x.2.2.2.2.2.2.2.1) (x.2.2.2.2.2.2.2.2.1) (x.2.2.2.2.2.2.2.2.2.1) (x.2.2.2.2.2.2.2.2.2.2.1) (x.2.2.2.2.2.2.2.2.2.2.2.1) (x.2.2.2.2.2.2.2.2.2.2.2.2.1) (x.2.2.2.2.2.2.2.2.2.2.2.2.2.1) (x.2.2.2.2.2.2.2.2.2.2.2.2.2.2.1) (x.2.2.2.2.2.2.2.2.2.2.2.2.2.2.2.1) (x.2.2.2.2.2.2.2.2.2.2.2.2.2.2.2.2.1) (x.2.2.2.2.2.2.2.2.2.2.2.2.2.2.2.2.2.1) (x.2.2.2.2.2.2.2.2.2.2.2.2.2.2.2.2.2.2.1) (x.2.2.2.2.2.2.2.2.2.2.2.2.2.2.2.2.2.2.2.1) (x.2.2.2.2.2.2.2.2.2.2.2.2.2.2.2.2.2.2.2.2.1) (x.2.2.2.2.2.2.2.2.2.2.2.2.2.2.2.2.2.2.2.2.2.1) (x.2.2.2.2.2.2.2.2.2.2.2.2.2.2.2.2.2.2.2.2.2.2.1) (x.2.2.2.2.2.2.2.2.2.2.2.2.2.2.2.2.2.2.2.2.2.2.2.1) (x.2.2.2.2.2.2.2.2.2.2.2.2.2.2.2.2.2.2.2.2.2.2.2.2.1) (x.2.2.2.2.2.2.2.2.2.2.2.2.2.2.2.2.2.2.2.2.2.2.2.2.2.1) (x.2.2.2.2.2.2.2.2.2.2.2.2.2.2.2.2.2.2.2.2.2.2.2.2.2.2.1) (x.2.2.2.2.2.2.2.2.2.2.2.2.2.2.2.2.2.2.2.2.2.2.2.2.2.2.2.1) (x.2.2.2.2.2.2.2.2.2.2.2.2.2.2.2.2.2.2.2.2.2.2.2.2.2.2.2.2.1) (x.2.2.2.2.2.2.2.2.2.2.2.2.2.2.2.2.2.2.2.2.2.2.2.2.2.2.2.2.2.1) (x.2.2.2.2.2.2.2.2.2.2.2.2.2.2.2.2.2.2.2.2.2.2.2.2.2.2.2.2.2.2.1) (x.2.2.2.2.2.2.2.2.2.2.2.2.2.2.2.2.2.2.2.2.2.2.2.2.2.2.2.2.2.2.2.1) (x.2.2.2.2.2.2.2.2.2.2.2.2.2.2.2.2.2.2.2.2.2.2.2.2.2.2.2.2.2.2.2.2.1) (x.2.2.2.2.2.2.2.2.2.2.2.2.2.2.2.2.2.2.2.2.2.2.2.2.2.2.2.2.2.2.2.2.2.1) (x.2.2.2.2.2.2.2.2.2.2.2.2.2.2.2.2.2.2.2.2.2.2.2.2.2.2.2.2.2.2.2.2.2.2.1) (x.2.2.2.2.2.2.2.2.2.2.2.2.2.2.2.2.2.2.2.2.2.2.2.2.2.2.2.2.2.2.2.2.2.2.2)
theorem ne9 : Nonempty Pack9 := ⟨(aWorld 1, default, default, default, default, default, default, default, default, default, default, default, default, default, default, default, default, default, default, default, default, default, default, default, default, default, default, default, callerA, default, default, default, default, (start Mine.view).1, default, default)⟩
@[irreducible] noncomputable def pk9 : Pack9 := bad ne9 PrX9
@[irreducible] noncomputable def w : World := pk9.1
@[irreducible] noncomputable def news : List (Addr × Obj) := pk9.2.1
@[irreducible] noncomputable def l : Addr := pk9.2.2.1
@[irreducible] noncomputable def n : Nat := pk9.2.2.2.1
@[irreducible] noncomputable def p0 : Int := pk9.2.2.2.2.1
@[irreducible] noncomputable def p1 : Int := pk9.2.2.2.2.2.1
@[irreducible] noncomputable def p2 : Int := pk9.2.2.2.2.2.2.1
@[irreducible] noncomputable def mir : Int := pk9.2.2.2.2.2.2.2.1
@[irreducible] noncomputable def thirds : Int := pk9.2.2.2.2.2.2.2.2.1
@[irreducible] noncomputable def t0 : Tok := pk9.2.2.2.2.2.2.2.2.2.1
@[irreducible] noncomputable def t1 : Tok := pk9.2.2.2.2.2.2.2.2.2.2.1
@[irreducible] noncomputable def t2 : Tok := pk9.2.2.2.2.2.2.2.2.2.2.2.1
@[irreducible] noncomputable def t3 : Tok := pk9.2.2.2.2.2.2.2.2.2.2.2.2.1
@[irreducible] noncomputable def t4 : Tok := pk9.2.2.2.2.2.2.2.2.2.2.2.2.2.1
@[irreducible] noncomputable def p : Program := pk9.2.2.2.2.2.2.2.2.2.2.2.2.2.2.1
@[irreducible] noncomputable def loose : List Str := pk9.2.2.2.2.2.2.2.2.2.2.2.2.2.2.2.1
@[irreducible] noncomputable def mean : ExcName → Option Value := pk9.2.2.2.2.2.2.2.2.2.2.2.2.2.2.2.2.1
@[irreducible] noncomputable def mg : Str → Option Value := pk9.2.2.2.2.2.2.2.2.2.2.2.2.2.2.2.2.2.1
@[irreducible] noncomputable def mb : Str → Option Value := pk9.2.2.2.2.2.2.2.2.2.2.2.2.2.2.2.2.2.2.1
@[irreducible] noncomputable def dp : Nat := pk9.2.2.2.2.2.2.2.2.2.2.2.2.2.2.2.2.2.2.2.1
@[irreducible] noncomputable def un : Nat := pk9.2.2.2.2.2.2.2.2.2.2.2.2.2.2.2.2.2.2.2.2.1
@[irreducible] noncomputable def gd : Option (List Code) := pk9.2.2.2.2.2.2.2.2.2.2.2.2.2.2.2.2.2.2.2.2.2.1
@[irreducible] noncomputable def cn : Str := pk9.2.2.2.2.2.2.2.2.2.2.2.2.2.2.2.2.2.2.2.2.2.2.1
@[irreducible] noncomputable def cs : Scope := pk9.2.2.2.2.2.2.2.2.2.2.2.2.2.2.2.2.2.2.2.2.2.2.2.1
@[irreducible] noncomputable def a : Addr := pk9.2.2.2.2.2.2.2.2.2.2.2.2.2.2.2.2.2.2.2.2.2.2.2.2.1
@[irreducible] noncomputable def ccd : Value := pk9.2.2.2.2.2.2.2.2.2.2.2.2.2.2.2.2.2.2.2.2.2.2.2.2.2.1
@[irreducible] noncomputable def cl : List (Str × Addr) := pk9.2.2.2.2.2.2.2.2.2.2.2.2.2.2.2.2.2.2.2.2.2.2.2.2.2.2.1
@[irreducible] noncomputable def outer : List Env := pk9.2.2.2.2.2.2.2.2.2.2.2.2.2.2.2.2.2.2.2.2.2.2.2.2.2.2.2.1
@[irreducible] noncomputable def A₀ : Around := pk9.2.2.2.2.2.2.2.2.2.2.2.2.2.2.2.2.2.2.2.2.2.2.2.2.2.2.2.2.1
@[irreducible] noncomputable def base : Heap := pk9.2.2.2.2.2.2.2.2.2.2.2.2.2.2.2.2.2.2.2.2.2.2.2.2.2.2.2.2.2.1
@[irreducible] noncomputable def h₀ : Heap := pk9.2.2.2.2.2.2.2.2.2.2.2.2.2.2.2.2.2.2.2.2.2.2.2.2.2.2.2.2.2.2.1
@[irreducible] noncomputable def L : Addr := pk9.2.2.2.2.2.2.2.2.2.2.2.2.2.2.2.2.2.2.2.2.2.2.2.2.2.2.2.2.2.2.2.1
@[irreducible] noncomputable def m : Str → Option Value := pk9.2.2.2.2.2.2.2.2.2.2.2.2.2.2.2.2.2.2.2.2.2.2.2.2.2.2.2.2.2.2.2.2.1
@[irreducible] noncomputable def s : Shared := pk9.2.2.2.2.2.2.2.2.2.2.2.2.2.2.2.2.2.2.2.2.2.2.2.2.2.2.2.2.2.2.2.2.2.1
@[irreducible] noncomputable def Q : Value → Shared → Prop := pk9.2.2.2.2.2.2.2.2.2.2.2.2.2.2.2.2.2.2.2.2.2.2.2.2.2.2.2.2.2.2.2.2.2.2.1
@[irreducible] noncomputable def E : Value → Shared → Prop := pk9.2.2.2.2.2.2.2.2.2.2.2.2.2.2.2.2.2.2.2.2.2.2.2.2.2.2.2.2.2.2.2.2.2.2.2
theorem core9 : Pr9 w news l n p0 p1 p2 mir thirds t0 t1 t2 t3 t4 p loose mean mg mb dp un gd cn cs a ccd cl outer A₀ base h₀ L m s Q E := by
  intro q0 q1 q2 hm hp0 hp1 hp2 ht H
  w_top off
  k_with_none
  k_with "execs cons" => (k_here; (with_reducible refine toks_succ ?_); intro tk8ₓ)
  k_with "subscriptTail Name Constant ref int" => (k_here; (with_reducible show wpAny _ _ (subscriptTail _ _ (Value.ref _) (Value.int _ _)) _ _ _); (with_unfolding_all refine' item_litK ?k1x9 ?k2x9 ?k3x9 ?k4x9 ?_ ?k6x9; (case k1x9 => exact News.isList (by k_asm) (by ((with_reducible (repeat (first | exact List.mem_cons_self | exact mem_led (by with_reducible assumption) | refine List.mem_cons_of_mem _ ?_ | refine mem_led_sub (by with_reducible assumption) ?_))); (first | done | with_reducible assumption)))); (case k2x9 => decide); (case k3x9 => decide); (case k4x9 => rfl); (case k6x9 => with_unfolding_all rfl); k_whole))
  k_with "eval ListComp" => (k_here; k_dflt (first
    | refine comp_exprNH (by k_asm) (by with_unfolding_all rfl) (by rfl) (by decide) (fun _ => by rfl) (fun _ => by rfl) ?_
    | refine comp_exprXH (by k_asm) (by with_unfolding_all rfl) (by rfl) (by decide) (fun _ => by rfl) (fun _ => by rfl) ?_); intro Fin9'ₓ hFin9'ₓ)
  k_with "CSrc" => (k_here; k_dflt (first
    | (refine csrc_listNH rfl (by k_asm) (by k_asm) (by is_list) (by first | size_fits | exact Nat.le_of_ble_eq_true rfl) (by rfl) (by rfl) ?_; intro g1'ₓ g2'ₓ nb'ₓ Fin8'ₓ hFin8'ₓ)
    | (refine csrc_listXH rfl (by k_asm) (by k_asm) (by is_list) (by first | size_fits | exact Nat.le_of_ble_eq_true rfl) (by rfl) (by rfl) (fun _ => by rfl) ?_; intro g1'ₓ g2'ₓ nb'ₓ Fin8'ₓ hFin8'ₓ)
    | (refine csrc_tupleNH rfl (by k_asm) (by k_asm) (News.isTup (by k_asm) (by ((with_reducible (repeat (first | exact List.mem_cons_self | exact mem_led (by with_reducible assumption) | refine List.mem_cons_of_mem _ ?_ | refine mem_led_sub (by with_reducible assumption) ?_))); (first | done | with_reducible assumption)))) (by first | size_fits | exact Nat.le_of_ble_eq_true rfl) (by rfl) (by rfl) ?_; intro g1'ₓ g2'ₓ nb'ₓ Fin8'ₓ hFin8'ₓ)
    | (refine csrc_rangeNH rfl (by k_asm) (by k_asm) (by assumption) (by first | decide | rfl) (by first | rfl | decide) (by first | size_fits | exact Nat.le_of_ble_eq_true rfl) (by rfl) (by rfl) ?_; intro g1'ₓ g2'ₓ nb'ₓ Fin8'ₓ hFin8'ₓ)
    | (refine csrc_rangeXH rfl (by k_asm) (by k_asm) (by assumption) (by first | decide | rfl) (by first | rfl | decide) (by first | size_fits | exact Nat.le_of_ble_eq_true rfl) (by rfl) (by rfl) (fun _ => by rfl) ?_; intro g1'ₓ g2'ₓ nb'ₓ Fin8'ₓ hFin8'ₓ)); refine AllInC.both ?_; intro hsub'ₓ; (try dsimp only [AllInC]); intros; (try (refine AllInC.skip ?_)))
  k_with "RestL" => ((with_unfolding_all (first | refine RestL.l0 (by rfl) ?_ | refine RestL.lx0 (by rfl) ?_ | refine RestL.r0 ?_ | refine RestL.rx0 ?_ | refine RestL.z0 (by rfl) (by rfl) ?_ | refine RestL.e1 (by rfl) ?_)); intros)
  k_with "RestL" => (with_unfolding_all refine RestL.zero (by with_reducible assumption) (by with_reducible assumption) ?_)
  k_with "CFinE" => ((unfold CFinE); intro D'ₓ h'ₓ tk'ₓ l1'ₓ F'ₓ N'ₓ o1'ₓ; (try k_lt l1'ₓ); (try simp only [List.nil_append, List.cons_append, LCg.Off1, and_true] at o1'ₓ); (try simp only [snoc, List.nil_append, List.cons_append] at N'ₓ); (try dsimp only))
  k_with "Hid" => ((with_reducible show Hid _ (Value.ref _) _); (first | (first | refine hid_fact (by with_reducible assumption) (by with_reducible assumption) ?_ | refine hid_fact3 (by with_reducible assumption) (by with_reducible assumption) ?_); intro hX9ₓ; simp only [AllLt, and_true] at hX9ₓ | skip); (refine turn1 (by with_reducible assumption) (by rfl) (by k_asm) (by first | k_asm | exact news_snd (by k_asm) | exact news_snd (news_snd (by k_asm)) | exact news_snd (news_snd (news_snd (by k_asm))) | exact news_snd (news_snd (news_snd (news_snd (by k_asm))))) (by first | assumption | exact And.right (α := _) (by assumption : AllLt _ (_ :: _)) | exact (And.right (And.right (by assumption : AllLt _ (_ :: _ :: _)))) | exact (And.right (And.right (And.right (by assumption : AllLt _ (_ :: _ :: _ :: _)))))) ?_))
  k_with "Hid" => ((with_reducible show Hid _ (Value.int _ _) _); (refine turn0 (by with_reducible assumption) (by rfl) (by k_asm) (by first | k_asm | exact news_tail (by k_asm) | exact news_tail (news_tail (by k_asm)) | exact news_tail (news_tail (news_tail (by k_asm))) | exact news_tail (news_tail (news_tail (news_tail (by k_asm)))) | exact news_tail (news_tail (news_tail (news_tail (news_tail (by k_asm))))) | exact news_tail (news_tail (news_tail (news_tail (news_tail (news_tail (by k_asm))))))) ?_))
  k_with "Hid" => ((with_reducible show Hid _ Value.none _); (refine turnF (by with_reducible assumption) (by rfl) (by k_asm) (by first | k_asm | exact news_tail (by k_asm) | exact news_tail (news_tail (by k_asm)) | exact news_tail (news_tail (news_tail (by k_asm))) | exact news_tail (news_tail (news_tail (news_tail (by k_asm)))) | exact news_tail (news_tail (news_tail (news_tail (news_tail (by k_asm))))) | exact news_tail (news_tail (news_tail (news_tail (news_tail (news_tail (by k_asm))))))) ?_))
  k_with "call ref" => (k_here; (with_reducible show wpAny _ _ (PySem.call (Value.ref 49) _) _ _ _); k_dflt (refine' Does.use (hsv_does _ _ _ _ _ _ _ _ ?kzx23) ?k1x23 ?k2x23 ?k3x23 ?k4x23 ?k5x23 ?kKx23 ?kdx23 ?kux23 ?_; (case kzx23 => exact hsvOk_of (img_hsv (by assumption) (by assumption))); (case k1x23 => k_asm); (case k2x23 => k_asm); (case k3x23 => k_asm); (case k4x23 => k_asm); (case k5x23 => k_asm); (case kKx23 => first | exact rfl | assumption); (case kdx23 => ktr_room); (case kux23 => ktr_units); intro r9ₓ tl9ₓ h9ₓ tk9ₓ F9ₓ N9ₓ l9ₓ p9ₓ; obtain ⟨D9ₓ, x9ₓ, y9ₓ, z9ₓ, u9ₓ, u9'ₓ, u9''ₓ, e1ₓ, e2ₓ, e3ₓ⟩ := p9ₓ; subst e1ₓ; subst e2ₓ; (try simp only [List.cons_append, List.nil_append] at N9ₓ); (try dsimp only); (try k_sweep)))
  k_with "call ref" => (k_here; (with_reducible show wpAny _ _ (PySem.call (Value.ref 28) _) _ _ _); k_dflt (refine' Does.use (hls_does _ _ _ _ _ _ _ _ ?kzx24) ?k1x24 ?k2x24 ?k3x24 ?k4x24 ?k5x24 ?kKx24 ?kdx24 ?kux24 ?_; (case kzx24 => exact hlsOk_of (img_hls (by assumption) (by assumption))); (case k1x24 => k_asm); (case k2x24 => k_asm); (case k3x24 => k_asm); (case k4x24 => k_asm); (case k5x24 => k_asm); (case kKx24 => first | exact rfl | assumption); (case kdx24 => ktr_room); (case kux24 => ktr_units); intro r9ₓ tl9ₓ h9ₓ tk9ₓ F9ₓ N9ₓ l9ₓ p9ₓ; obtain ⟨D9ₓ, x9ₓ, y9ₓ, z9ₓ, u9ₓ, u9'ₓ, u9''ₓ, e1ₓ, e2ₓ, e3ₓ⟩ := p9ₓ; subst e1ₓ; subst e2ₓ; (try simp only [List.cons_append, List.nil_append] at N9ₓ); (try dsimp only); (try k_sweep)))
  k_with "call ref" => (k_here; (with_reducible show wpAny _ _ (PySem.call (Value.ref 35) _) _ _ _); k_dflt (refine' Does.use (ihls_does _ _ _ _ _ _ _ _) ?k1x25 ?k2x25 ?k3x25 ?k4x25 ?k5x25 ?kKx25 ?kdx25 ?kux25 ?_; (case k1x25 => k_asm); (case k2x25 => k_asm); (case k3x25 => k_asm); (case k4x25 => k_asm); (case k5x25 => k_asm); (case kKx25 => first | exact rfl | assumption); (case kdx25 => ktr_room); (case kux25 => ktr_units); intro r9ₓ tl9ₓ h9ₓ tk9ₓ F9ₓ N9ₓ l9ₓ p9ₓ; obtain ⟨D9ₓ, x9ₓ, y9ₓ, z9ₓ, u9ₓ, u9'ₓ, u9''ₓ, e1ₓ, e2ₓ, e3ₓ⟩ := p9ₓ; subst e1ₓ; subst e2ₓ; have ho9ₓ := img_out1 (by assumption) (by assumption) (by assumption) e3ₓ; obtain ⟨ho1ₓ, ho2ₓ, ho3ₓ⟩ := ho9ₓ; obtain ⟨hoa1ₓ, hob1ₓ, hoc1ₓ⟩ := out_of ho1ₓ; obtain ⟨hoa2ₓ, hob2ₓ, hoc2ₓ⟩ := out_of ho2ₓ; obtain ⟨hoa3ₓ, hob3ₓ, hoc3ₓ⟩ := out_of ho3ₓ; clear ho1ₓ ho2ₓ ho3ₓ; (try simp only [List.cons_append, List.nil_append] at N9ₓ); (try dsimp only); (try k_sweep)))
  k_with "call ref" => (k_here; (with_reducible show wpAny _ _ (PySem.call (Value.ref 56) _) _ _ _); k_dflt (refine' Does.use (ihsv_does _ _ _ _ _ _ _ _ ?kz1x26 ?kz2x26 ?kz3x26) ?k1x26 ?k2x26 ?k3x26 ?k4x26 ?k5x26 ?kKx26 ?kdx26 ?kux26 ?_; (case kz1x26 => exact (ihsvOk_of (img_ihsv (by assumption) (by assumption) (by assumption))).1); (case kz2x26 => exact (ihsvOk_of (img_ihsv (by assumption) (by assumption) (by assumption))).2.1); (case kz3x26 => exact (ihsvOk_of (img_ihsv (by assumption) (by assumption) (by assumption))).2.2); (case k1x26 => k_asm); (case k2x26 => k_asm); (case k3x26 => k_asm); (case k4x26 => k_asm); (case k5x26 => k_asm); (case kKx26 => first | exact rfl | assumption); (case kdx26 => ktr_room); (case kux26 => ktr_units); intro r9ₓ tl9ₓ h9ₓ tk9ₓ F9ₓ N9ₓ l9ₓ p9ₓ; obtain ⟨D9ₓ, x9ₓ, y9ₓ, z9ₓ, u9ₓ, u9'ₓ, u9''ₓ, e1ₓ, e2ₓ, e3ₓ⟩ := p9ₓ; subst e1ₓ; subst e2ₓ; have ho9ₓ := img_out0 (by assumption) (by assumption) (by assumption) e3ₓ; obtain ⟨ho1ₓ, ho2ₓ, ho3ₓ⟩ := ho9ₓ; obtain ⟨hoa1ₓ, hob1ₓ, hoc1ₓ⟩ := out_of ho1ₓ; obtain ⟨hoa2ₓ, hob2ₓ, hoc2ₓ⟩ := out_of ho2ₓ; obtain ⟨hoa3ₓ, hob3ₓ, hoc3ₓ⟩ := out_of ho3ₓ; clear ho1ₓ ho2ₓ ho3ₓ; (try simp only [List.cons_append, List.nil_append] at N9ₓ); (try dsimp only); (try k_sweep)))
  k_with "eval Name" => (k_here; (with_reducible show wpAny _ _ (eval (PySem.Expr.Name _ _) (compEnvC _ _ _ _)) _ _ _); k_dflt (first
    | (refine' LCgL.ld_own ?Nx28 ?hmx28 ?hCx28 ?hxx28 ?_ ?hkx28 ?hlx28 ?hdx28; (case hlx28 => rfl); (case hkx28 => rfl); (case hdx28 => decide); (case Nx28 => k_asm); (case hmx28 => ((with_reducible (repeat (first | exact List.mem_cons_self | exact mem_led (by with_reducible assumption) | refine List.mem_cons_of_mem _ ?_ | refine mem_led_sub (by with_reducible assumption) ?_))); (first | done | with_reducible assumption))); (case hCx28 => with_reducible assumption); (case hxx28 => with_reducible assumption); k_whole)
    | (refine' kcf_cell ?Nx28 ?cx28 ?mx28 ?dx28 ?_ ?ax28 ?bx28 ?hdx28; (case bx28 => rfl); (case ax28 => rfl); (case hdx28 => decide); (case Nx28 => k_asm); (case cx28 => rfl); (case mx28 => ((with_reducible (repeat (first | exact List.mem_cons_self | exact mem_led (by with_reducible assumption) | refine List.mem_cons_of_mem _ ?_ | refine mem_led_sub (by with_reducible assumption) ?_))); (first | done | with_reducible assumption))); (case dx28 => k_asm); k_whole)
    | (refine' LCgL.ld_built ?Fx28 ?Xx28 ?Tx28 ?ex28 ?vx28 ?nx28 ?_ ?gx28 ?bx28 ?hkx28 ?hxx28 ?hdx28; (case hxx28 => rfl); (case hkx28 => rfl); (case gx28 => rfl); (case bx28 => rfl); (case hdx28 => decide); (case Fx28 => k_asm); (case Xx28 => k_asm); (case Tx28 => k_asm); (case ex28 => k_is); (case vx28 => boot_by_name); (case nx28 => decide); k_whole)))
  unfold DoesAt
  k_fill
  intro B F X N T hk hd' hu' hret
  refine wpAny_call ?_
  k_dflt ktr_enter
  k_steps
  all_goals first
    | (exfalso; contradiction)
    | (have e0 := (by assumption : Flt.toInt _ _ = q0)
       have e1 := (by assumption : Flt.toInt _ _ = q1)
       have e2 := (by assumption : Flt.toInt _ _ = q2)
       subst e0; subst e1; subst e2
       refine hret _ [_] _ _ (by assumption) (news_snd (news_snd (by assumption))) ?_ ⟨_, _, _, _, _, rfl, rfl⟩
       intro p hp q hq; rw [List.mem_singleton.mp hp]; exact allLt_all (And.right (And.right (by assumption : AllLt _ (_ :: _ :: news)))) q hq)
  all_goals trace_state
  all_goals w_report
theorem all9 (x : Pack9) : PrX9 x := all_of_bad ne9 (by with_unfolding_all exact core9) x
end EI6
theorem image_does (w : World) (news : List (Addr × Obj)) (l : Addr) (n : Nat) (p0 p1 p2 mir thirds q0 q1 q2 : Int) (t0 t1 t2 t3 t4 : Tok) (hm : (l, W.listOf #[.int p0 t0, .int p1 t1, .int p2 t2] n) ∈ news)
    (hp0 : 0 ≤ p0 ∧ p0 ≤ 2) (hp1 : 0 ≤ p1 ∧ p1 ≤ 2) (hp2 : 0 ≤ p2 ∧ p2 ≤ 2) (ht : 0 ≤ thirds ∧ thirds ≤ 2) (H : imgB p0 p1 p2 mir thirds q0 q1 q2 = true) : Does w 5 48 82 [.ref l, .int mir t3, .int thirds t4] news (fun r tl => ∃ D u0 u1 u2 k, r = .ref D ∧ tl = [(D, W.listOf #[.int q0 u0, .int q1 u1, .int q2 u2] k)]) :=
  fun q90 q91 q92 q93 q94 q95 q96 q97 q98 q99 q910 q911 q912 q913 q914 q915 q916 q917 q918 q919 q920 q921 => EI6.all9 (w, news, l, n, p0, p1, p2, mir, thirds, t0, t1, t2, t3, t4, q90, q91, q92, q93, q94, q95, q96, q97, q98, q99, q910, q911, q912, q913, q914, q915, q916, q917, q918, q919, q920, q921) q0 q1 q2 hm hp0 hp1 hp2 ht H
end Mine
end
section
open PySem PySem.W PySem.Calls PyProof.Rows
set_option Elab.async false
set_option maxRecDepth 100000
set_option maxHeartbeats 2000000
namespace Mine
/-- blanks, a core, blanks -/
noncomputable def padL (l : Nat) (core : List Nat) (t : Nat) : List Nat := List.replicate l 32 ++ (core ++ List.replicate t 32)
noncomputable def padOf (l : Nat) (core : List Nat) (t : Nat) : Str := ⟨(padL l core t).toArray⟩
noncomputable def chrIf (b : Bool) (c : Nat) : Str := if b then ⟨#[32]⟩ else ⟨#[c]⟩
theorem len_padL (l : Nat) (core : List Nat) (t : Nat) : (padL l core t).length = l + (core.length + t) := by
  unfold padL; rw [List.length_append, List.length_append, List.length_replicate, List.length_replicate]
theorem len_padOf (l : Nat) (core : List Nat) (t : Nat) : (padOf l core t).length = l + (core.length + t) := len_padL l core t
theorem pad_ext {x y : Str} (h : x.cps.toList = y.cps.toList) : x = y := by
  obtain ⟨a⟩ := x; obtain ⟨b⟩ := y; simp only at h; rw [Array.ext' h]
theorem str_add_list (a b : List Nat) : (⟨a.toArray⟩ : Str) ++ (⟨b.toArray⟩ : Str) = ⟨(a ++ b).toArray⟩ := by
  apply pad_ext
  show (a.toArray ++ b.toArray).toList = (a ++ b).toArray.toList
  rw [Array.toList_append]
theorem rep_add (a b : Nat) : List.replicate a 32 ++ List.replicate b 32 = List.replicate (a + b) 32 := List.replicate_append_replicate
theorem add_pad (n l : Nat) (core : List Nat) (t : Nat) : padOf n [] 0 ++ padOf l core t = padOf (n + l) core t := by
  unfold padOf
  rw [str_add_list]
  congr 2
  unfold padL
  rw [List.nil_append, List.replicate_zero, List.append_nil, ← List.append_assoc, rep_add]
theorem pad_add (n l : Nat) (core : List Nat) (t : Nat) : padOf l core t ++ padOf n [] 0 = padOf l core (t + n) := by
  unfold padOf
  rw [str_add_list]
  congr 2
  unfold padL
  rw [List.nil_append, List.replicate_zero, List.append_nil, List.append_assoc, List.append_assoc, rep_add]
theorem mul_pad (n : Int) : Txt.mul (Str.ofString " ") n = padOf n.toNat [] 0 := by
  have e : Str.ofString " " = ⟨#[32]⟩ := by decide +kernel
  rw [e]
  unfold Txt.mul
  by_cases h : n < 1
  · rw [if_pos h]
    have : n.toNat = 0 := by omega
    rw [this]; rfl
  · rw [if_neg h]
    by_cases h1 : n = 1
    · subst h1; rfl
    · have : (n == 1 || Str.length ⟨#[32]⟩ == 0) = false := by
        rw [Bool.or_eq_false_iff]; exact ⟨by simpa using h1, by decide⟩
      rw [this]
      simp only [Bool.false_eq_true, if_false]
      apply pad_ext
      have key : ∀ (k : Nat) (acc : Array Nat), ((List.replicate k (#[32] : Array Nat)).foldl (· ++ ·) acc).toList = acc.toList ++ List.replicate k 32 := by
        intro k
        induction k with
        | zero => intro acc; simp
        | succ k ih => intro acc; rw [List.replicate_succ, List.foldl_cons, ih, Array.toList_append, List.append_assoc]; rfl
      show ((List.replicate n.toNat (#[32] : Array Nat)).foldl (· ++ ·) #[]).toList = _
      rw [key]
      show [] ++ List.replicate n.toNat 32 = padL n.toNat [] 0
      unfold padL; rw [List.nil_append, List.nil_append, List.replicate_zero, List.append_nil]
theorem slice_padL {l t i j : Nat} {core : List Nat} (h1 : i ≤ l) (h2 : l + core.length ≤ j) (h3 : j ≤ l + (core.length + t)) :
    ((padL l core t).drop i).take (j - i) = padL (l - i) core (j - (l + core.length)) := by
  unfold padL
  rw [List.drop_append_of_le_length (by rw [List.length_replicate]; exact h1), List.drop_replicate, List.take_append, List.length_replicate,
    List.take_of_length_le (by rw [List.length_replicate]; omega), List.take_append, List.take_of_length_le (by omega), List.take_replicate]
  congr 3
  omega
theorem slice_pad {l t : Nat} {core : List Nat} {i j : Int} (h0 : 0 ≤ i) (h1 : i ≤ (l : Int)) (h2 : ((l + core.length : Nat) : Int) ≤ j) (h3 : j ≤ ((l + (core.length + t) : Nat) : Int)) :
    Txt.slice (padOf l core t) (some i) (some j) = padOf (l - i.toNat) core (j.toNat - (l + core.length)) := by
  obtain ⟨a, rfl⟩ := Int.eq_ofNat_of_zero_le h0
  obtain ⟨b, rfl⟩ := Int.eq_ofNat_of_zero_le (Int.le_trans (Int.natCast_nonneg _) h2)
  have h1' : a ≤ l := by omega
  have h2' : l + core.length ≤ b := by omega
  have h3' : b ≤ l + (core.length + t) := by omega
  simp only [Int.toNat_natCast]
  have hs := StrLaws.sliced_plain (padOf l core t) (a := a) (b := b) (by omega) (by rw [len_padOf]; exact h3')
  have hs' := hs.trans (slice_padL h1' h2' h3')
  unfold Txt.slice
  split
  · rename_i hfull
    have hl : b - a = (padOf l core t).length := by
      have := hfull
      rw [StrLaws.strSliceIndices_plain (by omega) (by rw [len_padOf]; exact h3')] at this
      simpa using this
    rw [len_padOf] at hl
    have ea : a = 0 := by omega
    have eb : b = l + (core.length + t) := by omega
    subst ea eb
    congr 1
    omega
  · unfold padOf at hs' ⊢; rw [hs']
end Mine
end
section
open PySem PySem.W PySem.Calls PyProof.Rows
set_option Elab.async false
set_option maxRecDepth 100000
set_option maxHeartbeats 8000000
set_option pp.deepTerms false
set_option pp.deepTerms.threshold 4
set_option pp.maxSteps 6000
namespace Mine

section
variable {prog : Program} {w : World} {A : Around} {E : Value → Shared → Prop} {s : Shared} {value slice : PySem.Expr} {l t c : Nat} {core : List Nat} {k : Int} {tk u : Tok} {Q : Value → Shared → Prop}
theorem item_at {x : Str} {i : Nat} (hi : x.cps[i]? = some c) (hs : x.length ≤ 1000000) (h : Q (.str ⟨#[c]⟩ s.toks) { s with toks := s.toks + 1 })
    (hs' : subscripted slice false (.str x tk) (.int (i : Int) u) = operate [.str x tk, .int (i : Int) u] (getItem (.str x tk) (.int (i : Int) u)) := by with_unfolding_all rfl)
    (ht : ∀ r, letTemporaryGo value (.str x tk) r = pure () := by intro _; with_unfolding_all rfl) :
    wpAny (model prog w) A (subscriptTail value slice (.str x tk) (.int (i : Int) u)) Q E s := by
  have hlt : i < x.length := by
    have := Array.getElem?_eq_some_iff.mp hi
    exact this.1
  refine item_str (fitsSsize_of (N := 9223372036854775808) (by omega) (by omega) (Int.le_refl _)) (by omega) (by omega) (fun _ => ?_) hs' ht
  have e : Txt.item x (i : Int) = ⟨#[c]⟩ := by
    unfold Txt.item Txt.charAt seqIndex?
    rw [if_neg (by omega : ¬ ((i : Int) < 0))]
    have : (decide (0 ≤ (i : Int)) && decide ((i : Int) < (x.length : Int))) = true := by simp; omega
    rw [if_pos (by simpa using this)]
    simp [hi]
  rw [e]; exact h
theorem padL_lead {i : Nat} (h : i < l) : (padL l core t)[i]? = some 32 := by
  unfold padL; rw [List.getElem?_append_left (by rw [List.length_replicate]; exact h), List.getElem?_replicate, if_pos h]
theorem padL_head (hc : core.head? = some c) : (padL l core t)[l]? = some c := by
  unfold padL
  rw [List.getElem?_append_right (by rw [List.length_replicate]; exact Nat.le_refl _), List.length_replicate, Nat.sub_self]
  cases core with
  | nil => cases hc
  | cons a r => simpa using hc
theorem padL_last (hc : core.getLast? = some c) : (padL l core t)[l + core.length - 1]? = some c := by
  have hpos : 0 < core.length := by cases core with | nil => cases hc | cons a r => simp
  unfold padL
  rw [List.getElem?_append_right (by rw [List.length_replicate]; omega), List.length_replicate, List.getElem?_append_left (by omega)]
  rw [List.getLast?_eq_getElem?] at hc
  rw [← hc]; congr 1; omega
theorem padL_trail {i : Nat} (h1 : l + core.length ≤ i) (h2 : i < l + (core.length + t)) : (padL l core t)[i]? = some 32 := by
  unfold padL
  rw [List.getElem?_append_right (by rw [List.length_replicate]; omega), List.length_replicate, List.getElem?_append_right (by omega), List.getElem?_replicate, if_pos (by omega)]
theorem cps_pad (i : Nat) : (padOf l core t).cps[i]? = (padL l core t)[i]? := by
  show (padL l core t).toArray[i]? = _
  rw [List.getElem?_toArray]
theorem item_lead (hc : core.head? = some c) (h0 : 0 ≤ k) (h1 : k ≤ (l : Int)) (hs : l + (core.length + t) ≤ 1000000) (h : Q (.str (chrIf (decide (k < (l : Int))) c) s.toks) { s with toks := s.toks + 1 })
    (hs' : ∀ x i, subscripted slice false (.str x tk) (.int i u) = operate [.str x tk, .int i u] (getItem (.str x tk) (.int i u)) := by intro _ _; with_unfolding_all rfl)
    (ht : ∀ x r, letTemporaryGo value (.str x tk) r = pure () := by intro _ _; with_unfolding_all rfl) :
    wpAny (model prog w) A (subscriptTail value slice (.str (padOf l core t) tk) (.int k u)) Q E s := by
  obtain ⟨i, rfl⟩ := Int.eq_ofNat_of_zero_le h0
  by_cases hl : i < l
  · refine item_at (c := 32) ((cps_pad i).trans (padL_lead hl)) (by rw [len_padOf]; exact hs) ?_ (hs' _ _) (ht _)
    have : decide ((i : Int) < (l : Int)) = true := by simp; omega
    rw [this] at h; exact h
  · have : i = l := by omega
    subst this
    refine item_at (c := c) ((cps_pad i).trans (padL_head hc)) (by rw [len_padOf]; exact hs) ?_ (hs' _ _) (ht _)
    have : decide ((i : Int) < (i : Int)) = false := by simp
    rw [this] at h; exact h
theorem item_trail (hc : core.getLast? = some c) (h0 : ((l + core.length : Nat) : Int) - 1 ≤ k) (h1 : k < ((l + (core.length + t) : Nat) : Int)) (hs : l + (core.length + t) ≤ 1000000) (h : Q (.str (chrIf (decide (((l + core.length : Nat) : Int) ≤ k)) c) s.toks) { s with toks := s.toks + 1 })
    (hs' : ∀ x i, subscripted slice false (.str x tk) (.int i u) = operate [.str x tk, .int i u] (getItem (.str x tk) (.int i u)) := by intro _ _; with_unfolding_all rfl)
    (ht : ∀ x r, letTemporaryGo value (.str x tk) r = pure () := by intro _ _; with_unfolding_all rfl) :
    wpAny (model prog w) A (subscriptTail value slice (.str (padOf l core t) tk) (.int k u)) Q E s := by
  have hpos : 0 < core.length := by cases core with | nil => cases hc | cons a r => simp
  obtain ⟨i, rfl⟩ := Int.eq_ofNat_of_zero_le (show 0 ≤ k by omega)
  by_cases hl : l + core.length ≤ i
  · refine item_at (c := 32) ((cps_pad i).trans (padL_trail hl (by omega))) (by rw [len_padOf]; exact hs) ?_ (hs' _ _) (ht _)
    have : decide (((l + core.length : Nat) : Int) ≤ (i : Int)) = true := by rw [decide_eq_true_eq]; omega
    rw [this] at h; exact h
  · have e : i = l + core.length - 1 := by omega
    refine item_at (c := c) ((cps_pad i).trans (e ▸ padL_last hc)) (by rw [len_padOf]; exact hs) ?_ (hs' _ _) (ht _)
    have : decide (((l + core.length : Nat) : Int) ≤ (i : Int)) = false := by rw [decide_eq_false_iff_not]; omega
    rw [this] at h; exact h
theorem eq_chr {b : Bool} (hc : c ≠ 32) (h : Q (.bool b) s) : wpAny (model prog w) A (compareOp .Eq (.str (chrIf b c) tk) (.str (Str.ofString " ") u)) Q E s := by
  refine eq_str ?_
  have e : (chrIf b c == Str.ofString " ") = b := by
    have e1 : Str.ofString " " = ⟨#[32]⟩ := by decide +kernel
    rw [e1]
    cases b with
    | true => rfl
    | false =>
      have : chrIf false c = ⟨#[c]⟩ := rfl
      rw [this]
      refine beq_eq_false_iff_ne.mpr fun q => hc ?_
      have := congrArg (fun x : Str => x.cps[0]?) q
      simpa using this
  rw [e]; exact h
theorem len_pad (hs : l + (core.length + t) ≤ 1000000) (h : Q (.int ((l + (core.length + t) : Nat) : Int) (s.toks + 1)) { s with toks := s.toks + 1 + 1 }) : wpAny (model prog w) A (PySem.call (.builtin "len") [.str (padOf l core t) tk]) Q E s :=
  P.len_str (by rw [len_padOf]; omega) (by rw [len_padOf]; exact h)
theorem slice_padK {h₀ : Heap} {L : Addr} {m : Str → Option Value} {news : List (Addr × Obj)} {i j : Int} {ui uj : Tok} (hF : Fr h₀ L s.heap m) (hN : News h₀ L s.heap news) (h0 : 0 ≤ i) (h1 : i ≤ (l : Int)) (h2 : ((l + core.length : Nat) : Int) ≤ j) (h3 : j ≤ ((l + (core.length + t) : Nat) : Int)) (hs : l + (core.length + t) ≤ 1000000)
    (h : ∀ h' t' k, Fr h₀ L h' m → News h₀ L h' news → Q (.str (padOf (l - i.toNat) core (j.toNat - (l + core.length))) t') { s with heap := h', toks := k })
    (hs' : subscripted slice false (.str (padOf l core t) tk) (.ref s.heap.objs.size) = operate [.ref s.heap.objs.size, .str (padOf l core t) tk] (getItem (.str (padOf l core t) tk) (.ref s.heap.objs.size)) := by with_unfolding_all rfl)
    (ht : ∀ r, letTemporaryGo value (.str (padOf l core t) tk) r = pure () := by intro _; with_unfolding_all rfl) :
    wpAny (model prog w) A (subscriptTail value slice (.str (padOf l core t) tk) (.ref s.heap.objs.size)) Q E { s with heap := s.heap.push { cls := .type "slice", data := .fields #[.int i ui, .int j uj, .none] } } :=
  slice_strN_ss hF hN (fun h' t' k F' N' => by rw [slice_pad h0 h1 h2 h3]; exact h h' t' k F' N') hs' ht (by rw [len_padOf]; exact Nat.le_trans hs (by decide))
end


theorem zz9 {a b : Nat} (h : a = 0) (g : b = 0) : a = b := h.trans g.symm
theorem zz8 {x : Int} {A t c : Nat} (h : x = (A : Int) + (t - c)) (g : (c : Int) ≤ t) : x.toNat - A = t - c := by omega
namespace ES
noncomputable def Pr9 (w : World) (news : List (Addr × Obj)) (n : Int) (l : Nat) (t : Nat) (t1 : Tok) (t2 : Tok) (p : Program) (loose : List Str) (mean : ExcName → Option Value) (mg : Str → Option Value) (mb : Str → Option Value) (dp : Nat) (un : Nat) (gd : Option (List Code)) (cn : Str) (cs : Scope) (a : Addr) (ccd : Value) (cl : List (Str × Addr)) (outer : List Env) (A₀ : Around) (base : Heap) (h₀ : Heap) (L : Addr) (m : Str → Option Value) (s₀ : Shared) (Q : Value → Shared → Prop) (E : Value → Shared → Prop) : Prop := ∀ (c0 : Nat) (c1 : Nat) (core : List Nat) (hc0 : core.head? = some c0) (hc1 : core.getLast? = some c1) (hn0 : c0 ≠ 32) (hn1 : c1 ≠ 32) (hn : 0 ≤ n) (hn' : n ≤ 1000) (hl : l + (core.length + t) ≤ 1000) , DoesAt w 1 8 21 [.str (padOf l core t) t1, .int n t2] news (fun r tl => tl = [] ∧ ∃ k, r = .str (padOf (l - n.toNat) core (t - (n.toNat - l))) k) p loose mean mg mb dp un gd cn cs a ccd cl outer A₀ base h₀ L m s₀ Q E
abbrev Pack9 : Type := (World) × (List (Addr × Obj)) × (Int) × (Nat) × (Nat) × (Tok) × (Tok) × (Program) × (List Str) × (ExcName → Option Value) × (Str → Option Value) × (Str → Option Value) × (Nat) × (Nat) × (Option (List Code)) × (Str) × (Scope) × (Addr) × (Value) × (List (Str × Addr)) × (List Env) × (Around) × (Heap) × (Heap) × (Addr) × (Str → Option Value) × (Shared) × (Value → Shared → Prop) × (Value → Shared → Prop)
noncomputable def PrX9 (x : Pack9) : Prop := Pr9 (x.1) (x.2.1) (x.2.2.1) (x.2.2.2.1) (x.2.2.2.2.1) (x.2.2.2.2.2.1) (x.2.2.2.2.2.2.1) (x.2.2.2.2.2.2.2.1) (x.2.2.2.2.2.2.2.2.1) (x.2.2.2.2.2.2.2.2.2.1) (x.2.2.2.2.2.2.2.2.2.2.1) (x.2.2.2.2.2.2.2.2.2.2.2.1) (x.2.2.2.2.2.2.2.2.2.2.2.2.1) (x.2.2.2.2.2.2.2.2.2.2.2.2.2.1) (x.2.2.2.2.2.2.2.2.2.2.2.2.2.2.1) (x.2.2.2.2.2.2.2.2.2.2.2.2.2.2.2.1) (x.2.2.2.2.2.2.2.2.2.2.2.2.2.2.2.2.1) (x.2.2.2.2.2.2.2.2.2.2.2.2.2.2.2.2.2.1) (x.2.2.2.2.2.2.2.2.2.2.2.2.2.2.2.2.2.2.1) (x.2.2.2.2.2.2.2.2.2.2.2.2.2.2.2.2.2.2.2.1) (x.2.2.2.2.2.2.2.2.2.2.2.2.2.2.2.2.2.2.2.2.1) (x.2.2.2.2.2.2.2.2.2.2.2.2.2.2.2.2.2.2.2.2.2.1) (x.2.2.2.2.2.2.2.2.2.2.2.2.2.2.2.2.2.2.2.2.2.2.1) (x.2.2.2.2.2.2.2.2.2.2.2.2.2.2.2.2.2.2.2.2.2.2.2.1) (x.2.2.2.2.2.2.2.2.2.2.2.2.2.2.2.2.2.2.2.2.2.2.2.2.1) (x.2.2.2.2.2.2.2.2.2.2.2.2.2.2.2.2.2.2.2.2.2.2.2.2.2.1) (x.2.2.2.2.2.2.2.2.2.2.2.2.2.2.2.2.2.2.2.2.2.2.2.2.2.2.1) (x.2.2.2.2.2.2.2.2.2.2.2.2.2.2.2.2.2.2.2.2.2.2.2.2.2.2.2.1) (x.2.2.2.2.2.2.2.2.2.2.2.2.2.2.2.2.2.2.2.2.2.2.2.2.2.2.2.2)
theorem ne9 : Nonempty Pack9 := ⟨(aWorld 1, default, default, default, default, default, default, default, default, default, default, default, default, default, default, default, default, default, default, default, default, callerA, default, default, default, default, (start Mine.view).1, default, default)⟩
@[irreducible] noncomputable def pk9 : Pack9 := bad ne9 PrX9
@[irreducible] noncomputable def w : World := pk9.1
@[irreducible] noncomputable def news : List (Addr × Obj) := pk9.2.1
@[irreducible] noncomputable def n : Int := pk9.2.2.1
@[irreducible] noncomputable def l : Nat := pk9.2.2.2.1
@[irreducible] noncomputable def t : Nat := pk9.2.2.2.2.1
@[irreducible] noncomputable def t1 : Tok := pk9.2.2.2.2.2.1
@[irreducible] noncomputable def t2 : Tok := pk9.2.2.2.2.2.2.1
@[irreducible] noncomputable def p : Program := pk9.2.2.2.2.2.2.2.1
@[irreducible] noncomputable def loose : List Str := pk9.2.2.2.2.2.2.2.2.1
@[irreducible] noncomputable def mean : ExcName → Option Value := pk9.2.2.2.2.2.2.2.2.2.1
@[irreducible] noncomputable def mg : Str → Option Value := pk9.2.2.2.2.2.2.2.2.2.2.1
@[irreducible] noncomputable def mb : Str → Option Value := pk9.2.2.2.2.2.2.2.2.2.2.2.1
@[irreducible] noncomputable def dp : Nat := pk9.2.2.2.2.2.2.2.2.2.2.2.2.1
@[irreducible] noncomputable def un : Nat := pk9.2.2.2.2.2.2.2.2.2.2.2.2.2.1
@[irreducible] noncomputable def gd : Option (List Code) := pk9.2.2.2.2.2.2.2.2.2.2.2.2.2.2.1
@[irreducible] noncomputable def cn : Str := pk9.2.2.2.2.2.2.2.2.2.2.2.2.2.2.2.1
@[irreducible] noncomputable def cs : Scope := pk9.2.2.2.2.2.2.2.2.2.2.2.2.2.2.2.2.1
@[irreducible] noncomputable def a : Addr := pk9.2.2.2.2.2.2.2.2.2.2.2.2.2.2.2.2.2.1
@[irreducible] noncomputable def ccd : Value := pk9.2.2.2.2.2.2.2.2.2.2.2.2.2.2.2.2.2.2.1
@[irreducible] noncomputable def cl : List (Str × Addr) := pk9.2.2.2.2.2.2.2.2.2.2.2.2.2.2.2.2.2.2.2.1
@[irreducible] noncomputable def outer : List Env := pk9.2.2.2.2.2.2.2.2.2.2.2.2.2.2.2.2.2.2.2.2.1
@[irreducible] noncomputable def A₀ : Around := pk9.2.2.2.2.2.2.2.2.2.2.2.2.2.2.2.2.2.2.2.2.2.1
@[irreducible] noncomputable def base : Heap := pk9.2.2.2.2.2.2.2.2.2.2.2.2.2.2.2.2.2.2.2.2.2.2.1
@[irreducible] noncomputable def h₀ : Heap := pk9.2.2.2.2.2.2.2.2.2.2.2.2.2.2.2.2.2.2.2.2.2.2.2.1
@[irreducible] noncomputable def L : Addr := pk9.2.2.2.2.2.2.2.2.2.2.2.2.2.2.2.2.2.2.2.2.2.2.2.2.1
@[irreducible] noncomputable def m : Str → Option Value := pk9.2.2.2.2.2.2.2.2.2.2.2.2.2.2.2.2.2.2.2.2.2.2.2.2.2.1
@[irreducible] noncomputable def s₀ : Shared := pk9.2.2.2.2.2.2.2.2.2.2.2.2.2.2.2.2.2.2.2.2.2.2.2.2.2.2.1
@[irreducible] noncomputable def Q : Value → Shared → Prop := pk9.2.2.2.2.2.2.2.2.2.2.2.2.2.2.2.2.2.2.2.2.2.2.2.2.2.2.2.1
@[irreducible] noncomputable def E : Value → Shared → Prop := pk9.2.2.2.2.2.2.2.2.2.2.2.2.2.2.2.2.2.2.2.2.2.2.2.2.2.2.2.2
theorem core9 : Pr9 w news n l t t1 t2 p loose mean mg mb dp un gd cn cs a ccd cl outer A₀ base h₀ L m s₀ Q E := by
  intro c0 c1 core hc0 hc1 hn0 hn1 hn hn' hl
  w_top off
  k_with_none
  k_with "execs cons" => (k_here; (with_reducible refine toks_succ ?_); intro tk8ₓ)
  k_with "subscriptTail Name Name str int" => (k_here; first
    | (refine' item_lead ?kcx43 ?k0x43 ?k1x43 ?ksx43 ?_; (case kcx43 => assumption); (case k0x43 => omega); (case k1x43 => omega); (case ksx43 => omega))
    | (refine' item_trail ?kcx43 ?k0x43 ?k1x43 ?ksx43 ?_; (case kcx43 => assumption); (case k0x43 => omega); (case k1x43 => omega); (case ksx43 => omega)))
  k_with "subscriptTail Name Slice str ref" => (k_here; (with_reducible rename Fr _ _ _ _ => F'ₓ); (with_reducible rename News _ _ _ _ => N'ₓ); (refine slice_padK (s := ⟨_, _, _, _, _⟩) F'ₓ N'ₓ ?k0x44 ?k1x44 ?k2x44 ?k3x44 ?ksx44 ?_); (case k0x44 => omega); (case k1x44 => omega); (case k2x44 => omega); (case k3x44 => omega); (case ksx44 => omega); intro h'ₓ t'ₓ k'ₓ F'ₓ N'ₓ; (try dsimp only))
  k_with "compareOp Eq str str" => (k_here; with_reducible refine eq_chr (by assumption) ?_)
  k_with "call builtin:len" => (k_here; (with_reducible refine len_pad ?ksx46 ?_); (case ksx46 => omega))
  k_with "eval Name" => (k_here; (with_reducible show wpAny _ _ (eval (PySem.Expr.Name _ _) (compEnvC _ _ _ _)) _ _ _); k_dflt (first
    | (refine' LCgL.ld_own ?Nx48 ?hmx48 ?hCx48 ?hxx48 ?_ ?hkx48 ?hlx48 ?hdx48; (case hlx48 => rfl); (case hkx48 => rfl); (case hdx48 => decide); (case Nx48 => k_asm); (case hmx48 => ((with_reducible (repeat (first | exact List.mem_cons_self | exact mem_led (by with_reducible assumption) | refine List.mem_cons_of_mem _ ?_ | refine mem_led_sub (by with_reducible assumption) ?_))); (first | done | with_reducible assumption))); (case hCx48 => with_reducible assumption); (case hxx48 => with_reducible assumption); k_whole)
    | (refine' kcf_cell ?Nx48 ?cx48 ?mx48 ?dx48 ?_ ?ax48 ?bx48 ?hdx48; (case bx48 => rfl); (case ax48 => rfl); (case hdx48 => decide); (case Nx48 => k_asm); (case cx48 => rfl); (case mx48 => ((with_reducible (repeat (first | exact List.mem_cons_self | exact mem_led (by with_reducible assumption) | refine List.mem_cons_of_mem _ ?_ | refine mem_led_sub (by with_reducible assumption) ?_))); (first | done | with_reducible assumption))); (case dx48 => k_asm); k_whole)
    | (refine' LCgL.ld_built ?Fx48 ?Xx48 ?Tx48 ?ex48 ?vx48 ?nx48 ?_ ?gx48 ?bx48 ?hkx48 ?hxx48 ?hdx48; (case hxx48 => rfl); (case hkx48 => rfl); (case gx48 => rfl); (case bx48 => rfl); (case hdx48 => decide); (case Fx48 => k_asm); (case Xx48 => k_asm); (case Tx48 => k_asm); (case ex48 => k_is); (case vx48 => boot_by_name); (case nx48 => decide); k_whole)))
  unfold DoesAt
  k_fill
  intro B F X N T hk hd' hu' hret
  have hcl : 0 < core.length := by cases core with | nil => cases hc0 | cons a r => simp
  generalize hlen : core.length = q at hl hcl ⊢
  refine wpAny_call ?_
  k_dflt ktr_enter
  (k_with "exec While" => first
    | k_while (fun _ lp am => 0 ≤ lp ∧ lp ≤ (l : Int) ∧ 0 ≤ am ∧ lp + am = n) (fun _ lp am => am.toNat) "lpos" "amount"
    | k_while_given ["amount!"] (fun a0 _ rp am => (l : Int) + core.length - 1 ≤ rp ∧ rp ≤ (l : Int) + (core.length + t) - 1 ∧ 0 ≤ am ∧ ((l : Int) + (core.length + t) - 1 - rp) + am = a0) (fun _ _ rp am => am.toNat) "rpos" "amount")
  k_steps
  all_goals (
    simp only [decide_eq_true_eq, decide_eq_false_iff_not] at *
    refine hret _ [] _ _ (by assumption) (by assumption) (fun _ h => nomatch h) ⟨rfl, _, congrArg (fun x => Value.str x _) ?_⟩
    congr 1 <;> first | exact zz9 (by clear hl hn'; omega) (by clear hl hn'; omega) | exact zz8 (by clear hl hn'; omega) (by clear hl hn'; omega) | (clear hl hn'; omega) | omega)
theorem all9 (x : Pack9) : PrX9 x := all_of_bad ne9 (by with_unfolding_all exact core9) x
end ES
theorem strip_does (w : World) (news : List (Addr × Obj)) (n : Int) (l t c0 c1 : Nat) (core : List Nat) (t1 t2 : Tok) (hc0 : core.head? = some c0) (hc1 : core.getLast? = some c1) (hn0 : c0 ≠ 32) (hn1 : c1 ≠ 32)
    (hn : 0 ≤ n) (hn' : n ≤ 1000) (hl : l + (core.length + t) ≤ 1000) : Does w 1 8 21 [.str (padOf l core t) t1, .int n t2] news (fun r tl => tl = [] ∧ ∃ k, r = .str (padOf (l - n.toNat) core (t - (n.toNat - l))) k) :=
  fun q90 q91 q92 q93 q94 q95 q96 q97 q98 q99 q910 q911 q912 q913 q914 q915 q916 q917 q918 q919 q920 q921 => ES.all9 (w, news, n, l, t, t1, t2, q90, q91, q92, q93, q94, q95, q96, q97, q98, q99, q910, q911, q912, q913, q914, q915, q916, q917, q918, q919, q920, q921) c0 c1 core hc0 hc1 hn0 hn1 hn hn' hl
end Mine
end
section
open PySem PySem.W PySem.Calls PySem.Spec PyProof.Rows
set_option Elab.async false
set_option maxRecDepth 100000
set_option maxHeartbeats 8000000
namespace Mine
theorem maxEntry : ∀ {l : List (Addr × Obj)}, l ≠ [] → ∃ b ob, (b, ob) ∈ l ∧ ∀ q ∈ l, q.1 ≤ b
  | [], h => absurd rfl h
  | [(b, ob)], _ => ⟨b, ob, .head _, fun q hq => by rw [List.mem_singleton.mp hq]; exact Nat.le_refl _⟩
  | (b, ob) :: y :: r, _ => by
    obtain ⟨c, oc, hc, hm⟩ := maxEntry (l := y :: r) (by simp)
    by_cases h : b ≤ c
    · exact ⟨c, oc, .tail _ hc, fun q hq => by
        rcases List.mem_cons.mp hq with rfl | hq
        · exact h
        · exact hm q hq⟩
    · refine ⟨b, ob, .head _, fun q hq => ?_⟩
      rcases List.mem_cons.mp hq with rfl | hq
      · exact Nat.le_refl _
      · exact Nat.le_trans (hm q hq) (Nat.le_of_lt (Nat.lt_of_not_le h))
/-- what the callee may give back of the caller's ledger, of which it saw only a part -/
noncomputable def Back (h₀ : Heap) (L : Addr) (news sub : List (Addr × Obj)) (g : Heap) : Prop :=
  ∀ h' L' m' tl, Fr g L' h' m' → News h₀ L h' (tl ++ sub) → News h₀ L h' (tl ++ news)
theorem back_of {s : Shared} {h₀ : Heap} {L : Addr} {news sub : List (Addr × Obj)} (N : News h₀ L s.heap news) (hs : ∀ q ∈ sub, q ∈ news) : Back h₀ L news sub (hideAll s.heap (sub.map (·.1))) := by
  intro h' L' m' tl F' N' q hq
  rcases List.mem_append.mp hq with hq | hq
  · exact N' q (List.mem_append_left _ hq)
  · by_cases hm : q.1 ∈ sub.map (·.1)
    · obtain ⟨p, hp, e⟩ := List.mem_map.mp hm
      have e1 := (N p (hs p hp)).1
      have e2 := (N q hq).1
      rw [e] at e1
      have : p.2 = q.2 := Option.some.inj (e1.symm.trans e2)
      have hpq : p = q := Prod.ext e this
      exact N' q (List.mem_append_right _ (hpq ▸ hp))
    · exact ⟨F'.keep _ _ (hideAll_get _ (N q hq).1 hm), (N q hq).2⟩

section
variable {prog : Program} {w : World} {A₀ A : Around} {s : Shared} {base h₀ : Heap} {outer : List Env} {L : Addr} {m mg mb : Str → Option Value} {env : Env} {news sub : List (Addr × Obj)} {K : Frag} {p : Program} {loose : List Str} {mean : ExcName → Option Value}
  {R : Result → Shared → Prop} {name qual : Str} {params : Arguments} {body : List Stmt} {scope : Scope} {dV kV doc pm cdv ct oc : Value} {an od : Option Addr} {osl : Array (Option Value)} {f : Addr} {args : Args} {binds : List (Str × Value)}

theorem subMax (hsub : ∀ q ∈ sub, q ∈ news) (hne : sub ≠ []) : ∃ b ob, (∀ q ∈ sub ++ [(b, ob)], q ∈ news) ∧ ∀ q ∈ news, q.1 ≤ b := by
  have : news ≠ [] := fun e => by
    cases sub with
    | nil => exact hne rfl
    | cons x r => have := hsub x (.head _); rw [e] at this; cases this
  obtain ⟨b, ob, hm, hl⟩ := maxEntry this
  refine ⟨b, ob, fun q hq => ?_, hl⟩
  rcases List.mem_append.mp hq with h | h
  · exact hsub q h
  · rw [List.mem_singleton.mp h]; exact hm

theorem code_defS (hsub : ∀ q ∈ sub, q ∈ news) (hne : sub ≠ [])
    (B : Below A₀ base outer h₀) (F : Fr h₀ L s.heap m) (X₀ : K.In h₀) (N : News h₀ L s.heap news) (T : Top p loose mean mg mb h₀) (hA : A.frames = some (env :: outer)) (hf : env.frame = some L) (hke : env.scope.kind = .function)
    (ho : K.lookup f = some ⟨oc, od, .func (fnOf name qual params body scope dV kV doc pm an cdv ct), osl⟩) (hcd : codeIn K cdv qual = true) (hroom : A.depth < recursionLimit)
    (hbind : BindsTo s (fnOf name qual params body scope dV kV doc pm an cdv ct) args binds) (hloc : ∀ y ∈ binds, scope.names.lookup y.1 = some .local)
    (h : ∀ g L' h₁ tk b ob, Fr h₀ L g m → Fr g L' h₁ (fun y => binds.reverse.lookup y) → News g L' h₁ (sub ++ [(b, ob)]) → Below A base (env :: outer) g → K.In g → Top p loose mean mg mb g →
      (∀ p ∈ sub ++ [(b, ob)], p.1 < L') → (∀ q ∈ news, q.1 ≤ b) → Back h₀ L news (sub ++ [(b, ob)]) g →
      wpAny (model prog w) (A.deeper (envOf qual scope L' f cdv)) (execs body (envOf qual scope L' f cdv))
        (fun fl s' => LeaveK h₀ L m g R (match fl with | .ret v => v | _ => .none) s')
        (fun e s' => wpAny (model prog w) (A.deeper (envOf qual scope L' f cdv)) (leaving (envOf qual scope L' f cdv) e) (fun _ s'' => R (.error e) s'') (fun e' s'' => R (.error e') s'') s')
        { s with heap := h₁, toks := tk })
    (hco : scope.isCoroutine = false) (hgen : scope.isGenerator = false) (hk : scope.kind = .function)
    (hcell : ∀ x ∈ scope.names, x.2 ≠ .cell) : codeAny (model prog w) A (.call (.ref f) args) R s := by
  obtain ⟨b, ob, hs, hb⟩ := subMax hsub hne
  have N₂ : News h₀ L s.heap (sub ++ [(b, ob)]) := fun q hq => N q (hs q hq)
  obtain ⟨FG, BG, st, lv⟩ := groundX (R := R) B F N₂ hA hf hke
  refine codeAny_call_def (fd := fnOf name qual params body scope dV kV doc pm an cdv ct) (body := body) (binds := binds) hroom ((X₀.keeps F.keep) _ _ ho) rfl (T.nolimit.keeps F.keep) (codeRec_of (X₀.keeps F.keep) hcd) rfl hbind hcell hloc (fun h₁ hns hk₁ => ?_) hco hgen hk
  refine wpAny_mono (h _ s.heap.objs.size h₁ _ b ob FG ⟨hns, fun b o e => hk₁ b o (of_hideAll _ e), Nat.le_of_eq (hideAll_size _ _)⟩
    (fun p hp => ⟨hk₁ _ _ (N₂ p hp).1, Nat.ne_of_lt (Heap.lt_size (N₂ p hp).1), hideAll_none _ (List.mem_map_of_mem hp)⟩) BG (X₀.keeps st) (T.keeps st) (fun p hp => Heap.lt_size (N₂ p hp).1) hb (back_of N hs)) (fun fl s' hl => lv _ _ hl) fun _ _ y => y

theorem code_defCS (hsub : ∀ q ∈ sub, q ∈ news) (hne : sub ≠ [])
    (B : Below A₀ base outer h₀) (F : Fr h₀ L s.heap m) (X₀ : K.In h₀) (N : News h₀ L s.heap news) (T : Top p loose mean mg mb h₀) (hA : A.frames = some (env :: outer)) (hf : env.frame = some L) (hke : env.scope.kind = .function)
    (ho : K.lookup f = some ⟨oc, od, .func (fnOf name qual params body scope dV kV doc pm an cdv ct), osl⟩) (hcd : codeIn K cdv qual = true) (hroom : A.depth < recursionLimit)
    (hbind : BindsTo s (fnOf name qual params body scope dV kV doc pm an cdv ct) args binds) (hkind : (binds.all fun y => scope.names.lookup y.1 == some .local || scope.names.lookup y.1 == some .cell) = true)
    (hnd : ((cellsFrom 0 scope.names []).map (·.1)).Nodup)
    (h : ∀ g L' h₁ tk cells b ob, Fr h₀ L g m → Fr g L' h₁ (bindL (envOfC qual scope L' f cdv).kindOf binds fun _ => none) → News g L' h₁ (cells ++ (sub ++ [(b, ob)])) →
      CellsAre (bindC (envOfC qual scope L' f cdv).kindOf binds fun _ => none) (cellsFrom (L' + 1) scope.names []) cells → Below A base (env :: outer) g → K.In g → Top p loose mean mg mb g →
      (∀ p ∈ sub ++ [(b, ob)], p.1 < L') → (∀ q ∈ news, q.1 ≤ b) → Back h₀ L news (sub ++ [(b, ob)]) g →
      wpAny (model prog w) (A.deeper (envOfC qual scope L' f cdv)) (execs body (envOfC qual scope L' f cdv))
        (fun fl s' => LeaveK h₀ L m g R (match fl with | .ret v => v | _ => .none) s')
        (fun e s' => wpAny (model prog w) (A.deeper (envOfC qual scope L' f cdv)) (leaving (envOfC qual scope L' f cdv) e) (fun _ s'' => R (.error e) s'') (fun e' s'' => R (.error e') s'') s')
        { s with heap := h₁, toks := tk })
    (hco : scope.isCoroutine = false) (hgen : scope.isGenerator = false) (hk : scope.kind = .function) : codeAny (model prog w) A (.call (.ref f) args) R s := by
  obtain ⟨b, ob, hs, hb⟩ := subMax hsub hne
  have N₂ : News h₀ L s.heap (sub ++ [(b, ob)]) := fun q hq => N q (hs q hq)
  obtain ⟨FG, BG, st, lv⟩ := groundX (R := R) B F N₂ hA hf hke
  refine codeAny_call_function hroom ((X₀.keeps F.keep) _ _ ho) rfl hco hgen rfl (codeRec_of (X₀.keeps F.keep) hcd) (hbind _ _ _ _ ?_)
  refine wpAny_newFunctionEnv_cells hk (kindsX hkind _) fun env' he s' x => ?_
  subst he
  refine ⟨(T.nolimit.keeps F.keep).keeps x.toInCall.keep, codeAny_func ?_⟩
  obtain ⟨h₁, tk, rfl, _⟩ := x.done
  have hk₁ := x.toInCall.keep
  obtain ⟨cells, NC, Y⟩ := Cl.news (h₀ := s.heap) (Nat.le_refl _) fun n c hm => ⟨x.cell n c (lookup_of_mem_nodup (cellsFrom_names scope.names 0 (s.heap.objs.size + 1) [] [] rfl ▸ hnd) hm), x.above n c hm⟩
  refine wpAny_mono (h _ s.heap.objs.size h₁ tk cells b ob FG ⟨x.toInCall.ns, fun b o e => hk₁ b o (of_hideAll _ e), Nat.le_of_eq (hideAll_size _ _)⟩ (fun p hp => ?_) Y BG (X₀.keeps st) (T.keeps st) (fun p hp => Heap.lt_size (N₂ p hp).1) hb (back_of N hs)) (fun fl s' hl => lv _ _ hl) fun _ _ y => y
  rcases List.mem_append.mp hp with hp | hp
  · refine ⟨(NC p hp).1, (NC p hp).2.1, ?_⟩
    cases q : (hideAll s.heap ((sub ++ [(b, ob)]).map (·.1))).get? p.1 with
    | none => rfl
    | some o => have := of_hideAll _ q; rw [(NC p hp).2.2] at this; cases this
  · exact ⟨hk₁ _ _ (N₂ p hp).1, Nat.ne_of_lt (Heap.lt_size (N₂ p hp).1), hideAll_none _ (List.mem_map_of_mem hp)⟩
end
/-- the end of a callee that saw only a part of the ledger -/
theorem news_drop {h₀ h : Heap} {L : Addr} {a b c : List (Addr × Obj)} (N : News h₀ L h (a ++ (b ++ c))) : News h₀ L h (a ++ c) := fun q hq => N q (by
  rcases List.mem_append.mp hq with h | h
  · exact List.mem_append_left _ h
  · exact List.mem_append_right _ (List.mem_append_right _ h))
end Mine
end
section
open PySem PySem.W PySem.Calls PyProof.Rows
set_option Elab.async false
set_option maxRecDepth 100000
set_option maxHeartbeats 8000000
set_option pp.deepTerms false
set_option pp.deepTerms.threshold 4
set_option pp.maxSteps 6000
namespace Mine

theorem ord1 {news : List (Addr × Obj)} {b D : Addr} {oD : Obj} (lb : ∀ q ∈ news, q.1 ≤ b) (h : @LT.lt Nat _ b D) : ∀ p ∈ [(D, oD)], ∀ q ∈ news, q.1 < p.1 := fun p hp q hq => by
  rw [List.mem_singleton.mp hp]; exact Nat.lt_of_le_of_lt (lb q hq) h
theorem bad_f {b : Bool} (h : b = false) (e : b = true) : False := by rw [h] at e; cases e
theorem bad_t {b : Bool} (h : b = true) (e : b = false) : False := by rw [h] at e; cases e

namespace EA0
noncomputable def Pr9 (w : World) (news : List (Addr × Obj)) (d : Addr) (e : Addr) (od : Obj) (oe : Obj) (a' : Int) (b' : Int) (t' : Tok) (u' : Tok) (p : Program) (loose : List Str) (mean : ExcName → Option Value) (mg : Str → Option Value) (mb : Str → Option Value) (dp : Nat) (un : Nat) (gd : Option (List Code)) (cn : Str) (cs : Scope) (a : Addr) (ccd : Value) (cl : List (Str × Addr)) (outer : List Env) (A₀ : Around) (base : Heap) (h₀ : Heap) (L : Addr) (m : Str → Option Value) (s₀ : Shared) (Q : Value → Shared → Prop) (E : Value → Shared → Prop) : Prop := ∀ (hd1 : od.IsDictOf (strKind Challenge.rw_wo0027_01.row.prog w) ([] : List (Str × Value))) (hd2 : PyProof.V.FlatPairs PyData.str [] []) (hd3 : (d == sysModules) = false) (he1 : oe.IsDictOf (strKind Challenge.rw_wo0027_01.row.prog w) [(Str.ofString "front", .int a' t'), (Str.ofString "rear", .int b' u')]) (he2 : PyProof.V.FlatPairs PyData.str [(Str.ofString "front", .int a' t'), (Str.ofString "rear", .int b' u')] [(.str (Str.ofString "front"), .int a'), (.str (Str.ofString "rear"), .int b')]) (he3 : (e == sysModules) = false) (hm : (d, od) ∈ news) (hm' : (e, oe) ∈ news) (hde : d ≠ e) , DoesAt w 5 48 70 [.ref d, .ref e] news (fun r tl => ∃ D oD x y tx ty, r = .ref D ∧ tl = [(D, oD)] ∧ oD.IsDictOf (strKind Challenge.rw_wo0027_01.row.prog w) [(Str.ofString "front", .int x tx), (Str.ofString "rear", .int y ty)] ∧ PyProof.V.FlatPairs PyData.str [(Str.ofString "front", .int x tx), (Str.ofString "rear", .int y ty)] [(.str (Str.ofString "front"), .int x), (.str (Str.ofString "rear"), .int y)] ∧ (D == sysModules) = false ∧ x = a' ∧ y = b') p loose mean mg mb dp un gd cn cs a ccd cl outer A₀ base h₀ L m s₀ Q E
abbrev Pack9 : Type := (World) × (List (Addr × Obj)) × (Addr) × (Addr) × (Obj) × (Obj) × (Int) × (Int) × (Tok) × (Tok) × (Program) × (List Str) × (ExcName → Option Value) × (Str → Option Value) × (Str → Option Value) × (Nat) × (Nat) × (Option (List Code)) × (Str) × (Scope) × (Addr) × (Value) × (List (Str × Addr)) × (List Env) × (Around) × (Heap) × (Heap) × (Addr) × (Str → Option Value) × (Shared) × (Value → Shared → Prop) × (Value → Shared → Prop)
noncomputable def PrX9 (x : Pack9) : Prop := Pr9 (x.1) (x.2.1) (x.2.2.1) (x.2.2.2.1) (x.2.2.2.2.1) (x.2.2.2.2.2.1) (x.2.2.2.2.2.2.1) (x.2.2.2.2.2.2.2.1) (x.2.2.2.2.2.2.2.2.1) (x.2.2.2.2.2.2.2.2.2.1) (x.2.2.2.2.2.2.2.2.2.2.1) (x.2.2.2.2.2.2.2.2.2.2.2.1) (x.2.2.2.2.2.2.2.2.2.2.2.2.1) (x.2.2.2.2.2.2.2.2.2.2.2.2.2.1) (x.2.2.2.2.2.2.2.2.2.2.2.2.2.2.1) (x.2.2.2.2.2.2.2.2.2.2.2.2.2.2.2.1) (x.2.2.2.2.2.2.2.2.2.2.2.2.2.2.2.2.1) (x.2.2.2.2.2.2.2.2.2.2.2.2.2.2.2.2.2.1) (x.2.2.2.2.2.2.2.2.2.2.2.2.2.2.2.2.2.2.1) (x.2.2.2.2.2.2.2.2.2.2.2.2.2.2.2.2.2.2.2.1) (x.2.2.2.2.2.2.2.2.2.2.2.2.2.2.2.2.2.2.2.2.1) (x.2.2.2.2.2.2.2.2.2.2.2.2.2.2.2.2.2.2.2.2.2.1) (x.2.2.2.2.2.2.2.2.2.2.2.2.2.2.2.2.2.2.2.2.2.2.1) (x.2.2.2.2.2.2.2.2.2.2.2.2.2.2.2.2.2.2.2.2.2.2.2.1) (x.2.2.2.2.2.2.2.2.2.2.2.2.2.2.2.2.2.2.2.2.2.2.2.2.1) (x.2.2.2.2.2.2.2.2.2.2.2.2.2.2.2.2.2.2.2.2.2.2.2.2.2.1) (x.2.2.2.2.2.2.2.2.2.2.2.2.2.2.2.2.2.2.2.2.2.2.2.2.2.2.1) (x.2.2.2.2.2.2.2.2.2.2.2.2.2.2.2.2.2.2.2.2.2.2.2.2.2.2.2.1) (x.2.2.2.2.2.2.2.2.2.2.2.2.2.2.2.2.2.2.2.2.2.2.2.2.2.2.2.2.1) (x.2.2.2.2.2.2.2.2.2.2.2.2.2.2.2.2.2.2.2.2.2.2.2.2.2.2.2.2.2.1) (x.2.2.2.2.2.2.2.2.2.2.2.2.2.2.2.2.2.2.2.2.2.2.2.2.2.2.2.2.2.2.1) (x.2.2.2.2.2.2.2.2.2.2.2.2.2.2.2.2.2.2.2.2.2.2.2.2.2.2.2.2.2.2.2)
theorem ne9 : Nonempty Pack9 := ⟨(aWorld 1, default, default, default, default, default, default, default, default, default, default, default, default, default, default, default, default, default, default, default, default, default, default, default, callerA, default, default, default, default, (start Mine.view).1, default, default)⟩
@[irreducible] noncomputable def pk9 : Pack9 := bad ne9 PrX9
@[irreducible] noncomputable def w : World := pk9.1
@[irreducible] noncomputable def news : List (Addr × Obj) := pk9.2.1
@[irreducible] noncomputable def d : Addr := pk9.2.2.1
@[irreducible] noncomputable def e : Addr := pk9.2.2.2.1
@[irreducible] noncomputable def od : Obj := pk9.2.2.2.2.1
@[irreducible] noncomputable def oe : Obj := pk9.2.2.2.2.2.1
@[irreducible] noncomputable def a' : Int := pk9.2.2.2.2.2.2.1
@[irreducible] noncomputable def b' : Int := pk9.2.2.2.2.2.2.2.1
@[irreducible] noncomputable def t' : Tok := pk9.2.2.2.2.2.2.2.2.1
@[irreducible] noncomputable def u' : Tok := pk9.2.2.2.2.2.2.2.2.2.1
@[irreducible] noncomputable def p : Program := pk9.2.2.2.2.2.2.2.2.2.2.1
@[irreducible] noncomputable def loose : List Str := pk9.2.2.2.2.2.2.2.2.2.2.2.1
@[irreducible] noncomputable def mean : ExcName → Option Value := pk9.2.2.2.2.2.2.2.2.2.2.2.2.1
@[irreducible] noncomputable def mg : Str → Option Value := pk9.2.2.2.2.2.2.2.2.2.2.2.2.2.1
@[irreducible] noncomputable def mb : Str → Option Value := pk9.2.2.2.2.2.2.2.2.2.2.2.2.2.2.1
@[irreducible] noncomputable def dp : Nat := pk9.2.2.2.2.2.2.2.2.2.2.2.2.2.2.2.1
@[irreducible] noncomputable def un : Nat := pk9.2.2.2.2.2.2.2.2.2.2.2.2.2.2.2.2.1
@[irreducible] noncomputable def gd : Option (List Code) := pk9.2.2.2.2.2.2.2.2.2.2.2.2.2.2.2.2.2.1
@[irreducible] noncomputable def cn : Str := pk9.2.2.2.2.2.2.2.2.2.2.2.2.2.2.2.2.2.2.1
@[irreducible] noncomputable def cs : Scope := pk9.2.2.2.2.2.2.2.2.2.2.2.2.2.2.2.2.2.2.2.1
@[irreducible] noncomputable def a : Addr := pk9.2.2.2.2.2.2.2.2.2.2.2.2.2.2.2.2.2.2.2.2.1
@[irreducible] noncomputable def ccd : Value := pk9.2.2.2.2.2.2.2.2.2.2.2.2.2.2.2.2.2.2.2.2.2.1
@[irreducible] noncomputable def cl : List (Str × Addr) := pk9.2.2.2.2.2.2.2.2.2.2.2.2.2.2.2.2.2.2.2.2.2.2.1
@[irreducible] noncomputable def outer : List Env := pk9.2.2.2.2.2.2.2.2.2.2.2.2.2.2.2.2.2.2.2.2.2.2.2.1
@[irreducible] noncomputable def A₀ : Around := pk9.2.2.2.2.2.2.2.2.2.2.2.2.2.2.2.2.2.2.2.2.2.2.2.2.1
@[irreducible] noncomputable def base : Heap := pk9.2.2.2.2.2.2.2.2.2.2.2.2.2.2.2.2.2.2.2.2.2.2.2.2.2.1
@[irreducible] noncomputable def h₀ : Heap := pk9.2.2.2.2.2.2.2.2.2.2.2.2.2.2.2.2.2.2.2.2.2.2.2.2.2.2.1
@[irreducible] noncomputable def L : Addr := pk9.2.2.2.2.2.2.2.2.2.2.2.2.2.2.2.2.2.2.2.2.2.2.2.2.2.2.2.1
@[irreducible] noncomputable def m : Str → Option Value := pk9.2.2.2.2.2.2.2.2.2.2.2.2.2.2.2.2.2.2.2.2.2.2.2.2.2.2.2.2.1
@[irreducible] noncomputable def s₀ : Shared := pk9.2.2.2.2.2.2.2.2.2.2.2.2.2.2.2.2.2.2.2.2.2.2.2.2.2.2.2.2.2.1
@[irreducible] noncomputable def Q : Value → Shared → Prop := pk9.2.2.2.2.2.2.2.2.2.2.2.2.2.2.2.2.2.2.2.2.2.2.2.2.2.2.2.2.2.2.1
@[irreducible] noncomputable def E : Value → Shared → Prop := pk9.2.2.2.2.2.2.2.2.2.2.2.2.2.2.2.2.2.2.2.2.2.2.2.2.2.2.2.2.2.2.2
theorem core9 : Pr9 w news d e od oe a' b' t' u' p loose mean mg mb dp un gd cn cs a ccd cl outer A₀ base h₀ L m s₀ Q E := by
  intro hd1 hd2 hd3 he1 he2 he3 hm hm' hde
  w_top off
  k_with_none
  k_with "eval Name" => (k_here; (with_reducible show wpAny _ _ (eval (PySem.Expr.Name _ _) (compEnvC _ _ _ _)) _ _ _); k_dflt (first
    | (refine' LCgL.ld_own ?Nx64 ?hmx64 ?hCx64 ?hxx64 ?_ ?hkx64 ?hlx64 ?hdx64; (case hlx64 => rfl); (case hkx64 => rfl); (case hdx64 => decide); (case Nx64 => k_asm); (case hmx64 => ((with_reducible (repeat (first | exact List.mem_cons_self | exact mem_led (by with_reducible assumption) | refine List.mem_cons_of_mem _ ?_ | refine mem_led_sub (by with_reducible assumption) ?_))); (first | done | with_reducible assumption))); (case hCx64 => with_reducible assumption); (case hxx64 => with_reducible assumption); k_whole)
    | (refine' kcf_cell ?Nx64 ?cx64 ?mx64 ?dx64 ?_ ?ax64 ?bx64 ?hdx64; (case bx64 => rfl); (case ax64 => rfl); (case hdx64 => decide); (case Nx64 => k_asm); (case cx64 => rfl); (case mx64 => ((with_reducible (repeat (first | exact List.mem_cons_self | exact mem_led (by with_reducible assumption) | refine List.mem_cons_of_mem _ ?_ | refine mem_led_sub (by with_reducible assumption) ?_))); (first | done | with_reducible assumption))); (case dx64 => k_asm); k_whole)
    | (refine' LCgL.ld_built ?Fx64 ?Xx64 ?Tx64 ?ex64 ?vx64 ?nx64 ?_ ?gx64 ?bx64 ?hkx64 ?hxx64 ?hdx64; (case hxx64 => rfl); (case hkx64 => rfl); (case gx64 => rfl); (case bx64 => rfl); (case hdx64 => decide); (case Fx64 => k_asm); (case Xx64 => k_asm); (case Tx64 => k_asm); (case ex64 => k_is); (case vx64 => boot_by_name); (case nx64 => decide); k_whole)))
  unfold DoesAt
  k_fill
  intro B F X N T hk hd' hu' hret
  refine wpAny_call ?_
  k_dflt (refine' code_defS (sub := [(e, oe), (d, od)]) ?kS ?kN ?k1 ?k2 ?k3 ?k4 ?k5 ?kA ?kF ?kK ?k6 ?k7 ?k8 ?k9 ?kB ?_ ?c2 ?c3 ?c4 ?c5; (case kS => exact List.forall_mem_cons.mpr ⟨hm', List.forall_mem_cons.mpr ⟨hm, List.forall_mem_nil _⟩⟩); (case kN => exact List.cons_ne_nil _ _); (case kA => exact rfl); (case kF => exact rfl); (case kK => assumption); (case k1 => k_asm); (case k2 => k_asm); (case k3 => k_asm); (case k4 => k_asm); (case k5 => k_asm); (case k6 => k_is); (case k7 => k_is); (case k8 => ktr_room); (case k9 => exact BindsTo.of_eq rfl); (case c5 => decide); (case kB => exact locs rfl); (case c2 => exact rfl); (case c3 => exact rfl); (case c4 => exact rfl); k_whole; intro g' L' h' tk' b9 ob9 FG' F' N' B' X' T' l1 lb9 bk9; (try simp only [List.cons_append, List.nil_append] at l1); (try k_lt l1); (try simp only [List.cons_append, List.nil_append] at N'); (try dsimp only); (try k_fold))
  k_steps
  all_goals first
    | (exfalso; exact bad_t (by assumption : (Spec.lookup _ _).isSome = true) (by rfl))
    | ((rename Obj.IsDictOf _ _ _ => hD9); (rename PyProof.V.FlatPairs _ _ _ => hf9); (rename Fr _ _ _ _ => F9);
       refine hret _ [_] _ _ (by assumption) (bk9 _ _ _ [_] (by assumption) (by assumption)) (ord1 lb9 ?_) ⟨_, _, _, _, _, _, rfl, rfl, hD9, hf9, (by assumption), rfl, rfl⟩; (simp only [AllLt, and_true] at *; omega))
  all_goals trace_state
  all_goals w_report
theorem all9 (x : Pack9) : PrX9 x := all_of_bad ne9 (by with_unfolding_all exact core9) x
end EA0
theorem adc0_does (w : World) (news : List (Addr × Obj)) (d e : Addr) (od oe : Obj) (a' b' : Int) (t' u' : Tok) (hd1 : od.IsDictOf (strKind Challenge.rw_wo0027_01.row.prog w) ([] : List (Str × Value))) (hd2 : PyProof.V.FlatPairs PyData.str [] []) (hd3 : (d == sysModules) = false) (he1 : oe.IsDictOf (strKind Challenge.rw_wo0027_01.row.prog w) [(Str.ofString "front", .int a' t'), (Str.ofString "rear", .int b' u')]) (he2 : PyProof.V.FlatPairs PyData.str [(Str.ofString "front", .int a' t'), (Str.ofString "rear", .int b' u')] [(.str (Str.ofString "front"), .int a'), (.str (Str.ofString "rear"), .int b')]) (he3 : (e == sysModules) = false) (hm : (d, od) ∈ news) (hm' : (e, oe) ∈ news) (hde : d ≠ e) : Does w 5 48 70 [.ref d, .ref e] news (fun r tl => ∃ D oD x y tx ty, r = .ref D ∧ tl = [(D, oD)] ∧ oD.IsDictOf (strKind Challenge.rw_wo0027_01.row.prog w) [(Str.ofString "front", .int x tx), (Str.ofString "rear", .int y ty)] ∧ PyProof.V.FlatPairs PyData.str [(Str.ofString "front", .int x tx), (Str.ofString "rear", .int y ty)] [(.str (Str.ofString "front"), .int x), (.str (Str.ofString "rear"), .int y)] ∧ (D == sysModules) = false ∧ x = a' ∧ y = b') :=
  fun q90 q91 q92 q93 q94 q95 q96 q97 q98 q99 q910 q911 q912 q913 q914 q915 q916 q917 q918 q919 q920 q921 => EA0.all9 (w, news, d, e, od, oe, a', b', t', u', q90, q91, q92, q93, q94, q95, q96, q97, q98, q99, q910, q911, q912, q913, q914, q915, q916, q917, q918, q919, q920, q921) hd1 hd2 hd3 he1 he2 he3 hm hm' hde
namespace EA2
noncomputable def Pr9 (w : World) (news : List (Addr × Obj)) (d : Addr) (e : Addr) (od : Obj) (oe : Obj) (a9 : Int) (b : Int) (a' : Int) (b' : Int) (t : Tok) (u : Tok) (t' : Tok) (u' : Tok) (p : Program) (loose : List Str) (mean : ExcName → Option Value) (mg : Str → Option Value) (mb : Str → Option Value) (dp : Nat) (un : Nat) (gd : Option (List Code)) (cn : Str) (cs : Scope) (a : Addr) (ccd : Value) (cl : List (Str × Addr)) (outer : List Env) (A₀ : Around) (base : Heap) (h₀ : Heap) (L : Addr) (m : Str → Option Value) (s₀ : Shared) (Q : Value → Shared → Prop) (E : Value → Shared → Prop) : Prop := ∀ (hd1 : od.IsDictOf (strKind Challenge.rw_wo0027_01.row.prog w) [(Str.ofString "front", .int a9 t), (Str.ofString "rear", .int b u)]) (hd2 : PyProof.V.FlatPairs PyData.str [(Str.ofString "front", .int a9 t), (Str.ofString "rear", .int b u)] [(.str (Str.ofString "front"), .int a9), (.str (Str.ofString "rear"), .int b)]) (hd3 : (d == sysModules) = false) (he1 : oe.IsDictOf (strKind Challenge.rw_wo0027_01.row.prog w) [(Str.ofString "front", .int a' t'), (Str.ofString "rear", .int b' u')]) (he2 : PyProof.V.FlatPairs PyData.str [(Str.ofString "front", .int a' t'), (Str.ofString "rear", .int b' u')] [(.str (Str.ofString "front"), .int a'), (.str (Str.ofString "rear"), .int b')]) (he3 : (e == sysModules) = false) (hm : (d, od) ∈ news) (hm' : (e, oe) ∈ news) (hde : d ≠ e) , DoesAt w 5 48 70 [.ref d, .ref e] news (fun r tl => ∃ D oD x y tx ty, r = .ref D ∧ tl = [(D, oD)] ∧ oD.IsDictOf (strKind Challenge.rw_wo0027_01.row.prog w) [(Str.ofString "front", .int x tx), (Str.ofString "rear", .int y ty)] ∧ PyProof.V.FlatPairs PyData.str [(Str.ofString "front", .int x tx), (Str.ofString "rear", .int y ty)] [(.str (Str.ofString "front"), .int x), (.str (Str.ofString "rear"), .int y)] ∧ (D == sysModules) = false ∧ x = a9 + a' ∧ y = b + b') p loose mean mg mb dp un gd cn cs a ccd cl outer A₀ base h₀ L m s₀ Q E
abbrev Pack9 : Type := (World) × (List (Addr × Obj)) × (Addr) × (Addr) × (Obj) × (Obj) × (Int) × (Int) × (Int) × (Int) × (Tok) × (Tok) × (Tok) × (Tok) × (Program) × (List Str) × (ExcName → Option Value) × (Str → Option Value) × (Str → Option Value) × (Nat) × (Nat) × (Option (List Code)) × (Str) × (Scope) × (Addr) × (Value) × (List (Str × Addr)) × (List Env) × (Around) × (Heap) × (Heap) × (Addr) × (Str → Option Value) × (Shared) × (Value → Shared → Prop) × (Value → Shared → Prop)
noncomputable def PrX9 (x : Pack9) : Prop := Pr9 (x.1) (x.2.1) (x.2.2.1) (x.2.2.2.1) (x.2.2.2.2.1) (x.2.2.2.2.2.1) (x.2.2.2.2.2.2.1) (x.2.2.2.2.2.2.2.1) (x.2.2.2.2.2.2.2.2.1) (x.2.2.2.2.2.2.2.2.2.1) (x.2.2.2.2.2.2.2.2.2.2.1) (x.2.2.2.2.2.2.2.2.2.2.2.1) (x.2.2.2.2.2.2.2.2.2.2.2.2.1) (x.2.2.2.2.2.2.2.2.2.2.2.2.2.1) (x.2.2.2.2.2.2.2.2.2.2.2.2.2.2.1) (x.2.2.2.2.2.2.2.2.2.2.2.2.2.2.2.1) (x.2.2.2.2.2.2.2.2.2.2.2.2.2.2.2.2.1) (x.2.2.2.2.2.2.2.2.2.2.2.2.2.2.2.2.2.1) (x.2.2.2.2.2.2.2.2.2.2.2.2.2.2.2.2.2.2.1) (x.2.2.2.2.2.2.2.2.2.2.2.2.2.2.2.2.2.2.2.1) (x.2.2.2.2.2.2.2.2.2.2.2.2.2.2.2.2.2.2.2.2.1) (x.2.2.2.2.2.2.2.2.2.2.2.2.2.2.2.2.2.2.2.2.2.1) (x.2.2.2.2.2.2.2.2.2.2.2.2.2.2.2.2.2.2.2.2.2.2.1) (x.2.2.2.2.2.2.2.2.2.2.2.2.2.2.2.2.2.2.2.2.2.2.2.1) (x.2.2.2.2.2.2.2.2.2.2.2.2.2.2.2.2.2.2.2.2.2.2.2.2.1) (x.2.2.2.2.2.2.2.2.2.2.2.2.2.2.2.2.2.2.2.2.2.2.2.2.2.1) (x.2.2.2.2.2.2.2.2.2.2.2.2.2.2.2.2.2.2.2.2.2.2.2.2.2.2.1) (x.2.2.2.2.2.2.2.2.2.2.2.2.2.2.2.2.2.2.2.2.2.2.2.2.2.2.2.1) (x.2.2.2.2.2.2.2.2.2.2.2.2.2.2.2.2.2.2.2.2.2.2.2.2.2.2.2.2.1) (x.2.2.2.2.2.2.2.2.2.2.2.2.2.2.2.2.2.2.2.2.2.2.2.2.2.2.2.2.2.1) (x.2.2.2.2.2.2.2.2.2.2.2.2.2.2.2.2.2.2.2.2.2.2.2.2.2.2.2.2.2.2.1) (x.2.2.2.2.2.2.2.2.2.2.2.2.2.2.2.2.2.2.2.2.2.2.2.2.2.2.2.2.2.2.2.1) (x.2.2.2.2.2.2.2.2.2.2.2.2.2.2.2.2.2.2.2.2.2.2.2.2.2.2.2.2.2.2.2.2.1) (x.2.2.2.2.2.2.2.2.2.2.2.2.2.2.2.2.2.2.2.2.2.2.2.2.2.2.2.2.2.2.2.2.2.1) (x.2.2.2.2.2.2.2.2.2.2.2.2.2.2.2.2.2.2.2.2.2.2.2.2.2.2.2.2.2.2.2.2.2.2.1) (x.2.2.2.2.2.2.2.2.2.2.2.2.2.2.2.2.2.2.2.2.2.2.2.2.2.2.2.2.2.2.2.2.2.2.2)
theorem ne9 : Nonempty Pack9 := ⟨(aWorld 1, default, default, default, default, default, default, default, default, default, default, default, default, default, default, default, default, default, default, default, default, default, default, default, default, default, default, default, callerA, default, default, default, default, (start Mine.view).1, default, default)⟩
@[irreducible] noncomputable def pk9 : Pack9 := bad ne9 PrX9
@[irreducible] noncomputable def w : World := pk9.1
@[irreducible] noncomputable def news : List (Addr × Obj) := pk9.2.1
@[irreducible] noncomputable def d : Addr := pk9.2.2.1
@[irreducible] noncomputable def e : Addr := pk9.2.2.2.1
@[irreducible] noncomputable def od : Obj := pk9.2.2.2.2.1
@[irreducible] noncomputable def oe : Obj := pk9.2.2.2.2.2.1
@[irreducible] noncomputable def a9 : Int := pk9.2.2.2.2.2.2.1
@[irreducible] noncomputable def b : Int := pk9.2.2.2.2.2.2.2.1
@[irreducible] noncomputable def a' : Int := pk9.2.2.2.2.2.2.2.2.1
@[irreducible] noncomputable def b' : Int := pk9.2.2.2.2.2.2.2.2.2.1
@[irreducible] noncomputable def t : Tok := pk9.2.2.2.2.2.2.2.2.2.2.1
@[irreducible] noncomputable def u : Tok := pk9.2.2.2.2.2.2.2.2.2.2.2.1
@[irreducible] noncomputable def t' : Tok := pk9.2.2.2.2.2.2.2.2.2.2.2.2.1
@[irreducible] noncomputable def u' : Tok := pk9.2.2.2.2.2.2.2.2.2.2.2.2.2.1
@[irreducible] noncomputable def p : Program := pk9.2.2.2.2.2.2.2.2.2.2.2.2.2.2.1
@[irreducible] noncomputable def loose : List Str := pk9.2.2.2.2.2.2.2.2.2.2.2.2.2.2.2.1
@[irreducible] noncomputable def mean : ExcName → Option Value := pk9.2.2.2.2.2.2.2.2.2.2.2.2.2.2.2.2.1
@[irreducible] noncomputable def mg : Str → Option Value := pk9.2.2.2.2.2.2.2.2.2.2.2.2.2.2.2.2.2.1
@[irreducible] noncomputable def mb : Str → Option Value := pk9.2.2.2.2.2.2.2.2.2.2.2.2.2.2.2.2.2.2.1
@[irreducible] noncomputable def dp : Nat := pk9.2.2.2.2.2.2.2.2.2.2.2.2.2.2.2.2.2.2.2.1
@[irreducible] noncomputable def un : Nat := pk9.2.2.2.2.2.2.2.2.2.2.2.2.2.2.2.2.2.2.2.2.1
@[irreducible] noncomputable def gd : Option (List Code) := pk9.2.2.2.2.2.2.2.2.2.2.2.2.2.2.2.2.2.2.2.2.2.1
@[irreducible] noncomputable def cn : Str := pk9.2.2.2.2.2.2.2.2.2.2.2.2.2.2.2.2.2.2.2.2.2.2.1
@[irreducible] noncomputable def cs : Scope := pk9.2.2.2.2.2.2.2.2.2.2.2.2.2.2.2.2.2.2.2.2.2.2.2.1
@[irreducible] noncomputable def a : Addr := pk9.2.2.2.2.2.2.2.2.2.2.2.2.2.2.2.2.2.2.2.2.2.2.2.2.1
@[irreducible] noncomputable def ccd : Value := pk9.2.2.2.2.2.2.2.2.2.2.2.2.2.2.2.2.2.2.2.2.2.2.2.2.2.1
@[irreducible] noncomputable def cl : List (Str × Addr) := pk9.2.2.2.2.2.2.2.2.2.2.2.2.2.2.2.2.2.2.2.2.2.2.2.2.2.2.1
@[irreducible] noncomputable def outer : List Env := pk9.2.2.2.2.2.2.2.2.2.2.2.2.2.2.2.2.2.2.2.2.2.2.2.2.2.2.2.1
@[irreducible] noncomputable def A₀ : Around := pk9.2.2.2.2.2.2.2.2.2.2.2.2.2.2.2.2.2.2.2.2.2.2.2.2.2.2.2.2.1
@[irreducible] noncomputable def base : Heap := pk9.2.2.2.2.2.2.2.2.2.2.2.2.2.2.2.2.2.2.2.2.2.2.2.2.2.2.2.2.2.1
@[irreducible] noncomputable def h₀ : Heap := pk9.2.2.2.2.2.2.2.2.2.2.2.2.2.2.2.2.2.2.2.2.2.2.2.2.2.2.2.2.2.2.1
@[irreducible] noncomputable def L : Addr := pk9.2.2.2.2.2.2.2.2.2.2.2.2.2.2.2.2.2.2.2.2.2.2.2.2.2.2.2.2.2.2.2.1
@[irreducible] noncomputable def m : Str → Option Value := pk9.2.2.2.2.2.2.2.2.2.2.2.2.2.2.2.2.2.2.2.2.2.2.2.2.2.2.2.2.2.2.2.2.1
@[irreducible] noncomputable def s₀ : Shared := pk9.2.2.2.2.2.2.2.2.2.2.2.2.2.2.2.2.2.2.2.2.2.2.2.2.2.2.2.2.2.2.2.2.2.1
@[irreducible] noncomputable def Q : Value → Shared → Prop := pk9.2.2.2.2.2.2.2.2.2.2.2.2.2.2.2.2.2.2.2.2.2.2.2.2.2.2.2.2.2.2.2.2.2.2.1
@[irreducible] noncomputable def E : Value → Shared → Prop := pk9.2.2.2.2.2.2.2.2.2.2.2.2.2.2.2.2.2.2.2.2.2.2.2.2.2.2.2.2.2.2.2.2.2.2.2
theorem core9 : Pr9 w news d e od oe a9 b a' b' t u t' u' p loose mean mg mb dp un gd cn cs a ccd cl outer A₀ base h₀ L m s₀ Q E := by
  intro hd1 hd2 hd3 he1 he2 he3 hm hm' hde
  w_top off
  k_with_none
  k_with "eval Name" => (k_here; (with_reducible show wpAny _ _ (eval (PySem.Expr.Name _ _) (compEnvC _ _ _ _)) _ _ _); k_dflt (first
    | (refine' LCgL.ld_own ?Nx80 ?hmx80 ?hCx80 ?hxx80 ?_ ?hkx80 ?hlx80 ?hdx80; (case hlx80 => rfl); (case hkx80 => rfl); (case hdx80 => decide); (case Nx80 => k_asm); (case hmx80 => ((with_reducible (repeat (first | exact List.mem_cons_self | exact mem_led (by with_reducible assumption) | refine List.mem_cons_of_mem _ ?_ | refine mem_led_sub (by with_reducible assumption) ?_))); (first | done | with_reducible assumption))); (case hCx80 => with_reducible assumption); (case hxx80 => with_reducible assumption); k_whole)
    | (refine' kcf_cell ?Nx80 ?cx80 ?mx80 ?dx80 ?_ ?ax80 ?bx80 ?hdx80; (case bx80 => rfl); (case ax80 => rfl); (case hdx80 => decide); (case Nx80 => k_asm); (case cx80 => rfl); (case mx80 => ((with_reducible (repeat (first | exact List.mem_cons_self | exact mem_led (by with_reducible assumption) | refine List.mem_cons_of_mem _ ?_ | refine mem_led_sub (by with_reducible assumption) ?_))); (first | done | with_reducible assumption))); (case dx80 => k_asm); k_whole)
    | (refine' LCgL.ld_built ?Fx80 ?Xx80 ?Tx80 ?ex80 ?vx80 ?nx80 ?_ ?gx80 ?bx80 ?hkx80 ?hxx80 ?hdx80; (case hxx80 => rfl); (case hkx80 => rfl); (case gx80 => rfl); (case bx80 => rfl); (case hdx80 => decide); (case Fx80 => k_asm); (case Xx80 => k_asm); (case Tx80 => k_asm); (case ex80 => k_is); (case vx80 => boot_by_name); (case nx80 => decide); k_whole)))
  unfold DoesAt
  k_fill
  intro B F X N T hk hd' hu' hret
  refine wpAny_call ?_
  k_dflt (refine' code_defS (sub := [(e, oe), (d, od)]) ?kS ?kN ?k1 ?k2 ?k3 ?k4 ?k5 ?kA ?kF ?kK ?k6 ?k7 ?k8 ?k9 ?kB ?_ ?c2 ?c3 ?c4 ?c5; (case kS => exact List.forall_mem_cons.mpr ⟨hm', List.forall_mem_cons.mpr ⟨hm, List.forall_mem_nil _⟩⟩); (case kN => exact List.cons_ne_nil _ _); (case kA => exact rfl); (case kF => exact rfl); (case kK => assumption); (case k1 => k_asm); (case k2 => k_asm); (case k3 => k_asm); (case k4 => k_asm); (case k5 => k_asm); (case k6 => k_is); (case k7 => k_is); (case k8 => ktr_room); (case k9 => exact BindsTo.of_eq rfl); (case c5 => decide); (case kB => exact locs rfl); (case c2 => exact rfl); (case c3 => exact rfl); (case c4 => exact rfl); k_whole; intro g' L' h' tk' b9 ob9 FG' F' N' B' X' T' l1 lb9 bk9; (try simp only [List.cons_append, List.nil_append] at l1); (try k_lt l1); (try simp only [List.cons_append, List.nil_append] at N'); (try dsimp only); (try k_fold))
  k_steps
  all_goals first
    | (exfalso; exact bad_f (by assumption : (Spec.lookup _ _).isSome = false) (by rfl))
    | ((rename Obj.IsDictOf _ _ _ => hD9); (rename PyProof.V.FlatPairs _ _ _ => hf9); (rename Fr _ _ _ _ => F9);
       refine hret _ [_] _ _ (by assumption) (bk9 _ _ _ [_] (by assumption) (by assumption)) (ord1 lb9 ?_) ⟨_, _, _, _, _, _, rfl, rfl, hD9, hf9, (by assumption), rfl, rfl⟩; (simp only [AllLt, and_true] at *; omega))
  all_goals trace_state
  all_goals w_report
theorem all9 (x : Pack9) : PrX9 x := all_of_bad ne9 (by with_unfolding_all exact core9) x
end EA2
theorem adc2_does (w : World) (news : List (Addr × Obj)) (d e : Addr) (od oe : Obj) (a b a' b' : Int) (t u t' u' : Tok) (hd1 : od.IsDictOf (strKind Challenge.rw_wo0027_01.row.prog w) [(Str.ofString "front", .int a t), (Str.ofString "rear", .int b u)]) (hd2 : PyProof.V.FlatPairs PyData.str [(Str.ofString "front", .int a t), (Str.ofString "rear", .int b u)] [(.str (Str.ofString "front"), .int a), (.str (Str.ofString "rear"), .int b)]) (hd3 : (d == sysModules) = false) (he1 : oe.IsDictOf (strKind Challenge.rw_wo0027_01.row.prog w) [(Str.ofString "front", .int a' t'), (Str.ofString "rear", .int b' u')]) (he2 : PyProof.V.FlatPairs PyData.str [(Str.ofString "front", .int a' t'), (Str.ofString "rear", .int b' u')] [(.str (Str.ofString "front"), .int a'), (.str (Str.ofString "rear"), .int b')]) (he3 : (e == sysModules) = false) (hm : (d, od) ∈ news) (hm' : (e, oe) ∈ news) (hde : d ≠ e) : Does w 5 48 70 [.ref d, .ref e] news (fun r tl => ∃ D oD x y tx ty, r = .ref D ∧ tl = [(D, oD)] ∧ oD.IsDictOf (strKind Challenge.rw_wo0027_01.row.prog w) [(Str.ofString "front", .int x tx), (Str.ofString "rear", .int y ty)] ∧ PyProof.V.FlatPairs PyData.str [(Str.ofString "front", .int x tx), (Str.ofString "rear", .int y ty)] [(.str (Str.ofString "front"), .int x), (.str (Str.ofString "rear"), .int y)] ∧ (D == sysModules) = false ∧ x = a + a' ∧ y = b + b') :=
  fun q90 q91 q92 q93 q94 q95 q96 q97 q98 q99 q910 q911 q912 q913 q914 q915 q916 q917 q918 q919 q920 q921 => EA2.all9 (w, news, d, e, od, oe, a, b, a', b', t, u, t', u', q90, q91, q92, q93, q94, q95, q96, q97, q98, q99, q910, q911, q912, q913, q914, q915, q916, q917, q918, q919, q920, q921) hd1 hd2 hd3 he1 he2 he3 hm hm' hde
end Mine
end
section
open PySem PySem.W PySem.Calls PyProof.Rows
set_option Elab.async false
set_option maxRecDepth 100000
set_option maxHeartbeats 8000000
set_option pp.deepTerms false
set_option pp.deepTerms.threshold 4
set_option pp.maxSteps 6000
namespace Mine

theorem ord2 {news : List (Addr × Obj)} {b D D' : Addr} {oD oD' : Obj} (lb : ∀ q ∈ news, q.1 ≤ b) (h : @LT.lt Nat _ b D) (h' : @LT.lt Nat _ b D') : ∀ p ∈ [(D, oD), (D', oD')], ∀ q ∈ news, q.1 < p.1 := fun p hp q hq => by
  rcases List.mem_cons.mp hp with rfl | hp
  · exact Nat.lt_of_le_of_lt (lb q hq) h
  · rw [List.mem_singleton.mp hp]; exact Nat.lt_of_le_of_lt (lb q hq) h'

theorem afs0_does (w : World) (news : List (Addr × Obj)) (G S d e : Addr) (od oe : Obj) (c0 c1 c2 c3 s0 s1 s2 s3 : Int) (v0 v1 v2 v3 z0 z1 z2 z3 : Tok) (a' b' : Int) (t' u' : Tok) (hd1 : od.IsDictOf (strKind Challenge.rw_wo0027_01.row.prog w) ([] : List (Str × Value))) (hd2 : PyProof.V.FlatPairs PyData.str [] []) (hd3 : (d == sysModules) = false) (he1 : oe.IsDictOf (strKind Challenge.rw_wo0027_01.row.prog w) [(Str.ofString "front", .int a' t'), (Str.ofString "rear", .int b' u')]) (he2 : PyProof.V.FlatPairs PyData.str [(Str.ofString "front", .int a' t'), (Str.ofString "rear", .int b' u')] [(.str (Str.ofString "front"), .int a'), (.str (Str.ofString "rear"), .int b')]) (he3 : (e == sysModules) = false) (hT : (G, tup #[.int c0 v0, .int c1 v1, .int c2 v2, .int c3 v3, .ref d]) ∈ news) (hS : (S, tup #[.int s0 z0, .int s1 z1, .int s2 z2, .int s3 z3, .ref e]) ∈ news) (hm : (d, od) ∈ news) (hm' : (e, oe) ∈ news) (hde : d ≠ e) :
    Does w 6 60 63 [.ref G, .ref S] news (fun r tl => ∃ R D oD x y tx ty w0 w1 w2 w3, r = .ref R ∧ tl = [(R, tup #[.int (s0 + c0) w0, .int (s1 + c1) w1, .int (s2 + c2) w2, .int (s3 + c3) w3, .ref D]), (D, oD)] ∧ oD.IsDictOf (strKind Challenge.rw_wo0027_01.row.prog w) [(Str.ofString "front", .int x tx), (Str.ofString "rear", .int y ty)] ∧ PyProof.V.FlatPairs PyData.str [(Str.ofString "front", .int x tx), (Str.ofString "rear", .int y ty)] [(.str (Str.ofString "front"), .int x), (.str (Str.ofString "rear"), .int y)] ∧ (D == sysModules) = false ∧ x = a' ∧ y = b') := by
  w_top off
  k_with_none
  k_with "subscriptTail Name Constant ref int" => (k_here; (with_reducible show wpAny _ _ (subscriptTail _ _ (Value.ref _) (Value.int _ _)) _ _ _); (with_unfolding_all refine' item_litK ?k1x81 ?k2x81 ?k3x81 ?k4x81 ?_ ?k6x81; (case k1x81 => exact News.isList (by k_asm) (by ((with_reducible (repeat (first | exact List.mem_cons_self | exact mem_led (by with_reducible assumption) | refine List.mem_cons_of_mem _ ?_ | refine mem_led_sub (by with_reducible assumption) ?_))); (first | done | with_reducible assumption)))); (case k2x81 => decide); (case k3x81 => decide); (case k4x81 => rfl); (case k6x81 => with_unfolding_all rfl); k_whole))
  k_with "subscriptTail Name Name ref int" => (k_here; (with_reducible show wpAny _ _ (subscriptTail _ _ (Value.ref _) (Value.int _ _)) _ _ _); (with_unfolding_all refine' item_litK ?k1x82 ?k2x82 ?k3x82 ?k4x82 ?_ ?k6x82; (case k1x82 => exact News.isList (by k_asm) (by ((with_reducible (repeat (first | exact List.mem_cons_self | exact mem_led (by with_reducible assumption) | refine List.mem_cons_of_mem _ ?_ | refine mem_led_sub (by with_reducible assumption) ?_))); (first | done | with_reducible assumption)))); (case k2x82 => decide); (case k3x82 => decide); (case k4x82 => rfl); (case k6x82 => with_unfolding_all rfl); k_whole))
  k_with "eval ListComp" => (k_here; k_dflt (first
    | refine comp_exprNH (by k_asm) (by with_unfolding_all rfl) (by rfl) (by decide) (fun _ => by rfl) (fun _ => by rfl) ?_
    | refine comp_exprXH (by k_asm) (by with_unfolding_all rfl) (by rfl) (by decide) (fun _ => by rfl) (fun _ => by rfl) ?_); intro Fin9'ₓ hFin9'ₓ)
  k_with "exec Assign cons ListComp" => (k_here; k_dflt (refine comp_assignNH (by k_asm) (by rfl) (by with_unfolding_all rfl) (by with_unfolding_all rfl) (by rfl) (by decide) (fun _ => by rfl) (fun _ => by rfl) (by rfl) (by rfl) ?_); intro Fin9'ₓ hFin9'ₓ)
  k_with "CSrc" => (k_here; k_dflt (first
    | (refine csrc_listNH rfl (by k_asm) (by k_asm) (by is_list) (by first | size_fits | exact Nat.le_of_ble_eq_true rfl) (by rfl) (by rfl) ?_; intro g1'ₓ g2'ₓ nb'ₓ Fin8'ₓ hFin8'ₓ)
    | (refine csrc_listXH rfl (by k_asm) (by k_asm) (by is_list) (by first | size_fits | exact Nat.le_of_ble_eq_true rfl) (by rfl) (by rfl) (fun _ => by rfl) ?_; intro g1'ₓ g2'ₓ nb'ₓ Fin8'ₓ hFin8'ₓ)
    | (refine csrc_tupleNH rfl (by k_asm) (by k_asm) (News.isTup (by k_asm) (by ((with_reducible (repeat (first | exact List.mem_cons_self | exact mem_led (by with_reducible assumption) | refine List.mem_cons_of_mem _ ?_ | refine mem_led_sub (by with_reducible assumption) ?_))); (first | done | with_reducible assumption)))) (by first | size_fits | exact Nat.le_of_ble_eq_true rfl) (by rfl) (by rfl) ?_; intro g1'ₓ g2'ₓ nb'ₓ Fin8'ₓ hFin8'ₓ)
    | (refine csrc_rangeNH rfl (by k_asm) (by k_asm) (by assumption) (by first | decide | rfl) (by first | rfl | decide) (by first | size_fits | exact Nat.le_of_ble_eq_true rfl) (by rfl) (by rfl) ?_; intro g1'ₓ g2'ₓ nb'ₓ Fin8'ₓ hFin8'ₓ)
    | (refine csrc_rangeXH rfl (by k_asm) (by k_asm) (by assumption) (by first | decide | rfl) (by first | rfl | decide) (by first | size_fits | exact Nat.le_of_ble_eq_true rfl) (by rfl) (by rfl) (fun _ => by rfl) ?_; intro g1'ₓ g2'ₓ nb'ₓ Fin8'ₓ hFin8'ₓ)); refine AllInC.both ?_; intro hsub'ₓ; (try dsimp only [AllInC]); intros; (try (refine AllInC.skip ?_)))
  k_with "call type:zip" => (k_here; (with_reducible show wpAny _ _ (PySem.call _ _) (CSrc _ _ _ _ _ _ _ _ _ _ _ _ _ _ _ _) _ _); k_dflt (refine csrc_zipH rfl (by k_asm) (by k_asm) (by is_list) (by is_list) (by first | size_fits | exact Nat.le_of_ble_eq_true rfl) (by rfl) (by rfl) (by decide) (by rfl) ?_; intro g1'ₓ g2'ₓ nb'ₓ Fin8'ₓ hFin8'ₓ); refine AllInC.both ?_; intro hsub'ₓ; (try dsimp only [AllInC]); intros; (try (refine AllInC.skip ?_)))
  k_with "call type:enumerate" => (k_here; (with_reducible show wpAny _ _ (PySem.call _ _) (CSrc _ _ _ _ _ _ _ _ _ _ _ _ _ _ _ _) _ _); k_dflt (refine csrc_enumH rfl (by k_asm) (by k_asm) (by is_list) (by first | size_fits | exact Nat.le_of_ble_eq_true rfl) (by rfl) (by rfl) (by decide) (by rfl) ?_; intro g1'ₓ g2'ₓ nb'ₓ Fin8'ₓ hFin8'ₓ); refine AllInC.both ?_; intro hsub'ₓ; (try dsimp only [AllInC]); intros; (try (refine AllInC.skip ?_)))
  k_with "RestL" => ((with_unfolding_all (first | refine RestL.l0 (by rfl) ?_ | refine RestL.lx0 (by rfl) ?_ | refine RestL.r0 ?_ | refine RestL.rx0 ?_ | refine RestL.z0 (by rfl) (by rfl) ?_ | refine RestL.e1 (by rfl) ?_)); intros)
  k_with "RestL" => (with_unfolding_all refine RestL.zero (by with_reducible assumption) (by with_reducible assumption) ?_)
  k_with "CFinE" => ((unfold CFinE); intro D'ₓ h'ₓ tk'ₓ l1'ₓ F'ₓ N'ₓ o1'ₓ; (try k_lt l1'ₓ); (try simp only [List.nil_append, List.cons_append, LCg.Off1, and_true] at o1'ₓ); (try simp only [snoc, List.nil_append, List.cons_append] at N'ₓ); (try dsimp only))
  k_with "CFinA" => ((unfold CFinA); intro D'ₓ h'ₓ tk'ₓ l1'ₓ F'ₓ N'ₓ o1'ₓ; (try k_lt l1'ₓ); (try simp only [List.nil_append, List.cons_append, LCg.Off1, and_true] at o1'ₓ); (try simp only [snoc, List.nil_append, List.cons_append] at N'ₓ); (try dsimp only))
  k_with "Hid" => ((with_reducible show Hid _ (Value.ref _) _); (first | (first | refine hid_fact (by with_reducible assumption) (by with_reducible assumption) ?_ | refine hid_fact3 (by with_reducible assumption) (by with_reducible assumption) ?_); intro hX9ₓ; simp only [AllLt, and_true] at hX9ₓ | skip); (refine turn1 (by with_reducible assumption) (by rfl) (by k_asm) (by first | k_asm | exact news_snd (by k_asm) | exact news_snd (news_snd (by k_asm)) | exact news_snd (news_snd (news_snd (by k_asm))) | exact news_snd (news_snd (news_snd (news_snd (by k_asm))))) (by first | assumption | exact And.right (α := _) (by assumption : AllLt _ (_ :: _)) | exact (And.right (And.right (by assumption : AllLt _ (_ :: _ :: _)))) | exact (And.right (And.right (And.right (by assumption : AllLt _ (_ :: _ :: _ :: _)))))) ?_))
  k_with "Hid" => ((with_reducible show Hid _ (Value.int _ _) _); (refine turn0 (by with_reducible assumption) (by rfl) (by k_asm) (by first | k_asm | exact news_tail (by k_asm) | exact news_tail (news_tail (by k_asm)) | exact news_tail (news_tail (news_tail (by k_asm))) | exact news_tail (news_tail (news_tail (news_tail (by k_asm)))) | exact news_tail (news_tail (news_tail (news_tail (news_tail (by k_asm))))) | exact news_tail (news_tail (news_tail (news_tail (news_tail (news_tail (by k_asm))))))) ?_))
  k_with "Hid" => ((with_reducible show Hid _ Value.none _); (refine turnF (by with_reducible assumption) (by rfl) (by k_asm) (by first | k_asm | exact news_tail (by k_asm) | exact news_tail (news_tail (by k_asm)) | exact news_tail (news_tail (news_tail (by k_asm))) | exact news_tail (news_tail (news_tail (news_tail (by k_asm)))) | exact news_tail (news_tail (news_tail (news_tail (news_tail (by k_asm))))) | exact news_tail (news_tail (news_tail (news_tail (news_tail (news_tail (by k_asm))))))) ?_))
  k_with "call ref" => (k_here; (with_reducible show wpAny _ _ (PySem.call (Value.ref 70) _) _ _ _); k_dflt (refine' Does.use (adc0_does _ _ _ _ _ _ _ _ _ _ ?h1x95 ?h2x95 ?h3x95 ?g1x95 ?g2x95 ?g3x95 ?m1x95 ?m2x95 ?nex95) ?k1x95 ?k2x95 ?k3x95 ?k4x95 ?k5x95 ?kKx95 ?kdx95 ?kux95 ?_; (case k1x95 => k_asm); (case k2x95 => k_asm); (case k3x95 => k_asm); (case k4x95 => k_asm); (case k5x95 => k_asm); (case m1x95 => ((with_reducible (repeat (first | exact List.mem_cons_self | exact mem_led (by with_reducible assumption) | refine List.mem_cons_of_mem _ ?_ | refine mem_led_sub (by with_reducible assumption) ?_))); (first | done | with_reducible assumption))); (case m2x95 => ((with_reducible (repeat (first | exact List.mem_cons_self | exact mem_led (by with_reducible assumption) | refine List.mem_cons_of_mem _ ?_ | refine mem_led_sub (by with_reducible assumption) ?_))); (first | done | with_reducible assumption))); (case h1x95 => assumption); (case h2x95 => assumption); (case h3x95 => assumption); (case g1x95 => assumption); (case g2x95 => assumption); (case g3x95 => assumption); (case nex95 => assumption); (case kKx95 => first | exact rfl | assumption); (case kdx95 => ktr_room); (case kux95 => ktr_units); intro r9ₓ tl9ₓ h9ₓ tk9ₓ F9ₓ N9ₓ l9ₓ p9ₓ; obtain ⟨D9ₓ, oD9ₓ, x9ₓ, y9ₓ, tx9ₓ, ty9ₓ, e1ₓ, e2ₓ, q1ₓ, q2ₓ, q3ₓ, e3ₓ, e4ₓ⟩ := p9ₓ; subst e1ₓ; subst e2ₓ; subst e3ₓ; subst e4ₓ; replace l9ₓ := allLt_of (l9ₓ _ (List.mem_singleton.mpr rfl)); simp only [AllLt, and_true] at l9ₓ; (try simp only [List.cons_append, List.nil_append] at N9ₓ); (try dsimp only); (try k_sweep)))
  k_with "call builtin:sum" => (k_here; (with_reducible show wpAny _ _ (PySem.call (Value.builtin "sum") [Value.ref _]) _ _ _); k_dflt (refine' sumK ?k0x96 ?k1x96 ?k2x96 ?k3x96 ?k4x96 ?_; (case k0x96 => with_unfolding_all rfl); (case k1x96 => k_asm); (case k2x96 => k_asm); (case k3x96 => is_list); (case k4x96 => first | l_ints | l_intsW); k_whole); intro h'ₓ tk'ₓ t'ₓ F'ₓ N'ₓ; (try simp only [List.sum_cons, List.sum_nil]))
  k_with "eval Name" => (k_here; (with_reducible show wpAny _ _ (eval (PySem.Expr.Name _ _) (compEnvC _ _ _ _)) _ _ _); k_dflt (first
    | (refine' LCgL.ld_own ?Nx97 ?hmx97 ?hCx97 ?hxx97 ?_ ?hkx97 ?hlx97 ?hdx97; (case hlx97 => rfl); (case hkx97 => rfl); (case hdx97 => decide); (case Nx97 => k_asm); (case hmx97 => ((with_reducible (repeat (first | exact List.mem_cons_self | exact mem_led (by with_reducible assumption) | refine List.mem_cons_of_mem _ ?_ | refine mem_led_sub (by with_reducible assumption) ?_))); (first | done | with_reducible assumption))); (case hCx97 => with_reducible assumption); (case hxx97 => with_reducible assumption); k_whole)
    | (refine' kcf_cell ?Nx97 ?cx97 ?mx97 ?dx97 ?_ ?ax97 ?bx97 ?hdx97; (case bx97 => rfl); (case ax97 => rfl); (case hdx97 => decide); (case Nx97 => k_asm); (case cx97 => rfl); (case mx97 => ((with_reducible (repeat (first | exact List.mem_cons_self | exact mem_led (by with_reducible assumption) | refine List.mem_cons_of_mem _ ?_ | refine mem_led_sub (by with_reducible assumption) ?_))); (first | done | with_reducible assumption))); (case dx97 => k_asm); k_whole)
    | (refine' LCgL.ld_built ?Fx97 ?Xx97 ?Tx97 ?ex97 ?vx97 ?nx97 ?_ ?gx97 ?bx97 ?hkx97 ?hxx97 ?hdx97; (case hxx97 => rfl); (case hkx97 => rfl); (case gx97 => rfl); (case bx97 => rfl); (case hdx97 => decide); (case Fx97 => k_asm); (case Xx97 => k_asm); (case Tx97 => k_asm); (case ex97 => k_is); (case vx97 => boot_by_name); (case nx97 => decide); k_whole)))
  unfold Does
  k_fill
  intro p loose mean mg mb dp un gd cn cs a ccd cl outer A₀ base h₀ L m s₀ Q E B F X N T hk hd' hu' hret
  refine wpAny_call ?_
  k_dflt (refine' code_defS (sub := [(S, tup #[.int s0 z0, .int s1 z1, .int s2 z2, .int s3 z3, .ref e]), (G, tup #[.int c0 v0, .int c1 v1, .int c2 v2, .int c3 v3, .ref d]), (e, oe), (d, od)]) ?kS ?kN ?k1 ?k2 ?k3 ?k4 ?k5 ?kA ?kF ?kK ?k6 ?k7 ?k8 ?k9 ?kB ?_ ?c2 ?c3 ?c4 ?c5; (case kS => exact List.forall_mem_cons.mpr ⟨hS, List.forall_mem_cons.mpr ⟨hT, List.forall_mem_cons.mpr ⟨hm', List.forall_mem_cons.mpr ⟨hm, List.forall_mem_nil _⟩⟩⟩⟩); (case kN => exact List.cons_ne_nil _ _); (case kA => exact rfl); (case kF => exact rfl); (case kK => assumption); (case k1 => k_asm); (case k2 => k_asm); (case k3 => k_asm); (case k4 => k_asm); (case k5 => k_asm); (case k6 => k_is); (case k7 => k_is); (case k8 => ktr_room); (case k9 => exact BindsTo.of_eq rfl); (case c5 => decide); (case kB => exact locs rfl); (case c2 => exact rfl); (case c3 => exact rfl); (case c4 => exact rfl); k_whole; intro g' L' h' tk' b9 ob9 FG' F' N' B' X' T' l1 lb9 bk9; (try simp only [List.cons_append, List.nil_append] at l1); (try k_lt l1); (try simp only [List.cons_append, List.nil_append] at N'); (try dsimp only); (try k_fold))
  k_steps
  all_goals (rename Fr _ _ _ _ => F9)
  all_goals (refine hret _ [_, _] _ _ (by assumption) (bk9 _ _ _ [_, _] (by assumption) (by assumption)) (ord2 lb9 ?_ ?_) ⟨_, _, _, _, _, _, _, _, _, _, _, rfl, rfl, by assumption, by assumption, by assumption, rfl, rfl⟩ <;> (simp only [AllLt, and_true] at *; omega))

theorem afs2_does (w : World) (news : List (Addr × Obj)) (G S d e : Addr) (od oe : Obj) (c0 c1 c2 c3 s0 s1 s2 s3 : Int) (v0 v1 v2 v3 z0 z1 z2 z3 : Tok) (a b a' b' : Int) (t u t' u' : Tok) (hd1 : od.IsDictOf (strKind Challenge.rw_wo0027_01.row.prog w) [(Str.ofString "front", .int a t), (Str.ofString "rear", .int b u)]) (hd2 : PyProof.V.FlatPairs PyData.str [(Str.ofString "front", .int a t), (Str.ofString "rear", .int b u)] [(.str (Str.ofString "front"), .int a), (.str (Str.ofString "rear"), .int b)]) (hd3 : (d == sysModules) = false) (he1 : oe.IsDictOf (strKind Challenge.rw_wo0027_01.row.prog w) [(Str.ofString "front", .int a' t'), (Str.ofString "rear", .int b' u')]) (he2 : PyProof.V.FlatPairs PyData.str [(Str.ofString "front", .int a' t'), (Str.ofString "rear", .int b' u')] [(.str (Str.ofString "front"), .int a'), (.str (Str.ofString "rear"), .int b')]) (he3 : (e == sysModules) = false) (hT : (G, tup #[.int c0 v0, .int c1 v1, .int c2 v2, .int c3 v3, .ref d]) ∈ news) (hS : (S, tup #[.int s0 z0, .int s1 z1, .int s2 z2, .int s3 z3, .ref e]) ∈ news) (hm : (d, od) ∈ news) (hm' : (e, oe) ∈ news) (hde : d ≠ e) :
    Does w 6 60 63 [.ref G, .ref S] news (fun r tl => ∃ R D oD x y tx ty w0 w1 w2 w3, r = .ref R ∧ tl = [(R, tup #[.int (s0 + c0) w0, .int (s1 + c1) w1, .int (s2 + c2) w2, .int (s3 + c3) w3, .ref D]), (D, oD)] ∧ oD.IsDictOf (strKind Challenge.rw_wo0027_01.row.prog w) [(Str.ofString "front", .int x tx), (Str.ofString "rear", .int y ty)] ∧ PyProof.V.FlatPairs PyData.str [(Str.ofString "front", .int x tx), (Str.ofString "rear", .int y ty)] [(.str (Str.ofString "front"), .int x), (.str (Str.ofString "rear"), .int y)] ∧ (D == sysModules) = false ∧ x = a + a' ∧ y = b + b') := by
  w_top off
  k_with_none
  k_with "subscriptTail Name Constant ref int" => (k_here; (with_reducible show wpAny _ _ (subscriptTail _ _ (Value.ref _) (Value.int _ _)) _ _ _); (with_unfolding_all refine' item_litK ?k1x98 ?k2x98 ?k3x98 ?k4x98 ?_ ?k6x98; (case k1x98 => exact News.isList (by k_asm) (by ((with_reducible (repeat (first | exact List.mem_cons_self | exact mem_led (by with_reducible assumption) | refine List.mem_cons_of_mem _ ?_ | refine mem_led_sub (by with_reducible assumption) ?_))); (first | done | with_reducible assumption)))); (case k2x98 => decide); (case k3x98 => decide); (case k4x98 => rfl); (case k6x98 => with_unfolding_all rfl); k_whole))
  k_with "subscriptTail Name Name ref int" => (k_here; (with_reducible show wpAny _ _ (subscriptTail _ _ (Value.ref _) (Value.int _ _)) _ _ _); (with_unfolding_all refine' item_litK ?k1x99 ?k2x99 ?k3x99 ?k4x99 ?_ ?k6x99; (case k1x99 => exact News.isList (by k_asm) (by ((with_reducible (repeat (first | exact List.mem_cons_self | exact mem_led (by with_reducible assumption) | refine List.mem_cons_of_mem _ ?_ | refine mem_led_sub (by with_reducible assumption) ?_))); (first | done | with_reducible assumption)))); (case k2x99 => decide); (case k3x99 => decide); (case k4x99 => rfl); (case k6x99 => with_unfolding_all rfl); k_whole))
  k_with "eval ListComp" => (k_here; k_dflt (first
    | refine comp_exprNH (by k_asm) (by with_unfolding_all rfl) (by rfl) (by decide) (fun _ => by rfl) (fun _ => by rfl) ?_
    | refine comp_exprXH (by k_asm) (by with_unfolding_all rfl) (by rfl) (by decide) (fun _ => by rfl) (fun _ => by rfl) ?_); intro Fin9'ₓ hFin9'ₓ)
  k_with "exec Assign cons ListComp" => (k_here; k_dflt (refine comp_assignNH (by k_asm) (by rfl) (by with_unfolding_all rfl) (by with_unfolding_all rfl) (by rfl) (by decide) (fun _ => by rfl) (fun _ => by rfl) (by rfl) (by rfl) ?_); intro Fin9'ₓ hFin9'ₓ)
  k_with "CSrc" => (k_here; k_dflt (first
    | (refine csrc_listNH rfl (by k_asm) (by k_asm) (by is_list) (by first | size_fits | exact Nat.le_of_ble_eq_true rfl) (by rfl) (by rfl) ?_; intro g1'ₓ g2'ₓ nb'ₓ Fin8'ₓ hFin8'ₓ)
    | (refine csrc_listXH rfl (by k_asm) (by k_asm) (by is_list) (by first | size_fits | exact Nat.le_of_ble_eq_true rfl) (by rfl) (by rfl) (fun _ => by rfl) ?_; intro g1'ₓ g2'ₓ nb'ₓ Fin8'ₓ hFin8'ₓ)
    | (refine csrc_tupleNH rfl (by k_asm) (by k_asm) (News.isTup (by k_asm) (by ((with_reducible (repeat (first | exact List.mem_cons_self | exact mem_led (by with_reducible assumption) | refine List.mem_cons_of_mem _ ?_ | refine mem_led_sub (by with_reducible assumption) ?_))); (first | done | with_reducible assumption)))) (by first | size_fits | exact Nat.le_of_ble_eq_true rfl) (by rfl) (by rfl) ?_; intro g1'ₓ g2'ₓ nb'ₓ Fin8'ₓ hFin8'ₓ)
    | (refine csrc_rangeNH rfl (by k_asm) (by k_asm) (by assumption) (by first | decide | rfl) (by first | rfl | decide) (by first | size_fits | exact Nat.le_of_ble_eq_true rfl) (by rfl) (by rfl) ?_; intro g1'ₓ g2'ₓ nb'ₓ Fin8'ₓ hFin8'ₓ)
    | (refine csrc_rangeXH rfl (by k_asm) (by k_asm) (by assumption) (by first | decide | rfl) (by first | rfl | decide) (by first | size_fits | exact Nat.le_of_ble_eq_true rfl) (by rfl) (by rfl) (fun _ => by rfl) ?_; intro g1'ₓ g2'ₓ nb'ₓ Fin8'ₓ hFin8'ₓ)); refine AllInC.both ?_; intro hsub'ₓ; (try dsimp only [AllInC]); intros; (try (refine AllInC.skip ?_)))
  k_with "call type:zip" => (k_here; (with_reducible show wpAny _ _ (PySem.call _ _) (CSrc _ _ _ _ _ _ _ _ _ _ _ _ _ _ _ _) _ _); k_dflt (refine csrc_zipH rfl (by k_asm) (by k_asm) (by is_list) (by is_list) (by first | size_fits | exact Nat.le_of_ble_eq_true rfl) (by rfl) (by rfl) (by decide) (by rfl) ?_; intro g1'ₓ g2'ₓ nb'ₓ Fin8'ₓ hFin8'ₓ); refine AllInC.both ?_; intro hsub'ₓ; (try dsimp only [AllInC]); intros; (try (refine AllInC.skip ?_)))
  k_with "call type:enumerate" => (k_here; (with_reducible show wpAny _ _ (PySem.call _ _) (CSrc _ _ _ _ _ _ _ _ _ _ _ _ _ _ _ _) _ _); k_dflt (refine csrc_enumH rfl (by k_asm) (by k_asm) (by is_list) (by first | size_fits | exact Nat.le_of_ble_eq_true rfl) (by rfl) (by rfl) (by decide) (by rfl) ?_; intro g1'ₓ g2'ₓ nb'ₓ Fin8'ₓ hFin8'ₓ); refine AllInC.both ?_; intro hsub'ₓ; (try dsimp only [AllInC]); intros; (try (refine AllInC.skip ?_)))
  k_with "RestL" => ((with_unfolding_all (first | refine RestL.l0 (by rfl) ?_ | refine RestL.lx0 (by rfl) ?_ | refine RestL.r0 ?_ | refine RestL.rx0 ?_ | refine RestL.z0 (by rfl) (by rfl) ?_ | refine RestL.e1 (by rfl) ?_)); intros)
  k_with "RestL" => (with_unfolding_all refine RestL.zero (by with_reducible assumption) (by with_reducible assumption) ?_)
  k_with "CFinE" => ((unfold CFinE); intro D'ₓ h'ₓ tk'ₓ l1'ₓ F'ₓ N'ₓ o1'ₓ; (try k_lt l1'ₓ); (try simp only [List.nil_append, List.cons_append, LCg.Off1, and_true] at o1'ₓ); (try simp only [snoc, List.nil_append, List.cons_append] at N'ₓ); (try dsimp only))
  k_with "CFinA" => ((unfold CFinA); intro D'ₓ h'ₓ tk'ₓ l1'ₓ F'ₓ N'ₓ o1'ₓ; (try k_lt l1'ₓ); (try simp only [List.nil_append, List.cons_append, LCg.Off1, and_true] at o1'ₓ); (try simp only [snoc, List.nil_append, List.cons_append] at N'ₓ); (try dsimp only))
  k_with "Hid" => ((with_reducible show Hid _ (Value.ref _) _); (first | (first | refine hid_fact (by with_reducible assumption) (by with_reducible assumption) ?_ | refine hid_fact3 (by with_reducible assumption) (by with_reducible assumption) ?_); intro hX9ₓ; simp only [AllLt, and_true] at hX9ₓ | skip); (refine turn1 (by with_reducible assumption) (by rfl) (by k_asm) (by first | k_asm | exact news_snd (by k_asm) | exact news_snd (news_snd (by k_asm)) | exact news_snd (news_snd (news_snd (by k_asm))) | exact news_snd (news_snd (news_snd (news_snd (by k_asm))))) (by first | assumption | exact And.right (α := _) (by assumption : AllLt _ (_ :: _)) | exact (And.right (And.right (by assumption : AllLt _ (_ :: _ :: _)))) | exact (And.right (And.right (And.right (by assumption : AllLt _ (_ :: _ :: _ :: _)))))) ?_))
  k_with "Hid" => ((with_reducible show Hid _ (Value.int _ _) _); (refine turn0 (by with_reducible assumption) (by rfl) (by k_asm) (by first | k_asm | exact news_tail (by k_asm) | exact news_tail (news_tail (by k_asm)) | exact news_tail (news_tail (news_tail (by k_asm))) | exact news_tail (news_tail (news_tail (news_tail (by k_asm)))) | exact news_tail (news_tail (news_tail (news_tail (news_tail (by k_asm))))) | exact news_tail (news_tail (news_tail (news_tail (news_tail (news_tail (by k_asm))))))) ?_))
  k_with "Hid" => ((with_reducible show Hid _ Value.none _); (refine turnF (by with_reducible assumption) (by rfl) (by k_asm) (by first | k_asm | exact news_tail (by k_asm) | exact news_tail (news_tail (by k_asm)) | exact news_tail (news_tail (news_tail (by k_asm))) | exact news_tail (news_tail (news_tail (news_tail (by k_asm)))) | exact news_tail (news_tail (news_tail (news_tail (news_tail (by k_asm))))) | exact news_tail (news_tail (news_tail (news_tail (news_tail (news_tail (by k_asm))))))) ?_))
  k_with "call ref" => (k_here; (with_reducible show wpAny _ _ (PySem.call (Value.ref 70) _) _ _ _); k_dflt (refine' Does.use (adc0_does _ _ _ _ _ _ _ _ _ _ ?h1x112 ?h2x112 ?h3x112 ?g1x112 ?g2x112 ?g3x112 ?m1x112 ?m2x112 ?nex112) ?k1x112 ?k2x112 ?k3x112 ?k4x112 ?k5x112 ?kKx112 ?kdx112 ?kux112 ?_; (case k1x112 => k_asm); (case k2x112 => k_asm); (case k3x112 => k_asm); (case k4x112 => k_asm); (case k5x112 => k_asm); (case m1x112 => ((with_reducible (repeat (first | exact List.mem_cons_self | exact mem_led (by with_reducible assumption) | refine List.mem_cons_of_mem _ ?_ | refine mem_led_sub (by with_reducible assumption) ?_))); (first | done | with_reducible assumption))); (case m2x112 => ((with_reducible (repeat (first | exact List.mem_cons_self | exact mem_led (by with_reducible assumption) | refine List.mem_cons_of_mem _ ?_ | refine mem_led_sub (by with_reducible assumption) ?_))); (first | done | with_reducible assumption))); (case h1x112 => assumption); (case h2x112 => assumption); (case h3x112 => assumption); (case g1x112 => assumption); (case g2x112 => assumption); (case g3x112 => assumption); (case nex112 => assumption); (case kKx112 => first | exact rfl | assumption); (case kdx112 => ktr_room); (case kux112 => ktr_units); intro r9ₓ tl9ₓ h9ₓ tk9ₓ F9ₓ N9ₓ l9ₓ p9ₓ; obtain ⟨D9ₓ, oD9ₓ, x9ₓ, y9ₓ, tx9ₓ, ty9ₓ, e1ₓ, e2ₓ, q1ₓ, q2ₓ, q3ₓ, e3ₓ, e4ₓ⟩ := p9ₓ; subst e1ₓ; subst e2ₓ; subst e3ₓ; subst e4ₓ; replace l9ₓ := allLt_of (l9ₓ _ (List.mem_singleton.mpr rfl)); simp only [AllLt, and_true] at l9ₓ; (try simp only [List.cons_append, List.nil_append] at N9ₓ); (try dsimp only); (try k_sweep)))
  k_with "call ref" => (k_here; (with_reducible show wpAny _ _ (PySem.call (Value.ref 70) _) _ _ _); k_dflt (refine' Does.use (adc2_does _ _ _ _ _ _ _ _ _ _ _ _ _ _ ?h1x113 ?h2x113 ?h3x113 ?g1x113 ?g2x113 ?g3x113 ?m1x113 ?m2x113 ?nex113) ?k1x113 ?k2x113 ?k3x113 ?k4x113 ?k5x113 ?kKx113 ?kdx113 ?kux113 ?_; (case k1x113 => k_asm); (case k2x113 => k_asm); (case k3x113 => k_asm); (case k4x113 => k_asm); (case k5x113 => k_asm); (case m1x113 => ((with_reducible (repeat (first | exact List.mem_cons_self | exact mem_led (by with_reducible assumption) | refine List.mem_cons_of_mem _ ?_ | refine mem_led_sub (by with_reducible assumption) ?_))); (first | done | with_reducible assumption))); (case m2x113 => ((with_reducible (repeat (first | exact List.mem_cons_self | exact mem_led (by with_reducible assumption) | refine List.mem_cons_of_mem _ ?_ | refine mem_led_sub (by with_reducible assumption) ?_))); (first | done | with_reducible assumption))); (case h1x113 => assumption); (case h2x113 => assumption); (case h3x113 => assumption); (case g1x113 => assumption); (case g2x113 => assumption); (case g3x113 => assumption); (case nex113 => assumption); (case kKx113 => first | exact rfl | assumption); (case kdx113 => ktr_room); (case kux113 => ktr_units); intro r9ₓ tl9ₓ h9ₓ tk9ₓ F9ₓ N9ₓ l9ₓ p9ₓ; obtain ⟨D9ₓ, oD9ₓ, x9ₓ, y9ₓ, tx9ₓ, ty9ₓ, e1ₓ, e2ₓ, q1ₓ, q2ₓ, q3ₓ, e3ₓ, e4ₓ⟩ := p9ₓ; subst e1ₓ; subst e2ₓ; subst e3ₓ; subst e4ₓ; replace l9ₓ := allLt_of (l9ₓ _ (List.mem_singleton.mpr rfl)); simp only [AllLt, and_true] at l9ₓ; (try simp only [List.cons_append, List.nil_append] at N9ₓ); (try dsimp only); (try k_sweep)))
  k_with "call builtin:sum" => (k_here; (with_reducible show wpAny _ _ (PySem.call (Value.builtin "sum") [Value.ref _]) _ _ _); k_dflt (refine' sumK ?k0x114 ?k1x114 ?k2x114 ?k3x114 ?k4x114 ?_; (case k0x114 => with_unfolding_all rfl); (case k1x114 => k_asm); (case k2x114 => k_asm); (case k3x114 => is_list); (case k4x114 => first | l_ints | l_intsW); k_whole); intro h'ₓ tk'ₓ t'ₓ F'ₓ N'ₓ; (try simp only [List.sum_cons, List.sum_nil]))
  k_with "eval Name" => (k_here; (with_reducible show wpAny _ _ (eval (PySem.Expr.Name _ _) (compEnvC _ _ _ _)) _ _ _); k_dflt (first
    | (refine' LCgL.ld_own ?Nx115 ?hmx115 ?hCx115 ?hxx115 ?_ ?hkx115 ?hlx115 ?hdx115; (case hlx115 => rfl); (case hkx115 => rfl); (case hdx115 => decide); (case Nx115 => k_asm); (case hmx115 => ((with_reducible (repeat (first | exact List.mem_cons_self | exact mem_led (by with_reducible assumption) | refine List.mem_cons_of_mem _ ?_ | refine mem_led_sub (by with_reducible assumption) ?_))); (first | done | with_reducible assumption))); (case hCx115 => with_reducible assumption); (case hxx115 => with_reducible assumption); k_whole)
    | (refine' kcf_cell ?Nx115 ?cx115 ?mx115 ?dx115 ?_ ?ax115 ?bx115 ?hdx115; (case bx115 => rfl); (case ax115 => rfl); (case hdx115 => decide); (case Nx115 => k_asm); (case cx115 => rfl); (case mx115 => ((with_reducible (repeat (first | exact List.mem_cons_self | exact mem_led (by with_reducible assumption) | refine List.mem_cons_of_mem _ ?_ | refine mem_led_sub (by with_reducible assumption) ?_))); (first | done | with_reducible assumption))); (case dx115 => k_asm); k_whole)
    | (refine' LCgL.ld_built ?Fx115 ?Xx115 ?Tx115 ?ex115 ?vx115 ?nx115 ?_ ?gx115 ?bx115 ?hkx115 ?hxx115 ?hdx115; (case hxx115 => rfl); (case hkx115 => rfl); (case gx115 => rfl); (case bx115 => rfl); (case hdx115 => decide); (case Fx115 => k_asm); (case Xx115 => k_asm); (case Tx115 => k_asm); (case ex115 => k_is); (case vx115 => boot_by_name); (case nx115 => decide); k_whole)))
  unfold Does
  k_fill
  intro p loose mean mg mb dp un gd cn cs a ccd cl outer A₀ base h₀ L m s₀ Q E B F X N T hk hd' hu' hret
  refine wpAny_call ?_
  k_dflt (refine' code_defS (sub := [(S, tup #[.int s0 z0, .int s1 z1, .int s2 z2, .int s3 z3, .ref e]), (G, tup #[.int c0 v0, .int c1 v1, .int c2 v2, .int c3 v3, .ref d]), (e, oe), (d, od)]) ?kS ?kN ?k1 ?k2 ?k3 ?k4 ?k5 ?kA ?kF ?kK ?k6 ?k7 ?k8 ?k9 ?kB ?_ ?c2 ?c3 ?c4 ?c5; (case kS => exact List.forall_mem_cons.mpr ⟨hS, List.forall_mem_cons.mpr ⟨hT, List.forall_mem_cons.mpr ⟨hm', List.forall_mem_cons.mpr ⟨hm, List.forall_mem_nil _⟩⟩⟩⟩); (case kN => exact List.cons_ne_nil _ _); (case kA => exact rfl); (case kF => exact rfl); (case kK => assumption); (case k1 => k_asm); (case k2 => k_asm); (case k3 => k_asm); (case k4 => k_asm); (case k5 => k_asm); (case k6 => k_is); (case k7 => k_is); (case k8 => ktr_room); (case k9 => exact BindsTo.of_eq rfl); (case c5 => decide); (case kB => exact locs rfl); (case c2 => exact rfl); (case c3 => exact rfl); (case c4 => exact rfl); k_whole; intro g' L' h' tk' b9 ob9 FG' F' N' B' X' T' l1 lb9 bk9; (try simp only [List.cons_append, List.nil_append] at l1); (try k_lt l1); (try simp only [List.cons_append, List.nil_append] at N'); (try dsimp only); (try k_fold))
  k_steps
  all_goals (rename Fr _ _ _ _ => F9)
  all_goals (refine hret _ [_, _] _ _ (by assumption) (bk9 _ _ _ [_, _] (by assumption) (by assumption)) (ord2 lb9 ?_ ?_) ⟨_, _, _, _, _, _, _, _, _, _, _, rfl, rfl, by assumption, by assumption, by assumption, rfl, rfl⟩ <;> (simp only [AllLt, and_true] at *; omega))

end Mine
end
section
open PySem PySem.W PySem.Calls PyProof.Rows
set_option Elab.async false
set_option maxRecDepth 100000
set_option maxHeartbeats 2000000
namespace Mine
open PySem.StrLaws Builtin.Str in
theorem occ_pad (l t : Nat) : ∃ rest, occurrences (padOf l [97, 32, 98] t) (Str.ofString "a") 0 (padOf l [97, 32, 98] t).length 1 = l :: rest := by
  have ea : Str.ofString "a" = ⟨#[97]⟩ := by decide +kernel
  rw [ea]
  have hne : (!(occurrences (padOf l [97, 32, 98] t) ⟨#[97]⟩ 0 (padOf l [97, 32, 98] t).length 1).isEmpty) = true := by
    rw [found_one, decide_eq_true_eq]
    show 97 ∈ (padL l [97, 32, 98] t).toArray.toList
    simp [padL]
  have hsp := occ_spec (padOf l [97, 32, 98] t) ⟨#[97]⟩ 0 (padOf l [97, 32, 98] t).length 1
  generalize occurrences (padOf l [97, 32, 98] t) ⟨#[97]⟩ 0 (padOf l [97, 32, 98] t).length 1 = xs at hne hsp ⊢
  cases xs with
  | nil => cases hne
  | cons i rest =>
    have h := (subAt_one _ _ _).mp (hsp i (.head _))
    have h2 : (padL l [97, 32, 98] t)[i]? = some 97 := h
    refine ⟨rest, ?_⟩
    congr 1
    unfold padL at h2
    by_cases h1 : i < l
    · rw [List.getElem?_append_left (by rw [List.length_replicate]; exact h1), List.getElem?_replicate, if_pos h1] at h2
      cases h2
    · rw [List.getElem?_append_right (by rw [List.length_replicate]; omega), List.length_replicate] at h2
      obtain ⟨j, hj⟩ : ∃ j, i - l = j := ⟨_, rfl⟩
      rw [hj] at h2
      match j, h2 with
      | 0, _ => omega
      | 1, h2 => cases h2
      | 2, h2 => cases h2
      | j + 3, h2 =>
        have : (List.replicate t 32)[j]? = some 97 := h2
        rw [List.getElem?_replicate] at this
        by_cases hjt : j < t
        · rw [if_pos hjt] at this; cases this
        · rw [if_neg hjt] at this; cases this
section
variable {prog : Program} {w : World} {A : Around} {E : Value → Shared → Prop} {s : Shared} {l t n : Nat} {core : List Nat} {k : Int} {tk u : Tok} {x y : Str} {Q : Value → Shared → Prop}
theorem mul_blank (h0 : 0 ≤ k) (h1 : k ≤ 1000) (h : ∀ (n : Nat) t' k', (n : Int) = k → Q (.str (padOf n [] 0) t') { s with toks := k' }) : wpAny (model prog w) A (binaryOp .Mult (.str (Str.ofString " ") tk) (.int k u)) Q E s := by
  refine SB.mul (mulOk_of 1 1000 (by decide +kernel) h1 (by omega) (by decide) (by decide)) fun t' k' => ?_
  rw [mul_pad]
  exact h _ _ _ (Int.toNat_of_nonneg h0)
theorem add_lead (hs : n + (l + (core.length + t)) ≤ 100000) (h : ∀ l' t' k', l' = n + l → Q (.str (padOf l' core t) t') { s with toks := k' }) : wpAny (model prog w) A (binaryOp .Add (.str (padOf n [] 0) tk) (.str (padOf l core t) u)) Q E s :=
  SB.add (fun t' k' => by rw [add_pad]; exact h _ _ _ rfl) (by rw [len_padOf, len_padOf]; simp only [List.length_nil]; exact Nat.le_trans (by omega : _ ≤ 100000) (by decide))
theorem add_leadX (e : x = padOf 0 core 0) (hs : n + core.length ≤ 100000) (h : ∀ l' t' k', l' = n → Q (.str (padOf l' core 0) t') { s with toks := k' }) : wpAny (model prog w) A (binaryOp .Add (.str (padOf n [] 0) tk) (.str x u)) Q E s := by
  subst e
  exact add_lead (by omega) fun l' t' k' e => h l' t' k' (by omega)
theorem add_trail (hs : n + (l + (core.length + t)) ≤ 100000) (h : ∀ t₂ t' k', t₂ = t + n → Q (.str (padOf l core t₂) t') { s with toks := k' }) : wpAny (model prog w) A (binaryOp .Add (.str (padOf l core t) tk) (.str (padOf n [] 0) u)) Q E s :=
  SB.add (fun t' k' => by rw [pad_add]; exact h _ _ _ rfl) (by rw [len_padOf, len_padOf]; simp only [List.length_nil]; exact Nat.le_trans (by omega : _ ≤ 100000) (by decide))
theorem len_pad3 {a b c : Nat} (hs : l + t ≤ 100000) (h : ∀ z : Int, z = (l : Int) + 3 + (t : Int) → Q (.int z (s.toks + 1)) { s with toks := s.toks + 1 + 1 }) : wpAny (model prog w) A (PySem.call (.builtin "len") [.str (padOf l [a, b, c] t) tk]) Q E s :=
  len_pad (by simp only [List.length_cons, List.length_nil]; omega) (h _ (by simp only [List.length_cons, List.length_nil]; omega))
theorem len_pad1 {a : Nat} (hs : l + t ≤ 100000) (h : ∀ z : Int, z = (l : Int) + 1 + (t : Int) → Q (.int z (s.toks + 1)) { s with toks := s.toks + 1 + 1 }) : wpAny (model prog w) A (PySem.call (.builtin "len") [.str (padOf l [a] t) tk]) Q E s :=
  len_pad (by simp only [List.length_cons, List.length_nil]; omega) (h _ (by simp only [List.length_cons, List.length_nil]; omega))
end
theorem textA : Str.ofString "a b" = padOf 0 [97, 32, 98] 0 := by decide +kernel
theorem textC : Str.ofString "c" = padOf 0 [99] 0 := by decide +kernel
/-- an equation kept from the eyes of omega -/
noncomputable def Keep (p : Prop) : Prop := p
/-- the contract of _strip_padding with plain equations -/
theorem sub_two (n m w : Nat) : (n - w) + (m - (w - n)) = n + m - w :=
  (Nat.le_total w n).elim (fun h => by rw [Nat.sub_eq_zero_of_le h, Nat.sub_zero]; exact (Nat.sub_add_comm h).symm) (fun h => by rw [Nat.sub_eq_zero_of_le h, Nat.zero_add, Nat.sub_sub_right m h, Nat.add_comm])
theorem strip3x (l t k : Nat) (n : Int) (hn : n = k) : (l - k ≤ l ∧ t - (k - l) ≤ t ∧ (l : Int) + t ≤ ((l - k : Nat) : Int) + ((t - (k - l) : Nat) : Int) + n) := by
  refine ⟨Nat.sub_le _ _, Nat.sub_le _ _, ?_⟩
  rw [hn]
  exact Int.ofNat_le.mpr (Nat.le_add_of_sub_le (Nat.le_of_eq (sub_two l t k).symm))
theorem strip3 (w : World) (news : List (Addr × Obj)) (n : Int) (l t : Nat) (t1 t2 : Tok) (hn : 0 ≤ n ∧ n ≤ 1000) (hl : l + t ≤ 900) :
    Does w 1 8 21 [.str (padOf l [97, 32, 98] t) t1, .int n t2] news (fun r tl => tl = [] ∧ ∃ (l' t' : Nat) (k : Tok), r = .str (padOf l' [97, 32, 98] t') k ∧ (l' ≤ l ∧ t' ≤ t ∧ (l : Int) + t ≤ l' + t' + n) ∧ Keep (l' = l - n.toNat ∧ t' = t - (n.toNat - l))) := by
  intro p loose mean mg mb dp un gd cn cs a ccd cl outer A₀ base h₀ L m s Q E B F X N T hk h1 h2 ret
  refine strip_does w news n l t 97 98 [97, 32, 98] t1 t2 rfl rfl (by decide) (by decide) hn.1 hn.2 (by simp only [List.length_cons, List.length_nil]; omega) p loose mean mg mb dp un gd cn cs a ccd cl outer A₀ base h₀ L m s Q E B F X N T hk h1 h2 ?_
  rintro r tl h' tk' F' N' o' ⟨e, k, e'⟩
  exact ret r tl h' tk' F' N' o' ⟨e, _, _, k, e', strip3x l t n.toNat n (Int.toNat_of_nonneg hn.1).symm, rfl, rfl⟩
theorem strip1 (w : World) (news : List (Addr × Obj)) (n : Int) (l : Nat) (t1 t2 : Tok) (hn : 0 ≤ n ∧ n ≤ 1000) (hl : l ≤ 900) :
    Does w 1 8 21 [.str (padOf l [99] 0) t1, .int n t2] news (fun r tl => tl = [] ∧ ∃ (l' : Nat) (k : Tok), r = .str (padOf l' [99] 0) k ∧ (l' ≤ l) ∧ Keep (l' = l - n.toNat)) := by
  intro p loose mean mg mb dp un gd cn cs a ccd cl outer A₀ base h₀ L m s Q E B F X N T hk h1 h2 ret
  refine strip_does w news n l 0 99 99 [99] t1 t2 rfl rfl (by decide) (by decide) hn.1 hn.2 (by simp only [List.length_cons, List.length_nil]; omega) p loose mean mg mb dp un gd cn cs a ccd cl outer A₀ base h₀ L m s Q E B F X N T hk h1 h2 ?_
  rintro r tl h' tk' F' N' o' ⟨e, k, e'⟩
  exact ret r tl h' tk' F' N' o' ⟨e, _, k, by rw [e', Nat.zero_sub], Nat.sub_le _ _, rfl⟩
end Mine
end
section
open PySem PySem.W PySem.Calls PyProof.Rows
set_option Elab.async false
set_option maxRecDepth 100000
set_option maxHeartbeats 2000000
namespace Mine
section
variable {prog : Program} {w : World} {A : Around} {E : Value → Shared → Prop} {h₀ : Heap} {env : Env} {target : PySem.Expr} {body : List Stmt} {Q : Flow → Shared → Prop} {s : Shared} {ws : List (Addr × String)} {keep : List (Addr × Obj)} {x : Str} {tk u : Tok} {l t : Nat}
theorem index_pad {Q : Value → Shared → Prop} (h : Q (.int (l : Int) s.toks) { s with toks := s.toks + 1 }) : wpAny (model prog w) A (PySem.call (.builtin "str.index") [.str (padOf l [97, 32, 98] t) tk, .str (Str.ofString "a") u]) Q E s := by
  obtain ⟨rest, ho⟩ := occ_pad l t
  exact SC.index ho h
theorem allObj_mono : ∀ {ws : List (Addr × String)} {k k' : List (Addr × Obj) → Prop}, (∀ its, k its → k' its) → AllObj ws k → AllObj ws k'
  | [], _, _, h, a => h _ a
  | _ :: _, _, _, h, a => fun o ho => allObj_mono (fun its => h (_ :: its)) (a o ho)
theorem unrPostW_mono {L : Addr} {s₁ s₂ : Shared} {its : List (Addr × Obj)} {r r' : (Str → Option Value) → List (Addr × Obj) → Prop} {f : Flow} (h : ∀ m n, r m n → r' m n) (p : UnrPostW h₀ L s₁ its r Q f s₂) : UnrPostW h₀ L s₁ its r' Q f s₂ := by
  unfold UnrPostW at p ⊢
  have key : UnrEndW h₀ L s₁ its r s₂ → UnrEndW h₀ L s₁ its r' s₂ := fun ⟨a, b, c, d, e1, e2, e3, e4, e5⟩ => ⟨a, b, c, d, e1, e2, e3, e4, h _ _ e5⟩
  cases f <;> first | exact p | exact key p
/-- a for loop by an invariant on what is left, the names and the ledger -/
theorem loopI (Inv : List Itm → (Str → Option Value) → List (Addr × Obj) → Prop)
    (done : ∀ m news, Inv [] m news → ∀ h tk, Fr h₀ env.locals h m → News h₀ env.locals h news → Q .next { s with heap := h, toks := tk })
    (step : ∀ a r m news, Inv (a :: r) m news → ∀ v h tk, a.Is v h → Fr h₀ env.locals h m → AllObj ws (fun its => News h₀ env.locals h (its ++ news) →
      wpAny (model prog w) A (assign target env v) (fun _ s₂ => wpAny (model prog w) A (execs body env) (UnrPostW h₀ env.locals { s with heap := h, toks := tk } its (fun m' n' => SubL keep n' ∧ Inv r m' n') Q) E s₂) E { s with heap := h, toks := tk })) :
    ∀ xs m news, Inv xs m news → ItemsRest prog w A E h₀ env target body Q s ws keep xs m news
  | [], m, news, i => done m news i
  | a :: r, m, news, i => fun v h tk hv F => allObj_mono (fun _ c N => wpAny_mono (c N) (fun _ _ b => wpAny_mono b (fun _ _ p => unrPostW_mono (fun m' n' q => ⟨q.1, loopI Inv done step r m' n' q.2⟩) p) fun _ _ y => y) fun _ _ y => y) (step a r m news i v h tk hv F)
end
theorem loopW {prog : Program} {w : World} {A : Around} {E : Value → Shared → Prop} {h₀ : Heap} {env : Env} {target : PySem.Expr} {body : List Stmt} {Q : Flow → Shared → Prop} {s : Shared} {ws : List (Addr × String)} {keep : List (Addr × Obj)} (Inv : List (Addr × String) → List Itm → (Str → Option Value) → List (Addr × Obj) → Prop) {xs : List Itm} {m : Str → Option Value} {news : List (Addr × Obj)} (init : Inv ws xs m news)
    (done : ∀ m news, Inv ws [] m news → ∀ h tk, Fr h₀ env.locals h m → News h₀ env.locals h news → Q .next { s with heap := h, toks := tk })
    (step : ∀ a r m news, Inv ws (a :: r) m news → ∀ v h tk, a.Is v h → Fr h₀ env.locals h m → AllObj ws (fun its => News h₀ env.locals h (its ++ news) →
      wpAny (model prog w) A (assign target env v) (fun _ s₂ => wpAny (model prog w) A (execs body env) (UnrPostW h₀ env.locals { s with heap := h, toks := tk } its (fun m' n' => SubL keep n' ∧ Inv ws r m' n') Q) E s₂) E { s with heap := h, toks := tk })) :
    ItemsRest prog w A E h₀ env target body Q s ws keep xs m news := loopI (Inv ws) done step xs m news init
theorem items_weaken {prog : Program} {w : World} {A : Around} {E : Value → Shared → Prop} {h₀ : Heap} {env : Env} {target : PySem.Expr} {body : List Stmt} {Q : Flow → Shared → Prop} {s : Shared} {ws : List (Addr × String)} {keep : List (Addr × Obj)} {m : Str → Option Value} {sub news : List (Addr × Obj)} (h : ∀ p ∈ sub, p ∈ news) :
    ∀ {xs : List Itm}, ItemsRest prog w A E h₀ env target body Q s ws keep xs m sub → ItemsRest prog w A E h₀ env target body Q s ws keep xs m news
  | [], r => fun h' tk F N => r h' tk F fun p hp => N p (h p hp)
  | _ :: _, r => fun v h' tk hv F => allObj_mono (fun its c N => c fun p hp => N p (by
      rcases List.mem_append.mp hp with q | q
      · exact List.mem_append_left _ q
      · exact List.mem_append_right _ (h p q))) (r v h' tk hv F)
theorem loopV {prog : Program} {w : World} {A : Around} {E : Value → Shared → Prop} {h₀ : Heap} {env : Env} {target : PySem.Expr} {body : List Stmt} {Q : Flow → Shared → Prop} {s : Shared} {ws : List (Addr × String)} {keep : List (Addr × Obj)} (Inv : List (Addr × String) → List Itm → (Str → Option Value) → List (Addr × Obj) → Prop) {xs : List Itm} {m : Str → Option Value} {news : List (Addr × Obj)} (init : ∃ sub, (∀ p ∈ sub, p ∈ news) ∧ Inv ws xs m sub)
    (done : ∀ m news, Inv ws [] m news → ∀ h tk, Fr h₀ env.locals h m → News h₀ env.locals h news → Q .next { s with heap := h, toks := tk })
    (step : ∀ a r m news, Inv ws (a :: r) m news → ∀ v h tk, a.Is v h → Fr h₀ env.locals h m → AllObj ws (fun its => News h₀ env.locals h (its ++ news) →
      wpAny (model prog w) A (assign target env v) (fun _ s₂ => wpAny (model prog w) A (execs body env) (UnrPostW h₀ env.locals { s with heap := h, toks := tk } its (fun m' n' => SubL keep n' ∧ Inv ws r m' n') Q) E s₂) E { s with heap := h, toks := tk })) :
    ItemsRest prog w A E h₀ env target body Q s ws keep xs m news := by
  obtain ⟨sub, hs, hi⟩ := init
  exact items_weaken hs (loopW Inv hi done step)
theorem allObj_of : ∀ {ws : List (Addr × String)} {k : List (Addr × Obj) → Prop}, (∀ its : List (Addr × Obj), its.map (·.1) = ws.map (·.1) → k its) → AllObj ws k
  | [], _, h => h [] rfl
  | w :: _, _, h => fun o _ => allObj_of fun its e => h ((w.1, o) :: its) (congrArg (w.1 :: ·) e)
theorem its_off {its : List (Addr × Obj)} {ws : List (Addr × String)} {S : Addr} (hws : its.map (·.1) = ws.map (·.1)) (h : ∀ q ∈ ws, S ≠ q.1) : ∀ p ∈ its, p.1 ≠ S := fun p hp => by
  have e : p.1 ∈ ws.map (·.1) := hws ▸ List.mem_map_of_mem hp
  obtain ⟨q, hq, e⟩ := List.mem_map.mp e
  exact e ▸ (h q hq).symm
/-- what a turn finds beside the list that it fills, behind one name -/
theorem hide_its {g : Heap} {L : Addr} {h : Heap} {its old : List (Addr × Obj)} {ws : List (Addr × String)} {T d Sn : Addr} {oT od oS : Obj} {x : Addr × Obj} {G : Prop} (N : News g L h (its ++ (T, oT) :: (d, od) :: (Sn, oS) :: old)) (hx : x ∈ old) (hws : its.map (·.1) = ws.map (·.1)) (hap : ∀ p ∈ (T, oT) :: (d, od) :: (Sn, oS) :: old, ∀ q ∈ ws, p.1 ≠ q.1) (hT : @Ne Nat T Sn) (hD : @Ne Nat d Sn) (ho : ∀ p ∈ old, p.1 ≠ Sn)
    (K : ∀ hid, News g L h ((Sn, oS) :: hid) → (∀ p ∈ its, p ∈ hid) → (T, oT) ∈ hid → (d, od) ∈ hid → x ∈ hid → (∀ p ∈ old, p ∈ hid) → (∀ p ∈ hid, p.1 ≠ Sn) → G) : G :=
  K ((T, oT) :: (d, od) :: (its ++ old))
    (fun p hp => N p (by
      rcases List.mem_cons.mp hp with e | hp
      · exact List.mem_append_right _ (.tail _ (.tail _ (e ▸ .head _)))
      rcases List.mem_cons.mp hp with e | hp
      · exact List.mem_append_right _ (e ▸ .head _)
      rcases List.mem_cons.mp hp with e | hp
      · exact List.mem_append_right _ (.tail _ (e ▸ .head _))
      rcases List.mem_append.mp hp with hp | hp
      · exact List.mem_append_left _ hp
      · exact List.mem_append_right _ (.tail _ (.tail _ (.tail _ hp)))))
    (fun _ hp => .tail _ (.tail _ (List.mem_append_left _ hp))) (.head _) (.tail _ (.head _)) (.tail _ (.tail _ (List.mem_append_right _ hx))) (fun _ hp => .tail _ (.tail _ (List.mem_append_right _ hp)))
    (fun p hp => by
      rcases List.mem_cons.mp hp with e | hp
      · rw [e]; exact hT
      rcases List.mem_cons.mp hp with e | hp
      · rw [e]; exact hD
      rcases List.mem_append.mp hp with hp | hp
      · exact its_off hws (hap _ (.tail _ (.tail _ (.head _)))) p hp
      · exact ho p hp)
theorem allLt_at {d : Nat} : ∀ {l : List (Addr × Obj)}, AllLt d l → ∀ p ∈ l, @LT.lt Nat _ p.1 d
  | [], _, _, h => nomatch h
  | _ :: _, h, p, hp => by
    rcases List.mem_cons.mp hp with e | hp
    · rw [e]; exact h.1
    · exact allLt_at h.2 p hp
theorem ne_ws {ws : List (Addr × String)} {its hid : List (Addr × Obj)} {R : Addr} (hws : its.map (·.1) = ws.map (·.1)) (hi : ∀ p ∈ its, p ∈ hid) (h : AllLt R hid) : ∀ q ∈ ws, R ≠ q.1 := fun q hq => by
  have e : q.1 ∈ its.map (·.1) := hws ▸ List.mem_map_of_mem hq
  obtain ⟨p, hp, e⟩ := List.mem_map.mp e
  exact e ▸ (Nat.ne_of_gt (allLt_at h p (hi p hp)))
theorem unrEnd_and {h₀ : Heap} {L : Addr} {s₁ s₂ : Shared} {its : List (Addr × Obj)} {A : List (Addr × Obj) → Prop} {B r : (Str → Option Value) → List (Addr × Obj) → Prop} (h : ∀ m n, A n → B m n → r m n) : UnrEndW h₀ L s₁ its (fun m n => A n ∧ B m n) s₂ → UnrEndW h₀ L s₁ its r s₂ := fun ⟨a, b, c, d, e1, e2, e3, e4, e5⟩ => ⟨a, b, c, d, e1, e2, e3, e4, h _ _ e5.1 e5.2⟩
/-- loopV, its turn for whatever stands behind it -/
theorem loopV2 {prog : Program} {w : World} {A : Around} {E : Value → Shared → Prop} {h₀ : Heap} {env : Env} {target : PySem.Expr} {body : List Stmt} {Q : Flow → Shared → Prop} {s : Shared} {ws : List (Addr × String)} {keep : List (Addr × Obj)} (Inv : List (Addr × String) → List Itm → (Str → Option Value) → List (Addr × Obj) → Prop) {xs : List Itm} {m : Str → Option Value} {news : List (Addr × Obj)} (init : ∃ sub, (∀ p ∈ sub, p ∈ news) ∧ Inv ws xs m sub)
    (done : ∀ m news, Inv ws [] m news → ∀ h tk, Fr h₀ env.locals h m → News h₀ env.locals h news → Q .next { s with heap := h, toks := tk })
    (step : ∀ (s : Shared) (Q : Flow → Shared → Prop) (E : Value → Shared → Prop) (R : (Str → Option Value) → List (Addr × Obj) → Prop) a r m news, Inv ws (a :: r) m news → (∀ m' n', SubL keep n' → Inv ws r m' n' → R m' n') → ∀ v h tk, a.Is v h → Fr h₀ env.locals h m → AllObj ws (fun its => News h₀ env.locals h (its ++ news) →
      wpAny (model prog w) A (assign target env v) (fun _ s₂ => wpAny (model prog w) A (execs body env) (UnrPostW h₀ env.locals { s with heap := h, toks := tk } its R Q) E s₂) E { s with heap := h, toks := tk })) :
    ItemsRest prog w A E h₀ env target body Q s ws keep xs m news :=
  loopV Inv init done fun a r m news i v h tk hv F => step s Q E _ a r m news i (fun _ _ x y => ⟨x, y⟩) v h tk hv F
theorem Does.mono {w : World} {dn un₀ : Nat} {f : Addr} {vs : List Value} {news : List (Addr × Obj)} {Post Post' : Value → List (Addr × Obj) → Prop} (D : Does w dn un₀ f vs news Post) (h : ∀ r tl, Post r tl → Post' r tl) : Does w dn un₀ f vs news Post' := by
  intro p loose mean mg mb dp un gd cn cs a ccd cl outer A₀ base h₀ L m s Q E B F X N T hk h1 h2 ret
  exact D p loose mean mg mb dp un gd cn cs a ccd cl outer A₀ base h₀ L m s Q E B F X N T hk h1 h2 fun r tl h' tk' a b c d => ret r tl h' tk' a b c (h r tl d)
/-- the book's table: empty, or the two sums -/
noncomputable def DS (w : World) (od : Obj) (F R : Int) : Prop :=
  (od.IsDictOf (strKind Challenge.rw_wo0027_01.row.prog w) ([] : List (Str × Value)) ∧ PyProof.V.FlatPairs PyData.str [] [] ∧ F = 0 ∧ R = 0) ∨
  ∃ t u, od.IsDictOf (strKind Challenge.rw_wo0027_01.row.prog w) [(Str.ofString "front", .int F t), (Str.ofString "rear", .int R u)] ∧ PyProof.V.FlatPairs PyData.str [(Str.ofString "front", .int F t), (Str.ofString "rear", .int R u)] [(.str (Str.ofString "front"), .int F), (.str (Str.ofString "rear"), .int R)]
theorem afs_any (w : World) (news : List (Addr × Obj)) (G S d e : Addr) (od oe : Obj) (c0 c1 c2 c3 s0 s1 s2 s3 : Int) (v0 v1 v2 v3 z0 z1 z2 z3 : Tok) (F R a' b' : Int) (t' u' : Tok) (hds : DS w od F R) (hd3 : (d == sysModules) = false)
    (he1 : oe.IsDictOf (strKind Challenge.rw_wo0027_01.row.prog w) [(Str.ofString "front", .int a' t'), (Str.ofString "rear", .int b' u')]) (he2 : PyProof.V.FlatPairs PyData.str [(Str.ofString "front", .int a' t'), (Str.ofString "rear", .int b' u')] [(.str (Str.ofString "front"), .int a'), (.str (Str.ofString "rear"), .int b')]) (he3 : (e == sysModules) = false)
    (hT : (G, tup #[.int c0 v0, .int c1 v1, .int c2 v2, .int c3 v3, .ref d]) ∈ news) (hS : (S, tup #[.int s0 z0, .int s1 z1, .int s2 z2, .int s3 z3, .ref e]) ∈ news) (hm : (d, od) ∈ news) (hm' : (e, oe) ∈ news) (hde : d ≠ e) :
    Does w 6 60 63 [.ref G, .ref S] news (fun r tl => ∃ Z D oD x y w0 w1 w2 w3, r = .ref Z ∧ tl = [(Z, tup #[.int (s0 + c0) w0, .int (s1 + c1) w1, .int (s2 + c2) w2, .int (s3 + c3) w3, .ref D]), (D, oD)] ∧ DS w oD x y ∧ (D == sysModules) = false ∧ x = F + a' ∧ y = R + b') := by
  rcases hds with ⟨h1, h2, rfl, rfl⟩ | ⟨t, u, h1, h2⟩
  · refine (afs0_does w news G S d e od oe c0 c1 c2 c3 s0 s1 s2 s3 v0 v1 v2 v3 z0 z1 z2 z3 a' b' t' u' h1 h2 hd3 he1 he2 he3 hT hS hm hm' hde).mono ?_
    rintro r tl ⟨Z, D, oD, x, y, tx, ty, w0, w1, w2, w3, e1, e2, q1, q2, q3, e3, e4⟩
    exact ⟨Z, D, oD, x, y, w0, w1, w2, w3, e1, e2, .inr ⟨_, _, q1, q2⟩, q3, by omega, by omega⟩
  · refine (afs2_does w news G S d e od oe c0 c1 c2 c3 s0 s1 s2 s3 v0 v1 v2 v3 z0 z1 z2 z3 F R a' b' t u t' u' h1 h2 hd3 he1 he2 he3 hT hS hm hm' hde).mono ?_
    rintro r tl ⟨Z, D, oD, x, y, tx, ty, w0, w1, w2, w3, e1, e2, q1, q2, q3, e3, e4⟩
    exact ⟨Z, D, oD, x, y, w0, w1, w2, w3, e1, e2, .inr ⟨_, _, q1, q2⟩, q3, e3, e4⟩
theorem ap5 {Sn : Addr} {o : Obj} {r : List (Addr × Obj)} {x y : Addr × Obj} {i1 i2 i3 i4 i5 : Addr} {s1 s2 s3 s4 s5 : String} (h : ∀ p ∈ x :: y :: (Sn, o) :: r, ∀ q ∈ [(i1, s1), (i2, s2), (i3, s3), (i4, s4), (i5, s5)], p.1 ≠ q.1) :
    @Ne Nat Sn i1 ∧ @Ne Nat Sn i2 ∧ @Ne Nat Sn i3 ∧ @Ne Nat Sn i4 ∧ @Ne Nat Sn i5 := by
  have h' := h (Sn, o) (.tail _ (.tail _ (.head _)))
  exact ⟨h' (i1, s1) (.head _), h' (i2, s2) (.tail _ (.head _)), h' (i3, s3) (.tail _ (.tail _ (.head _))), h' (i4, s4) (.tail _ (.tail _ (.tail _ (.head _)))), h' (i5, s5) (.tail _ (.tail _ (.tail _ (.tail _ (.head _)))))⟩
theorem news_ins {h₀ h : Heap} {L : Addr} {a b c d e f g i x : Addr × Obj} {old : List (Addr × Obj)} (N : News h₀ L h (a :: b :: c :: d :: e :: f :: g :: i :: old)) (hx : x ∈ old) : News h₀ L h (a :: b :: c :: d :: e :: f :: g :: i :: x :: old) := fun p hp => N p (by
  simp only [List.mem_cons] at hp ⊢
  rcases hp with h | h | h | h | h | h | h | h | h | h
  · exact .inl h
  · exact .inr (.inl h)
  · exact .inr (.inr (.inl h))
  · exact .inr (.inr (.inr (.inl h)))
  · exact .inr (.inr (.inr (.inr (.inl h))))
  · exact .inr (.inr (.inr (.inr (.inr (.inl h)))))
  · exact .inr (.inr (.inr (.inr (.inr (.inr (.inl h))))))
  · exact .inr (.inr (.inr (.inr (.inr (.inr (.inr (.inl h)))))))
  · subst h; exact .inr (.inr (.inr (.inr (.inr (.inr (.inr (.inr hx)))))))
  · exact .inr (.inr (.inr (.inr (.inr (.inr (.inr (.inr h))))))))
/-- one cell of the script as _law_run sees it -/
structure Cel where
  b : Addr
  n : Nat
  p : Int
  q : Int
  r : Int
  v : Int
  x0 : Tok
  x1 : Tok
  x2 : Tok
  y : Tok
noncomputable def Cel.itm (c : Cel) : Itm := .pair (fun _ => .ref c.b) (.int c.v c.y)
noncomputable def Cel.obj (c : Cel) : Obj := W.listOf #[.int c.p c.x0, .int c.q c.x1, .int c.r c.x2] c.n
noncomputable def Cel.Ok (c : Cel) : Prop := (0 ≤ c.p ∧ c.p ≤ 2) ∧ (0 ≤ c.q ∧ c.q ≤ 2) ∧ (0 ≤ c.r ∧ c.r ≤ 2) ∧ (0 ≤ c.v ∧ c.v ≤ 5)
/-- the pads and the book -/
structure RS where
  l : Nat
  t : Nat
  r : Nat
  a : Int
  b : Int
  c : Int
  i : Int
  F : Int
  R : Int
  rows : List (Int × Int × Int × Int)
/-- one turn of _law_run -/
structure Turn (c : Cel) (S S' : RS) : Prop where
  turn : ∃ (l1 t1 r1 : Nat) (rest idle : Int), (l1 : Int) = c.p + S.l ∧ (t1 : Int) = S.t + c.q ∧ (r1 : Int) = c.r + S.r ∧
    (S'.l = l1 - c.v.toNat ∧ S'.t = t1 - (c.v.toNat - l1)) ∧ rest = c.v - (l1 + 3 + t1) + (S'.l + 3 + S'.t) ∧ S'.r = r1 - rest.toNat ∧ idle = rest - (r1 + 1) + (S'.r + 1) ∧
    S'.a = S'.l + S.a ∧ S'.b = S'.t + S.b ∧ S'.c = S'.r + S.c ∧ S'.i = idle + S.i ∧ S'.F = S.F + (c.v - rest) ∧ S'.R = S.R + (rest - idle) ∧
    S'.rows = S.rows ++ [((S'.l : Int), (S'.l : Int) + S'.t, (S'.l : Int) + S'.t + S'.r, S'.i)]
inductive Turns : List Cel → RS → RS → Prop
  | nil {S} : Turns [] S S
  | cons {c r S S₁ S₂} : Turn c S S₁ → Turns r S₁ S₂ → Turns (c :: r) S S₂
theorem Turns.snoc {c : Cel} : ∀ {r : List Cel} {S S₁ S₂ : RS}, Turns r S S₁ → Turn c S₁ S₂ → Turns (r ++ [c]) S S₂
  | [], _, _, _, .nil, t => .cons t .nil
  | _ :: _, _, _, _, .cons a b, t => .cons a (b.snoc t)
structure RowE where
  at_ : Addr
  a : Int
  b : Int
  c : Int
  d : Int
  w0 : Tok
  w1 : Tok
  w2 : Tok
  w3 : Tok
  k : Nat
noncomputable def RowE.ent (ρ : RowE) : Addr × Obj := (ρ.at_, W.listOf #[.int ρ.a ρ.w0, .int ρ.b ρ.w1, .int ρ.c ρ.w2, .int ρ.d ρ.w3] ρ.k)
noncomputable def RowE.vals (ρ : RowE) : Int × Int × Int × Int := (ρ.a, ρ.b, ρ.c, ρ.d)
theorem norm1 {m : Str → Option Value} {x : Str} {v : Option Value} (h : m x = v) : (fun y => if y = x then v else m y) = m := by
  funext y; by_cases e : y = x
  · subst e; rw [if_pos rfl, h]
  · rw [if_neg e]
theorem fr_norm4 {h₀ h : Heap} {L : Addr} {m : Str → Option Value} {x1 x2 x3 x4 : Str} {v1 v2 v3 v4 : Option Value} (F : Fr h₀ L h m) (h1 : m x1 = v1) (h2 : m x2 = v2) (h3 : m x3 = v3) (h4 : m x4 = v4) :
    Fr h₀ L h (fun y => if y = x1 then v1 else if y = x2 then v2 else if y = x3 then v3 else if y = x4 then v4 else m y) := by
  have e : (fun y => if y = x1 then v1 else if y = x2 then v2 else if y = x3 then v3 else if y = x4 then v4 else m y) = m := by
    funext y
    by_cases e1 : y = x1
    · subst e1; rw [if_pos rfl, h1]
    · rw [if_neg e1]
      by_cases e2 : y = x2
      · subst e2; rw [if_pos rfl, h2]
      · rw [if_neg e2]
        by_cases e3 : y = x3
        · subst e3; rw [if_pos rfl, h3]
        · rw [if_neg e3]
          by_cases e4 : y = x4
          · subst e4; rw [if_pos rfl, h4]
          · rw [if_neg e4]
  rw [e]; exact F
end Mine
end
section
open PySem PySem.W PySem.Calls PyProof.Rows
set_option Elab.async false
set_option maxRecDepth 100000
set_option maxHeartbeats 2000000
namespace Mine
noncomputable def Z0 : RS := ⟨0, 0, 0, 0, 0, 0, 0, 0, 0, []⟩
noncomputable def seenArr (rl : List RowE) : Array Value := (rl.map fun ρ => Value.ref ρ.at_).toArray
noncomputable def RunInv (w : World) (cels : List Cel) (old0 : List (Addr × Obj)) (b9 : Addr) (ws9 : List (Addr × String)) (xs : List Itm) (m : Str → Option Value) (news' : List (Addr × Obj)) : Prop :=
  ∃ (T d Sn : Addr) (od : Obj) (arrn : Nat) (cs dn : List Cel) (Z : RS) (rl : List RowE) (f : Str → Option Value) (kt kr w0 w1 w2 w3 : Tok),
      xs = cs.map Cel.itm ∧ cels = dn ++ cs ∧ Turns dn Z0 Z ∧
      m = (fun y => if y = Str.ofString "seen" then some (.ref Sn) else if y = Str.ofString "book" then some (.ref T) else if y = Str.ofString "rear" then some (.str (padOf Z.r [99] 0) kr) else if y = Str.ofString "text" then some (.str (padOf Z.l [97, 32, 98] Z.t) kt) else f y) ∧
      news' = (T, tup #[.int Z.a w0, .int Z.b w1, .int Z.c w2, .int Z.i w3, .ref d]) :: (d, od) :: (Sn, W.listOf (seenArr rl) arrn) :: (rl.map RowE.ent ++ old0) ∧
      rl.map RowE.vals = Z.rows ∧ DS w od Z.F Z.R ∧ (d == sysModules) = false ∧
      (Z.l + 2 * cs.length ≤ 20 ∧ Z.t + 2 * cs.length ≤ 20 ∧ Z.r + 2 * cs.length ≤ 20 ∧ rl.length + cs.length ≤ 20) ∧
      (∀ p ∈ news', ∀ q ∈ ws9, p.1 ≠ q.1) ∧ (∀ p ∈ rl.map RowE.ent ++ old0, p.1 ≠ Sn) ∧ (@LT.lt Nat _ b9 T ∧ @LT.lt Nat _ b9 d ∧ @LT.lt Nat _ b9 Sn ∧ ∀ ρ ∈ rl, @LT.lt Nat _ b9 ρ.at_) ∧ (T ≠ Sn ∧ d ≠ Sn)
theorem seenArr_push (rl : List RowE) (ρ : RowE) : (seenArr rl).push (.ref ρ.at_) = seenArr (rl ++ [ρ]) := by
  unfold seenArr; rw [List.map_append, List.push_toArray]; rfl
theorem bnd_of {m l Z k x : Nat} {p : Int} (h : m = l - x) (a : (l : Int) = p + Z) (hp : p ≤ 2) (hb : Z + 2 * (k + 1) ≤ 20) : m + 2 * k ≤ 20 := by omega
theorem bnl_of {a k : Nat} (h : a + (k + 1) ≤ 20) : a + 1 + k ≤ 20 := by omega
theorem run_fin {w : World} {cels cs dn : List Cel} {c : Cel} {old0 old led its keep : List (Addr × Obj)} {b9 T d Sn R9 D9 l9 : Addr} {oT od oS oD9 : Obj} {ws : List (Addr × String)} {Z : RS} {rl : List RowE} {g h' : Heap} {L : Addr} {m' : Str → Option Value} {s₁ : Shared} {tk' arrn k9 : Nat}
    {arr : Array Value} {a b cc i A B C I x9 y9 n rest : Int} {u0 u1 u2 u3 v0 v1 v2 v3 kt kr : Tok} {l1 t1 r1 l2 t2 r2 : Nat}
    (eall : cels = dn ++ c :: cs) (htn : Turns dn Z0 Z) (hrv : rl.map RowE.vals = Z.rows) (hb : (Z.l + 2 * (cs.length + 1) ≤ 20 ∧ Z.t + 2 * (cs.length + 1) ≤ 20 ∧ Z.r + 2 * (cs.length + 1) ≤ 20 ∧ rl.length + (cs.length + 1) ≤ 20)) (hok : c.Ok)
    (hap : ∀ p ∈ (T, oT) :: (d, od) :: (Sn, oS) :: old, ∀ q ∈ ws, p.1 ≠ q.1) (hne : ∀ p ∈ old, p.1 ≠ Sn) (hbS : @LT.lt Nat _ b9 Sn) (hbr : ∀ ρ ∈ rl, @LT.lt Nat _ b9 ρ.at_) (hold : rl.map RowE.ent ++ old0 = old) (harr : seenArr rl = arr) (hws : its.map (·.1) = ws.map (·.1)) (hkeep : ∀ p ∈ keep, p ∈ old0)
    (F : Fr g L h' m') (N : News g L h' led)
    (e1 : m' (Str.ofString "book") = some (.ref R9)) (e2 : m' (Str.ofString "seen") = some (.ref Sn)) (e3 : m' (Str.ofString "text") = some (.str (padOf l2 [97, 32, 98] t2) kt)) (e4 : m' (Str.ofString "rear") = some (.str (padOf r2 [99] 0) kr))
    (hR : (R9, tup #[.int A u0, .int B u1, .int C u2, .int I u3, .ref D9]) ∈ led) (hD : (D9, oD9) ∈ led) (hS : (Sn, W.listOf (arr.push (.ref l9)) arrn) ∈ led) (hl : (l9, W.listOf #[.int a v0, .int b v1, .int cc v2, .int i v3] k9) ∈ led) (ho : ∀ p ∈ old, p ∈ led) (hi : ∀ p ∈ its, p ∈ led)
    (oR : ∀ q ∈ ws, R9 ≠ q.1) (oD : ∀ q ∈ ws, D9 ≠ q.1) (ol : ∀ q ∈ ws, l9 ≠ q.1) (bR : @LT.lt Nat _ b9 R9) (bD : @LT.lt Nat _ b9 D9) (bl : @LT.lt Nat _ b9 l9) (nR : @Ne Nat R9 Sn) (nD : @Ne Nat D9 Sn) (nl : @Ne Nat l9 Sn)
    (k3 : Keep (l2 = l1 - n.toNat ∧ t2 = t1 - (n.toNat - l1))) (k1 : Keep (r2 = r1 - rest.toNat)) (hn : n = c.v) (a1 : (l1 : Int) = c.p + Z.l) (a2 : (t1 : Int) = Z.t + c.q) (a3 : (r1 : Int) = c.r + Z.r)
    (hrest : rest = c.v - (l1 + 3 + t1) + (l2 + 3 + t2)) (hI : I = (rest - (r1 + 1) + (r2 + 1)) + Z.i) (hA : A = l2 + Z.a) (hB : B = t2 + Z.b) (hC : C = r2 + Z.c) (hx : x9 = Z.F + (c.v - rest)) (hy : y9 = Z.R + (rest - (rest - (r1 + 1) + (r2 + 1))))
    (ha : a = l2) (hb' : b = (l2 : Int) + t2) (hc : cc = (l2 : Int) + t2 + r2) (hi' : i = I) (hds : DS w oD9 x9 y9) (hsm : (D9 == sysModules) = false) :
    UnrEndW g L s₁ its (fun m' n' => SubL keep n' ∧ RunInv w cels old0 b9 ws (cs.map Cel.itm) m' n') { s₁ with heap := h', toks := tk' } := by
  subst hold; subst harr
  subst hn
  obtain ⟨k3a, k3b⟩ := k3
  have k1' : r2 = r1 - rest.toNat := k1
  let ρ : RowE := ⟨l9, a, b, cc, i, v0, v1, v2, v3, k9⟩
  have hpush : (seenArr rl).push (.ref l9) = seenArr (rl ++ [ρ]) := seenArr_push rl ρ
  have hnews : ∀ p ∈ (R9, tup #[.int A u0, .int B u1, .int C u2, .int I u3, .ref D9]) :: (D9, oD9) :: (Sn, W.listOf (seenArr (rl ++ [ρ])) arrn) :: ((rl ++ [ρ]).map RowE.ent ++ old0), p ∈ led := by
    intro p hp
    rcases List.mem_cons.mp hp with rfl | hp
    · exact hR
    rcases List.mem_cons.mp hp with rfl | hp
    · exact hD
    rcases List.mem_cons.mp hp with rfl | hp
    · rw [← hpush]; exact hS
    rcases List.mem_append.mp hp with hp | hp
    · rw [List.map_append] at hp
      rcases List.mem_append.mp hp with hp | hp
      · exact ho p (List.mem_append_left _ hp)
      · rw [List.mem_singleton.mp hp]; exact hl
    · exact ho p (List.mem_append_right _ hp)
  have happ : ∀ p ∈ (R9, tup #[.int A u0, .int B u1, .int C u2, .int I u3, .ref D9]) :: (D9, oD9) :: (Sn, W.listOf (seenArr (rl ++ [ρ])) arrn) :: ((rl ++ [ρ]).map RowE.ent ++ old0), ∀ q ∈ ws, p.1 ≠ q.1 := by
    intro p hp q hq
    rcases List.mem_cons.mp hp with rfl | hp
    · exact oR q hq
    rcases List.mem_cons.mp hp with rfl | hp
    · exact oD q hq
    rcases List.mem_cons.mp hp with rfl | hp
    · exact hap (Sn, oS) (.tail _ (.tail _ (.head _))) q hq
    rcases List.mem_append.mp hp with hp | hp
    · rw [List.map_append] at hp
      rcases List.mem_append.mp hp with hp | hp
      · exact hap p (.tail _ (.tail _ (.tail _ (List.mem_append_left _ hp)))) q hq
      · rw [List.mem_singleton.mp hp]; exact ol q hq
    · exact hap p (.tail _ (.tail _ (.tail _ (List.mem_append_right _ hp)))) q hq
  obtain ⟨⟨p0, p1⟩, ⟨q0, q1⟩, ⟨r0, r1'⟩, v0', v1'⟩ := hok
  have ht : Turn c Z ⟨l2, t2, r2, A, B, C, I, x9, y9, Z.rows ++ [((l2 : Int), (l2 : Int) + t2, (l2 : Int) + t2 + r2, I)]⟩ :=
    ⟨l1, t1, r1, rest, rest - (r1 + 1) + (r2 + 1), a1, a2, a3, ⟨k3a, k3b⟩, hrest, k1', rfl, hA, hB, hC, hI, hx, hy, rfl⟩
  refine ⟨h', tk', _, (R9, tup #[.int A u0, .int B u1, .int C u2, .int I u3, .ref D9]) :: (D9, oD9) :: (Sn, W.listOf (seenArr (rl ++ [ρ])) arrn) :: ((rl ++ [ρ]).map RowE.ent ++ old0), rfl, fr_norm4 F e2 e1 e4 e3, fun p hp => ?_, fun p hp q hq => ?_, ?_, ?_⟩
  · rcases List.mem_append.mp hp with hp | hp
    · exact N p (hi p hp)
    · exact N p (hnews p hp)
  · have : q.1 ∈ ws.map (·.1) := hws ▸ List.mem_map_of_mem hq
    obtain ⟨q', hq', e⟩ := List.mem_map.mp this
    rw [← e]; exact happ p hp q' hq'
  · have : ∀ (l all : List (Addr × Obj)), (∀ p ∈ l, p ∈ all) → SubL l all := by
      intro l
      induction l with
      | nil => intro _ _; trivial
      | cons x r ih => intro all h; exact ⟨h x (.head _), ih all fun p hp => h p (.tail _ hp)⟩
    exact this _ _ fun p hp => .tail _ (.tail _ (.tail _ (List.mem_append_right _ (hkeep p hp))))
  · refine ⟨R9, D9, Sn, oD9, arrn, cs, dn ++ [c], _, rl ++ [ρ], m', kt, kr, u0, u1, u2, u3, rfl, ?_, htn.snoc ht, rfl, rfl, ?_, hds, hsm, ?_, happ, ?_, ⟨bR, bD, hbS, ?_⟩, nR, nD⟩
    · rw [eall, List.append_assoc]; rfl
    · rw [List.map_append, hrv, List.map_singleton]
      show _ ++ [(a, b, cc, i)] = _
      rw [ha, hb', hc, hi']
    · refine ⟨?_, ?_, ?_, ?_⟩
      · exact bnd_of k3a a1 p1 hb.1
      · exact bnd_of k3b (a2.trans (Int.add_comm _ _)) q1 hb.2.1
      · exact bnd_of k1' a3 r1' hb.2.2.1
      · rw [List.length_append, List.length_singleton]; exact bnl_of hb.2.2.2
    · intro p hp
      rcases List.mem_append.mp hp with hp | hp
      · rw [List.map_append] at hp
        rcases List.mem_append.mp hp with hp | hp
        · exact hne p (List.mem_append_left _ hp)
        · rw [List.mem_singleton.mp hp]; exact nl
      · exact hne p (List.mem_append_right _ hp)
    · intro ρ' hρ
      rcases List.mem_append.mp hρ with h | h
      · exact hbr ρ' h
      · rw [List.mem_singleton.mp h]; exact bl
end Mine
end
section
open PySem PySem.W PySem.Calls PyProof.Rows
set_option Elab.async false
set_option maxRecDepth 100000
set_option maxHeartbeats 8000000
set_option pp.deepTerms false
set_option pp.deepTerms.threshold 4
set_option pp.maxSteps 6000
namespace Mine

theorem haltI_Run4 {P : Prop} (h : Keep P) : P := h

namespace ER
noncomputable def Pr9 (w : World) (news : List (Addr × Obj)) (S : Addr) (I : Addr) (ns : Nat) (ni : Nat) (b1 : Addr) (b2 : Addr) (b3 : Addr) (b4 : Addr) (b5 : Addr) (p1 : Int) (q1 : Int) (r1 : Int) (v1 : Int) (p2 : Int) (q2 : Int) (r2 : Int) (v2 : Int) (p3 : Int) (q3 : Int) (r3 : Int) (v3 : Int) (p4 : Int) (q4 : Int) (r4 : Int) (v4 : Int) (p5 : Int) (q5 : Int) (r5 : Int) (v5 : Int) (n1 : Nat) (n2 : Nat) (n3 : Nat) (n4 : Nat) (n5 : Nat) (x1 : Tok) (x1' : Tok) (x1'' : Tok) (y1 : Tok) (x2 : Tok) (x2' : Tok) (x2'' : Tok) (y2 : Tok) (x3 : Tok) (x3' : Tok) (x3'' : Tok) (y3 : Tok) (x4 : Tok) (x4' : Tok) (x4'' : Tok) (y4 : Tok) (x5 : Tok) (x5' : Tok) (x5'' : Tok) (y5 : Tok) (p : Program) (loose : List Str) (mean : ExcName → Option Value) (mg : Str → Option Value) (mb : Str → Option Value) (dp : Nat) (un : Nat) (gd : Option (List Code)) (cn : Str) (cs : Scope) (a : Addr) (ccd : Value) (cl : List (Str × Addr)) (outer : List Env) (A₀ : Around) (base : Heap) (h₀ : Heap) (L : Addr) (m : Str → Option Value) (s₀ : Shared) (Q : Value → Shared → Prop) (E : Value → Shared → Prop) : Prop := ∀ (hS : (S, W.listOf #[.int v1 y1, .int v2 y2, .int v3 y3, .int v4 y4, .int v5 y5] ns) ∈ news) (hI : (I, W.listOf #[.ref b1, .ref b2, .ref b3, .ref b4, .ref b5] ni) ∈ news) (hb5 : (b5, W.listOf #[.int p5 x5, .int q5 x5', .int r5 x5''] n5) ∈ news) (hb4 : (b4, W.listOf #[.int p4 x4, .int q4 x4', .int r4 x4''] n4) ∈ news) (hb3 : (b3, W.listOf #[.int p3 x3, .int q3 x3', .int r3 x3''] n3) ∈ news) (hb2 : (b2, W.listOf #[.int p2 x2, .int q2 x2', .int r2 x2''] n2) ∈ news) (hb1 : (b1, W.listOf #[.int p1 x1, .int q1 x1', .int r1 x1''] n1) ∈ news) (hp1 : 0 ≤ p1 ∧ p1 ≤ 2) (hq1 : 0 ≤ q1 ∧ q1 ≤ 2) (hr1 : 0 ≤ r1 ∧ r1 ≤ 2) (hv1 : 0 ≤ v1 ∧ v1 ≤ 5) (hp2 : 0 ≤ p2 ∧ p2 ≤ 2) (hq2 : 0 ≤ q2 ∧ q2 ≤ 2) (hr2 : 0 ≤ r2 ∧ r2 ≤ 2) (hv2 : 0 ≤ v2 ∧ v2 ≤ 5) (hp3 : 0 ≤ p3 ∧ p3 ≤ 2) (hq3 : 0 ≤ q3 ∧ q3 ≤ 2) (hr3 : 0 ≤ r3 ∧ r3 ≤ 2) (hv3 : 0 ≤ v3 ∧ v3 ≤ 5) (hp4 : 0 ≤ p4 ∧ p4 ≤ 2) (hq4 : 0 ≤ q4 ∧ q4 ≤ 2) (hr4 : 0 ≤ r4 ∧ r4 ≤ 2) (hv4 : 0 ≤ v4 ∧ v4 ≤ 5) (hp5 : 0 ≤ p5 ∧ p5 ≤ 2) (hq5 : 0 ≤ q5 ∧ q5 ≤ 2) (hr5 : 0 ≤ r5 ∧ r5 ≤ 2) (hv5 : 0 ≤ v5 ∧ v5 ≤ 5) , DoesAt w 8 100 89 [.ref I, .ref S] news (fun r tl => ∃ (R T d Sn : Addr) (od : Obj) (arrn : Nat) (Z : RS) (rl : List RowE) (w0 w1 w2 w3 : Tok), r = .ref R ∧ tl = (R, tup #[.ref Sn, .ref T]) :: (T, tup #[.int Z.a w0, .int Z.b w1, .int Z.c w2, .int Z.i w3, .ref d]) :: (d, od) :: (Sn, W.listOf (seenArr rl) arrn) :: rl.map RowE.ent ∧
      Turns ([⟨b1, n1, p1, q1, r1, v1, x1, x1', x1'', y1⟩, ⟨b2, n2, p2, q2, r2, v2, x2, x2', x2'', y2⟩, ⟨b3, n3, p3, q3, r3, v3, x3, x3', x3'', y3⟩, ⟨b4, n4, p4, q4, r4, v4, x4, x4', x4'', y4⟩, ⟨b5, n5, p5, q5, r5, v5, x5, x5', x5'', y5⟩] : List Cel) Z0 Z ∧ rl.map RowE.vals = Z.rows ∧ DS w od Z.F Z.R ∧ (d == sysModules) = false) p loose mean mg mb dp un gd cn cs a ccd cl outer A₀ base h₀ L m s₀ Q E
abbrev Pack9 : Type := (World) × (List (Addr × Obj)) × (Addr) × (Addr) × (Nat) × (Nat) × (Addr) × (Addr) × (Addr) × (Addr) × (Addr) × (Int) × (Int) × (Int) × (Int) × (Int) × (Int) × (Int) × (Int) × (Int) × (Int) × (Int) × (Int) × (Int) × (Int) × (Int) × (Int) × (Int) × (Int) × (Int) × (Int) × (Nat) × (Nat) × (Nat) × (Nat) × (Nat) × (Tok) × (Tok) × (Tok) × (Tok) × (Tok) × (Tok) × (Tok) × (Tok) × (Tok) × (Tok) × (Tok) × (Tok) × (Tok) × (Tok) × (Tok) × (Tok) × (Tok) × (Tok) × (Tok) × (Tok) × (Program) × (List Str) × (ExcName → Option Value) × (Str → Option Value) × (Str → Option Value) × (Nat) × (Nat) × (Option (List Code)) × (Str) × (Scope) × (Addr) × (Value) × (List (Str × Addr)) × (List Env) × (Around) × (Heap) × (Heap) × (Addr) × (Str → Option Value) × (Shared) × (Value → Shared → Prop) × (Value → Shared → Prop)
noncomputable def PrX9 (x : Pack9) : Prop := Pr9 (x.1) (x.2.1) (x.2.2.1) (x.2.2.2.1) (x.2.2.2.2.1) (x.2.2.2.2.2.1) (x.2.2.2.2.2.2.1) (x.2.2.2.2.2.2.2.1) (x.2.2.2.2.2.2.2.2.1) (x.2.2.2.2.2.2.2.2.2.1) (x.2.2.2.2.2.2.2.2.2.2.1) (x.2.2.2.2.2.2.2.2.2.2.2.1) (x.2.2.2.2.2.2.2.2.2.2.2.2.1) (x.2.2.2.2.2.2.2.2.2.2.2.2.2.1) (x.2.2.2.2.2.2.2.2.2.2.2.2.2.2.1) (x.2.2.2.2.2.2.2.2.2.2.2.2.2.2.2.1) (x.2.2.2.2.2.2.2.2.2.2.2.2.2.2.2.2.1) (x.2.2.2.2.2.2.2.2.2.2.2.2.2.2.2.2.2.1) (x.2.2.2.2.2.2.2.2.2.2.2.2.2.2.2.2.2.2.1) (x.2.2.2.2.2.2.2.2.2.2.2.2.2.2.2.2.2.2.2.1) (x.2.2.2.2.2.2.2.2.2.2.2.2.2.2.2.2.2.2.2.2.1) (x.2.2.2.2.2.2.2.2.2.2.2.2.2.2.2.2.2.2.2.2.2.1) (x.2.2.2.2.2.2.2.2.2.2.2.2.2.2.2.2.2.2.2.2.2.2.1) (x.2.2.2.2.2.2.2.2.2.2.2.2.2.2.2.2.2.2.2.2.2.2.2.1) (x.2.2.2.2.2.2.2.2.2.2.2.2.2.2.2.2.2.2.2.2.2.2.2.2.1) (x.2.2.2.2.2.2.2.2.2.2.2.2.2.2.2.2.2.2.2.2.2.2.2.2.2.1) (x.2.2.2.2.2.2.2.2.2.2.2.2.2.2.2.2.2.2.2.2.2.2.2.2.2.2.1) (x.2.2.2.2.2.2.2.2.2.2.2.2.2.2.2.2.2.2.2.2.2.2.2.2.2.2.2.1) (x.2.2.2.2.2.2.2.2.2.2.2.2.2.2.2.2.2.2.2.2.2.2.2.2.2.2.2.2.1) (x.2.2.2.2.2.2.2.2.2.2.2.2.2.2.2.2.2.2.2.2.2.2.2.2.2.2.2.2.2.1) (x.2.2.2.2.2.2.2.2.2.2.2.2.2.2.2.2.2.2.2.2.2.2.2.2.2.2.2.2.2.2.1) (x.2.2.2.2.2.2.2.2.2.2.2.2.2.2.2.2.2.2.2.2.2.2.2.2.2.2.2.2.2.2.2.1) (x.2.2.2.2.2.2.2.2.2.2.2.2.2.2.2.2.2.2.2.2.2.2.2.2.2.2.2.2.2.2.2.2.1) (x.2.2.2.2.2.2.2.2.2.2.2.2.2.2.2.2.2.2.2.2.2.2.2.2.2.2.2.2.2.2.2.2.2.1) (x.2.2.2.2.2.2.2.2.2.2.2.2.2.2.2.2.2.2.2.2.2.2.2.2.2.2.2.2.2.2.2.2.2.2.1) (x.2.2.2.2.2.2.2.2.2.2.2.2.2.2.2.2.2.2.2.2.2.2.2.2.2.2.2.2.2.2.2.2.2.2.2.1) (x.2.2.2.2.2.2.2.2.2.2.2.2.2.2.2.2.2.2.2.2.2.2.2.2.2.2.2.2.2.2.2.2.2.2.2.2.1) (x.2.2.2.2.2.2.2.2.2.2.2.2.2.2.2.2.2.2.2.2.2.2.2.2.2.2.2.2.2.2.2.2.2.2.2.2.2.1) (x.2.2.2.2.2.2.2.2.2.2.2.2.2.2.2.2.2.2.2.2.2.2.2.2.2.2.2.2.2.2.2.2.2.2.2.2.2.2.1) (x.2.2.2.2.2.2.2.2.2.2.2.2.2.2.2.2.2.2.2.2.2.2.2.2.2.2.2.2.2.2.2.2.2.2.2.2.2.2.2.1) (x.2.2.2.2.2.2.2.2.2.2.2.2.2.2.2.2.2.2.2.2.2.2.2.2.2.2.2.2.2.2.2.2.2.2.2.2.2.2.2.2.1) (x.2.2.2.2.2.2.2.2.2.2.2.2.2.2.2.2.2.2.2.2.2.2.2.2.2.2.2.2.2.2.2.2.2.2.2.2.2.2.2.2.2.1) (x.2.2.2.2.2.2.2.2.2.2.2.2.2.2.2.2.2.2.2.2.2.2.2.2.2.2.2.2.2.2.2.2.2.2.2.2.2.2.2.2.2.2.1) (x.2.2.2.2.2.2.2.2.2.2.2.2.2.2.2.2.2.2.2.2.2.2.2.2.2.2.2.2.2.2.2.2.2.2.2.2.2.2.2.2.2.2.2.1) (x.2.2.2.2.2.2.2.2.2.2.2.2.2.2.2.2.2.2.2.2.2.2.2.2.2.2.2.2.2.2.2.2.2.2.2.2.2.2.2.2.2.2.2.2.1) (x.2.2.2.2.2.2.2.2.2.2.2.2.2.2.2.2.2.2.2.2.2.2.2.2.2.2.2.2.2.2.2.2.2.2.2.2.2.2.2.2.2.2.2.2.2.1) (x.2.2.2.2.2.2.2.2.2.2.2.2.2.2.2.2.2.2.2.2.2.2.2.2.2.2.2.2.2.2.2.2.2.2.2.2.2.2.2.2.2.2.2.2.2.2.1) (x.2.2.2.2.2.2.2.2.2.2.2.2.2.2.2.2.2.2.2.2.2.2.2.2.2.2.2.2.2.2.2.2.2.2.2.2.2.2.2.2.2.2.2.2.2.2.2.1) (x.2.2.2.2.2.2.2.2.2.2.2.2.2.2.2.2.2.2.2.2.2.2.2.2.2.2.2.2.2.2.2.2.2.2.2.2.2.2.2.2.2.2.2.2.2.2.2.2.1) (x.2.2.2.2.2.2.2.2.2.2.2.2.2.2.2.2.2.2.2.2.2.2.2.2.2.2.2.2.2.2.2.2.2.2.2.2.2.2.2.2.2.2.2.2.2.2.2.2.2.1) (x.2.2.2.2.2.2.2.2.2.2.2.2.2.2.2.2.2.2.2.2.2.2.2.2.2.2.2.2.2.2.2.2.2.2.2.2.2.2.2.2.2.2.2.2.2.2.2.2.2.2.1) (x.2.2.2.2.2.2.2.2.2.2.2.2.2.2.2.2.2.2.2.2.2.2.2.2.2.2.2.2.2.2.2.2.2.2.2.2.2.2.2.2.2.2.2.2.2.2.2.2.2.2.2.1) (x.2.2.2.2.2.2.2.2.2.2.2.2.2.2.2.2.2.2.2.2.2.2.2.2.2.2.2.2.2.2.2.2.2.2.2.2.2.2.2.2.2.2.2.2.2.2.2.2.2.2.2.2.1) (x.2.2.2.2.2.2.2.2.2.2.2.2.2.2.2.2.2.2.2.2.2.2.2.2.2.2.2.2.2.2.2.2.2.2.2.2.2.2.2.2.2.2.2.2.2.2.2.2.2.2.2.2.2.1) (x.2.2.2.2.2.2.2.2.2.2.2.2.2.2.2.2.2.2.2.2.2.2.2.2.2.2.2.2.2.2.2.2.2.2.2.2.2.2.2.2.2.2.2.2.2.2.2.2.2.2.2.2.2.2.1) (x.2.2.2.2.2.2.2.2.2.2.2.2.2.2.2.2.2.2.2.2.2.2.2.2.2.2.2.2.2.2.2.2.2.2.2.2.2.2.2.2.2.2.2.2.2.2.2.2.2.2.2.2.2.2.2.1) (x.2.2.2.2.2.2.2.2.2.2.2.2.2.2.2.2.2.2.2.2.2.2.2.2.2.2.2.2.2.2.2.2.2.2.2.2.2.2.2.2.2.2.2.2.2.2.2.2.2.2.2.2.2.2.2.2.1) (x.2.2.2.2.2.2.2.2.2.2.2.2.2.2.2.2.2.2.2.2.2.2.2.2.2.2.2.2.2.2.2.2.2.2.2.2.2.2.2.2.2.2.2.2.2.2.2.2.2.2.2.2.2.2.2.2.2.1) (x.2.2.2.2.2.2.2.2.2.2.2.2.2.2.2.2.2.2.2.2.2.2.2.2.2.2.2.2.2.2.2.2.2.2.2.2.2.2.2.2.2.2.2.2.2.2.2.2.2.2.2.2.2.2.2.2.2.2.1) (x.2.2.2.2.2.2.2.2.2.2.2.2.2.2.2.2.2.2.2.2.2.2.2.2.2.2.2.2.2.2.2.2.2.2.2.2.2.2.2.2.2.2.2.2.2.2.2.2.2.2.2.2.2.2.2.2.2.2.2.1) (x.2.2.2.2.2.2.2.2.2.2.2.2.2.2.2.2.2.2.2.2.2.2.2.2.2.2.2.2.2.2.2.2.2.2.2.2.2.2.2.2.2.2.2.2.2.2.2.2.2.2.2.2.2.2.2.2.2.2.2.2.1) (x.2.2.2.2.2.2.2.2.2.2.2.2.2.2.2.2.2.2.2.2.2.2.2.2.2.2.2.2.2.2.2.2.2.2.2.2.2.2.2.2.2.2.2.2.2.2.2.2.2.2.2.2.2.2.2.2.2.2.2.2.2.1) (x.2.2.2.2.2.2.2.2.2.2.2.2.2.2.2.2.2.2.2.2.2.2.2.2.2.2.2.2.2.2.2.2.2.2.2.2.2.2.2.2.2.2.2.2.2.2.2.2.2.2.2.2.2.2.2.2.2.2.2.2.2.2.1) (x.2.2.2.2.2.2.2.2.2.2.2.2.2.2.2.2.2.2.2.2.2.2.2.2.2.2.2.2.2.2.2.2.2.2.2.2.2.2.2.2.2.2.2.2.2.2.2.2.2.2.2.2.2.2.2.2.2.2.2.2.2.2.2.1) (x.2.2.2.2.2.2.2.2.2.2.2.2.2.2.2.2.2.2.2.2.2.2.2.2.2.2.2.2.2.2.2.2.2.2.2.2.2.2.2.2.2.2.2.2.2.2.2.2.2.2.2.2.2.2.2.2.2.2.2.2.2.2.2.2.1) (x.2.2.2.2.2.2.2.2.2.2.2.2.2.2.2.2.2.2.2.2.2.2.2.2.2.2.2.2.2.2.2.2.2.2.2.2.2.2.2.2.2.2.2.2.2.2.2.2.2.2.2.2.2.2.2.2.2.2.2.2.2.2.2.2.2.1) (x.2.2.2.2.2.2.2.2.2.2.2.2.2.2.2.2.2.2.2.2.2.2.2.2.2.2.2.2.2.2.2.2.2.2.2.2.2.2.2.2.2.2.2.2.2.2.2.2.2.2.2.2.2.2.2.2.2.2.2.2.2.2.2.2.2.2.1) (x.2.2.2.2.2.2.2.2.2.2.2.2.2.2.2.2.2.2.2.2.2.2.2.2.2.2.2.2.2.2.2.2.2.2.2.2.2.2.2.2.2.2.2.2.2.2.2.2.2.2.2.2.2.2.2.2.2.2.2.2.2.2.2.2.2.2.2.1) (x.2.2.2.2.2.2.2.2.2.2.2.2.2.2.2.2.2.2.2.2.2.2.2.2.2.2.2.2.2.2.2.2.2.2.2.2.2.2.2.2.2.2.2.2.2.2.2.2.2.2.2.2.2.2.2.2.2.2.2.2.2.2.2.2.2.2.2.2.1) (x.2.2.2.2.2.2.2.2.2.2.2.2.2.2.2.2.2.2.2.2.2.2.2.2.2.2.2.2.2.2.2.2.2.2.2.2.2.2.2.2.2.2.2.2.2.2.2.2.2.2.2.2.2.2.2.2.2.2.2.2.2.2.2.2.2.2.2.2.2.1) (x.2.2.2.2.2.2.2.2.2.2.2.2.2.2.2.2.2.2.2.2.2.2.2.2.2.2.2.2.2.2.2.2.2.2.2.2.2.2.2.2.2.2.2.2.2.2.2.2.2.2.2.2.2.2.2.2.2.2.2.2.2.2.2.2.2.2.2.2.2.2.1) (x.2.2.2.2.2.2.2.2.2.2.2.2.2.2.2.2.2.2.2.2.2.2.2.2.2.2.2.2.2.2.2.2.2.2.2.2.2.2.2.2.2.2.2.2.2.2.2.2.2.2.2.2.2.2.2.2.2.2.2.2.2.2.2.2.2.2.2.2.2.2.2.1) (x.2.2.2.2.2.2.2.2.2.2.2.2.2.2.2.2.2.2.2.2.2.2.2.2.2.2.2.2.2.2.2.2.2.2.2.2.2.2.2.2.2.2.2.2.2.2.2.2.2.2.2.2.2.2.2.2.2.2.2.2.2.2.2.2.2.2.2.2.2.2.2.2.1) (x.2.2.2.2.2.2.2.2.2.2.2.2.2.2.2.2.2.2.2.2.2.2.2.2.2.2.2.2.2.2.2.2.2.2.2.2.2.2.2.2.2.2.2.2.2.2.2.2.2.2.2.2.2.2.2.2.2.2.2.2.2.2.2.2.2.2.2.2.2.2.2.2.2.1) (x.2.2.2.2.2.2.2.2.2.2.2.2.2.2.2.2.2.2.2.2.2.2.2.2.2.2.2.2.2.2.2.2.2.2.2.2.2.2.2.2.2.2.2.2.2.2.2.2.2.2.2.2.2.2.2.2.2.2.2.2.2.2.2.2.2.2.2.2.2.2.2.2.2.2.1) (x.2.2.2.2.2.2.2.2.2.2.2.2.2.2.2.2.2.2.2.2.2.2.2.2.2.2.2.2.2.2.2.2.2.2.2.2.2.2.2.2.2.2.2.2.2.2.2.2.2.2.2.2.2.2.2.2.2.2.2.2.2.2.2.2.2.2.2.2.2.2.2.2.2.2.2.1) (x.2.2.2.2.2.2.2.2.2.2.2.2.2.2.2.2.2.2.2.2.2.2.2.2.2.2.2.2.2.2.2.2.2.2.2.2.2.2.2.2.2.2.2.2.2.2.2.2.2.2.2.2.2.2.2.2.2.2.2.2.2.2.2.2.2.2.2.2.2.2.2.2.2.2.2.2.1) (x.2.2.2.2.2.2.2.2.2.2.2.2.2.2.2.2.2.2.2.2.2.2.2.2.2.2.2.2.2.2.2.2.2.2.2.2.2.2.2.2.2.2.2.2.2.2.2.2.2.2.2.2.2.2.2.2.2.2.2.2.2.2.2.2.2.2.2.2.2.2.2.2.2.2.2.2.2)
theorem ne9 : Nonempty Pack9 := ⟨(aWorld 1, default, default, default, default, default, default, default, default, default, default, default, default, default, default, default, default, default, default, default, default, default, default, default, default, default, default, default, default, default, default, default, default, default, default, default, default, default, default, default, default, default, default, default, default, default, default, default, default, default, default, default, default, default, default, default, default, default, default, default, default, default, default, default, default, default, default, default, default, default, callerA, default, default, default, default, (start Mine.view).1, default, default)⟩
@[irreducible] noncomputable def pk9 : Pack9 := bad ne9 PrX9
@[irreducible] noncomputable def w : World := pk9.1
@[irreducible] noncomputable def news : List (Addr × Obj) := pk9.2.1
@[irreducible] noncomputable def S : Addr := pk9.2.2.1
@[irreducible] noncomputable def I : Addr := pk9.2.2.2.1
@[irreducible] noncomputable def ns : Nat := pk9.2.2.2.2.1
@[irreducible] noncomputable def ni : Nat := pk9.2.2.2.2.2.1
@[irreducible] noncomputable def b1 : Addr := pk9.2.2.2.2.2.2.1
@[irreducible] noncomputable def b2 : Addr := pk9.2.2.2.2.2.2.2.1
@[irreducible] noncomputable def b3 : Addr := pk9.2.2.2.2.2.2.2.2.1
@[irreducible] noncomputable def b4 : Addr := pk9.2.2.2.2.2.2.2.2.2.1
@[irreducible] noncomputable def b5 : Addr := pk9.2.2.2.2.2.2.2.2.2.2.1
@[irreducible] noncomputable def p1 : Int := pk9.2.2.2.2.2.2.2.2.2.2.2.1
@[irreducible] noncomputable def q1 : Int := pk9.2.2.2.2.2.2.2.2.2.2.2.2.1
@[irreducible] noncomputable def r1 : Int := pk9.2.2.2.2.2.2.2.2.2.2.2.2.2.1
@[irreducible] noncomputable def v1 : Int := pk9.2.2.2.2.2.2.2.2.2.2.2.2.2.2.1
@[irreducible] noncomputable def p2 : Int := pk9.2.2.2.2.2.2.2.2.2.2.2.2.2.2.2.1
@[irreducible] noncomputable def q2 : Int := pk9.2.2.2.2.2.2.2.2.2.2.2.2.2.2.2.2.1
@[irreducible] noncomputable def r2 : Int := pk9.2.2.2.2.2.2.2.2.2.2.2.2.2.2.2.2.2.1
@[irreducible] noncomputable def v2 : Int := pk9.2.2.2.2.2.2.2.2.2.2.2.2.2.2.2.2.2.2.1
@[irreducible] noncomputable def p3 : Int := pk9.2.2.2.2.2.2.2.2.2.2.2.2.2.2.2.2.2.2.2.1
@[irreducible] noncomputable def q3 : Int := pk9.2.2.2.2.2.2.2.2.2.2.2.2.2.2.2.2.2.2.2.2.1
@[irreducible] noncomputable def r3 : Int := pk9.2.2.2.2.2.2.2.2.2.2.2.2.2.2.2.2.2.2.2.2.2.1
@[irreducible] noncomputable def v3 : Int := pk9.2.2.2.2.2.2.2.2.2.2.2.2.2.2.2.2.2.2.2.2.2.2.1
@[irreducible] noncomputable def p4 : Int := pk9.2.2.2.2.2.2.2.2.2.2.2.2.2.2.2.2.2.2.2.2.2.2.2.1
@[irreducible] noncomputable def q4 : Int := pk9.2.2.2.2.2.2.2.2.2.2.2.2.2.2.2.2.2.2.2.2.2.2.2.2.1
@[irreducible] noncomputable def r4 : Int := pk9.2.2.2.2.2.2.2.2.2.2.2.2.2.2.2.2.2.2.2.2.2.2.2.2.2.1
@[irreducible] noncomputable def v4 : Int := pk9.2.2.2.2.2.2.2.2.2.2.2.2.2.2.2.2.2.2.2.2.2.2.2.2.2.2.1
@[irreducible] noncomputable def p5 : Int := pk9.2.2.2.2.2.2.2.2.2.2.2.2.2.2.2.2.2.2.2.2.2.2.2.2.2.2.2.1
@[irreducible] noncomputable def q5 : Int := pk9.2.2.2.2.2.2.2.2.2.2.2.2.2.2.2.2.2.2.2.2.2.2.2.2.2.2.2.2.1
@[irreducible] noncomputable def r5 : Int := pk9.2.2.2.2.2.2.2.2.2.2.2.2.2.2.2.2.2.2.2.2.2.2.2.2.2.2.2.2.2.1
@[irreducible] noncomputable def v5 : Int := pk9.2.2.2.2.2.2.2.2.2.2.2.2.2.2.2.2.2.2.2.2.2.2.2.2.2.2.2.2.2.2.1
@[irreducible] noncomputable def n1 : Nat := pk9.2.2.2.2.2.2.2.2.2.2.2.2.2.2.2.2.2.2.2.2.2.2.2.2.2.2.2.2.2.2.2.1
@[irreducible] noncomputable def n2 : Nat := pk9.2.2.2.2.2.2.2.2.2.2.2.2.2.2.2.2.2.2.2.2.2.2.2.2.2.2.2.2.2.2.2.2.1
@[irreducible] noncomputable def n3 : Nat := pk9.2.2.2.2.2.2.2.2.2.2.2.2.2.2.2.2.2.2.2.2.2.2.2.2.2.2.2.2.2.2.2.2.2.1
@[irreducible] noncomputable def n4 : Nat := pk9.2.2.2.2.2.2.2.2.2.2.2.2.2.2.2.2.2.2.2.2.2.2.2.2.2.2.2.2.2.2.2.2.2.2.1
@[irreducible] noncomputable def n5 : Nat := pk9.2.2.2.2.2.2.2.2.2.2.2.2.2.2.2.2.2.2.2.2.2.2.2.2.2.2.2.2.2.2.2.2.2.2.2.1
@[irreducible] noncomputable def x1 : Tok := pk9.2.2.2.2.2.2.2.2.2.2.2.2.2.2.2.2.2.2.2.2.2.2.2.2.2.2.2.2.2.2.2.2.2.2.2.2.1
@[irreducible] noncomputable def x1' : Tok := pk9.2.2.2.2.2.2.2.2.2.2.2.2.2.2.2.2.2.2.2.2.2.2.2.2.2.2.2.2.2.2.2.2.2.2.2.2.2.1
@[irreducible] noncomputable def x1'' : Tok := pk9.2.2.2.2.2.2.2.2.2.2.2.2.2.2.2.2.2.2.2.2.2.2.2.2.2.2.2.2.2.2.2.2.2.2.2.2.2.2.1
@[irreducible] noncomputable def y1 : Tok := pk9.2.2.2.2.2.2.2.2.2.2.2.2.2.2.2.2.2.2.2.2.2.2.2.2.2.2.2.2.2.2.2.2.2.2.2.2.2.2.2.1
@[irreducible] noncomputable def x2 : Tok := pk9.2.2.2.2.2.2.2.2.2.2.2.2.2.2.2.2.2.2.2.2.2.2.2.2.2.2.2.2.2.2.2.2.2.2.2.2.2.2.2.2.1
@[irreducible] noncomputable def x2' : Tok := pk9.2.2.2.2.2.2.2.2.2.2.2.2.2.2.2.2.2.2.2.2.2.2.2.2.2.2.2.2.2.2.2.2.2.2.2.2.2.2.2.2.2.1
@[irreducible] noncomputable def x2'' : Tok := pk9.2.2.2.2.2.2.2.2.2.2.2.2.2.2.2.2.2.2.2.2.2.2.2.2.2.2.2.2.2.2.2.2.2.2.2.2.2.2.2.2.2.2.1
@[irreducible] noncomputable def y2 : Tok := pk9.2.2.2.2.2.2.2.2.2.2.2.2.2.2.2.2.2.2.2.2.2.2.2.2.2.2.2.2.2.2.2.2.2.2.2.2.2.2.2.2.2.2.2.1
@[irreducible] noncomputable def x3 : Tok := pk9.2.2.2.2.2.2.2.2.2.2.2.2.2.2.2.2.2.2.2.2.2.2.2.2.2.2.2.2.2.2.2.2.2.2.2.2.2.2.2.2.2.2.2.2.1
@[irreducible] noncomputable def x3' : Tok := pk9.2.2.2.2.2.2.2.2.2.2.2.2.2.2.2.2.2.2.2.2.2.2.2.2.2.2.2.2.2.2.2.2.2.2.2.2.2.2.2.2.2.2.2.2.2.1
@[irreducible] noncomputable def x3'' : Tok := pk9.2.2.2.2.2.2.2.2.2.2.2.2.2.2.2.2.2.2.2.2.2.2.2.2.2.2.2.2.2.2.2.2.2.2.2.2.2.2.2.2.2.2.2.2.2.2.1
@[irreducible] noncomputable def y3 : Tok := pk9.2.2.2.2.2.2.2.2.2.2.2.2.2.2.2.2.2.2.2.2.2.2.2.2.2.2.2.2.2.2.2.2.2.2.2.2.2.2.2.2.2.2.2.2.2.2.2.1
@[irreducible] noncomputable def x4 : Tok := pk9.2.2.2.2.2.2.2.2.2.2.2.2.2.2.2.2.2.2.2.2.2.2.2.2.2.2.2.2.2.2.2.2.2.2.2.2.2.2.2.2.2.2.2.2.2.2.2.2.1
@[irreducible] noncomputable def x4' : Tok := pk9.2.2.2.2.2.2.2.2.2.2.2.2.2.2.2.2.2.2.2.2.2.2.2.2.2.2.2.2.2.2.2.2.2.2.2.2.2.2.2.2.2.2.2.2.2.2.2.2.2.1
@[irreducible] noncomputable def x4'' : Tok := pk9.2.2.2.2.2.2.2.2.2.2.2.2.2.2.2.2.2.2.2.2.2.2.2.2.2.2.2.2.2.2.2.2.2.2.2.2.2.2.2.2.2.2.2.2.2.2.2.2.2.2.1
@[irreducible] noncomputable def y4 : Tok := pk9.2.2.2.2.2.2.2.2.2.2.2.2.2.2.2.2.2.2.2.2.2.2.2.2.2.2.2.2.2.2.2.2.2.2.2.2.2.2.2.2.2.2.2.2.2.2.2.2.2.2.2.1
@[irreducible] noncomputable def x5 : Tok := pk9.2.2.2.2.2.2.2.2.2.2.2.2.2.2.2.2.2.2.2.2.2.2.2.2.2.2.2.2.2.2.2.2.2.2.2.2.2.2.2.2.2.2.2.2.2.2.2.2.2.2.2.2.1
@[irreducible] noncomputable def x5' : Tok := pk9.2.2.2.2.2.2.2.2.2.2.2.2.2.2.2.2.2.2.2.2.2.2.2.2.2.2.2.2.2.2.2.2.2.2.2.2.2.2.2.2.2.2.2.2.2.2.2.2.2.2.2.2.2.1
@[irreducible] noncomputable def x5'' : Tok := pk9.2.2.2.2.2.2.2.2.2.2.2.2.2.2.2.2.2.2.2.2.2.2.2.2.2.2.2.2.2.2.2.2.2.2.2.2.2.2.2.2.2.2.2.2.2.2.2.2.2.2.2.2.2.2.1
@[irreducible] noncomputable def y5 : Tok := pk9.2.2.2.2.2.2.2.2.2.2.2.2.2.2.2.2.2.2.2.2.2.2.2.2.2.2.2.2.2.2.2.2.2.2.2.2.2.2.2.2.2.2.2.2.2.2.2.2.2.2.2.2.2.2.2.1
@[irreducible] noncomputable def p : Program := pk9.2.2.2.2.2.2.2.2.2.2.2.2.2.2.2.2.2.2.2.2.2.2.2.2.2.2.2.2.2.2.2.2.2.2.2.2.2.2.2.2.2.2.2.2.2.2.2.2.2.2.2.2.2.2.2.2.1
@[irreducible] noncomputable def loose : List Str := pk9.2.2.2.2.2.2.2.2.2.2.2.2.2.2.2.2.2.2.2.2.2.2.2.2.2.2.2.2.2.2.2.2.2.2.2.2.2.2.2.2.2.2.2.2.2.2.2.2.2.2.2.2.2.2.2.2.2.1
@[irreducible] noncomputable def mean : ExcName → Option Value := pk9.2.2.2.2.2.2.2.2.2.2.2.2.2.2.2.2.2.2.2.2.2.2.2.2.2.2.2.2.2.2.2.2.2.2.2.2.2.2.2.2.2.2.2.2.2.2.2.2.2.2.2.2.2.2.2.2.2.2.1
@[irreducible] noncomputable def mg : Str → Option Value := pk9.2.2.2.2.2.2.2.2.2.2.2.2.2.2.2.2.2.2.2.2.2.2.2.2.2.2.2.2.2.2.2.2.2.2.2.2.2.2.2.2.2.2.2.2.2.2.2.2.2.2.2.2.2.2.2.2.2.2.2.1
@[irreducible] noncomputable def mb : Str → Option Value := pk9.2.2.2.2.2.2.2.2.2.2.2.2.2.2.2.2.2.2.2.2.2.2.2.2.2.2.2.2.2.2.2.2.2.2.2.2.2.2.2.2.2.2.2.2.2.2.2.2.2.2.2.2.2.2.2.2.2.2.2.2.1
@[irreducible] noncomputable def dp : Nat := pk9.2.2.2.2.2.2.2.2.2.2.2.2.2.2.2.2.2.2.2.2.2.2.2.2.2.2.2.2.2.2.2.2.2.2.2.2.2.2.2.2.2.2.2.2.2.2.2.2.2.2.2.2.2.2.2.2.2.2.2.2.2.1
@[irreducible] noncomputable def un : Nat := pk9.2.2.2.2.2.2.2.2.2.2.2.2.2.2.2.2.2.2.2.2.2.2.2.2.2.2.2.2.2.2.2.2.2.2.2.2.2.2.2.2.2.2.2.2.2.2.2.2.2.2.2.2.2.2.2.2.2.2.2.2.2.2.1
@[irreducible] noncomputable def gd : Option (List Code) := pk9.2.2.2.2.2.2.2.2.2.2.2.2.2.2.2.2.2.2.2.2.2.2.2.2.2.2.2.2.2.2.2.2.2.2.2.2.2.2.2.2.2.2.2.2.2.2.2.2.2.2.2.2.2.2.2.2.2.2.2.2.2.2.2.1
@[irreducible] noncomputable def cn : Str := pk9.2.2.2.2.2.2.2.2.2.2.2.2.2.2.2.2.2.2.2.2.2.2.2.2.2.2.2.2.2.2.2.2.2.2.2.2.2.2.2.2.2.2.2.2.2.2.2.2.2.2.2.2.2.2.2.2.2.2.2.2.2.2.2.2.1
@[irreducible] noncomputable def cs : Scope := pk9.2.2.2.2.2.2.2.2.2.2.2.2.2.2.2.2.2.2.2.2.2.2.2.2.2.2.2.2.2.2.2.2.2.2.2.2.2.2.2.2.2.2.2.2.2.2.2.2.2.2.2.2.2.2.2.2.2.2.2.2.2.2.2.2.2.1
@[irreducible] noncomputable def a : Addr := pk9.2.2.2.2.2.2.2.2.2.2.2.2.2.2.2.2.2.2.2.2.2.2.2.2.2.2.2.2.2.2.2.2.2.2.2.2.2.2.2.2.2.2.2.2.2.2.2.2.2.2.2.2.2.2.2.2.2.2.2.2.2.2.2.2.2.2.1
@[irreducible] noncomputable def ccd : Value := pk9.2.2.2.2.2.2.2.2.2.2.2.2.2.2.2.2.2.2.2.2.2.2.2.2.2.2.2.2.2.2.2.2.2.2.2.2.2.2.2.2.2.2.2.2.2.2.2.2.2.2.2.2.2.2.2.2.2.2.2.2.2.2.2.2.2.2.2.1
@[irreducible] noncomputable def cl : List (Str × Addr) := pk9.2.2.2.2.2.2.2.2.2.2.2.2.2.2.2.2.2.2.2.2.2.2.2.2.2.2.2.2.2.2.2.2.2.2.2.2.2.2.2.2.2.2.2.2.2.2.2.2.2.2.2.2.2.2.2.2.2.2.2.2.2.2.2.2.2.2.2.2.1
@[irreducible] noncomputable def outer : List Env := pk9.2.2.2.2.2.2.2.2.2.2.2.2.2.2.2.2.2.2.2.2.2.2.2.2.2.2.2.2.2.2.2.2.2.2.2.2.2.2.2.2.2.2.2.2.2.2.2.2.2.2.2.2.2.2.2.2.2.2.2.2.2.2.2.2.2.2.2.2.2.1
@[irreducible] noncomputable def A₀ : Around := pk9.2.2.2.2.2.2.2.2.2.2.2.2.2.2.2.2.2.2.2.2.2.2.2.2.2.2.2.2.2.2.2.2.2.2.2.2.2.2.2.2.2.2.2.2.2.2.2.2.2.2.2.2.2.2.2.2.2.2.2.2.2.2.2.2.2.2.2.2.2.2.1
@[irreducible] noncomputable def base : Heap := pk9.2.2.2.2.2.2.2.2.2.2.2.2.2.2.2.2.2.2.2.2.2.2.2.2.2.2.2.2.2.2.2.2.2.2.2.2.2.2.2.2.2.2.2.2.2.2.2.2.2.2.2.2.2.2.2.2.2.2.2.2.2.2.2.2.2.2.2.2.2.2.2.1
@[irreducible] noncomputable def h₀ : Heap := pk9.2.2.2.2.2.2.2.2.2.2.2.2.2.2.2.2.2.2.2.2.2.2.2.2.2.2.2.2.2.2.2.2.2.2.2.2.2.2.2.2.2.2.2.2.2.2.2.2.2.2.2.2.2.2.2.2.2.2.2.2.2.2.2.2.2.2.2.2.2.2.2.2.1
@[irreducible] noncomputable def L : Addr := pk9.2.2.2.2.2.2.2.2.2.2.2.2.2.2.2.2.2.2.2.2.2.2.2.2.2.2.2.2.2.2.2.2.2.2.2.2.2.2.2.2.2.2.2.2.2.2.2.2.2.2.2.2.2.2.2.2.2.2.2.2.2.2.2.2.2.2.2.2.2.2.2.2.2.1
@[irreducible] noncomputable def m : Str → Option Value := pk9.2.2.2.2.2.2.2.2.2.2.2.2.2.2.2.2.2.2.2.2.2.2.2.2.2.2.2.2.2.2.2.2.2.2.2.2.2.2.2.2.2.2.2.2.2.2.2.2.2.2.2.2.2.2.2.2.2.2.2.2.2.2.2.2.2.2.2.2.2.2.2.2.2.2.1
@[irreducible] noncomputable def s₀ : Shared := pk9.2.2.2.2.2.2.2.2.2.2.2.2.2.2.2.2.2.2.2.2.2.2.2.2.2.2.2.2.2.2.2.2.2.2.2.2.2.2.2.2.2.2.2.2.2.2.2.2.2.2.2.2.2.2.2.2.2.2.2.2.2.2.2.2.2.2.2.2.2.2.2.2.2.2.2.1
@[irreducible] noncomputable def Q : Value → Shared → Prop := pk9.2.2.2.2.2.2.2.2.2.2.2.2.2.2.2.2.2.2.2.2.2.2.2.2.2.2.2.2.2.2.2.2.2.2.2.2.2.2.2.2.2.2.2.2.2.2.2.2.2.2.2.2.2.2.2.2.2.2.2.2.2.2.2.2.2.2.2.2.2.2.2.2.2.2.2.2.1
@[irreducible] noncomputable def E : Value → Shared → Prop := pk9.2.2.2.2.2.2.2.2.2.2.2.2.2.2.2.2.2.2.2.2.2.2.2.2.2.2.2.2.2.2.2.2.2.2.2.2.2.2.2.2.2.2.2.2.2.2.2.2.2.2.2.2.2.2.2.2.2.2.2.2.2.2.2.2.2.2.2.2.2.2.2.2.2.2.2.2.2
theorem core9 : Pr9 w news S I ns ni b1 b2 b3 b4 b5 p1 q1 r1 v1 p2 q2 r2 v2 p3 q3 r3 v3 p4 q4 r4 v4 p5 q5 r5 v5 n1 n2 n3 n4 n5 x1 x1' x1'' y1 x2 x2' x2'' y2 x3 x3' x3'' y3 x4 x4' x4'' y4 x5 x5' x5'' y5 p loose mean mg mb dp un gd cn cs a ccd cl outer A₀ base h₀ L m s₀ Q E := by
  intro hS hI hb5 hb4 hb3 hb2 hb1 hp1 hq1 hr1 hv1 hp2 hq2 hr2 hv2 hp3 hq3 hr3 hv3 hp4 hq4 hr4 hv4 hp5 hq5 hr5 hv5
  w_top off
  k_with_none
  k_with "execs cons" => (k_here; (with_reducible refine toks_succ ?_); intro tk8ₓ)
  k_with "subscriptTail Name Constant ref int" => (k_here; (with_reducible show wpAny _ _ (subscriptTail _ _ (Value.ref _) (Value.int _ _)) _ _ _); (with_unfolding_all refine' item_litK ?k1x116 ?k2x116 ?k3x116 ?k4x116 ?_ ?k6x116; (case k1x116 => exact News.isList (by k_asm) (by ((with_reducible (repeat (first | exact List.mem_cons_self | exact mem_led (by with_reducible assumption) | refine List.mem_cons_of_mem _ ?_ | refine mem_led_sub (by with_reducible assumption) ?_))); (first | done | with_reducible assumption)))); (case k2x116 => decide); (case k3x116 => decide); (case k4x116 => rfl); (case k6x116 => with_unfolding_all rfl); k_whole))
  k_with "subscriptTail Name Name ref int" => (k_here; (with_reducible show wpAny _ _ (subscriptTail _ _ (Value.ref _) (Value.int _ _)) _ _ _); (with_unfolding_all refine' item_litK ?k1x117 ?k2x117 ?k3x117 ?k4x117 ?_ ?k6x117; (case k1x117 => exact News.isList (by k_asm) (by ((with_reducible (repeat (first | exact List.mem_cons_self | exact mem_led (by with_reducible assumption) | refine List.mem_cons_of_mem _ ?_ | refine mem_led_sub (by with_reducible assumption) ?_))); (first | done | with_reducible assumption)))); (case k2x117 => decide); (case k3x117 => decide); (case k4x117 => rfl); (case k6x117 => with_unfolding_all rfl); k_whole))
  k_with "eval ListComp" => (k_here; k_dflt (first
    | refine comp_exprNH (by k_asm) (by with_unfolding_all rfl) (by rfl) (by decide) (fun _ => by rfl) (fun _ => by rfl) ?_
    | refine comp_exprXH (by k_asm) (by with_unfolding_all rfl) (by rfl) (by decide) (fun _ => by rfl) (fun _ => by rfl) ?_); intro Fin9'ₓ hFin9'ₓ)
  k_with "exec Assign cons ListComp" => (k_here; k_dflt (refine comp_assignNH (by k_asm) (by rfl) (by with_unfolding_all rfl) (by with_unfolding_all rfl) (by rfl) (by decide) (fun _ => by rfl) (fun _ => by rfl) (by rfl) (by rfl) ?_); intro Fin9'ₓ hFin9'ₓ)
  k_with "CSrc" => (k_here; k_dflt (first
    | (refine csrc_listNH rfl (by k_asm) (by k_asm) (by is_list) (by first | size_fits | exact Nat.le_of_ble_eq_true rfl) (by rfl) (by rfl) ?_; intro g1'ₓ g2'ₓ nb'ₓ Fin8'ₓ hFin8'ₓ)
    | (refine csrc_listXH rfl (by k_asm) (by k_asm) (by is_list) (by first | size_fits | exact Nat.le_of_ble_eq_true rfl) (by rfl) (by rfl) (fun _ => by rfl) ?_; intro g1'ₓ g2'ₓ nb'ₓ Fin8'ₓ hFin8'ₓ)
    | (refine csrc_tupleNH rfl (by k_asm) (by k_asm) (News.isTup (by k_asm) (by ((with_reducible (repeat (first | exact List.mem_cons_self | exact mem_led (by with_reducible assumption) | refine List.mem_cons_of_mem _ ?_ | refine mem_led_sub (by with_reducible assumption) ?_))); (first | done | with_reducible assumption)))) (by first | size_fits | exact Nat.le_of_ble_eq_true rfl) (by rfl) (by rfl) ?_; intro g1'ₓ g2'ₓ nb'ₓ Fin8'ₓ hFin8'ₓ)
    | (refine csrc_rangeNH rfl (by k_asm) (by k_asm) (by assumption) (by first | decide | rfl) (by first | rfl | decide) (by first | size_fits | exact Nat.le_of_ble_eq_true rfl) (by rfl) (by rfl) ?_; intro g1'ₓ g2'ₓ nb'ₓ Fin8'ₓ hFin8'ₓ)
    | (refine csrc_rangeXH rfl (by k_asm) (by k_asm) (by assumption) (by first | decide | rfl) (by first | rfl | decide) (by first | size_fits | exact Nat.le_of_ble_eq_true rfl) (by rfl) (by rfl) (fun _ => by rfl) ?_; intro g1'ₓ g2'ₓ nb'ₓ Fin8'ₓ hFin8'ₓ)); refine AllInC.both ?_; intro hsub'ₓ; (try dsimp only [AllInC]); intros; (try (refine AllInC.skip ?_)))
  k_with "call type:zip" => (k_here; (with_reducible show wpAny _ _ (PySem.call _ _) (CSrc _ _ _ _ _ _ _ _ _ _ _ _ _ _ _ _) _ _); k_dflt (refine csrc_zipH rfl (by k_asm) (by k_asm) (by is_list) (by is_list) (by first | size_fits | exact Nat.le_of_ble_eq_true rfl) (by rfl) (by rfl) (by decide) (by rfl) ?_; intro g1'ₓ g2'ₓ nb'ₓ Fin8'ₓ hFin8'ₓ); refine AllInC.both ?_; intro hsub'ₓ; (try dsimp only [AllInC]); intros; (try (refine AllInC.skip ?_)))
  k_with "call type:enumerate" => (k_here; (with_reducible show wpAny _ _ (PySem.call _ _) (CSrc _ _ _ _ _ _ _ _ _ _ _ _ _ _ _ _) _ _); k_dflt (refine csrc_enumH rfl (by k_asm) (by k_asm) (by is_list) (by first | size_fits | exact Nat.le_of_ble_eq_true rfl) (by rfl) (by rfl) (by decide) (by rfl) ?_; intro g1'ₓ g2'ₓ nb'ₓ Fin8'ₓ hFin8'ₓ); refine AllInC.both ?_; intro hsub'ₓ; (try dsimp only [AllInC]); intros; (try (refine AllInC.skip ?_)))
  k_with "RestL" => ((with_unfolding_all (first | refine RestL.l0 (by rfl) ?_ | refine RestL.lx0 (by rfl) ?_ | refine RestL.r0 ?_ | refine RestL.rx0 ?_ | refine RestL.z0 (by rfl) (by rfl) ?_ | refine RestL.e1 (by rfl) ?_)); intros)
  k_with "RestL" => (with_unfolding_all refine RestL.zero (by with_reducible assumption) (by with_reducible assumption) ?_)
  k_with "CFinE" => ((unfold CFinE); intro D'ₓ h'ₓ tk'ₓ l1'ₓ F'ₓ N'ₓ o1'ₓ; (try k_lt l1'ₓ); (try simp only [List.nil_append, List.cons_append, LCg.Off1, and_true] at o1'ₓ); (try simp only [snoc, List.nil_append, List.cons_append] at N'ₓ); (try dsimp only))
  k_with "CFinA" => ((unfold CFinA); intro D'ₓ h'ₓ tk'ₓ l1'ₓ F'ₓ N'ₓ o1'ₓ; (try k_lt l1'ₓ); (try simp only [List.nil_append, List.cons_append, LCg.Off1, and_true] at o1'ₓ); (try simp only [snoc, List.nil_append, List.cons_append] at N'ₓ); (try dsimp only))
  k_with "Hid" => ((with_reducible show Hid _ (Value.ref _) _); (first | (first | refine hid_fact (by with_reducible assumption) (by with_reducible assumption) ?_ | refine hid_fact3 (by with_reducible assumption) (by with_reducible assumption) ?_); intro hX9ₓ; simp only [AllLt, and_true] at hX9ₓ | skip); (refine turn1 (by with_reducible assumption) (by rfl) (by k_asm) (by first | k_asm | exact news_snd (by k_asm) | exact news_snd (news_snd (by k_asm)) | exact news_snd (news_snd (news_snd (by k_asm))) | exact news_snd (news_snd (news_snd (news_snd (by k_asm))))) (by first | assumption | exact And.right (α := _) (by assumption : AllLt _ (_ :: _)) | exact (And.right (And.right (by assumption : AllLt _ (_ :: _ :: _)))) | exact (And.right (And.right (And.right (by assumption : AllLt _ (_ :: _ :: _ :: _)))))) ?_))
  k_with "Hid" => ((with_reducible show Hid _ (Value.int _ _) _); (refine turn0 (by with_reducible assumption) (by rfl) (by k_asm) (by first | k_asm | exact news_tail (by k_asm) | exact news_tail (news_tail (by k_asm)) | exact news_tail (news_tail (news_tail (by k_asm))) | exact news_tail (news_tail (news_tail (news_tail (by k_asm)))) | exact news_tail (news_tail (news_tail (news_tail (news_tail (by k_asm))))) | exact news_tail (news_tail (news_tail (news_tail (news_tail (news_tail (by k_asm))))))) ?_))
  k_with "Hid" => ((with_reducible show Hid _ Value.none _); (refine turnF (by with_reducible assumption) (by rfl) (by k_asm) (by first | k_asm | exact news_tail (by k_asm) | exact news_tail (news_tail (by k_asm)) | exact news_tail (news_tail (news_tail (by k_asm))) | exact news_tail (news_tail (news_tail (news_tail (by k_asm)))) | exact news_tail (news_tail (news_tail (news_tail (news_tail (by k_asm))))) | exact news_tail (news_tail (news_tail (news_tail (news_tail (news_tail (by k_asm))))))) ?_))
  k_with "call ref" => (k_here; (with_reducible show wpAny _ _ (PySem.call (Value.ref 63) _) _ _ _); k_dflt (refine' Does.use (afs_any _ _ _ _ _ _ _ _ _ _ _ _ _ _ _ _ _ _ _ _ _ _ _ _ _ _ _ _ _ _ ?h1x130 ?h3x130 ?g1x130 ?g2x130 ?g3x130 ?mTx130 ?mSx130 ?m1x130 ?m2x130 ?nex130) ?k1x130 ?k2x130 ?k3x130 ?k4x130 ?k5x130 ?kKx130 ?kdx130 ?kux130 ?_; (case k1x130 => k_asm); (case k2x130 => k_asm); (case k3x130 => k_asm); (case k4x130 => k_asm); (case k5x130 => k_asm); (case kKx130 => first | exact rfl | assumption); (case kdx130 => ktr_room); (case kux130 => ktr_units); (case mTx130 => ((with_reducible (repeat (first | exact List.mem_cons_self | exact mem_led (by with_reducible assumption) | refine List.mem_cons_of_mem _ ?_ | refine mem_led_sub (by with_reducible assumption) ?_))); (first | done | with_reducible assumption))); (case mSx130 => ((with_reducible (repeat (first | exact List.mem_cons_self | exact mem_led (by with_reducible assumption) | refine List.mem_cons_of_mem _ ?_ | refine mem_led_sub (by with_reducible assumption) ?_))); (first | done | with_reducible assumption))); (case m1x130 => ((with_reducible (repeat (first | exact List.mem_cons_self | exact mem_led (by with_reducible assumption) | refine List.mem_cons_of_mem _ ?_ | refine mem_led_sub (by with_reducible assumption) ?_))); (first | done | with_reducible assumption))); (case m2x130 => ((with_reducible (repeat (first | exact List.mem_cons_self | exact mem_led (by with_reducible assumption) | refine List.mem_cons_of_mem _ ?_ | refine mem_led_sub (by with_reducible assumption) ?_))); (first | done | with_reducible assumption))); (case h1x130 => assumption); (case h3x130 => assumption); (case g1x130 => assumption); (case g2x130 => assumption); (case g3x130 => assumption); (case nex130 => first | k_ne | (refine neN ?_; (try dsimp only); omega)); intro r9ₓ tl9ₓ h9ₓ tk9ₓ F9ₓ N9ₓ l9ₓ p9ₓ; obtain ⟨R9ₓ, D9ₓ, oD9ₓ, x9ₓ, y9ₓ, w0ₓ, w1ₓ, w2ₓ, w3ₓ, e1ₓ, e2ₓ, q1ₓ, q3ₓ, e3ₓ, e4ₓ⟩ := p9ₓ; subst e1ₓ; subst e2ₓ; have hAll9a := allLt_of (l9ₓ _ (List.mem_cons_self ..)); have hAll9b := allLt_of (l9ₓ _ (List.mem_cons_of_mem _ (List.mem_cons_self ..))); have l9'ₓ := allLt_of (l9ₓ _ (List.mem_cons_self ..)); replace l9ₓ := allLt_of (l9ₓ _ (List.mem_cons_of_mem _ (List.mem_cons_self ..))); simp only [AllLt, and_true] at l9ₓ l9'ₓ; (try simp only [List.cons_append, List.nil_append] at N9ₓ); (try dsimp only); (try k_sweep)))
  k_with "call ref" => (k_here; (with_reducible show wpAny _ _ (PySem.call (Value.ref 21) _) _ _ _); k_dflt (refine' Does.use (strip3 _ _ _ _ _ _ _ ?hnx131 ?hlx131) ?k1x131 ?k2x131 ?k3x131 ?k4x131 ?k5x131 ?kKx131 ?kdx131 ?kux131 ?_; (case k1x131 => k_asm); (case k2x131 => k_asm); (case k3x131 => k_asm); (case k4x131 => k_asm); (case k5x131 => k_asm); (case kKx131 => first | exact rfl | assumption); (case kdx131 => ktr_room); (case kux131 => ktr_units); (case hnx131 => omega); (case hlx131 => omega); intro r9ₓ tl9ₓ h9ₓ tk9ₓ F9ₓ N9ₓ l9ₓ p9ₓ; obtain ⟨e1ₓ, l2ₓ, t2ₓ, k2ₓ, e2ₓ, e3ₓ, e4ₓ⟩ := p9ₓ; subst e1ₓ; subst e2ₓ; clear l9ₓ; (try simp only [List.cons_append, List.nil_append] at N9ₓ); (try dsimp only); (try k_sweep)))
  k_with "call ref" => (k_here; (with_reducible show wpAny _ _ (PySem.call (Value.ref 21) _) _ _ _); k_dflt (refine' Does.use (strip1 _ _ _ _ _ _ ?hnx132 ?hlx132) ?k1x132 ?k2x132 ?k3x132 ?k4x132 ?k5x132 ?kKx132 ?kdx132 ?kux132 ?_; (case k1x132 => k_asm); (case k2x132 => k_asm); (case k3x132 => k_asm); (case k4x132 => k_asm); (case k5x132 => k_asm); (case kKx132 => first | exact rfl | assumption); (case kdx132 => ktr_room); (case kux132 => ktr_units); (case hnx132 => omega); (case hlx132 => omega); intro r9ₓ tl9ₓ h9ₓ tk9ₓ F9ₓ N9ₓ l9ₓ p9ₓ; obtain ⟨e1ₓ, l2ₓ, k2ₓ, e2ₓ, e3ₓ, e4ₓ⟩ := p9ₓ; subst e1ₓ; subst e2ₓ; clear l9ₓ; (try simp only [List.cons_append, List.nil_append] at N9ₓ); (try dsimp only); (try k_sweep)))
  k_with "binaryOp Mult str int" => (k_here; k_dflt (refine mul_blank (by omega) (by omega) ?_; intro n8ₓ t8ₓ k8ₓ e8ₓ))
  k_with "binaryOp Add str str" => (k_here; first
    | (with_reducible refine add_lead ?hsx134 ?_; (case hsx134 => (simp only [List.length_cons, List.length_nil]; omega)); intro l8ₓ t8ₓ k8ₓ e8ₓ)
    | (with_reducible refine add_trail ?hsx134 ?_; (case hsx134 => (simp only [List.length_cons, List.length_nil]; omega)); intro l8ₓ t8ₓ k8ₓ e8ₓ))
  k_with "call builtin:len" => (k_here; first
    | ((with_reducible refine len_pad3 ?ksx135 ?_); (case ksx135 => omega); intro z8ₓ e8ₓ)
    | ((with_reducible refine len_pad1 ?ksx135 ?_); (case ksx135 => omega); intro z8ₓ e8ₓ))
  k_with "call builtin:str.index" => (k_here; k_dflt (refine index_pad ?_))
  k_with "call builtin:list.append" => (k_here; (with_reducible show wpAny _ _ (PySem.call (Value.builtin _) [Value.ref _, _]) _ _ _); k_dflt (refine' append_K ?k1x137 ?k2x137 ?k3x137 ?_ ?zx137; (case k1x137 => k_asm); (case k2x137 => k_asm); (case k3x137 => k_upd); (case zx137 => assumption); k_whole); intro h'ₓ F'ₓ N'ₓ; (try k_sweep))
  k_with "newTuple" => (k_here; k_dflt (refine' kup_newTuple ?Fx138 ?Nx138 ?_ ?zx138; (case Fx138 => k_asm); (case Nx138 => k_asm); (case zx138 => kmk_size)); intro D'ₓ h'ₓ F'ₓ N'ₓ l1ₓ; (try k_lt l1ₓ); (try k_sweep))
  k_with "ItemsRest" => (refine haltI_Run4 ?_)
  k_with "UnrEndW" => (refine haltI_Run4 ?_)
  k_with "call builtin:sum" => (k_here; (with_reducible show wpAny _ _ (PySem.call (Value.builtin "sum") [Value.ref _]) _ _ _); k_dflt (refine' sumK ?k0x141 ?k1x141 ?k2x141 ?k3x141 ?k4x141 ?_; (case k0x141 => with_unfolding_all rfl); (case k1x141 => k_asm); (case k2x141 => k_asm); (case k3x141 => is_list); (case k4x141 => first | l_ints | l_intsW); k_whole); intro h'ₓ tk'ₓ t'ₓ F'ₓ N'ₓ; (try simp only [List.sum_cons, List.sum_nil]))
  k_with "eval Name" => (k_here; (with_reducible show wpAny _ _ (eval (PySem.Expr.Name _ _) (compEnvC _ _ _ _)) _ _ _); k_dflt (first
    | (refine' LCgL.ld_own ?Nx142 ?hmx142 ?hCx142 ?hxx142 ?_ ?hkx142 ?hlx142 ?hdx142; (case hlx142 => rfl); (case hkx142 => rfl); (case hdx142 => decide); (case Nx142 => k_asm); (case hmx142 => ((with_reducible (repeat (first | exact List.mem_cons_self | exact mem_led (by with_reducible assumption) | refine List.mem_cons_of_mem _ ?_ | refine mem_led_sub (by with_reducible assumption) ?_))); (first | done | with_reducible assumption))); (case hCx142 => with_reducible assumption); (case hxx142 => with_reducible assumption); k_whole)
    | (refine' kcf_cell ?Nx142 ?cx142 ?mx142 ?dx142 ?_ ?ax142 ?bx142 ?hdx142; (case bx142 => rfl); (case ax142 => rfl); (case hdx142 => decide); (case Nx142 => k_asm); (case cx142 => rfl); (case mx142 => ((with_reducible (repeat (first | exact List.mem_cons_self | exact mem_led (by with_reducible assumption) | refine List.mem_cons_of_mem _ ?_ | refine mem_led_sub (by with_reducible assumption) ?_))); (first | done | with_reducible assumption))); (case dx142 => k_asm); k_whole)
    | (refine' LCgL.ld_built ?Fx142 ?Xx142 ?Tx142 ?ex142 ?vx142 ?nx142 ?_ ?gx142 ?bx142 ?hkx142 ?hxx142 ?hdx142; (case hxx142 => rfl); (case hkx142 => rfl); (case gx142 => rfl); (case bx142 => rfl); (case hdx142 => decide); (case Fx142 => k_asm); (case Xx142 => k_asm); (case Tx142 => k_asm); (case ex142 => k_is); (case vx142 => boot_by_name); (case nx142 => decide); k_whole)))
  unfold DoesAt
  k_fill
  intro B F X N T hk hd' hu' hret
  refine wpAny_call ?_
  k_dflt (refine' code_defS (sub := [(S, W.listOf #[.int v1 y1, .int v2 y2, .int v3 y3, .int v4 y4, .int v5 y5] ns), (I, W.listOf #[.ref b1, .ref b2, .ref b3, .ref b4, .ref b5] ni), (b5, W.listOf #[.int p5 x5, .int q5 x5', .int r5 x5''] n5), (b4, W.listOf #[.int p4 x4, .int q4 x4', .int r4 x4''] n4), (b3, W.listOf #[.int p3 x3, .int q3 x3', .int r3 x3''] n3), (b2, W.listOf #[.int p2 x2, .int q2 x2', .int r2 x2''] n2), (b1, W.listOf #[.int p1 x1, .int q1 x1', .int r1 x1''] n1)]) ?kS ?kN ?k1 ?k2 ?k3 ?k4 ?k5 ?kA ?kF ?kK ?k6 ?k7 ?k8 ?k9 ?kB ?_ ?c2 ?c3 ?c4 ?c5; (case kS => exact List.forall_mem_cons.mpr ⟨hS, List.forall_mem_cons.mpr ⟨hI, List.forall_mem_cons.mpr ⟨hb5, List.forall_mem_cons.mpr ⟨hb4, List.forall_mem_cons.mpr ⟨hb3, List.forall_mem_cons.mpr ⟨hb2, List.forall_mem_cons.mpr ⟨hb1, List.forall_mem_nil _⟩⟩⟩⟩⟩⟩⟩); (case kN => exact List.cons_ne_nil _ _); (case kA => exact rfl); (case kF => exact rfl); (case kK => assumption); (case k1 => k_asm); (case k2 => k_asm); (case k3 => k_asm); (case k4 => k_asm); (case k5 => k_asm); (case k6 => k_is); (case k7 => k_is); (case k8 => ktr_room); (case k9 => exact BindsTo.of_eq rfl); (case c5 => decide); (case kB => exact locs rfl); (case c2 => exact rfl); (case c3 => exact rfl); (case c4 => exact rfl); k_whole; intro g' L' h' tk' b9 ob9 FG' F' N' B' X' T' l1 lb9 bk9; (try simp only [List.cons_append, List.nil_append] at l1); (try k_lt l1); (try simp only [List.cons_append, List.nil_append] at N'); (try dsimp only); (try k_fold))
  k_steps
  (rename Top p loose mean mg mb g' => T7)
  unfold Keep
  have oks : ∀ c ∈ ([⟨b1, n1, p1, q1, r1, v1, x1, x1', x1'', y1⟩, ⟨b2, n2, p2, q2, r2, v2, x2, x2', x2'', y2⟩, ⟨b3, n3, p3, q3, r3, v3, x3, x3', x3'', y3⟩, ⟨b4, n4, p4, q4, r4, v4, x4, x4', x4'', y4⟩, ⟨b5, n5, p5, q5, r5, v5, x5, x5', x5'', y5⟩] : List Cel), c.Ok ∧ (c.b, c.obj) ∈ [(S, W.listOf #[.int v1 y1, .int v2 y2, .int v3 y3, .int v4 y4, .int v5 y5] ns), (I, W.listOf #[.ref b1, .ref b2, .ref b3, .ref b4, .ref b5] ni), (b5, W.listOf #[.int p5 x5, .int q5 x5', .int r5 x5''] n5), (b4, W.listOf #[.int p4 x4, .int q4 x4', .int r4 x4''] n4), (b3, W.listOf #[.int p3 x3, .int q3 x3', .int r3 x3''] n3), (b2, W.listOf #[.int p2 x2, .int q2 x2', .int r2 x2''] n2), (b1, W.listOf #[.int p1 x1, .int q1 x1', .int r1 x1''] n1), (b9, ob9)] := by
    intro c hc
    simp only [List.mem_cons, List.not_mem_nil, or_false] at hc
    rcases hc with rfl | rfl | rfl | rfl | rfl
    all_goals (refine ⟨⟨?_, ?_, ?_, ?_⟩, ?_⟩ <;> first | assumption | (dsimp only [Cel.obj]; k_mem))
  refine loopV2 (RunInv w ([⟨b1, n1, p1, q1, r1, v1, x1, x1', x1'', y1⟩, ⟨b2, n2, p2, q2, r2, v2, x2, x2', x2'', y2⟩, ⟨b3, n3, p3, q3, r3, v3, x3, x3', x3'', y3⟩, ⟨b4, n4, p4, q4, r4, v4, x4, x4', x4'', y4⟩, ⟨b5, n5, p5, q5, r5, v5, x5, x5', x5'', y5⟩] : List Cel) [(S, W.listOf #[.int v1 y1, .int v2 y2, .int v3 y3, .int v4 y4, .int v5 y5] ns), (I, W.listOf #[.ref b1, .ref b2, .ref b3, .ref b4, .ref b5] ni), (b5, W.listOf #[.int p5 x5, .int q5 x5', .int r5 x5''] n5), (b4, W.listOf #[.int p4 x4, .int q4 x4', .int r4 x4''] n4), (b3, W.listOf #[.int p3 x3, .int q3 x3', .int r3 x3''] n3), (b2, W.listOf #[.int p2 x2, .int q2 x2', .int r2 x2''] n2), (b1, W.listOf #[.int p1 x1, .int q1 x1', .int r1 x1''] n1), (b9, ob9)] b9) ?init ?done ?step
  case init =>
    refine' ⟨_, ?hsub, _, _, _, _, 0, ([⟨b1, n1, p1, q1, r1, v1, x1, x1', x1'', y1⟩, ⟨b2, n2, p2, q2, r2, v2, x2, x2', x2'', y2⟩, ⟨b3, n3, p3, q3, r3, v3, x3, x3', x3'', y3⟩, ⟨b4, n4, p4, q4, r4, v4, x4, x4', x4'', y4⟩, ⟨b5, n5, p5, q5, r5, v5, x5, x5', x5'', y5⟩] : List Cel), [], Z0, [], _, _, _, _, _, _, _, rfl, rfl, .nil, rfl, rfl, rfl, .inl ⟨?i1, .nil, rfl, rfl⟩, ?i2, ?i3, ?i4, ?i5, ?i6, ?i7⟩
    case hsub => exact List.forall_mem_cons.mpr ⟨by k_mem, List.forall_mem_cons.mpr ⟨by k_mem, List.forall_mem_cons.mpr ⟨by k_mem, fun p hp => List.mem_of_mem_drop (i := 4) hp⟩⟩⟩
    case i1 => assumption
    case i2 => assumption
    case i3 => simp [Z0]
    case i4 => (repeat' (first | exact List.forall_mem_nil _ | refine List.forall_mem_cons.mpr ⟨?_, ?_⟩)) <;> k_ne
    case i5 => (repeat' (first | exact List.forall_mem_nil _ | refine List.forall_mem_cons.mpr ⟨?_, ?_⟩)) <;> k_ne
    case i6 => exact ⟨by simp only [AllLt, and_true] at *; omega, by simp only [AllLt, and_true] at *; omega, by simp only [AllLt, and_true] at *; omega, fun _ h => nomatch h⟩
    case i7 => exact ⟨by k_ne, by k_ne⟩
  case done =>
    generalize hce : ([⟨b1, n1, p1, q1, r1, v1, x1, x1', x1'', y1⟩, ⟨b2, n2, p2, q2, r2, v2, x2, x2', x2'', y2⟩, ⟨b3, n3, p3, q3, r3, v3, x3, x3', x3'', y3⟩, ⟨b4, n4, p4, q4, r4, v4, x4, x4', x4'', y4⟩, ⟨b5, n5, p5, q5, r5, v5, x5, x5', x5'', y5⟩] : List Cel) = cells at *
    generalize hsu : [(S, W.listOf #[.int v1 y1, .int v2 y2, .int v3 y3, .int v4 y4, .int v5 y5] ns), (I, W.listOf #[.ref b1, .ref b2, .ref b3, .ref b4, .ref b5] ni), (b5, W.listOf #[.int p5 x5, .int q5 x5', .int r5 x5''] n5), (b4, W.listOf #[.int p4 x4, .int q4 x4', .int r4 x4''] n4), (b3, W.listOf #[.int p3 x3, .int q3 x3', .int r3 x3''] n3), (b2, W.listOf #[.int p2 x2, .int q2 x2', .int r2 x2''] n2), (b1, W.listOf #[.int p1 x1, .int q1 x1', .int r1 x1''] n1), (b9, ob9)] = sub at *
    clear hce
    intro m1 news1 hI1 h1 tk1 F1 N1
    revert cells sub; refine lock ?_; set_option tactic.hygienic false in intros
    obtain ⟨T, d, Sn, od, arrn, cs, dn, Z, rl, f, kt, kr, w0, w1, w2, w3, exs, eall, htn, rfl, rfl, hrv, hds, hdm, hbd0, hap, hne, ⟨hbT, hbd, hbS, hbr⟩, hTS, hdS⟩ := hI1
    cases cs with
    | cons c cs => cases exs
    | nil =>
      rw [List.append_nil] at eall
      subst eall
      clear oks
      generalize hold : rl.map RowE.ent ++ sub = old at *
      revert old; refine lock ?_; set_option tactic.hygienic false in intros
      dsimp only
      k_steps
      all_goals (rename Fr _ _ _ _ => F9)
      all_goals (rename News _ _ _ _ => N9)
      all_goals subst hold
      all_goals subst hsu
      all_goals (refine hret _ (_ :: _ :: _ :: _ :: rl.map RowE.ent) _ _ (by assumption) (bk9 _ _ _ (_ :: _ :: _ :: _ :: rl.map RowE.ent) (by assumption) (by assumption)) ?ord ⟨_, _, _, _, _, _, _, _, _, _, _, _, rfl, rfl, htn, hrv, hds, hdm⟩)
      all_goals (refine List.forall_mem_cons.mpr ⟨fun q hq => Nat.lt_of_le_of_lt (lb9 q hq) ?_, List.forall_mem_cons.mpr ⟨fun q hq => Nat.lt_of_le_of_lt (lb9 q hq) hbT, List.forall_mem_cons.mpr ⟨fun q hq => Nat.lt_of_le_of_lt (lb9 q hq) hbd, List.forall_mem_cons.mpr ⟨fun q hq => Nat.lt_of_le_of_lt (lb9 q hq) hbS, fun p hp q hq => ?_⟩⟩⟩⟩)
      · clear hap hne; (try simp only [AllLt, and_true] at *); (try dsimp only); omega
      · obtain ⟨ρ, hρ, rfl⟩ := List.mem_map.mp hp
        exact Nat.lt_of_le_of_lt (lb9 q hq) (hbr ρ hρ)
  case step =>
    have mI9 : (I, W.listOf #[.ref b1, .ref b2, .ref b3, .ref b4, .ref b5] ni) ∈ [(S, W.listOf #[.int v1 y1, .int v2 y2, .int v3 y3, .int v4 y4, .int v5 y5] ns), (I, W.listOf #[.ref b1, .ref b2, .ref b3, .ref b4, .ref b5] ni), (b5, W.listOf #[.int p5 x5, .int q5 x5', .int r5 x5''] n5), (b4, W.listOf #[.int p4 x4, .int q4 x4', .int r4 x4''] n4), (b3, W.listOf #[.int p3 x3, .int q3 x3', .int r3 x3''] n3), (b2, W.listOf #[.int p2 x2, .int q2 x2', .int r2 x2''] n2), (b1, W.listOf #[.int p1 x1, .int q1 x1', .int r1 x1''] n1), (b9, ob9)] := List.mem_cons_of_mem _ List.mem_cons_self
    have mS9 : (S, W.listOf #[.int v1 y1, .int v2 y2, .int v3 y3, .int v4 y4, .int v5 y5] ns) ∈ [(S, W.listOf #[.int v1 y1, .int v2 y2, .int v3 y3, .int v4 y4, .int v5 y5] ns), (I, W.listOf #[.ref b1, .ref b2, .ref b3, .ref b4, .ref b5] ni), (b5, W.listOf #[.int p5 x5, .int q5 x5', .int r5 x5''] n5), (b4, W.listOf #[.int p4 x4, .int q4 x4', .int r4 x4''] n4), (b3, W.listOf #[.int p3 x3, .int q3 x3', .int r3 x3''] n3), (b2, W.listOf #[.int p2 x2, .int q2 x2', .int r2 x2''] n2), (b1, W.listOf #[.int p1 x1, .int q1 x1', .int r1 x1''] n1), (b9, ob9)] := List.mem_cons_self
    generalize hce : ([⟨b1, n1, p1, q1, r1, v1, x1, x1', x1'', y1⟩, ⟨b2, n2, p2, q2, r2, v2, x2, x2', x2'', y2⟩, ⟨b3, n3, p3, q3, r3, v3, x3, x3', x3'', y3⟩, ⟨b4, n4, p4, q4, r4, v4, x4, x4', x4'', y4⟩, ⟨b5, n5, p5, q5, r5, v5, x5, x5', x5'', y5⟩] : List Cel) = cells at *
    generalize hsu : [(S, W.listOf #[.int v1 y1, .int v2 y2, .int v3 y3, .int v4 y4, .int v5 y5] ns), (I, W.listOf #[.ref b1, .ref b2, .ref b3, .ref b4, .ref b5] ni), (b5, W.listOf #[.int p5 x5, .int q5 x5', .int r5 x5''] n5), (b4, W.listOf #[.int p4 x4, .int q4 x4', .int r4 x4''] n4), (b3, W.listOf #[.int p3 x3, .int q3 x3', .int r3 x3''] n3), (b2, W.listOf #[.int p2 x2, .int q2 x2', .int r2 x2''] n2), (b1, W.listOf #[.int p1 x1, .int q1 x1', .int r1 x1''] n1), (b9, ob9)] = sub at *
    clear hce hsu
    clear hret
    intro s9 Q9 E9 R9' a1 r1' m1 news1 hI1 hRR v1' h1 tk1 hv1' F1
    revert cells sub; refine lock ?_; set_option tactic.hygienic false in intros
    obtain ⟨T, d, Sn, od, arrn, cs, dn, Z, rl, f, kt, kr, w0, w1, w2, w3, exs, eall, htn, rfl, rfl, hrv, hds, hdm, hbd0, hap, hne, ⟨hbT, hbd, hbS, hbr⟩, hTS, hdS⟩ := hI1
    cases cs with
    | nil => cases exs
    | cons c cs =>
      simp only [List.map_cons, List.cons.injEq] at exs
      obtain ⟨ea, er⟩ := exs
      subst ea; subst er
      obtain ⟨T8, t8, e8, hT8⟩ := hv1'
      subst e8
      dsimp only at hT8
      obtain ⟨hck, hcm⟩ := oks c (by rw [eall]; exact List.mem_append_right _ (.head _))
      obtain ⟨hcp, hcq, hcr, hcv⟩ := id hck
      have hobj : (c.b, W.listOf #[.int c.p c.x0, .int c.q c.x1, .int c.r c.x2] c.n) ∈ rl.map RowE.ent ++ sub := List.mem_append_right _ hcm
      have hcS : c.b ≠ Sn := hne _ hobj
      generalize hold : rl.map RowE.ent ++ sub = old at *
      revert old; refine lock ?_; set_option tactic.hygienic false in intros
      simp only [List.length_cons] at hbd0
      obtain ⟨hl, ht, hr', hrl⟩ := id hbd0
      have hsz : (seenArr rl).size ≤ sizeLine := by
        unfold seenArr; rw [List.size_toArray, List.length_map]; exact Nat.le_trans (by omega : _ ≤ 20) (by decide)
      generalize harr : seenArr rl = arr at *
      revert arr; refine lock ?_; set_option tactic.hygienic false in intros
      replace hTS := neN hTS
      replace hdS := neN hdS
      replace hcS := neN hcS
      clear oks
      refine allObj_of fun its hws N1 => ?_
      refine hide_its N1 hobj hws hap hTS hdS hne ?_
      clear N1
      intro hid9 N2 hits mT9 md9 mx9 mo9 hne9
      k_steps
      all_goals (unfold Keep)
      all_goals (rename Fr _ _ _ _ => F9)
      all_goals (rename News _ _ _ _ => N9)
      all_goals (refine unrEnd_and hRR ?_)
      all_goals (refine' run_fin eall htn hrv hbd0 hck hap hne hbS hbr hold harr hws ?hkeep F9 N9 rfl rfl rfl rfl ?hR ?hD ?hS ?hl ?ho ?hi ?oR ?oD ?ol ?bR ?bD ?bl ?nR ?nD ?nl (by assumption) (by assumption) rfl ?a1 ?a2 ?a3 ?b1 ?b2 ?b3 ?b4 ?b5 ?b6 ?b7 ?b8 ?b9 ?c1 ?c2 ?c3 ?c4)
      case hkeep => exact List.forall_mem_cons.mpr ⟨by k_mem, List.forall_mem_cons.mpr ⟨by k_mem, List.forall_mem_nil _⟩⟩
      case hR => k_mem
      case hD => k_mem
      case hS => k_mem
      case hl => k_mem
      case ho => exact fun p hp => by (have hp' := mo9 p hp); repeat (first | exact hp' | refine List.mem_cons_of_mem _ ?_)
      case hi => exact fun p hp => by (have hp' := hits p hp); repeat (first | exact hp' | refine List.mem_cons_of_mem _ ?_)
      case oR => (refine ne_ws hws ?_ (by with_reducible assumption)); exact fun p hp => by (have hp' := hits p hp); repeat (first | exact hp' | refine List.mem_cons_of_mem _ ?_)
      case oD => (refine ne_ws hws ?_ (by with_reducible assumption)); exact fun p hp => by (have hp' := hits p hp); repeat (first | exact hp' | refine List.mem_cons_of_mem _ ?_)
      case ol => (refine ne_ws hws ?_ (by with_reducible assumption)); exact fun p hp => by (have hp' := hits p hp); repeat (first | exact hp' | refine List.mem_cons_of_mem _ ?_)
      case c4 => assumption
      case c3 => assumption
      all_goals first | omega | trace_state
theorem all9 (x : Pack9) : PrX9 x := all_of_bad ne9 (by with_unfolding_all exact core9) x
end ER
theorem run_does (w : World) (news : List (Addr × Obj)) (S I : Addr) (ns ni : Nat) (b1 b2 b3 b4 b5 : Addr) (p1 q1 r1 v1 p2 q2 r2 v2 p3 q3 r3 v3 p4 q4 r4 v4 p5 q5 r5 v5 : Int) (n1 n2 n3 n4 n5 : Nat) (x1 x1' x1'' y1 x2 x2' x2'' y2 x3 x3' x3'' y3 x4 x4' x4'' y4 x5 x5' x5'' y5 : Tok) (hS : (S, W.listOf #[.int v1 y1, .int v2 y2, .int v3 y3, .int v4 y4, .int v5 y5] ns) ∈ news) (hI : (I, W.listOf #[.ref b1, .ref b2, .ref b3, .ref b4, .ref b5] ni) ∈ news) (hb5 : (b5, W.listOf #[.int p5 x5, .int q5 x5', .int r5 x5''] n5) ∈ news) (hb4 : (b4, W.listOf #[.int p4 x4, .int q4 x4', .int r4 x4''] n4) ∈ news) (hb3 : (b3, W.listOf #[.int p3 x3, .int q3 x3', .int r3 x3''] n3) ∈ news) (hb2 : (b2, W.listOf #[.int p2 x2, .int q2 x2', .int r2 x2''] n2) ∈ news) (hb1 : (b1, W.listOf #[.int p1 x1, .int q1 x1', .int r1 x1''] n1) ∈ news) (hp1 : 0 ≤ p1 ∧ p1 ≤ 2) (hq1 : 0 ≤ q1 ∧ q1 ≤ 2) (hr1 : 0 ≤ r1 ∧ r1 ≤ 2) (hv1 : 0 ≤ v1 ∧ v1 ≤ 5) (hp2 : 0 ≤ p2 ∧ p2 ≤ 2) (hq2 : 0 ≤ q2 ∧ q2 ≤ 2) (hr2 : 0 ≤ r2 ∧ r2 ≤ 2) (hv2 : 0 ≤ v2 ∧ v2 ≤ 5) (hp3 : 0 ≤ p3 ∧ p3 ≤ 2) (hq3 : 0 ≤ q3 ∧ q3 ≤ 2) (hr3 : 0 ≤ r3 ∧ r3 ≤ 2) (hv3 : 0 ≤ v3 ∧ v3 ≤ 5) (hp4 : 0 ≤ p4 ∧ p4 ≤ 2) (hq4 : 0 ≤ q4 ∧ q4 ≤ 2) (hr4 : 0 ≤ r4 ∧ r4 ≤ 2) (hv4 : 0 ≤ v4 ∧ v4 ≤ 5) (hp5 : 0 ≤ p5 ∧ p5 ≤ 2) (hq5 : 0 ≤ q5 ∧ q5 ≤ 2) (hr5 : 0 ≤ r5 ∧ r5 ≤ 2) (hv5 : 0 ≤ v5 ∧ v5 ≤ 5) : Does w 8 100 89 [.ref I, .ref S] news (fun r tl => ∃ (R T d Sn : Addr) (od : Obj) (arrn : Nat) (Z : RS) (rl : List RowE) (w0 w1 w2 w3 : Tok), r = .ref R ∧ tl = (R, tup #[.ref Sn, .ref T]) :: (T, tup #[.int Z.a w0, .int Z.b w1, .int Z.c w2, .int Z.i w3, .ref d]) :: (d, od) :: (Sn, W.listOf (seenArr rl) arrn) :: rl.map RowE.ent ∧
      Turns ([⟨b1, n1, p1, q1, r1, v1, x1, x1', x1'', y1⟩, ⟨b2, n2, p2, q2, r2, v2, x2, x2', x2'', y2⟩, ⟨b3, n3, p3, q3, r3, v3, x3, x3', x3'', y3⟩, ⟨b4, n4, p4, q4, r4, v4, x4, x4', x4'', y4⟩, ⟨b5, n5, p5, q5, r5, v5, x5, x5', x5'', y5⟩] : List Cel) Z0 Z ∧ rl.map RowE.vals = Z.rows ∧ DS w od Z.F Z.R ∧ (d == sysModules) = false) :=
  fun q90 q91 q92 q93 q94 q95 q96 q97 q98 q99 q910 q911 q912 q913 q914 q915 q916 q917 q918 q919 q920 q921 => ER.all9 (w, news, S, I, ns, ni, b1, b2, b3, b4, b5, p1, q1, r1, v1, p2, q2, r2, v2, p3, q3, r3, v3, p4, q4, r4, v4, p5, q5, r5, v5, n1, n2, n3, n4, n5, x1, x1', x1'', y1, x2, x2', x2'', y2, x3, x3', x3'', y3, x4, x4', x4'', y4, x5, x5', x5'', y5, q90, q91, q92, q93, q94, q95, q96, q97, q98, q99, q910, q911, q912, q913, q914, q915, q916, q917, q918, q919, q920, q921) hS hI hb5 hb4 hb3 hb2 hb1 hp1 hq1 hr1 hv1 hp2 hq2 hr2 hv2 hp3 hq3 hr3 hv3 hp4 hq4 hr4 hv4 hp5 hq5 hr5 hv5
end Mine
end
section
open PySem PySem.W PySem.Calls PyProof.Rows
set_option Elab.async false
set_option maxRecDepth 100000
set_option maxHeartbeats 2000000
namespace Mine
structure IntE where
  v : Int
  t : Tok
noncomputable def intArr (ns : List IntE) : Array Value := (ns.map fun ν => Value.int ν.v ν.t).toArray
theorem intArr_push (ns : List IntE) (ν : IntE) : (intArr ns).push (.int ν.v ν.t) = intArr (ns ++ [ν]) := by
  unfold intArr; rw [List.map_append, List.push_toArray]; rfl
noncomputable def bitOn (mask : Int) (k : Nat) : Bool := ((mask.fdiv (2 ^ k)).fmod 2) != 0
noncomputable def bnet (mask : Int) (c : Cel) : Int := (if bitOn mask 0 then c.p else 0) + (if bitOn mask 1 then c.q else 0) + (if bitOn mask 2 then c.r else 0) - c.v
noncomputable def LinInv (cels : List Cel) (old0 : List (Addr × Obj)) (L' : Addr) (mask : Int) (tm : Tok) (ws9 : List (Addr × String)) (xs : List Itm) (_m : Str → Option Value) (news' : List (Addr × Obj)) : Prop :=
  ∃ (Nt : Addr) (oN oM : Obj) (arrn : Nat) (cs dn : List Cel) (ns : List IntE),
      xs = cs.map Cel.itm ∧ cels = dn ++ cs ∧ ns.map IntE.v = dn.map (bnet mask) ∧
      news' = (Nt, W.listOf (intArr ns) arrn) :: (L' + 1 + 1, oN) :: (L' + 1, oM) :: old0 ∧
      oN.data = .cell (some (.ref Nt)) ∧ oM.data = .cell (some (.int mask tm)) ∧
      (∀ p ∈ news', ∀ q ∈ ws9, p.1 ≠ q.1) ∧ (∀ p ∈ old0, p.1 ≠ Nt) ∧ (@Ne Nat Nt (L' + 1 + 1) ∧ @Ne Nat Nt (L' + 1)) ∧ ns.length + cs.length ≤ 20
theorem ap5a {Sn : Addr} {o : Obj} {r : List (Addr × Obj)} {i1 i2 i3 i4 i5 : Addr} {s1 s2 s3 s4 s5 : String} (h : ∀ p ∈ (Sn, o) :: r, ∀ q ∈ [(i1, s1), (i2, s2), (i3, s3), (i4, s4), (i5, s5)], p.1 ≠ q.1) :
    @Ne Nat Sn i1 ∧ @Ne Nat Sn i2 ∧ @Ne Nat Sn i3 ∧ @Ne Nat Sn i4 ∧ @Ne Nat Sn i5 := by
  have h' := h (Sn, o) (.head _)
  exact ⟨h' (i1, s1) (.head _), h' (i2, s2) (.tail _ (.head _)), h' (i3, s3) (.tail _ (.tail _ (.head _))), h' (i4, s4) (.tail _ (.tail _ (.tail _ (.head _)))), h' (i5, s5) (.tail _ (.tail _ (.tail _ (.tail _ (.head _)))))⟩
theorem lin_fin {cels cs dn : List Cel} {c : Cel} {old0 led its keep : List (Addr × Obj)} {Nt L' : Addr} {oN oM oS : Obj} {mask : Int} {tm v0 : Tok} {ws : List (Addr × String)} {ns : List IntE} {g h' : Heap} {L : Addr} {m' : Str → Option Value} {s₁ : Shared} {tk' arrn : Nat}
    {arr : Array Value} {a : Int}
    (eall : cels = dn ++ c :: cs) (hrv : ns.map IntE.v = dn.map (bnet mask)) (hb : ns.length + (cs.length + 1) ≤ 20)
    (hdN : oN.data = .cell (some (.ref Nt))) (hdM : oM.data = .cell (some (.int mask tm)))
    (hap : ∀ p ∈ (Nt, oS) :: (L' + 1 + 1, oN) :: (L' + 1, oM) :: old0, ∀ q ∈ ws, p.1 ≠ q.1) (hne : ∀ p ∈ old0, p.1 ≠ Nt) (hN12 : @Ne Nat Nt (L' + 1 + 1) ∧ @Ne Nat Nt (L' + 1)) (harr : intArr ns = arr) (hws : its.map (·.1) = ws.map (·.1)) (hkeep : ∀ p ∈ keep, p ∈ old0)
    (F : Fr g L h' m') (N : News g L h' led)
    (hS : (Nt, W.listOf (arr.push (.int a v0)) arrn) ∈ led) (h1 : (L' + 1 + 1, oN) ∈ led) (h2 : (L' + 1, oM) ∈ led) (ho : ∀ p ∈ old0, p ∈ led) (hi : ∀ p ∈ its, p ∈ led) (ha : a = bnet mask c) :
    UnrEndW g L s₁ its (fun m' n' => SubL keep n' ∧ LinInv cels old0 L' mask tm ws (cs.map Cel.itm) m' n') { s₁ with heap := h', toks := tk' } := by
  subst harr
  have hpush : (intArr ns).push (.int a v0) = intArr (ns ++ [⟨a, v0⟩]) := intArr_push ns ⟨a, v0⟩
  rw [hpush] at hS
  have hnews : ∀ p ∈ (Nt, W.listOf (intArr (ns ++ [⟨a, v0⟩])) arrn) :: (L' + 1 + 1, oN) :: (L' + 1, oM) :: old0, p ∈ led := by
    intro p hp
    rcases List.mem_cons.mp hp with rfl | hp
    · exact hS
    rcases List.mem_cons.mp hp with rfl | hp
    · exact h1
    rcases List.mem_cons.mp hp with rfl | hp
    · exact h2
    exact ho p hp
  have happ : ∀ p ∈ (Nt, W.listOf (intArr (ns ++ [⟨a, v0⟩])) arrn) :: (L' + 1 + 1, oN) :: (L' + 1, oM) :: old0, ∀ q ∈ ws, p.1 ≠ q.1 := by
    intro p hp q hq
    rcases List.mem_cons.mp hp with rfl | hp
    · exact hap (Nt, oS) (.head _) q hq
    exact hap p (.tail _ hp) q hq
  refine ⟨h', tk', m', (Nt, W.listOf (intArr (ns ++ [⟨a, v0⟩])) arrn) :: (L' + 1 + 1, oN) :: (L' + 1, oM) :: old0, rfl, F, fun p hp => ?_, fun p hp q hq => ?_, ?_, ?_⟩
  · rcases List.mem_append.mp hp with hp | hp
    · exact N p (hi p hp)
    · exact N p (hnews p hp)
  · have : q.1 ∈ ws.map (·.1) := hws ▸ List.mem_map_of_mem hq
    obtain ⟨q', hq', e⟩ := List.mem_map.mp this
    rw [← e]; exact happ p hp q' hq'
  · have : ∀ (l all : List (Addr × Obj)), (∀ p ∈ l, p ∈ all) → SubL l all := by
      intro l
      induction l with
      | nil => intro _ _; trivial
      | cons x r ih => intro all h; exact ⟨h x (.head _), ih all fun p hp => h p (.tail _ hp)⟩
    exact this _ _ fun p hp => .tail _ (.tail _ (.tail _ (hkeep p hp)))
  · refine ⟨Nt, oN, oM, arrn, cs, dn ++ [c], ns ++ [⟨a, v0⟩], rfl, ?_, ?_, rfl, hdN, hdM, happ, hne, hN12, ?_⟩
    · rw [eall, List.append_assoc]; rfl
    · rw [List.map_append, List.map_append, hrv, List.map_singleton, List.map_singleton, ha]
    · rw [List.length_append, List.length_singleton]; omega
theorem news_ins3 {h₀ h : Heap} {L : Addr} {a b c d e f g i x : Addr × Obj} {old : List (Addr × Obj)} (N : News h₀ L h (a :: b :: c :: d :: e :: f :: g :: i :: old)) (hx : x ∈ old) : News h₀ L h (a :: b :: c :: d :: e :: f :: g :: i :: x :: old) := news_ins N hx
end Mine
end
section
open PySem PySem.W PySem.Calls PyProof.Rows
set_option Elab.async false
set_option maxRecDepth 100000
set_option maxHeartbeats 2000000
namespace Mine
noncomputable def MaxZ (m x : Int) : Prop := m = x ∧ 0 ≤ x ∨ m = 0 ∧ x ≤ 0
structure TurnF (c : Cel) (S S' : RS) : Prop where
  l : MaxZ (S'.l : Int) ((S.l : Int) + (c.p - c.v))
  t : MaxZ ((S'.l : Int) + S'.t) ((S.l : Int) + S.t + (c.p + c.q - c.v))
  r : MaxZ ((S'.l : Int) + S'.t + S'.r) ((S.l : Int) + S.t + S.r + (c.p + c.q + c.r - c.v))
  i : S'.i = S.i + (((S'.l : Int) + S'.t + S'.r) - ((S.l : Int) + S.t + S.r) - (c.p + c.q + c.r) + c.v)
  f : S'.F + S'.R = S.F + S.R + c.v - (S'.i - S.i)
  a : S'.a = S.a + S'.l
  b : S'.b = S.b + S'.t
  c' : S'.c = S.c + S'.r
  rows : S'.rows = S.rows ++ [((S'.l : Int), (S'.l : Int) + S'.t, (S'.l : Int) + S'.t + S'.r, S'.i)]
theorem MaxZ.cast {m x y : Int} (e : x = y) (h : MaxZ m x) : MaxZ m y := e ▸ h
theorem subzN (n w : Nat) : MaxZ ((n - w : Nat) : Int) ((n : Int) - w) :=
  (Nat.le_total w n).elim (fun h => .inl ⟨Int.ofNat_sub h, Int.sub_nonneg.mpr (Int.ofNat_le.mpr h)⟩) (fun h => .inr ⟨congrArg Int.ofNat (Nat.sub_eq_zero_of_le h), Int.sub_nonpos_of_le (Int.ofNat_le.mpr h)⟩)
theorem subz {n : Nat} {v : Int} (hv : 0 ≤ v) : MaxZ ((n - v.toNat : Nat) : Int) (n - v) := by
  obtain ⟨w, rfl⟩ := Int.eq_ofNat_of_zero_le hv
  exact subzN n w
theorem subz2 {n m : Nat} {v : Int} (hv : 0 ≤ v) : MaxZ (((n - v.toNat : Nat) : Int) + ((m - (v.toNat - n) : Nat) : Int)) (n + m - v) := by
  obtain ⟨w, rfl⟩ := Int.eq_ofNat_of_zero_le hv
  have h := subzN (n + m) w
  rw [← sub_two] at h
  exact h
theorem rest_of {n m : Nat} {v X rest A B : Int} (h : rest = v - (n + 3 + m) + (A + 3 + B)) (hX : A + B = X) : rest = v - n - m + X := by omega
theorem rest_pos {n v X rest : Int} (h : MaxZ X (n - v)) (hr : rest = v - n + X) : 0 ≤ rest := by unfold MaxZ at h; omega
theorem sub_of (a b c : Int) : a - b - c = a - (b + c) := by omega
theorem subz3 {k : Nat} {N v X rest : Int} (h : MaxZ X (N - v)) (hr : rest = v - N + X) (h0 : 0 ≤ rest) : MaxZ (X + ((k - rest.toNat : Nat) : Int)) (N + k - v) := by
  obtain ⟨w, rfl⟩ := Int.eq_ofNat_of_zero_le h0
  have g := subzN k w
  rw [Int.toNat_natCast]
  generalize ((k - w : Nat) : Int) = d at g ⊢
  rcases h with ⟨a, b⟩ | ⟨a, b⟩ <;> rcases g with ⟨c, e⟩ | ⟨c, e⟩
  · exact .inl ⟨by lia, by lia⟩
  · exact .inl ⟨by lia, by lia⟩
  · exact .inl ⟨by lia, by lia⟩
  · exact .inr ⟨by lia, by lia⟩
theorem tf1 {a b v : Int} : a + b - v = b + (a - v) := by omega
theorem tf2 {l p t q v : Int} : p + l + (t + q) - v = l + t + (p + q - v) := by omega
theorem tf3 {l p t q r s v : Int} : p + l + (t + q) + (r + s) - v = l + t + s + (p + q + r - v) := by omega
theorem tf4 {i i' idle rest r1 r' X l p t q r s v : Int} (e8 : idle = rest - (r1 + 1) + (r' + 1)) (hr : rest = v - (p + l + (t + q)) + X) (e3 : r1 = r + s) (e12 : i' = idle + i) : i' = i + ((X + r') - (l + t + s) - (p + q + r) + v) := by omega
theorem tf5 {F R F' R' i i' v rest idle : Int} (e1 : F' = F + (v - rest)) (e2 : R' = R + (rest - idle)) (e3 : i' = idle + i) : F' + R' = F + R + v - (i' - i) := by omega
theorem Turn.facts {c : Cel} {S S' : RS} (h : Turn c S S') (ok : c.Ok) : TurnF c S S' := by
  obtain ⟨l1, t1, r1, rest, idle, e1, e2, e3, ⟨e4, e5⟩, e6, e7, e8, e9, e10, e11, e12, e13, e14, e15⟩ := h.turn
  have v0 := ok.2.2.2.1
  clear ok h
  have a1 : MaxZ (S'.l : Int) (l1 - c.v) := e4 ▸ subz v0
  have a2 : MaxZ ((S'.l : Int) + S'.t) (l1 + t1 - c.v) := by rw [e4, e5]; exact subz2 v0
  have a3 := (rest_of e6 rfl).trans (congrArg (· + _) (sub_of _ _ _))
  have a4 : MaxZ ((S'.l : Int) + S'.t + S'.r) (l1 + t1 + r1 - c.v) := by rw [e7]; exact subz3 a2 a3 (rest_pos a2 a3)
  refine ⟨a1.cast ?_, a2.cast ?_, a4.cast ?_, ?_, tf5 e13 e14 e12, e9.trans (Int.add_comm _ _), e10.trans (Int.add_comm _ _), e11.trans (Int.add_comm _ _), e15⟩
  · rw [e1]; exact tf1
  · rw [e1, e2]; exact tf2
  · rw [e1, e2, e3]; exact tf3
  · rw [e1, e2] at a3; exact tf4 e8 a3 e3 e12
noncomputable def Lind (z1 z2 z3 z4 z5 m1 m2 m3 m4 m5 : Int) : Prop := (m1 = 0 + z1 ∧ 0 ≤ 0 + z1 ∨ m1 = 0 ∧ 0 + z1 ≤ 0) ∧ (m2 = m1 + z2 ∧ 0 ≤ m1 + z2 ∨ m2 = 0 ∧ m1 + z2 ≤ 0) ∧ (m3 = m2 + z3 ∧ 0 ≤ m2 + z3 ∨ m3 = 0 ∧ m2 + z3 ≤ 0) ∧ (m4 = m3 + z4 ∧ 0 ≤ m3 + z4 ∨ m4 = 0 ∧ m3 + z4 ≤ 0) ∧ (m5 = m4 + z5 ∧ 0 ≤ m4 + z5 ∨ m5 = 0 ∧ m4 + z5 ≤ 0)
noncomputable def MaxI (m x y : Int) : Prop := m = x ∧ y ≤ x ∨ m = y ∧ x ≤ y
/-- the idle services booked, by what the rounds could serve above what they brought -/
noncomputable def Skor (d1 d2 d3 d4 d5 j1 j2 j3 j4 j5 : Int) : Prop := MaxI j1 0 d1 ∧ MaxI j2 j1 (d1 + d2) ∧ MaxI j3 j2 (d1 + d2 + d3) ∧ MaxI j4 j3 (d1 + d2 + d3 + d4) ∧ MaxI j5 j4 (d1 + d2 + d3 + d4 + d5)
/-- m is one of these numbers -/
noncomputable def OrEq (m : Int) : List Int → Prop
  | [] => False
  | [a] => m = a
  | a :: b :: r => m = a ∨ OrEq m (b :: r)
/-- none of these numbers is above m -/
noncomputable def AllLe (m : Int) : List Int → Prop
  | [] => True
  | [a] => a ≤ m
  | a :: b :: r => a ≤ m ∧ AllLe m (b :: r)
theorem OrEq.mem {m : Int} : ∀ {l : List Int}, OrEq m l → m ∈ l
  | [], h => h.elim
  | [_], h => h ▸ List.mem_cons_self
  | _ :: _ :: _, h => h.elim (fun e => e ▸ List.mem_cons_self) fun h => List.mem_cons_of_mem _ (OrEq.mem h)
theorem AllLe.all {m : Int} : ∀ {l : List Int}, AllLe m l → ∀ x ∈ l, x ≤ m
  | [], _, _, hx => nomatch hx
  | [a], h, x, hx => by rw [List.mem_singleton.mp hx]; exact h
  | a :: b :: r, h, x, hx => by
    rcases List.mem_cons.mp hx with e | hx
    · rw [e]; exact h.1
    · exact AllLe.all h.2 x hx
theorem maxi_step {m M a : Int} {l : List Int} (h : OrEq m l ∧ AllLe m l) (H : OrEq M (l ++ [a]) ∧ AllLe M (l ++ [a])) : MaxI M m a := by
  have h1 := AllLe.all H.2 m (List.mem_append_left _ (OrEq.mem h.1))
  have h2 := AllLe.all H.2 a (List.mem_append_right _ List.mem_cons_self)
  rcases List.mem_append.mp (OrEq.mem H.1) with h3 | h3
  · exact Or.inl ⟨Int.le_antisymm (AllLe.all h.2 M h3) h1, Int.le_trans h2 (AllLe.all h.2 M h3)⟩
  · have e := List.mem_singleton.mp h3
    exact Or.inr ⟨e, e ▸ h1⟩
noncomputable def sumR : List Int → Int
  | [] => 0
  | a :: r => a + sumR r
theorem sumR_snoc (z : Int) : ∀ l : List Int, sumR (l ++ [z]) = sumR l + z
  | [] => by show z + 0 = 0 + z; omega
  | a :: r => by show a + sumR (r ++ [z]) = a + sumR r + z; rw [sumR_snoc z r, Int.add_assoc]
theorem lind_step {m M z : Int} {zs : List (List Int)} (h : OrEq m (0 :: zs.map sumR) ∧ AllLe m (0 :: zs.map sumR)) (H : OrEq M (0 :: (zs ++ [[]]).map fun l => sumR (l ++ [z])) ∧ AllLe M (0 :: (zs ++ [[]]).map fun l => sumR (l ++ [z]))) :
    M = m + z ∧ 0 ≤ m + z ∨ M = 0 ∧ m + z ≤ 0 := by
  have hall := AllLe.all H.2
  have h0 : 0 ≤ M := hall 0 List.mem_cons_self
  have h1 : m + z ≤ M := by
    rcases List.mem_cons.mp (OrEq.mem h.1) with e | e
    · have := hall (sumR ([] ++ [z])) (List.mem_cons_of_mem _ (List.mem_map.mpr ⟨[], List.mem_append_right _ List.mem_cons_self, rfl⟩))
      rw [sumR_snoc] at this
      rw [e]; exact this
    · obtain ⟨l, hl, e⟩ := List.mem_map.mp e
      have := hall (sumR (l ++ [z])) (List.mem_cons_of_mem _ (List.mem_map.mpr ⟨l, List.mem_append_left _ hl, rfl⟩))
      rw [sumR_snoc, e] at this
      exact this
  have h2 : M = 0 ∨ M ≤ m + z := by
    rcases List.mem_cons.mp (OrEq.mem H.1) with e | e
    · exact Or.inl e
    · refine Or.inr ?_
      obtain ⟨l, hl, e⟩ := List.mem_map.mp e
      rw [sumR_snoc] at e
      rw [← e]
      refine Int.add_le_add_right ?_ z
      rcases List.mem_append.mp hl with hl | hl
      · exact AllLe.all h.2 _ (List.mem_cons_of_mem _ (List.mem_map.mpr ⟨l, hl, rfl⟩))
      · rw [List.mem_singleton.mp hl]; exact AllLe.all h.2 0 List.mem_cons_self
  clear hall h H
  omega
theorem MaxZ.uniq {x m a : Int} (h : MaxZ x a) (g : MaxZ m a) : x = m := by
  unfold MaxZ at h g
  omega
theorem maxz_lind {x1 x2 x3 x4 x5 z1 z2 z3 z4 z5 m1 m2 m3 m4 m5 : Int} (h1 : MaxZ x1 (0 + z1)) (h2 : MaxZ x2 (x1 + z2)) (h3 : MaxZ x3 (x2 + z3)) (h4 : MaxZ x4 (x3 + z4)) (h5 : MaxZ x5 (x4 + z5)) (h : Lind z1 z2 z3 z4 z5 m1 m2 m3 m4 m5) : x1 = m1 ∧ x2 = m2 ∧ x3 = m3 ∧ x4 = m4 ∧ x5 = m5 := by
  obtain ⟨g1, g2, g3, g4, g5⟩ := h
  have e1 : x1 = m1 := MaxZ.uniq h1 g1
  subst e1
  have e2 : x2 = m2 := MaxZ.uniq h2 g2
  subst e2
  have e3 : x3 = m3 := MaxZ.uniq h3 g3
  subst e3
  have e4 : x4 = m4 := MaxZ.uniq h4 g4
  subst e4
  exact ⟨rfl, rfl, rfl, rfl, MaxZ.uniq h5 g5⟩
theorem skor_step {W W' i i' s v X j j' : Int} (hW : W = X + i) (hj : i = j) (h : MaxZ W' (W + (s - v))) (hi : i' = i + (W' - W - s + v)) (hs : MaxI j' j (-X + (v - s))) : W' = X + (s - v) + i' ∧ i' = j' := by
  unfold MaxZ at h
  unfold MaxI at hs
  omega
theorem MaxI.cast {m a x y : Int} (e : x = y) (h : MaxI m a y) : MaxI m a x := e ▸ h
theorem sk1 (s1 v1 s2 v2 : Int) : -(0 + (s1 - v1)) + (v2 - s2) = v1 - s1 + (v2 - s2) := by omega
theorem sk2 (X D s v s2 v2 : Int) (h : -X + (v - s) = D) : -(X + (s - v)) + (v2 - s2) = D + (v2 - s2) := by omega
theorem sm1 {a b l a' B : Int} (h : a' = a + l) (e : l = B) (hb : a = b) : a' = b + B := by omega
theorem sm2 {a b l t a' b' B u : Int} (h : a' = a + l) (g : b' = b + t) (e : l + t = B) (hb : a + b = u) : a' + b' = u + B := by omega
theorem sm3 {a b c l t r a' b' c' B u : Int} (h : a' = a + l) (g : b' = b + t) (o : c' = c + r) (e : l + t + r = B) (hb : a + b + c = u) : a' + b' + c' = u + B := by omega
theorem smf {F R F' R' i i' v u : Int} (h : F' + R' = F + R + v - (i' - i)) (hb : F + R + i = u) : F' + R' + i' = u + v := by omega
theorem smf_end {F R i J u : Int} (h : F + R + i = u) (e : i = J) : F + R = u - J := by omega
theorem plain_rows {c1 c2 c3 c4 c5 : Cel} {Z : RS} (k1 : c1.Ok) (k2 : c2.Ok) (k3 : c3.Ok) (k4 : c4.Ok) (k5 : c5.Ok) (H : Turns [c1, c2, c3, c4, c5] Z0 Z) {A1 A2 A3 A4 A5 B1 B2 B3 B4 B5 C1 C2 C3 C4 C5 J1 J2 J3 J4 J5 : Int}
    (hA : Lind (c1.p - c1.v) (c2.p - c2.v) (c3.p - c3.v) (c4.p - c4.v) (c5.p - c5.v) A1 A2 A3 A4 A5)
    (hB : Lind (c1.p + c1.q - c1.v) (c2.p + c2.q - c2.v) (c3.p + c3.q - c3.v) (c4.p + c4.q - c4.v) (c5.p + c5.q - c5.v) B1 B2 B3 B4 B5)
    (hC : Lind (c1.p + c1.q + c1.r - c1.v) (c2.p + c2.q + c2.r - c2.v) (c3.p + c3.q + c3.r - c3.v) (c4.p + c4.q + c4.r - c4.v) (c5.p + c5.q + c5.r - c5.v) C1 C2 C3 C4 C5)
    (hJ : Skor (c1.v - (c1.p + c1.q + c1.r)) (c2.v - (c2.p + c2.q + c2.r)) (c3.v - (c3.p + c3.q + c3.r)) (c4.v - (c4.p + c4.q + c4.r)) (c5.v - (c5.p + c5.q + c5.r)) J1 J2 J3 J4 J5) :
    Z.rows = [(A1, B1, C1, J1), (A2, B2, C2, J2), (A3, B3, C3, J3), (A4, B4, C4, J4), (A5, B5, C5, J5)] ∧
    Z.a = A1 + A2 + A3 + A4 + A5 ∧ Z.a + Z.b = B1 + B2 + B3 + B4 + B5 ∧ Z.a + Z.b + Z.c = C1 + C2 + C3 + C4 + C5 ∧ Z.F + Z.R = c1.v + c2.v + c3.v + c4.v + c5.v - J5 := by
  cases H with | cons t1 H => cases H with | cons t2 H => cases H with | cons t3 H => cases H with | cons t4 H => cases H with | cons t5 H =>
  rename_i S1 S2 S3 S4 S5
  cases H
  replace t1 := t1.facts k1
  replace t2 := t2.facts k2
  replace t3 := t3.facts k3
  replace t4 := t4.facts k4
  replace t5 := t5.facts k5
  clear k1 k2 k3 k4 k5
  have z1 : (Z0.l : Int) = 0 := rfl
  have z2 : (Z0.t : Int) = 0 := rfl
  have z3 : (Z0.r : Int) = 0 := rfl
  have a1 := t1.l
  have b1 := t1.t
  have c1' := t1.r
  rw [z1] at a1 b1 c1'
  rw [z2] at b1 c1'
  rw [z3] at c1'
  rw [Int.add_zero] at b1
  rw [Int.add_zero, Int.add_zero] at c1'
  obtain ⟨rA1, rA2, rA3, rA4, rA5⟩ := maxz_lind a1 t2.l t3.l t4.l t5.l hA
  obtain ⟨rB1, rB2, rB3, rB4, rB5⟩ := maxz_lind b1 t2.t t3.t t4.t t5.t hB
  obtain ⟨rC1, rC2, rC3, rC4, rC5⟩ := maxz_lind c1' t2.r t3.r t4.r t5.r hC
  obtain ⟨j1, j2, j3, j4, j5⟩ := hJ
  have i1 := t1.i
  rw [z1, z2, z3] at i1
  obtain ⟨w1, s1⟩ := skor_step (W := 0) (X := 0) (i := 0) (j := 0) (i' := S1.i) rfl rfl c1' (by rw [i1]; show (0 : Int) + _ = _; omega) (by rw [Int.neg_zero, Int.zero_add]; exact j1)
  have d2 := sk1 (c1.p + c1.q + c1.r) c1.v (c2.p + c2.q + c2.r) c2.v
  obtain ⟨w2, s2⟩ := skor_step (j' := J2) w1 s1 t2.r t2.i (j2.cast d2)
  have d3 := sk2 _ _ (c2.p + c2.q + c2.r) c2.v (c3.p + c3.q + c3.r) c3.v d2
  obtain ⟨w3, s3⟩ := skor_step (j' := J3) w2 s2 t3.r t3.i (j3.cast d3)
  have d4 := sk2 _ _ (c3.p + c3.q + c3.r) c3.v (c4.p + c4.q + c4.r) c4.v d3
  obtain ⟨w4, s4⟩ := skor_step (j' := J4) w3 s3 t4.r t4.i (j4.cast d4)
  have d5 := sk2 _ _ (c4.p + c4.q + c4.r) c4.v (c5.p + c5.q + c5.r) c5.v d4
  obtain ⟨w5, s5⟩ := skor_step (j' := J5) w4 s4 t5.r t5.i (j5.cast d5)
  clear hA hB hC j1 j2 j3 j4 j5 w1 w2 w3 w4 w5 a1 b1 c1' i1
  refine ⟨?_, ?_, ?_, ?_, ?_⟩
  · rw [t5.rows, t4.rows, t3.rows, t2.rows, t1.rows, rC1, rC2, rC3, rC4, rC5, rB1, rB2, rB3, rB4, rB5, rA1, rA2, rA3, rA4, rA5, s1, s2, s3, s4, s5]
    rfl
  · exact sm1 t5.a rA5 (sm1 t4.a rA4 (sm1 t3.a rA3 (sm1 t2.a rA2 (t1.a.trans ((Int.zero_add _).trans rA1)))))
  · exact sm2 t5.a t5.b rB5 (sm2 t4.a t4.b rB4 (sm2 t3.a t3.b rB3 (sm2 t2.a t2.b rB2 ((sm2 (u := 0) t1.a t1.b rB1 rfl).trans (Int.zero_add _)))))
  · exact sm3 t5.a t5.b t5.c' rC5 (sm3 t4.a t4.b t4.c' rC4 (sm3 t3.a t3.b t3.c' rC3 (sm3 t2.a t2.b t2.c' rC2 ((sm3 (u := 0) t1.a t1.b t1.c' rC1 rfl).trans (Int.zero_add _)))))
  · exact smf_end (smf t5.f (smf t4.f (smf t3.f (smf t2.f ((smf (u := 0) t1.f rfl).trans (Int.zero_add _)))))) s5
end Mine
end
section
open PySem PySem.W PySem.Calls PyProof.Rows
set_option Elab.async false
set_option maxRecDepth 100000
set_option maxHeartbeats 8000000
set_option pp.deepTerms false
set_option pp.deepTerms.threshold 4
set_option pp.maxSteps 6000
namespace Mine

theorem bit_on {mask : Int} {k : Nat} (h : (mask.fdiv (2 ^ k)).fmod 2 ≠ 0) : bitOn mask k = true := by simp [bitOn, h]
theorem bit_off {mask : Int} {k : Nat} (h : (mask.fdiv (2 ^ k)).fmod 2 = 0) : bitOn mask k = false := by simp [bitOn, h]
theorem bnet_bits {mask a : Int} {c : Cel} {b0 b1 b2 : Bool} (h0 : bitOn mask 0 = b0) (h1 : bitOn mask 1 = b1) (h2 : bitOn mask 2 = b2) (ha : a = (if b0 = true then c.p else 0) + (if b1 = true then c.q else 0) + (if b2 = true then c.r else 0) - c.v) : a = bnet mask c := by
  unfold bnet; rw [h0, h1, h2]; exact ha
theorem keep2 {p q : Prop} (a : p) (b : q) : Keep (p ∧ q) := ⟨a, b⟩
theorem hide_its2 {g : Heap} {L : Addr} {h : Heap} {its old : List (Addr × Obj)} {ws : List (Addr × String)} {a b Sn : Addr} {oA oB oS : Obj} {x : Addr × Obj} {G : Prop} (N : News g L h (its ++ (Sn, oS) :: (a, oA) :: (b, oB) :: old)) (hx : x ∈ old) (hws : its.map (·.1) = ws.map (·.1)) (hap : ∀ p ∈ (Sn, oS) :: (a, oA) :: (b, oB) :: old, ∀ q ∈ ws, p.1 ≠ q.1) (hA : @Ne Nat Sn a) (hB : @Ne Nat Sn b) (ho : ∀ p ∈ old, p.1 ≠ Sn)
    (K : ∀ hid, News g L h ((Sn, oS) :: hid) → (∀ p ∈ its, p ∈ hid) → (a, oA) ∈ hid → (b, oB) ∈ hid → x ∈ hid → (∀ p ∈ old, p ∈ hid) → (∀ p ∈ hid, p.1 ≠ Sn) → G) : G := by
  have key : ∀ p ∈ (a, oA) :: (b, oB) :: (Sn, oS) :: old, p ∈ (Sn, oS) :: (a, oA) :: (b, oB) :: old := fun p hp => by
    rcases List.mem_cons.mp hp with e | hp
    · exact .tail _ (e ▸ .head _)
    rcases List.mem_cons.mp hp with e | hp
    · exact .tail _ (.tail _ (e ▸ .head _))
    rcases List.mem_cons.mp hp with e | hp
    · exact e ▸ .head _
    · exact .tail _ (.tail _ (.tail _ hp))
  exact hide_its (fun p hp => N p (by
    rcases List.mem_append.mp hp with hp | hp
    · exact List.mem_append_left _ hp
    · exact List.mem_append_right _ (key p hp))) hx hws (fun p hp => hap p (key p hp)) hA.symm hB.symm ho K
theorem haltI_Lines {P : Prop} (h : Keep P) : P := h

theorem news_drop3 {h₀ h : Heap} {L : Addr} {d x y z : Addr × Obj} {r : List (Addr × Obj)} (N : News h₀ L h (d :: ([] ++ (x :: y :: z :: r)))) : News h₀ L h (d :: r) := fun q hq => N q (by
  rcases List.mem_cons.mp hq with h | h
  · rw [h]; exact .head _
  · exact .tail _ (.tail _ (.tail _ (.tail _ h))))
theorem lind_of {z1 z2 z3 z4 z5 m1 m2 m3 m4 m5 : Int} (a1 : m1 = 0 ∨ m1 = z1 + 0) (b1 : 0 ≤ m1 ∧ z1 + 0 ≤ m1)
    (a2 : m2 = 0 ∨ m2 = z1 + (z2 + 0) ∨ m2 = z2 + 0) (b2 : 0 ≤ m2 ∧ z1 + (z2 + 0) ≤ m2 ∧ z2 + 0 ≤ m2)
    (a3 : m3 = 0 ∨ m3 = z1 + (z2 + (z3 + 0)) ∨ m3 = z2 + (z3 + 0) ∨ m3 = z3 + 0) (b3 : 0 ≤ m3 ∧ z1 + (z2 + (z3 + 0)) ≤ m3 ∧ z2 + (z3 + 0) ≤ m3 ∧ z3 + 0 ≤ m3)
    (a4 : m4 = 0 ∨ m4 = z1 + (z2 + (z3 + (z4 + 0))) ∨ m4 = z2 + (z3 + (z4 + 0)) ∨ m4 = z3 + (z4 + 0) ∨ m4 = z4 + 0) (b4 : 0 ≤ m4 ∧ z1 + (z2 + (z3 + (z4 + 0))) ≤ m4 ∧ z2 + (z3 + (z4 + 0)) ≤ m4 ∧ z3 + (z4 + 0) ≤ m4 ∧ z4 + 0 ≤ m4)
    (a5 : m5 = 0 ∨ m5 = z1 + (z2 + (z3 + (z4 + (z5 + 0)))) ∨ m5 = z2 + (z3 + (z4 + (z5 + 0))) ∨ m5 = z3 + (z4 + (z5 + 0)) ∨ m5 = z4 + (z5 + 0) ∨ m5 = z5 + 0) (b5 : 0 ≤ m5 ∧ z1 + (z2 + (z3 + (z4 + (z5 + 0)))) ≤ m5 ∧ z2 + (z3 + (z4 + (z5 + 0))) ≤ m5 ∧ z3 + (z4 + (z5 + 0)) ≤ m5 ∧ z4 + (z5 + 0) ≤ m5 ∧ z5 + 0 ≤ m5) : Lind z1 z2 z3 z4 z5 m1 m2 m3 m4 m5 := by
  exact ⟨lind_step (zs := []) ⟨rfl, Int.le_refl 0⟩ ⟨a1, b1⟩, lind_step (zs := [[z1]]) ⟨a1, b1⟩ ⟨a2, b2⟩, lind_step (zs := [[z1, z2], [z2]]) ⟨a2, b2⟩ ⟨a3, b3⟩, lind_step (zs := [[z1, z2, z3], [z2, z3], [z3]]) ⟨a3, b3⟩ ⟨a4, b4⟩, lind_step (zs := [[z1, z2, z3, z4], [z2, z3, z4], [z3, z4], [z4]]) ⟨a4, b4⟩ ⟨a5, b5⟩⟩
theorem five_of {nus : List IntE} {a b c d e : Cel} {mask : Int} (h : nus.map IntE.v = [a, b, c, d, e].map (bnet mask)) :
    ∃ z1 z2 z3 z4 z5 k1 k2 k3 k4 k5, nus = [⟨z1, k1⟩, ⟨z2, k2⟩, ⟨z3, k3⟩, ⟨z4, k4⟩, ⟨z5, k5⟩] ∧ z1 = bnet mask a ∧ z2 = bnet mask b ∧ z3 = bnet mask c ∧ z4 = bnet mask d ∧ z5 = bnet mask e := by
  match nus, h with
  | [⟨z1, k1⟩, ⟨z2, k2⟩, ⟨z3, k3⟩, ⟨z4, k4⟩, ⟨z5, k5⟩], h =>
    simp only [List.map_cons, List.map_nil, List.cons.injEq, and_true] at h
    exact ⟨z1, z2, z3, z4, z5, k1, k2, k3, k4, k5, rfl, h⟩
  | [], h => simp at h
  | [_], h => simp at h
  | [_, _], h => simp at h
  | [_, _, _], h => simp at h
  | [_, _, _, _], h => simp at h
  | _ :: _ :: _ :: _ :: _ :: _ :: _, h => simp at h

namespace EL
noncomputable def Pr9 (w : World) (news : List (Addr × Obj)) (S : Addr) (I : Addr) (ns : Nat) (ni : Nat) (b1 : Addr) (b2 : Addr) (b3 : Addr) (b4 : Addr) (b5 : Addr) (p1 : Int) (q1 : Int) (r1 : Int) (v1 : Int) (p2 : Int) (q2 : Int) (r2 : Int) (v2 : Int) (p3 : Int) (q3 : Int) (r3 : Int) (v3 : Int) (p4 : Int) (q4 : Int) (r4 : Int) (v4 : Int) (p5 : Int) (q5 : Int) (r5 : Int) (v5 : Int) (n1 : Nat) (n2 : Nat) (n3 : Nat) (n4 : Nat) (n5 : Nat) (x1 : Tok) (x1' : Tok) (x1'' : Tok) (y1 : Tok) (x2 : Tok) (x2' : Tok) (x2'' : Tok) (y2 : Tok) (x3 : Tok) (x3' : Tok) (x3'' : Tok) (y3 : Tok) (x4 : Tok) (x4' : Tok) (x4'' : Tok) (y4 : Tok) (x5 : Tok) (x5' : Tok) (x5'' : Tok) (y5 : Tok) (mask : Int) (tm : Tok) (p : Program) (loose : List Str) (mean : ExcName → Option Value) (mg : Str → Option Value) (mb : Str → Option Value) (dp : Nat) (un : Nat) (gd : Option (List Code)) (cn : Str) (cs : Scope) (a : Addr) (ccd : Value) (cl : List (Str × Addr)) (outer : List Env) (A₀ : Around) (base : Heap) (h₀ : Heap) (L : Addr) (m : Str → Option Value) (s₀ : Shared) (Q : Value → Shared → Prop) (E : Value → Shared → Prop) : Prop := ∀ (hS : (S, W.listOf #[.int v1 y1, .int v2 y2, .int v3 y3, .int v4 y4, .int v5 y5] ns) ∈ news) (hI : (I, W.listOf #[.ref b1, .ref b2, .ref b3, .ref b4, .ref b5] ni) ∈ news) (hb5 : (b5, W.listOf #[.int p5 x5, .int q5 x5', .int r5 x5''] n5) ∈ news) (hb4 : (b4, W.listOf #[.int p4 x4, .int q4 x4', .int r4 x4''] n4) ∈ news) (hb3 : (b3, W.listOf #[.int p3 x3, .int q3 x3', .int r3 x3''] n3) ∈ news) (hb2 : (b2, W.listOf #[.int p2 x2, .int q2 x2', .int r2 x2''] n2) ∈ news) (hb1 : (b1, W.listOf #[.int p1 x1, .int q1 x1', .int r1 x1''] n1) ∈ news) (hp1 : 0 ≤ p1 ∧ p1 ≤ 2) (hq1 : 0 ≤ q1 ∧ q1 ≤ 2) (hr1 : 0 ≤ r1 ∧ r1 ≤ 2) (hv1 : 0 ≤ v1 ∧ v1 ≤ 5) (hp2 : 0 ≤ p2 ∧ p2 ≤ 2) (hq2 : 0 ≤ q2 ∧ q2 ≤ 2) (hr2 : 0 ≤ r2 ∧ r2 ≤ 2) (hv2 : 0 ≤ v2 ∧ v2 ≤ 5) (hp3 : 0 ≤ p3 ∧ p3 ≤ 2) (hq3 : 0 ≤ q3 ∧ q3 ≤ 2) (hr3 : 0 ≤ r3 ∧ r3 ≤ 2) (hv3 : 0 ≤ v3 ∧ v3 ≤ 5) (hp4 : 0 ≤ p4 ∧ p4 ≤ 2) (hq4 : 0 ≤ q4 ∧ q4 ≤ 2) (hr4 : 0 ≤ r4 ∧ r4 ≤ 2) (hv4 : 0 ≤ v4 ∧ v4 ≤ 5) (hp5 : 0 ≤ p5 ∧ p5 ≤ 2) (hq5 : 0 ≤ q5 ∧ q5 ≤ 2) (hr5 : 0 ≤ r5 ∧ r5 ≤ 2) (hv5 : 0 ≤ v5 ∧ v5 ≤ 5) (hmask : 0 ≤ mask ∧ mask ≤ 7) , DoesAt w 8 100 94 [.ref I, .ref S, .int mask tm] news (fun r tl => ∃ R m1 m2 m3 m4 m5 t1 t2 t3 t4 t5 k, r = .ref R ∧ tl = [(R, W.listOf #[.int m1 t1, .int m2 t2, .int m3 t3, .int m4 t4, .int m5 t5] k)] ∧ Lind (bnet mask ⟨b1, n1, p1, q1, r1, v1, x1, x1', x1'', y1⟩) (bnet mask ⟨b2, n2, p2, q2, r2, v2, x2, x2', x2'', y2⟩) (bnet mask ⟨b3, n3, p3, q3, r3, v3, x3, x3', x3'', y3⟩) (bnet mask ⟨b4, n4, p4, q4, r4, v4, x4, x4', x4'', y4⟩) (bnet mask ⟨b5, n5, p5, q5, r5, v5, x5, x5', x5'', y5⟩) m1 m2 m3 m4 m5) p loose mean mg mb dp un gd cn cs a ccd cl outer A₀ base h₀ L m s₀ Q E
abbrev Pack9 : Type := (World) × (List (Addr × Obj)) × (Addr) × (Addr) × (Nat) × (Nat) × (Addr) × (Addr) × (Addr) × (Addr) × (Addr) × (Int) × (Int) × (Int) × (Int) × (Int) × (Int) × (Int) × (Int) × (Int) × (Int) × (Int) × (Int) × (Int) × (Int) × (Int) × (Int) × (Int) × (Int) × (Int) × (Int) × (Nat) × (Nat) × (Nat) × (Nat) × (Nat) × (Tok) × (Tok) × (Tok) × (Tok) × (Tok) × (Tok) × (Tok) × (Tok) × (Tok) × (Tok) × (Tok) × (Tok) × (Tok) × (Tok) × (Tok) × (Tok) × (Tok) × (Tok) × (Tok) × (Tok) × (Int) × (Tok) × (Program) × (List Str) × (ExcName → Option Value) × (Str → Option Value) × (Str → Option Value) × (Nat) × (Nat) × (Option (List Code)) × (Str) × (Scope) × (Addr) × (Value) × (List (Str × Addr)) × (List Env) × (Around) × (Heap) × (Heap) × (Addr) × (Str → Option Value) × (Shared) × (Value → Shared → Prop) × (Value → Shared → Prop)
noncomputable def PrX9 (x : Pack9) : Prop := Pr9 (x.1) (x.2.1) (x.2.2.1) (x.2.2.2.1) (x.2.2.2.2.1) (x.2.2.2.2.2.1) (x.2.2.2.2.2.2.1) (x.2.2.2.2.2.2.2.1) (x.2.2.2.2.2.2.2.2.1) (x.2.2.2.2.2.2.2.2.2.1) (x.2.2.2.2.2.2.2.2.2.2.1) (x.2.2.2.2.2.2.2.2.2.2.2.1) (x.2.2.2.2.2.2.2.2.2.2.2.2.1) (x.2.2.2.2.2.2.2.2.2.2.2.2.2.1) (x.2.2.2.2.2.2.2.2.2.2.2.2.2.2.1) (x.2.2.2.2.2.2.2.2.2.2.2.2.2.2.2.1) (x.2.2.2.2.2.2.2.2.2.2.2.2.2.2.2.2.1) (x.2.2.2.2.2.2.2.2.2.2.2.2.2.2.2.2.2.1) (x.2.2.2.2.2.2.2.2.2.2.2.2.2.2.2.2.2.2.1) (x.2.2.2.2.2.2.2.2.2.2.2.2.2.2.2.2.2.2.2.1) (x.2.2.2.2.2.2.2.2.2.2.2.2.2.2.2.2.2.2.2.2.1) (x.2.2.2.2.2.2.2.2.2.2.2.2.2.2.2.2.2.2.2.2.2.1) (x.2.2.2.2.2.2.2.2.2.2.2.2.2.2.2.2.2.2.2.2.2.2.1) (x.2.2.2.2.2.2.2.2.2.2.2.2.2.2.2.2.2.2.2.2.2.2.2.1) (x.2.2.2.2.2.2.2.2.2.2.2.2.2.2.2.2.2.2.2.2.2.2.2.2.1) (x.2.2.2.2.2.2.2.2.2.2.2.2.2.2.2.2.2.2.2.2.2.2.2.2.2.1) (x.2.2.2.2.2.2.2.2.2.2.2.2.2.2.2.2.2.2.2.2.2.2.2.2.2.2.1) (x.2.2.2.2.2.2.2.2.2.2.2.2.2.2.2.2.2.2.2.2.2.2.2.2.2.2.2.1) (x.2.2.2.2.2.2.2.2.2.2.2.2.2.2.2.2.2.2.2.2.2.2.2.2.2.2.2.2.1) (x.2.2.2.2.2.2.2.2.2.2.2.2.2.2.2.2.2.2.2.2.2.2.2.2.2.2.2.2.2.1) (x.2.2.2.2.2.2.2.2.2.2.2.2.2.2.2.2.2.2.2.2.2.2.2.2.2.2.2.2.2.2.1) (x.2.2.2.2.2.2.2.2.2.2.2.2.2.2.2.2.2.2.2.2.2.2.2.2.2.2.2.2.2.2.2.1) (x.2.2.2.2.2.2.2.2.2.2.2.2.2.2.2.2.2.2.2.2.2.2.2.2.2.2.2.2.2.2.2.2.1) (x.2.2.2.2.2.2.2.2.2.2.2.2.2.2.2.2.2.2.2.2.2.2.2.2.2.2.2.2.2.2.2.2.2.1) (x.2.2.2.2.2.2.2.2.2.2.2.2.2.2.2.2.2.2.2.2.2.2.2.2.2.2.2.2.2.2.2.2.2.2.1) (x.2.2.2.2.2.2.2.2.2.2.2.2.2.2.2.2.2.2.2.2.2.2.2.2.2.2.2.2.2.2.2.2.2.2.2.1) (x.2.2.2.2.2.2.2.2.2.2.2.2.2.2.2.2.2.2.2.2.2.2.2.2.2.2.2.2.2.2.2.2.2.2.2.2.1) (x.2.2.2.2.2.2.2.2.2.2.2.2.2.2.2.2.2.2.2.2.2.2.2.2.2.2.2.2.2.2.2.2.2.2.2.2.2.1) (x.2.2.2.2.2.2.2.2.2.2.2.2.2.2.2.2.2.2.2.2.2.2.2.2.2.2.2.2.2.2.2.2.2.2.2.2.2.2.1) (x.2.2.2.2.2.2.2.2.2.2.2.2.2.2.2.2.2.2.2.2.2.2.2.2.2.2.2.2.2.2.2.2.2.2.2.2.2.2.2.1) (x.2.2.2.2.2.2.2.2.2.2.2.2.2.2.2.2.2.2.2.2.2.2.2.2.2.2.2.2.2.2.2.2.2.2.2.2.2.2.2.2.1) (x.2.2.2.2.2.2.2.2.2.2.2.2.2.2.2.2.2.2.2.2.2.2.2.2.2.2.2.2.2.2.2.2.2.2.2.2.2.2.2.2.2.1) (x.2.2.2.2.2.2.2.2.2.2.2.2.2.2.2.2.2.2.2.2.2.2.2.2.2.2.2.2.2.2.2.2.2.2.2.2.2.2.2.2.2.2.1) (x.2.2.2.2.2.2.2.2.2.2.2.2.2.2.2.2.2.2.2.2.2.2.2.2.2.2.2.2.2.2.2.2.2.2.2.2.2.2.2.2.2.2.2.1) (x.2.2.2.2.2.2.2.2.2.2.2.2.2.2.2.2.2.2.2.2.2.2.2.2.2.2.2.2.2.2.2.2.2.2.2.2.2.2.2.2.2.2.2.2.1) (x.2.2.2.2.2.2.2.2.2.2.2.2.2.2.2.2.2.2.2.2.2.2.2.2.2.2.2.2.2.2.2.2.2.2.2.2.2.2.2.2.2.2.2.2.2.1) (x.2.2.2.2.2.2.2.2.2.2.2.2.2.2.2.2.2.2.2.2.2.2.2.2.2.2.2.2.2.2.2.2.2.2.2.2.2.2.2.2.2.2.2.2.2.2.1) (x.2.2.2.2.2.2.2.2.2.2.2.2.2.2.2.2.2.2.2.2.2.2.2.2.2.2.2.2.2.2.2.2.2.2.2.2.2.2.2.2.2.2.2.2.2.2.2.1) (x.2.2.2.2.2.2.2.2.2.2.2.2.2.2.2.2.2.2.2.2.2.2.2.2.2.2.2.2.2.2.2.2.2.2.2.2.2.2.2.2.2.2.2.2.2.2.2.2.1) (x.2.2.2.2.2.2.2.2.2.2.2.2.2.2.2.2.2.2.2.2.2.2.2.2.2.2.2.2.2.2.2.2.2.2.2.2.2.2.2.2.2.2.2.2.2.2.2.2.2.1) (x.2.2.2.2.2.2.2.2.2.2.2.2.2.2.2.2.2.2.2.2.2.2.2.2.2.2.2.2.2.2.2.2.2.2.2.2.2.2.2.2.2.2.2.2.2.2.2.2.2.2.1) (x.2.2.2.2.2.2.2.2.2.2.2.2.2.2.2.2.2.2.2.2.2.2.2.2.2.2.2.2.2.2.2.2.2.2.2.2.2.2.2.2.2.2.2.2.2.2.2.2.2.2.2.1) (x.2.2.2.2.2.2.2.2.2.2.2.2.2.2.2.2.2.2.2.2.2.2.2.2.2.2.2.2.2.2.2.2.2.2.2.2.2.2.2.2.2.2.2.2.2.2.2.2.2.2.2.2.1) (x.2.2.2.2.2.2.2.2.2.2.2.2.2.2.2.2.2.2.2.2.2.2.2.2.2.2.2.2.2.2.2.2.2.2.2.2.2.2.2.2.2.2.2.2.2.2.2.2.2.2.2.2.2.1) (x.2.2.2.2.2.2.2.2.2.2.2.2.2.2.2.2.2.2.2.2.2.2.2.2.2.2.2.2.2.2.2.2.2.2.2.2.2.2.2.2.2.2.2.2.2.2.2.2.2.2.2.2.2.2.1) (x.2.2.2.2.2.2.2.2.2.2.2.2.2.2.2.2.2.2.2.2.2.2.2.2.2.2.2.2.2.2.2.2.2.2.2.2.2.2.2.2.2.2.2.2.2.2.2.2.2.2.2.2.2.2.2.1) (x.2.2.2.2.2.2.2.2.2.2.2.2.2.2.2.2.2.2.2.2.2.2.2.2.2.2.2.2.2.2.2.2.2.2.2.2.2.2.2.2.2.2.2.2.2.2.2.2.2.2.2.2.2.2.2.2.1) (x.2.2.2.2.2.2.2.2.2.2.2.2.2.2.2.2.2.2.2.2.2.2.2.2.2.2.2.2.2.2.2.2.2.2.2.2.2.2.2.2.2.2.2.2.2.2.2.2.2.2.2.2.2.2.2.2.2.1) (x.2.2.2.2.2.2.2.2.2.2.2.2.2.2.2.2.2.2.2.2.2.2.2.2.2.2.2.2.2.2.2.2.2.2.2.2.2.2.2.2.2.2.2.2.2.2.2.2.2.2.2.2.2.2.2.2.2.2.1) (x.2.2.2.2.2.2.2.2.2.2.2.2.2.2.2.2.2.2.2.2.2.2.2.2.2.2.2.2.2.2.2.2.2.2.2.2.2.2.2.2.2.2.2.2.2.2.2.2.2.2.2.2.2.2.2.2.2.2.2.1) (x.2.2.2.2.2.2.2.2.2.2.2.2.2.2.2.2.2.2.2.2.2.2.2.2.2.2.2.2.2.2.2.2.2.2.2.2.2.2.2.2.2.2.2.2.2.2.2.2.2.2.2.2.2.2.2.2.2.2.2.2.1) (x.2.2.2.2.2.2.2.2.2.2.2.2.2.2.2.2.2.2.2.2.2.2.2.2.2.2.2.2.2.2.2.2.2.2.2.2.2.2.2.2.2.2.2.2.2.2.2.2.2.2.2.2.2.2.2.2.2.2.2.2.2.1) (x.2.2.2.2.2.2.2.2.2.2.2.2.2.2.2.2.2.2.2.2.2.2.2.2.2.2.2.2.2.2.2.2.2.2.2.2.2.2.2.2.2.2.2.2.2.2.2.2.2.2.2.2.2.2.2.2.2.2.2.2.2.2.1) (x.2.2.2.2.2.2.2.2.2.2.2.2.2.2.2.2.2.2.2.2.2.2.2.2.2.2.2.2.2.2.2.2.2.2.2.2.2.2.2.2.2.2.2.2.2.2.2.2.2.2.2.2.2.2.2.2.2.2.2.2.2.2.2.1) (x.2.2.2.2.2.2.2.2.2.2.2.2.2.2.2.2.2.2.2.2.2.2.2.2.2.2.2.2.2.2.2.2.2.2.2.2.2.2.2.2.2.2.2.2.2.2.2.2.2.2.2.2.2.2.2.2.2.2.2.2.2.2.2.2.1) (x.2.2.2.2.2.2.2.2.2.2.2.2.2.2.2.2.2.2.2.2.2.2.2.2.2.2.2.2.2.2.2.2.2.2.2.2.2.2.2.2.2.2.2.2.2.2.2.2.2.2.2.2.2.2.2.2.2.2.2.2.2.2.2.2.2.1) (x.2.2.2.2.2.2.2.2.2.2.2.2.2.2.2.2.2.2.2.2.2.2.2.2.2.2.2.2.2.2.2.2.2.2.2.2.2.2.2.2.2.2.2.2.2.2.2.2.2.2.2.2.2.2.2.2.2.2.2.2.2.2.2.2.2.2.1) (x.2.2.2.2.2.2.2.2.2.2.2.2.2.2.2.2.2.2.2.2.2.2.2.2.2.2.2.2.2.2.2.2.2.2.2.2.2.2.2.2.2.2.2.2.2.2.2.2.2.2.2.2.2.2.2.2.2.2.2.2.2.2.2.2.2.2.2.1) (x.2.2.2.2.2.2.2.2.2.2.2.2.2.2.2.2.2.2.2.2.2.2.2.2.2.2.2.2.2.2.2.2.2.2.2.2.2.2.2.2.2.2.2.2.2.2.2.2.2.2.2.2.2.2.2.2.2.2.2.2.2.2.2.2.2.2.2.2.1) (x.2.2.2.2.2.2.2.2.2.2.2.2.2.2.2.2.2.2.2.2.2.2.2.2.2.2.2.2.2.2.2.2.2.2.2.2.2.2.2.2.2.2.2.2.2.2.2.2.2.2.2.2.2.2.2.2.2.2.2.2.2.2.2.2.2.2.2.2.2.1) (x.2.2.2.2.2.2.2.2.2.2.2.2.2.2.2.2.2.2.2.2.2.2.2.2.2.2.2.2.2.2.2.2.2.2.2.2.2.2.2.2.2.2.2.2.2.2.2.2.2.2.2.2.2.2.2.2.2.2.2.2.2.2.2.2.2.2.2.2.2.2.1) (x.2.2.2.2.2.2.2.2.2.2.2.2.2.2.2.2.2.2.2.2.2.2.2.2.2.2.2.2.2.2.2.2.2.2.2.2.2.2.2.2.2.2.2.2.2.2.2.2.2.2.2.2.2.2.2.2.2.2.2.2.2.2.2.2.2.2.2.2.2.2.2.1) (x.2.2.2.2.2.2.2.2.2.2.2.2.2.2.2.2.2.2.2.2.2.2.2.2.2.2.2.2.2.2.2.2.2.2.2.2.2.2.2.2.2.2.2.2.2.2.2.2.2.2.2.2.2.2.2.2.2.2.2.2.2.2.2.2.2.2.2.2.2.2.2.2.1) (x.2.2.2.2.2.2.2.2.2.2.2.2.2.2.2.2.2.2.2.2.2.2.2.2.2.2.2.2.2.2.2.2.2.2.2.2.2.2.2.2.2.2.2.2.2.2.2.2.2.2.2.2.2.2.2.2.2.2.2.2.2.2.2.2.2.2.2.2.2.2.2.2.2.1) (x.2.2.2.2.2.2.2.2.2.2.2.2.2.2.2.2.2.2.2.2.2.2.2.2.2.2.2.2.2.2.2.2.2.2.2.2.2.2.2.2.2.2.2.2.2.2.2.2.2.2.2.2.2.2.2.2.2.2.2.2.2.2.2.2.2.2.2.2.2.2.2.2.2.2.1) (x.2.2.2.2.2.2.2.2.2.2.2.2.2.2.2.2.2.2.2.2.2.2.2.2.2.2.2.2.2.2.2.2.2.2.2.2.2.2.2.2.2.2.2.2.2.2.2.2.2.2.2.2.2.2.2.2.2.2.2.2.2.2.2.2.2.2.2.2.2.2.2.2.2.2.2.1) (x.2.2.2.2.2.2.2.2.2.2.2.2.2.2.2.2.2.2.2.2.2.2.2.2.2.2.2.2.2.2.2.2.2.2.2.2.2.2.2.2.2.2.2.2.2.2.2.2.2.2.2.2.2.2.2.2.2.2.2.2.2.2.2.2.2.2.2.2.2.2.2.2.2.2.2.2.1) (x.2.2.2.2.2.2.2.2.2.2.2.2.2.2.2.2.2.2.2.2.2.2.2.2.2.2.2.2.2.2.2.2.2.2.2.2.2.2.2.2.2.2.2.2.2.2.2.2.2.2.2.2.2.2.2.2.2.2.2.2.2.2.2.2.2.2.2.2.2.2.2.2.2.2.2.2.2.1) (x.2.2.2.2.2.2.2.2.2.2.2.2.2.2.2.2.2.2.2.2.2.2.2.2.2.2.2.2.2.2.2.2.2.2.2.2.2.2.2.2.2.2.2.2.2.2.2.2.2.2.2.2.2.2.2.2.2.2.2.2.2.2.2.2.2.2.2.2.2.2.2.2.2.2.2.2.2.2.1) (x.2.2.2.2.2.2.2.2.2.2.2.2.2.2.2.2.2.2.2.2.2.2.2.2.2.2.2.2.2.2.2.2.2.2.2.2.2.2.2.2.2.2.2.2.2.2.2.2.2.2.2.2.2.2.2.2.2.2.2.2.2.2.2.2.2.2.2.2.2.2.2.2.2.2.2.2.2.2.2)
theorem ne9 : Nonempty Pack9 := ⟨(aWorld 1, default, default, default, default, default, default, default, default, default, default, default, default, default, default, default, default, default, default, default, default, default, default, default, default, default, default, default, default, default, default, default, default, default, default, default, default, default, default, default, default, default, default, default, default, default, default, default, default, default, default, default, default, default, default, default, default, default, default, default, default, default, default, default, default, default, default, default, default, default, default, default, callerA, default, default, default, default, (start Mine.view).1, default, default)⟩
@[irreducible] noncomputable def pk9 : Pack9 := bad ne9 PrX9
@[irreducible] noncomputable def w : World := pk9.1
@[irreducible] noncomputable def news : List (Addr × Obj) := pk9.2.1
@[irreducible] noncomputable def S : Addr := pk9.2.2.1
@[irreducible] noncomputable def I : Addr := pk9.2.2.2.1
@[irreducible] noncomputable def ns : Nat := pk9.2.2.2.2.1
@[irreducible] noncomputable def ni : Nat := pk9.2.2.2.2.2.1
@[irreducible] noncomputable def b1 : Addr := pk9.2.2.2.2.2.2.1
@[irreducible] noncomputable def b2 : Addr := pk9.2.2.2.2.2.2.2.1
@[irreducible] noncomputable def b3 : Addr := pk9.2.2.2.2.2.2.2.2.1
@[irreducible] noncomputable def b4 : Addr := pk9.2.2.2.2.2.2.2.2.2.1
@[irreducible] noncomputable def b5 : Addr := pk9.2.2.2.2.2.2.2.2.2.2.1
@[irreducible] noncomputable def p1 : Int := pk9.2.2.2.2.2.2.2.2.2.2.2.1
@[irreducible] noncomputable def q1 : Int := pk9.2.2.2.2.2.2.2.2.2.2.2.2.1
@[irreducible] noncomputable def r1 : Int := pk9.2.2.2.2.2.2.2.2.2.2.2.2.2.1
@[irreducible] noncomputable def v1 : Int := pk9.2.2.2.2.2.2.2.2.2.2.2.2.2.2.1
@[irreducible] noncomputable def p2 : Int := pk9.2.2.2.2.2.2.2.2.2.2.2.2.2.2.2.1
@[irreducible] noncomputable def q2 : Int := pk9.2.2.2.2.2.2.2.2.2.2.2.2.2.2.2.2.1
@[irreducible] noncomputable def r2 : Int := pk9.2.2.2.2.2.2.2.2.2.2.2.2.2.2.2.2.2.1
@[irreducible] noncomputable def v2 : Int := pk9.2.2.2.2.2.2.2.2.2.2.2.2.2.2.2.2.2.2.1
@[irreducible] noncomputable def p3 : Int := pk9.2.2.2.2.2.2.2.2.2.2.2.2.2.2.2.2.2.2.2.1
@[irreducible] noncomputable def q3 : Int := pk9.2.2.2.2.2.2.2.2.2.2.2.2.2.2.2.2.2.2.2.2.1
@[irreducible] noncomputable def r3 : Int := pk9.2.2.2.2.2.2.2.2.2.2.2.2.2.2.2.2.2.2.2.2.2.1
@[irreducible] noncomputable def v3 : Int := pk9.2.2.2.2.2.2.2.2.2.2.2.2.2.2.2.2.2.2.2.2.2.2.1
@[irreducible] noncomputable def p4 : Int := pk9.2.2.2.2.2.2.2.2.2.2.2.2.2.2.2.2.2.2.2.2.2.2.2.1
@[irreducible] noncomputable def q4 : Int := pk9.2.2.2.2.2.2.2.2.2.2.2.2.2.2.2.2.2.2.2.2.2.2.2.2.1
@[irreducible] noncomputable def r4 : Int := pk9.2.2.2.2.2.2.2.2.2.2.2.2.2.2.2.2.2.2.2.2.2.2.2.2.2.1
@[irreducible] noncomputable def v4 : Int := pk9.2.2.2.2.2.2.2.2.2.2.2.2.2.2.2.2.2.2.2.2.2.2.2.2.2.2.1
@[irreducible] noncomputable def p5 : Int := pk9.2.2.2.2.2.2.2.2.2.2.2.2.2.2.2.2.2.2.2.2.2.2.2.2.2.2.2.1
@[irreducible] noncomputable def q5 : Int := pk9.2.2.2.2.2.2.2.2.2.2.2.2.2.2.2.2.2.2.2.2.2.2.2.2.2.2.2.2.1
@[irreducible] noncomputable def r5 : Int := pk9.2.2.2.2.2.2.2.2.2.2.2.2.2.2.2.2.2.2.2.2.2.2.2.2.2.2.2.2.2.1
@[irreducible] noncomputable def v5 : Int := pk9.2.2.2.2.2.2.2.2.2.2.2.2.2.2.2.2.2.2.2.2.2.2.2.2.2.2.2.2.2.2.1
@[irreducible] noncomputable def n1 : Nat := pk9.2.2.2.2.2.2.2.2.2.2.2.2.2.2.2.2.2.2.2.2.2.2.2.2.2.2.2.2.2.2.2.1
@[irreducible] noncomputable def n2 : Nat := pk9.2.2.2.2.2.2.2.2.2.2.2.2.2.2.2.2.2.2.2.2.2.2.2.2.2.2.2.2.2.2.2.2.1
@[irreducible] noncomputable def n3 : Nat := pk9.2.2.2.2.2.2.2.2.2.2.2.2.2.2.2.2.2.2.2.2.2.2.2.2.2.2.2.2.2.2.2.2.2.1
@[irreducible] noncomputable def n4 : Nat := pk9.2.2.2.2.2.2.2.2.2.2.2.2.2.2.2.2.2.2.2.2.2.2.2.2.2.2.2.2.2.2.2.2.2.2.1
@[irreducible] noncomputable def n5 : Nat := pk9.2.2.2.2.2.2.2.2.2.2.2.2.2.2.2.2.2.2.2.2.2.2.2.2.2.2.2.2.2.2.2.2.2.2.2.1
@[irreducible] noncomputable def x1 : Tok := pk9.2.2.2.2.2.2.2.2.2.2.2.2.2.2.2.2.2.2.2.2.2.2.2.2.2.2.2.2.2.2.2.2.2.2.2.2.1
@[irreducible] noncomputable def x1' : Tok := pk9.2.2.2.2.2.2.2.2.2.2.2.2.2.2.2.2.2.2.2.2.2.2.2.2.2.2.2.2.2.2.2.2.2.2.2.2.2.1
@[irreducible] noncomputable def x1'' : Tok := pk9.2.2.2.2.2.2.2.2.2.2.2.2.2.2.2.2.2.2.2.2.2.2.2.2.2.2.2.2.2.2.2.2.2.2.2.2.2.2.1
@[irreducible] noncomputable def y1 : Tok := pk9.2.2.2.2.2.2.2.2.2.2.2.2.2.2.2.2.2.2.2.2.2.2.2.2.2.2.2.2.2.2.2.2.2.2.2.2.2.2.2.1
@[irreducible] noncomputable def x2 : Tok := pk9.2.2.2.2.2.2.2.2.2.2.2.2.2.2.2.2.2.2.2.2.2.2.2.2.2.2.2.2.2.2.2.2.2.2.2.2.2.2.2.2.1
@[irreducible] noncomputable def x2' : Tok := pk9.2.2.2.2.2.2.2.2.2.2.2.2.2.2.2.2.2.2.2.2.2.2.2.2.2.2.2.2.2.2.2.2.2.2.2.2.2.2.2.2.2.1
@[irreducible] noncomputable def x2'' : Tok := pk9.2.2.2.2.2.2.2.2.2.2.2.2.2.2.2.2.2.2.2.2.2.2.2.2.2.2.2.2.2.2.2.2.2.2.2.2.2.2.2.2.2.2.1
@[irreducible] noncomputable def y2 : Tok := pk9.2.2.2.2.2.2.2.2.2.2.2.2.2.2.2.2.2.2.2.2.2.2.2.2.2.2.2.2.2.2.2.2.2.2.2.2.2.2.2.2.2.2.2.1
@[irreducible] noncomputable def x3 : Tok := pk9.2.2.2.2.2.2.2.2.2.2.2.2.2.2.2.2.2.2.2.2.2.2.2.2.2.2.2.2.2.2.2.2.2.2.2.2.2.2.2.2.2.2.2.2.1
@[irreducible] noncomputable def x3' : Tok := pk9.2.2.2.2.2.2.2.2.2.2.2.2.2.2.2.2.2.2.2.2.2.2.2.2.2.2.2.2.2.2.2.2.2.2.2.2.2.2.2.2.2.2.2.2.2.1
@[irreducible] noncomputable def x3'' : Tok := pk9.2.2.2.2.2.2.2.2.2.2.2.2.2.2.2.2.2.2.2.2.2.2.2.2.2.2.2.2.2.2.2.2.2.2.2.2.2.2.2.2.2.2.2.2.2.2.1
@[irreducible] noncomputable def y3 : Tok := pk9.2.2.2.2.2.2.2.2.2.2.2.2.2.2.2.2.2.2.2.2.2.2.2.2.2.2.2.2.2.2.2.2.2.2.2.2.2.2.2.2.2.2.2.2.2.2.2.1
@[irreducible] noncomputable def x4 : Tok := pk9.2.2.2.2.2.2.2.2.2.2.2.2.2.2.2.2.2.2.2.2.2.2.2.2.2.2.2.2.2.2.2.2.2.2.2.2.2.2.2.2.2.2.2.2.2.2.2.2.1
@[irreducible] noncomputable def x4' : Tok := pk9.2.2.2.2.2.2.2.2.2.2.2.2.2.2.2.2.2.2.2.2.2.2.2.2.2.2.2.2.2.2.2.2.2.2.2.2.2.2.2.2.2.2.2.2.2.2.2.2.2.1
@[irreducible] noncomputable def x4'' : Tok := pk9.2.2.2.2.2.2.2.2.2.2.2.2.2.2.2.2.2.2.2.2.2.2.2.2.2.2.2.2.2.2.2.2.2.2.2.2.2.2.2.2.2.2.2.2.2.2.2.2.2.2.1
@[irreducible] noncomputable def y4 : Tok := pk9.2.2.2.2.2.2.2.2.2.2.2.2.2.2.2.2.2.2.2.2.2.2.2.2.2.2.2.2.2.2.2.2.2.2.2.2.2.2.2.2.2.2.2.2.2.2.2.2.2.2.2.1
@[irreducible] noncomputable def x5 : Tok := pk9.2.2.2.2.2.2.2.2.2.2.2.2.2.2.2.2.2.2.2.2.2.2.2.2.2.2.2.2.2.2.2.2.2.2.2.2.2.2.2.2.2.2.2.2.2.2.2.2.2.2.2.2.1
@[irreducible] noncomputable def x5' : Tok := pk9.2.2.2.2.2.2.2.2.2.2.2.2.2.2.2.2.2.2.2.2.2.2.2.2.2.2.2.2.2.2.2.2.2.2.2.2.2.2.2.2.2.2.2.2.2.2.2.2.2.2.2.2.2.1
@[irreducible] noncomputable def x5'' : Tok := pk9.2.2.2.2.2.2.2.2.2.2.2.2.2.2.2.2.2.2.2.2.2.2.2.2.2.2.2.2.2.2.2.2.2.2.2.2.2.2.2.2.2.2.2.2.2.2.2.2.2.2.2.2.2.2.1
@[irreducible] noncomputable def y5 : Tok := pk9.2.2.2.2.2.2.2.2.2.2.2.2.2.2.2.2.2.2.2.2.2.2.2.2.2.2.2.2.2.2.2.2.2.2.2.2.2.2.2.2.2.2.2.2.2.2.2.2.2.2.2.2.2.2.2.1
@[irreducible] noncomputable def mask : Int := pk9.2.2.2.2.2.2.2.2.2.2.2.2.2.2.2.2.2.2.2.2.2.2.2.2.2.2.2.2.2.2.2.2.2.2.2.2.2.2.2.2.2.2.2.2.2.2.2.2.2.2.2.2.2.2.2.2.1
@[irreducible] noncomputable def tm : Tok := pk9.2.2.2.2.2.2.2.2.2.2.2.2.2.2.2.2.2.2.2.2.2.2.2.2.2.2.2.2.2.2.2.2.2.2.2.2.2.2.2.2.2.2.2.2.2.2.2.2.2.2.2.2.2.2.2.2.2.1
@[irreducible] noncomputable def p : Program := pk9.2.2.2.2.2.2.2.2.2.2.2.2.2.2.2.2.2.2.2.2.2.2.2.2.2.2.2.2.2.2.2.2.2.2.2.2.2.2.2.2.2.2.2.2.2.2.2.2.2.2.2.2.2.2.2.2.2.2.1
@[irreducible] noncomputable def loose : List Str := pk9.2.2.2.2.2.2.2.2.2.2.2.2.2.2.2.2.2.2.2.2.2.2.2.2.2.2.2.2.2.2.2.2.2.2.2.2.2.2.2.2.2.2.2.2.2.2.2.2.2.2.2.2.2.2.2.2.2.2.2.1
@[irreducible] noncomputable def mean : ExcName → Option Value := pk9.2.2.2.2.2.2.2.2.2.2.2.2.2.2.2.2.2.2.2.2.2.2.2.2.2.2.2.2.2.2.2.2.2.2.2.2.2.2.2.2.2.2.2.2.2.2.2.2.2.2.2.2.2.2.2.2.2.2.2.2.1
@[irreducible] noncomputable def mg : Str → Option Value := pk9.2.2.2.2.2.2.2.2.2.2.2.2.2.2.2.2.2.2.2.2.2.2.2.2.2.2.2.2.2.2.2.2.2.2.2.2.2.2.2.2.2.2.2.2.2.2.2.2.2.2.2.2.2.2.2.2.2.2.2.2.2.1
@[irreducible] noncomputable def mb : Str → Option Value := pk9.2.2.2.2.2.2.2.2.2.2.2.2.2.2.2.2.2.2.2.2.2.2.2.2.2.2.2.2.2.2.2.2.2.2.2.2.2.2.2.2.2.2.2.2.2.2.2.2.2.2.2.2.2.2.2.2.2.2.2.2.2.2.1
@[irreducible] noncomputable def dp : Nat := pk9.2.2.2.2.2.2.2.2.2.2.2.2.2.2.2.2.2.2.2.2.2.2.2.2.2.2.2.2.2.2.2.2.2.2.2.2.2.2.2.2.2.2.2.2.2.2.2.2.2.2.2.2.2.2.2.2.2.2.2.2.2.2.2.1
@[irreducible] noncomputable def un : Nat := pk9.2.2.2.2.2.2.2.2.2.2.2.2.2.2.2.2.2.2.2.2.2.2.2.2.2.2.2.2.2.2.2.2.2.2.2.2.2.2.2.2.2.2.2.2.2.2.2.2.2.2.2.2.2.2.2.2.2.2.2.2.2.2.2.2.1
@[irreducible] noncomputable def gd : Option (List Code) := pk9.2.2.2.2.2.2.2.2.2.2.2.2.2.2.2.2.2.2.2.2.2.2.2.2.2.2.2.2.2.2.2.2.2.2.2.2.2.2.2.2.2.2.2.2.2.2.2.2.2.2.2.2.2.2.2.2.2.2.2.2.2.2.2.2.2.1
@[irreducible] noncomputable def cn : Str := pk9.2.2.2.2.2.2.2.2.2.2.2.2.2.2.2.2.2.2.2.2.2.2.2.2.2.2.2.2.2.2.2.2.2.2.2.2.2.2.2.2.2.2.2.2.2.2.2.2.2.2.2.2.2.2.2.2.2.2.2.2.2.2.2.2.2.2.1
@[irreducible] noncomputable def cs : Scope := pk9.2.2.2.2.2.2.2.2.2.2.2.2.2.2.2.2.2.2.2.2.2.2.2.2.2.2.2.2.2.2.2.2.2.2.2.2.2.2.2.2.2.2.2.2.2.2.2.2.2.2.2.2.2.2.2.2.2.2.2.2.2.2.2.2.2.2.2.1
@[irreducible] noncomputable def a : Addr := pk9.2.2.2.2.2.2.2.2.2.2.2.2.2.2.2.2.2.2.2.2.2.2.2.2.2.2.2.2.2.2.2.2.2.2.2.2.2.2.2.2.2.2.2.2.2.2.2.2.2.2.2.2.2.2.2.2.2.2.2.2.2.2.2.2.2.2.2.2.1
@[irreducible] noncomputable def ccd : Value := pk9.2.2.2.2.2.2.2.2.2.2.2.2.2.2.2.2.2.2.2.2.2.2.2.2.2.2.2.2.2.2.2.2.2.2.2.2.2.2.2.2.2.2.2.2.2.2.2.2.2.2.2.2.2.2.2.2.2.2.2.2.2.2.2.2.2.2.2.2.2.1
@[irreducible] noncomputable def cl : List (Str × Addr) := pk9.2.2.2.2.2.2.2.2.2.2.2.2.2.2.2.2.2.2.2.2.2.2.2.2.2.2.2.2.2.2.2.2.2.2.2.2.2.2.2.2.2.2.2.2.2.2.2.2.2.2.2.2.2.2.2.2.2.2.2.2.2.2.2.2.2.2.2.2.2.2.1
@[irreducible] noncomputable def outer : List Env := pk9.2.2.2.2.2.2.2.2.2.2.2.2.2.2.2.2.2.2.2.2.2.2.2.2.2.2.2.2.2.2.2.2.2.2.2.2.2.2.2.2.2.2.2.2.2.2.2.2.2.2.2.2.2.2.2.2.2.2.2.2.2.2.2.2.2.2.2.2.2.2.2.1
@[irreducible] noncomputable def A₀ : Around := pk9.2.2.2.2.2.2.2.2.2.2.2.2.2.2.2.2.2.2.2.2.2.2.2.2.2.2.2.2.2.2.2.2.2.2.2.2.2.2.2.2.2.2.2.2.2.2.2.2.2.2.2.2.2.2.2.2.2.2.2.2.2.2.2.2.2.2.2.2.2.2.2.2.1
@[irreducible] noncomputable def base : Heap := pk9.2.2.2.2.2.2.2.2.2.2.2.2.2.2.2.2.2.2.2.2.2.2.2.2.2.2.2.2.2.2.2.2.2.2.2.2.2.2.2.2.2.2.2.2.2.2.2.2.2.2.2.2.2.2.2.2.2.2.2.2.2.2.2.2.2.2.2.2.2.2.2.2.2.1
@[irreducible] noncomputable def h₀ : Heap := pk9.2.2.2.2.2.2.2.2.2.2.2.2.2.2.2.2.2.2.2.2.2.2.2.2.2.2.2.2.2.2.2.2.2.2.2.2.2.2.2.2.2.2.2.2.2.2.2.2.2.2.2.2.2.2.2.2.2.2.2.2.2.2.2.2.2.2.2.2.2.2.2.2.2.2.1
@[irreducible] noncomputable def L : Addr := pk9.2.2.2.2.2.2.2.2.2.2.2.2.2.2.2.2.2.2.2.2.2.2.2.2.2.2.2.2.2.2.2.2.2.2.2.2.2.2.2.2.2.2.2.2.2.2.2.2.2.2.2.2.2.2.2.2.2.2.2.2.2.2.2.2.2.2.2.2.2.2.2.2.2.2.2.1
@[irreducible] noncomputable def m : Str → Option Value := pk9.2.2.2.2.2.2.2.2.2.2.2.2.2.2.2.2.2.2.2.2.2.2.2.2.2.2.2.2.2.2.2.2.2.2.2.2.2.2.2.2.2.2.2.2.2.2.2.2.2.2.2.2.2.2.2.2.2.2.2.2.2.2.2.2.2.2.2.2.2.2.2.2.2.2.2.2.1
@[irreducible] noncomputable def s₀ : Shared := pk9.2.2.2.2.2.2.2.2.2.2.2.2.2.2.2.2.2.2.2.2.2.2.2.2.2.2.2.2.2.2.2.2.2.2.2.2.2.2.2.2.2.2.2.2.2.2.2.2.2.2.2.2.2.2.2.2.2.2.2.2.2.2.2.2.2.2.2.2.2.2.2.2.2.2.2.2.2.1
@[irreducible] noncomputable def Q : Value → Shared → Prop := pk9.2.2.2.2.2.2.2.2.2.2.2.2.2.2.2.2.2.2.2.2.2.2.2.2.2.2.2.2.2.2.2.2.2.2.2.2.2.2.2.2.2.2.2.2.2.2.2.2.2.2.2.2.2.2.2.2.2.2.2.2.2.2.2.2.2.2.2.2.2.2.2.2.2.2.2.2.2.2.1
@[irreducible] noncomputable def E : Value → Shared → Prop := pk9.2.2.2.2.2.2.2.2.2.2.2.2.2.2.2.2.2.2.2.2.2.2.2.2.2.2.2.2.2.2.2.2.2.2.2.2.2.2.2.2.2.2.2.2.2.2.2.2.2.2.2.2.2.2.2.2.2.2.2.2.2.2.2.2.2.2.2.2.2.2.2.2.2.2.2.2.2.2.2
theorem core9 : Pr9 w news S I ns ni b1 b2 b3 b4 b5 p1 q1 r1 v1 p2 q2 r2 v2 p3 q3 r3 v3 p4 q4 r4 v4 p5 q5 r5 v5 n1 n2 n3 n4 n5 x1 x1' x1'' y1 x2 x2' x2'' y2 x3 x3' x3'' y3 x4 x4' x4'' y4 x5 x5' x5'' y5 mask tm p loose mean mg mb dp un gd cn cs a ccd cl outer A₀ base h₀ L m s₀ Q E := by
  intro hS hI hb5 hb4 hb3 hb2 hb1 hp1 hq1 hr1 hv1 hp2 hq2 hr2 hv2 hp3 hq3 hr3 hv3 hp4 hq4 hr4 hv4 hp5 hq5 hr5 hv5 hmask
  w_top off
  k_with_none
  k_with "execs cons" => (k_here; (with_reducible refine toks_succ ?_); intro tk8ₓ)
  k_with "subscriptTail Name Constant ref int" => (k_here; (with_reducible show wpAny _ _ (subscriptTail _ _ (Value.ref _) (Value.int _ _)) _ _ _); (with_unfolding_all refine' item_litK ?k1x143 ?k2x143 ?k3x143 ?k4x143 ?_ ?k6x143; (case k1x143 => exact News.isList (by k_asm) (by ((with_reducible (repeat (first | exact List.mem_cons_self | exact mem_led (by with_reducible assumption) | refine List.mem_cons_of_mem _ ?_ | refine mem_led_sub (by with_reducible assumption) ?_))); (first | done | with_reducible assumption)))); (case k2x143 => decide); (case k3x143 => decide); (case k4x143 => rfl); (case k6x143 => with_unfolding_all rfl); k_whole))
  k_with "subscriptTail Name Name ref int" => (k_here; (with_reducible show wpAny _ _ (subscriptTail _ _ (Value.ref _) (Value.int _ _)) _ _ _); (with_unfolding_all refine' item_litK ?k1x144 ?k2x144 ?k3x144 ?k4x144 ?_ ?k6x144; (case k1x144 => exact News.isList (by k_asm) (by ((with_reducible (repeat (first | exact List.mem_cons_self | exact mem_led (by with_reducible assumption) | refine List.mem_cons_of_mem _ ?_ | refine mem_led_sub (by with_reducible assumption) ?_))); (first | done | with_reducible assumption)))); (case k2x144 => decide); (case k3x144 => decide); (case k4x144 => rfl); (case k6x144 => with_unfolding_all rfl); k_whole))
  k_with "eval ListComp" => (k_here; k_dflt (first
    | refine comp_exprNH (by k_asm) (by with_unfolding_all rfl) (by rfl) (by decide) (fun _ => by rfl) (fun _ => by rfl) ?_
    | refine comp_exprXH (by k_asm) (by with_unfolding_all rfl) (by rfl) (by decide) (fun _ => by rfl) (fun _ => by rfl) ?_); intro Fin9'ₓ hFin9'ₓ)
  k_with "exec Assign cons ListComp" => (k_here; k_dflt (refine comp_assignNH (by k_asm) (by rfl) (by with_unfolding_all rfl) (by with_unfolding_all rfl) (by rfl) (by decide) (fun _ => by rfl) (fun _ => by rfl) (by rfl) (by rfl) ?_); intro Fin9'ₓ hFin9'ₓ)
  k_with "CSrc" => (k_here; k_dflt (first
    | (refine csrc_listNH rfl (by k_asm) (by k_asm) (by is_list) (by first | size_fits | exact Nat.le_of_ble_eq_true rfl) (by rfl) (by rfl) ?_; intro g1'ₓ g2'ₓ nb'ₓ Fin8'ₓ hFin8'ₓ)
    | (refine csrc_listXH rfl (by k_asm) (by k_asm) (by is_list) (by first | size_fits | exact Nat.le_of_ble_eq_true rfl) (by rfl) (by rfl) (fun _ => by rfl) ?_; intro g1'ₓ g2'ₓ nb'ₓ Fin8'ₓ hFin8'ₓ)
    | (refine csrc_tupleNH rfl (by k_asm) (by k_asm) (News.isTup (by k_asm) (by ((with_reducible (repeat (first | exact List.mem_cons_self | exact mem_led (by with_reducible assumption) | refine List.mem_cons_of_mem _ ?_ | refine mem_led_sub (by with_reducible assumption) ?_))); (first | done | with_reducible assumption)))) (by first | size_fits | exact Nat.le_of_ble_eq_true rfl) (by rfl) (by rfl) ?_; intro g1'ₓ g2'ₓ nb'ₓ Fin8'ₓ hFin8'ₓ)
    | (refine csrc_rangeNH rfl (by k_asm) (by k_asm) (by assumption) (by first | decide | rfl) (by first | rfl | decide) (by first | size_fits | exact Nat.le_of_ble_eq_true rfl) (by rfl) (by rfl) ?_; intro g1'ₓ g2'ₓ nb'ₓ Fin8'ₓ hFin8'ₓ)
    | (refine csrc_rangeXH rfl (by k_asm) (by k_asm) (by assumption) (by first | decide | rfl) (by first | rfl | decide) (by first | size_fits | exact Nat.le_of_ble_eq_true rfl) (by rfl) (by rfl) (fun _ => by rfl) ?_; intro g1'ₓ g2'ₓ nb'ₓ Fin8'ₓ hFin8'ₓ)); refine AllInC.both ?_; intro hsub'ₓ; (try dsimp only [AllInC]); intros; (try (refine AllInC.skip ?_)))
  k_with "call type:zip" => (k_here; (with_reducible show wpAny _ _ (PySem.call _ _) (CSrc _ _ _ _ _ _ _ _ _ _ _ _ _ _ _ _) _ _); k_dflt (refine csrc_zipH rfl (by k_asm) (by k_asm) (by is_list) (by is_list) (by first | size_fits | exact Nat.le_of_ble_eq_true rfl) (by rfl) (by rfl) (by decide) (by rfl) ?_; intro g1'ₓ g2'ₓ nb'ₓ Fin8'ₓ hFin8'ₓ); refine AllInC.both ?_; intro hsub'ₓ; (try dsimp only [AllInC]); intros; (try (refine AllInC.skip ?_)))
  k_with "call type:enumerate" => (k_here; (with_reducible show wpAny _ _ (PySem.call _ _) (CSrc _ _ _ _ _ _ _ _ _ _ _ _ _ _ _ _) _ _); k_dflt (refine csrc_enumH rfl (by k_asm) (by k_asm) (by is_list) (by first | size_fits | exact Nat.le_of_ble_eq_true rfl) (by rfl) (by rfl) (by decide) (by rfl) ?_; intro g1'ₓ g2'ₓ nb'ₓ Fin8'ₓ hFin8'ₓ); refine AllInC.both ?_; intro hsub'ₓ; (try dsimp only [AllInC]); intros; (try (refine AllInC.skip ?_)))
  k_with "RestL" => ((with_unfolding_all (first | refine RestL.l0 (by rfl) ?_ | refine RestL.lx0 (by rfl) ?_ | refine RestL.r0 ?_ | refine RestL.rx0 ?_ | refine RestL.z0 (by rfl) (by rfl) ?_ | refine RestL.e1 (by rfl) ?_)); intros)
  k_with "RestL" => (with_unfolding_all refine RestL.zero (by with_reducible assumption) (by with_reducible assumption) ?_)
  k_with "CFinE" => ((unfold CFinE); intro D'ₓ h'ₓ tk'ₓ l1'ₓ F'ₓ N'ₓ o1'ₓ; (try k_lt l1'ₓ); (try simp only [List.nil_append, List.cons_append, LCg.Off1, and_true] at o1'ₓ); (try simp only [snoc, List.nil_append, List.cons_append] at N'ₓ); (try dsimp only))
  k_with "CFinA" => ((unfold CFinA); intro D'ₓ h'ₓ tk'ₓ l1'ₓ F'ₓ N'ₓ o1'ₓ; (try k_lt l1'ₓ); (try simp only [List.nil_append, List.cons_append, LCg.Off1, and_true] at o1'ₓ); (try simp only [snoc, List.nil_append, List.cons_append] at N'ₓ); (try dsimp only))
  k_with "Hid" => ((with_reducible show Hid _ (Value.ref _) _); (first | (first | refine hid_fact (by with_reducible assumption) (by with_reducible assumption) ?_ | refine hid_fact3 (by with_reducible assumption) (by with_reducible assumption) ?_); intro hX9ₓ; simp only [AllLt, and_true] at hX9ₓ | skip); (refine turn1 (by with_reducible assumption) (by rfl) (by k_asm) (by first | k_asm | exact news_snd (by k_asm) | exact news_snd (news_snd (by k_asm)) | exact news_snd (news_snd (news_snd (by k_asm))) | exact news_snd (news_snd (news_snd (news_snd (by k_asm))))) (by first | assumption | exact And.right (α := _) (by assumption : AllLt _ (_ :: _)) | exact (And.right (And.right (by assumption : AllLt _ (_ :: _ :: _)))) | exact (And.right (And.right (And.right (by assumption : AllLt _ (_ :: _ :: _ :: _)))))) ?_))
  k_with "Hid" => ((with_reducible show Hid _ (Value.int _ _) _); (refine turn0 (by with_reducible assumption) (by rfl) (by k_asm) (by first | k_asm | exact news_tail (by k_asm) | exact news_tail (news_tail (by k_asm)) | exact news_tail (news_tail (news_tail (by k_asm))) | exact news_tail (news_tail (news_tail (news_tail (by k_asm)))) | exact news_tail (news_tail (news_tail (news_tail (news_tail (by k_asm))))) | exact news_tail (news_tail (news_tail (news_tail (news_tail (news_tail (by k_asm))))))) ?_))
  k_with "Hid" => ((with_reducible show Hid _ Value.none _); (refine turnF (by with_reducible assumption) (by rfl) (by k_asm) (by first | k_asm | exact news_tail (by k_asm) | exact news_tail (news_tail (by k_asm)) | exact news_tail (news_tail (news_tail (by k_asm))) | exact news_tail (news_tail (news_tail (news_tail (by k_asm)))) | exact news_tail (news_tail (news_tail (news_tail (news_tail (by k_asm))))) | exact news_tail (news_tail (news_tail (news_tail (news_tail (news_tail (by k_asm))))))) ?_))
  k_with "call builtin:list.append" => (k_here; (with_reducible show wpAny _ _ (PySem.call (Value.builtin _) [Value.ref _, _]) _ _ _); k_dflt (refine' append_K ?k1x157 ?k2x157 ?k3x157 ?_ ?zx157; (case k1x157 => k_asm); (case k2x157 => k_asm); (case k3x157 => k_upd); (case zx157 => assumption); k_whole); intro h'ₓ F'ₓ N'ₓ; (try k_sweep))
  k_with "call builtin:max" => (k_here; (with_reducible show wpAny _ _ (PySem.call (Value.builtin _) [Value.ref _]) _ _ _); (with_unfolding_all refine' kso_max ?k1x158 ?k2x158 ?k3x158 ?k4x158 ?k5x158 ?k6x158 ?_; (case k1x158 => k_asm); (case k2x158 => k_asm); (case k3x158 => kso_list); (case k4x158 => l_ints); (case k5x158 => kso_len); (case k6x158 => with_unfolding_all rfl); k_whole); intro h'ₓ M'ₓ t'ₓ k'ₓ F'ₓ N'ₓ a'ₓ b'ₓ; (try kso_open a'ₓ); (try kso_open b'ₓ); (have kp'ₓ := keep2 a'ₓ b'ₓ); clear a'ₓ b'ₓ; (try k_sweep))
  k_with "ItemsRest" => (refine haltI_Lines ?_)
  k_with "UnrEndW" => (refine haltI_Lines ?_)
  k_with "call builtin:sum" => (k_here; (with_reducible show wpAny _ _ (PySem.call (Value.builtin "sum") [Value.ref _]) _ _ _); k_dflt (refine' sumK ?k0x161 ?k1x161 ?k2x161 ?k3x161 ?k4x161 ?_; (case k0x161 => with_unfolding_all rfl); (case k1x161 => k_asm); (case k2x161 => k_asm); (case k3x161 => is_list); (case k4x161 => first | l_ints | l_intsW); k_whole); intro h'ₓ tk'ₓ t'ₓ F'ₓ N'ₓ; (try simp only [List.sum_cons, List.sum_nil]))
  k_with "eval Name" => (k_here; (with_reducible show wpAny _ _ (eval (PySem.Expr.Name _ _) (compEnvC _ _ _ _)) _ _ _); k_dflt (first
    | (refine' LCgL.ld_own ?Nx162 ?hmx162 ?hCx162 ?hxx162 ?_ ?hkx162 ?hlx162 ?hdx162; (case hlx162 => rfl); (case hkx162 => rfl); (case hdx162 => decide); (case Nx162 => k_asm); (case hmx162 => ((with_reducible (repeat (first | exact List.mem_cons_self | exact mem_led (by with_reducible assumption) | refine List.mem_cons_of_mem _ ?_ | refine mem_led_sub (by with_reducible assumption) ?_))); (first | done | with_reducible assumption))); (case hCx162 => with_reducible assumption); (case hxx162 => with_reducible assumption); k_whole)
    | (refine' kcf_cell ?Nx162 ?cx162 ?mx162 ?dx162 ?_ ?ax162 ?bx162 ?hdx162; (case bx162 => rfl); (case ax162 => rfl); (case hdx162 => decide); (case Nx162 => k_asm); (case cx162 => rfl); (case mx162 => ((with_reducible (repeat (first | exact List.mem_cons_self | exact mem_led (by with_reducible assumption) | refine List.mem_cons_of_mem _ ?_ | refine mem_led_sub (by with_reducible assumption) ?_))); (first | done | with_reducible assumption))); (case dx162 => k_asm); k_whole)
    | (refine' LCgL.ld_built ?Fx162 ?Xx162 ?Tx162 ?ex162 ?vx162 ?nx162 ?_ ?gx162 ?bx162 ?hkx162 ?hxx162 ?hdx162; (case hxx162 => rfl); (case hkx162 => rfl); (case gx162 => rfl); (case bx162 => rfl); (case hdx162 => decide); (case Fx162 => k_asm); (case Xx162 => k_asm); (case Tx162 => k_asm); (case ex162 => k_is); (case vx162 => boot_by_name); (case nx162 => decide); k_whole)))
  unfold DoesAt
  k_fill
  intro B F X N T hk hd' hu' hret
  refine wpAny_call ?_
  k_dflt (refine' code_defCS (sub := [(S, W.listOf #[.int v1 y1, .int v2 y2, .int v3 y3, .int v4 y4, .int v5 y5] ns), (I, W.listOf #[.ref b1, .ref b2, .ref b3, .ref b4, .ref b5] ni), (b5, W.listOf #[.int p5 x5, .int q5 x5', .int r5 x5''] n5), (b4, W.listOf #[.int p4 x4, .int q4 x4', .int r4 x4''] n4), (b3, W.listOf #[.int p3 x3, .int q3 x3', .int r3 x3''] n3), (b2, W.listOf #[.int p2 x2, .int q2 x2', .int r2 x2''] n2), (b1, W.listOf #[.int p1 x1, .int q1 x1', .int r1 x1''] n1)]) ?kS ?kN ?k1 ?k2 ?k3 ?k4 ?k5 ?kA ?kF ?kK ?k6 ?k7 ?k8 ?k9 ?kB ?kD ?_ ?c2 ?c3 ?c4; (case kS => exact List.forall_mem_cons.mpr ⟨hS, List.forall_mem_cons.mpr ⟨hI, List.forall_mem_cons.mpr ⟨hb5, List.forall_mem_cons.mpr ⟨hb4, List.forall_mem_cons.mpr ⟨hb3, List.forall_mem_cons.mpr ⟨hb2, List.forall_mem_cons.mpr ⟨hb1, List.forall_mem_nil _⟩⟩⟩⟩⟩⟩⟩); (case kN => exact List.cons_ne_nil _ _); (case kA => exact rfl); (case kF => exact rfl); (case kK => assumption); (case k1 => k_asm); (case k2 => k_asm); (case k3 => k_asm); (case k4 => k_asm); (case k5 => k_asm); (case k6 => k_is); (case k7 => k_is); (case k8 => ktr_room); (case k9 => exact BindsTo.of_eq rfl); (case kB => exact rfl); (case kD => decide +kernel); (case c2 => exact rfl); (case c3 => exact rfl); (case c4 => exact rfl); k_whole; intro g' L' h' tk' cells' b9 ob9 FG' F' N' Y' B' X' T' l1 lb9 bk9; (try simp only [List.cons_append, List.nil_append] at l1); (try k_lt l1); k_cells Y'; (try simp only [List.cons_append, List.nil_append] at N'); (try dsimp only); (try k_lift B'); (try k_fold))
  k_steps
  (rename Top p loose mean mg mb g' => T7)
  unfold Keep
  have oks : ∀ c ∈ ([⟨b1, n1, p1, q1, r1, v1, x1, x1', x1'', y1⟩, ⟨b2, n2, p2, q2, r2, v2, x2, x2', x2'', y2⟩, ⟨b3, n3, p3, q3, r3, v3, x3, x3', x3'', y3⟩, ⟨b4, n4, p4, q4, r4, v4, x4, x4', x4'', y4⟩, ⟨b5, n5, p5, q5, r5, v5, x5, x5', x5'', y5⟩] : List Cel), c.Ok ∧ (c.b, c.obj) ∈ [(S, W.listOf #[.int v1 y1, .int v2 y2, .int v3 y3, .int v4 y4, .int v5 y5] ns), (I, W.listOf #[.ref b1, .ref b2, .ref b3, .ref b4, .ref b5] ni), (b5, W.listOf #[.int p5 x5, .int q5 x5', .int r5 x5''] n5), (b4, W.listOf #[.int p4 x4, .int q4 x4', .int r4 x4''] n4), (b3, W.listOf #[.int p3 x3, .int q3 x3', .int r3 x3''] n3), (b2, W.listOf #[.int p2 x2, .int q2 x2', .int r2 x2''] n2), (b1, W.listOf #[.int p1 x1, .int q1 x1', .int r1 x1''] n1), (b9, ob9)] := by
    intro c hc
    simp only [List.mem_cons, List.not_mem_nil, or_false] at hc
    rcases hc with rfl | rfl | rfl | rfl | rfl
    all_goals (refine ⟨⟨?_, ?_, ?_, ?_⟩, ?_⟩ <;> first | assumption | (dsimp only [Cel.obj]; k_mem))
  refine loopV2 (LinInv ([⟨b1, n1, p1, q1, r1, v1, x1, x1', x1'', y1⟩, ⟨b2, n2, p2, q2, r2, v2, x2, x2', x2'', y2⟩, ⟨b3, n3, p3, q3, r3, v3, x3, x3', x3'', y3⟩, ⟨b4, n4, p4, q4, r4, v4, x4, x4', x4'', y4⟩, ⟨b5, n5, p5, q5, r5, v5, x5, x5', x5'', y5⟩] : List Cel) [(S, W.listOf #[.int v1 y1, .int v2 y2, .int v3 y3, .int v4 y4, .int v5 y5] ns), (I, W.listOf #[.ref b1, .ref b2, .ref b3, .ref b4, .ref b5] ni), (b5, W.listOf #[.int p5 x5, .int q5 x5', .int r5 x5''] n5), (b4, W.listOf #[.int p4 x4, .int q4 x4', .int r4 x4''] n4), (b3, W.listOf #[.int p3 x3, .int q3 x3', .int r3 x3''] n3), (b2, W.listOf #[.int p2 x2, .int q2 x2', .int r2 x2''] n2), (b1, W.listOf #[.int p1 x1, .int q1 x1', .int r1 x1''] n1), (b9, ob9)] L' mask tm) ?init ?done ?step
  case init =>
    refine' ⟨_, ?hsub, _, _, _, _, ([⟨b1, n1, p1, q1, r1, v1, x1, x1', x1'', y1⟩, ⟨b2, n2, p2, q2, r2, v2, x2, x2', x2'', y2⟩, ⟨b3, n3, p3, q3, r3, v3, x3, x3', x3'', y3⟩, ⟨b4, n4, p4, q4, r4, v4, x4, x4', x4'', y4⟩, ⟨b5, n5, p5, q5, r5, v5, x5, x5', x5'', y5⟩] : List Cel), [], [], rfl, rfl, rfl, rfl, ?i1, ?i2, ?i4, ?i5, ⟨?i6, ?i7⟩, ?i3⟩
    case hsub => exact List.forall_mem_cons.mpr ⟨by k_mem, List.forall_mem_cons.mpr ⟨by k_mem, List.forall_mem_cons.mpr ⟨by k_mem, fun p hp => List.mem_of_mem_drop (i := 3) hp⟩⟩⟩
    case i1 => assumption
    case i2 => assumption
    case i3 => simp
    case i4 => (repeat' (first | exact List.forall_mem_nil _ | refine List.forall_mem_cons.mpr ⟨?_, ?_⟩)) <;> k_ne
    case i5 => (repeat' (first | exact List.forall_mem_nil _ | refine List.forall_mem_cons.mpr ⟨?_, ?_⟩)) <;> k_ne
    case i6 => k_ne
    case i7 => k_ne
  case done =>
    intro m1 news1 hI1 h1 tk1 F1 N1
    generalize hce : ([⟨b1, n1, p1, q1, r1, v1, x1, x1', x1'', y1⟩, ⟨b2, n2, p2, q2, r2, v2, x2, x2', x2'', y2⟩, ⟨b3, n3, p3, q3, r3, v3, x3, x3', x3'', y3⟩, ⟨b4, n4, p4, q4, r4, v4, x4, x4', x4'', y4⟩, ⟨b5, n5, p5, q5, r5, v5, x5, x5', x5'', y5⟩] : List Cel) = cells at *
    generalize hsu : [(S, W.listOf #[.int v1 y1, .int v2 y2, .int v3 y3, .int v4 y4, .int v5 y5] ns), (I, W.listOf #[.ref b1, .ref b2, .ref b3, .ref b4, .ref b5] ni), (b5, W.listOf #[.int p5 x5, .int q5 x5', .int r5 x5''] n5), (b4, W.listOf #[.int p4 x4, .int q4 x4', .int r4 x4''] n4), (b3, W.listOf #[.int p3 x3, .int q3 x3', .int r3 x3''] n3), (b2, W.listOf #[.int p2 x2, .int q2 x2', .int r2 x2''] n2), (b1, W.listOf #[.int p1 x1, .int q1 x1', .int r1 x1''] n1), (b9, ob9)] = sub at *
    revert cells sub; refine lock ?_; set_option tactic.hygienic false in intros
    obtain ⟨Nt, oN, oM, arrn, cs, dn, nus, exs, eall, hrv, rfl, hdN, hdM, hap, hne, hN12, hbd0⟩ := hI1
    cases cs with
    | cons c cs => cases exs
    | nil =>
      rw [List.append_nil] at eall
      subst eall
      subst hce
      clear oks
      obtain ⟨z1, z2, z3, z4, z5, k1, k2, k3, k4, k5, rfl, hz1, hz2, hz3, hz4, hz5⟩ := five_of hrv
      have hA : intArr [⟨z1, k1⟩, ⟨z2, k2⟩, ⟨z3, k3⟩, ⟨z4, k4⟩, ⟨z5, k5⟩] = #[.int z1 k1, .int z2 k2, .int z3 k3, .int z4 k4, .int z5 k5] := rfl
      rw [hA] at N1
      clear hA hap hne hrv hS hI hb1 hb2 hb3 hb4 hb5 hp1 hq1 hr1 hv1 hp2 hq2 hr2 hv2 hp3 hq3 hr3 hv3 hp4 hq4 hr4 hv4 hp5 hq5 hr5 hv5
      dsimp only
      k_steps
      all_goals (rename Fr _ _ _ _ => F9)
      all_goals (rename News _ _ _ _ => N9)
      with_reducible rename (Keep ((_ = 0 ∨ _ = z1 + 0) ∧ (0 ≤ _ ∧ z1 + 0 ≤ _))) => a1
      with_reducible rename (Keep ((_ = 0 ∨ _ = z1 + (z2 + 0) ∨ _ = z2 + 0) ∧ (0 ≤ _ ∧ z1 + (z2 + 0) ≤ _ ∧ z2 + 0 ≤ _))) => a2
      with_reducible rename (Keep ((_ = 0 ∨ _ = z1 + (z2 + (z3 + 0)) ∨ _ = z2 + (z3 + 0) ∨ _ = z3 + 0) ∧ (0 ≤ _ ∧ z1 + (z2 + (z3 + 0)) ≤ _ ∧ z2 + (z3 + 0) ≤ _ ∧ z3 + 0 ≤ _))) => a3
      with_reducible rename (Keep ((_ = 0 ∨ _ = z1 + (z2 + (z3 + (z4 + 0))) ∨ _ = z2 + (z3 + (z4 + 0)) ∨ _ = z3 + (z4 + 0) ∨ _ = z4 + 0) ∧ (0 ≤ _ ∧ z1 + (z2 + (z3 + (z4 + 0))) ≤ _ ∧ z2 + (z3 + (z4 + 0)) ≤ _ ∧ z3 + (z4 + 0) ≤ _ ∧ z4 + 0 ≤ _))) => a4
      with_reducible rename (Keep ((_ = 0 ∨ _ = z1 + (z2 + (z3 + (z4 + (z5 + 0)))) ∨ _ = z2 + (z3 + (z4 + (z5 + 0))) ∨ _ = z3 + (z4 + (z5 + 0)) ∨ _ = z4 + (z5 + 0) ∨ _ = z5 + 0) ∧ (0 ≤ _ ∧ z1 + (z2 + (z3 + (z4 + (z5 + 0)))) ≤ _ ∧ z2 + (z3 + (z4 + (z5 + 0))) ≤ _ ∧ z3 + (z4 + (z5 + 0)) ≤ _ ∧ z4 + (z5 + 0) ≤ _ ∧ z5 + 0 ≤ _))) => a5
      have hL9 := lind_of a1.1 a1.2 a2.1 a2.2 a3.1 a3.2 a4.1 a4.2 a5.1 a5.2
      rw [hz1, hz2, hz3, hz4, hz5] at hL9
      clear a1 a2 a3 a4 a5
      subst hsu
      have N10 := news_drop3 N9
      (with_reducible rename Fr g' _ _ m1 => F8)
      have N11 := bk9 _ _ _ [_] F8 N10
      (with_reducible rename AllLt _ _ => hA9)
      have hlt9 := allLt_all hA9
      refine hret _ _ _ _ F9 N11 ?_ ⟨_, _, _, _, _, _, _, _, _, _, _, _, rfl, rfl, hL9⟩
      replace hlt9 := (List.forall_mem_cons.mp hlt9).2
      replace hlt9 := (List.forall_mem_cons.mp hlt9).2
      replace hlt9 := (List.forall_mem_cons.mp hlt9).2
      replace hlt9 := (List.forall_mem_cons.mp hlt9).2
      replace hlt9 := (List.forall_mem_cons.mp hlt9).2
      replace hlt9 := (List.forall_mem_cons.mp hlt9).2
      replace hlt9 := (List.forall_mem_cons.mp hlt9).2
      replace hlt9 := (List.forall_mem_cons.mp hlt9).2
      replace hlt9 := (List.forall_mem_cons.mp hlt9).2
      replace hlt9 := (List.forall_mem_cons.mp hlt9).2
      have h10 := (List.forall_mem_cons.mp hlt9).1
      intro p hp q hq
      rw [List.mem_singleton.mp hp]
      exact Nat.lt_of_le_of_lt (lb9 q hq) h10

  case step =>
    have mI9 : (I, W.listOf #[.ref b1, .ref b2, .ref b3, .ref b4, .ref b5] ni) ∈ [(S, W.listOf #[.int v1 y1, .int v2 y2, .int v3 y3, .int v4 y4, .int v5 y5] ns), (I, W.listOf #[.ref b1, .ref b2, .ref b3, .ref b4, .ref b5] ni), (b5, W.listOf #[.int p5 x5, .int q5 x5', .int r5 x5''] n5), (b4, W.listOf #[.int p4 x4, .int q4 x4', .int r4 x4''] n4), (b3, W.listOf #[.int p3 x3, .int q3 x3', .int r3 x3''] n3), (b2, W.listOf #[.int p2 x2, .int q2 x2', .int r2 x2''] n2), (b1, W.listOf #[.int p1 x1, .int q1 x1', .int r1 x1''] n1), (b9, ob9)] := List.mem_cons_of_mem _ List.mem_cons_self
    have mS9 : (S, W.listOf #[.int v1 y1, .int v2 y2, .int v3 y3, .int v4 y4, .int v5 y5] ns) ∈ [(S, W.listOf #[.int v1 y1, .int v2 y2, .int v3 y3, .int v4 y4, .int v5 y5] ns), (I, W.listOf #[.ref b1, .ref b2, .ref b3, .ref b4, .ref b5] ni), (b5, W.listOf #[.int p5 x5, .int q5 x5', .int r5 x5''] n5), (b4, W.listOf #[.int p4 x4, .int q4 x4', .int r4 x4''] n4), (b3, W.listOf #[.int p3 x3, .int q3 x3', .int r3 x3''] n3), (b2, W.listOf #[.int p2 x2, .int q2 x2', .int r2 x2''] n2), (b1, W.listOf #[.int p1 x1, .int q1 x1', .int r1 x1''] n1), (b9, ob9)] := List.mem_cons_self
    generalize hce : ([⟨b1, n1, p1, q1, r1, v1, x1, x1', x1'', y1⟩, ⟨b2, n2, p2, q2, r2, v2, x2, x2', x2'', y2⟩, ⟨b3, n3, p3, q3, r3, v3, x3, x3', x3'', y3⟩, ⟨b4, n4, p4, q4, r4, v4, x4, x4', x4'', y4⟩, ⟨b5, n5, p5, q5, r5, v5, x5, x5', x5'', y5⟩] : List Cel) = cells at *
    generalize hsu : [(S, W.listOf #[.int v1 y1, .int v2 y2, .int v3 y3, .int v4 y4, .int v5 y5] ns), (I, W.listOf #[.ref b1, .ref b2, .ref b3, .ref b4, .ref b5] ni), (b5, W.listOf #[.int p5 x5, .int q5 x5', .int r5 x5''] n5), (b4, W.listOf #[.int p4 x4, .int q4 x4', .int r4 x4''] n4), (b3, W.listOf #[.int p3 x3, .int q3 x3', .int r3 x3''] n3), (b2, W.listOf #[.int p2 x2, .int q2 x2', .int r2 x2''] n2), (b1, W.listOf #[.int p1 x1, .int q1 x1', .int r1 x1''] n1), (b9, ob9)] = sub at *
    clear hce hsu
    clear hret
    intro s9 Q9 E9 R9' a1 r1' m1 news1 hI1 hRR v1' h1 tk1 hv1' F1
    revert cells sub; refine lock ?_; set_option tactic.hygienic false in intros
    obtain ⟨Nt, oN, oM, arrn, cs, dn, nus, exs, eall, hrv, rfl, hdN, hdM, hap, hne, hN12, hbd0⟩ := hI1
    cases cs with
    | nil => cases exs
    | cons c cs =>
      simp only [List.map_cons, List.cons.injEq] at exs
      obtain ⟨ea, er⟩ := exs
      subst ea; subst er
      obtain ⟨T8, t8, e8, hT8⟩ := hv1'
      subst e8
      dsimp only at hT8
      obtain ⟨hck, hcm⟩ := oks c (by rw [eall]; exact List.mem_append_right _ (.head _))
      obtain ⟨hcp, hcq, hcr, hcv⟩ := id hck
      have hobj : (c.b, W.listOf #[.int c.p c.x0, .int c.q c.x1, .int c.r c.x2] c.n) ∈ sub := hcm
      have hcS : c.b ≠ Nt := hne _ hobj
      have hkp : ∀ p ∈ [(I, W.listOf #[.ref b1, .ref b2, .ref b3, .ref b4, .ref b5] ni), (S, W.listOf #[.int v1 y1, .int v2 y2, .int v3 y3, .int v4 y4, .int v5 y5] ns)], p ∈ sub := List.forall_mem_cons.mpr ⟨mI9, List.forall_mem_cons.mpr ⟨mS9, List.forall_mem_nil _⟩⟩
      simp only [List.length_cons] at hbd0
      have hsz : (intArr nus).size ≤ sizeLine := by
        unfold intArr; rw [List.size_toArray, List.length_map]; exact Nat.le_trans (by omega : _ ≤ 20) (by decide)
      generalize harr : intArr nus = arr at *
      revert arr; refine lock ?_; set_option tactic.hygienic false in intros
      replace hcS := neN hcS
      clear oks
      refine allObj_of fun its hws N1 => ?_
      refine hide_its2 N1 hobj hws hap hN12.1 hN12.2 hne ?_
      clear N1
      intro hid9 N2 hits mA9 mB9 mx9 mo9 hne9
      k_steps
      all_goals (unfold Keep)
      all_goals (rename Fr _ _ _ _ => F9)
      all_goals (rename News _ _ _ _ => N9)
      all_goals (refine unrEnd_and hRR ?_)
      all_goals (refine' lin_fin eall hrv hbd0 hdN hdM hap hne hN12 harr hws hkp F9 N9 (by ((with_reducible (repeat (first | exact List.mem_cons_self | exact mem_led (by with_reducible assumption) | refine List.mem_cons_of_mem _ ?_ | refine mem_led_sub (by with_reducible assumption) ?_))); (first | done | with_reducible assumption | assumption))) (by ((with_reducible (repeat (first | exact List.mem_cons_self | exact mem_led (by with_reducible assumption) | refine List.mem_cons_of_mem _ ?_ | refine mem_led_sub (by with_reducible assumption) ?_))); (first | done | with_reducible assumption | assumption))) (by ((with_reducible (repeat (first | exact List.mem_cons_self | exact mem_led (by with_reducible assumption) | refine List.mem_cons_of_mem _ ?_ | refine mem_led_sub (by with_reducible assumption) ?_))); (first | done | with_reducible assumption | assumption))) ?lfa ?lfb ?lfc; (case lfa => (intro p hp; have hp' := mo9 p hp; repeat (first | exact hp' | refine List.mem_cons_of_mem _ ?_))); (case lfb => (intro p hp; have hp' := hits p hp; repeat (first | exact hp' | refine List.mem_cons_of_mem _ ?_))); (case lfc => exact bnet_bits (by first | exact bit_on (by assumption) | exact bit_off (by assumption)) (by first | exact bit_on (by assumption) | exact bit_off (by assumption)) (by first | exact bit_on (by assumption) | exact bit_off (by assumption)) (by simp only [if_true, if_false, Bool.false_eq_true]; omega)))
theorem all9 (x : Pack9) : PrX9 x := all_of_bad ne9 (by with_unfolding_all exact core9) x
end EL
theorem lines_does (w : World) (news : List (Addr × Obj)) (S I : Addr) (ns ni : Nat) (b1 b2 b3 b4 b5 : Addr) (p1 q1 r1 v1 p2 q2 r2 v2 p3 q3 r3 v3 p4 q4 r4 v4 p5 q5 r5 v5 : Int) (n1 n2 n3 n4 n5 : Nat) (x1 x1' x1'' y1 x2 x2' x2'' y2 x3 x3' x3'' y3 x4 x4' x4'' y4 x5 x5' x5'' y5 : Tok) (mask : Int) (tm : Tok) (hS : (S, W.listOf #[.int v1 y1, .int v2 y2, .int v3 y3, .int v4 y4, .int v5 y5] ns) ∈ news) (hI : (I, W.listOf #[.ref b1, .ref b2, .ref b3, .ref b4, .ref b5] ni) ∈ news) (hb5 : (b5, W.listOf #[.int p5 x5, .int q5 x5', .int r5 x5''] n5) ∈ news) (hb4 : (b4, W.listOf #[.int p4 x4, .int q4 x4', .int r4 x4''] n4) ∈ news) (hb3 : (b3, W.listOf #[.int p3 x3, .int q3 x3', .int r3 x3''] n3) ∈ news) (hb2 : (b2, W.listOf #[.int p2 x2, .int q2 x2', .int r2 x2''] n2) ∈ news) (hb1 : (b1, W.listOf #[.int p1 x1, .int q1 x1', .int r1 x1''] n1) ∈ news) (hp1 : 0 ≤ p1 ∧ p1 ≤ 2) (hq1 : 0 ≤ q1 ∧ q1 ≤ 2) (hr1 : 0 ≤ r1 ∧ r1 ≤ 2) (hv1 : 0 ≤ v1 ∧ v1 ≤ 5) (hp2 : 0 ≤ p2 ∧ p2 ≤ 2) (hq2 : 0 ≤ q2 ∧ q2 ≤ 2) (hr2 : 0 ≤ r2 ∧ r2 ≤ 2) (hv2 : 0 ≤ v2 ∧ v2 ≤ 5) (hp3 : 0 ≤ p3 ∧ p3 ≤ 2) (hq3 : 0 ≤ q3 ∧ q3 ≤ 2) (hr3 : 0 ≤ r3 ∧ r3 ≤ 2) (hv3 : 0 ≤ v3 ∧ v3 ≤ 5) (hp4 : 0 ≤ p4 ∧ p4 ≤ 2) (hq4 : 0 ≤ q4 ∧ q4 ≤ 2) (hr4 : 0 ≤ r4 ∧ r4 ≤ 2) (hv4 : 0 ≤ v4 ∧ v4 ≤ 5) (hp5 : 0 ≤ p5 ∧ p5 ≤ 2) (hq5 : 0 ≤ q5 ∧ q5 ≤ 2) (hr5 : 0 ≤ r5 ∧ r5 ≤ 2) (hv5 : 0 ≤ v5 ∧ v5 ≤ 5) (hmask : 0 ≤ mask ∧ mask ≤ 7) : Does w 8 100 94 [.ref I, .ref S, .int mask tm] news (fun r tl => ∃ R m1 m2 m3 m4 m5 t1 t2 t3 t4 t5 k, r = .ref R ∧ tl = [(R, W.listOf #[.int m1 t1, .int m2 t2, .int m3 t3, .int m4 t4, .int m5 t5] k)] ∧ Lind (bnet mask ⟨b1, n1, p1, q1, r1, v1, x1, x1', x1'', y1⟩) (bnet mask ⟨b2, n2, p2, q2, r2, v2, x2, x2', x2'', y2⟩) (bnet mask ⟨b3, n3, p3, q3, r3, v3, x3, x3', x3'', y3⟩) (bnet mask ⟨b4, n4, p4, q4, r4, v4, x4, x4', x4'', y4⟩) (bnet mask ⟨b5, n5, p5, q5, r5, v5, x5, x5', x5'', y5⟩) m1 m2 m3 m4 m5) :=
  fun q90 q91 q92 q93 q94 q95 q96 q97 q98 q99 q910 q911 q912 q913 q914 q915 q916 q917 q918 q919 q920 q921 => EL.all9 (w, news, S, I, ns, ni, b1, b2, b3, b4, b5, p1, q1, r1, v1, p2, q2, r2, v2, p3, q3, r3, v3, p4, q4, r4, v4, p5, q5, r5, v5, n1, n2, n3, n4, n5, x1, x1', x1'', y1, x2, x2', x2'', y2, x3, x3', x3'', y3, x4, x4', x4'', y4, x5, x5', x5'', y5, mask, tm, q90, q91, q92, q93, q94, q95, q96, q97, q98, q99, q910, q911, q912, q913, q914, q915, q916, q917, q918, q919, q920, q921) hS hI hb5 hb4 hb3 hb2 hb1 hp1 hq1 hr1 hv1 hp2 hq2 hr2 hv2 hp3 hq3 hr3 hv3 hp4 hq4 hr4 hv4 hp5 hq5 hr5 hv5 hmask
end Mine
end
section
open PySem PySem.W PySem.Calls PyProof.Rows
set_option Elab.async false
set_option maxRecDepth 100000
set_option maxHeartbeats 2000000
namespace Mine
theorem kc_nine {cm : Str → Option Value} {n₀ n₁ n₂ n₃ n₄ n₅ n₆ n₇ n₈ : Str} {c₀ c₁ c₂ c₃ c₄ c₅ c₆ c₇ c₈ : Addr} {cells : List (Addr × Obj)} (x : CellsAre cm [(n₀, c₀), (n₁, c₁), (n₂, c₂), (n₃, c₃), (n₄, c₄), (n₅, c₅), (n₆, c₆), (n₇, c₇), (n₈, c₈)] cells) :
    ∃ o₀ o₁ o₂ o₃ o₄ o₅ o₆ o₇ o₈, cells = [(c₀, o₀), (c₁, o₁), (c₂, o₂), (c₃, o₃), (c₄, o₄), (c₅, o₅), (c₆, o₆), (c₇, o₇), (c₈, o₈)] ∧ o₀.data = .cell (cm n₀) ∧ o₁.data = .cell (cm n₁) ∧ o₂.data = .cell (cm n₂) ∧ o₃.data = .cell (cm n₃) ∧ o₄.data = .cell (cm n₄) ∧ o₅.data = .cell (cm n₅) ∧ o₆.data = .cell (cm n₆) ∧ o₇.data = .cell (cm n₇) ∧ o₈.data = .cell (cm n₈) := by
  cases x with | cons h r => obtain ⟨o₁, o₂, o₃, o₄, o₅, o₆, o₇, o₈, rfl, h₁, h₂, h₃, h₄, h₅, h₆, h₇, h₈⟩ := kc_eight r; exact ⟨_, o₁, o₂, o₃, o₄, o₅, o₆, o₇, o₈, rfl, h, h₁, h₂, h₃, h₄, h₅, h₆, h₇, h₈⟩
section
variable {prog : Program} {w : World} {A : Around} {E : Value → Shared → Prop} {s : Shared} {h₀ : Heap} {L l : Addr} {m : Str → Option Value} {news : List (Addr × Obj)} {value slice : PySem.Expr} {its : Array Value} {vs zs : List Value} {ns : List Int} {vl vu : Value} {lo hi : Option Int} {x y : Int} {Q : Value → Shared → Prop}
/-- a slice of a list that stands for itself alone -/
theorem slice_tmp {ms : List Int} (F : Fr h₀ L s.heap m) (N : News h₀ L s.heap news) (hl : s.heap.IsList l vs.toArray) (pl : IsPart vl lo) (pu : IsPart vu hi) (hm : IntsAre (slicePick vs.toArray lo hi none).toList ms)
    (h : ∀ D ws h', Fr h₀ L h' m → News h₀ L h' ((D, W.listOf (List.toArray ws) 0) :: news) → (∀ p ∈ news, p.1 < D) → IntsAre ws ms → Q (.ref D) { s with heap := h' })
    (hs : subscripted slice false (.ref l) (.ref s.heap.objs.size) = operate [.ref s.heap.objs.size, .ref l] (getItem (.ref l) (.ref s.heap.objs.size))) (hz : vs.toArray.size ≤ sizeLine) :
    wpAny (model prog w) A (subscriptTail value slice (.ref l) (.ref s.heap.objs.size)) Q E { s with heap := s.heap.push { cls := .type "slice", data := .fields #[vl, vu, .none] } } := by
  refine tail_any (Heap.IsList.typeIs (s := { s with heap := s.heap.push { cls := .type "slice", data := .fields #[vl, vu, .none] } }) (hl.push _)) list_getitem_lookup
    (wpAny_getItem_list_slice (hl.push _) (Heap.IsSliceOf.new ..) pl pu .none (by simp) ?_ hz) hs
  have N1 := News.push (F.push { cls := .type "slice", data := .fields #[vl, vu, .none] }) (N.grown fun _ _ e => Heap.get?_push_of_some _ e) { cls := .type "list", data := .seq (slicePick vs.toArray lo hi none) }
  rw [Heap.size_push] at N1
  show Q (.ref (s.heap.push _).objs.size) _
  rw [Heap.size_push]
  refine h _ (slicePick vs.toArray lo hi none).toList _ ((F.push _).push _) ?_ (fun p hp => Nat.lt_succ_of_lt (Heap.lt_size (N p hp).1)) hm
  rw [Array.toArray_toList]
  exact N1
end
end Mine
end
section
open PySem PySem.W PySem.Calls PyProof.Rows
set_option Elab.async false
set_option maxRecDepth 100000
set_option maxHeartbeats 8000000
namespace Mine
noncomputable def fnPart (o : Option Obj) : Option (List Stmt × Scope) := match o with
  | some ⟨_, _, .func fd, _⟩ => (match fd.body with | .stmts b => some (b, fd.scope) | _ => none)
  | _ => none
noncomputable def lawParts : {b : List Stmt × Scope // ∀ P, fnPart ((hd.heap_1 P).lookup 99) = some b} := ⟨(_, _), fun _ => rfl⟩
noncomputable def lawBody : List Stmt := lawParts.1.1
noncomputable def lawScope : Scope := lawParts.1.2
noncomputable def forBody (s : Stmt) : Option (List Stmt) := match s with
  | .For _ _ b _ _ => some b
  | _ => none
noncomputable def headBody (l : List Stmt) : Option (List Stmt) := match l with
  | s :: _ => forBody s
  | [] => none
noncomputable def outParts : {b : List Stmt // headBody (lawBody.drop 7) = some b} := ⟨_, rfl⟩
noncomputable def turnParts : {b : List Stmt // headBody outParts.1 = some b} := ⟨_, rfl⟩
example : lawBody.length = 9 := rfl
example : outParts.1.length = 1 := rfl
example : turnParts.1.length = 9 := rfl
end Mine
end
section
open PySem PySem.W PySem.Calls PyProof.Rows
set_option Elab.async false
set_option maxRecDepth 100000
set_option maxHeartbeats 2000000
namespace Mine
section
variable {prog : Program} {w : World} {A : Around} {E : Value → Shared → Prop} {h₀ : Heap} {env : Env} {body : List Stmt} {Q : Flow → Shared → Prop} {s : Shared}
noncomputable def intItm (i : Nat) : Itm := .tok fun t => .int (0 + (i : Int)) t
/-- a for loop over range(n), its items as a list -/
theorem range_turns {x : Str} {px : Pos} {m₀ : Str → Option Value} {news : List (Addr × Obj)} {r : Addr} {b : Int} {t u v : Tok} {n : Nat} (hh : A.handled = none) (F : Fr h₀ env.locals s.heap m₀) (N : News h₀ env.locals s.heap news) (hr : IsRange s.heap r 0 b 1 t u v) (hsm : Builtin.Range.small 0 b 1 = true) (hn : Builtin.Range.rangeSize 0 b 1 = ((n : Nat) : Int))
    (rest₀ : ∀ I : Addr, (∀ p ∈ news, p.1 < I) → ItemsRest prog w A E h₀ env (.Name x px) body Q s [(I, "range_iterator")] [] ((List.range n).map intItm) m₀ news) :
    wpAny (model prog w) A (pyIter (.ref r)) (fun it s₂ => TurnsAt prog w A h₀ env (.Name x px) body Q E it s₂) E s := by
  refine wpAny_pyIter_range hr hsm ?_
  refine ktu_core (tk0 := s.toks) (keep := []) (KTurns.ofWalks (LCg.range_walks hh 0 n).bound fun i v s Q E st q => ?_) (by simp) (fun i v h hp => ?_) (fun i h st => ?_) (fun b hb => ?_) (fun b hb => by simpa using hb) (fun b hb => ?_) ?_ (fun p hp hI => ?_) ?_ (F.push _) (fun p hp => ⟨Heap.get?_push_of_some _ (N p hp).1, (N p hp).2⟩) trivial (rest₀ _ fun p hp => Heap.lt_size (N p hp).1)
  · exact wpAny_pure q
  · obtain ⟨hlt, t, e⟩ := hp
    exact ⟨intItm i, by rw [List.getElem?_map, List.getElem?_range hlt]; rfl, t, e⟩
  · exact ⟨[(s.heap.objs.size, _)], ⟨⟨rfl, rfl⟩, trivial⟩, fun p hp => by rw [List.mem_singleton.mp hp]; exact st⟩
  · have hb' : b = s.heap.objs.size := by simpa using hb
    rw [hb']
    refine ⟨List.mem_cons_self .., ?_⟩
    cases e : h₀.get? s.heap.objs.size with
    | none => rfl
    | some o => exact absurd (Heap.lt_size (F.keep _ _ e)) (Nat.lt_irrefl _)
  · have hb' : b = s.heap.objs.size := by simpa using hb
    exact .inl (by simp [hb'])
  · intro hI
    exact absurd F.ns.lt ((List.mem_singleton.mp hI) ▸ Nat.lt_irrefl _)
  · exact absurd (Heap.lt_size (N p hp).1) ((List.mem_singleton.mp hI) ▸ Nat.lt_irrefl _)
  · show IsRangeIter _ _ _ _ _
    rw [hn]; simpa using Heap.get?_push_size _ rfl
end
end Mine
end
section
open PySem PySem.W PySem.Calls PyProof.Rows
set_option Elab.async false
set_option maxRecDepth 100000
set_option maxHeartbeats 8000000
set_option pp.deepTerms false
set_option pp.deepTerms.threshold 4
set_option pp.maxSteps 6000
namespace Mine
section

theorem count0_does (w : World) (news : List (Addr × Obj)) (d : Addr) (od : Obj) (hd1 : od.IsDictOf (strKind Challenge.rw_wo0027_01.row.prog w) ([] : List (Str × Value))) (hd2 : PyProof.V.FlatPairs PyData.str [] []) (hd3 : (d == sysModules) = false) (hm : (d, od) ∈ news) :
    Does w 5 48 77 [.ref d] news (fun r tl => tl = [] ∧ ∃ k, r = .int 0 k) := by
  w_top off
  k_with_none
  k_with "subscriptTail Name Constant ref int" => (k_here; (with_reducible show wpAny _ _ (subscriptTail _ _ (Value.ref _) (Value.int _ _)) _ _ _); (with_unfolding_all refine' item_litK ?k1x163 ?k2x163 ?k3x163 ?k4x163 ?_ ?k6x163; (case k1x163 => exact News.isList (by k_asm) (by ((with_reducible (repeat (first | exact List.mem_cons_self | exact mem_led (by with_reducible assumption) | refine List.mem_cons_of_mem _ ?_ | refine mem_led_sub (by with_reducible assumption) ?_))); (first | done | with_reducible assumption)))); (case k2x163 => decide); (case k3x163 => decide); (case k4x163 => rfl); (case k6x163 => with_unfolding_all rfl); k_whole))
  k_with "subscriptTail Name Name ref int" => (k_here; (with_reducible show wpAny _ _ (subscriptTail _ _ (Value.ref _) (Value.int _ _)) _ _ _); (with_unfolding_all refine' item_litK ?k1x164 ?k2x164 ?k3x164 ?k4x164 ?_ ?k6x164; (case k1x164 => exact News.isList (by k_asm) (by ((with_reducible (repeat (first | exact List.mem_cons_self | exact mem_led (by with_reducible assumption) | refine List.mem_cons_of_mem _ ?_ | refine mem_led_sub (by with_reducible assumption) ?_))); (first | done | with_reducible assumption)))); (case k2x164 => decide); (case k3x164 => decide); (case k4x164 => rfl); (case k6x164 => with_unfolding_all rfl); k_whole))
  k_with "eval ListComp" => (k_here; k_dflt (first
    | refine comp_exprNH (by k_asm) (by with_unfolding_all rfl) (by rfl) (by decide) (fun _ => by rfl) (fun _ => by rfl) ?_
    | refine comp_exprXH (by k_asm) (by with_unfolding_all rfl) (by rfl) (by decide) (fun _ => by rfl) (fun _ => by rfl) ?_); intro Fin9'ₓ hFin9'ₓ)
  k_with "exec Assign cons ListComp" => (k_here; k_dflt (refine comp_assignNH (by k_asm) (by rfl) (by with_unfolding_all rfl) (by with_unfolding_all rfl) (by rfl) (by decide) (fun _ => by rfl) (fun _ => by rfl) (by rfl) (by rfl) ?_); intro Fin9'ₓ hFin9'ₓ)
  k_with "CSrc" => (k_here; k_dflt (first
    | (refine csrc_listNH rfl (by k_asm) (by k_asm) (by is_list) (by first | size_fits | exact Nat.le_of_ble_eq_true rfl) (by rfl) (by rfl) ?_; intro g1'ₓ g2'ₓ nb'ₓ Fin8'ₓ hFin8'ₓ)
    | (refine csrc_listXH rfl (by k_asm) (by k_asm) (by is_list) (by first | size_fits | exact Nat.le_of_ble_eq_true rfl) (by rfl) (by rfl) (fun _ => by rfl) ?_; intro g1'ₓ g2'ₓ nb'ₓ Fin8'ₓ hFin8'ₓ)
    | (refine csrc_tupleNH rfl (by k_asm) (by k_asm) (News.isTup (by k_asm) (by ((with_reducible (repeat (first | exact List.mem_cons_self | exact mem_led (by with_reducible assumption) | refine List.mem_cons_of_mem _ ?_ | refine mem_led_sub (by with_reducible assumption) ?_))); (first | done | with_reducible assumption)))) (by first | size_fits | exact Nat.le_of_ble_eq_true rfl) (by rfl) (by rfl) ?_; intro g1'ₓ g2'ₓ nb'ₓ Fin8'ₓ hFin8'ₓ)
    | (refine csrc_rangeNH rfl (by k_asm) (by k_asm) (by assumption) (by first | decide | rfl) (by first | rfl | decide) (by first | size_fits | exact Nat.le_of_ble_eq_true rfl) (by rfl) (by rfl) ?_; intro g1'ₓ g2'ₓ nb'ₓ Fin8'ₓ hFin8'ₓ)
    | (refine csrc_rangeXH rfl (by k_asm) (by k_asm) (by assumption) (by first | decide | rfl) (by first | rfl | decide) (by first | size_fits | exact Nat.le_of_ble_eq_true rfl) (by rfl) (by rfl) (fun _ => by rfl) ?_; intro g1'ₓ g2'ₓ nb'ₓ Fin8'ₓ hFin8'ₓ)); refine AllInC.both ?_; intro hsub'ₓ; (try dsimp only [AllInC]); intros; (try (refine AllInC.skip ?_)))
  k_with "call type:zip" => (k_here; (with_reducible show wpAny _ _ (PySem.call _ _) (CSrc _ _ _ _ _ _ _ _ _ _ _ _ _ _ _ _) _ _); k_dflt (refine csrc_zipH rfl (by k_asm) (by k_asm) (by is_list) (by is_list) (by first | size_fits | exact Nat.le_of_ble_eq_true rfl) (by rfl) (by rfl) (by decide) (by rfl) ?_; intro g1'ₓ g2'ₓ nb'ₓ Fin8'ₓ hFin8'ₓ); refine AllInC.both ?_; intro hsub'ₓ; (try dsimp only [AllInC]); intros; (try (refine AllInC.skip ?_)))
  k_with "call type:enumerate" => (k_here; (with_reducible show wpAny _ _ (PySem.call _ _) (CSrc _ _ _ _ _ _ _ _ _ _ _ _ _ _ _ _) _ _); k_dflt (refine csrc_enumH rfl (by k_asm) (by k_asm) (by is_list) (by first | size_fits | exact Nat.le_of_ble_eq_true rfl) (by rfl) (by rfl) (by decide) (by rfl) ?_; intro g1'ₓ g2'ₓ nb'ₓ Fin8'ₓ hFin8'ₓ); refine AllInC.both ?_; intro hsub'ₓ; (try dsimp only [AllInC]); intros; (try (refine AllInC.skip ?_)))
  k_with "RestL" => ((with_unfolding_all (first | refine RestL.l0 (by rfl) ?_ | refine RestL.lx0 (by rfl) ?_ | refine RestL.r0 ?_ | refine RestL.rx0 ?_ | refine RestL.z0 (by rfl) (by rfl) ?_ | refine RestL.e1 (by rfl) ?_)); intros)
  k_with "RestL" => (with_unfolding_all refine RestL.zero (by with_reducible assumption) (by with_reducible assumption) ?_)
  k_with "CFinE" => ((unfold CFinE); intro D'ₓ h'ₓ tk'ₓ l1'ₓ F'ₓ N'ₓ o1'ₓ; (try k_lt l1'ₓ); (try simp only [List.nil_append, List.cons_append, LCg.Off1, and_true] at o1'ₓ); (try simp only [snoc, List.nil_append, List.cons_append] at N'ₓ); (try dsimp only))
  k_with "CFinA" => ((unfold CFinA); intro D'ₓ h'ₓ tk'ₓ l1'ₓ F'ₓ N'ₓ o1'ₓ; (try k_lt l1'ₓ); (try simp only [List.nil_append, List.cons_append, LCg.Off1, and_true] at o1'ₓ); (try simp only [snoc, List.nil_append, List.cons_append] at N'ₓ); (try dsimp only))
  k_with "Hid" => ((with_reducible show Hid _ (Value.ref _) _); (first | (first | refine hid_fact (by with_reducible assumption) (by with_reducible assumption) ?_ | refine hid_fact3 (by with_reducible assumption) (by with_reducible assumption) ?_); intro hX9ₓ; simp only [AllLt, and_true] at hX9ₓ | skip); (refine turn1 (by with_reducible assumption) (by rfl) (by k_asm) (by first | k_asm | exact news_snd (by k_asm) | exact news_snd (news_snd (by k_asm)) | exact news_snd (news_snd (news_snd (by k_asm))) | exact news_snd (news_snd (news_snd (news_snd (by k_asm))))) (by first | assumption | exact And.right (α := _) (by assumption : AllLt _ (_ :: _)) | exact (And.right (And.right (by assumption : AllLt _ (_ :: _ :: _)))) | exact (And.right (And.right (And.right (by assumption : AllLt _ (_ :: _ :: _ :: _)))))) ?_))
  k_with "Hid" => ((with_reducible show Hid _ (Value.int _ _) _); (refine turn0 (by with_reducible assumption) (by rfl) (by k_asm) (by first | k_asm | exact news_tail (by k_asm) | exact news_tail (news_tail (by k_asm)) | exact news_tail (news_tail (news_tail (by k_asm))) | exact news_tail (news_tail (news_tail (news_tail (by k_asm)))) | exact news_tail (news_tail (news_tail (news_tail (news_tail (by k_asm))))) | exact news_tail (news_tail (news_tail (news_tail (news_tail (news_tail (by k_asm))))))) ?_))
  k_with "Hid" => ((with_reducible show Hid _ Value.none _); (refine turnF (by with_reducible assumption) (by rfl) (by k_asm) (by first | k_asm | exact news_tail (by k_asm) | exact news_tail (news_tail (by k_asm)) | exact news_tail (news_tail (news_tail (by k_asm))) | exact news_tail (news_tail (news_tail (news_tail (by k_asm)))) | exact news_tail (news_tail (news_tail (news_tail (news_tail (by k_asm))))) | exact news_tail (news_tail (news_tail (news_tail (news_tail (news_tail (by k_asm))))))) ?_))
  k_with "exec For Name Call cons nil" => (k_here; (rename Fr _ _ _ _ => lF'ₓ); (rename News _ _ _ _ => lN'ₓ); with_unfolding_all ((refine' For_turns lF'ₓ ?_); k_whole; (refine MethodCall_ ?_); (refine ld lF'ₓ (by rfl) ?_); (refine kdl_method (knd := PySem.strKind _ _) PySem.F.slot_dict_values PySem.F.type_dict_values lN'ₓ (by ((with_reducible (repeat (first | exact List.mem_cons_self | exact mem_led (by with_reducible assumption) | refine List.mem_cons_of_mem _ ?_ | refine mem_led_sub (by with_reducible assumption) ?_))); (first | done | with_reducible assumption))) (by k_asm) ?_); (refine callWith_method0 ?_); (refine kta_callValues (knd := PySem.strKind _ _) lF'ₓ lN'ₓ (by ((with_reducible (repeat (first | exact List.mem_cons_self | exact mem_led (by with_reducible assumption) | refine List.mem_cons_of_mem _ ?_ | refine mem_led_sub (by with_reducible assumption) ?_))); (first | done | with_reducible assumption))) (by k_asm) (by k_asm) ?_); intro h'ₓ hv'ₓ F'ₓ N'ₓ; (refine kta_vals (knd := PySem.strKind _ _) (xs := []) (by rfl) F'ₓ N'ₓ hv'ₓ (by ((with_reducible (repeat (first | exact List.mem_cons_self | exact mem_led (by with_reducible assumption) | refine List.mem_cons_of_mem _ ?_ | refine mem_led_sub (by with_reducible assumption) ?_))); (first | done | with_reducible assumption))) (by k_asm) (by rfl) ?_)); clear lF'ₓ lN'ₓ; intro i'ₓ l1ₓ; (try k_lt l1ₓ))
  k_with "call builtin:sum" => (k_here; (with_reducible show wpAny _ _ (PySem.call (Value.builtin "sum") [Value.ref _]) _ _ _); k_dflt (refine' sumK ?k0x178 ?k1x178 ?k2x178 ?k3x178 ?k4x178 ?_; (case k0x178 => with_unfolding_all rfl); (case k1x178 => k_asm); (case k2x178 => k_asm); (case k3x178 => is_list); (case k4x178 => first | l_ints | l_intsW); k_whole); intro h'ₓ tk'ₓ t'ₓ F'ₓ N'ₓ; (try simp only [List.sum_cons, List.sum_nil]))
  k_with "eval Name" => (k_here; (with_reducible show wpAny _ _ (eval (PySem.Expr.Name _ _) (compEnvC _ _ _ _)) _ _ _); k_dflt (first
    | (refine' LCgL.ld_own ?Nx179 ?hmx179 ?hCx179 ?hxx179 ?_ ?hkx179 ?hlx179 ?hdx179; (case hlx179 => rfl); (case hkx179 => rfl); (case hdx179 => decide); (case Nx179 => k_asm); (case hmx179 => ((with_reducible (repeat (first | exact List.mem_cons_self | exact mem_led (by with_reducible assumption) | refine List.mem_cons_of_mem _ ?_ | refine mem_led_sub (by with_reducible assumption) ?_))); (first | done | with_reducible assumption))); (case hCx179 => with_reducible assumption); (case hxx179 => with_reducible assumption); k_whole)
    | (refine' kcf_cell ?Nx179 ?cx179 ?mx179 ?dx179 ?_ ?ax179 ?bx179 ?hdx179; (case bx179 => rfl); (case ax179 => rfl); (case hdx179 => decide); (case Nx179 => k_asm); (case cx179 => rfl); (case mx179 => ((with_reducible (repeat (first | exact List.mem_cons_self | exact mem_led (by with_reducible assumption) | refine List.mem_cons_of_mem _ ?_ | refine mem_led_sub (by with_reducible assumption) ?_))); (first | done | with_reducible assumption))); (case dx179 => k_asm); k_whole)
    | (refine' LCgL.ld_built ?Fx179 ?Xx179 ?Tx179 ?ex179 ?vx179 ?nx179 ?_ ?gx179 ?bx179 ?hkx179 ?hxx179 ?hdx179; (case hxx179 => rfl); (case hkx179 => rfl); (case gx179 => rfl); (case bx179 => rfl); (case hdx179 => decide); (case Fx179 => k_asm); (case Xx179 => k_asm); (case Tx179 => k_asm); (case ex179 => k_is); (case vx179 => boot_by_name); (case nx179 => decide); k_whole)))
  unfold Does
  k_fill
  intro p loose mean mg mb dp un gd cn cs a ccd cl outer A₀ base h₀ L m s₀ Q E B F X N T hk hd' hu' hret
  refine wpAny_call ?_
  k_dflt (refine' code_defS (sub := [(d, od)]) ?kS ?kN ?k1 ?k2 ?k3 ?k4 ?k5 ?kA ?kF ?kK ?k6 ?k7 ?k8 ?k9 ?kB ?_ ?c2 ?c3 ?c4 ?c5; (case kS => intro q hq; rw [List.mem_singleton.mp hq]; exact hm); (case kN => exact List.cons_ne_nil _ _); (case kA => exact rfl); (case kF => exact rfl); (case kK => assumption); (case k1 => k_asm); (case k2 => k_asm); (case k3 => k_asm); (case k4 => k_asm); (case k5 => k_asm); (case k6 => k_is); (case k7 => k_is); (case k8 => ktr_room); (case k9 => exact BindsTo.of_eq rfl); (case c5 => decide); (case kB => exact locs rfl); (case c2 => exact rfl); (case c3 => exact rfl); (case c4 => exact rfl); k_whole; intro g' L' h' tk' b9 ob9 FG' F' N' B' X' T' l1 lb9 bk9; (try simp only [List.cons_append, List.nil_append] at l1); (try k_lt l1); (try simp only [List.cons_append, List.nil_append] at N'); (try dsimp only); (try k_fold))
  k_steps
  all_goals (refine hret _ [] _ _ (by assumption) (bk9 _ _ _ [] (by assumption) (by assumption)) (fun _ h => nomatch h) ⟨rfl, _, rfl⟩)
end
theorem count2_does (w : World) (news : List (Addr × Obj)) (d : Addr) (od : Obj) (a b : Int) (t u : Tok) (hd1 : od.IsDictOf (strKind Challenge.rw_wo0027_01.row.prog w) [(Str.ofString "front", .int a t), (Str.ofString "rear", .int b u)]) (hd2 : PyProof.V.FlatPairs PyData.str [(Str.ofString "front", .int a t), (Str.ofString "rear", .int b u)] [(.str (Str.ofString "front"), .int a), (.str (Str.ofString "rear"), .int b)]) (hd3 : (d == sysModules) = false) (hm : (d, od) ∈ news) :
    Does w 5 48 77 [.ref d] news (fun r tl => tl = [] ∧ ∃ x k, r = .int x k ∧ x = a + b) := by
  w_top off
  k_with_none
  k_with "subscriptTail Name Constant ref int" => (k_here; (with_reducible show wpAny _ _ (subscriptTail _ _ (Value.ref _) (Value.int _ _)) _ _ _); (with_unfolding_all refine' item_litK ?k1x180 ?k2x180 ?k3x180 ?k4x180 ?_ ?k6x180; (case k1x180 => exact News.isList (by k_asm) (by ((with_reducible (repeat (first | exact List.mem_cons_self | exact mem_led (by with_reducible assumption) | refine List.mem_cons_of_mem _ ?_ | refine mem_led_sub (by with_reducible assumption) ?_))); (first | done | with_reducible assumption)))); (case k2x180 => decide); (case k3x180 => decide); (case k4x180 => rfl); (case k6x180 => with_unfolding_all rfl); k_whole))
  k_with "subscriptTail Name Name ref int" => (k_here; (with_reducible show wpAny _ _ (subscriptTail _ _ (Value.ref _) (Value.int _ _)) _ _ _); (with_unfolding_all refine' item_litK ?k1x181 ?k2x181 ?k3x181 ?k4x181 ?_ ?k6x181; (case k1x181 => exact News.isList (by k_asm) (by ((with_reducible (repeat (first | exact List.mem_cons_self | exact mem_led (by with_reducible assumption) | refine List.mem_cons_of_mem _ ?_ | refine mem_led_sub (by with_reducible assumption) ?_))); (first | done | with_reducible assumption)))); (case k2x181 => decide); (case k3x181 => decide); (case k4x181 => rfl); (case k6x181 => with_unfolding_all rfl); k_whole))
  k_with "eval ListComp" => (k_here; k_dflt (first
    | refine comp_exprNH (by k_asm) (by with_unfolding_all rfl) (by rfl) (by decide) (fun _ => by rfl) (fun _ => by rfl) ?_
    | refine comp_exprXH (by k_asm) (by with_unfolding_all rfl) (by rfl) (by decide) (fun _ => by rfl) (fun _ => by rfl) ?_); intro Fin9'ₓ hFin9'ₓ)
  k_with "exec Assign cons ListComp" => (k_here; k_dflt (refine comp_assignNH (by k_asm) (by rfl) (by with_unfolding_all rfl) (by with_unfolding_all rfl) (by rfl) (by decide) (fun _ => by rfl) (fun _ => by rfl) (by rfl) (by rfl) ?_); intro Fin9'ₓ hFin9'ₓ)
  k_with "CSrc" => (k_here; k_dflt (first
    | (refine csrc_listNH rfl (by k_asm) (by k_asm) (by is_list) (by first | size_fits | exact Nat.le_of_ble_eq_true rfl) (by rfl) (by rfl) ?_; intro g1'ₓ g2'ₓ nb'ₓ Fin8'ₓ hFin8'ₓ)
    | (refine csrc_listXH rfl (by k_asm) (by k_asm) (by is_list) (by first | size_fits | exact Nat.le_of_ble_eq_true rfl) (by rfl) (by rfl) (fun _ => by rfl) ?_; intro g1'ₓ g2'ₓ nb'ₓ Fin8'ₓ hFin8'ₓ)
    | (refine csrc_tupleNH rfl (by k_asm) (by k_asm) (News.isTup (by k_asm) (by ((with_reducible (repeat (first | exact List.mem_cons_self | exact mem_led (by with_reducible assumption) | refine List.mem_cons_of_mem _ ?_ | refine mem_led_sub (by with_reducible assumption) ?_))); (first | done | with_reducible assumption)))) (by first | size_fits | exact Nat.le_of_ble_eq_true rfl) (by rfl) (by rfl) ?_; intro g1'ₓ g2'ₓ nb'ₓ Fin8'ₓ hFin8'ₓ)
    | (refine csrc_rangeNH rfl (by k_asm) (by k_asm) (by assumption) (by first | decide | rfl) (by first | rfl | decide) (by first | size_fits | exact Nat.le_of_ble_eq_true rfl) (by rfl) (by rfl) ?_; intro g1'ₓ g2'ₓ nb'ₓ Fin8'ₓ hFin8'ₓ)
    | (refine csrc_rangeXH rfl (by k_asm) (by k_asm) (by assumption) (by first | decide | rfl) (by first | rfl | decide) (by first | size_fits | exact Nat.le_of_ble_eq_true rfl) (by rfl) (by rfl) (fun _ => by rfl) ?_; intro g1'ₓ g2'ₓ nb'ₓ Fin8'ₓ hFin8'ₓ)); refine AllInC.both ?_; intro hsub'ₓ; (try dsimp only [AllInC]); intros; (try (refine AllInC.skip ?_)))
  k_with "call type:zip" => (k_here; (with_reducible show wpAny _ _ (PySem.call _ _) (CSrc _ _ _ _ _ _ _ _ _ _ _ _ _ _ _ _) _ _); k_dflt (refine csrc_zipH rfl (by k_asm) (by k_asm) (by is_list) (by is_list) (by first | size_fits | exact Nat.le_of_ble_eq_true rfl) (by rfl) (by rfl) (by decide) (by rfl) ?_; intro g1'ₓ g2'ₓ nb'ₓ Fin8'ₓ hFin8'ₓ); refine AllInC.both ?_; intro hsub'ₓ; (try dsimp only [AllInC]); intros; (try (refine AllInC.skip ?_)))
  k_with "call type:enumerate" => (k_here; (with_reducible show wpAny _ _ (PySem.call _ _) (CSrc _ _ _ _ _ _ _ _ _ _ _ _ _ _ _ _) _ _); k_dflt (refine csrc_enumH rfl (by k_asm) (by k_asm) (by is_list) (by first | size_fits | exact Nat.le_of_ble_eq_true rfl) (by rfl) (by rfl) (by decide) (by rfl) ?_; intro g1'ₓ g2'ₓ nb'ₓ Fin8'ₓ hFin8'ₓ); refine AllInC.both ?_; intro hsub'ₓ; (try dsimp only [AllInC]); intros; (try (refine AllInC.skip ?_)))
  k_with "RestL" => ((with_unfolding_all (first | refine RestL.l0 (by rfl) ?_ | refine RestL.lx0 (by rfl) ?_ | refine RestL.r0 ?_ | refine RestL.rx0 ?_ | refine RestL.z0 (by rfl) (by rfl) ?_ | refine RestL.e1 (by rfl) ?_)); intros)
  k_with "RestL" => (with_unfolding_all refine RestL.zero (by with_reducible assumption) (by with_reducible assumption) ?_)
  k_with "CFinE" => ((unfold CFinE); intro D'ₓ h'ₓ tk'ₓ l1'ₓ F'ₓ N'ₓ o1'ₓ; (try k_lt l1'ₓ); (try simp only [List.nil_append, List.cons_append, LCg.Off1, and_true] at o1'ₓ); (try simp only [snoc, List.nil_append, List.cons_append] at N'ₓ); (try dsimp only))
  k_with "CFinA" => ((unfold CFinA); intro D'ₓ h'ₓ tk'ₓ l1'ₓ F'ₓ N'ₓ o1'ₓ; (try k_lt l1'ₓ); (try simp only [List.nil_append, List.cons_append, LCg.Off1, and_true] at o1'ₓ); (try simp only [snoc, List.nil_append, List.cons_append] at N'ₓ); (try dsimp only))
  k_with "Hid" => ((with_reducible show Hid _ (Value.ref _) _); (first | (first | refine hid_fact (by with_reducible assumption) (by with_reducible assumption) ?_ | refine hid_fact3 (by with_reducible assumption) (by with_reducible assumption) ?_); intro hX9ₓ; simp only [AllLt, and_true] at hX9ₓ | skip); (refine turn1 (by with_reducible assumption) (by rfl) (by k_asm) (by first | k_asm | exact news_snd (by k_asm) | exact news_snd (news_snd (by k_asm)) | exact news_snd (news_snd (news_snd (by k_asm))) | exact news_snd (news_snd (news_snd (news_snd (by k_asm))))) (by first | assumption | exact And.right (α := _) (by assumption : AllLt _ (_ :: _)) | exact (And.right (And.right (by assumption : AllLt _ (_ :: _ :: _)))) | exact (And.right (And.right (And.right (by assumption : AllLt _ (_ :: _ :: _ :: _)))))) ?_))
  k_with "Hid" => ((with_reducible show Hid _ (Value.int _ _) _); (refine turn0 (by with_reducible assumption) (by rfl) (by k_asm) (by first | k_asm | exact news_tail (by k_asm) | exact news_tail (news_tail (by k_asm)) | exact news_tail (news_tail (news_tail (by k_asm))) | exact news_tail (news_tail (news_tail (news_tail (by k_asm)))) | exact news_tail (news_tail (news_tail (news_tail (news_tail (by k_asm))))) | exact news_tail (news_tail (news_tail (news_tail (news_tail (news_tail (by k_asm))))))) ?_))
  k_with "Hid" => ((with_reducible show Hid _ Value.none _); (refine turnF (by with_reducible assumption) (by rfl) (by k_asm) (by first | k_asm | exact news_tail (by k_asm) | exact news_tail (news_tail (by k_asm)) | exact news_tail (news_tail (news_tail (by k_asm))) | exact news_tail (news_tail (news_tail (news_tail (by k_asm)))) | exact news_tail (news_tail (news_tail (news_tail (news_tail (by k_asm))))) | exact news_tail (news_tail (news_tail (news_tail (news_tail (news_tail (by k_asm))))))) ?_))
  k_with "exec For Name Call cons nil" => (k_here; (rename Fr _ _ _ _ => lF'ₓ); (rename News _ _ _ _ => lN'ₓ); with_unfolding_all ((refine' For_turns lF'ₓ ?_); k_whole; (refine MethodCall_ ?_); (refine ld lF'ₓ (by rfl) ?_); (refine kdl_method (knd := PySem.strKind _ _) PySem.F.slot_dict_values PySem.F.type_dict_values lN'ₓ (by ((with_reducible (repeat (first | exact List.mem_cons_self | exact mem_led (by with_reducible assumption) | refine List.mem_cons_of_mem _ ?_ | refine mem_led_sub (by with_reducible assumption) ?_))); (first | done | with_reducible assumption))) (by k_asm) ?_); (refine callWith_method0 ?_); (refine kta_callValues (knd := PySem.strKind _ _) lF'ₓ lN'ₓ (by ((with_reducible (repeat (first | exact List.mem_cons_self | exact mem_led (by with_reducible assumption) | refine List.mem_cons_of_mem _ ?_ | refine mem_led_sub (by with_reducible assumption) ?_))); (first | done | with_reducible assumption))) (by k_asm) (by k_asm) ?_); intro h'ₓ hv'ₓ F'ₓ N'ₓ; (refine kta_vals (knd := PySem.strKind _ _) (xs := []) (by rfl) F'ₓ N'ₓ hv'ₓ (by ((with_reducible (repeat (first | exact List.mem_cons_self | exact mem_led (by with_reducible assumption) | refine List.mem_cons_of_mem _ ?_ | refine mem_led_sub (by with_reducible assumption) ?_))); (first | done | with_reducible assumption))) (by k_asm) (by rfl) ?_)); clear lF'ₓ lN'ₓ; intro i'ₓ l1ₓ; (try k_lt l1ₓ))
  k_with "call builtin:sum" => (k_here; (with_reducible show wpAny _ _ (PySem.call (Value.builtin "sum") [Value.ref _]) _ _ _); k_dflt (refine' sumK ?k0x195 ?k1x195 ?k2x195 ?k3x195 ?k4x195 ?_; (case k0x195 => with_unfolding_all rfl); (case k1x195 => k_asm); (case k2x195 => k_asm); (case k3x195 => is_list); (case k4x195 => first | l_ints | l_intsW); k_whole); intro h'ₓ tk'ₓ t'ₓ F'ₓ N'ₓ; (try simp only [List.sum_cons, List.sum_nil]))
  k_with "eval Name" => (k_here; (with_reducible show wpAny _ _ (eval (PySem.Expr.Name _ _) (compEnvC _ _ _ _)) _ _ _); k_dflt (first
    | (refine' LCgL.ld_own ?Nx196 ?hmx196 ?hCx196 ?hxx196 ?_ ?hkx196 ?hlx196 ?hdx196; (case hlx196 => rfl); (case hkx196 => rfl); (case hdx196 => decide); (case Nx196 => k_asm); (case hmx196 => ((with_reducible (repeat (first | exact List.mem_cons_self | exact mem_led (by with_reducible assumption) | refine List.mem_cons_of_mem _ ?_ | refine mem_led_sub (by with_reducible assumption) ?_))); (first | done | with_reducible assumption))); (case hCx196 => with_reducible assumption); (case hxx196 => with_reducible assumption); k_whole)
    | (refine' kcf_cell ?Nx196 ?cx196 ?mx196 ?dx196 ?_ ?ax196 ?bx196 ?hdx196; (case bx196 => rfl); (case ax196 => rfl); (case hdx196 => decide); (case Nx196 => k_asm); (case cx196 => rfl); (case mx196 => ((with_reducible (repeat (first | exact List.mem_cons_self | exact mem_led (by with_reducible assumption) | refine List.mem_cons_of_mem _ ?_ | refine mem_led_sub (by with_reducible assumption) ?_))); (first | done | with_reducible assumption))); (case dx196 => k_asm); k_whole)
    | (refine' LCgL.ld_built ?Fx196 ?Xx196 ?Tx196 ?ex196 ?vx196 ?nx196 ?_ ?gx196 ?bx196 ?hkx196 ?hxx196 ?hdx196; (case hxx196 => rfl); (case hkx196 => rfl); (case gx196 => rfl); (case bx196 => rfl); (case hdx196 => decide); (case Fx196 => k_asm); (case Xx196 => k_asm); (case Tx196 => k_asm); (case ex196 => k_is); (case vx196 => boot_by_name); (case nx196 => decide); k_whole)))
  unfold Does
  k_fill
  intro p loose mean mg mb dp un gd cn cs a ccd cl outer A₀ base h₀ L m s₀ Q E B F X N T hk hd' hu' hret
  refine wpAny_call ?_
  k_dflt (refine' code_defS (sub := [(d, od)]) ?kS ?kN ?k1 ?k2 ?k3 ?k4 ?k5 ?kA ?kF ?kK ?k6 ?k7 ?k8 ?k9 ?kB ?_ ?c2 ?c3 ?c4 ?c5; (case kS => intro q hq; rw [List.mem_singleton.mp hq]; exact hm); (case kN => exact List.cons_ne_nil _ _); (case kA => exact rfl); (case kF => exact rfl); (case kK => assumption); (case k1 => k_asm); (case k2 => k_asm); (case k3 => k_asm); (case k4 => k_asm); (case k5 => k_asm); (case k6 => k_is); (case k7 => k_is); (case k8 => ktr_room); (case k9 => exact BindsTo.of_eq rfl); (case c5 => decide); (case kB => exact locs rfl); (case c2 => exact rfl); (case c3 => exact rfl); (case c4 => exact rfl); k_whole; intro g' L' h' tk' b9 ob9 FG' F' N' B' X' T' l1 lb9 bk9; (try simp only [List.cons_append, List.nil_append] at l1); (try k_lt l1); (try simp only [List.cons_append, List.nil_append] at N'); (try dsimp only); (try k_fold))
  k_steps
  all_goals (refine hret _ [] _ _ (by assumption) (bk9 _ _ _ [] (by assumption) (by assumption)) (fun _ h => nomatch h) ⟨rfl, _, _, rfl, by omega⟩)
theorem count_any (w : World) (news : List (Addr × Obj)) (d : Addr) (od : Obj) (F R : Int) (hds : DS w od F R) (hd3 : (d == sysModules) = false) (hm : (d, od) ∈ news) :
    Does w 5 48 77 [.ref d] news (fun r tl => tl = [] ∧ ∃ x k, r = .int x k ∧ x = F + R) := by
  rcases hds with ⟨h1, h2, rfl, rfl⟩ | ⟨t, u, h1, h2⟩
  · refine (count0_does w news d od h1 h2 hd3 hm).mono ?_
    rintro r tl ⟨e, k, e2⟩
    exact ⟨e, _, k, e2, rfl⟩
  · exact count2_does w news d od F R t u h1 h2 hd3 hm

end Mine
end
section
open PySem PySem.W PySem.Calls PyProof.Rows
set_option Elab.async false
set_option maxRecDepth 100000
set_option maxHeartbeats 8000000
set_option pp.deepTerms false
set_option pp.deepTerms.threshold 4
set_option pp.maxSteps 6000
namespace Mine
theorem haltI_LawT3 {P : Prop} (h : Keep P) : P := h

theorem news_put {h₀ h : Heap} {L : Addr} {x : Addr × Obj} {l r : List (Addr × Obj)} (N : News h₀ L h l) (hx : x ∈ l) (N2 : News h₀ L h r) : News h₀ L h (x :: r) := fun q hq => by
  rcases List.mem_cons.mp hq with e | e
  · rw [e]; exact N x hx
  · exact N2 q e
theorem news_add {h₀ h : Heap} {L : Addr} {l r : List (Addr × Obj)} (a : List (Addr × Obj)) (N : News h₀ L h l) (e : l = a ++ r) : News h₀ L h r := fun q hq => N q (by rw [e]; exact List.mem_append_right _ hq)

namespace ET3
noncomputable def Pr (w : World) (p : Program) (loose : List Str) (mean : ExcName → Option Value) (mg : Str → Option Value) (mb : Str → Option Value) (fa : Addr) (cd : Value) (h₀ : Heap) (L : Addr) (m : Str → Option Value) (s : Shared) (Q : Flow → Shared → Prop) (Bk : Addr) (d : Addr) (Ah : Addr) (G : Addr) (ea : Addr) (eb : Addr) (ec : Addr) (S : Addr) (J : Addr) (Wa : Int) (Wb : Int) (Wc : Int) (Wd : Int) (F' : Int) (R' : Int) (ka : Int) (kb : Int) (kc : Int) (od : Obj) (o2 : Obj) (o3 : Obj) (o5 : Obj) (o9 : Obj) (u0 : Tok) (u1 : Tok) (u2 : Tok) (u3 : Tok) (t1 : Tok) (t2 : Tok) (t3 : Tok) (jh : Nat) (jG : Nat) (na : Nat) (nb : Nat) (nc : Nat) (ns : Nat) (jJ : Nat) (gl : List Value) (rest : List (Addr × Obj)) (a1 : Int) (a2 : Int) (a3 : Int) (a4 : Int) (a5 : Int) (ha1 : Tok) (ha2 : Tok) (ha3 : Tok) (ha4 : Tok) (ha5 : Tok) (b1 : Int) (b2 : Int) (b3 : Int) (b4 : Int) (b5 : Int) (hb1 : Tok) (hb2 : Tok) (hb3 : Tok) (hb4 : Tok) (hb5 : Tok) (c1 : Int) (c2 : Int) (c3 : Int) (c4 : Int) (c5 : Int) (hc1 : Tok) (hc2 : Tok) (hc3 : Tok) (hc4 : Tok) (hc5 : Tok) (v1 : Int) (v2 : Int) (v3 : Int) (v4 : Int) (v5 : Int) (y1 : Tok) (y2 : Tok) (y3 : Tok) (y4 : Tok) (y5 : Tok) (i1 : Int) (i2 : Int) (i3 : Int) (i4 : Int) (i5 : Int) (z1 : Tok) (z2 : Tok) (z3 : Tok) (z4 : Tok) (z5 : Tok) : Prop := ∀ (hds : DS w od F' R') (hsm : (d == sysModules) = false) (hd2 : o2.data = .cell (some (.ref S))) (hd3 : o3.data = .cell (some (.ref G))) (hd5 : o5.data = .cell (some (.ref J))) (hd9 : o9.data = .cell (some (.ref Ah))) (hka : 0 ≤ ka ∧ ka ≤ 7) (hkb : 0 ≤ kb ∧ kb ≤ 7) (hkc : 0 ≤ kc ∧ kc ≤ 7) (hga : gl[ka.toNat]? = some (.ref ea)) (hgb : gl[kb.toNat]? = some (.ref eb)) (hgc : gl[kc.toNat]? = some (.ref ec)) (hA : Wa = a1 + a2 + a3 + a4 + a5) (hB : Wa + Wb = b1 + b2 + b3 + b4 + b5) (hC : Wa + Wb + Wc = c1 + c2 + c3 + c4 + c5) (hFR : F' + R' = v1 + v2 + v3 + v4 + v5 - i5) (B : Below callerA h₀ [] h₀) (F : Fr h₀ L s.heap (fun y => if y = Str.ofString "book" then some (.ref Bk) else m y)) (X : (hd.heap_1 w.params).In h₀) (T : Top p loose mean mg mb h₀) (N : News h₀ L s.heap ((Bk, tup #[.int Wa u0, .int Wb u1, .int Wc u2, .int Wd u3, .ref d]) :: (d, od) :: (Ah, W.listOf #[.int ka t1, .int kb t2, .int kc t3] jh) :: (G, W.listOf gl.toArray jG) :: (ea, W.listOf #[.int a1 ha1, .int a2 ha2, .int a3 ha3, .int a4 ha4, .int a5 ha5] na) :: (eb, W.listOf #[.int b1 hb1, .int b2 hb2, .int b3 hb3, .int b4 hb4, .int b5 hb5] nb) :: (ec, W.listOf #[.int c1 hc1, .int c2 hc2, .int c3 hc3, .int c4 hc4, .int c5 hc5] nc) :: (S, W.listOf #[.int v1 y1, .int v2 y2, .int v3 y3, .int v4 y4, .int v5 y5] ns) :: (J, W.listOf #[.int i1 z1, .int i2 z2, .int i3 z3, .int i4 z4, .int i5 z5] jJ) :: (L + 1 + 1, o2) :: (L + 1 + 1 + 1, o3) :: (L + 1 + 1 + 1 + 1 + 1, o5) :: (L + 1 + 1 + 1 + 1 + 1 + 1 + 1 + 1 + 1, o9) :: rest)) (hQ : ∀ h' tk' m', Fr h₀ L h' m' → News h₀ L h' ((Bk, tup #[.int Wa u0, .int Wb u1, .int Wc u2, .int Wd u3, .ref d]) :: (d, od) :: (Ah, W.listOf #[.int ka t1, .int kb t2, .int kc t3] jh) :: (G, W.listOf gl.toArray jG) :: (ea, W.listOf #[.int a1 ha1, .int a2 ha2, .int a3 ha3, .int a4 ha4, .int a5 ha5] na) :: (eb, W.listOf #[.int b1 hb1, .int b2 hb2, .int b3 hb3, .int b4 hb4, .int b5 hb5] nb) :: (ec, W.listOf #[.int c1 hc1, .int c2 hc2, .int c3 hc3, .int c4 hc4, .int c5 hc5] nc) :: (S, W.listOf #[.int v1 y1, .int v2 y2, .int v3 y3, .int v4 y4, .int v5 y5] ns) :: (J, W.listOf #[.int i1 z1, .int i2 z2, .int i3 z3, .int i4 z4, .int i5 z5] jJ) :: (L + 1 + 1, o2) :: (L + 1 + 1 + 1, o3) :: (L + 1 + 1 + 1 + 1 + 1, o5) :: (L + 1 + 1 + 1 + 1 + 1 + 1 + 1 + 1 + 1, o9) :: rest) → Q .next { s with heap := h', toks := tk' }), wpAny (model Challenge.rw_wo0027_01.row.prog w) (callerA.deeper (envOfC (Str.ofString "law") lawScope L fa cd)) (execs (turnParts.1.drop 6) (envOfC (Str.ofString "law") lawScope L fa cd)) Q (fun _ _ => False) s
abbrev Pack : Type := (World) × (Program) × (List Str) × (ExcName → Option Value) × (Str → Option Value) × (Str → Option Value) × (Addr) × (Value) × (Heap) × (Addr) × (Str → Option Value) × (Shared) × (Flow → Shared → Prop) × (Addr) × (Addr) × (Addr) × (Addr) × (Addr) × (Addr) × (Addr) × (Addr) × (Addr) × (Int) × (Int) × (Int) × (Int) × (Int) × (Int) × (Int) × (Int) × (Int) × (Obj) × (Obj) × (Obj) × (Obj) × (Obj) × (Tok) × (Tok) × (Tok) × (Tok) × (Tok) × (Tok) × (Tok) × (Nat) × (Nat) × (Nat) × (Nat) × (Nat) × (Nat) × (Nat) × (List Value) × (List (Addr × Obj)) × (Int) × (Int) × (Int) × (Int) × (Int) × (Tok) × (Tok) × (Tok) × (Tok) × (Tok) × (Int) × (Int) × (Int) × (Int) × (Int) × (Tok) × (Tok) × (Tok) × (Tok) × (Tok) × (Int) × (Int) × (Int) × (Int) × (Int) × (Tok) × (Tok) × (Tok) × (Tok) × (Tok) × (Int) × (Int) × (Int) × (Int) × (Int) × (Tok) × (Tok) × (Tok) × (Tok) × (Tok) × (Int) × (Int) × (Int) × (Int) × (Int) × (Tok) × (Tok) × (Tok) × (Tok) × (Tok)
noncomputable def PrX (x : Pack) : Prop := Pr (x.1) (x.2.1) (x.2.2.1) (x.2.2.2.1) (x.2.2.2.2.1) (x.2.2.2.2.2.1) (x.2.2.2.2.2.2.1) (x.2.2.2.2.2.2.2.1) (x.2.2.2.2.2.2.2.2.1) (x.2.2.2.2.2.2.2.2.2.1) (x.2.2.2.2.2.2.2.2.2.2.1) (x.2.2.2.2.2.2.2.2.2.2.2.1) (x.2.2.2.2.2.2.2.2.2.2.2.2.1) (x.2.2.2.2.2.2.2.2.2.2.2.2.2.1) (x.2.2.2.2.2.2.2.2.2.2.2.2.2.2.1) (x.2.2.2.2.2.2.2.2.2.2.2.2.2.2.2.1) (x.2.2.2.2.2.2.2.2.2.2.2.2.2.2.2.2.1) (x.2.2.2.2.2.2.2.2.2.2.2.2.2.2.2.2.2.1) (x.2.2.2.2.2.2.2.2.2.2.2.2.2.2.2.2.2.2.1) (x.2.2.2.2.2.2.2.2.2.2.2.2.2.2.2.2.2.2.2.1) (x.2.2.2.2.2.2.2.2.2.2.2.2.2.2.2.2.2.2.2.2.1) (x.2.2.2.2.2.2.2.2.2.2.2.2.2.2.2.2.2.2.2.2.2.1) (x.2.2.2.2.2.2.2.2.2.2.2.2.2.2.2.2.2.2.2.2.2.2.1) (x.2.2.2.2.2.2.2.2.2.2.2.2.2.2.2.2.2.2.2.2.2.2.2.1) (x.2.2.2.2.2.2.2.2.2.2.2.2.2.2.2.2.2.2.2.2.2.2.2.2.1) (x.2.2.2.2.2.2.2.2.2.2.2.2.2.2.2.2.2.2.2.2.2.2.2.2.2.1) (x.2.2.2.2.2.2.2.2.2.2.2.2.2.2.2.2.2.2.2.2.2.2.2.2.2.2.1) (x.2.2.2.2.2.2.2.2.2.2.2.2.2.2.2.2.2.2.2.2.2.2.2.2.2.2.2.1) (x.2.2.2.2.2.2.2.2.2.2.2.2.2.2.2.2.2.2.2.2.2.2.2.2.2.2.2.2.1) (x.2.2.2.2.2.2.2.2.2.2.2.2.2.2.2.2.2.2.2.2.2.2.2.2.2.2.2.2.2.1) (x.2.2.2.2.2.2.2.2.2.2.2.2.2.2.2.2.2.2.2.2.2.2.2.2.2.2.2.2.2.2.1) (x.2.2.2.2.2.2.2.2.2.2.2.2.2.2.2.2.2.2.2.2.2.2.2.2.2.2.2.2.2.2.2.1) (x.2.2.2.2.2.2.2.2.2.2.2.2.2.2.2.2.2.2.2.2.2.2.2.2.2.2.2.2.2.2.2.2.1) (x.2.2.2.2.2.2.2.2.2.2.2.2.2.2.2.2.2.2.2.2.2.2.2.2.2.2.2.2.2.2.2.2.2.1) (x.2.2.2.2.2.2.2.2.2.2.2.2.2.2.2.2.2.2.2.2.2.2.2.2.2.2.2.2.2.2.2.2.2.2.1) (x.2.2.2.2.2.2.2.2.2.2.2.2.2.2.2.2.2.2.2.2.2.2.2.2.2.2.2.2.2.2.2.2.2.2.2.1) (x.2.2.2.2.2.2.2.2.2.2.2.2.2.2.2.2.2.2.2.2.2.2.2.2.2.2.2.2.2.2.2.2.2.2.2.2.1) (x.2.2.2.2.2.2.2.2.2.2.2.2.2.2.2.2.2.2.2.2.2.2.2.2.2.2.2.2.2.2.2.2.2.2.2.2.2.1) (x.2.2.2.2.2.2.2.2.2.2.2.2.2.2.2.2.2.2.2.2.2.2.2.2.2.2.2.2.2.2.2.2.2.2.2.2.2.2.1) (x.2.2.2.2.2.2.2.2.2.2.2.2.2.2.2.2.2.2.2.2.2.2.2.2.2.2.2.2.2.2.2.2.2.2.2.2.2.2.2.1) (x.2.2.2.2.2.2.2.2.2.2.2.2.2.2.2.2.2.2.2.2.2.2.2.2.2.2.2.2.2.2.2.2.2.2.2.2.2.2.2.2.1) (x.2.2.2.2.2.2.2.2.2.2.2.2.2.2.2.2.2.2.2.2.2.2.2.2.2.2.2.2.2.2.2.2.2.2.2.2.2.2.2.2.2.1) (x.2.2.2.2.2.2.2.2.2.2.2.2.2.2.2.2.2.2.2.2.2.2.2.2.2.2.2.2.2.2.2.2.2.2.2.2.2.2.2.2.2.2.1) (x.2.2.2.2.2.2.2.2.2.2.2.2.2.2.2.2.2.2.2.2.2.2.2.2.2.2.2.2.2.2.2.2.2.2.2.2.2.2.2.2.2.2.2.1) (x.2.2.2.2.2.2.2.2.2.2.2.2.2.2.2.2.2.2.2.2.2.2.2.2.2.2.2.2.2.2.2.2.2.2.2.2.2.2.2.2.2.2.2.2.1) (x.2.2.2.2.2.2.2.2.2.2.2.2.2.2.2.2.2.2.2.2.2.2.2.2.2.2.2.2.2.2.2.2.2.2.2.2.2.2.2.2.2.2.2.2.2.1) (x.2.2.2.2.2.2.2.2.2.2.2.2.2.2.2.2.2.2.2.2.2.2.2.2.2.2.2.2.2.2.2.2.2.2.2.2.2.2.2.2.2.2.2.2.2.2.1) (x.2.2.2.2.2.2.2.2.2.2.2.2.2.2.2.2.2.2.2.2.2.2.2.2.2.2.2.2.2.2.2.2.2.2.2.2.2.2.2.2.2.2.2.2.2.2.2.1) (x.2.2.2.2.2.2.2.2.2.2.2.2.2.2.2.2.2.2.2.2.2.2.2.2.2.2.2.2.2.2.2.2.2.2.2.2.2.2.2.2.2.2.2.2.2.2.2.2.1) (x.2.2.2.2.2.2.2.2.2.2.2.2.2.2.2.2.2.2.2.2.2.2.2.2.2.2.2.2.2.2.2.2.2.2.2.2.2.2.2.2.2.2.2.2.2.2.2.2.2.1) (x.2.2.2.2.2.2.2.2.2.2.2.2.2.2.2.2.2.2.2.2.2.2.2.2.2.2.2.2.2.2.2.2.2.2.2.2.2.2.2.2.2.2.2.2.2.2.2.2.2.2.1) (x.2.2.2.2.2.2.2.2.2.2.2.2.2.2.2.2.2.2.2.2.2.2.2.2.2.2.2.2.2.2.2.2.2.2.2.2.2.2.2.2.2.2.2.2.2.2.2.2.2.2.2.1) (x.2.2.2.2.2.2.2.2.2.2.2.2.2.2.2.2.2.2.2.2.2.2.2.2.2.2.2.2.2.2.2.2.2.2.2.2.2.2.2.2.2.2.2.2.2.2.2.2.2.2.2.2.1) (x.2.2.2.2.2.2.2.2.2.2.2.2.2.2.2.2.2.2.2.2.2.2.2.2.2.2.2.2.2.2.2.2.2.2.2.2.2.2.2.2.2.2.2.2.2.2.2.2.2.2.2.2.2.1) (x.2.2.2.2.2.2.2.2.2.2.2.2.2.2.2.2.2.2.2.2.2.2.2.2.2.2.2.2.2.2.2.2.2.2.2.2.2.2.2.2.2.2.2.2.2.2.2.2.2.2.2.2.2.2.1) (x.2.2.2.2.2.2.2.2.2.2.2.2.2.2.2.2.2.2.2.2.2.2.2.2.2.2.2.2.2.2.2.2.2.2.2.2.2.2.2.2.2.2.2.2.2.2.2.2.2.2.2.2.2.2.2.1) (x.2.2.2.2.2.2.2.2.2.2.2.2.2.2.2.2.2.2.2.2.2.2.2.2.2.2.2.2.2.2.2.2.2.2.2.2.2.2.2.2.2.2.2.2.2.2.2.2.2.2.2.2.2.2.2.2.1) (x.2.2.2.2.2.2.2.2.2.2.2.2.2.2.2.2.2.2.2.2.2.2.2.2.2.2.2.2.2.2.2.2.2.2.2.2.2.2.2.2.2.2.2.2.2.2.2.2.2.2.2.2.2.2.2.2.2.1) (x.2.2.2.2.2.2.2.2.2.2.2.2.2.2.2.2.2.2.2.2.2.2.2.2.2.2.2.2.2.2.2.2.2.2.2.2.2.2.2.2.2.2.2.2.2.2.2.2.2.2.2.2.2.2.2.2.2.2.1) (x.2.2.2.2.2.2.2.2.2.2.2.2.2.2.2.2.2.2.2.2.2.2.2.2.2.2.2.2.2.2.2.2.2.2.2.2.2.2.2.2.2.2.2.2.2.2.2.2.2.2.2.2.2.2.2.2.2.2.2.1) (x.2.2.2.2.2.2.2.2.2.2.2.2.2.2.2.2.2.2.2.2.2.2.2.2.2.2.2.2.2.2.2.2.2.2.2.2.2.2.2.2.2.2.2.2.2.2.2.2.2.2.2.2.2.2.2.2.2.2.2.2.1) (x.2.2.2.2.2.2.2.2.2.2.2.2.2.2.2.2.2.2.2.2.2.2.2.2.2.2.2.2.2.2.2.2.2.2.2.2.2.2.2.2.2.2.2.2.2.2.2.2.2.2.2.2.2.2.2.2.2.2.2.2.2.1) (x.2.2.2.2.2.2.2.2.2.2.2.2.2.2.2.2.2.2.2.2.2.2.2.2.2.2.2.2.2.2.2.2.2.2.2.2.2.2.2.2.2.2.2.2.2.2.2.2.2.2.2.2.2.2.2.2.2.2.2.2.2.2.1) (x.2.2.2.2.2.2.2.2.2.2.2.2.2.2.2.2.2.2.2.2.2.2.2.2.2.2.2.2.2.2.2.2.2.2.2.2.2.2.2.2.2.2.2.2.2.2.2.2.2.2.2.2.2.2.2.2.2.2.2.2.2.2.2.1) (x.2.2.2.2.2.2.2.2.2.2.2.2.2.2.2.2.2.2.2.2.2.2.2.2.2.2.2.2.2.2.2.2.2.2.2.2.2.2.2.2.2.2.2.2.2.2.2.2.2.2.2.2.2.2.2.2.2.2.2.2.2.2.2.2.1) (x.2.2.2.2.2.2.2.2.2.2.2.2.2.2.2.2.2.2.2.2.2.2.2.2.2.2.2.2.2.2.2.2.2.2.2.2.2.2.2.2.2.2.2.2.2.2.2.2.2.2.2.2.2.2.2.2.2.2.2.2.2.2.2.2.2.1) (x.2.2.2.2.2.2.2.2.2.2.2.2.2.2.2.2.2.2.2.2.2.2.2.2.2.2.2.2.2.2.2.2.2.2.2.2.2.2.2.2.2.2.2.2.2.2.2.2.2.2.2.2.2.2.2.2.2.2.2.2.2.2.2.2.2.2.1) (x.2.2.2.2.2.2.2.2.2.2.2.2.2.2.2.2.2.2.2.2.2.2.2.2.2.2.2.2.2.2.2.2.2.2.2.2.2.2.2.2.2.2.2.2.2.2.2.2.2.2.2.2.2.2.2.2.2.2.2.2.2.2.2.2.2.2.2.1) (x.2.2.2.2.2.2.2.2.2.2.2.2.2.2.2.2.2.2.2.2.2.2.2.2.2.2.2.2.2.2.2.2.2.2.2.2.2.2.2.2.2.2.2.2.2.2.2.2.2.2.2.2.2.2.2.2.2.2.2.2.2.2.2.2.2.2.2.2.1) (x.2.2.2.2.2.2.2.2.2.2.2.2.2.2.2.2.2.2.2.2.2.2.2.2.2.2.2.2.2.2.2.2.2.2.2.2.2.2.2.2.2.2.2.2.2.2.2.2.2.2.2.2.2.2.2.2.2.2.2.2.2.2.2.2.2.2.2.2.2.1) (x.2.2.2.2.2.2.2.2.2.2.2.2.2.2.2.2.2.2.2.2.2.2.2.2.2.2.2.2.2.2.2.2.2.2.2.2.2.2.2.2.2.2.2.2.2.2.2.2.2.2.2.2.2.2.2.2.2.2.2.2.2.2.2.2.2.2.2.2.2.2.1) (x.2.2.2.2.2.2.2.2.2.2.2.2.2.2.2.2.2.2.2.2.2.2.2.2.2.2.2.2.2.2.2.2.2.2.2.2.2.2.2.2.2.2.2.2.2.2.2.2.2.2.2.2.2.2.2.2.2.2.2.2.2.2.2.2.2.2.2.2.2.2.2.1) (x.2.2.2.2.2.2.2.2.2.2.2.2.2.2.2.2.2.2.2.2.2.2.2.2.2.2.2.2.2.2.2.2.2.2.2.2.2.2.2.2.2.2.2.2.2.2.2.2.2.2.2.2.2.2.2.2.2.2.2.2.2.2.2.2.2.2.2.2.2.2.2.2.1) (x.2.2.2.2.2.2.2.2.2.2.2.2.2.2.2.2.2.2.2.2.2.2.2.2.2.2.2.2.2.2.2.2.2.2.2.2.2.2.2.2.2.2.2.2.2.2.2.2.2.2.2.2.2.2.2.2.2.2.2.2.2.2.2.2.2.2.2.2.2.2.2.2.2.1) (x.2.2.2.2.2.2.2.2.2.2.2.2.2.2.2.2.2.2.2.2.2.2.2.2.2.2.2.2.2.2.2.2.2.2.2.2.2.2.2.2.2.2.2.2.2.2.2.2.2.2.2.2.2.2.2.2.2.2.2.2.2.2.2.2.2.2.2.2.2.2.2.2.2.2.1) (x.2.2.2.2.2.2.2.2.2.2.2.2.2.2.2.2.2.2.2.2.2.2.2.2.2.2.2.2.2.2.2.2.2.2.2.2.2.2.2.2.2.2.2.2.2.2.2.2.2.2.2.2.2.2.2.2.2.2.2.2.2.2.2.2.2.2.2.2.2.2.2.2.2.2.2.1) (x.2.2.2.2.2.2.2.2.2.2.2.2.2.2.2.2.2.2.2.2.2.2.2.2.2.2.2.2.2.2.2.2.2.2.2.2.2.2.2.2.2.2.2.2.2.2.2.2.2.2.2.2.2.2.2.2.2.2.2.2.2.2.2.2.2.2.2.2.2.2.2.2.2.2.2.2.1) (x.2.2.2.2.2.2.2.2.2.2.2.2.2.2.2.2.2.2.2.2.2.2.2.2.2.2.2.2.2.2.2.2.2.2.2.2.2.2.2.2.2.2.2.2.2.2.2.2.2.2.2.2.2.2.2.2.2.2.2.2.2.2.2.2.2.2.2.2.2.2.2.2.2.2.2.2.2.1) (x.2.2.2.2.2.2.2.2.2.2.2.2.2.2.2.2.2.2.2.2.2.2.2.2.2.2.2.2.2.2.2.2.2.2.2.2.2.2.2.2.2.2.2.2.2.2.2.2.2.2.2.2.2.2.2.2.2.2.2.2.2.2.2.2.2.2.2.2.2.2.2.2.2.2.2.2.2.2.1) (x.2.2.2.2.2.2.2.2.2.2.2.2.2.2.2.2.2.2.2.2.2.2.2.2.2.2.2.2.2.2.2.2.2.2.2.2.2.2.2.2.2.2.2.2.2.2.2.2.2.2.2.2.2.2.2.2.2.2.2.2.2.2.2.2.2.2.2.2.2.2.2.2.2.2.2.2.2.2.2.1) (x.2.2.2.2.2.2.2.2.2.2.2.2.2.2.2.2.2.2.2.2.2.2.2.2.2.2.2.2.2.2.2.2.2.2.2.2.2.2.2.2.2.2.2.2.2.2.2.2.2.2.2.2.2.2.2.2.2.2.2.2.2.2.2.2.2.2.2.2.2.2.2.2.2.2.2.2.2.2.2.2.1) (x.2.2.2.2.2.2.2.2.2.2.2.2.2.2.2.2.2.2.2.2.2.2.2.2.2.2.2.2.2.2.2.2.2.2.2.2.2.2.2.2.2.2.2.2.2.2.2.2.2.2.2.2.2.2.2.2.2.2.2.2.2.2.2.2.2.2.2.2.2.2.2.2.2.2.2.2.2.2.2.2.2.1) (x.2.2.2.2.2.2.2.2.2.2.2.2.2.2.2.2.2.2.2.2.2.2.2.2.2.2.2.2.2.2.2.2.2.2.2.2.2.2.2.2.2.2.2.2.2.2.2.2.2.2.2.2.2.2.2.2.2.2.2.2.2.2.2.2.2.2.2.2.2.2.2.2.2.2.2.2.2.2.2.2.2.2.1) (x.2.2.2.2.2.2.2.2.2.2.2.2.2.2.2.2.2.2.2.2.2.2.2.2.2.2.2.2.2.2.2.2.2.2.2.2.2.2.2.2.2.2.2.2.2.2.2.2.2.2.2.2.2.2.2.2.2.2.2.2.2.2.2.2.2.2.2.2.2.2.2.2.2.2.2.2.2.2.2.2.2.2.2.1) (x.2.2.2.2.2.2.2.2.2.2.2.2.2.2.2.2.2.2.2.2.2.2.2.2.2.2.2.2.2.2.2.2.2.2.2.2.2.2.2.2.2.2.2.2.2.2.2.2.2.2.2.2.2.2.2.2.2.2.2.2.2.2.2.2.2.2.2.2.2.2.2.2.2.2.2.2.2.2.2.2.2.2.2.2.1) (x.2.2.2.2.2.2.2.2.2.2.2.2.2.2.2.2.2.2.2.2.2.2.2.2.2.2.2.2.2.2.2.2.2.2.2.2.2.2.2.2.2.2.2.2.2.2.2.2.2.2.2.2.2.2.2.2.2.2.2.2.2.2.2.2.2.2.2.2.2.2.2.2.2.2.2.2.2.2.2.2.2.2.2.2.2.1) (x.2.2.2.2.2.2.2.2.2.2.2.2.2.2.2.2.2.2.2.2.2.2.2.2.2.2.2.2.2.2.2.2.2.2.2.2.2.2.2.2.2.2.2.2.2.2.2.2.2.2.2.2.2.2.2.2.2.2.2.2.2.2.2.2.2.2.2.2.2.2.2.2.2.2.2.2.2.2.2.2.2.2.2.2.2.2.1) (x.2.2.2.2.2.2.2.2.2.2.2.2.2.2.2.2.2.2.2.2.2.2.2.2.2.2.2.2.2.2.2.2.2.2.2.2.2.2.2.2.2.2.2.2.2.2.2.2.2.2.2.2.2.2.2.2.2.2.2.2.2.2.2.2.2.2.2.2.2.2.2.2.2.2.2.2.2.2.2.2.2.2.2.2.2.2.2.1) (x.2.2.2.2.2.2.2.2.2.2.2.2.2.2.2.2.2.2.2.2.2.2.2.2.2.2.2.2.2.2.2.2.2.2.2.2.2.2.2.2.2.2.2.2.2.2.2.2.2.2.2.2.2.2.2.2.2.2.2.2.2.2.2.2.2.2.2.2.2.2.2.2.2.2.2.2.2.2.2.2.2.2.2.2.2.2.2.2.1) (x.2.2.2.2.2.2.2.2.2.2.2.2.2.2.2.2.2.2.2.2.2.2.2.2.2.2.2.2.2.2.2.2.2.2.2.2.2.2.2.2.2.2.2.2.2.2.2.2.2.2.2.2.2.2.2.2.2.2.2.2.2.2.2.2.2.2.2.2.2.2.2.2.2.2.2.2.2.2.2.2.2.2.2.2.2.2.2.2.2.1) (x.2.2.2.2.2.2.2.2.2.2.2.2.2.2.2.2.2.2.2.2.2.2.2.2.2.2.2.2.2.2.2.2.2.2.2.2.2.2.2.2.2.2.2.2.2.2.2.2.2.2.2.2.2.2.2.2.2.2.2.2.2.2.2.2.2.2.2.2.2.2.2.2.2.2.2.2.2.2.2.2.2.2.2.2.2.2.2.2.2.2.1) (x.2.2.2.2.2.2.2.2.2.2.2.2.2.2.2.2.2.2.2.2.2.2.2.2.2.2.2.2.2.2.2.2.2.2.2.2.2.2.2.2.2.2.2.2.2.2.2.2.2.2.2.2.2.2.2.2.2.2.2.2.2.2.2.2.2.2.2.2.2.2.2.2.2.2.2.2.2.2.2.2.2.2.2.2.2.2.2.2.2.2.2.1) (x.2.2.2.2.2.2.2.2.2.2.2.2.2.2.2.2.2.2.2.2.2.2.2.2.2.2.2.2.2.2.2.2.2.2.2.2.2.2.2.2.2.2.2.2.2.2.2.2.2.2.2.2.2.2.2.2.2.2.2.2.2.2.2.2.2.2.2.2.2.2.2.2.2.2.2.2.2.2.2.2.2.2.2.2.2.2.2.2.2.2.2.2.1) (x.2.2.2.2.2.2.2.2.2.2.2.2.2.2.2.2.2.2.2.2.2.2.2.2.2.2.2.2.2.2.2.2.2.2.2.2.2.2.2.2.2.2.2.2.2.2.2.2.2.2.2.2.2.2.2.2.2.2.2.2.2.2.2.2.2.2.2.2.2.2.2.2.2.2.2.2.2.2.2.2.2.2.2.2.2.2.2.2.2.2.2.2.2.1) (x.2.2.2.2.2.2.2.2.2.2.2.2.2.2.2.2.2.2.2.2.2.2.2.2.2.2.2.2.2.2.2.2.2.2.2.2.2.2.2.2.2.2.2.2.2.2.2.2.2.2.2.2.2.2.2.2.2.2.2.2.2.2.2.2.2.2.2.2.2.2.2.2.2.2.2.2.2.2.2.2.2.2.2.2.2.2.2.2.2.2.2.2.2.2.1) (x.2.2.2.2.2.2.2.2.2.2.2.2.2.2.2.2.2.2.2.2.2.2.2.2.2.2.2.2.2.2.2.2.2.2.2.2.2.2.2.2.2.2.2.2.2.2.2.2.2.2.2.2.2.2.2.2.2.2.2.2.2.2.2.2.2.2.2.2.2.2.2.2.2.2.2.2.2.2.2.2.2.2.2.2.2.2.2.2.2.2.2.2.2.2.2.1) (x.2.2.2.2.2.2.2.2.2.2.2.2.2.2.2.2.2.2.2.2.2.2.2.2.2.2.2.2.2.2.2.2.2.2.2.2.2.2.2.2.2.2.2.2.2.2.2.2.2.2.2.2.2.2.2.2.2.2.2.2.2.2.2.2.2.2.2.2.2.2.2.2.2.2.2.2.2.2.2.2.2.2.2.2.2.2.2.2.2.2.2.2.2.2.2.2.1) (x.2.2.2.2.2.2.2.2.2.2.2.2.2.2.2.2.2.2.2.2.2.2.2.2.2.2.2.2.2.2.2.2.2.2.2.2.2.2.2.2.2.2.2.2.2.2.2.2.2.2.2.2.2.2.2.2.2.2.2.2.2.2.2.2.2.2.2.2.2.2.2.2.2.2.2.2.2.2.2.2.2.2.2.2.2.2.2.2.2.2.2.2.2.2.2.2.2.1) (x.2.2.2.2.2.2.2.2.2.2.2.2.2.2.2.2.2.2.2.2.2.2.2.2.2.2.2.2.2.2.2.2.2.2.2.2.2.2.2.2.2.2.2.2.2.2.2.2.2.2.2.2.2.2.2.2.2.2.2.2.2.2.2.2.2.2.2.2.2.2.2.2.2.2.2.2.2.2.2.2.2.2.2.2.2.2.2.2.2.2.2.2.2.2.2.2.2.2.1) (x.2.2.2.2.2.2.2.2.2.2.2.2.2.2.2.2.2.2.2.2.2.2.2.2.2.2.2.2.2.2.2.2.2.2.2.2.2.2.2.2.2.2.2.2.2.2.2.2.2.2.2.2.2.2.2.2.2.2.2.2.2.2.2.2.2.2.2.2.2.2.2.2.2.2.2.2.2.2.2.2.2.2.2.2.2.2.2.2.2.2.2.2.2.2.2.2.2.2.2.1) (x.2.2.2.2.2.2.2.2.2.2.2.2.2.2.2.2.2.2.2.2.2.2.2.2.2.2.2.2.2.2.2.2.2.2.2.2.2.2.2.2.2.2.2.2.2.2.2.2.2.2.2.2.2.2.2.2.2.2.2.2.2.2.2.2.2.2.2.2.2.2.2.2.2.2.2.2.2.2.2.2.2.2.2.2.2.2.2.2.2.2.2.2.2.2.2.2.2.2.2.2.1) (x.2.2.2.2.2.2.2.2.2.2.2.2.2.2.2.2.2.2.2.2.2.2.2.2.2.2.2.2.2.2.2.2.2.2.2.2.2.2.2.2.2.2.2.2.2.2.2.2.2.2.2.2.2.2.2.2.2.2.2.2.2.2.2.2.2.2.2.2.2.2.2.2.2.2.2.2.2.2.2.2.2.2.2.2.2.2.2.2.2.2.2.2.2.2.2.2.2.2.2.2.2)
theorem ne : Nonempty Pack := ⟨(aWorld 1, default, default, default, default, default, default, default, default, default, default, (start Mine.view).1, default, default, default, default, default, default, default, default, default, default, default, default, default, default, default, default, default, default, default, default, default, default, default, default, default, default, default, default, default, default, default, default, default, default, default, default, default, default, default, default, default, default, default, default, default, default, default, default, default, default, default, default, default, default, default, default, default, default, default, default, default, default, default, default, default, default, default, default, default, default, default, default, default, default, default, default, default, default, default, default, default, default, default, default, default, default, default, default, default, default)⟩
@[irreducible] noncomputable def pk : Pack := bad ne PrX
@[irreducible] noncomputable def w : World := pk.1
@[irreducible] noncomputable def p : Program := pk.2.1
@[irreducible] noncomputable def loose : List Str := pk.2.2.1
@[irreducible] noncomputable def mean : ExcName → Option Value := pk.2.2.2.1
@[irreducible] noncomputable def mg : Str → Option Value := pk.2.2.2.2.1
@[irreducible] noncomputable def mb : Str → Option Value := pk.2.2.2.2.2.1
@[irreducible] noncomputable def fa : Addr := pk.2.2.2.2.2.2.1
@[irreducible] noncomputable def cd : Value := pk.2.2.2.2.2.2.2.1
@[irreducible] noncomputable def h₀ : Heap := pk.2.2.2.2.2.2.2.2.1
@[irreducible] noncomputable def L : Addr := pk.2.2.2.2.2.2.2.2.2.1
@[irreducible] noncomputable def m : Str → Option Value := pk.2.2.2.2.2.2.2.2.2.2.1
@[irreducible] noncomputable def s : Shared := pk.2.2.2.2.2.2.2.2.2.2.2.1
@[irreducible] noncomputable def Q : Flow → Shared → Prop := pk.2.2.2.2.2.2.2.2.2.2.2.2.1
@[irreducible] noncomputable def Bk : Addr := pk.2.2.2.2.2.2.2.2.2.2.2.2.2.1
@[irreducible] noncomputable def d : Addr := pk.2.2.2.2.2.2.2.2.2.2.2.2.2.2.1
@[irreducible] noncomputable def Ah : Addr := pk.2.2.2.2.2.2.2.2.2.2.2.2.2.2.2.1
@[irreducible] noncomputable def G : Addr := pk.2.2.2.2.2.2.2.2.2.2.2.2.2.2.2.2.1
@[irreducible] noncomputable def ea : Addr := pk.2.2.2.2.2.2.2.2.2.2.2.2.2.2.2.2.2.1
@[irreducible] noncomputable def eb : Addr := pk.2.2.2.2.2.2.2.2.2.2.2.2.2.2.2.2.2.2.1
@[irreducible] noncomputable def ec : Addr := pk.2.2.2.2.2.2.2.2.2.2.2.2.2.2.2.2.2.2.2.1
@[irreducible] noncomputable def S : Addr := pk.2.2.2.2.2.2.2.2.2.2.2.2.2.2.2.2.2.2.2.2.1
@[irreducible] noncomputable def J : Addr := pk.2.2.2.2.2.2.2.2.2.2.2.2.2.2.2.2.2.2.2.2.2.1
@[irreducible] noncomputable def Wa : Int := pk.2.2.2.2.2.2.2.2.2.2.2.2.2.2.2.2.2.2.2.2.2.2.1
@[irreducible] noncomputable def Wb : Int := pk.2.2.2.2.2.2.2.2.2.2.2.2.2.2.2.2.2.2.2.2.2.2.2.1
@[irreducible] noncomputable def Wc : Int := pk.2.2.2.2.2.2.2.2.2.2.2.2.2.2.2.2.2.2.2.2.2.2.2.2.1
@[irreducible] noncomputable def Wd : Int := pk.2.2.2.2.2.2.2.2.2.2.2.2.2.2.2.2.2.2.2.2.2.2.2.2.2.1
@[irreducible] noncomputable def F' : Int := pk.2.2.2.2.2.2.2.2.2.2.2.2.2.2.2.2.2.2.2.2.2.2.2.2.2.2.1
@[irreducible] noncomputable def R' : Int := pk.2.2.2.2.2.2.2.2.2.2.2.2.2.2.2.2.2.2.2.2.2.2.2.2.2.2.2.1
@[irreducible] noncomputable def ka : Int := pk.2.2.2.2.2.2.2.2.2.2.2.2.2.2.2.2.2.2.2.2.2.2.2.2.2.2.2.2.1
@[irreducible] noncomputable def kb : Int := pk.2.2.2.2.2.2.2.2.2.2.2.2.2.2.2.2.2.2.2.2.2.2.2.2.2.2.2.2.2.1
@[irreducible] noncomputable def kc : Int := pk.2.2.2.2.2.2.2.2.2.2.2.2.2.2.2.2.2.2.2.2.2.2.2.2.2.2.2.2.2.2.1
@[irreducible] noncomputable def od : Obj := pk.2.2.2.2.2.2.2.2.2.2.2.2.2.2.2.2.2.2.2.2.2.2.2.2.2.2.2.2.2.2.2.1
@[irreducible] noncomputable def o2 : Obj := pk.2.2.2.2.2.2.2.2.2.2.2.2.2.2.2.2.2.2.2.2.2.2.2.2.2.2.2.2.2.2.2.2.1
@[irreducible] noncomputable def o3 : Obj := pk.2.2.2.2.2.2.2.2.2.2.2.2.2.2.2.2.2.2.2.2.2.2.2.2.2.2.2.2.2.2.2.2.2.1
@[irreducible] noncomputable def o5 : Obj := pk.2.2.2.2.2.2.2.2.2.2.2.2.2.2.2.2.2.2.2.2.2.2.2.2.2.2.2.2.2.2.2.2.2.2.1
@[irreducible] noncomputable def o9 : Obj := pk.2.2.2.2.2.2.2.2.2.2.2.2.2.2.2.2.2.2.2.2.2.2.2.2.2.2.2.2.2.2.2.2.2.2.2.1
@[irreducible] noncomputable def u0 : Tok := pk.2.2.2.2.2.2.2.2.2.2.2.2.2.2.2.2.2.2.2.2.2.2.2.2.2.2.2.2.2.2.2.2.2.2.2.2.1
@[irreducible] noncomputable def u1 : Tok := pk.2.2.2.2.2.2.2.2.2.2.2.2.2.2.2.2.2.2.2.2.2.2.2.2.2.2.2.2.2.2.2.2.2.2.2.2.2.1
@[irreducible] noncomputable def u2 : Tok := pk.2.2.2.2.2.2.2.2.2.2.2.2.2.2.2.2.2.2.2.2.2.2.2.2.2.2.2.2.2.2.2.2.2.2.2.2.2.2.1
@[irreducible] noncomputable def u3 : Tok := pk.2.2.2.2.2.2.2.2.2.2.2.2.2.2.2.2.2.2.2.2.2.2.2.2.2.2.2.2.2.2.2.2.2.2.2.2.2.2.2.1
@[irreducible] noncomputable def t1 : Tok := pk.2.2.2.2.2.2.2.2.2.2.2.2.2.2.2.2.2.2.2.2.2.2.2.2.2.2.2.2.2.2.2.2.2.2.2.2.2.2.2.2.1
@[irreducible] noncomputable def t2 : Tok := pk.2.2.2.2.2.2.2.2.2.2.2.2.2.2.2.2.2.2.2.2.2.2.2.2.2.2.2.2.2.2.2.2.2.2.2.2.2.2.2.2.2.1
@[irreducible] noncomputable def t3 : Tok := pk.2.2.2.2.2.2.2.2.2.2.2.2.2.2.2.2.2.2.2.2.2.2.2.2.2.2.2.2.2.2.2.2.2.2.2.2.2.2.2.2.2.2.1
@[irreducible] noncomputable def jh : Nat := pk.2.2.2.2.2.2.2.2.2.2.2.2.2.2.2.2.2.2.2.2.2.2.2.2.2.2.2.2.2.2.2.2.2.2.2.2.2.2.2.2.2.2.2.1
@[irreducible] noncomputable def jG : Nat := pk.2.2.2.2.2.2.2.2.2.2.2.2.2.2.2.2.2.2.2.2.2.2.2.2.2.2.2.2.2.2.2.2.2.2.2.2.2.2.2.2.2.2.2.2.1
@[irreducible] noncomputable def na : Nat := pk.2.2.2.2.2.2.2.2.2.2.2.2.2.2.2.2.2.2.2.2.2.2.2.2.2.2.2.2.2.2.2.2.2.2.2.2.2.2.2.2.2.2.2.2.2.1
@[irreducible] noncomputable def nb : Nat := pk.2.2.2.2.2.2.2.2.2.2.2.2.2.2.2.2.2.2.2.2.2.2.2.2.2.2.2.2.2.2.2.2.2.2.2.2.2.2.2.2.2.2.2.2.2.2.1
@[irreducible] noncomputable def nc : Nat := pk.2.2.2.2.2.2.2.2.2.2.2.2.2.2.2.2.2.2.2.2.2.2.2.2.2.2.2.2.2.2.2.2.2.2.2.2.2.2.2.2.2.2.2.2.2.2.2.1
@[irreducible] noncomputable def ns : Nat := pk.2.2.2.2.2.2.2.2.2.2.2.2.2.2.2.2.2.2.2.2.2.2.2.2.2.2.2.2.2.2.2.2.2.2.2.2.2.2.2.2.2.2.2.2.2.2.2.2.1
@[irreducible] noncomputable def jJ : Nat := pk.2.2.2.2.2.2.2.2.2.2.2.2.2.2.2.2.2.2.2.2.2.2.2.2.2.2.2.2.2.2.2.2.2.2.2.2.2.2.2.2.2.2.2.2.2.2.2.2.2.1
@[irreducible] noncomputable def gl : List Value := pk.2.2.2.2.2.2.2.2.2.2.2.2.2.2.2.2.2.2.2.2.2.2.2.2.2.2.2.2.2.2.2.2.2.2.2.2.2.2.2.2.2.2.2.2.2.2.2.2.2.2.1
@[irreducible] noncomputable def rest : List (Addr × Obj) := pk.2.2.2.2.2.2.2.2.2.2.2.2.2.2.2.2.2.2.2.2.2.2.2.2.2.2.2.2.2.2.2.2.2.2.2.2.2.2.2.2.2.2.2.2.2.2.2.2.2.2.2.1
@[irreducible] noncomputable def a1 : Int := pk.2.2.2.2.2.2.2.2.2.2.2.2.2.2.2.2.2.2.2.2.2.2.2.2.2.2.2.2.2.2.2.2.2.2.2.2.2.2.2.2.2.2.2.2.2.2.2.2.2.2.2.2.1
@[irreducible] noncomputable def a2 : Int := pk.2.2.2.2.2.2.2.2.2.2.2.2.2.2.2.2.2.2.2.2.2.2.2.2.2.2.2.2.2.2.2.2.2.2.2.2.2.2.2.2.2.2.2.2.2.2.2.2.2.2.2.2.2.1
@[irreducible] noncomputable def a3 : Int := pk.2.2.2.2.2.2.2.2.2.2.2.2.2.2.2.2.2.2.2.2.2.2.2.2.2.2.2.2.2.2.2.2.2.2.2.2.2.2.2.2.2.2.2.2.2.2.2.2.2.2.2.2.2.2.1
@[irreducible] noncomputable def a4 : Int := pk.2.2.2.2.2.2.2.2.2.2.2.2.2.2.2.2.2.2.2.2.2.2.2.2.2.2.2.2.2.2.2.2.2.2.2.2.2.2.2.2.2.2.2.2.2.2.2.2.2.2.2.2.2.2.2.1
@[irreducible] noncomputable def a5 : Int := pk.2.2.2.2.2.2.2.2.2.2.2.2.2.2.2.2.2.2.2.2.2.2.2.2.2.2.2.2.2.2.2.2.2.2.2.2.2.2.2.2.2.2.2.2.2.2.2.2.2.2.2.2.2.2.2.2.1
@[irreducible] noncomputable def ha1 : Tok := pk.2.2.2.2.2.2.2.2.2.2.2.2.2.2.2.2.2.2.2.2.2.2.2.2.2.2.2.2.2.2.2.2.2.2.2.2.2.2.2.2.2.2.2.2.2.2.2.2.2.2.2.2.2.2.2.2.2.1
@[irreducible] noncomputable def ha2 : Tok := pk.2.2.2.2.2.2.2.2.2.2.2.2.2.2.2.2.2.2.2.2.2.2.2.2.2.2.2.2.2.2.2.2.2.2.2.2.2.2.2.2.2.2.2.2.2.2.2.2.2.2.2.2.2.2.2.2.2.2.1
@[irreducible] noncomputable def ha3 : Tok := pk.2.2.2.2.2.2.2.2.2.2.2.2.2.2.2.2.2.2.2.2.2.2.2.2.2.2.2.2.2.2.2.2.2.2.2.2.2.2.2.2.2.2.2.2.2.2.2.2.2.2.2.2.2.2.2.2.2.2.2.1
@[irreducible] noncomputable def ha4 : Tok := pk.2.2.2.2.2.2.2.2.2.2.2.2.2.2.2.2.2.2.2.2.2.2.2.2.2.2.2.2.2.2.2.2.2.2.2.2.2.2.2.2.2.2.2.2.2.2.2.2.2.2.2.2.2.2.2.2.2.2.2.2.1
@[irreducible] noncomputable def ha5 : Tok := pk.2.2.2.2.2.2.2.2.2.2.2.2.2.2.2.2.2.2.2.2.2.2.2.2.2.2.2.2.2.2.2.2.2.2.2.2.2.2.2.2.2.2.2.2.2.2.2.2.2.2.2.2.2.2.2.2.2.2.2.2.2.1
@[irreducible] noncomputable def b1 : Int := pk.2.2.2.2.2.2.2.2.2.2.2.2.2.2.2.2.2.2.2.2.2.2.2.2.2.2.2.2.2.2.2.2.2.2.2.2.2.2.2.2.2.2.2.2.2.2.2.2.2.2.2.2.2.2.2.2.2.2.2.2.2.2.1
@[irreducible] noncomputable def b2 : Int := pk.2.2.2.2.2.2.2.2.2.2.2.2.2.2.2.2.2.2.2.2.2.2.2.2.2.2.2.2.2.2.2.2.2.2.2.2.2.2.2.2.2.2.2.2.2.2.2.2.2.2.2.2.2.2.2.2.2.2.2.2.2.2.2.1
@[irreducible] noncomputable def b3 : Int := pk.2.2.2.2.2.2.2.2.2.2.2.2.2.2.2.2.2.2.2.2.2.2.2.2.2.2.2.2.2.2.2.2.2.2.2.2.2.2.2.2.2.2.2.2.2.2.2.2.2.2.2.2.2.2.2.2.2.2.2.2.2.2.2.2.1
@[irreducible] noncomputable def b4 : Int := pk.2.2.2.2.2.2.2.2.2.2.2.2.2.2.2.2.2.2.2.2.2.2.2.2.2.2.2.2.2.2.2.2.2.2.2.2.2.2.2.2.2.2.2.2.2.2.2.2.2.2.2.2.2.2.2.2.2.2.2.2.2.2.2.2.2.1
@[irreducible] noncomputable def b5 : Int := pk.2.2.2.2.2.2.2.2.2.2.2.2.2.2.2.2.2.2.2.2.2.2.2.2.2.2.2.2.2.2.2.2.2.2.2.2.2.2.2.2.2.2.2.2.2.2.2.2.2.2.2.2.2.2.2.2.2.2.2.2.2.2.2.2.2.2.1
@[irreducible] noncomputable def hb1 : Tok := pk.2.2.2.2.2.2.2.2.2.2.2.2.2.2.2.2.2.2.2.2.2.2.2.2.2.2.2.2.2.2.2.2.2.2.2.2.2.2.2.2.2.2.2.2.2.2.2.2.2.2.2.2.2.2.2.2.2.2.2.2.2.2.2.2.2.2.2.1
@[irreducible] noncomputable def hb2 : Tok := pk.2.2.2.2.2.2.2.2.2.2.2.2.2.2.2.2.2.2.2.2.2.2.2.2.2.2.2.2.2.2.2.2.2.2.2.2.2.2.2.2.2.2.2.2.2.2.2.2.2.2.2.2.2.2.2.2.2.2.2.2.2.2.2.2.2.2.2.2.1
@[irreducible] noncomputable def hb3 : Tok := pk.2.2.2.2.2.2.2.2.2.2.2.2.2.2.2.2.2.2.2.2.2.2.2.2.2.2.2.2.2.2.2.2.2.2.2.2.2.2.2.2.2.2.2.2.2.2.2.2.2.2.2.2.2.2.2.2.2.2.2.2.2.2.2.2.2.2.2.2.2.1
@[irreducible] noncomputable def hb4 : Tok := pk.2.2.2.2.2.2.2.2.2.2.2.2.2.2.2.2.2.2.2.2.2.2.2.2.2.2.2.2.2.2.2.2.2.2.2.2.2.2.2.2.2.2.2.2.2.2.2.2.2.2.2.2.2.2.2.2.2.2.2.2.2.2.2.2.2.2.2.2.2.2.1
@[irreducible] noncomputable def hb5 : Tok := pk.2.2.2.2.2.2.2.2.2.2.2.2.2.2.2.2.2.2.2.2.2.2.2.2.2.2.2.2.2.2.2.2.2.2.2.2.2.2.2.2.2.2.2.2.2.2.2.2.2.2.2.2.2.2.2.2.2.2.2.2.2.2.2.2.2.2.2.2.2.2.2.1
@[irreducible] noncomputable def c1 : Int := pk.2.2.2.2.2.2.2.2.2.2.2.2.2.2.2.2.2.2.2.2.2.2.2.2.2.2.2.2.2.2.2.2.2.2.2.2.2.2.2.2.2.2.2.2.2.2.2.2.2.2.2.2.2.2.2.2.2.2.2.2.2.2.2.2.2.2.2.2.2.2.2.2.1
@[irreducible] noncomputable def c2 : Int := pk.2.2.2.2.2.2.2.2.2.2.2.2.2.2.2.2.2.2.2.2.2.2.2.2.2.2.2.2.2.2.2.2.2.2.2.2.2.2.2.2.2.2.2.2.2.2.2.2.2.2.2.2.2.2.2.2.2.2.2.2.2.2.2.2.2.2.2.2.2.2.2.2.2.1
@[irreducible] noncomputable def c3 : Int := pk.2.2.2.2.2.2.2.2.2.2.2.2.2.2.2.2.2.2.2.2.2.2.2.2.2.2.2.2.2.2.2.2.2.2.2.2.2.2.2.2.2.2.2.2.2.2.2.2.2.2.2.2.2.2.2.2.2.2.2.2.2.2.2.2.2.2.2.2.2.2.2.2.2.2.1
@[irreducible] noncomputable def c4 : Int := pk.2.2.2.2.2.2.2.2.2.2.2.2.2.2.2.2.2.2.2.2.2.2.2.2.2.2.2.2.2.2.2.2.2.2.2.2.2.2.2.2.2.2.2.2.2.2.2.2.2.2.2.2.2.2.2.2.2.2.2.2.2.2.2.2.2.2.2.2.2.2.2.2.2.2.2.1
@[irreducible] noncomputable def c5 : Int := pk.2.2.2.2.2.2.2.2.2.2.2.2.2.2.2.2.2.2.2.2.2.2.2.2.2.2.2.2.2.2.2.2.2.2.2.2.2.2.2.2.2.2.2.2.2.2.2.2.2.2.2.2.2.2.2.2.2.2.2.2.2.2.2.2.2.2.2.2.2.2.2.2.2.2.2.2.1
@[irreducible] noncomputable def hc1 : Tok := pk.2.2.2.2.2.2.2.2.2.2.2.2.2.2.2.2.2.2.2.2.2.2.2.2.2.2.2.2.2.2.2.2.2.2.2.2.2.2.2.2.2.2.2.2.2.2.2.2.2.2.2.2.2.2.2.2.2.2.2.2.2.2.2.2.2.2.2.2.2.2.2.2.2.2.2.2.2.1
@[irreducible] noncomputable def hc2 : Tok := pk.2.2.2.2.2.2.2.2.2.2.2.2.2.2.2.2.2.2.2.2.2.2.2.2.2.2.2.2.2.2.2.2.2.2.2.2.2.2.2.2.2.2.2.2.2.2.2.2.2.2.2.2.2.2.2.2.2.2.2.2.2.2.2.2.2.2.2.2.2.2.2.2.2.2.2.2.2.2.1
@[irreducible] noncomputable def hc3 : Tok := pk.2.2.2.2.2.2.2.2.2.2.2.2.2.2.2.2.2.2.2.2.2.2.2.2.2.2.2.2.2.2.2.2.2.2.2.2.2.2.2.2.2.2.2.2.2.2.2.2.2.2.2.2.2.2.2.2.2.2.2.2.2.2.2.2.2.2.2.2.2.2.2.2.2.2.2.2.2.2.2.1
@[irreducible] noncomputable def hc4 : Tok := pk.2.2.2.2.2.2.2.2.2.2.2.2.2.2.2.2.2.2.2.2.2.2.2.2.2.2.2.2.2.2.2.2.2.2.2.2.2.2.2.2.2.2.2.2.2.2.2.2.2.2.2.2.2.2.2.2.2.2.2.2.2.2.2.2.2.2.2.2.2.2.2.2.2.2.2.2.2.2.2.2.1
@[irreducible] noncomputable def hc5 : Tok := pk.2.2.2.2.2.2.2.2.2.2.2.2.2.2.2.2.2.2.2.2.2.2.2.2.2.2.2.2.2.2.2.2.2.2.2.2.2.2.2.2.2.2.2.2.2.2.2.2.2.2.2.2.2.2.2.2.2.2.2.2.2.2.2.2.2.2.2.2.2.2.2.2.2.2.2.2.2.2.2.2.2.1
@[irreducible] noncomputable def v1 : Int := pk.2.2.2.2.2.2.2.2.2.2.2.2.2.2.2.2.2.2.2.2.2.2.2.2.2.2.2.2.2.2.2.2.2.2.2.2.2.2.2.2.2.2.2.2.2.2.2.2.2.2.2.2.2.2.2.2.2.2.2.2.2.2.2.2.2.2.2.2.2.2.2.2.2.2.2.2.2.2.2.2.2.2.1
@[irreducible] noncomputable def v2 : Int := pk.2.2.2.2.2.2.2.2.2.2.2.2.2.2.2.2.2.2.2.2.2.2.2.2.2.2.2.2.2.2.2.2.2.2.2.2.2.2.2.2.2.2.2.2.2.2.2.2.2.2.2.2.2.2.2.2.2.2.2.2.2.2.2.2.2.2.2.2.2.2.2.2.2.2.2.2.2.2.2.2.2.2.2.1
@[irreducible] noncomputable def v3 : Int := pk.2.2.2.2.2.2.2.2.2.2.2.2.2.2.2.2.2.2.2.2.2.2.2.2.2.2.2.2.2.2.2.2.2.2.2.2.2.2.2.2.2.2.2.2.2.2.2.2.2.2.2.2.2.2.2.2.2.2.2.2.2.2.2.2.2.2.2.2.2.2.2.2.2.2.2.2.2.2.2.2.2.2.2.2.1
@[irreducible] noncomputable def v4 : Int := pk.2.2.2.2.2.2.2.2.2.2.2.2.2.2.2.2.2.2.2.2.2.2.2.2.2.2.2.2.2.2.2.2.2.2.2.2.2.2.2.2.2.2.2.2.2.2.2.2.2.2.2.2.2.2.2.2.2.2.2.2.2.2.2.2.2.2.2.2.2.2.2.2.2.2.2.2.2.2.2.2.2.2.2.2.2.1
@[irreducible] noncomputable def v5 : Int := pk.2.2.2.2.2.2.2.2.2.2.2.2.2.2.2.2.2.2.2.2.2.2.2.2.2.2.2.2.2.2.2.2.2.2.2.2.2.2.2.2.2.2.2.2.2.2.2.2.2.2.2.2.2.2.2.2.2.2.2.2.2.2.2.2.2.2.2.2.2.2.2.2.2.2.2.2.2.2.2.2.2.2.2.2.2.2.1
@[irreducible] noncomputable def y1 : Tok := pk.2.2.2.2.2.2.2.2.2.2.2.2.2.2.2.2.2.2.2.2.2.2.2.2.2.2.2.2.2.2.2.2.2.2.2.2.2.2.2.2.2.2.2.2.2.2.2.2.2.2.2.2.2.2.2.2.2.2.2.2.2.2.2.2.2.2.2.2.2.2.2.2.2.2.2.2.2.2.2.2.2.2.2.2.2.2.2.1
@[irreducible] noncomputable def y2 : Tok := pk.2.2.2.2.2.2.2.2.2.2.2.2.2.2.2.2.2.2.2.2.2.2.2.2.2.2.2.2.2.2.2.2.2.2.2.2.2.2.2.2.2.2.2.2.2.2.2.2.2.2.2.2.2.2.2.2.2.2.2.2.2.2.2.2.2.2.2.2.2.2.2.2.2.2.2.2.2.2.2.2.2.2.2.2.2.2.2.2.1
@[irreducible] noncomputable def y3 : Tok := pk.2.2.2.2.2.2.2.2.2.2.2.2.2.2.2.2.2.2.2.2.2.2.2.2.2.2.2.2.2.2.2.2.2.2.2.2.2.2.2.2.2.2.2.2.2.2.2.2.2.2.2.2.2.2.2.2.2.2.2.2.2.2.2.2.2.2.2.2.2.2.2.2.2.2.2.2.2.2.2.2.2.2.2.2.2.2.2.2.2.1
@[irreducible] noncomputable def y4 : Tok := pk.2.2.2.2.2.2.2.2.2.2.2.2.2.2.2.2.2.2.2.2.2.2.2.2.2.2.2.2.2.2.2.2.2.2.2.2.2.2.2.2.2.2.2.2.2.2.2.2.2.2.2.2.2.2.2.2.2.2.2.2.2.2.2.2.2.2.2.2.2.2.2.2.2.2.2.2.2.2.2.2.2.2.2.2.2.2.2.2.2.2.1
@[irreducible] noncomputable def y5 : Tok := pk.2.2.2.2.2.2.2.2.2.2.2.2.2.2.2.2.2.2.2.2.2.2.2.2.2.2.2.2.2.2.2.2.2.2.2.2.2.2.2.2.2.2.2.2.2.2.2.2.2.2.2.2.2.2.2.2.2.2.2.2.2.2.2.2.2.2.2.2.2.2.2.2.2.2.2.2.2.2.2.2.2.2.2.2.2.2.2.2.2.2.2.1
@[irreducible] noncomputable def i1 : Int := pk.2.2.2.2.2.2.2.2.2.2.2.2.2.2.2.2.2.2.2.2.2.2.2.2.2.2.2.2.2.2.2.2.2.2.2.2.2.2.2.2.2.2.2.2.2.2.2.2.2.2.2.2.2.2.2.2.2.2.2.2.2.2.2.2.2.2.2.2.2.2.2.2.2.2.2.2.2.2.2.2.2.2.2.2.2.2.2.2.2.2.2.2.1
@[irreducible] noncomputable def i2 : Int := pk.2.2.2.2.2.2.2.2.2.2.2.2.2.2.2.2.2.2.2.2.2.2.2.2.2.2.2.2.2.2.2.2.2.2.2.2.2.2.2.2.2.2.2.2.2.2.2.2.2.2.2.2.2.2.2.2.2.2.2.2.2.2.2.2.2.2.2.2.2.2.2.2.2.2.2.2.2.2.2.2.2.2.2.2.2.2.2.2.2.2.2.2.2.1
@[irreducible] noncomputable def i3 : Int := pk.2.2.2.2.2.2.2.2.2.2.2.2.2.2.2.2.2.2.2.2.2.2.2.2.2.2.2.2.2.2.2.2.2.2.2.2.2.2.2.2.2.2.2.2.2.2.2.2.2.2.2.2.2.2.2.2.2.2.2.2.2.2.2.2.2.2.2.2.2.2.2.2.2.2.2.2.2.2.2.2.2.2.2.2.2.2.2.2.2.2.2.2.2.2.1
@[irreducible] noncomputable def i4 : Int := pk.2.2.2.2.2.2.2.2.2.2.2.2.2.2.2.2.2.2.2.2.2.2.2.2.2.2.2.2.2.2.2.2.2.2.2.2.2.2.2.2.2.2.2.2.2.2.2.2.2.2.2.2.2.2.2.2.2.2.2.2.2.2.2.2.2.2.2.2.2.2.2.2.2.2.2.2.2.2.2.2.2.2.2.2.2.2.2.2.2.2.2.2.2.2.2.1
@[irreducible] noncomputable def i5 : Int := pk.2.2.2.2.2.2.2.2.2.2.2.2.2.2.2.2.2.2.2.2.2.2.2.2.2.2.2.2.2.2.2.2.2.2.2.2.2.2.2.2.2.2.2.2.2.2.2.2.2.2.2.2.2.2.2.2.2.2.2.2.2.2.2.2.2.2.2.2.2.2.2.2.2.2.2.2.2.2.2.2.2.2.2.2.2.2.2.2.2.2.2.2.2.2.2.2.1
@[irreducible] noncomputable def z1 : Tok := pk.2.2.2.2.2.2.2.2.2.2.2.2.2.2.2.2.2.2.2.2.2.2.2.2.2.2.2.2.2.2.2.2.2.2.2.2.2.2.2.2.2.2.2.2.2.2.2.2.2.2.2.2.2.2.2.2.2.2.2.2.2.2.2.2.2.2.2.2.2.2.2.2.2.2.2.2.2.2.2.2.2.2.2.2.2.2.2.2.2.2.2.2.2.2.2.2.2.1
@[irreducible] noncomputable def z2 : Tok := pk.2.2.2.2.2.2.2.2.2.2.2.2.2.2.2.2.2.2.2.2.2.2.2.2.2.2.2.2.2.2.2.2.2.2.2.2.2.2.2.2.2.2.2.2.2.2.2.2.2.2.2.2.2.2.2.2.2.2.2.2.2.2.2.2.2.2.2.2.2.2.2.2.2.2.2.2.2.2.2.2.2.2.2.2.2.2.2.2.2.2.2.2.2.2.2.2.2.2.1
@[irreducible] noncomputable def z3 : Tok := pk.2.2.2.2.2.2.2.2.2.2.2.2.2.2.2.2.2.2.2.2.2.2.2.2.2.2.2.2.2.2.2.2.2.2.2.2.2.2.2.2.2.2.2.2.2.2.2.2.2.2.2.2.2.2.2.2.2.2.2.2.2.2.2.2.2.2.2.2.2.2.2.2.2.2.2.2.2.2.2.2.2.2.2.2.2.2.2.2.2.2.2.2.2.2.2.2.2.2.2.1
@[irreducible] noncomputable def z4 : Tok := pk.2.2.2.2.2.2.2.2.2.2.2.2.2.2.2.2.2.2.2.2.2.2.2.2.2.2.2.2.2.2.2.2.2.2.2.2.2.2.2.2.2.2.2.2.2.2.2.2.2.2.2.2.2.2.2.2.2.2.2.2.2.2.2.2.2.2.2.2.2.2.2.2.2.2.2.2.2.2.2.2.2.2.2.2.2.2.2.2.2.2.2.2.2.2.2.2.2.2.2.2.1
@[irreducible] noncomputable def z5 : Tok := pk.2.2.2.2.2.2.2.2.2.2.2.2.2.2.2.2.2.2.2.2.2.2.2.2.2.2.2.2.2.2.2.2.2.2.2.2.2.2.2.2.2.2.2.2.2.2.2.2.2.2.2.2.2.2.2.2.2.2.2.2.2.2.2.2.2.2.2.2.2.2.2.2.2.2.2.2.2.2.2.2.2.2.2.2.2.2.2.2.2.2.2.2.2.2.2.2.2.2.2.2.2
theorem core : Pr w p loose mean mg mb fa cd h₀ L m s Q Bk d Ah G ea eb ec S J Wa Wb Wc Wd F' R' ka kb kc od o2 o3 o5 o9 u0 u1 u2 u3 t1 t2 t3 jh jG na nb nc ns jJ gl rest a1 a2 a3 a4 a5 ha1 ha2 ha3 ha4 ha5 b1 b2 b3 b4 b5 hb1 hb2 hb3 hb4 hb5 c1 c2 c3 c4 c5 hc1 hc2 hc3 hc4 hc5 v1 v2 v3 v4 v5 y1 y2 y3 y4 y5 i1 i2 i3 i4 i5 z1 z2 z3 z4 z5 := by
  intro hds hsm hd2 hd3 hd5 hd9 hka hkb hkc hga hgb hgc hA hB hC hFR B F X T N hQ
  w_top off
  k_with_none
  k_with "subscriptTail Name Constant ref int" => (k_here; (with_reducible show wpAny _ _ (subscriptTail _ _ (Value.ref _) (Value.int _ _)) _ _ _); (with_unfolding_all refine' item_litK ?k1x197 ?k2x197 ?k3x197 ?k4x197 ?_ ?k6x197; (case k1x197 => exact News.isList (by k_asm) (by ((with_reducible (repeat (first | exact List.mem_cons_self | exact mem_led (by with_reducible assumption) | refine List.mem_cons_of_mem _ ?_ | refine mem_led_sub (by with_reducible assumption) ?_))); (first | done | with_reducible assumption)))); (case k2x197 => decide); (case k3x197 => decide); (case k4x197 => rfl); (case k6x197 => with_unfolding_all rfl); k_whole))
  k_with "subscriptTail Name Name ref int" => (k_here; (with_reducible show wpAny _ _ (subscriptTail _ _ (Value.ref _) (Value.int _ _)) _ _ _); (with_unfolding_all refine' item_litK ?k1x198 ?k2x198 ?k3x198 ?k4x198 ?_ ?k6x198; (case k1x198 => exact News.isList (by k_asm) (by ((with_reducible (repeat (first | exact List.mem_cons_self | exact mem_led (by with_reducible assumption) | refine List.mem_cons_of_mem _ ?_ | refine mem_led_sub (by with_reducible assumption) ?_))); (first | done | with_reducible assumption)))); (case k2x198 => decide); (case k3x198 => decide); (case k4x198 => rfl); (case k6x198 => with_unfolding_all rfl); k_whole))
  k_with "eval ListComp" => (k_here; k_dflt (first
    | refine comp_exprNH (by k_asm) (by with_unfolding_all rfl) (by rfl) (by decide) (fun _ => by rfl) (fun _ => by rfl) ?_
    | refine comp_exprXH (by k_asm) (by with_unfolding_all rfl) (by rfl) (by decide) (fun _ => by rfl) (fun _ => by rfl) ?_); intro Fin9'ₓ hFin9'ₓ)
  k_with "exec Assign cons ListComp" => (k_here; k_dflt (refine comp_assignNH (by k_asm) (by rfl) (by with_unfolding_all rfl) (by with_unfolding_all rfl) (by rfl) (by decide) (fun _ => by rfl) (fun _ => by rfl) (by rfl) (by rfl) ?_); intro Fin9'ₓ hFin9'ₓ)
  k_with "CSrc" => (k_here; k_dflt (first
    | (refine csrc_listNH rfl (by k_asm) (by k_asm) (by is_list) (by first | size_fits | exact Nat.le_of_ble_eq_true rfl) (by rfl) (by rfl) ?_; intro g1'ₓ g2'ₓ nb'ₓ Fin8'ₓ hFin8'ₓ)
    | (refine csrc_listXH rfl (by k_asm) (by k_asm) (by is_list) (by first | size_fits | exact Nat.le_of_ble_eq_true rfl) (by rfl) (by rfl) (fun _ => by rfl) ?_; intro g1'ₓ g2'ₓ nb'ₓ Fin8'ₓ hFin8'ₓ)
    | (refine csrc_tupleNH rfl (by k_asm) (by k_asm) (News.isTup (by k_asm) (by ((with_reducible (repeat (first | exact List.mem_cons_self | exact mem_led (by with_reducible assumption) | refine List.mem_cons_of_mem _ ?_ | refine mem_led_sub (by with_reducible assumption) ?_))); (first | done | with_reducible assumption)))) (by first | size_fits | exact Nat.le_of_ble_eq_true rfl) (by rfl) (by rfl) ?_; intro g1'ₓ g2'ₓ nb'ₓ Fin8'ₓ hFin8'ₓ)
    | (refine csrc_rangeNH rfl (by k_asm) (by k_asm) (by assumption) (by first | decide | rfl) (by first | rfl | decide) (by first | size_fits | exact Nat.le_of_ble_eq_true rfl) (by rfl) (by rfl) ?_; intro g1'ₓ g2'ₓ nb'ₓ Fin8'ₓ hFin8'ₓ)
    | (refine csrc_rangeXH rfl (by k_asm) (by k_asm) (by assumption) (by first | decide | rfl) (by first | rfl | decide) (by first | size_fits | exact Nat.le_of_ble_eq_true rfl) (by rfl) (by rfl) (fun _ => by rfl) ?_; intro g1'ₓ g2'ₓ nb'ₓ Fin8'ₓ hFin8'ₓ)); refine AllInC.both ?_; intro hsub'ₓ; (try dsimp only [AllInC]); intros; (try (refine AllInC.skip ?_)))
  k_with "call type:zip" => (k_here; (with_reducible show wpAny _ _ (PySem.call _ _) (CSrc _ _ _ _ _ _ _ _ _ _ _ _ _ _ _ _) _ _); k_dflt (refine csrc_zipH rfl (by k_asm) (by k_asm) (by is_list) (by is_list) (by first | size_fits | exact Nat.le_of_ble_eq_true rfl) (by rfl) (by rfl) (by decide) (by rfl) ?_; intro g1'ₓ g2'ₓ nb'ₓ Fin8'ₓ hFin8'ₓ); refine AllInC.both ?_; intro hsub'ₓ; (try dsimp only [AllInC]); intros; (try (refine AllInC.skip ?_)))
  k_with "call type:enumerate" => (k_here; (with_reducible show wpAny _ _ (PySem.call _ _) (CSrc _ _ _ _ _ _ _ _ _ _ _ _ _ _ _ _) _ _); k_dflt (refine csrc_enumH rfl (by k_asm) (by k_asm) (by is_list) (by first | size_fits | exact Nat.le_of_ble_eq_true rfl) (by rfl) (by rfl) (by decide) (by rfl) ?_; intro g1'ₓ g2'ₓ nb'ₓ Fin8'ₓ hFin8'ₓ); refine AllInC.both ?_; intro hsub'ₓ; (try dsimp only [AllInC]); intros; (try (refine AllInC.skip ?_)))
  k_with "RestL" => ((with_unfolding_all (first | refine RestL.l0 (by rfl) ?_ | refine RestL.lx0 (by rfl) ?_ | refine RestL.r0 ?_ | refine RestL.rx0 ?_ | refine RestL.z0 (by rfl) (by rfl) ?_ | refine RestL.e1 (by rfl) ?_)); intros)
  k_with "RestL" => (with_unfolding_all refine RestL.zero (by with_reducible assumption) (by with_reducible assumption) ?_)
  k_with "CFinE" => ((unfold CFinE); intro D'ₓ h'ₓ tk'ₓ l1'ₓ F'ₓ N'ₓ o1'ₓ; (try k_lt l1'ₓ); (try simp only [List.nil_append, List.cons_append, LCg.Off1, and_true] at o1'ₓ); (try simp only [snoc, List.nil_append, List.cons_append] at N'ₓ); (try dsimp only))
  k_with "CFinA" => ((unfold CFinA); intro D'ₓ h'ₓ tk'ₓ l1'ₓ F'ₓ N'ₓ o1'ₓ; (try k_lt l1'ₓ); (try simp only [List.nil_append, List.cons_append, LCg.Off1, and_true] at o1'ₓ); (try simp only [snoc, List.nil_append, List.cons_append] at N'ₓ); (try dsimp only))
  k_with "Hid" => ((with_reducible show Hid _ (Value.ref _) _); (first | (first | refine hid_fact (by with_reducible assumption) (by with_reducible assumption) ?_ | refine hid_fact3 (by with_reducible assumption) (by with_reducible assumption) ?_); intro hX9ₓ; simp only [AllLt, and_true] at hX9ₓ | skip); (refine turn1 (by with_reducible assumption) (by rfl) (by k_asm) (by first | k_asm | exact news_snd (by k_asm) | exact news_snd (news_snd (by k_asm)) | exact news_snd (news_snd (news_snd (by k_asm))) | exact news_snd (news_snd (news_snd (news_snd (by k_asm))))) (by first | assumption | exact And.right (α := _) (by assumption : AllLt _ (_ :: _)) | exact (And.right (And.right (by assumption : AllLt _ (_ :: _ :: _)))) | exact (And.right (And.right (And.right (by assumption : AllLt _ (_ :: _ :: _ :: _)))))) ?_))
  k_with "Hid" => ((with_reducible show Hid _ (Value.int _ _) _); (refine turn0 (by with_reducible assumption) (by rfl) (by k_asm) (by first | k_asm | exact news_tail (by k_asm) | exact news_tail (news_tail (by k_asm)) | exact news_tail (news_tail (news_tail (by k_asm))) | exact news_tail (news_tail (news_tail (news_tail (by k_asm)))) | exact news_tail (news_tail (news_tail (news_tail (news_tail (by k_asm))))) | exact news_tail (news_tail (news_tail (news_tail (news_tail (news_tail (by k_asm))))))) ?_))
  k_with "Hid" => ((with_reducible show Hid _ Value.none _); (refine turnF (by with_reducible assumption) (by rfl) (by k_asm) (by first | k_asm | exact news_tail (by k_asm) | exact news_tail (news_tail (by k_asm)) | exact news_tail (news_tail (news_tail (by k_asm))) | exact news_tail (news_tail (news_tail (news_tail (by k_asm)))) | exact news_tail (news_tail (news_tail (news_tail (news_tail (by k_asm))))) | exact news_tail (news_tail (news_tail (news_tail (news_tail (news_tail (by k_asm))))))) ?_))
  k_with "call builtin:max" => (k_here; (with_reducible show wpAny _ _ (PySem.call (Value.builtin _) [Value.ref _]) _ _ _); (with_unfolding_all refine' kso_max ?k1x211 ?k2x211 ?k3x211 ?k4x211 ?k5x211 ?k6x211 ?_; (case k1x211 => k_asm); (case k2x211 => k_asm); (case k3x211 => kso_list); (case k4x211 => l_ints); (case k5x211 => kso_len); (case k6x211 => with_unfolding_all rfl); k_whole); intro h'ₓ M'ₓ t'ₓ k'ₓ F'ₓ N'ₓ a'ₓ b'ₓ; (try kso_open a'ₓ); (try kso_open b'ₓ); (have kp'ₓ := keep2 a'ₓ b'ₓ); clear a'ₓ b'ₓ; (try k_sweep))
  k_with "exec Assign cons ListComp" => ((first
    | (with_reducible show wpAny _ _ (exec (Stmt.Assign [PySem.Expr.Name (Str.ofString "came") _] _ _) _) _ _ _)
    | (with_reducible show wpAny _ _ (exec (Stmt.Assign [PySem.Expr.Name (Str.ofString "services") _] _ _) _) _ _ _)
    | (with_reducible show wpAny _ _ (exec (Stmt.Assign [PySem.Expr.Name (Str.ofString "lines") _] _ _) _) _ _ _)
    | (with_reducible show wpAny _ _ (exec (Stmt.Assign [PySem.Expr.Name (Str.ofString "spare") _] _ _) _) _ _ _)
    | (with_reducible show wpAny _ _ (exec (Stmt.Assign [PySem.Expr.Name (Str.ofString "idles") _] _ _) _) _ _ _)
    | (with_reducible show wpAny _ _ (exec (Stmt.Assign [PySem.Expr.Name (Str.ofString "order") _] _ _) _) _ _ _)); k_dflt (refine wpAny_Assign_Name ?_))
  k_with "forall" => (intro D'ₓ h'ₓ tk'ₓ l1'ₓ F'ₓ N'ₓ o1'ₓ; (with_reducible have q9ₓ : LCg.Off1 _ _ := o1'ₓ); clear q9ₓ; (try k_lt l1'ₓ); (try simp only [snoc, List.nil_append, List.cons_append] at N'ₓ o1'ₓ); (try simp only [LCg.Off1, and_true] at o1'ₓ); (try dsimp only))
  k_with "call ref" => (k_here; (with_reducible show wpAny _ _ (PySem.call (Value.ref 77) _) _ _ _); k_dflt (refine' Does.use (count_any _ _ _ _ _ _ ?h1x214 ?h2x214 ?h3x214) ?k1x214 ?k2x214 ?k3x214 ?k4x214 ?k5x214 ?kKx214 ?kdx214 ?kux214 ?_; (case k1x214 => k_asm); (case k2x214 => k_asm); (case k3x214 => k_asm); (case k4x214 => k_asm); (case k5x214 => k_asm); (case kKx214 => first | exact rfl | assumption); (case kdx214 => ktr_room); (case kux214 => ktr_units); (case h1x214 => assumption); (case h2x214 => assumption); (case h3x214 => ((with_reducible (repeat (first | exact List.mem_cons_self | exact mem_led (by with_reducible assumption) | refine List.mem_cons_of_mem _ ?_ | refine mem_led_sub (by with_reducible assumption) ?_))); (first | done | with_reducible assumption))); intro r9ₓ tl9ₓ h9ₓ tk9ₓ F9ₓ N9ₓ l9ₓ p9ₓ; obtain ⟨e1ₓ, x9ₓ, k9ₓ, e2ₓ, e3ₓ⟩ := p9ₓ; subst e1ₓ; subst e2ₓ; clear l9ₓ; (try simp only [List.cons_append, List.nil_append] at N9ₓ); (try dsimp only); (try k_sweep)))
  k_with "subscriptTail Name Name ref int" => (k_here; (with_reducible show wpAny _ _ (subscriptTail _ _ (Value.ref _) (Value.int _ _)) _ _ _); k_dflt (refine' item_litK ?k1x215 ?k2x215 ?k3x215 ?k4x215 ?_ ?k6x215; (case k1x215 => exact News.isList (by k_asm) (by ((with_reducible (repeat (first | exact List.mem_cons_self | exact mem_led (by with_reducible assumption) | refine List.mem_cons_of_mem _ ?_ | refine mem_led_sub (by with_reducible assumption) ?_))); (first | done | with_reducible assumption)))); (case k4x215 => with_reducible assumption); (case k2x215 => omega); (case k3x215 => omega); (case k6x215 => with_unfolding_all rfl); k_whole))
  k_with "call builtin:sum" => (k_here; (with_reducible show wpAny _ _ (PySem.call (Value.builtin "sum") [Value.ref _]) _ _ _); k_dflt (refine' sumK ?k0x216 ?k1x216 ?k2x216 ?k3x216 ?k4x216 ?_; (case k0x216 => with_unfolding_all rfl); (case k1x216 => k_asm); (case k2x216 => k_asm); (case k3x216 => is_list); (case k4x216 => first | l_ints | l_intsW); k_whole); intro h'ₓ tk'ₓ t'ₓ F'ₓ N'ₓ; (try simp only [List.sum_cons, List.sum_nil]))
  k_with "eval Name" => (k_here; (with_reducible show wpAny _ _ (eval (PySem.Expr.Name _ _) (compEnvC _ _ _ _)) _ _ _); k_dflt (first
    | (refine' LCgL.ld_own ?Nx217 ?hmx217 ?hCx217 ?hxx217 ?_ ?hkx217 ?hlx217 ?hdx217; (case hlx217 => rfl); (case hkx217 => rfl); (case hdx217 => decide); (case Nx217 => k_asm); (case hmx217 => ((with_reducible (repeat (first | exact List.mem_cons_self | exact mem_led (by with_reducible assumption) | refine List.mem_cons_of_mem _ ?_ | refine mem_led_sub (by with_reducible assumption) ?_))); (first | done | with_reducible assumption))); (case hCx217 => with_reducible assumption); (case hxx217 => with_reducible assumption); k_whole)
    | (refine' kcf_cell ?Nx217 ?cx217 ?mx217 ?dx217 ?_ ?ax217 ?bx217 ?hdx217; (case bx217 => rfl); (case ax217 => rfl); (case hdx217 => decide); (case Nx217 => k_asm); (case cx217 => rfl); (case mx217 => ((with_reducible (repeat (first | exact List.mem_cons_self | exact mem_led (by with_reducible assumption) | refine List.mem_cons_of_mem _ ?_ | refine mem_led_sub (by with_reducible assumption) ?_))); (first | done | with_reducible assumption))); (case dx217 => k_asm); k_whole)
    | (refine' LCgL.ld_built ?Fx217 ?Xx217 ?Tx217 ?ex217 ?vx217 ?nx217 ?_ ?gx217 ?bx217 ?hkx217 ?hxx217 ?hdx217; (case hxx217 => rfl); (case hkx217 => rfl); (case gx217 => rfl); (case bx217 => rfl); (case hdx217 => decide); (case Fx217 => k_asm); (case Xx217 => k_asm); (case Tx217 => k_asm); (case ex217 => k_is); (case vx217 => boot_by_name); (case nx217 => decide); k_whole)))
  revert X
  k_fill
  intro X
  dsimp only [turnParts, lawScope, lawParts, List.drop]
  k_steps
  all_goals first
    | (exfalso; omega)
    | (exfalso; (rename ¬ (List.cons _ _ = _) => n9); exact n9 (by simp only [List.cons.injEq, and_true]; refine ⟨?_, ?_, ?_⟩ <;> omega))
    | ((rename Fr _ _ _ _ => F9); (rename News _ _ _ _ => N9); exact hQ _ _ _ F9 (news_add [_, _] N9 rfl))

theorem all (x : Pack) : PrX x := all_of_bad ne (by with_unfolding_all exact core) x
end ET3
theorem law_T3 (w : World) {p : Program} {loose : List Str} {mean : ExcName → Option Value} {mg mb : Str → Option Value} {fa : Addr} {cd : Value} {h₀ : Heap} {L : Addr} {m : Str → Option Value} {s : Shared} {Q : Flow → Shared → Prop}
    (Bk d Ah G ea eb ec S J : Addr) (Wa Wb Wc Wd F' R' ka kb kc : Int) (od o2 o3 o5 o9 : Obj) (u0 u1 u2 u3 t1 t2 t3 : Tok) (jh jG na nb nc ns jJ : Nat) (gl : List Value) (rest : List (Addr × Obj)) (a1 a2 a3 a4 a5 : Int) (ha1 ha2 ha3 ha4 ha5 : Tok) (b1 b2 b3 b4 b5 : Int) (hb1 hb2 hb3 hb4 hb5 : Tok) (c1 c2 c3 c4 c5 : Int) (hc1 hc2 hc3 hc4 hc5 : Tok) (v1 v2 v3 v4 v5 : Int) (y1 y2 y3 y4 y5 : Tok) (i1 i2 i3 i4 i5 : Int) (z1 z2 z3 z4 z5 : Tok) (hds : DS w od F' R') (hsm : (d == sysModules) = false) (hd2 : o2.data = .cell (some (.ref S))) (hd3 : o3.data = .cell (some (.ref G))) (hd5 : o5.data = .cell (some (.ref J))) (hd9 : o9.data = .cell (some (.ref Ah)))
    (hka : 0 ≤ ka ∧ ka ≤ 7) (hkb : 0 ≤ kb ∧ kb ≤ 7) (hkc : 0 ≤ kc ∧ kc ≤ 7) (hga : gl[ka.toNat]? = some (.ref ea)) (hgb : gl[kb.toNat]? = some (.ref eb)) (hgc : gl[kc.toNat]? = some (.ref ec))
    (hA : Wa = a1 + a2 + a3 + a4 + a5) (hB : Wa + Wb = b1 + b2 + b3 + b4 + b5) (hC : Wa + Wb + Wc = c1 + c2 + c3 + c4 + c5) (hFR : F' + R' = v1 + v2 + v3 + v4 + v5 - i5)
    (B : Below callerA h₀ [] h₀) (F : Fr h₀ L s.heap (fun y => if y = Str.ofString "book" then some (.ref Bk) else m y)) (X : (hd.heap_1 w.params).In h₀) (T : Top p loose mean mg mb h₀) (N : News h₀ L s.heap ((Bk, tup #[.int Wa u0, .int Wb u1, .int Wc u2, .int Wd u3, .ref d]) :: (d, od) :: (Ah, W.listOf #[.int ka t1, .int kb t2, .int kc t3] jh) :: (G, W.listOf gl.toArray jG) :: (ea, W.listOf #[.int a1 ha1, .int a2 ha2, .int a3 ha3, .int a4 ha4, .int a5 ha5] na) :: (eb, W.listOf #[.int b1 hb1, .int b2 hb2, .int b3 hb3, .int b4 hb4, .int b5 hb5] nb) :: (ec, W.listOf #[.int c1 hc1, .int c2 hc2, .int c3 hc3, .int c4 hc4, .int c5 hc5] nc) :: (S, W.listOf #[.int v1 y1, .int v2 y2, .int v3 y3, .int v4 y4, .int v5 y5] ns) :: (J, W.listOf #[.int i1 z1, .int i2 z2, .int i3 z3, .int i4 z4, .int i5 z5] jJ) :: (L + 1 + 1, o2) :: (L + 1 + 1 + 1, o3) :: (L + 1 + 1 + 1 + 1 + 1, o5) :: (L + 1 + 1 + 1 + 1 + 1 + 1 + 1 + 1 + 1, o9) :: rest))
    (hQ : ∀ h' tk' m', Fr h₀ L h' m' → News h₀ L h' ((Bk, tup #[.int Wa u0, .int Wb u1, .int Wc u2, .int Wd u3, .ref d]) :: (d, od) :: (Ah, W.listOf #[.int ka t1, .int kb t2, .int kc t3] jh) :: (G, W.listOf gl.toArray jG) :: (ea, W.listOf #[.int a1 ha1, .int a2 ha2, .int a3 ha3, .int a4 ha4, .int a5 ha5] na) :: (eb, W.listOf #[.int b1 hb1, .int b2 hb2, .int b3 hb3, .int b4 hb4, .int b5 hb5] nb) :: (ec, W.listOf #[.int c1 hc1, .int c2 hc2, .int c3 hc3, .int c4 hc4, .int c5 hc5] nc) :: (S, W.listOf #[.int v1 y1, .int v2 y2, .int v3 y3, .int v4 y4, .int v5 y5] ns) :: (J, W.listOf #[.int i1 z1, .int i2 z2, .int i3 z3, .int i4 z4, .int i5 z5] jJ) :: (L + 1 + 1, o2) :: (L + 1 + 1 + 1, o3) :: (L + 1 + 1 + 1 + 1 + 1, o5) :: (L + 1 + 1 + 1 + 1 + 1 + 1 + 1 + 1 + 1, o9) :: rest) → Q .next { s with heap := h', toks := tk' }) : wpAny (model Challenge.rw_wo0027_01.row.prog w) (callerA.deeper (envOfC (Str.ofString "law") lawScope L fa cd)) (execs (turnParts.1.drop 6) (envOfC (Str.ofString "law") lawScope L fa cd)) Q (fun _ _ => False) s :=
  ET3.all (w, p, loose, mean, mg, mb, fa, cd, h₀, L, m, s, Q, Bk, d, Ah, G, ea, eb, ec, S, J, Wa, Wb, Wc, Wd, F', R', ka, kb, kc, od, o2, o3, o5, o9, u0, u1, u2, u3, t1, t2, t3, jh, jG, na, nb, nc, ns, jJ, gl, rest, a1, a2, a3, a4, a5, ha1, ha2, ha3, ha4, ha5, b1, b2, b3, b4, b5, hb1, hb2, hb3, hb4, hb5, c1, c2, c3, c4, c5, hc1, hc2, hc3, hc4, hc5, v1, v2, v3, v4, v5, y1, y2, y3, y4, y5, i1, i2, i3, i4, i5, z1, z2, z3, z4, z5) hds hsm hd2 hd3 hd5 hd9 hka hkb hkc hga hgb hgc hA hB hC hFR B F X T N hQ
end Mine
end
section
open PySem PySem.W PySem.Calls PyProof.Rows
set_option Elab.async false
set_option maxRecDepth 100000
set_option maxHeartbeats 8000000
set_option pp.deepTerms false
set_option pp.deepTerms.threshold 4
set_option pp.maxSteps 6000
namespace Mine

theorem rows_of {rl : List RowE} {x1 x2 x3 x4 x5 : Int × Int × Int × Int} (h : rl.map RowE.vals = [x1, x2, x3, x4, x5]) :
    ∃ r1 r2 r3 r4 r5, rl = [r1, r2, r3, r4, r5] ∧ r1.vals = x1 ∧ r2.vals = x2 ∧ r3.vals = x3 ∧ r4.vals = x4 ∧ r5.vals = x5 := by
  match rl, h with
  | [r1, r2, r3, r4, r5], h =>
    simp only [List.map_cons, List.map_nil, List.cons.injEq, and_true] at h
    exact ⟨r1, r2, r3, r4, r5, rfl, h⟩
  | [], h => simp at h
  | [_], h => simp at h
  | [_, _], h => simp at h
  | [_, _, _], h => simp at h
  | [_, _, _, _], h => simp at h
  | _ :: _ :: _ :: _ :: _ :: _ :: _, h => simp at h
theorem ent_of {r : RowE} {a b c d : Int} (h : r.vals = (a, b, c, d)) : r.ent = (r.at_, W.listOf #[.int a r.w0, .int b r.w1, .int c r.w2, .int d r.w3] r.k) := by
  obtain ⟨x, a', b', c', d', w0, w1, w2, w3, k⟩ := r
  simp only [RowE.vals, Prod.mk.injEq] at h
  obtain ⟨rfl, rfl, rfl, rfl⟩ := h
  rfl

/-- what _law_run gives back, beside its ledger -/
inductive RLP (w : World) (ga1 ga2 ga3 ga4 ga5 gb1 gb2 gb3 gb4 gb5 gc1 gc2 gc3 gc4 gc5 gi1 gi2 gi3 gi4 gi5 V : Int) : Value → List (Addr × Obj) → Prop
  | mk (R T d Sn : Addr) (od : Obj) (arrn : Nat) (A B C D F G : Int) (w0 w1 w2 w3 : Tok) (ρ1 ρ2 ρ3 ρ4 ρ5 : Addr) (α1 β1 γ1 δ1 α2 β2 γ2 δ2 α3 β3 γ3 δ3 α4 β4 γ4 δ4 α5 β5 γ5 δ5 : Tok) (κ1 κ2 κ3 κ4 κ5 : Nat) (h1 : DS w od F G) (h2 : (d == sysModules) = false) (h3 : A = ga1 + ga2 + ga3 + ga4 + ga5) (h4 : A + B = gb1 + gb2 + gb3 + gb4 + gb5) (h5 : A + B + C = gc1 + gc2 + gc3 + gc4 + gc5) (h6 : F + G = V) :
    RLP w ga1 ga2 ga3 ga4 ga5 gb1 gb2 gb3 gb4 gb5 gc1 gc2 gc3 gc4 gc5 gi1 gi2 gi3 gi4 gi5 V (.ref R) [(R, tup #[.ref Sn, .ref T]), (T, tup #[.int A w0, .int B w1, .int C w2, .int D w3, .ref d]), (d, od), (Sn, W.listOf #[.ref ρ1, .ref ρ2, .ref ρ3, .ref ρ4, .ref ρ5] arrn), (ρ1, W.listOf #[.int ga1 α1, .int gb1 β1, .int gc1 γ1, .int gi1 δ1] κ1), (ρ2, W.listOf #[.int ga2 α2, .int gb2 β2, .int gc2 γ2, .int gi2 δ2] κ2), (ρ3, W.listOf #[.int ga3 α3, .int gb3 β3, .int gc3 γ3, .int gi3 δ3] κ3), (ρ4, W.listOf #[.int ga4 α4, .int gb4 β4, .int gc4 γ4, .int gi4 δ4] κ4), (ρ5, W.listOf #[.int ga5 α5, .int gb5 β5, .int gc5 γ5, .int gi5 δ5] κ5)]
theorem runL_does (w : World) (news : List (Addr × Obj)) (S I : Addr) (ns ni : Nat) (b1 b2 b3 b4 b5 : Addr) (p1 q1 r1 v1 p2 q2 r2 v2 p3 q3 r3 v3 p4 q4 r4 v4 p5 q5 r5 v5 : Int) (n1 n2 n3 n4 n5 : Nat) (x1 x1' x1'' y1 x2 x2' x2'' y2 x3 x3' x3'' y3 x4 x4' x4'' y4 x5 x5' x5'' y5 : Tok) (ga1 ga2 ga3 ga4 ga5 : Int) (gb1 gb2 gb3 gb4 gb5 : Int) (gc1 gc2 gc3 gc4 gc5 : Int) (gi1 gi2 gi3 gi4 gi5 : Int) (hS : (S, W.listOf #[.int v1 y1, .int v2 y2, .int v3 y3, .int v4 y4, .int v5 y5] ns) ∈ news) (hI : (I, W.listOf #[.ref b1, .ref b2, .ref b3, .ref b4, .ref b5] ni) ∈ news) (hb5 : (b5, W.listOf #[.int p5 x5, .int q5 x5', .int r5 x5''] n5) ∈ news) (hb4 : (b4, W.listOf #[.int p4 x4, .int q4 x4', .int r4 x4''] n4) ∈ news) (hb3 : (b3, W.listOf #[.int p3 x3, .int q3 x3', .int r3 x3''] n3) ∈ news) (hb2 : (b2, W.listOf #[.int p2 x2, .int q2 x2', .int r2 x2''] n2) ∈ news) (hb1 : (b1, W.listOf #[.int p1 x1, .int q1 x1', .int r1 x1''] n1) ∈ news) (hp1 : 0 ≤ p1 ∧ p1 ≤ 2) (hq1 : 0 ≤ q1 ∧ q1 ≤ 2) (hr1 : 0 ≤ r1 ∧ r1 ≤ 2) (hv1 : 0 ≤ v1 ∧ v1 ≤ 5) (hp2 : 0 ≤ p2 ∧ p2 ≤ 2) (hq2 : 0 ≤ q2 ∧ q2 ≤ 2) (hr2 : 0 ≤ r2 ∧ r2 ≤ 2) (hv2 : 0 ≤ v2 ∧ v2 ≤ 5) (hp3 : 0 ≤ p3 ∧ p3 ≤ 2) (hq3 : 0 ≤ q3 ∧ q3 ≤ 2) (hr3 : 0 ≤ r3 ∧ r3 ≤ 2) (hv3 : 0 ≤ v3 ∧ v3 ≤ 5) (hp4 : 0 ≤ p4 ∧ p4 ≤ 2) (hq4 : 0 ≤ q4 ∧ q4 ≤ 2) (hr4 : 0 ≤ r4 ∧ r4 ≤ 2) (hv4 : 0 ≤ v4 ∧ v4 ≤ 5) (hp5 : 0 ≤ p5 ∧ p5 ≤ 2) (hq5 : 0 ≤ q5 ∧ q5 ≤ 2) (hr5 : 0 ≤ r5 ∧ r5 ≤ 2) (hv5 : 0 ≤ v5 ∧ v5 ≤ 5)
    (hLA : Lind (p1 - v1) (p2 - v2) (p3 - v3) (p4 - v4) (p5 - v5) ga1 ga2 ga3 ga4 ga5)
    (hLB : Lind (p1 + q1 - v1) (p2 + q2 - v2) (p3 + q3 - v3) (p4 + q4 - v4) (p5 + q5 - v5) gb1 gb2 gb3 gb4 gb5)
    (hLC : Lind (p1 + q1 + r1 - v1) (p2 + q2 + r2 - v2) (p3 + q3 + r3 - v3) (p4 + q4 + r4 - v4) (p5 + q5 + r5 - v5) gc1 gc2 gc3 gc4 gc5)
    (hLJ : Skor (v1 - (p1 + q1 + r1)) (v2 - (p2 + q2 + r2)) (v3 - (p3 + q3 + r3)) (v4 - (p4 + q4 + r4)) (v5 - (p5 + q5 + r5)) gi1 gi2 gi3 gi4 gi5) :
    Does w 8 100 89 [.ref I, .ref S] news (RLP w ga1 ga2 ga3 ga4 ga5 gb1 gb2 gb3 gb4 gb5 gc1 gc2 gc3 gc4 gc5 gi1 gi2 gi3 gi4 gi5 (v1 + v2 + v3 + v4 + v5 - gi5)) := by
  have hlen : ∀ c ∈ ([⟨b1, n1, p1, q1, r1, v1, x1, x1', x1'', y1⟩, ⟨b2, n2, p2, q2, r2, v2, x2, x2', x2'', y2⟩, ⟨b3, n3, p3, q3, r3, v3, x3, x3', x3'', y3⟩, ⟨b4, n4, p4, q4, r4, v4, x4, x4', x4'', y4⟩, ⟨b5, n5, p5, q5, r5, v5, x5, x5', x5'', y5⟩] : List Cel), c.Ok := by
    intro c hc
    simp only [List.mem_cons, List.not_mem_nil, or_false] at hc
    rcases hc with rfl | rfl | rfl | rfl | rfl
    all_goals (refine ⟨?_, ?_, ?_, ?_⟩ <;> assumption)
  refine (run_does w news S I ns ni b1 b2 b3 b4 b5 p1 q1 r1 v1 p2 q2 r2 v2 p3 q3 r3 v3 p4 q4 r4 v4 p5 q5 r5 v5 n1 n2 n3 n4 n5 x1 x1' x1'' y1 x2 x2' x2'' y2 x3 x3' x3'' y3 x4 x4' x4'' y4 x5 x5' x5'' y5 hS hI hb5 hb4 hb3 hb2 hb1 hp1 hq1 hr1 hv1 hp2 hq2 hr2 hv2 hp3 hq3 hr3 hv3 hp4 hq4 hr4 hv4 hp5 hq5 hr5 hv5).mono ?_
  rintro r tl ⟨R, T, d, Sn, od, arrn, Z, rl, w0, w1, w2, w3, e1, e2, hT, hv, hds, hsm⟩
  obtain ⟨g1, g2, g3, g4, g5⟩ := plain_rows (hlen _ (by simp)) (hlen _ (by simp)) (hlen _ (by simp)) (hlen _ (by simp)) (hlen _ (by simp)) hT hLA hLB hLC hLJ
  rw [g1] at hv
  obtain ⟨r1, r2, r3, r4, r5, rfl, v1', v2', v3', v4', v5'⟩ := rows_of hv
  subst e1
  subst e2
  simp only [List.map_cons, List.map_nil, ent_of v1', ent_of v2', ent_of v3', ent_of v4', ent_of v5']
  exact RLP.mk R T d Sn od arrn Z.a Z.b Z.c Z.i Z.F Z.R w0 w1 w2 w3 r1.at_ r2.at_ r3.at_ r4.at_ r5.at_ r1.w0 r1.w1 r1.w2 r1.w3 r2.w0 r2.w1 r2.w2 r2.w3 r3.w0 r3.w1 r3.w2 r3.w3 r4.w0 r4.w1 r4.w2 r4.w3 r5.w0 r5.w1 r5.w2 r5.w3 r1.k r2.k r3.k r4.k r5.k hds hsm g2 g3 g4 g5

end Mine
end
section
open PySem PySem.W PySem.Calls PyProof.Rows PyProof.V PySem.Spec
set_option Elab.async false
set_option maxRecDepth 100000
set_option maxHeartbeats 2000000
namespace Mine
section
variable {prog : Program} {w : World} {A : Around} {E : Value → Shared → Prop} {s : Shared} {h₀ : Heap} {L : Addr} {news : List (Addr × Obj)}
theorem ne_same {v y : Value} {d : PyData} {as bs : List Addr} {Q : Value → Shared → Prop} (ra : Reads s.heap v d as) (rb : Reads s.heap y d bs) (ha : SeqAt.shaped d = true) (he : PyData.eqv d d = true) (hu : A.units + 64 < cLine) (h : Q (.bool false) s) :
    wpAny (model prog w) A (compareOp .NotEq v y) Q E s := ne_dataH ra rb ha ha hu (by rw [he]; exact h)
theorem eqvAll_ints : ∀ l : List Int, PyData.eqvAll (l.map .int) (l.map .int) = true
  | [] => rfl
  | a :: r => by simp [PyData.eqvAll, PyData.eqv, eqvAll_ints r]
theorem eqvAll_rows : ∀ X : List (List Int), PyData.eqvAll (X.map fun r => .list (r.map .int)) (X.map fun r => .list (r.map .int)) = true
  | [] => rfl
  | a :: r => by
    rw [List.map_cons, PyData.eqvAll, eqvAll_rows r, Bool.and_true]
    show PyData.eqvAll _ _ = true
    exact eqvAll_ints a
theorem eqv_rows (X : List (List Int)) : PyData.eqv (.list (X.map fun r => .list (r.map .int))) (.list (X.map fun r => .list (r.map .int))) = true := eqvAll_rows X
/-- the values are lists of the ledger that hold these ints -/
inductive RowsIn (h : Heap) : List Value → List (List Int) → Prop
  | nil : RowsIn h [] []
  | cons {a : Addr} {vs : List Value} {ns : List Int} {rs : List Value} {X : List (List Int)} : h.IsList a vs.toArray → IntsAre vs ns → RowsIn h rs X → RowsIn h (.ref a :: rs) (ns :: X)
theorem IntsAre.readsAll {h : Heap} : ∀ {vs : List Value} {ns : List Int}, IntsAre vs ns → ReadsAll h vs (ns.map .int) []
  | _, _, .nil => .nil
  | _, _, .cons n t r => .cons (.int n t) (IntsAre.readsAll r)
theorem RowsIn.readsAll {h : Heap} : ∀ {vs : List Value} {X : List (List Int)}, RowsIn h vs X → ∃ as, ReadsAll h vs (X.map fun r => .list (r.map .int)) as
  | _, _, .nil => ⟨[], .nil⟩
  | _, _, .cons hl hi r => by
    obtain ⟨as, ha⟩ := r.readsAll
    obtain ⟨o, e, hc, k, hd⟩ := hl
    exact ⟨_, .cons (reads_list_at e hc hd (by simpa using IntsAre.readsAll hi)) ha⟩
theorem ne_rows {a b : Addr} {va vb : List Value} {X : List (List Int)} {Q : Value → Shared → Prop} (la : s.heap.IsList a va.toArray) (lb : s.heap.IsList b vb.toArray) (ra : RowsIn s.heap va X) (rb : RowsIn s.heap vb X) (hs : SeqAt.shaped (.list (X.map fun r => .list (r.map .int))) = true) (hu : A.units + 64 < cLine) (h : Q (.bool false) s) :
    wpAny (model prog w) A (compareOp .NotEq (.ref a) (.ref b)) Q E s := by
  obtain ⟨as, ha⟩ := ra.readsAll
  obtain ⟨bs, hb⟩ := rb.readsAll
  obtain ⟨oa, ea, hca, ka, hda⟩ := la
  obtain ⟨ob, eb, hcb, kb, hdb⟩ := lb
  exact ne_same (reads_list_at ea hca hda (by simpa using ha)) (reads_list_at eb hcb hdb (by simpa using hb)) hs (eqv_rows X) hu h
end
end Mine
end
section
open PySem PySem.W PySem.Calls PyProof.Rows
set_option Elab.async false
set_option maxRecDepth 100000
set_option maxHeartbeats 8000000
set_option pp.deepTerms false
set_option pp.deepTerms.threshold 4
set_option pp.maxSteps 6000
namespace Mine

theorem haltI_LawT2 {P : Prop} (h : Keep P) : P := h

namespace ET2
noncomputable def Pr (w : World) (p : Program) (loose : List Str) (mean : ExcName → Option Value) (mg : Str → Option Value) (mb : Str → Option Value) (fa : Addr) (cd : Value) (h₀ : Heap) (L : Addr) (m : Str → Option Value) (s : Shared) (Q : Flow → Shared → Prop) (S : Addr) (I : Addr) (ns : Nat) (ni : Nat) (b1 : Addr) (b2 : Addr) (b3 : Addr) (b4 : Addr) (b5 : Addr) (p1 : Int) (q1 : Int) (r1 : Int) (v1 : Int) (p2 : Int) (q2 : Int) (r2 : Int) (v2 : Int) (p3 : Int) (q3 : Int) (r3 : Int) (v3 : Int) (p4 : Int) (q4 : Int) (r4 : Int) (v4 : Int) (p5 : Int) (q5 : Int) (r5 : Int) (v5 : Int) (n1 : Nat) (n2 : Nat) (n3 : Nat) (n4 : Nat) (n5 : Nat) (x1 : Tok) (x1' : Tok) (x1'' : Tok) (y1 : Tok) (x2 : Tok) (x2' : Tok) (x2'' : Tok) (y2 : Tok) (x3 : Tok) (x3' : Tok) (x3'' : Tok) (y3 : Tok) (x4 : Tok) (x4' : Tok) (x4'' : Tok) (y4 : Tok) (x5 : Tok) (x5' : Tok) (x5'' : Tok) (y5 : Tok) (ga1 : Int) (ga2 : Int) (ga3 : Int) (ga4 : Int) (ga5 : Int) (gb1 : Int) (gb2 : Int) (gb3 : Int) (gb4 : Int) (gb5 : Int) (gc1 : Int) (gc2 : Int) (gc3 : Int) (gc4 : Int) (gc5 : Int) (gi1 : Int) (gi2 : Int) (gi3 : Int) (gi4 : Int) (gi5 : Int) (J : Addr) (G : Addr) (ea : Addr) (eb : Addr) (ec : Addr) (Ah : Addr) (ka : Int) (kb : Int) (kc : Int) (o2 : Obj) (o3 : Obj) (o5 : Obj) (o9 : Obj) (t1 : Tok) (t2 : Tok) (t3 : Tok) (jh : Nat) (jG : Nat) (na : Nat) (nb : Nat) (nc : Nat) (jJ : Nat) (gl : List Value) (rest : List (Addr × Obj)) (ha1 : Tok) (ha2 : Tok) (ha3 : Tok) (ha4 : Tok) (ha5 : Tok) (hb1 : Tok) (hb2 : Tok) (hb3 : Tok) (hb4 : Tok) (hb5 : Tok) (hc1 : Tok) (hc2 : Tok) (hc3 : Tok) (hc4 : Tok) (hc5 : Tok) (z1 : Tok) (z2 : Tok) (z3 : Tok) (z4 : Tok) (z5 : Tok) : Prop := ∀ (hp1 : 0 ≤ p1 ∧ p1 ≤ 2) (hq1 : 0 ≤ q1 ∧ q1 ≤ 2) (hr1 : 0 ≤ r1 ∧ r1 ≤ 2) (hv1 : 0 ≤ v1 ∧ v1 ≤ 5) (hp2 : 0 ≤ p2 ∧ p2 ≤ 2) (hq2 : 0 ≤ q2 ∧ q2 ≤ 2) (hr2 : 0 ≤ r2 ∧ r2 ≤ 2) (hv2 : 0 ≤ v2 ∧ v2 ≤ 5) (hp3 : 0 ≤ p3 ∧ p3 ≤ 2) (hq3 : 0 ≤ q3 ∧ q3 ≤ 2) (hr3 : 0 ≤ r3 ∧ r3 ≤ 2) (hv3 : 0 ≤ v3 ∧ v3 ≤ 5) (hp4 : 0 ≤ p4 ∧ p4 ≤ 2) (hq4 : 0 ≤ q4 ∧ q4 ≤ 2) (hr4 : 0 ≤ r4 ∧ r4 ≤ 2) (hv4 : 0 ≤ v4 ∧ v4 ≤ 5) (hp5 : 0 ≤ p5 ∧ p5 ≤ 2) (hq5 : 0 ≤ q5 ∧ q5 ≤ 2) (hr5 : 0 ≤ r5 ∧ r5 ≤ 2) (hv5 : 0 ≤ v5 ∧ v5 ≤ 5) (hd2 : o2.data = .cell (some (.ref S))) (hd3 : o3.data = .cell (some (.ref G))) (hd5 : o5.data = .cell (some (.ref J))) (hd9 : o9.data = .cell (some (.ref Ah))) (hka : 0 ≤ ka ∧ ka ≤ 7) (hkb : 0 ≤ kb ∧ kb ≤ 7) (hkc : 0 ≤ kc ∧ kc ≤ 7) (hga : gl[ka.toNat]? = some (.ref ea)) (hgb : gl[kb.toNat]? = some (.ref eb)) (hgc : gl[kc.toNat]? = some (.ref ec)) (hLA : Lind (p1 - v1) (p2 - v2) (p3 - v3) (p4 - v4) (p5 - v5) ga1 ga2 ga3 ga4 ga5) (hLB : Lind (p1 + q1 - v1) (p2 + q2 - v2) (p3 + q3 - v3) (p4 + q4 - v4) (p5 + q5 - v5) gb1 gb2 gb3 gb4 gb5) (hLC : Lind (p1 + q1 + r1 - v1) (p2 + q2 + r2 - v2) (p3 + q3 + r3 - v3) (p4 + q4 + r4 - v4) (p5 + q5 + r5 - v5) gc1 gc2 gc3 gc4 gc5) (hLJ : Skor (v1 - (p1 + q1 + r1)) (v2 - (p2 + q2 + r2)) (v3 - (p3 + q3 + r3)) (v4 - (p4 + q4 + r4)) (v5 - (p5 + q5 + r5)) gi1 gi2 gi3 gi4 gi5) (B : Below callerA h₀ [] h₀) (F : Fr h₀ L s.heap (fun y => if y = Str.ofString "images" then some (.ref I) else m y)) (X : (hd.heap_1 w.params).In h₀) (T : Top p loose mean mg mb h₀) (N : News h₀ L s.heap ((S, W.listOf #[.int v1 y1, .int v2 y2, .int v3 y3, .int v4 y4, .int v5 y5] ns) :: (I, W.listOf #[.ref b1, .ref b2, .ref b3, .ref b4, .ref b5] ni) :: (b5, W.listOf #[.int p5 x5, .int q5 x5', .int r5 x5''] n5) :: (b4, W.listOf #[.int p4 x4, .int q4 x4', .int r4 x4''] n4) :: (b3, W.listOf #[.int p3 x3, .int q3 x3', .int r3 x3''] n3) :: (b2, W.listOf #[.int p2 x2, .int q2 x2', .int r2 x2''] n2) :: (b1, W.listOf #[.int p1 x1, .int q1 x1', .int r1 x1''] n1) :: (Ah, W.listOf #[.int ka t1, .int kb t2, .int kc t3] jh) :: (G, W.listOf gl.toArray jG) :: (ea, W.listOf #[.int ga1 ha1, .int ga2 ha2, .int ga3 ha3, .int ga4 ha4, .int ga5 ha5] na) :: (eb, W.listOf #[.int gb1 hb1, .int gb2 hb2, .int gb3 hb3, .int gb4 hb4, .int gb5 hb5] nb) :: (ec, W.listOf #[.int gc1 hc1, .int gc2 hc2, .int gc3 hc3, .int gc4 hc4, .int gc5 hc5] nc) :: (J, W.listOf #[.int gi1 z1, .int gi2 z2, .int gi3 z3, .int gi4 z4, .int gi5 z5] jJ) :: (L + 1 + 1, o2) :: (L + 1 + 1 + 1, o3) :: (L + 1 + 1 + 1 + 1 + 1, o5) :: (L + 1 + 1 + 1 + 1 + 1 + 1 + 1 + 1 + 1, o9) :: rest)) (hQ : ∀ h' tk' m', Fr h₀ L h' m' → News h₀ L h' ((S, W.listOf #[.int v1 y1, .int v2 y2, .int v3 y3, .int v4 y4, .int v5 y5] ns) :: (I, W.listOf #[.ref b1, .ref b2, .ref b3, .ref b4, .ref b5] ni) :: (b5, W.listOf #[.int p5 x5, .int q5 x5', .int r5 x5''] n5) :: (b4, W.listOf #[.int p4 x4, .int q4 x4', .int r4 x4''] n4) :: (b3, W.listOf #[.int p3 x3, .int q3 x3', .int r3 x3''] n3) :: (b2, W.listOf #[.int p2 x2, .int q2 x2', .int r2 x2''] n2) :: (b1, W.listOf #[.int p1 x1, .int q1 x1', .int r1 x1''] n1) :: (Ah, W.listOf #[.int ka t1, .int kb t2, .int kc t3] jh) :: (G, W.listOf gl.toArray jG) :: (ea, W.listOf #[.int ga1 ha1, .int ga2 ha2, .int ga3 ha3, .int ga4 ha4, .int ga5 ha5] na) :: (eb, W.listOf #[.int gb1 hb1, .int gb2 hb2, .int gb3 hb3, .int gb4 hb4, .int gb5 hb5] nb) :: (ec, W.listOf #[.int gc1 hc1, .int gc2 hc2, .int gc3 hc3, .int gc4 hc4, .int gc5 hc5] nc) :: (J, W.listOf #[.int gi1 z1, .int gi2 z2, .int gi3 z3, .int gi4 z4, .int gi5 z5] jJ) :: (L + 1 + 1, o2) :: (L + 1 + 1 + 1, o3) :: (L + 1 + 1 + 1 + 1 + 1, o5) :: (L + 1 + 1 + 1 + 1 + 1 + 1 + 1 + 1 + 1, o9) :: rest) → Q .next { s with heap := h', toks := tk' }), wpAny (model Challenge.rw_wo0027_01.row.prog w) (callerA.deeper (envOfC (Str.ofString "law") lawScope L fa cd)) (execs (turnParts.1.drop 4) (envOfC (Str.ofString "law") lawScope L fa cd)) Q (fun _ _ => False) s
abbrev Pack : Type := (World) × (Program) × (List Str) × (ExcName → Option Value) × (Str → Option Value) × (Str → Option Value) × (Addr) × (Value) × (Heap) × (Addr) × (Str → Option Value) × (Shared) × (Flow → Shared → Prop) × (Addr) × (Addr) × (Nat) × (Nat) × (Addr) × (Addr) × (Addr) × (Addr) × (Addr) × (Int) × (Int) × (Int) × (Int) × (Int) × (Int) × (Int) × (Int) × (Int) × (Int) × (Int) × (Int) × (Int) × (Int) × (Int) × (Int) × (Int) × (Int) × (Int) × (Int) × (Nat) × (Nat) × (Nat) × (Nat) × (Nat) × (Tok) × (Tok) × (Tok) × (Tok) × (Tok) × (Tok) × (Tok) × (Tok) × (Tok) × (Tok) × (Tok) × (Tok) × (Tok) × (Tok) × (Tok) × (Tok) × (Tok) × (Tok) × (Tok) × (Tok) × (Int) × (Int) × (Int) × (Int) × (Int) × (Int) × (Int) × (Int) × (Int) × (Int) × (Int) × (Int) × (Int) × (Int) × (Int) × (Int) × (Int) × (Int) × (Int) × (Int) × (Addr) × (Addr) × (Addr) × (Addr) × (Addr) × (Addr) × (Int) × (Int) × (Int) × (Obj) × (Obj) × (Obj) × (Obj) × (Tok) × (Tok) × (Tok) × (Nat) × (Nat) × (Nat) × (Nat) × (Nat) × (Nat) × (List Value) × (List (Addr × Obj)) × (Tok) × (Tok) × (Tok) × (Tok) × (Tok) × (Tok) × (Tok) × (Tok) × (Tok) × (Tok) × (Tok) × (Tok) × (Tok) × (Tok) × (Tok) × (Tok) × (Tok) × (Tok) × (Tok) × (Tok)
noncomputable def PrX (x : Pack) : Prop := Pr (x.1) (x.2.1) (x.2.2.1) (x.2.2.2.1) (x.2.2.2.2.1) (x.2.2.2.2.2.1) (x.2.2.2.2.2.2.1) (x.2.2.2.2.2.2.2.1) (x.2.2.2.2.2.2.2.2.1) (x.2.2.2.2.2.2.2.2.2.1) (x.2.2.2.2.2.2.2.2.2.2.1) (x.2.2.2.2.2.2.2.2.2.2.2.1) (x.2.2.2.2.2.2.2.2.2.2.2.2.1) (x.2.2.2.2.2.2.2.2.2.2.2.2.2.1) (x.2.2.2.2.2.2.2.2.2.2.2.2.2.2.1) (x.2.2.2.2.2.2.2.2.2.2.2.2.2.2.2.1) (x.2.2.2.2.2.2.2.2.2.2.2.2.2.2.2.2.1) (x.2.2.2.2.2.2.2.2.2.2.2.2.2.2.2.2.2.1) (x.2.2.2.2.2.2.2.2.2.2.2.2.2.2.2.2.2.2.1) (x.2.2.2.2.2.2.2.2.2.2.2.2.2.2.2.2.2.2.2.1) (x.2.2.2.2.2.2.2.2.2.2.2.2.2.2.2.2.2.2.2.2.1) (x.2.2.2.2.2.2.2.2.2.2.2.2.2.2.2.2.2.2.2.2.2.1) (x.2.2.2.2.2.2.2.2.2.2.2.2.2.2.2.2.2.2.2.2.2.2.1) (x.2.2.2.2.2.2.2.2.2.2.2.2.2.2.2.2.2.2.2.2.2.2.2.1) (x.2.2.2.2.2.2.2.2.2.2.2.2.2.2.2.2.2.2.2.2.2.2.2.2.1) (x.2.2.2.2.2.2.2.2.2.2.2.2.2.2.2.2.2.2.2.2.2.2.2.2.2.1) (x.2.2.2.2.2.2.2.2.2.2.2.2.2.2.2.2.2.2.2.2.2.2.2.2.2.2.1) (x.2.2.2.2.2.2.2.2.2.2.2.2.2.2.2.2.2.2.2.2.2.2.2.2.2.2.2.1) (x.2.2.2.2.2.2.2.2.2.2.2.2.2.2.2.2.2.2.2.2.2.2.2.2.2.2.2.2.1) (x.2.2.2.2.2.2.2.2.2.2.2.2.2.2.2.2.2.2.2.2.2.2.2.2.2.2.2.2.2.1) (x.2.2.2.2.2.2.2.2.2.2.2.2.2.2.2.2.2.2.2.2.2.2.2.2.2.2.2.2.2.2.1) (x.2.2.2.2.2.2.2.2.2.2.2.2.2.2.2.2.2.2.2.2.2.2.2.2.2.2.2.2.2.2.2.1) (x.2.2.2.2.2.2.2.2.2.2.2.2.2.2.2.2.2.2.2.2.2.2.2.2.2.2.2.2.2.2.2.2.1) (x.2.2.2.2.2.2.2.2.2.2.2.2.2.2.2.2.2.2.2.2.2.2.2.2.2.2.2.2.2.2.2.2.2.1) (x.2.2.2.2.2.2.2.2.2.2.2.2.2.2.2.2.2.2.2.2.2.2.2.2.2.2.2.2.2.2.2.2.2.2.1) (x.2.2.2.2.2.2.2.2.2.2.2.2.2.2.2.2.2.2.2.2.2.2.2.2.2.2.2.2.2.2.2.2.2.2.2.1) (x.2.2.2.2.2.2.2.2.2.2.2.2.2.2.2.2.2.2.2.2.2.2.2.2.2.2.2.2.2.2.2.2.2.2.2.2.1) (x.2.2.2.2.2.2.2.2.2.2.2.2.2.2.2.2.2.2.2.2.2.2.2.2.2.2.2.2.2.2.2.2.2.2.2.2.2.1) (x.2.2.2.2.2.2.2.2.2.2.2.2.2.2.2.2.2.2.2.2.2.2.2.2.2.2.2.2.2.2.2.2.2.2.2.2.2.2.1) (x.2.2.2.2.2.2.2.2.2.2.2.2.2.2.2.2.2.2.2.2.2.2.2.2.2.2.2.2.2.2.2.2.2.2.2.2.2.2.2.1) (x.2.2.2.2.2.2.2.2.2.2.2.2.2.2.2.2.2.2.2.2.2.2.2.2.2.2.2.2.2.2.2.2.2.2.2.2.2.2.2.2.1) (x.2.2.2.2.2.2.2.2.2.2.2.2.2.2.2.2.2.2.2.2.2.2.2.2.2.2.2.2.2.2.2.2.2.2.2.2.2.2.2.2.2.1) (x.2.2.2.2.2.2.2.2.2.2.2.2.2.2.2.2.2.2.2.2.2.2.2.2.2.2.2.2.2.2.2.2.2.2.2.2.2.2.2.2.2.2.1) (x.2.2.2.2.2.2.2.2.2.2.2.2.2.2.2.2.2.2.2.2.2.2.2.2.2.2.2.2.2.2.2.2.2.2.2.2.2.2.2.2.2.2.2.1) (x.2.2.2.2.2.2.2.2.2.2.2.2.2.2.2.2.2.2.2.2.2.2.2.2.2.2.2.2.2.2.2.2.2.2.2.2.2.2.2.2.2.2.2.2.1) (x.2.2.2.2.2.2.2.2.2.2.2.2.2.2.2.2.2.2.2.2.2.2.2.2.2.2.2.2.2.2.2.2.2.2.2.2.2.2.2.2.2.2.2.2.2.1) (x.2.2.2.2.2.2.2.2.2.2.2.2.2.2.2.2.2.2.2.2.2.2.2.2.2.2.2.2.2.2.2.2.2.2.2.2.2.2.2.2.2.2.2.2.2.2.1) (x.2.2.2.2.2.2.2.2.2.2.2.2.2.2.2.2.2.2.2.2.2.2.2.2.2.2.2.2.2.2.2.2.2.2.2.2.2.2.2.2.2.2.2.2.2.2.2.1) (x.2.2.2.2.2.2.2.2.2.2.2.2.2.2.2.2.2.2.2.2.2.2.2.2.2.2.2.2.2.2.2.2.2.2.2.2.2.2.2.2.2.2.2.2.2.2.2.2.1) (x.2.2.2.2.2.2.2.2.2.2.2.2.2.2.2.2.2.2.2.2.2.2.2.2.2.2.2.2.2.2.2.2.2.2.2.2.2.2.2.2.2.2.2.2.2.2.2.2.2.1) (x.2.2.2.2.2.2.2.2.2.2.2.2.2.2.2.2.2.2.2.2.2.2.2.2.2.2.2.2.2.2.2.2.2.2.2.2.2.2.2.2.2.2.2.2.2.2.2.2.2.2.1) (x.2.2.2.2.2.2.2.2.2.2.2.2.2.2.2.2.2.2.2.2.2.2.2.2.2.2.2.2.2.2.2.2.2.2.2.2.2.2.2.2.2.2.2.2.2.2.2.2.2.2.2.1) (x.2.2.2.2.2.2.2.2.2.2.2.2.2.2.2.2.2.2.2.2.2.2.2.2.2.2.2.2.2.2.2.2.2.2.2.2.2.2.2.2.2.2.2.2.2.2.2.2.2.2.2.2.1) (x.2.2.2.2.2.2.2.2.2.2.2.2.2.2.2.2.2.2.2.2.2.2.2.2.2.2.2.2.2.2.2.2.2.2.2.2.2.2.2.2.2.2.2.2.2.2.2.2.2.2.2.2.2.1) (x.2.2.2.2.2.2.2.2.2.2.2.2.2.2.2.2.2.2.2.2.2.2.2.2.2.2.2.2.2.2.2.2.2.2.2.2.2.2.2.2.2.2.2.2.2.2.2.2.2.2.2.2.2.2.1) (x.2.2.2.2.2.2.2.2.2.2.2.2.2.2.2.2.2.2.2.2.2.2.2.2.2.2.2.2.2.2.2.2.2.2.2.2.2.2.2.2.2.2.2.2.2.2.2.2.2.2.2.2.2.2.2.1) (x.2.2.2.2.2.2.2.2.2.2.2.2.2.2.2.2.2.2.2.2.2.2.2.2.2.2.2.2.2.2.2.2.2.2.2.2.2.2.2.2.2.2.2.2.2.2.2.2.2.2.2.2.2.2.2.2.1) (x.2.2.2.2.2.2.2.2.2.2.2.2.2.2.2.2.2.2.2.2.2.2.2.2.2.2.2.2.2.2.2.2.2.2.2.2.2.2.2.2.2.2.2.2.2.2.2.2.2.2.2.2.2.2.2.2.2.1) (x.2.2.2.2.2.2.2.2.2.2.2.2.2.2.2.2.2.2.2.2.2.2.2.2.2.2.2.2.2.2.2.2.2.2.2.2.2.2.2.2.2.2.2.2.2.2.2.2.2.2.2.2.2.2.2.2.2.2.1) (x.2.2.2.2.2.2.2.2.2.2.2.2.2.2.2.2.2.2.2.2.2.2.2.2.2.2.2.2.2.2.2.2.2.2.2.2.2.2.2.2.2.2.2.2.2.2.2.2.2.2.2.2.2.2.2.2.2.2.2.1) (x.2.2.2.2.2.2.2.2.2.2.2.2.2.2.2.2.2.2.2.2.2.2.2.2.2.2.2.2.2.2.2.2.2.2.2.2.2.2.2.2.2.2.2.2.2.2.2.2.2.2.2.2.2.2.2.2.2.2.2.2.1) (x.2.2.2.2.2.2.2.2.2.2.2.2.2.2.2.2.2.2.2.2.2.2.2.2.2.2.2.2.2.2.2.2.2.2.2.2.2.2.2.2.2.2.2.2.2.2.2.2.2.2.2.2.2.2.2.2.2.2.2.2.2.1) (x.2.2.2.2.2.2.2.2.2.2.2.2.2.2.2.2.2.2.2.2.2.2.2.2.2.2.2.2.2.2.2.2.2.2.2.2.2.2.2.2.2.2.2.2.2.2.2.2.2.2.2.2.2.2.2.2.2.2.2.2.2.2.1) (x.2.2.2.2.2.2.2.2.2.2.2.2.2.2.2.2.2.2.2.2.2.2.2.2.2.2.2.2.2.2.2.2.2.2.2.2.2.2.2.2.2.2.2.2.2.2.2.2.2.2.2.2.2.2.2.2.2.2.2.2.2.2.2.1) (x.2.2.2.2.2.2.2.2.2.2.2.2.2.2.2.2.2.2.2.2.2.2.2.2.2.2.2.2.2.2.2.2.2.2.2.2.2.2.2.2.2.2.2.2.2.2.2.2.2.2.2.2.2.2.2.2.2.2.2.2.2.2.2.2.1) (x.2.2.2.2.2.2.2.2.2.2.2.2.2.2.2.2.2.2.2.2.2.2.2.2.2.2.2.2.2.2.2.2.2.2.2.2.2.2.2.2.2.2.2.2.2.2.2.2.2.2.2.2.2.2.2.2.2.2.2.2.2.2.2.2.2.1) (x.2.2.2.2.2.2.2.2.2.2.2.2.2.2.2.2.2.2.2.2.2.2.2.2.2.2.2.2.2.2.2.2.2.2.2.2.2.2.2.2.2.2.2.2.2.2.2.2.2.2.2.2.2.2.2.2.2.2.2.2.2.2.2.2.2.2.1) (x.2.2.2.2.2.2.2.2.2.2.2.2.2.2.2.2.2.2.2.2.2.2.2.2.2.2.2.2.2.2.2.2.2.2.2.2.2.2.2.2.2.2.2.2.2.2.2.2.2.2.2.2.2.2.2.2.2.2.2.2.2.2.2.2.2.2.2.1) (x.2.2.2.2.2.2.2.2.2.2.2.2.2.2.2.2.2.2.2.2.2.2.2.2.2.2.2.2.2.2.2.2.2.2.2.2.2.2.2.2.2.2.2.2.2.2.2.2.2.2.2.2.2.2.2.2.2.2.2.2.2.2.2.2.2.2.2.2.1) (x.2.2.2.2.2.2.2.2.2.2.2.2.2.2.2.2.2.2.2.2.2.2.2.2.2.2.2.2.2.2.2.2.2.2.2.2.2.2.2.2.2.2.2.2.2.2.2.2.2.2.2.2.2.2.2.2.2.2.2.2.2.2.2.2.2.2.2.2.2.1) (x.2.2.2.2.2.2.2.2.2.2.2.2.2.2.2.2.2.2.2.2.2.2.2.2.2.2.2.2.2.2.2.2.2.2.2.2.2.2.2.2.2.2.2.2.2.2.2.2.2.2.2.2.2.2.2.2.2.2.2.2.2.2.2.2.2.2.2.2.2.2.1) (x.2.2.2.2.2.2.2.2.2.2.2.2.2.2.2.2.2.2.2.2.2.2.2.2.2.2.2.2.2.2.2.2.2.2.2.2.2.2.2.2.2.2.2.2.2.2.2.2.2.2.2.2.2.2.2.2.2.2.2.2.2.2.2.2.2.2.2.2.2.2.2.1) (x.2.2.2.2.2.2.2.2.2.2.2.2.2.2.2.2.2.2.2.2.2.2.2.2.2.2.2.2.2.2.2.2.2.2.2.2.2.2.2.2.2.2.2.2.2.2.2.2.2.2.2.2.2.2.2.2.2.2.2.2.2.2.2.2.2.2.2.2.2.2.2.2.1) (x.2.2.2.2.2.2.2.2.2.2.2.2.2.2.2.2.2.2.2.2.2.2.2.2.2.2.2.2.2.2.2.2.2.2.2.2.2.2.2.2.2.2.2.2.2.2.2.2.2.2.2.2.2.2.2.2.2.2.2.2.2.2.2.2.2.2.2.2.2.2.2.2.2.1) (x.2.2.2.2.2.2.2.2.2.2.2.2.2.2.2.2.2.2.2.2.2.2.2.2.2.2.2.2.2.2.2.2.2.2.2.2.2.2.2.2.2.2.2.2.2.2.2.2.2.2.2.2.2.2.2.2.2.2.2.2.2.2.2.2.2.2.2.2.2.2.2.2.2.2.1) (x.2.2.2.2.2.2.2.2.2.2.2.2.2.2.2.2.2.2.2.2.2.2.2.2.2.2.2.2.2.2.2.2.2.2.2.2.2.2.2.2.2.2.2.2.2.2.2.2.2.2.2.2.2.2.2.2.2.2.2.2.2.2.2.2.2.2.2.2.2.2.2.2.2.2.2.1) (x.2.2.2.2.2.2.2.2.2.2.2.2.2.2.2.2.2.2.2.2.2.2.2.2.2.2.2.2.2.2.2.2.2.2.2.2.2.2.2.2.2.2.2.2.2.2.2.2.2.2.2.2.2.2.2.2.2.2.2.2.2.2.2.2.2.2.2.2.2.2.2.2.2.2.2.2.1) (x.2.2.2.2.2.2.2.2.2.2.2.2.2.2.2.2.2.2.2.2.2.2.2.2.2.2.2.2.2.2.2.2.2.2.2.2.2.2.2.2.2.2.2.2.2.2.2.2.2.2.2.2.2.2.2.2.2.2.2.2.2.2.2.2.2.2.2.2.2.2.2.2.2.2.2.2.2.1) (x.2.2.2.2.2.2.2.2.2.2.2.2.2.2.2.2.2.2.2.2.2.2.2.2.2.2.2.2.2.2.2.2.2.2.2.2.2.2.2.2.2.2.2.2.2.2.2.2.2.2.2.2.2.2.2.2.2.2.2.2.2.2.2.2.2.2.2.2.2.2.2.2.2.2.2.2.2.2.1) (x.2.2.2.2.2.2.2.2.2.2.2.2.2.2.2.2.2.2.2.2.2.2.2.2.2.2.2.2.2.2.2.2.2.2.2.2.2.2.2.2.2.2.2.2.2.2.2.2.2.2.2.2.2.2.2.2.2.2.2.2.2.2.2.2.2.2.2.2.2.2.2.2.2.2.2.2.2.2.2.1) (x.2.2.2.2.2.2.2.2.2.2.2.2.2.2.2.2.2.2.2.2.2.2.2.2.2.2.2.2.2.2.2.2.2.2.2.2.2.2.2.2.2.2.2.2.2.2.2.2.2.2.2.2.2.2.2.2.2.2.2.2.2.2.2.2.2.2.2.2.2.2.2.2.2.2.2.2.2.2.2.2.1) (x.2.2.2.2.2.2.2.2.2.2.2.2.2.2.2.2.2.2.2.2.2.2.2.2.2.2.2.2.2.2.2.2.2.2.2.2.2.2.2.2.2.2.2.2.2.2.2.2.2.2.2.2.2.2.2.2.2.2.2.2.2.2.2.2.2.2.2.2.2.2.2.2.2.2.2.2.2.2.2.2.2.1) (x.2.2.2.2.2.2.2.2.2.2.2.2.2.2.2.2.2.2.2.2.2.2.2.2.2.2.2.2.2.2.2.2.2.2.2.2.2.2.2.2.2.2.2.2.2.2.2.2.2.2.2.2.2.2.2.2.2.2.2.2.2.2.2.2.2.2.2.2.2.2.2.2.2.2.2.2.2.2.2.2.2.2.1) (x.2.2.2.2.2.2.2.2.2.2.2.2.2.2.2.2.2.2.2.2.2.2.2.2.2.2.2.2.2.2.2.2.2.2.2.2.2.2.2.2.2.2.2.2.2.2.2.2.2.2.2.2.2.2.2.2.2.2.2.2.2.2.2.2.2.2.2.2.2.2.2.2.2.2.2.2.2.2.2.2.2.2.2.1) (x.2.2.2.2.2.2.2.2.2.2.2.2.2.2.2.2.2.2.2.2.2.2.2.2.2.2.2.2.2.2.2.2.2.2.2.2.2.2.2.2.2.2.2.2.2.2.2.2.2.2.2.2.2.2.2.2.2.2.2.2.2.2.2.2.2.2.2.2.2.2.2.2.2.2.2.2.2.2.2.2.2.2.2.2.1) (x.2.2.2.2.2.2.2.2.2.2.2.2.2.2.2.2.2.2.2.2.2.2.2.2.2.2.2.2.2.2.2.2.2.2.2.2.2.2.2.2.2.2.2.2.2.2.2.2.2.2.2.2.2.2.2.2.2.2.2.2.2.2.2.2.2.2.2.2.2.2.2.2.2.2.2.2.2.2.2.2.2.2.2.2.2.1) (x.2.2.2.2.2.2.2.2.2.2.2.2.2.2.2.2.2.2.2.2.2.2.2.2.2.2.2.2.2.2.2.2.2.2.2.2.2.2.2.2.2.2.2.2.2.2.2.2.2.2.2.2.2.2.2.2.2.2.2.2.2.2.2.2.2.2.2.2.2.2.2.2.2.2.2.2.2.2.2.2.2.2.2.2.2.2.1) (x.2.2.2.2.2.2.2.2.2.2.2.2.2.2.2.2.2.2.2.2.2.2.2.2.2.2.2.2.2.2.2.2.2.2.2.2.2.2.2.2.2.2.2.2.2.2.2.2.2.2.2.2.2.2.2.2.2.2.2.2.2.2.2.2.2.2.2.2.2.2.2.2.2.2.2.2.2.2.2.2.2.2.2.2.2.2.2.1) (x.2.2.2.2.2.2.2.2.2.2.2.2.2.2.2.2.2.2.2.2.2.2.2.2.2.2.2.2.2.2.2.2.2.2.2.2.2.2.2.2.2.2.2.2.2.2.2.2.2.2.2.2.2.2.2.2.2.2.2.2.2.2.2.2.2.2.2.2.2.2.2.2.2.2.2.2.2.2.2.2.2.2.2.2.2.2.2.2.1) (x.2.2.2.2.2.2.2.2.2.2.2.2.2.2.2.2.2.2.2.2.2.2.2.2.2.2.2.2.2.2.2.2.2.2.2.2.2.2.2.2.2.2.2.2.2.2.2.2.2.2.2.2.2.2.2.2.2.2.2.2.2.2.2.2.2.2.2.2.2.2.2.2.2.2.2.2.2.2.2.2.2.2.2.2.2.2.2.2.2.1) (x.2.2.2.2.2.2.2.2.2.2.2.2.2.2.2.2.2.2.2.2.2.2.2.2.2.2.2.2.2.2.2.2.2.2.2.2.2.2.2.2.2.2.2.2.2.2.2.2.2.2.2.2.2.2.2.2.2.2.2.2.2.2.2.2.2.2.2.2.2.2.2.2.2.2.2.2.2.2.2.2.2.2.2.2.2.2.2.2.2.2.1) (x.2.2.2.2.2.2.2.2.2.2.2.2.2.2.2.2.2.2.2.2.2.2.2.2.2.2.2.2.2.2.2.2.2.2.2.2.2.2.2.2.2.2.2.2.2.2.2.2.2.2.2.2.2.2.2.2.2.2.2.2.2.2.2.2.2.2.2.2.2.2.2.2.2.2.2.2.2.2.2.2.2.2.2.2.2.2.2.2.2.2.2.1) (x.2.2.2.2.2.2.2.2.2.2.2.2.2.2.2.2.2.2.2.2.2.2.2.2.2.2.2.2.2.2.2.2.2.2.2.2.2.2.2.2.2.2.2.2.2.2.2.2.2.2.2.2.2.2.2.2.2.2.2.2.2.2.2.2.2.2.2.2.2.2.2.2.2.2.2.2.2.2.2.2.2.2.2.2.2.2.2.2.2.2.2.2.1) (x.2.2.2.2.2.2.2.2.2.2.2.2.2.2.2.2.2.2.2.2.2.2.2.2.2.2.2.2.2.2.2.2.2.2.2.2.2.2.2.2.2.2.2.2.2.2.2.2.2.2.2.2.2.2.2.2.2.2.2.2.2.2.2.2.2.2.2.2.2.2.2.2.2.2.2.2.2.2.2.2.2.2.2.2.2.2.2.2.2.2.2.2.2.1) (x.2.2.2.2.2.2.2.2.2.2.2.2.2.2.2.2.2.2.2.2.2.2.2.2.2.2.2.2.2.2.2.2.2.2.2.2.2.2.2.2.2.2.2.2.2.2.2.2.2.2.2.2.2.2.2.2.2.2.2.2.2.2.2.2.2.2.2.2.2.2.2.2.2.2.2.2.2.2.2.2.2.2.2.2.2.2.2.2.2.2.2.2.2.2.1) (x.2.2.2.2.2.2.2.2.2.2.2.2.2.2.2.2.2.2.2.2.2.2.2.2.2.2.2.2.2.2.2.2.2.2.2.2.2.2.2.2.2.2.2.2.2.2.2.2.2.2.2.2.2.2.2.2.2.2.2.2.2.2.2.2.2.2.2.2.2.2.2.2.2.2.2.2.2.2.2.2.2.2.2.2.2.2.2.2.2.2.2.2.2.2.2.1) (x.2.2.2.2.2.2.2.2.2.2.2.2.2.2.2.2.2.2.2.2.2.2.2.2.2.2.2.2.2.2.2.2.2.2.2.2.2.2.2.2.2.2.2.2.2.2.2.2.2.2.2.2.2.2.2.2.2.2.2.2.2.2.2.2.2.2.2.2.2.2.2.2.2.2.2.2.2.2.2.2.2.2.2.2.2.2.2.2.2.2.2.2.2.2.2.2.1) (x.2.2.2.2.2.2.2.2.2.2.2.2.2.2.2.2.2.2.2.2.2.2.2.2.2.2.2.2.2.2.2.2.2.2.2.2.2.2.2.2.2.2.2.2.2.2.2.2.2.2.2.2.2.2.2.2.2.2.2.2.2.2.2.2.2.2.2.2.2.2.2.2.2.2.2.2.2.2.2.2.2.2.2.2.2.2.2.2.2.2.2.2.2.2.2.2.2.1) (x.2.2.2.2.2.2.2.2.2.2.2.2.2.2.2.2.2.2.2.2.2.2.2.2.2.2.2.2.2.2.2.2.2.2.2.2.2.2.2.2.2.2.2.2.2.2.2.2.2.2.2.2.2.2.2.2.2.2.2.2.2.2.2.2.2.2.2.2.2.2.2.2.2.2.2.2.2.2.2.2.2.2.2.2.2.2.2.2.2.2.2.2.2.2.2.2.2.2.1) (x.2.2.2.2.2.2.2.2.2.2.2.2.2.2.2.2.2.2.2.2.2.2.2.2.2.2.2.2.2.2.2.2.2.2.2.2.2.2.2.2.2.2.2.2.2.2.2.2.2.2.2.2.2.2.2.2.2.2.2.2.2.2.2.2.2.2.2.2.2.2.2.2.2.2.2.2.2.2.2.2.2.2.2.2.2.2.2.2.2.2.2.2.2.2.2.2.2.2.2.1) (x.2.2.2.2.2.2.2.2.2.2.2.2.2.2.2.2.2.2.2.2.2.2.2.2.2.2.2.2.2.2.2.2.2.2.2.2.2.2.2.2.2.2.2.2.2.2.2.2.2.2.2.2.2.2.2.2.2.2.2.2.2.2.2.2.2.2.2.2.2.2.2.2.2.2.2.2.2.2.2.2.2.2.2.2.2.2.2.2.2.2.2.2.2.2.2.2.2.2.2.2.1) (x.2.2.2.2.2.2.2.2.2.2.2.2.2.2.2.2.2.2.2.2.2.2.2.2.2.2.2.2.2.2.2.2.2.2.2.2.2.2.2.2.2.2.2.2.2.2.2.2.2.2.2.2.2.2.2.2.2.2.2.2.2.2.2.2.2.2.2.2.2.2.2.2.2.2.2.2.2.2.2.2.2.2.2.2.2.2.2.2.2.2.2.2.2.2.2.2.2.2.2.2.2.1) (x.2.2.2.2.2.2.2.2.2.2.2.2.2.2.2.2.2.2.2.2.2.2.2.2.2.2.2.2.2.2.2.2.2.2.2.2.2.2.2.2.2.2.2.2.2.2.2.2.2.2.2.2.2.2.2.2.2.2.2.2.2.2.2.2.2.2.2.2.2.2.2.2.2.2.2.2.2.2.2.2.2.2.2.2.2.2.2.2.2.2.2.2.2.2.2.2.2.2.2.2.2.2.1) (x.2.2.2.2.2.2.2.2.2.2.2.2.2.2.2.2.2.2.2.2.2.2.2.2.2.2.2.2.2.2.2.2.2.2.2.2.2.2.2.2.2.2.2.2.2.2.2.2.2.2.2.2.2.2.2.2.2.2.2.2.2.2.2.2.2.2.2.2.2.2.2.2.2.2.2.2.2.2.2.2.2.2.2.2.2.2.2.2.2.2.2.2.2.2.2.2.2.2.2.2.2.2.2.1) (x.2.2.2.2.2.2.2.2.2.2.2.2.2.2.2.2.2.2.2.2.2.2.2.2.2.2.2.2.2.2.2.2.2.2.2.2.2.2.2.2.2.2.2.2.2.2.2.2.2.2.2.2.2.2.2.2.2.2.2.2.2.2.2.2.2.2.2.2.2.2.2.2.2.2.2.2.2.2.2.2.2.2.2.2.2.2.2.2.2.2.2.2.2.2.2.2.2.2.2.2.2.2.2.2.1) (x.2.2.2.2.2.2.2.2.2.2.2.2.2.2.2.2.2.2.2.2.2.2.2.2.2.2.2.2.2.2.2.2.2.2.2.2.2.2.2.2.2.2.2.2.2.2.2.2.2.2.2.2.2.2.2.2.2.2.2.2.2.2.2.2.2.2.2.2.2.2.2.2.2.2.2.2.2.2.2.2.2.2.2.2.2.2.2.2.2.2.2.2.2.2.2.2.2.2.2.2.2.2.2.2.2.1) (x.2.2.2.2.2.2.2.2.2.2.2.2.2.2.2.2.2.2.2.2.2.2.2.2.2.2.2.2.2.2.2.2.2.2.2.2.2.2.2.2.2.2.2.2.2.2.2.2.2.2.2.2.2.2.2.2.2.2.2.2.2.2.2.2.2.2.2.2.2.2.2.2.2.2.2.2.2.2.2.2.2.2.2.2.2.2.2.2.2.2.2.2.2.2.2.2.2.2.2.2.2.2.2.2.2.2.1) (x.2.2.2.2.2.2.2.2.2.2.2.2.2.2.2.2.2.2.2.2.2.2.2.2.2.2.2.2.2.2.2.2.2.2.2.2.2.2.2.2.2.2.2.2.2.2.2.2.2.2.2.2.2.2.2.2.2.2.2.2.2.2.2.2.2.2.2.2.2.2.2.2.2.2.2.2.2.2.2.2.2.2.2.2.2.2.2.2.2.2.2.2.2.2.2.2.2.2.2.2.2.2.2.2.2.2.2.1) (x.2.2.2.2.2.2.2.2.2.2.2.2.2.2.2.2.2.2.2.2.2.2.2.2.2.2.2.2.2.2.2.2.2.2.2.2.2.2.2.2.2.2.2.2.2.2.2.2.2.2.2.2.2.2.2.2.2.2.2.2.2.2.2.2.2.2.2.2.2.2.2.2.2.2.2.2.2.2.2.2.2.2.2.2.2.2.2.2.2.2.2.2.2.2.2.2.2.2.2.2.2.2.2.2.2.2.2.2.1) (x.2.2.2.2.2.2.2.2.2.2.2.2.2.2.2.2.2.2.2.2.2.2.2.2.2.2.2.2.2.2.2.2.2.2.2.2.2.2.2.2.2.2.2.2.2.2.2.2.2.2.2.2.2.2.2.2.2.2.2.2.2.2.2.2.2.2.2.2.2.2.2.2.2.2.2.2.2.2.2.2.2.2.2.2.2.2.2.2.2.2.2.2.2.2.2.2.2.2.2.2.2.2.2.2.2.2.2.2.2.1) (x.2.2.2.2.2.2.2.2.2.2.2.2.2.2.2.2.2.2.2.2.2.2.2.2.2.2.2.2.2.2.2.2.2.2.2.2.2.2.2.2.2.2.2.2.2.2.2.2.2.2.2.2.2.2.2.2.2.2.2.2.2.2.2.2.2.2.2.2.2.2.2.2.2.2.2.2.2.2.2.2.2.2.2.2.2.2.2.2.2.2.2.2.2.2.2.2.2.2.2.2.2.2.2.2.2.2.2.2.2.2.1) (x.2.2.2.2.2.2.2.2.2.2.2.2.2.2.2.2.2.2.2.2.2.2.2.2.2.2.2.2.2.2.2.2.2.2.2.2.2.2.2.2.2.2.2.2.2.2.2.2.2.2.2.2.2.2.2.2.2.2.2.2.2.2.2.2.2.2.2.2.2.2.2.2.2.2.2.2.2.2.2.2.2.2.2.2.2.2.2.2.2.2.2.2.2.2.2.2.2.2.2.2.2.2.2.2.2.2.2.2.2.2.2.1) (x.2.2.2.2.2.2.2.2.2.2.2.2.2.2.2.2.2.2.2.2.2.2.2.2.2.2.2.2.2.2.2.2.2.2.2.2.2.2.2.2.2.2.2.2.2.2.2.2.2.2.2.2.2.2.2.2.2.2.2.2.2.2.2.2.2.2.2.2.2.2.2.2.2.2.2.2.2.2.2.2.2.2.2.2.2.2.2.2.2.2.2.2.2.2.2.2.2.2.2.2.2.2.2.2.2.2.2.2.2.2.2.2.1) (x.2.2.2.2.2.2.2.2.2.2.2.2.2.2.2.2.2.2.2.2.2.2.2.2.2.2.2.2.2.2.2.2.2.2.2.2.2.2.2.2.2.2.2.2.2.2.2.2.2.2.2.2.2.2.2.2.2.2.2.2.2.2.2.2.2.2.2.2.2.2.2.2.2.2.2.2.2.2.2.2.2.2.2.2.2.2.2.2.2.2.2.2.2.2.2.2.2.2.2.2.2.2.2.2.2.2.2.2.2.2.2.2.2.1) (x.2.2.2.2.2.2.2.2.2.2.2.2.2.2.2.2.2.2.2.2.2.2.2.2.2.2.2.2.2.2.2.2.2.2.2.2.2.2.2.2.2.2.2.2.2.2.2.2.2.2.2.2.2.2.2.2.2.2.2.2.2.2.2.2.2.2.2.2.2.2.2.2.2.2.2.2.2.2.2.2.2.2.2.2.2.2.2.2.2.2.2.2.2.2.2.2.2.2.2.2.2.2.2.2.2.2.2.2.2.2.2.2.2.2.1) (x.2.2.2.2.2.2.2.2.2.2.2.2.2.2.2.2.2.2.2.2.2.2.2.2.2.2.2.2.2.2.2.2.2.2.2.2.2.2.2.2.2.2.2.2.2.2.2.2.2.2.2.2.2.2.2.2.2.2.2.2.2.2.2.2.2.2.2.2.2.2.2.2.2.2.2.2.2.2.2.2.2.2.2.2.2.2.2.2.2.2.2.2.2.2.2.2.2.2.2.2.2.2.2.2.2.2.2.2.2.2.2.2.2.2.2.1) (x.2.2.2.2.2.2.2.2.2.2.2.2.2.2.2.2.2.2.2.2.2.2.2.2.2.2.2.2.2.2.2.2.2.2.2.2.2.2.2.2.2.2.2.2.2.2.2.2.2.2.2.2.2.2.2.2.2.2.2.2.2.2.2.2.2.2.2.2.2.2.2.2.2.2.2.2.2.2.2.2.2.2.2.2.2.2.2.2.2.2.2.2.2.2.2.2.2.2.2.2.2.2.2.2.2.2.2.2.2.2.2.2.2.2.2.2.1) (x.2.2.2.2.2.2.2.2.2.2.2.2.2.2.2.2.2.2.2.2.2.2.2.2.2.2.2.2.2.2.2.2.2.2.2.2.2.2.2.2.2.2.2.2.2.2.2.2.2.2.2.2.2.2.2.2.2.2.2.2.2.2.2.2.2.2.2.2.2.2.2.2.2.2.2.2.2.2.2.2.2.2.2.2.2.2.2.2.2.2.2.2.2.2.2.2.2.2.2.2.2.2.2.2.2.2.2.2.2.2.2.2.2.2.2.2.2.1) (x.2.2.2.2.2.2.2.2.2.2.2.2.2.2.2.2.2.2.2.2.2.2.2.2.2.2.2.2.2.2.2.2.2.2.2.2.2.2.2.2.2.2.2.2.2.2.2.2.2.2.2.2.2.2.2.2.2.2.2.2.2.2.2.2.2.2.2.2.2.2.2.2.2.2.2.2.2.2.2.2.2.2.2.2.2.2.2.2.2.2.2.2.2.2.2.2.2.2.2.2.2.2.2.2.2.2.2.2.2.2.2.2.2.2.2.2.2.2.1) (x.2.2.2.2.2.2.2.2.2.2.2.2.2.2.2.2.2.2.2.2.2.2.2.2.2.2.2.2.2.2.2.2.2.2.2.2.2.2.2.2.2.2.2.2.2.2.2.2.2.2.2.2.2.2.2.2.2.2.2.2.2.2.2.2.2.2.2.2.2.2.2.2.2.2.2.2.2.2.2.2.2.2.2.2.2.2.2.2.2.2.2.2.2.2.2.2.2.2.2.2.2.2.2.2.2.2.2.2.2.2.2.2.2.2.2.2.2.2.2.1) (x.2.2.2.2.2.2.2.2.2.2.2.2.2.2.2.2.2.2.2.2.2.2.2.2.2.2.2.2.2.2.2.2.2.2.2.2.2.2.2.2.2.2.2.2.2.2.2.2.2.2.2.2.2.2.2.2.2.2.2.2.2.2.2.2.2.2.2.2.2.2.2.2.2.2.2.2.2.2.2.2.2.2.2.2.2.2.2.2.2.2.2.2.2.2.2.2.2.2.2.2.2.2.2.2.2.2.2.2.2.2.2.2.2.2.2.2.2.2.2.2.1) (x.2.2.2.2.2.2.2.2.2.2.2.2.2.2.2.2.2.2.2.2.2.2.2.2.2.2.2.2.2.2.2.2.2.2.2.2.2.2.2.2.2.2.2.2.2.2.2.2.2.2.2.2.2.2.2.2.2.2.2.2.2.2.2.2.2.2.2.2.2.2.2.2.2.2.2.2.2.2.2.2.2.2.2.2.2.2.2.2.2.2.2.2.2.2.2.2.2.2.2.2.2.2.2.2.2.2.2.2.2.2.2.2.2.2.2.2.2.2.2.2.2.1) (x.2.2.2.2.2.2.2.2.2.2.2.2.2.2.2.2.2.2.2.2.2.2.2.2.2.2.2.2.2.2.2.2.2.2.2.2.2.2.2.2.2.2.2.2.2.2.2.2.2.2.2.2.2.2.2.2.2.2.2.2.2.2.2.2.2.2.2.2.2.2.2.2.2.2.2.2.2.2.2.2.2.2.2.2.2.2.2.2.2.2.2.2.2.2.2.2.2.2.2.2.2.2.2.2.2.2.2.2.2.2.2.2.2.2.2.2.2.2.2.2.2.2.1) (x.2.2.2.2.2.2.2.2.2.2.2.2.2.2.2.2.2.2.2.2.2.2.2.2.2.2.2.2.2.2.2.2.2.2.2.2.2.2.2.2.2.2.2.2.2.2.2.2.2.2.2.2.2.2.2.2.2.2.2.2.2.2.2.2.2.2.2.2.2.2.2.2.2.2.2.2.2.2.2.2.2.2.2.2.2.2.2.2.2.2.2.2.2.2.2.2.2.2.2.2.2.2.2.2.2.2.2.2.2.2.2.2.2.2.2.2.2.2.2.2.2.2.2.1) (x.2.2.2.2.2.2.2.2.2.2.2.2.2.2.2.2.2.2.2.2.2.2.2.2.2.2.2.2.2.2.2.2.2.2.2.2.2.2.2.2.2.2.2.2.2.2.2.2.2.2.2.2.2.2.2.2.2.2.2.2.2.2.2.2.2.2.2.2.2.2.2.2.2.2.2.2.2.2.2.2.2.2.2.2.2.2.2.2.2.2.2.2.2.2.2.2.2.2.2.2.2.2.2.2.2.2.2.2.2.2.2.2.2.2.2.2.2.2.2.2.2.2.2.2.1) (x.2.2.2.2.2.2.2.2.2.2.2.2.2.2.2.2.2.2.2.2.2.2.2.2.2.2.2.2.2.2.2.2.2.2.2.2.2.2.2.2.2.2.2.2.2.2.2.2.2.2.2.2.2.2.2.2.2.2.2.2.2.2.2.2.2.2.2.2.2.2.2.2.2.2.2.2.2.2.2.2.2.2.2.2.2.2.2.2.2.2.2.2.2.2.2.2.2.2.2.2.2.2.2.2.2.2.2.2.2.2.2.2.2.2.2.2.2.2.2.2.2.2.2.2.2.1) (x.2.2.2.2.2.2.2.2.2.2.2.2.2.2.2.2.2.2.2.2.2.2.2.2.2.2.2.2.2.2.2.2.2.2.2.2.2.2.2.2.2.2.2.2.2.2.2.2.2.2.2.2.2.2.2.2.2.2.2.2.2.2.2.2.2.2.2.2.2.2.2.2.2.2.2.2.2.2.2.2.2.2.2.2.2.2.2.2.2.2.2.2.2.2.2.2.2.2.2.2.2.2.2.2.2.2.2.2.2.2.2.2.2.2.2.2.2.2.2.2.2.2.2.2.2.2.1) (x.2.2.2.2.2.2.2.2.2.2.2.2.2.2.2.2.2.2.2.2.2.2.2.2.2.2.2.2.2.2.2.2.2.2.2.2.2.2.2.2.2.2.2.2.2.2.2.2.2.2.2.2.2.2.2.2.2.2.2.2.2.2.2.2.2.2.2.2.2.2.2.2.2.2.2.2.2.2.2.2.2.2.2.2.2.2.2.2.2.2.2.2.2.2.2.2.2.2.2.2.2.2.2.2.2.2.2.2.2.2.2.2.2.2.2.2.2.2.2.2.2.2.2.2.2.2.2.1) (x.2.2.2.2.2.2.2.2.2.2.2.2.2.2.2.2.2.2.2.2.2.2.2.2.2.2.2.2.2.2.2.2.2.2.2.2.2.2.2.2.2.2.2.2.2.2.2.2.2.2.2.2.2.2.2.2.2.2.2.2.2.2.2.2.2.2.2.2.2.2.2.2.2.2.2.2.2.2.2.2.2.2.2.2.2.2.2.2.2.2.2.2.2.2.2.2.2.2.2.2.2.2.2.2.2.2.2.2.2.2.2.2.2.2.2.2.2.2.2.2.2.2.2.2.2.2.2.2.1) (x.2.2.2.2.2.2.2.2.2.2.2.2.2.2.2.2.2.2.2.2.2.2.2.2.2.2.2.2.2.2.2.2.2.2.2.2.2.2.2.2.2.2.2.2.2.2.2.2.2.2.2.2.2.2.2.2.2.2.2.2.2.2.2.2.2.2.2.2.2.2.2.2.2.2.2.2.2.2.2.2.2.2.2.2.2.2.2.2.2.2.2.2.2.2.2.2.2.2.2.2.2.2.2.2.2.2.2.2.2.2.2.2.2.2.2.2.2.2.2.2.2.2.2.2.2.2.2.2.2.1) (x.2.2.2.2.2.2.2.2.2.2.2.2.2.2.2.2.2.2.2.2.2.2.2.2.2.2.2.2.2.2.2.2.2.2.2.2.2.2.2.2.2.2.2.2.2.2.2.2.2.2.2.2.2.2.2.2.2.2.2.2.2.2.2.2.2.2.2.2.2.2.2.2.2.2.2.2.2.2.2.2.2.2.2.2.2.2.2.2.2.2.2.2.2.2.2.2.2.2.2.2.2.2.2.2.2.2.2.2.2.2.2.2.2.2.2.2.2.2.2.2.2.2.2.2.2.2.2.2.2.2)
theorem ne : Nonempty Pack := ⟨(aWorld 1, default, default, default, default, default, default, default, default, default, default, (start Mine.view).1, default, default, default, default, default, default, default, default, default, default, default, default, default, default, default, default, default, default, default, default, default, default, default, default, default, default, default, default, default, default, default, default, default, default, default, default, default, default, default, default, default, default, default, default, default, default, default, default, default, default, default, default, default, default, default, default, default, default, default, default, default, default, default, default, default, default, default, default, default, default, default, default, default, default, default, default, default, default, default, default, default, default, default, default, default, default, default, default, default, default, default, default, default, default, default, default, default, default, default, default, default, default, default, default, default, default, default, default, default, default, default, default, default, default, default, default, default, default, default)⟩
@[irreducible] noncomputable def pk : Pack := bad ne PrX
@[irreducible] noncomputable def w : World := pk.1
@[irreducible] noncomputable def p : Program := pk.2.1
@[irreducible] noncomputable def loose : List Str := pk.2.2.1
@[irreducible] noncomputable def mean : ExcName → Option Value := pk.2.2.2.1
@[irreducible] noncomputable def mg : Str → Option Value := pk.2.2.2.2.1
@[irreducible] noncomputable def mb : Str → Option Value := pk.2.2.2.2.2.1
@[irreducible] noncomputable def fa : Addr := pk.2.2.2.2.2.2.1
@[irreducible] noncomputable def cd : Value := pk.2.2.2.2.2.2.2.1
@[irreducible] noncomputable def h₀ : Heap := pk.2.2.2.2.2.2.2.2.1
@[irreducible] noncomputable def L : Addr := pk.2.2.2.2.2.2.2.2.2.1
@[irreducible] noncomputable def m : Str → Option Value := pk.2.2.2.2.2.2.2.2.2.2.1
@[irreducible] noncomputable def s : Shared := pk.2.2.2.2.2.2.2.2.2.2.2.1
@[irreducible] noncomputable def Q : Flow → Shared → Prop := pk.2.2.2.2.2.2.2.2.2.2.2.2.1
@[irreducible] noncomputable def S : Addr := pk.2.2.2.2.2.2.2.2.2.2.2.2.2.1
@[irreducible] noncomputable def I : Addr := pk.2.2.2.2.2.2.2.2.2.2.2.2.2.2.1
@[irreducible] noncomputable def ns : Nat := pk.2.2.2.2.2.2.2.2.2.2.2.2.2.2.2.1
@[irreducible] noncomputable def ni : Nat := pk.2.2.2.2.2.2.2.2.2.2.2.2.2.2.2.2.1
@[irreducible] noncomputable def b1 : Addr := pk.2.2.2.2.2.2.2.2.2.2.2.2.2.2.2.2.2.1
@[irreducible] noncomputable def b2 : Addr := pk.2.2.2.2.2.2.2.2.2.2.2.2.2.2.2.2.2.2.1
@[irreducible] noncomputable def b3 : Addr := pk.2.2.2.2.2.2.2.2.2.2.2.2.2.2.2.2.2.2.2.1
@[irreducible] noncomputable def b4 : Addr := pk.2.2.2.2.2.2.2.2.2.2.2.2.2.2.2.2.2.2.2.2.1
@[irreducible] noncomputable def b5 : Addr := pk.2.2.2.2.2.2.2.2.2.2.2.2.2.2.2.2.2.2.2.2.2.1
@[irreducible] noncomputable def p1 : Int := pk.2.2.2.2.2.2.2.2.2.2.2.2.2.2.2.2.2.2.2.2.2.2.1
@[irreducible] noncomputable def q1 : Int := pk.2.2.2.2.2.2.2.2.2.2.2.2.2.2.2.2.2.2.2.2.2.2.2.1
@[irreducible] noncomputable def r1 : Int := pk.2.2.2.2.2.2.2.2.2.2.2.2.2.2.2.2.2.2.2.2.2.2.2.2.1
@[irreducible] noncomputable def v1 : Int := pk.2.2.2.2.2.2.2.2.2.2.2.2.2.2.2.2.2.2.2.2.2.2.2.2.2.1
@[irreducible] noncomputable def p2 : Int := pk.2.2.2.2.2.2.2.2.2.2.2.2.2.2.2.2.2.2.2.2.2.2.2.2.2.2.1
@[irreducible] noncomputable def q2 : Int := pk.2.2.2.2.2.2.2.2.2.2.2.2.2.2.2.2.2.2.2.2.2.2.2.2.2.2.2.1
@[irreducible] noncomputable def r2 : Int := pk.2.2.2.2.2.2.2.2.2.2.2.2.2.2.2.2.2.2.2.2.2.2.2.2.2.2.2.2.1
@[irreducible] noncomputable def v2 : Int := pk.2.2.2.2.2.2.2.2.2.2.2.2.2.2.2.2.2.2.2.2.2.2.2.2.2.2.2.2.2.1
@[irreducible] noncomputable def p3 : Int := pk.2.2.2.2.2.2.2.2.2.2.2.2.2.2.2.2.2.2.2.2.2.2.2.2.2.2.2.2.2.2.1
@[irreducible] noncomputable def q3 : Int := pk.2.2.2.2.2.2.2.2.2.2.2.2.2.2.2.2.2.2.2.2.2.2.2.2.2.2.2.2.2.2.2.1
@[irreducible] noncomputable def r3 : Int := pk.2.2.2.2.2.2.2.2.2.2.2.2.2.2.2.2.2.2.2.2.2.2.2.2.2.2.2.2.2.2.2.2.1
@[irreducible] noncomputable def v3 : Int := pk.2.2.2.2.2.2.2.2.2.2.2.2.2.2.2.2.2.2.2.2.2.2.2.2.2.2.2.2.2.2.2.2.2.1
@[irreducible] noncomputable def p4 : Int := pk.2.2.2.2.2.2.2.2.2.2.2.2.2.2.2.2.2.2.2.2.2.2.2.2.2.2.2.2.2.2.2.2.2.2.1
@[irreducible] noncomputable def q4 : Int := pk.2.2.2.2.2.2.2.2.2.2.2.2.2.2.2.2.2.2.2.2.2.2.2.2.2.2.2.2.2.2.2.2.2.2.2.1
@[irreducible] noncomputable def r4 : Int := pk.2.2.2.2.2.2.2.2.2.2.2.2.2.2.2.2.2.2.2.2.2.2.2.2.2.2.2.2.2.2.2.2.2.2.2.2.1
@[irreducible] noncomputable def v4 : Int := pk.2.2.2.2.2.2.2.2.2.2.2.2.2.2.2.2.2.2.2.2.2.2.2.2.2.2.2.2.2.2.2.2.2.2.2.2.2.1
@[irreducible] noncomputable def p5 : Int := pk.2.2.2.2.2.2.2.2.2.2.2.2.2.2.2.2.2.2.2.2.2.2.2.2.2.2.2.2.2.2.2.2.2.2.2.2.2.2.1
@[irreducible] noncomputable def q5 : Int := pk.2.2.2.2.2.2.2.2.2.2.2.2.2.2.2.2.2.2.2.2.2.2.2.2.2.2.2.2.2.2.2.2.2.2.2.2.2.2.2.1
@[irreducible] noncomputable def r5 : Int := pk.2.2.2.2.2.2.2.2.2.2.2.2.2.2.2.2.2.2.2.2.2.2.2.2.2.2.2.2.2.2.2.2.2.2.2.2.2.2.2.2.1
@[irreducible] noncomputable def v5 : Int := pk.2.2.2.2.2.2.2.2.2.2.2.2.2.2.2.2.2.2.2.2.2.2.2.2.2.2.2.2.2.2.2.2.2.2.2.2.2.2.2.2.2.1
@[irreducible] noncomputable def n1 : Nat := pk.2.2.2.2.2.2.2.2.2.2.2.2.2.2.2.2.2.2.2.2.2.2.2.2.2.2.2.2.2.2.2.2.2.2.2.2.2.2.2.2.2.2.1
@[irreducible] noncomputable def n2 : Nat := pk.2.2.2.2.2.2.2.2.2.2.2.2.2.2.2.2.2.2.2.2.2.2.2.2.2.2.2.2.2.2.2.2.2.2.2.2.2.2.2.2.2.2.2.1
@[irreducible] noncomputable def n3 : Nat := pk.2.2.2.2.2.2.2.2.2.2.2.2.2.2.2.2.2.2.2.2.2.2.2.2.2.2.2.2.2.2.2.2.2.2.2.2.2.2.2.2.2.2.2.2.1
@[irreducible] noncomputable def n4 : Nat := pk.2.2.2.2.2.2.2.2.2.2.2.2.2.2.2.2.2.2.2.2.2.2.2.2.2.2.2.2.2.2.2.2.2.2.2.2.2.2.2.2.2.2.2.2.2.1
@[irreducible] noncomputable def n5 : Nat := pk.2.2.2.2.2.2.2.2.2.2.2.2.2.2.2.2.2.2.2.2.2.2.2.2.2.2.2.2.2.2.2.2.2.2.2.2.2.2.2.2.2.2.2.2.2.2.1
@[irreducible] noncomputable def x1 : Tok := pk.2.2.2.2.2.2.2.2.2.2.2.2.2.2.2.2.2.2.2.2.2.2.2.2.2.2.2.2.2.2.2.2.2.2.2.2.2.2.2.2.2.2.2.2.2.2.2.1
@[irreducible] noncomputable def x1' : Tok := pk.2.2.2.2.2.2.2.2.2.2.2.2.2.2.2.2.2.2.2.2.2.2.2.2.2.2.2.2.2.2.2.2.2.2.2.2.2.2.2.2.2.2.2.2.2.2.2.2.1
@[irreducible] noncomputable def x1'' : Tok := pk.2.2.2.2.2.2.2.2.2.2.2.2.2.2.2.2.2.2.2.2.2.2.2.2.2.2.2.2.2.2.2.2.2.2.2.2.2.2.2.2.2.2.2.2.2.2.2.2.2.1
@[irreducible] noncomputable def y1 : Tok := pk.2.2.2.2.2.2.2.2.2.2.2.2.2.2.2.2.2.2.2.2.2.2.2.2.2.2.2.2.2.2.2.2.2.2.2.2.2.2.2.2.2.2.2.2.2.2.2.2.2.2.1
@[irreducible] noncomputable def x2 : Tok := pk.2.2.2.2.2.2.2.2.2.2.2.2.2.2.2.2.2.2.2.2.2.2.2.2.2.2.2.2.2.2.2.2.2.2.2.2.2.2.2.2.2.2.2.2.2.2.2.2.2.2.2.1
@[irreducible] noncomputable def x2' : Tok := pk.2.2.2.2.2.2.2.2.2.2.2.2.2.2.2.2.2.2.2.2.2.2.2.2.2.2.2.2.2.2.2.2.2.2.2.2.2.2.2.2.2.2.2.2.2.2.2.2.2.2.2.2.1
@[irreducible] noncomputable def x2'' : Tok := pk.2.2.2.2.2.2.2.2.2.2.2.2.2.2.2.2.2.2.2.2.2.2.2.2.2.2.2.2.2.2.2.2.2.2.2.2.2.2.2.2.2.2.2.2.2.2.2.2.2.2.2.2.2.1
@[irreducible] noncomputable def y2 : Tok := pk.2.2.2.2.2.2.2.2.2.2.2.2.2.2.2.2.2.2.2.2.2.2.2.2.2.2.2.2.2.2.2.2.2.2.2.2.2.2.2.2.2.2.2.2.2.2.2.2.2.2.2.2.2.2.1
@[irreducible] noncomputable def x3 : Tok := pk.2.2.2.2.2.2.2.2.2.2.2.2.2.2.2.2.2.2.2.2.2.2.2.2.2.2.2.2.2.2.2.2.2.2.2.2.2.2.2.2.2.2.2.2.2.2.2.2.2.2.2.2.2.2.2.1
@[irreducible] noncomputable def x3' : Tok := pk.2.2.2.2.2.2.2.2.2.2.2.2.2.2.2.2.2.2.2.2.2.2.2.2.2.2.2.2.2.2.2.2.2.2.2.2.2.2.2.2.2.2.2.2.2.2.2.2.2.2.2.2.2.2.2.2.1
@[irreducible] noncomputable def x3'' : Tok := pk.2.2.2.2.2.2.2.2.2.2.2.2.2.2.2.2.2.2.2.2.2.2.2.2.2.2.2.2.2.2.2.2.2.2.2.2.2.2.2.2.2.2.2.2.2.2.2.2.2.2.2.2.2.2.2.2.2.1
@[irreducible] noncomputable def y3 : Tok := pk.2.2.2.2.2.2.2.2.2.2.2.2.2.2.2.2.2.2.2.2.2.2.2.2.2.2.2.2.2.2.2.2.2.2.2.2.2.2.2.2.2.2.2.2.2.2.2.2.2.2.2.2.2.2.2.2.2.2.1
@[irreducible] noncomputable def x4 : Tok := pk.2.2.2.2.2.2.2.2.2.2.2.2.2.2.2.2.2.2.2.2.2.2.2.2.2.2.2.2.2.2.2.2.2.2.2.2.2.2.2.2.2.2.2.2.2.2.2.2.2.2.2.2.2.2.2.2.2.2.2.1
@[irreducible] noncomputable def x4' : Tok := pk.2.2.2.2.2.2.2.2.2.2.2.2.2.2.2.2.2.2.2.2.2.2.2.2.2.2.2.2.2.2.2.2.2.2.2.2.2.2.2.2.2.2.2.2.2.2.2.2.2.2.2.2.2.2.2.2.2.2.2.2.1
@[irreducible] noncomputable def x4'' : Tok := pk.2.2.2.2.2.2.2.2.2.2.2.2.2.2.2.2.2.2.2.2.2.2.2.2.2.2.2.2.2.2.2.2.2.2.2.2.2.2.2.2.2.2.2.2.2.2.2.2.2.2.2.2.2.2.2.2.2.2.2.2.2.1
@[irreducible] noncomputable def y4 : Tok := pk.2.2.2.2.2.2.2.2.2.2.2.2.2.2.2.2.2.2.2.2.2.2.2.2.2.2.2.2.2.2.2.2.2.2.2.2.2.2.2.2.2.2.2.2.2.2.2.2.2.2.2.2.2.2.2.2.2.2.2.2.2.2.1
@[irreducible] noncomputable def x5 : Tok := pk.2.2.2.2.2.2.2.2.2.2.2.2.2.2.2.2.2.2.2.2.2.2.2.2.2.2.2.2.2.2.2.2.2.2.2.2.2.2.2.2.2.2.2.2.2.2.2.2.2.2.2.2.2.2.2.2.2.2.2.2.2.2.2.1
@[irreducible] noncomputable def x5' : Tok := pk.2.2.2.2.2.2.2.2.2.2.2.2.2.2.2.2.2.2.2.2.2.2.2.2.2.2.2.2.2.2.2.2.2.2.2.2.2.2.2.2.2.2.2.2.2.2.2.2.2.2.2.2.2.2.2.2.2.2.2.2.2.2.2.2.1
@[irreducible] noncomputable def x5'' : Tok := pk.2.2.2.2.2.2.2.2.2.2.2.2.2.2.2.2.2.2.2.2.2.2.2.2.2.2.2.2.2.2.2.2.2.2.2.2.2.2.2.2.2.2.2.2.2.2.2.2.2.2.2.2.2.2.2.2.2.2.2.2.2.2.2.2.2.1
@[irreducible] noncomputable def y5 : Tok := pk.2.2.2.2.2.2.2.2.2.2.2.2.2.2.2.2.2.2.2.2.2.2.2.2.2.2.2.2.2.2.2.2.2.2.2.2.2.2.2.2.2.2.2.2.2.2.2.2.2.2.2.2.2.2.2.2.2.2.2.2.2.2.2.2.2.2.1
@[irreducible] noncomputable def ga1 : Int := pk.2.2.2.2.2.2.2.2.2.2.2.2.2.2.2.2.2.2.2.2.2.2.2.2.2.2.2.2.2.2.2.2.2.2.2.2.2.2.2.2.2.2.2.2.2.2.2.2.2.2.2.2.2.2.2.2.2.2.2.2.2.2.2.2.2.2.2.1
@[irreducible] noncomputable def ga2 : Int := pk.2.2.2.2.2.2.2.2.2.2.2.2.2.2.2.2.2.2.2.2.2.2.2.2.2.2.2.2.2.2.2.2.2.2.2.2.2.2.2.2.2.2.2.2.2.2.2.2.2.2.2.2.2.2.2.2.2.2.2.2.2.2.2.2.2.2.2.2.1
@[irreducible] noncomputable def ga3 : Int := pk.2.2.2.2.2.2.2.2.2.2.2.2.2.2.2.2.2.2.2.2.2.2.2.2.2.2.2.2.2.2.2.2.2.2.2.2.2.2.2.2.2.2.2.2.2.2.2.2.2.2.2.2.2.2.2.2.2.2.2.2.2.2.2.2.2.2.2.2.2.1
@[irreducible] noncomputable def ga4 : Int := pk.2.2.2.2.2.2.2.2.2.2.2.2.2.2.2.2.2.2.2.2.2.2.2.2.2.2.2.2.2.2.2.2.2.2.2.2.2.2.2.2.2.2.2.2.2.2.2.2.2.2.2.2.2.2.2.2.2.2.2.2.2.2.2.2.2.2.2.2.2.2.1
@[irreducible] noncomputable def ga5 : Int := pk.2.2.2.2.2.2.2.2.2.2.2.2.2.2.2.2.2.2.2.2.2.2.2.2.2.2.2.2.2.2.2.2.2.2.2.2.2.2.2.2.2.2.2.2.2.2.2.2.2.2.2.2.2.2.2.2.2.2.2.2.2.2.2.2.2.2.2.2.2.2.2.1
@[irreducible] noncomputable def gb1 : Int := pk.2.2.2.2.2.2.2.2.2.2.2.2.2.2.2.2.2.2.2.2.2.2.2.2.2.2.2.2.2.2.2.2.2.2.2.2.2.2.2.2.2.2.2.2.2.2.2.2.2.2.2.2.2.2.2.2.2.2.2.2.2.2.2.2.2.2.2.2.2.2.2.2.1
@[irreducible] noncomputable def gb2 : Int := pk.2.2.2.2.2.2.2.2.2.2.2.2.2.2.2.2.2.2.2.2.2.2.2.2.2.2.2.2.2.2.2.2.2.2.2.2.2.2.2.2.2.2.2.2.2.2.2.2.2.2.2.2.2.2.2.2.2.2.2.2.2.2.2.2.2.2.2.2.2.2.2.2.2.1
@[irreducible] noncomputable def gb3 : Int := pk.2.2.2.2.2.2.2.2.2.2.2.2.2.2.2.2.2.2.2.2.2.2.2.2.2.2.2.2.2.2.2.2.2.2.2.2.2.2.2.2.2.2.2.2.2.2.2.2.2.2.2.2.2.2.2.2.2.2.2.2.2.2.2.2.2.2.2.2.2.2.2.2.2.2.1
@[irreducible] noncomputable def gb4 : Int := pk.2.2.2.2.2.2.2.2.2.2.2.2.2.2.2.2.2.2.2.2.2.2.2.2.2.2.2.2.2.2.2.2.2.2.2.2.2.2.2.2.2.2.2.2.2.2.2.2.2.2.2.2.2.2.2.2.2.2.2.2.2.2.2.2.2.2.2.2.2.2.2.2.2.2.2.1
@[irreducible] noncomputable def gb5 : Int := pk.2.2.2.2.2.2.2.2.2.2.2.2.2.2.2.2.2.2.2.2.2.2.2.2.2.2.2.2.2.2.2.2.2.2.2.2.2.2.2.2.2.2.2.2.2.2.2.2.2.2.2.2.2.2.2.2.2.2.2.2.2.2.2.2.2.2.2.2.2.2.2.2.2.2.2.2.1
@[irreducible] noncomputable def gc1 : Int := pk.2.2.2.2.2.2.2.2.2.2.2.2.2.2.2.2.2.2.2.2.2.2.2.2.2.2.2.2.2.2.2.2.2.2.2.2.2.2.2.2.2.2.2.2.2.2.2.2.2.2.2.2.2.2.2.2.2.2.2.2.2.2.2.2.2.2.2.2.2.2.2.2.2.2.2.2.2.1
@[irreducible] noncomputable def gc2 : Int := pk.2.2.2.2.2.2.2.2.2.2.2.2.2.2.2.2.2.2.2.2.2.2.2.2.2.2.2.2.2.2.2.2.2.2.2.2.2.2.2.2.2.2.2.2.2.2.2.2.2.2.2.2.2.2.2.2.2.2.2.2.2.2.2.2.2.2.2.2.2.2.2.2.2.2.2.2.2.2.1
@[irreducible] noncomputable def gc3 : Int := pk.2.2.2.2.2.2.2.2.2.2.2.2.2.2.2.2.2.2.2.2.2.2.2.2.2.2.2.2.2.2.2.2.2.2.2.2.2.2.2.2.2.2.2.2.2.2.2.2.2.2.2.2.2.2.2.2.2.2.2.2.2.2.2.2.2.2.2.2.2.2.2.2.2.2.2.2.2.2.2.1
@[irreducible] noncomputable def gc4 : Int := pk.2.2.2.2.2.2.2.2.2.2.2.2.2.2.2.2.2.2.2.2.2.2.2.2.2.2.2.2.2.2.2.2.2.2.2.2.2.2.2.2.2.2.2.2.2.2.2.2.2.2.2.2.2.2.2.2.2.2.2.2.2.2.2.2.2.2.2.2.2.2.2.2.2.2.2.2.2.2.2.2.1
@[irreducible] noncomputable def gc5 : Int := pk.2.2.2.2.2.2.2.2.2.2.2.2.2.2.2.2.2.2.2.2.2.2.2.2.2.2.2.2.2.2.2.2.2.2.2.2.2.2.2.2.2.2.2.2.2.2.2.2.2.2.2.2.2.2.2.2.2.2.2.2.2.2.2.2.2.2.2.2.2.2.2.2.2.2.2.2.2.2.2.2.2.1
@[irreducible] noncomputable def gi1 : Int := pk.2.2.2.2.2.2.2.2.2.2.2.2.2.2.2.2.2.2.2.2.2.2.2.2.2.2.2.2.2.2.2.2.2.2.2.2.2.2.2.2.2.2.2.2.2.2.2.2.2.2.2.2.2.2.2.2.2.2.2.2.2.2.2.2.2.2.2.2.2.2.2.2.2.2.2.2.2.2.2.2.2.2.1
@[irreducible] noncomputable def gi2 : Int := pk.2.2.2.2.2.2.2.2.2.2.2.2.2.2.2.2.2.2.2.2.2.2.2.2.2.2.2.2.2.2.2.2.2.2.2.2.2.2.2.2.2.2.2.2.2.2.2.2.2.2.2.2.2.2.2.2.2.2.2.2.2.2.2.2.2.2.2.2.2.2.2.2.2.2.2.2.2.2.2.2.2.2.2.1
@[irreducible] noncomputable def gi3 : Int := pk.2.2.2.2.2.2.2.2.2.2.2.2.2.2.2.2.2.2.2.2.2.2.2.2.2.2.2.2.2.2.2.2.2.2.2.2.2.2.2.2.2.2.2.2.2.2.2.2.2.2.2.2.2.2.2.2.2.2.2.2.2.2.2.2.2.2.2.2.2.2.2.2.2.2.2.2.2.2.2.2.2.2.2.2.1
@[irreducible] noncomputable def gi4 : Int := pk.2.2.2.2.2.2.2.2.2.2.2.2.2.2.2.2.2.2.2.2.2.2.2.2.2.2.2.2.2.2.2.2.2.2.2.2.2.2.2.2.2.2.2.2.2.2.2.2.2.2.2.2.2.2.2.2.2.2.2.2.2.2.2.2.2.2.2.2.2.2.2.2.2.2.2.2.2.2.2.2.2.2.2.2.2.1
@[irreducible] noncomputable def gi5 : Int := pk.2.2.2.2.2.2.2.2.2.2.2.2.2.2.2.2.2.2.2.2.2.2.2.2.2.2.2.2.2.2.2.2.2.2.2.2.2.2.2.2.2.2.2.2.2.2.2.2.2.2.2.2.2.2.2.2.2.2.2.2.2.2.2.2.2.2.2.2.2.2.2.2.2.2.2.2.2.2.2.2.2.2.2.2.2.2.1
@[irreducible] noncomputable def J : Addr := pk.2.2.2.2.2.2.2.2.2.2.2.2.2.2.2.2.2.2.2.2.2.2.2.2.2.2.2.2.2.2.2.2.2.2.2.2.2.2.2.2.2.2.2.2.2.2.2.2.2.2.2.2.2.2.2.2.2.2.2.2.2.2.2.2.2.2.2.2.2.2.2.2.2.2.2.2.2.2.2.2.2.2.2.2.2.2.2.1
@[irreducible] noncomputable def G : Addr := pk.2.2.2.2.2.2.2.2.2.2.2.2.2.2.2.2.2.2.2.2.2.2.2.2.2.2.2.2.2.2.2.2.2.2.2.2.2.2.2.2.2.2.2.2.2.2.2.2.2.2.2.2.2.2.2.2.2.2.2.2.2.2.2.2.2.2.2.2.2.2.2.2.2.2.2.2.2.2.2.2.2.2.2.2.2.2.2.2.1
@[irreducible] noncomputable def ea : Addr := pk.2.2.2.2.2.2.2.2.2.2.2.2.2.2.2.2.2.2.2.2.2.2.2.2.2.2.2.2.2.2.2.2.2.2.2.2.2.2.2.2.2.2.2.2.2.2.2.2.2.2.2.2.2.2.2.2.2.2.2.2.2.2.2.2.2.2.2.2.2.2.2.2.2.2.2.2.2.2.2.2.2.2.2.2.2.2.2.2.2.1
@[irreducible] noncomputable def eb : Addr := pk.2.2.2.2.2.2.2.2.2.2.2.2.2.2.2.2.2.2.2.2.2.2.2.2.2.2.2.2.2.2.2.2.2.2.2.2.2.2.2.2.2.2.2.2.2.2.2.2.2.2.2.2.2.2.2.2.2.2.2.2.2.2.2.2.2.2.2.2.2.2.2.2.2.2.2.2.2.2.2.2.2.2.2.2.2.2.2.2.2.2.1
@[irreducible] noncomputable def ec : Addr := pk.2.2.2.2.2.2.2.2.2.2.2.2.2.2.2.2.2.2.2.2.2.2.2.2.2.2.2.2.2.2.2.2.2.2.2.2.2.2.2.2.2.2.2.2.2.2.2.2.2.2.2.2.2.2.2.2.2.2.2.2.2.2.2.2.2.2.2.2.2.2.2.2.2.2.2.2.2.2.2.2.2.2.2.2.2.2.2.2.2.2.2.1
@[irreducible] noncomputable def Ah : Addr := pk.2.2.2.2.2.2.2.2.2.2.2.2.2.2.2.2.2.2.2.2.2.2.2.2.2.2.2.2.2.2.2.2.2.2.2.2.2.2.2.2.2.2.2.2.2.2.2.2.2.2.2.2.2.2.2.2.2.2.2.2.2.2.2.2.2.2.2.2.2.2.2.2.2.2.2.2.2.2.2.2.2.2.2.2.2.2.2.2.2.2.2.2.1
@[irreducible] noncomputable def ka : Int := pk.2.2.2.2.2.2.2.2.2.2.2.2.2.2.2.2.2.2.2.2.2.2.2.2.2.2.2.2.2.2.2.2.2.2.2.2.2.2.2.2.2.2.2.2.2.2.2.2.2.2.2.2.2.2.2.2.2.2.2.2.2.2.2.2.2.2.2.2.2.2.2.2.2.2.2.2.2.2.2.2.2.2.2.2.2.2.2.2.2.2.2.2.2.1
@[irreducible] noncomputable def kb : Int := pk.2.2.2.2.2.2.2.2.2.2.2.2.2.2.2.2.2.2.2.2.2.2.2.2.2.2.2.2.2.2.2.2.2.2.2.2.2.2.2.2.2.2.2.2.2.2.2.2.2.2.2.2.2.2.2.2.2.2.2.2.2.2.2.2.2.2.2.2.2.2.2.2.2.2.2.2.2.2.2.2.2.2.2.2.2.2.2.2.2.2.2.2.2.2.1
@[irreducible] noncomputable def kc : Int := pk.2.2.2.2.2.2.2.2.2.2.2.2.2.2.2.2.2.2.2.2.2.2.2.2.2.2.2.2.2.2.2.2.2.2.2.2.2.2.2.2.2.2.2.2.2.2.2.2.2.2.2.2.2.2.2.2.2.2.2.2.2.2.2.2.2.2.2.2.2.2.2.2.2.2.2.2.2.2.2.2.2.2.2.2.2.2.2.2.2.2.2.2.2.2.2.1
@[irreducible] noncomputable def o2 : Obj := pk.2.2.2.2.2.2.2.2.2.2.2.2.2.2.2.2.2.2.2.2.2.2.2.2.2.2.2.2.2.2.2.2.2.2.2.2.2.2.2.2.2.2.2.2.2.2.2.2.2.2.2.2.2.2.2.2.2.2.2.2.2.2.2.2.2.2.2.2.2.2.2.2.2.2.2.2.2.2.2.2.2.2.2.2.2.2.2.2.2.2.2.2.2.2.2.2.1
@[irreducible] noncomputable def o3 : Obj := pk.2.2.2.2.2.2.2.2.2.2.2.2.2.2.2.2.2.2.2.2.2.2.2.2.2.2.2.2.2.2.2.2.2.2.2.2.2.2.2.2.2.2.2.2.2.2.2.2.2.2.2.2.2.2.2.2.2.2.2.2.2.2.2.2.2.2.2.2.2.2.2.2.2.2.2.2.2.2.2.2.2.2.2.2.2.2.2.2.2.2.2.2.2.2.2.2.2.1
@[irreducible] noncomputable def o5 : Obj := pk.2.2.2.2.2.2.2.2.2.2.2.2.2.2.2.2.2.2.2.2.2.2.2.2.2.2.2.2.2.2.2.2.2.2.2.2.2.2.2.2.2.2.2.2.2.2.2.2.2.2.2.2.2.2.2.2.2.2.2.2.2.2.2.2.2.2.2.2.2.2.2.2.2.2.2.2.2.2.2.2.2.2.2.2.2.2.2.2.2.2.2.2.2.2.2.2.2.2.1
@[irreducible] noncomputable def o9 : Obj := pk.2.2.2.2.2.2.2.2.2.2.2.2.2.2.2.2.2.2.2.2.2.2.2.2.2.2.2.2.2.2.2.2.2.2.2.2.2.2.2.2.2.2.2.2.2.2.2.2.2.2.2.2.2.2.2.2.2.2.2.2.2.2.2.2.2.2.2.2.2.2.2.2.2.2.2.2.2.2.2.2.2.2.2.2.2.2.2.2.2.2.2.2.2.2.2.2.2.2.2.1
@[irreducible] noncomputable def t1 : Tok := pk.2.2.2.2.2.2.2.2.2.2.2.2.2.2.2.2.2.2.2.2.2.2.2.2.2.2.2.2.2.2.2.2.2.2.2.2.2.2.2.2.2.2.2.2.2.2.2.2.2.2.2.2.2.2.2.2.2.2.2.2.2.2.2.2.2.2.2.2.2.2.2.2.2.2.2.2.2.2.2.2.2.2.2.2.2.2.2.2.2.2.2.2.2.2.2.2.2.2.2.2.1
@[irreducible] noncomputable def t2 : Tok := pk.2.2.2.2.2.2.2.2.2.2.2.2.2.2.2.2.2.2.2.2.2.2.2.2.2.2.2.2.2.2.2.2.2.2.2.2.2.2.2.2.2.2.2.2.2.2.2.2.2.2.2.2.2.2.2.2.2.2.2.2.2.2.2.2.2.2.2.2.2.2.2.2.2.2.2.2.2.2.2.2.2.2.2.2.2.2.2.2.2.2.2.2.2.2.2.2.2.2.2.2.2.1
@[irreducible] noncomputable def t3 : Tok := pk.2.2.2.2.2.2.2.2.2.2.2.2.2.2.2.2.2.2.2.2.2.2.2.2.2.2.2.2.2.2.2.2.2.2.2.2.2.2.2.2.2.2.2.2.2.2.2.2.2.2.2.2.2.2.2.2.2.2.2.2.2.2.2.2.2.2.2.2.2.2.2.2.2.2.2.2.2.2.2.2.2.2.2.2.2.2.2.2.2.2.2.2.2.2.2.2.2.2.2.2.2.2.1
@[irreducible] noncomputable def jh : Nat := pk.2.2.2.2.2.2.2.2.2.2.2.2.2.2.2.2.2.2.2.2.2.2.2.2.2.2.2.2.2.2.2.2.2.2.2.2.2.2.2.2.2.2.2.2.2.2.2.2.2.2.2.2.2.2.2.2.2.2.2.2.2.2.2.2.2.2.2.2.2.2.2.2.2.2.2.2.2.2.2.2.2.2.2.2.2.2.2.2.2.2.2.2.2.2.2.2.2.2.2.2.2.2.2.1
@[irreducible] noncomputable def jG : Nat := pk.2.2.2.2.2.2.2.2.2.2.2.2.2.2.2.2.2.2.2.2.2.2.2.2.2.2.2.2.2.2.2.2.2.2.2.2.2.2.2.2.2.2.2.2.2.2.2.2.2.2.2.2.2.2.2.2.2.2.2.2.2.2.2.2.2.2.2.2.2.2.2.2.2.2.2.2.2.2.2.2.2.2.2.2.2.2.2.2.2.2.2.2.2.2.2.2.2.2.2.2.2.2.2.2.1
@[irreducible] noncomputable def na : Nat := pk.2.2.2.2.2.2.2.2.2.2.2.2.2.2.2.2.2.2.2.2.2.2.2.2.2.2.2.2.2.2.2.2.2.2.2.2.2.2.2.2.2.2.2.2.2.2.2.2.2.2.2.2.2.2.2.2.2.2.2.2.2.2.2.2.2.2.2.2.2.2.2.2.2.2.2.2.2.2.2.2.2.2.2.2.2.2.2.2.2.2.2.2.2.2.2.2.2.2.2.2.2.2.2.2.2.1
@[irreducible] noncomputable def nb : Nat := pk.2.2.2.2.2.2.2.2.2.2.2.2.2.2.2.2.2.2.2.2.2.2.2.2.2.2.2.2.2.2.2.2.2.2.2.2.2.2.2.2.2.2.2.2.2.2.2.2.2.2.2.2.2.2.2.2.2.2.2.2.2.2.2.2.2.2.2.2.2.2.2.2.2.2.2.2.2.2.2.2.2.2.2.2.2.2.2.2.2.2.2.2.2.2.2.2.2.2.2.2.2.2.2.2.2.2.1
@[irreducible] noncomputable def nc : Nat := pk.2.2.2.2.2.2.2.2.2.2.2.2.2.2.2.2.2.2.2.2.2.2.2.2.2.2.2.2.2.2.2.2.2.2.2.2.2.2.2.2.2.2.2.2.2.2.2.2.2.2.2.2.2.2.2.2.2.2.2.2.2.2.2.2.2.2.2.2.2.2.2.2.2.2.2.2.2.2.2.2.2.2.2.2.2.2.2.2.2.2.2.2.2.2.2.2.2.2.2.2.2.2.2.2.2.2.2.1
@[irreducible] noncomputable def jJ : Nat := pk.2.2.2.2.2.2.2.2.2.2.2.2.2.2.2.2.2.2.2.2.2.2.2.2.2.2.2.2.2.2.2.2.2.2.2.2.2.2.2.2.2.2.2.2.2.2.2.2.2.2.2.2.2.2.2.2.2.2.2.2.2.2.2.2.2.2.2.2.2.2.2.2.2.2.2.2.2.2.2.2.2.2.2.2.2.2.2.2.2.2.2.2.2.2.2.2.2.2.2.2.2.2.2.2.2.2.2.2.1
@[irreducible] noncomputable def gl : List Value := pk.2.2.2.2.2.2.2.2.2.2.2.2.2.2.2.2.2.2.2.2.2.2.2.2.2.2.2.2.2.2.2.2.2.2.2.2.2.2.2.2.2.2.2.2.2.2.2.2.2.2.2.2.2.2.2.2.2.2.2.2.2.2.2.2.2.2.2.2.2.2.2.2.2.2.2.2.2.2.2.2.2.2.2.2.2.2.2.2.2.2.2.2.2.2.2.2.2.2.2.2.2.2.2.2.2.2.2.2.2.1
@[irreducible] noncomputable def rest : List (Addr × Obj) := pk.2.2.2.2.2.2.2.2.2.2.2.2.2.2.2.2.2.2.2.2.2.2.2.2.2.2.2.2.2.2.2.2.2.2.2.2.2.2.2.2.2.2.2.2.2.2.2.2.2.2.2.2.2.2.2.2.2.2.2.2.2.2.2.2.2.2.2.2.2.2.2.2.2.2.2.2.2.2.2.2.2.2.2.2.2.2.2.2.2.2.2.2.2.2.2.2.2.2.2.2.2.2.2.2.2.2.2.2.2.2.1
@[irreducible] noncomputable def ha1 : Tok := pk.2.2.2.2.2.2.2.2.2.2.2.2.2.2.2.2.2.2.2.2.2.2.2.2.2.2.2.2.2.2.2.2.2.2.2.2.2.2.2.2.2.2.2.2.2.2.2.2.2.2.2.2.2.2.2.2.2.2.2.2.2.2.2.2.2.2.2.2.2.2.2.2.2.2.2.2.2.2.2.2.2.2.2.2.2.2.2.2.2.2.2.2.2.2.2.2.2.2.2.2.2.2.2.2.2.2.2.2.2.2.2.1
@[irreducible] noncomputable def ha2 : Tok := pk.2.2.2.2.2.2.2.2.2.2.2.2.2.2.2.2.2.2.2.2.2.2.2.2.2.2.2.2.2.2.2.2.2.2.2.2.2.2.2.2.2.2.2.2.2.2.2.2.2.2.2.2.2.2.2.2.2.2.2.2.2.2.2.2.2.2.2.2.2.2.2.2.2.2.2.2.2.2.2.2.2.2.2.2.2.2.2.2.2.2.2.2.2.2.2.2.2.2.2.2.2.2.2.2.2.2.2.2.2.2.2.2.1
@[irreducible] noncomputable def ha3 : Tok := pk.2.2.2.2.2.2.2.2.2.2.2.2.2.2.2.2.2.2.2.2.2.2.2.2.2.2.2.2.2.2.2.2.2.2.2.2.2.2.2.2.2.2.2.2.2.2.2.2.2.2.2.2.2.2.2.2.2.2.2.2.2.2.2.2.2.2.2.2.2.2.2.2.2.2.2.2.2.2.2.2.2.2.2.2.2.2.2.2.2.2.2.2.2.2.2.2.2.2.2.2.2.2.2.2.2.2.2.2.2.2.2.2.2.1
@[irreducible] noncomputable def ha4 : Tok := pk.2.2.2.2.2.2.2.2.2.2.2.2.2.2.2.2.2.2.2.2.2.2.2.2.2.2.2.2.2.2.2.2.2.2.2.2.2.2.2.2.2.2.2.2.2.2.2.2.2.2.2.2.2.2.2.2.2.2.2.2.2.2.2.2.2.2.2.2.2.2.2.2.2.2.2.2.2.2.2.2.2.2.2.2.2.2.2.2.2.2.2.2.2.2.2.2.2.2.2.2.2.2.2.2.2.2.2.2.2.2.2.2.2.2.1
@[irreducible] noncomputable def ha5 : Tok := pk.2.2.2.2.2.2.2.2.2.2.2.2.2.2.2.2.2.2.2.2.2.2.2.2.2.2.2.2.2.2.2.2.2.2.2.2.2.2.2.2.2.2.2.2.2.2.2.2.2.2.2.2.2.2.2.2.2.2.2.2.2.2.2.2.2.2.2.2.2.2.2.2.2.2.2.2.2.2.2.2.2.2.2.2.2.2.2.2.2.2.2.2.2.2.2.2.2.2.2.2.2.2.2.2.2.2.2.2.2.2.2.2.2.2.2.1
@[irreducible] noncomputable def hb1 : Tok := pk.2.2.2.2.2.2.2.2.2.2.2.2.2.2.2.2.2.2.2.2.2.2.2.2.2.2.2.2.2.2.2.2.2.2.2.2.2.2.2.2.2.2.2.2.2.2.2.2.2.2.2.2.2.2.2.2.2.2.2.2.2.2.2.2.2.2.2.2.2.2.2.2.2.2.2.2.2.2.2.2.2.2.2.2.2.2.2.2.2.2.2.2.2.2.2.2.2.2.2.2.2.2.2.2.2.2.2.2.2.2.2.2.2.2.2.2.1
@[irreducible] noncomputable def hb2 : Tok := pk.2.2.2.2.2.2.2.2.2.2.2.2.2.2.2.2.2.2.2.2.2.2.2.2.2.2.2.2.2.2.2.2.2.2.2.2.2.2.2.2.2.2.2.2.2.2.2.2.2.2.2.2.2.2.2.2.2.2.2.2.2.2.2.2.2.2.2.2.2.2.2.2.2.2.2.2.2.2.2.2.2.2.2.2.2.2.2.2.2.2.2.2.2.2.2.2.2.2.2.2.2.2.2.2.2.2.2.2.2.2.2.2.2.2.2.2.2.1
@[irreducible] noncomputable def hb3 : Tok := pk.2.2.2.2.2.2.2.2.2.2.2.2.2.2.2.2.2.2.2.2.2.2.2.2.2.2.2.2.2.2.2.2.2.2.2.2.2.2.2.2.2.2.2.2.2.2.2.2.2.2.2.2.2.2.2.2.2.2.2.2.2.2.2.2.2.2.2.2.2.2.2.2.2.2.2.2.2.2.2.2.2.2.2.2.2.2.2.2.2.2.2.2.2.2.2.2.2.2.2.2.2.2.2.2.2.2.2.2.2.2.2.2.2.2.2.2.2.2.1
@[irreducible] noncomputable def hb4 : Tok := pk.2.2.2.2.2.2.2.2.2.2.2.2.2.2.2.2.2.2.2.2.2.2.2.2.2.2.2.2.2.2.2.2.2.2.2.2.2.2.2.2.2.2.2.2.2.2.2.2.2.2.2.2.2.2.2.2.2.2.2.2.2.2.2.2.2.2.2.2.2.2.2.2.2.2.2.2.2.2.2.2.2.2.2.2.2.2.2.2.2.2.2.2.2.2.2.2.2.2.2.2.2.2.2.2.2.2.2.2.2.2.2.2.2.2.2.2.2.2.2.1
@[irreducible] noncomputable def hb5 : Tok := pk.2.2.2.2.2.2.2.2.2.2.2.2.2.2.2.2.2.2.2.2.2.2.2.2.2.2.2.2.2.2.2.2.2.2.2.2.2.2.2.2.2.2.2.2.2.2.2.2.2.2.2.2.2.2.2.2.2.2.2.2.2.2.2.2.2.2.2.2.2.2.2.2.2.2.2.2.2.2.2.2.2.2.2.2.2.2.2.2.2.2.2.2.2.2.2.2.2.2.2.2.2.2.2.2.2.2.2.2.2.2.2.2.2.2.2.2.2.2.2.2.1
@[irreducible] noncomputable def hc1 : Tok := pk.2.2.2.2.2.2.2.2.2.2.2.2.2.2.2.2.2.2.2.2.2.2.2.2.2.2.2.2.2.2.2.2.2.2.2.2.2.2.2.2.2.2.2.2.2.2.2.2.2.2.2.2.2.2.2.2.2.2.2.2.2.2.2.2.2.2.2.2.2.2.2.2.2.2.2.2.2.2.2.2.2.2.2.2.2.2.2.2.2.2.2.2.2.2.2.2.2.2.2.2.2.2.2.2.2.2.2.2.2.2.2.2.2.2.2.2.2.2.2.2.2.1
@[irreducible] noncomputable def hc2 : Tok := pk.2.2.2.2.2.2.2.2.2.2.2.2.2.2.2.2.2.2.2.2.2.2.2.2.2.2.2.2.2.2.2.2.2.2.2.2.2.2.2.2.2.2.2.2.2.2.2.2.2.2.2.2.2.2.2.2.2.2.2.2.2.2.2.2.2.2.2.2.2.2.2.2.2.2.2.2.2.2.2.2.2.2.2.2.2.2.2.2.2.2.2.2.2.2.2.2.2.2.2.2.2.2.2.2.2.2.2.2.2.2.2.2.2.2.2.2.2.2.2.2.2.2.1
@[irreducible] noncomputable def hc3 : Tok := pk.2.2.2.2.2.2.2.2.2.2.2.2.2.2.2.2.2.2.2.2.2.2.2.2.2.2.2.2.2.2.2.2.2.2.2.2.2.2.2.2.2.2.2.2.2.2.2.2.2.2.2.2.2.2.2.2.2.2.2.2.2.2.2.2.2.2.2.2.2.2.2.2.2.2.2.2.2.2.2.2.2.2.2.2.2.2.2.2.2.2.2.2.2.2.2.2.2.2.2.2.2.2.2.2.2.2.2.2.2.2.2.2.2.2.2.2.2.2.2.2.2.2.2.1
@[irreducible] noncomputable def hc4 : Tok := pk.2.2.2.2.2.2.2.2.2.2.2.2.2.2.2.2.2.2.2.2.2.2.2.2.2.2.2.2.2.2.2.2.2.2.2.2.2.2.2.2.2.2.2.2.2.2.2.2.2.2.2.2.2.2.2.2.2.2.2.2.2.2.2.2.2.2.2.2.2.2.2.2.2.2.2.2.2.2.2.2.2.2.2.2.2.2.2.2.2.2.2.2.2.2.2.2.2.2.2.2.2.2.2.2.2.2.2.2.2.2.2.2.2.2.2.2.2.2.2.2.2.2.2.2.1
@[irreducible] noncomputable def hc5 : Tok := pk.2.2.2.2.2.2.2.2.2.2.2.2.2.2.2.2.2.2.2.2.2.2.2.2.2.2.2.2.2.2.2.2.2.2.2.2.2.2.2.2.2.2.2.2.2.2.2.2.2.2.2.2.2.2.2.2.2.2.2.2.2.2.2.2.2.2.2.2.2.2.2.2.2.2.2.2.2.2.2.2.2.2.2.2.2.2.2.2.2.2.2.2.2.2.2.2.2.2.2.2.2.2.2.2.2.2.2.2.2.2.2.2.2.2.2.2.2.2.2.2.2.2.2.2.2.1
@[irreducible] noncomputable def z1 : Tok := pk.2.2.2.2.2.2.2.2.2.2.2.2.2.2.2.2.2.2.2.2.2.2.2.2.2.2.2.2.2.2.2.2.2.2.2.2.2.2.2.2.2.2.2.2.2.2.2.2.2.2.2.2.2.2.2.2.2.2.2.2.2.2.2.2.2.2.2.2.2.2.2.2.2.2.2.2.2.2.2.2.2.2.2.2.2.2.2.2.2.2.2.2.2.2.2.2.2.2.2.2.2.2.2.2.2.2.2.2.2.2.2.2.2.2.2.2.2.2.2.2.2.2.2.2.2.2.1
@[irreducible] noncomputable def z2 : Tok := pk.2.2.2.2.2.2.2.2.2.2.2.2.2.2.2.2.2.2.2.2.2.2.2.2.2.2.2.2.2.2.2.2.2.2.2.2.2.2.2.2.2.2.2.2.2.2.2.2.2.2.2.2.2.2.2.2.2.2.2.2.2.2.2.2.2.2.2.2.2.2.2.2.2.2.2.2.2.2.2.2.2.2.2.2.2.2.2.2.2.2.2.2.2.2.2.2.2.2.2.2.2.2.2.2.2.2.2.2.2.2.2.2.2.2.2.2.2.2.2.2.2.2.2.2.2.2.2.1
@[irreducible] noncomputable def z3 : Tok := pk.2.2.2.2.2.2.2.2.2.2.2.2.2.2.2.2.2.2.2.2.2.2.2.2.2.2.2.2.2.2.2.2.2.2.2.2.2.2.2.2.2.2.2.2.2.2.2.2.2.2.2.2.2.2.2.2.2.2.2.2.2.2.2.2.2.2.2.2.2.2.2.2.2.2.2.2.2.2.2.2.2.2.2.2.2.2.2.2.2.2.2.2.2.2.2.2.2.2.2.2.2.2.2.2.2.2.2.2.2.2.2.2.2.2.2.2.2.2.2.2.2.2.2.2.2.2.2.2.1
@[irreducible] noncomputable def z4 : Tok := pk.2.2.2.2.2.2.2.2.2.2.2.2.2.2.2.2.2.2.2.2.2.2.2.2.2.2.2.2.2.2.2.2.2.2.2.2.2.2.2.2.2.2.2.2.2.2.2.2.2.2.2.2.2.2.2.2.2.2.2.2.2.2.2.2.2.2.2.2.2.2.2.2.2.2.2.2.2.2.2.2.2.2.2.2.2.2.2.2.2.2.2.2.2.2.2.2.2.2.2.2.2.2.2.2.2.2.2.2.2.2.2.2.2.2.2.2.2.2.2.2.2.2.2.2.2.2.2.2.2.1
@[irreducible] noncomputable def z5 : Tok := pk.2.2.2.2.2.2.2.2.2.2.2.2.2.2.2.2.2.2.2.2.2.2.2.2.2.2.2.2.2.2.2.2.2.2.2.2.2.2.2.2.2.2.2.2.2.2.2.2.2.2.2.2.2.2.2.2.2.2.2.2.2.2.2.2.2.2.2.2.2.2.2.2.2.2.2.2.2.2.2.2.2.2.2.2.2.2.2.2.2.2.2.2.2.2.2.2.2.2.2.2.2.2.2.2.2.2.2.2.2.2.2.2.2.2.2.2.2.2.2.2.2.2.2.2.2.2.2.2.2.2
theorem core : Pr w p loose mean mg mb fa cd h₀ L m s Q S I ns ni b1 b2 b3 b4 b5 p1 q1 r1 v1 p2 q2 r2 v2 p3 q3 r3 v3 p4 q4 r4 v4 p5 q5 r5 v5 n1 n2 n3 n4 n5 x1 x1' x1'' y1 x2 x2' x2'' y2 x3 x3' x3'' y3 x4 x4' x4'' y4 x5 x5' x5'' y5 ga1 ga2 ga3 ga4 ga5 gb1 gb2 gb3 gb4 gb5 gc1 gc2 gc3 gc4 gc5 gi1 gi2 gi3 gi4 gi5 J G ea eb ec Ah ka kb kc o2 o3 o5 o9 t1 t2 t3 jh jG na nb nc jJ gl rest ha1 ha2 ha3 ha4 ha5 hb1 hb2 hb3 hb4 hb5 hc1 hc2 hc3 hc4 hc5 z1 z2 z3 z4 z5 := by
  intro hp1 hq1 hr1 hv1 hp2 hq2 hr2 hv2 hp3 hq3 hr3 hv3 hp4 hq4 hr4 hv4 hp5 hq5 hr5 hv5 hd2 hd3 hd5 hd9 hka hkb hkc hga hgb hgc hLA hLB hLC hLJ B F X T N hQ
  w_top off
  k_with_none
  k_with "subscriptTail Name Constant ref int" => (k_here; (with_reducible show wpAny _ _ (subscriptTail _ _ (Value.ref _) (Value.int _ _)) _ _ _); (with_unfolding_all refine' item_litK ?k1x218 ?k2x218 ?k3x218 ?k4x218 ?_ ?k6x218; (case k1x218 => exact News.isList (by k_asm) (by ((with_reducible (repeat (first | exact List.mem_cons_self | exact mem_led (by with_reducible assumption) | refine List.mem_cons_of_mem _ ?_ | refine mem_led_sub (by with_reducible assumption) ?_))); (first | done | with_reducible assumption)))); (case k2x218 => decide); (case k3x218 => decide); (case k4x218 => rfl); (case k6x218 => with_unfolding_all rfl); k_whole))
  k_with "subscriptTail Name Name ref int" => (k_here; (with_reducible show wpAny _ _ (subscriptTail _ _ (Value.ref _) (Value.int _ _)) _ _ _); (with_unfolding_all refine' item_litK ?k1x219 ?k2x219 ?k3x219 ?k4x219 ?_ ?k6x219; (case k1x219 => exact News.isList (by k_asm) (by ((with_reducible (repeat (first | exact List.mem_cons_self | exact mem_led (by with_reducible assumption) | refine List.mem_cons_of_mem _ ?_ | refine mem_led_sub (by with_reducible assumption) ?_))); (first | done | with_reducible assumption)))); (case k2x219 => decide); (case k3x219 => decide); (case k4x219 => rfl); (case k6x219 => with_unfolding_all rfl); k_whole))
  k_with "eval ListComp" => (k_here; k_dflt (first
    | refine comp_exprNH (by k_asm) (by with_unfolding_all rfl) (by rfl) (by decide) (fun _ => by rfl) (fun _ => by rfl) ?_
    | refine comp_exprXH (by k_asm) (by with_unfolding_all rfl) (by rfl) (by decide) (fun _ => by rfl) (fun _ => by rfl) ?_); intro Fin9'ₓ hFin9'ₓ)
  k_with "exec Assign cons ListComp" => (k_here; k_dflt (refine comp_assignNH (by k_asm) (by rfl) (by with_unfolding_all rfl) (by with_unfolding_all rfl) (by rfl) (by decide) (fun _ => by rfl) (fun _ => by rfl) (by rfl) (by rfl) ?_); intro Fin9'ₓ hFin9'ₓ)
  k_with "CSrc" => (k_here; k_dflt (first
    | (refine csrc_listNH rfl (by k_asm) (by k_asm) (by is_list) (by first | size_fits | exact Nat.le_of_ble_eq_true rfl) (by rfl) (by rfl) ?_; intro g1'ₓ g2'ₓ nb'ₓ Fin8'ₓ hFin8'ₓ)
    | (refine csrc_listXH rfl (by k_asm) (by k_asm) (by is_list) (by first | size_fits | exact Nat.le_of_ble_eq_true rfl) (by rfl) (by rfl) (fun _ => by rfl) ?_; intro g1'ₓ g2'ₓ nb'ₓ Fin8'ₓ hFin8'ₓ)
    | (refine csrc_tupleNH rfl (by k_asm) (by k_asm) (News.isTup (by k_asm) (by ((with_reducible (repeat (first | exact List.mem_cons_self | exact mem_led (by with_reducible assumption) | refine List.mem_cons_of_mem _ ?_ | refine mem_led_sub (by with_reducible assumption) ?_))); (first | done | with_reducible assumption)))) (by first | size_fits | exact Nat.le_of_ble_eq_true rfl) (by rfl) (by rfl) ?_; intro g1'ₓ g2'ₓ nb'ₓ Fin8'ₓ hFin8'ₓ)
    | (refine csrc_rangeNH rfl (by k_asm) (by k_asm) (by assumption) (by first | decide | rfl) (by first | rfl | decide) (by first | size_fits | exact Nat.le_of_ble_eq_true rfl) (by rfl) (by rfl) ?_; intro g1'ₓ g2'ₓ nb'ₓ Fin8'ₓ hFin8'ₓ)
    | (refine csrc_rangeXH rfl (by k_asm) (by k_asm) (by assumption) (by first | decide | rfl) (by first | rfl | decide) (by first | size_fits | exact Nat.le_of_ble_eq_true rfl) (by rfl) (by rfl) (fun _ => by rfl) ?_; intro g1'ₓ g2'ₓ nb'ₓ Fin8'ₓ hFin8'ₓ)); refine AllInC.both ?_; intro hsub'ₓ; (try dsimp only [AllInC]); intros; (try (refine AllInC.skip ?_)))
  k_with "call type:zip" => (k_here; (with_reducible show wpAny _ _ (PySem.call _ _) (CSrc _ _ _ _ _ _ _ _ _ _ _ _ _ _ _ _) _ _); k_dflt (refine csrc_zipH rfl (by k_asm) (by k_asm) (by is_list) (by is_list) (by first | size_fits | exact Nat.le_of_ble_eq_true rfl) (by rfl) (by rfl) (by decide) (by rfl) ?_; intro g1'ₓ g2'ₓ nb'ₓ Fin8'ₓ hFin8'ₓ); refine AllInC.both ?_; intro hsub'ₓ; (try dsimp only [AllInC]); intros; (try (refine AllInC.skip ?_)))
  k_with "call type:enumerate" => (k_here; (with_reducible show wpAny _ _ (PySem.call _ _) (CSrc _ _ _ _ _ _ _ _ _ _ _ _ _ _ _ _) _ _); k_dflt (refine csrc_enumH rfl (by k_asm) (by k_asm) (by is_list) (by first | size_fits | exact Nat.le_of_ble_eq_true rfl) (by rfl) (by rfl) (by decide) (by rfl) ?_; intro g1'ₓ g2'ₓ nb'ₓ Fin8'ₓ hFin8'ₓ); refine AllInC.both ?_; intro hsub'ₓ; (try dsimp only [AllInC]); intros; (try (refine AllInC.skip ?_)))
  k_with "RestL" => ((with_unfolding_all (first | refine RestL.l0 (by rfl) ?_ | refine RestL.lx0 (by rfl) ?_ | refine RestL.r0 ?_ | refine RestL.rx0 ?_ | refine RestL.z0 (by rfl) (by rfl) ?_ | refine RestL.e1 (by rfl) ?_)); intros)
  k_with "RestL" => (with_unfolding_all refine RestL.zero (by with_reducible assumption) (by with_reducible assumption) ?_)
  k_with "CFinE" => ((unfold CFinE); intro D'ₓ h'ₓ tk'ₓ l1'ₓ F'ₓ N'ₓ o1'ₓ; (try k_lt l1'ₓ); (try simp only [List.nil_append, List.cons_append, LCg.Off1, and_true] at o1'ₓ); (try simp only [snoc, List.nil_append, List.cons_append] at N'ₓ); (try dsimp only))
  k_with "CFinA" => ((unfold CFinA); intro D'ₓ h'ₓ tk'ₓ l1'ₓ F'ₓ N'ₓ o1'ₓ; (try k_lt l1'ₓ); (try simp only [List.nil_append, List.cons_append, LCg.Off1, and_true] at o1'ₓ); (try simp only [snoc, List.nil_append, List.cons_append] at N'ₓ); (try dsimp only))
  k_with "Hid" => ((with_reducible show Hid _ (Value.ref _) _); (first | (first | refine hid_fact (by with_reducible assumption) (by with_reducible assumption) ?_ | refine hid_fact3 (by with_reducible assumption) (by with_reducible assumption) ?_); intro hX9ₓ; simp only [AllLt, and_true] at hX9ₓ | skip); (refine turn1 (by with_reducible assumption) (by rfl) (by k_asm) (by first | k_asm | exact news_snd (by k_asm) | exact news_snd (news_snd (by k_asm)) | exact news_snd (news_snd (news_snd (by k_asm))) | exact news_snd (news_snd (news_snd (news_snd (by k_asm))))) (by first | assumption | exact And.right (α := _) (by assumption : AllLt _ (_ :: _)) | exact (And.right (And.right (by assumption : AllLt _ (_ :: _ :: _)))) | exact (And.right (And.right (And.right (by assumption : AllLt _ (_ :: _ :: _ :: _)))))) ?_))
  k_with "Hid" => ((with_reducible show Hid _ (Value.int _ _) _); (refine turn0 (by with_reducible assumption) (by rfl) (by k_asm) (by first | k_asm | exact news_tail (by k_asm) | exact news_tail (news_tail (by k_asm)) | exact news_tail (news_tail (news_tail (by k_asm))) | exact news_tail (news_tail (news_tail (news_tail (by k_asm)))) | exact news_tail (news_tail (news_tail (news_tail (news_tail (by k_asm))))) | exact news_tail (news_tail (news_tail (news_tail (news_tail (news_tail (by k_asm))))))) ?_))
  k_with "Hid" => ((with_reducible show Hid _ Value.none _); (refine turnF (by with_reducible assumption) (by rfl) (by k_asm) (by first | k_asm | exact news_tail (by k_asm) | exact news_tail (news_tail (by k_asm)) | exact news_tail (news_tail (news_tail (by k_asm))) | exact news_tail (news_tail (news_tail (news_tail (by k_asm)))) | exact news_tail (news_tail (news_tail (news_tail (news_tail (by k_asm))))) | exact news_tail (news_tail (news_tail (news_tail (news_tail (news_tail (by k_asm))))))) ?_))
  k_with "call builtin:max" => (k_here; (with_reducible show wpAny _ _ (PySem.call (Value.builtin _) [Value.ref _]) _ _ _); (with_unfolding_all refine' kso_max ?k1x232 ?k2x232 ?k3x232 ?k4x232 ?k5x232 ?k6x232 ?_; (case k1x232 => k_asm); (case k2x232 => k_asm); (case k3x232 => kso_list); (case k4x232 => l_ints); (case k5x232 => kso_len); (case k6x232 => with_unfolding_all rfl); k_whole); intro h'ₓ M'ₓ t'ₓ k'ₓ F'ₓ N'ₓ a'ₓ b'ₓ; (try kso_open a'ₓ); (try kso_open b'ₓ); (have kp'ₓ := keep2 a'ₓ b'ₓ); clear a'ₓ b'ₓ; (try k_sweep))
  k_with "exec Assign cons ListComp" => ((first
    | (with_reducible show wpAny _ _ (exec (Stmt.Assign [PySem.Expr.Name (Str.ofString "came") _] _ _) _) _ _ _)
    | (with_reducible show wpAny _ _ (exec (Stmt.Assign [PySem.Expr.Name (Str.ofString "services") _] _ _) _) _ _ _)
    | (with_reducible show wpAny _ _ (exec (Stmt.Assign [PySem.Expr.Name (Str.ofString "lines") _] _ _) _) _ _ _)
    | (with_reducible show wpAny _ _ (exec (Stmt.Assign [PySem.Expr.Name (Str.ofString "spare") _] _ _) _) _ _ _)
    | (with_reducible show wpAny _ _ (exec (Stmt.Assign [PySem.Expr.Name (Str.ofString "idles") _] _ _) _) _ _ _)
    | (with_reducible show wpAny _ _ (exec (Stmt.Assign [PySem.Expr.Name (Str.ofString "order") _] _ _) _) _ _ _)); k_dflt (refine wpAny_Assign_Name ?_))
  k_with "forall" => (intro D'ₓ h'ₓ tk'ₓ l1'ₓ F'ₓ N'ₓ o1'ₓ; (with_reducible have q9ₓ : LCg.Off1 _ _ := o1'ₓ); clear q9ₓ; (try k_lt l1'ₓ); (try simp only [snoc, List.nil_append, List.cons_append] at N'ₓ o1'ₓ); (try simp only [LCg.Off1, and_true] at o1'ₓ); (try dsimp only))
  k_with "call ref" => (k_here; (with_reducible show wpAny _ _ (PySem.call (Value.ref 89) _) _ _ _); k_dflt (refine' Does.use (runL_does _ _ _ _ _ _ _ _ _ _ _ _ _ _ _ _ _ _ _ _ _ _ _ _ _ _ _ _ _ _ _ _ _ _ _ _ _ _ _ _ _ _ _ _ _ _ _ _ _ _ _ _ _ _ _ _ _ _ _ _ _ _ _ _ _ _ _ _ _ _ _ _ _ _ _ _ ?hSx235 ?hIx235 ?h5x235 ?h4x235 ?h3x235 ?h2x235 ?h1x235 ?p1x235 ?q1x235 ?r1x235 ?v1x235 ?p2x235 ?q2x235 ?r2x235 ?v2x235 ?p3x235 ?q3x235 ?r3x235 ?v3x235 ?p4x235 ?q4x235 ?r4x235 ?v4x235 ?p5x235 ?q5x235 ?r5x235 ?v5x235 ?fAx235 ?fBx235 ?fCx235 ?fJx235) ?k1x235 ?k2x235 ?k3x235 ?k4x235 ?k5x235 ?kKx235 ?kdx235 ?kux235 ?_; (case k1x235 => k_asm); (case k2x235 => k_asm); (case k3x235 => k_asm); (case k4x235 => k_asm); (case k5x235 => k_asm); (case kKx235 => first | exact rfl | assumption); (case kdx235 => ktr_room); (case kux235 => ktr_units); (case hSx235 => ((with_reducible (repeat (first | exact List.mem_cons_self | exact mem_led (by with_reducible assumption) | refine List.mem_cons_of_mem _ ?_ | refine mem_led_sub (by with_reducible assumption) ?_))); (first | done | with_reducible assumption))); (case hIx235 => ((with_reducible (repeat (first | exact List.mem_cons_self | exact mem_led (by with_reducible assumption) | refine List.mem_cons_of_mem _ ?_ | refine mem_led_sub (by with_reducible assumption) ?_))); (first | done | with_reducible assumption))); (case h5x235 => ((with_reducible (repeat (first | exact List.mem_cons_self | exact mem_led (by with_reducible assumption) | refine List.mem_cons_of_mem _ ?_ | refine mem_led_sub (by with_reducible assumption) ?_))); (first | done | with_reducible assumption))); (case h4x235 => ((with_reducible (repeat (first | exact List.mem_cons_self | exact mem_led (by with_reducible assumption) | refine List.mem_cons_of_mem _ ?_ | refine mem_led_sub (by with_reducible assumption) ?_))); (first | done | with_reducible assumption))); (case h3x235 => ((with_reducible (repeat (first | exact List.mem_cons_self | exact mem_led (by with_reducible assumption) | refine List.mem_cons_of_mem _ ?_ | refine mem_led_sub (by with_reducible assumption) ?_))); (first | done | with_reducible assumption))); (case h2x235 => ((with_reducible (repeat (first | exact List.mem_cons_self | exact mem_led (by with_reducible assumption) | refine List.mem_cons_of_mem _ ?_ | refine mem_led_sub (by with_reducible assumption) ?_))); (first | done | with_reducible assumption))); (case h1x235 => ((with_reducible (repeat (first | exact List.mem_cons_self | exact mem_led (by with_reducible assumption) | refine List.mem_cons_of_mem _ ?_ | refine mem_led_sub (by with_reducible assumption) ?_))); (first | done | with_reducible assumption))); (case p1x235 => with_reducible assumption); (case q1x235 => with_reducible assumption); (case r1x235 => with_reducible assumption); (case v1x235 => with_reducible assumption); (case p2x235 => with_reducible assumption); (case q2x235 => with_reducible assumption); (case r2x235 => with_reducible assumption); (case v2x235 => with_reducible assumption); (case p3x235 => with_reducible assumption); (case q3x235 => with_reducible assumption); (case r3x235 => with_reducible assumption); (case v3x235 => with_reducible assumption); (case p4x235 => with_reducible assumption); (case q4x235 => with_reducible assumption); (case r4x235 => with_reducible assumption); (case v4x235 => with_reducible assumption); (case p5x235 => with_reducible assumption); (case q5x235 => with_reducible assumption); (case r5x235 => with_reducible assumption); (case v5x235 => with_reducible assumption); (case fAx235 => with_reducible assumption); (case fBx235 => with_reducible assumption); (case fCx235 => with_reducible assumption); (case fJx235 => with_reducible assumption); intro r9ₓ tl9ₓ h9ₓ tk9ₓ F9ₓ N9ₓ l9ₓ p9ₓ; obtain ⟨R9ₓ, T9ₓ, d9ₓ, Sn9ₓ, od9ₓ, ar9ₓ, A9ₓ, B9ₓ, C9ₓ, D9ₓ, F8'ₓ, G8'ₓ, w0'ₓ, w1'ₓ, w2'ₓ, w3'ₓ, ρ1, ρ2, ρ3, ρ4, ρ5, α1, β1, γ1, δ1, α2, β2, γ2, δ2, α3, β3, γ3, δ3, α4, β4, γ4, δ4, α5, β5, γ5, δ5, κ1, κ2, κ3, κ4, κ5, q1ₓ, q2ₓ, q3ₓ, q4ₓ, q5ₓ, q6ₓ⟩ := p9ₓ; (have lR9ₓ := allLt_of (l9ₓ _ (List.mem_cons_self ..))); (simp only [AllLt, and_true] at lR9ₓ); clear l9ₓ; (try simp only [List.cons_append, List.nil_append] at N9ₓ); (try dsimp only); (try k_sweep)))
  k_with "subscriptTail Name Name ref int" => (k_here; (with_reducible show wpAny _ _ (subscriptTail _ _ (Value.ref _) (Value.int _ _)) _ _ _); k_dflt (refine' item_litK ?k1x236 ?k2x236 ?k3x236 ?k4x236 ?_ ?k6x236; (case k1x236 => exact News.isList (by k_asm) (by ((with_reducible (repeat (first | exact List.mem_cons_self | exact mem_led (by with_reducible assumption) | refine List.mem_cons_of_mem _ ?_ | refine mem_led_sub (by with_reducible assumption) ?_))); (first | done | with_reducible assumption)))); (case k4x236 => with_reducible assumption); (case k2x236 => omega); (case k3x236 => omega); (case k6x236 => with_unfolding_all rfl); k_whole))
  k_with "subscriptTail Subscript Name Name Name ref int" => (k_here; (with_reducible show wpAny _ _ (subscriptTail _ _ (Value.ref _) (Value.int _ _)) _ _ _); with_unfolding_all (refine' item_litK ?k1x237 ?k2x237 ?k3x237 ?k4x237 ?_ ?k6x237; (case k1x237 => exact News.isList (by k_asm) (by ((with_reducible (repeat (first | exact List.mem_cons_self | exact mem_led (by with_reducible assumption) | refine List.mem_cons_of_mem _ ?_ | refine mem_led_sub (by with_reducible assumption) ?_))); (first | done | with_reducible assumption)))); (case k2x237 => decide); (case k3x237 => decide); (case k4x237 => rfl); (case k6x237 => with_unfolding_all rfl); k_whole))
  k_with "execs cons" => ((with_reducible show wpAny _ _ (execs (Stmt.Assign [PySem.Expr.Name (Str.ofString "waits") _] _ _ :: _) _) _ _ _); refine haltI_LawT2 ?_)
  k_with "compareOp NotEq ref ref" => (k_here; (with_reducible show wpAny _ _ (compareOp CmpOp.NotEq (Value.ref _) (Value.ref _)) _ _ _); k_dflt (refine' ne_rows ?lax239 ?lbx239 ?rax239 ?rbx239 ?hsx239 ?hux239 ?_; (case lax239 => is_list); (case lbx239 => is_list); (case rax239 => exact .cons (by is_list) (.cons _ _ (.cons _ _ (.cons _ _ (.cons _ _ (.nil))))) (.cons (by is_list) (.cons _ _ (.cons _ _ (.cons _ _ (.cons _ _ (.nil))))) (.cons (by is_list) (.cons _ _ (.cons _ _ (.cons _ _ (.cons _ _ (.nil))))) (.cons (by is_list) (.cons _ _ (.cons _ _ (.cons _ _ (.cons _ _ (.nil))))) (.cons (by is_list) (.cons _ _ (.cons _ _ (.cons _ _ (.cons _ _ (.nil))))) (.nil)))))); (case rbx239 => exact .cons (by is_list) (.cons _ _ (.cons _ _ (.cons _ _ (.cons _ _ (.nil))))) (.cons (by is_list) (.cons _ _ (.cons _ _ (.cons _ _ (.cons _ _ (.nil))))) (.cons (by is_list) (.cons _ _ (.cons _ _ (.cons _ _ (.cons _ _ (.nil))))) (.cons (by is_list) (.cons _ _ (.cons _ _ (.cons _ _ (.cons _ _ (.nil))))) (.cons (by is_list) (.cons _ _ (.cons _ _ (.cons _ _ (.cons _ _ (.nil))))) (.nil)))))); (case hsx239 => ked_shaped); (case hux239 => ke_room)))
  k_with "call builtin:sum" => (k_here; (with_reducible show wpAny _ _ (PySem.call (Value.builtin "sum") [Value.ref _]) _ _ _); k_dflt (refine' sumK ?k0x240 ?k1x240 ?k2x240 ?k3x240 ?k4x240 ?_; (case k0x240 => with_unfolding_all rfl); (case k1x240 => k_asm); (case k2x240 => k_asm); (case k3x240 => is_list); (case k4x240 => first | l_ints | l_intsW); k_whole); intro h'ₓ tk'ₓ t'ₓ F'ₓ N'ₓ; (try simp only [List.sum_cons, List.sum_nil]))
  k_with "eval Name" => (k_here; (with_reducible show wpAny _ _ (eval (PySem.Expr.Name _ _) (compEnvC _ _ _ _)) _ _ _); k_dflt (first
    | (refine' LCgL.ld_own ?Nx241 ?hmx241 ?hCx241 ?hxx241 ?_ ?hkx241 ?hlx241 ?hdx241; (case hlx241 => rfl); (case hkx241 => rfl); (case hdx241 => decide); (case Nx241 => k_asm); (case hmx241 => ((with_reducible (repeat (first | exact List.mem_cons_self | exact mem_led (by with_reducible assumption) | refine List.mem_cons_of_mem _ ?_ | refine mem_led_sub (by with_reducible assumption) ?_))); (first | done | with_reducible assumption))); (case hCx241 => with_reducible assumption); (case hxx241 => with_reducible assumption); k_whole)
    | (refine' kcf_cell ?Nx241 ?cx241 ?mx241 ?dx241 ?_ ?ax241 ?bx241 ?hdx241; (case bx241 => rfl); (case ax241 => rfl); (case hdx241 => decide); (case Nx241 => k_asm); (case cx241 => rfl); (case mx241 => ((with_reducible (repeat (first | exact List.mem_cons_self | exact mem_led (by with_reducible assumption) | refine List.mem_cons_of_mem _ ?_ | refine mem_led_sub (by with_reducible assumption) ?_))); (first | done | with_reducible assumption))); (case dx241 => k_asm); k_whole)
    | (refine' LCgL.ld_built ?Fx241 ?Xx241 ?Tx241 ?ex241 ?vx241 ?nx241 ?_ ?gx241 ?bx241 ?hkx241 ?hxx241 ?hdx241; (case hxx241 => rfl); (case hkx241 => rfl); (case gx241 => rfl); (case bx241 => rfl); (case hdx241 => decide); (case Fx241 => k_asm); (case Xx241 => k_asm); (case Tx241 => k_asm); (case ex241 => k_is); (case vx241 => boot_by_name); (case nx241 => decide); k_whole)))
  revert X
  k_fill
  intro X
  dsimp only [turnParts, lawScope, lawParts, List.drop]
  k_steps
  unfold Keep
  (rename Fr _ _ _ _ => F9)
  (rename News _ _ _ _ => N9)
  (rename DS _ _ _ _ => ds9)
  (rename (_ == sysModules) = false => sm9)
  (with_reducible rename _ = ga1 + ga2 + ga3 + ga4 + ga5 => s1)
  (with_reducible rename _ = gb1 + gb2 + gb3 + gb4 + gb5 => s2)
  (with_reducible rename _ = gc1 + gc2 + gc3 + gc4 + gc5 => s3)
  (with_reducible rename _ = v1 + v2 + v3 + v4 + v5 - gi5 => s4)
  refine law_T3 w _ _ _ _ _ _ _ _ _ _ _ _ _ _ _ _ _ _ _ _ _ _ _ _ _ _ _ _ _ _ _ _ _ _ _ _ _ _ _ _ _ _ _ _ _ _ _ _ _ _ _ _ _ _ _ _ _ _ _ _ _ _ _ _ _ _ _ _ _ _ _ _ _ _ _ _ _ _ _ _ _ _ _ _ _ _ _ _ _ ds9 sm9 hd2 hd3 hd5 hd9 hka hkb hkc hga hgb hgc s1 s2 s3 s4 B F9 X T (news_put N9 (by k_mem) (news_put N9 (by k_mem) (news_put N9 (by k_mem) (news_put N9 (by k_mem) (news_put N9 (by k_mem) (news_put N9 (by k_mem) (news_put N9 (by k_mem) (news_put N9 (by k_mem) (news_put N9 (by k_mem) (news_put N9 (by k_mem) (news_put N9 (by k_mem) (news_put N9 (by k_mem) (news_put N9 (by k_mem) N9))))))))))))) ?_
  intro h' tk' m' F' N'
  exact hQ h' tk' m' F' (news_add [_, _, _, _, _, _, _, _, _, _, _, _, _, _, _, _, _, _, _, _, _, _, _, _, _, _, _, _] N' rfl)

theorem all (x : Pack) : PrX x := all_of_bad ne (by with_unfolding_all exact core) x
end ET2
theorem law_T2 (w : World) {p : Program} {loose : List Str} {mean : ExcName → Option Value} {mg mb : Str → Option Value} {fa : Addr} {cd : Value} {h₀ : Heap} {L : Addr} {m : Str → Option Value} {s : Shared} {Q : Flow → Shared → Prop}
    (S I : Addr) (ns ni : Nat) (b1 b2 b3 b4 b5 : Addr) (p1 q1 r1 v1 p2 q2 r2 v2 p3 q3 r3 v3 p4 q4 r4 v4 p5 q5 r5 v5 : Int) (n1 n2 n3 n4 n5 : Nat) (x1 x1' x1'' y1 x2 x2' x2'' y2 x3 x3' x3'' y3 x4 x4' x4'' y4 x5 x5' x5'' y5 : Tok) (ga1 ga2 ga3 ga4 ga5 : Int) (gb1 gb2 gb3 gb4 gb5 : Int) (gc1 gc2 gc3 gc4 gc5 : Int) (gi1 gi2 gi3 gi4 gi5 : Int) (J G ea eb ec Ah : Addr) (ka kb kc : Int) (o2 o3 o5 o9 : Obj) (t1 t2 t3 : Tok) (jh jG na nb nc jJ : Nat) (gl : List Value) (rest : List (Addr × Obj)) (ha1 ha2 ha3 ha4 ha5 : Tok) (hb1 hb2 hb3 hb4 hb5 : Tok) (hc1 hc2 hc3 hc4 hc5 : Tok) (z1 z2 z3 z4 z5 : Tok)  (hp1 : 0 ≤ p1 ∧ p1 ≤ 2) (hq1 : 0 ≤ q1 ∧ q1 ≤ 2) (hr1 : 0 ≤ r1 ∧ r1 ≤ 2) (hv1 : 0 ≤ v1 ∧ v1 ≤ 5) (hp2 : 0 ≤ p2 ∧ p2 ≤ 2) (hq2 : 0 ≤ q2 ∧ q2 ≤ 2) (hr2 : 0 ≤ r2 ∧ r2 ≤ 2) (hv2 : 0 ≤ v2 ∧ v2 ≤ 5) (hp3 : 0 ≤ p3 ∧ p3 ≤ 2) (hq3 : 0 ≤ q3 ∧ q3 ≤ 2) (hr3 : 0 ≤ r3 ∧ r3 ≤ 2) (hv3 : 0 ≤ v3 ∧ v3 ≤ 5) (hp4 : 0 ≤ p4 ∧ p4 ≤ 2) (hq4 : 0 ≤ q4 ∧ q4 ≤ 2) (hr4 : 0 ≤ r4 ∧ r4 ≤ 2) (hv4 : 0 ≤ v4 ∧ v4 ≤ 5) (hp5 : 0 ≤ p5 ∧ p5 ≤ 2) (hq5 : 0 ≤ q5 ∧ q5 ≤ 2) (hr5 : 0 ≤ r5 ∧ r5 ≤ 2) (hv5 : 0 ≤ v5 ∧ v5 ≤ 5) (hd2 : o2.data = .cell (some (.ref S))) (hd3 : o3.data = .cell (some (.ref G))) (hd5 : o5.data = .cell (some (.ref J))) (hd9 : o9.data = .cell (some (.ref Ah)))
    (hka : 0 ≤ ka ∧ ka ≤ 7) (hkb : 0 ≤ kb ∧ kb ≤ 7) (hkc : 0 ≤ kc ∧ kc ≤ 7) (hga : gl[ka.toNat]? = some (.ref ea)) (hgb : gl[kb.toNat]? = some (.ref eb)) (hgc : gl[kc.toNat]? = some (.ref ec))
    (hLA : Lind (p1 - v1) (p2 - v2) (p3 - v3) (p4 - v4) (p5 - v5) ga1 ga2 ga3 ga4 ga5)
    (hLB : Lind (p1 + q1 - v1) (p2 + q2 - v2) (p3 + q3 - v3) (p4 + q4 - v4) (p5 + q5 - v5) gb1 gb2 gb3 gb4 gb5)
    (hLC : Lind (p1 + q1 + r1 - v1) (p2 + q2 + r2 - v2) (p3 + q3 + r3 - v3) (p4 + q4 + r4 - v4) (p5 + q5 + r5 - v5) gc1 gc2 gc3 gc4 gc5)
    (hLJ : Skor (v1 - (p1 + q1 + r1)) (v2 - (p2 + q2 + r2)) (v3 - (p3 + q3 + r3)) (v4 - (p4 + q4 + r4)) (v5 - (p5 + q5 + r5)) gi1 gi2 gi3 gi4 gi5)
    (B : Below callerA h₀ [] h₀) (F : Fr h₀ L s.heap (fun y => if y = Str.ofString "images" then some (.ref I) else m y)) (X : (hd.heap_1 w.params).In h₀) (T : Top p loose mean mg mb h₀) (N : News h₀ L s.heap ((S, W.listOf #[.int v1 y1, .int v2 y2, .int v3 y3, .int v4 y4, .int v5 y5] ns) :: (I, W.listOf #[.ref b1, .ref b2, .ref b3, .ref b4, .ref b5] ni) :: (b5, W.listOf #[.int p5 x5, .int q5 x5', .int r5 x5''] n5) :: (b4, W.listOf #[.int p4 x4, .int q4 x4', .int r4 x4''] n4) :: (b3, W.listOf #[.int p3 x3, .int q3 x3', .int r3 x3''] n3) :: (b2, W.listOf #[.int p2 x2, .int q2 x2', .int r2 x2''] n2) :: (b1, W.listOf #[.int p1 x1, .int q1 x1', .int r1 x1''] n1) :: (Ah, W.listOf #[.int ka t1, .int kb t2, .int kc t3] jh) :: (G, W.listOf gl.toArray jG) :: (ea, W.listOf #[.int ga1 ha1, .int ga2 ha2, .int ga3 ha3, .int ga4 ha4, .int ga5 ha5] na) :: (eb, W.listOf #[.int gb1 hb1, .int gb2 hb2, .int gb3 hb3, .int gb4 hb4, .int gb5 hb5] nb) :: (ec, W.listOf #[.int gc1 hc1, .int gc2 hc2, .int gc3 hc3, .int gc4 hc4, .int gc5 hc5] nc) :: (J, W.listOf #[.int gi1 z1, .int gi2 z2, .int gi3 z3, .int gi4 z4, .int gi5 z5] jJ) :: (L + 1 + 1, o2) :: (L + 1 + 1 + 1, o3) :: (L + 1 + 1 + 1 + 1 + 1, o5) :: (L + 1 + 1 + 1 + 1 + 1 + 1 + 1 + 1 + 1, o9) :: rest))
    (hQ : ∀ h' tk' m', Fr h₀ L h' m' → News h₀ L h' ((S, W.listOf #[.int v1 y1, .int v2 y2, .int v3 y3, .int v4 y4, .int v5 y5] ns) :: (I, W.listOf #[.ref b1, .ref b2, .ref b3, .ref b4, .ref b5] ni) :: (b5, W.listOf #[.int p5 x5, .int q5 x5', .int r5 x5''] n5) :: (b4, W.listOf #[.int p4 x4, .int q4 x4', .int r4 x4''] n4) :: (b3, W.listOf #[.int p3 x3, .int q3 x3', .int r3 x3''] n3) :: (b2, W.listOf #[.int p2 x2, .int q2 x2', .int r2 x2''] n2) :: (b1, W.listOf #[.int p1 x1, .int q1 x1', .int r1 x1''] n1) :: (Ah, W.listOf #[.int ka t1, .int kb t2, .int kc t3] jh) :: (G, W.listOf gl.toArray jG) :: (ea, W.listOf #[.int ga1 ha1, .int ga2 ha2, .int ga3 ha3, .int ga4 ha4, .int ga5 ha5] na) :: (eb, W.listOf #[.int gb1 hb1, .int gb2 hb2, .int gb3 hb3, .int gb4 hb4, .int gb5 hb5] nb) :: (ec, W.listOf #[.int gc1 hc1, .int gc2 hc2, .int gc3 hc3, .int gc4 hc4, .int gc5 hc5] nc) :: (J, W.listOf #[.int gi1 z1, .int gi2 z2, .int gi3 z3, .int gi4 z4, .int gi5 z5] jJ) :: (L + 1 + 1, o2) :: (L + 1 + 1 + 1, o3) :: (L + 1 + 1 + 1 + 1 + 1, o5) :: (L + 1 + 1 + 1 + 1 + 1 + 1 + 1 + 1 + 1, o9) :: rest) → Q .next { s with heap := h', toks := tk' }) : wpAny (model Challenge.rw_wo0027_01.row.prog w) (callerA.deeper (envOfC (Str.ofString "law") lawScope L fa cd)) (execs (turnParts.1.drop 4) (envOfC (Str.ofString "law") lawScope L fa cd)) Q (fun _ _ => False) s :=
  ET2.all (w, p, loose, mean, mg, mb, fa, cd, h₀, L, m, s, Q, S, I, ns, ni, b1, b2, b3, b4, b5, p1, q1, r1, v1, p2, q2, r2, v2, p3, q3, r3, v3, p4, q4, r4, v4, p5, q5, r5, v5, n1, n2, n3, n4, n5, x1, x1', x1'', y1, x2, x2', x2'', y2, x3, x3', x3'', y3, x4, x4', x4'', y4, x5, x5', x5'', y5, ga1, ga2, ga3, ga4, ga5, gb1, gb2, gb3, gb4, gb5, gc1, gc2, gc3, gc4, gc5, gi1, gi2, gi3, gi4, gi5, J, G, ea, eb, ec, Ah, ka, kb, kc, o2, o3, o5, o9, t1, t2, t3, jh, jG, na, nb, nc, jJ, gl, rest, ha1, ha2, ha3, ha4, ha5, hb1, hb2, hb3, hb4, hb5, hc1, hc2, hc3, hc4, hc5, z1, z2, z3, z4, z5) hp1 hq1 hr1 hv1 hp2 hq2 hr2 hv2 hp3 hq3 hr3 hv3 hp4 hq4 hr4 hv4 hp5 hq5 hr5 hv5 hd2 hd3 hd5 hd9 hka hkb hkc hga hgb hgc hLA hLB hLC hLJ B F X T N hQ
end Mine
end
section
open PySem PySem.W PySem.Calls PyProof.Rows
set_option Elab.async false
set_option maxRecDepth 100000
set_option maxHeartbeats 8000000
set_option pp.deepTerms false
set_option pp.deepTerms.threshold 4
set_option pp.maxSteps 6000
namespace Mine
theorem keep2_0 {p q : Prop} (a : p) (b : q) : Keep (p ∧ q) := ⟨a, b⟩
theorem haltI_LawT0 {P : Prop} (h : Keep P) : P := h

theorem law_T0 (w : World) {p : Program} {loose : List Str} {mean : ExcName → Option Value} {mg mb : Str → Option Value} {fa : Addr} {cd : Value} {h₀ : Heap} {L : Addr} {m : Str → Option Value} {s : Shared} {Q : Flow → Shared → Prop}
    (th mi : Int) (k6 k7 : Tok) (o6 o7 o8 : Obj) (rest : List (Addr × Obj)) (hth : 0 ≤ th ∧ th ≤ 2) (hmi : mi = 0 ∨ mi = 1) (hd6 : o6.data = .cell (some (.int th k6))) (hd7 : o7.data = .cell (some (.int mi k7))) {v8 : Option Value} (hd8 : o8.data = .cell v8) (hr8 : ∀ p ∈ rest, p.1 ≠ L + 1 + 1 + 1 + 1 + 1 + 1 + 1 + 1)
    (B : Below callerA h₀ [] h₀) (F : Fr h₀ L s.heap m) (X : (hd.heap_1 w.params).In h₀) (T : Top p loose mean mg mb h₀) (N : News h₀ L s.heap ((L + 1 + 1 + 1 + 1 + 1 + 1, o6) :: (L + 1 + 1 + 1 + 1 + 1 + 1 + 1, o7) :: (L + 1 + 1 + 1 + 1 + 1 + 1 + 1 + 1, o8) :: rest))
    (hQ : ∀ h' tk' Or o8' n t1 t2 t3 z0 z1 z2, z0 = ordOf mi th 0 → z1 = ordOf mi th 1 → z2 = ordOf mi th 2 → Fr h₀ L h' m → o8'.data = .cell (some (.ref Or)) → (∀ p ∈ rest, p.1 < Or) → (@LT.lt Nat _ (L + 1 + 1 + 1 + 1 + 1 + 1 + 1 + 1) Or) → News h₀ L h' ((Or, W.listOf #[.int z0 t1, .int z1 t2, .int z2 t3] n) :: (L + 1 + 1 + 1 + 1 + 1 + 1, o6) :: (L + 1 + 1 + 1 + 1 + 1 + 1 + 1, o7) :: (L + 1 + 1 + 1 + 1 + 1 + 1 + 1 + 1, o8') :: rest) → wpAny (model Challenge.rw_wo0027_01.row.prog w) (callerA.deeper (envOfC (Str.ofString "law") lawScope L fa cd)) (execs (turnParts.1.drop 1) (envOfC (Str.ofString "law") lawScope L fa cd)) Q (fun _ _ => False) { s with heap := h', toks := tk' }) :
    wpAny (model Challenge.rw_wo0027_01.row.prog w) (callerA.deeper (envOfC (Str.ofString "law") lawScope L fa cd)) (execs (turnParts.1) (envOfC (Str.ofString "law") lawScope L fa cd)) Q (fun _ _ => False) s := by
  w_top off
  k_with_none
  k_with "subscriptTail Name Constant ref int" => (k_here; (with_reducible show wpAny _ _ (subscriptTail _ _ (Value.ref _) (Value.int _ _)) _ _ _); (with_unfolding_all refine' item_litK ?k1x242 ?k2x242 ?k3x242 ?k4x242 ?_ ?k6x242; (case k1x242 => exact News.isList (by k_asm) (by ((with_reducible (repeat (first | exact List.mem_cons_self | exact mem_led (by with_reducible assumption) | refine List.mem_cons_of_mem _ ?_ | refine mem_led_sub (by with_reducible assumption) ?_))); (first | done | with_reducible assumption)))); (case k2x242 => decide); (case k3x242 => decide); (case k4x242 => rfl); (case k6x242 => with_unfolding_all rfl); k_whole))
  k_with "subscriptTail Name Name ref int" => (k_here; (with_reducible show wpAny _ _ (subscriptTail _ _ (Value.ref _) (Value.int _ _)) _ _ _); (with_unfolding_all refine' item_litK ?k1x243 ?k2x243 ?k3x243 ?k4x243 ?_ ?k6x243; (case k1x243 => exact News.isList (by k_asm) (by ((with_reducible (repeat (first | exact List.mem_cons_self | exact mem_led (by with_reducible assumption) | refine List.mem_cons_of_mem _ ?_ | refine mem_led_sub (by with_reducible assumption) ?_))); (first | done | with_reducible assumption)))); (case k2x243 => decide); (case k3x243 => decide); (case k4x243 => rfl); (case k6x243 => with_unfolding_all rfl); k_whole))
  k_with "eval ListComp" => (k_here; k_dflt (first
    | refine comp_exprNH (by k_asm) (by with_unfolding_all rfl) (by rfl) (by decide) (fun _ => by rfl) (fun _ => by rfl) ?_
    | refine comp_exprXH (by k_asm) (by with_unfolding_all rfl) (by rfl) (by decide) (fun _ => by rfl) (fun _ => by rfl) ?_); intro Fin9'ₓ hFin9'ₓ)
  k_with "exec Assign cons ListComp" => (k_here; k_dflt (refine comp_assignNH (by k_asm) (by rfl) (by with_unfolding_all rfl) (by with_unfolding_all rfl) (by rfl) (by decide) (fun _ => by rfl) (fun _ => by rfl) (by rfl) (by rfl) ?_); intro Fin9'ₓ hFin9'ₓ)
  k_with "CSrc" => (k_here; k_dflt (first
    | (refine csrc_listNH rfl (by k_asm) (by k_asm) (by is_list) (by first | size_fits | exact Nat.le_of_ble_eq_true rfl) (by rfl) (by rfl) ?_; intro g1'ₓ g2'ₓ nb'ₓ Fin8'ₓ hFin8'ₓ)
    | (refine csrc_listXH rfl (by k_asm) (by k_asm) (by is_list) (by first | size_fits | exact Nat.le_of_ble_eq_true rfl) (by rfl) (by rfl) (fun _ => by rfl) ?_; intro g1'ₓ g2'ₓ nb'ₓ Fin8'ₓ hFin8'ₓ)
    | (refine csrc_tupleNH rfl (by k_asm) (by k_asm) (News.isTup (by k_asm) (by ((with_reducible (repeat (first | exact List.mem_cons_self | exact mem_led (by with_reducible assumption) | refine List.mem_cons_of_mem _ ?_ | refine mem_led_sub (by with_reducible assumption) ?_))); (first | done | with_reducible assumption)))) (by first | size_fits | exact Nat.le_of_ble_eq_true rfl) (by rfl) (by rfl) ?_; intro g1'ₓ g2'ₓ nb'ₓ Fin8'ₓ hFin8'ₓ)
    | (refine csrc_rangeNH rfl (by k_asm) (by k_asm) (by assumption) (by first | decide | rfl) (by first | rfl | decide) (by first | size_fits | exact Nat.le_of_ble_eq_true rfl) (by rfl) (by rfl) ?_; intro g1'ₓ g2'ₓ nb'ₓ Fin8'ₓ hFin8'ₓ)
    | (refine csrc_rangeXH rfl (by k_asm) (by k_asm) (by assumption) (by first | decide | rfl) (by first | rfl | decide) (by first | size_fits | exact Nat.le_of_ble_eq_true rfl) (by rfl) (by rfl) (fun _ => by rfl) ?_; intro g1'ₓ g2'ₓ nb'ₓ Fin8'ₓ hFin8'ₓ)); refine AllInC.both ?_; intro hsub'ₓ; (try dsimp only [AllInC]); intros; (try (refine AllInC.skip ?_)))
  k_with "call type:zip" => (k_here; (with_reducible show wpAny _ _ (PySem.call _ _) (CSrc _ _ _ _ _ _ _ _ _ _ _ _ _ _ _ _) _ _); k_dflt (refine csrc_zipH rfl (by k_asm) (by k_asm) (by is_list) (by is_list) (by first | size_fits | exact Nat.le_of_ble_eq_true rfl) (by rfl) (by rfl) (by decide) (by rfl) ?_; intro g1'ₓ g2'ₓ nb'ₓ Fin8'ₓ hFin8'ₓ); refine AllInC.both ?_; intro hsub'ₓ; (try dsimp only [AllInC]); intros; (try (refine AllInC.skip ?_)))
  k_with "call type:enumerate" => (k_here; (with_reducible show wpAny _ _ (PySem.call _ _) (CSrc _ _ _ _ _ _ _ _ _ _ _ _ _ _ _ _) _ _); k_dflt (refine csrc_enumH rfl (by k_asm) (by k_asm) (by is_list) (by first | size_fits | exact Nat.le_of_ble_eq_true rfl) (by rfl) (by rfl) (by decide) (by rfl) ?_; intro g1'ₓ g2'ₓ nb'ₓ Fin8'ₓ hFin8'ₓ); refine AllInC.both ?_; intro hsub'ₓ; (try dsimp only [AllInC]); intros; (try (refine AllInC.skip ?_)))
  k_with "RestL" => ((with_unfolding_all (first | refine RestL.l0 (by rfl) ?_ | refine RestL.lx0 (by rfl) ?_ | refine RestL.r0 ?_ | refine RestL.rx0 ?_ | refine RestL.z0 (by rfl) (by rfl) ?_ | refine RestL.e1 (by rfl) ?_)); intros)
  k_with "RestL" => (with_unfolding_all refine RestL.zero (by with_reducible assumption) (by with_reducible assumption) ?_)
  k_with "CFinE" => ((unfold CFinE); intro D'ₓ h'ₓ tk'ₓ l1'ₓ F'ₓ N'ₓ o1'ₓ; (try k_lt l1'ₓ); (try simp only [List.nil_append, List.cons_append, LCg.Off1, and_true] at o1'ₓ); (try simp only [snoc, List.nil_append, List.cons_append] at N'ₓ); (try dsimp only))
  k_with "CFinA" => ((unfold CFinA); intro D'ₓ h'ₓ tk'ₓ l1'ₓ F'ₓ N'ₓ o1'ₓ; (try k_lt l1'ₓ); (try simp only [List.nil_append, List.cons_append, LCg.Off1, and_true] at o1'ₓ); (try simp only [snoc, List.nil_append, List.cons_append] at N'ₓ); (try dsimp only))
  k_with "Hid" => ((with_reducible show Hid _ (Value.ref _) _); (first | (first | refine hid_fact (by with_reducible assumption) (by with_reducible assumption) ?_ | refine hid_fact3 (by with_reducible assumption) (by with_reducible assumption) ?_); intro hX9ₓ; simp only [AllLt, and_true] at hX9ₓ | skip); (refine turn1 (by with_reducible assumption) (by rfl) (by k_asm) (by first | k_asm | exact news_snd (by k_asm) | exact news_snd (news_snd (by k_asm)) | exact news_snd (news_snd (news_snd (by k_asm))) | exact news_snd (news_snd (news_snd (news_snd (by k_asm))))) (by first | assumption | exact And.right (α := _) (by assumption : AllLt _ (_ :: _)) | exact (And.right (And.right (by assumption : AllLt _ (_ :: _ :: _)))) | exact (And.right (And.right (And.right (by assumption : AllLt _ (_ :: _ :: _ :: _)))))) ?_))
  k_with "Hid" => ((with_reducible show Hid _ (Value.int _ _) _); (refine turn0 (by with_reducible assumption) (by rfl) (by k_asm) (by first | k_asm | exact news_tail (by k_asm) | exact news_tail (news_tail (by k_asm)) | exact news_tail (news_tail (news_tail (by k_asm))) | exact news_tail (news_tail (news_tail (news_tail (by k_asm)))) | exact news_tail (news_tail (news_tail (news_tail (news_tail (by k_asm))))) | exact news_tail (news_tail (news_tail (news_tail (news_tail (news_tail (by k_asm))))))) ?_))
  k_with "Hid" => ((with_reducible show Hid _ Value.none _); (refine turnF (by with_reducible assumption) (by rfl) (by k_asm) (by first | k_asm | exact news_tail (by k_asm) | exact news_tail (news_tail (by k_asm)) | exact news_tail (news_tail (news_tail (by k_asm))) | exact news_tail (news_tail (news_tail (news_tail (by k_asm)))) | exact news_tail (news_tail (news_tail (news_tail (news_tail (by k_asm))))) | exact news_tail (news_tail (news_tail (news_tail (news_tail (news_tail (by k_asm))))))) ?_))
  k_with "call builtin:max" => (k_here; (with_reducible show wpAny _ _ (PySem.call (Value.builtin _) [Value.ref _]) _ _ _); (with_unfolding_all refine' kso_max ?k1x256 ?k2x256 ?k3x256 ?k4x256 ?k5x256 ?k6x256 ?_; (case k1x256 => k_asm); (case k2x256 => k_asm); (case k3x256 => kso_list); (case k4x256 => l_ints); (case k5x256 => kso_len); (case k6x256 => with_unfolding_all rfl); k_whole); intro h'ₓ M'ₓ t'ₓ k'ₓ F'ₓ N'ₓ a'ₓ b'ₓ; (try kso_open a'ₓ); (try kso_open b'ₓ); (have kp'ₓ := keep2_0 a'ₓ b'ₓ); clear a'ₓ b'ₓ; (try k_sweep))
  k_with "exec Assign cons ListComp" => ((first
    | (with_reducible show wpAny _ _ (exec (Stmt.Assign [PySem.Expr.Name (Str.ofString "came") _] _ _) _) _ _ _)
    | (with_reducible show wpAny _ _ (exec (Stmt.Assign [PySem.Expr.Name (Str.ofString "services") _] _ _) _) _ _ _)
    | (with_reducible show wpAny _ _ (exec (Stmt.Assign [PySem.Expr.Name (Str.ofString "lines") _] _ _) _) _ _ _)
    | (with_reducible show wpAny _ _ (exec (Stmt.Assign [PySem.Expr.Name (Str.ofString "spare") _] _ _) _) _ _ _)
    | (with_reducible show wpAny _ _ (exec (Stmt.Assign [PySem.Expr.Name (Str.ofString "idles") _] _ _) _) _ _ _)
    | (with_reducible show wpAny _ _ (exec (Stmt.Assign [PySem.Expr.Name (Str.ofString "order") _] _ _) _) _ _ _)); k_dflt (refine wpAny_Assign_Name ?_))
  k_with "forall" => (intro D'ₓ h'ₓ tk'ₓ l1'ₓ F'ₓ N'ₓ o1'ₓ; (with_reducible have q9ₓ : LCg.Off1 _ _ := o1'ₓ); clear q9ₓ; (try k_lt l1'ₓ); (try simp only [snoc, List.nil_append, List.cons_append] at N'ₓ o1'ₓ); (try simp only [LCg.Off1, and_true] at o1'ₓ); (try dsimp only))
  k_with "execs cons" => ((with_reducible show wpAny _ _ (execs (Stmt.Assign [PySem.Expr.Name (Str.ofString "images") _] _ _ :: _) _) _ _ _); refine haltI_LawT0 ?_)
  k_with "call builtin:sum" => (k_here; (with_reducible show wpAny _ _ (PySem.call (Value.builtin "sum") [Value.ref _]) _ _ _); k_dflt (refine' sumK ?k0x260 ?k1x260 ?k2x260 ?k3x260 ?k4x260 ?_; (case k0x260 => with_unfolding_all rfl); (case k1x260 => k_asm); (case k2x260 => k_asm); (case k3x260 => is_list); (case k4x260 => first | l_ints | l_intsW); k_whole); intro h'ₓ tk'ₓ t'ₓ F'ₓ N'ₓ; (try simp only [List.sum_cons, List.sum_nil]))
  k_with "eval Name" => (k_here; (with_reducible show wpAny _ _ (eval (PySem.Expr.Name _ _) (compEnvC _ _ _ _)) _ _ _); k_dflt (first
    | (refine' LCgL.ld_own ?Nx261 ?hmx261 ?hCx261 ?hxx261 ?_ ?hkx261 ?hlx261 ?hdx261; (case hlx261 => rfl); (case hkx261 => rfl); (case hdx261 => decide); (case Nx261 => k_asm); (case hmx261 => ((with_reducible (repeat (first | exact List.mem_cons_self | exact mem_led (by with_reducible assumption) | refine List.mem_cons_of_mem _ ?_ | refine mem_led_sub (by with_reducible assumption) ?_))); (first | done | with_reducible assumption))); (case hCx261 => with_reducible assumption); (case hxx261 => with_reducible assumption); k_whole)
    | (refine' kcf_cell ?Nx261 ?cx261 ?mx261 ?dx261 ?_ ?ax261 ?bx261 ?hdx261; (case bx261 => rfl); (case ax261 => rfl); (case hdx261 => decide); (case Nx261 => k_asm); (case cx261 => rfl); (case mx261 => ((with_reducible (repeat (first | exact List.mem_cons_self | exact mem_led (by with_reducible assumption) | refine List.mem_cons_of_mem _ ?_ | refine mem_led_sub (by with_reducible assumption) ?_))); (first | done | with_reducible assumption))); (case dx261 => k_asm); k_whole)
    | (refine' LCgL.ld_built ?Fx261 ?Xx261 ?Tx261 ?ex261 ?vx261 ?nx261 ?_ ?gx261 ?bx261 ?hkx261 ?hxx261 ?hdx261; (case hxx261 => rfl); (case hkx261 => rfl); (case gx261 => rfl); (case bx261 => rfl); (case hdx261 => decide); (case Fx261 => k_asm); (case Xx261 => k_asm); (case Tx261 => k_asm); (case ex261 => k_is); (case vx261 => boot_by_name); (case nx261 => decide); k_whole)))
  revert X
  k_fill
  intro X
  dsimp only [turnParts, lawScope, lawParts, List.drop]
  rcases hmi with rfl | rfl
  all_goals k_steps
  all_goals unfold Keep
  all_goals (rename Fr _ _ _ _ => F9)
  all_goals (rename News _ _ _ _ => N9)
  all_goals (rename _ = Data.cell (some (Value.ref _)) => d9)
  all_goals (rename AllLt _ (_ :: _ :: _ :: rest) => A9)
  all_goals (refine hQ _ _ _ _ _ _ _ _ _ _ _ ?_ ?_ ?_ F9 d9 (allLt_all A9.2.2.2) A9.2.2.1 N9)
  all_goals simp [ordOf]

end Mine
end
section
open PySem PySem.W PySem.Calls PyProof.Rows
set_option Elab.async false
set_option maxRecDepth 100000
set_option maxHeartbeats 8000000
set_option pp.deepTerms false
set_option pp.deepTerms.threshold 4
set_option pp.maxSteps 6000
namespace Mine

theorem ord_bnd (mi th k : Int) : 0 ≤ ordOf mi th k ∧ ordOf mi th k ≤ 2 := ⟨Int.fmod_nonneg_of_pos _ (by decide), by have := Int.fmod_lt_of_pos (if mi = 0 then k - th else th - k) (by decide : (0 : Int) < 3); unfold ordOf; omega⟩
theorem int3 {a : Int} (h : 0 ≤ a ∧ a ≤ 2) : a = ((0 : Nat) : Int) ∨ a = ((1 : Nat) : Int) ∨ a = ((2 : Nat) : Int) := by omega
theorem all_range {n : Nat} {f : Nat → Bool} (h : (List.range n).all f = true) {k : Nat} (hk : k < n) : f k = true := List.all_eq_true.mp h k (List.mem_range.mpr hk)
theorem imgB_of {p q r mi th z0 z1 z2 : Int} (hp : 0 ≤ p ∧ p ≤ 2) (hq : 0 ≤ q ∧ q ≤ 2) (hr : 0 ≤ r ∧ r ≤ 2) (hth : 0 ≤ th ∧ th ≤ 2) (hmi : mi = 0 ∨ mi = 1) (hz0 : z0 = ordOf mi th 0) (hz1 : z1 = ordOf mi th 1) (hz2 : z2 = ordOf mi th 2) :
    imgB p q r mi th (pick3 p q r z0) (pick3 p q r z1) (pick3 p q r z2) = true := by
  subst hz0; subst hz1; subst hz2
  obtain ⟨a, ha, rfl⟩ : ∃ a : Nat, a < 3 ∧ p = a := ⟨p.toNat, by omega, by omega⟩
  obtain ⟨b, hb, rfl⟩ : ∃ b : Nat, b < 3 ∧ q = b := ⟨q.toNat, by omega, by omega⟩
  obtain ⟨c, hc, rfl⟩ : ∃ c : Nat, c < 3 ∧ r = c := ⟨r.toNat, by omega, by omega⟩
  obtain ⟨t, ht, rfl⟩ : ∃ t : Nat, t < 3 ∧ th = t := ⟨th.toNat, by omega, by omega⟩
  obtain ⟨m, hm, rfl⟩ : ∃ m : Nat, m < 2 ∧ mi = m := ⟨mi.toNat, by omega, by omega⟩
  exact all_range (all_range (all_range (all_range (all_range img_table ha) hb) hc) ht) hm
theorem item3 {prog : Program} {w : World} {A : Around} {E : Value → Shared → Prop} {s : Shared} {value slice : PySem.Expr} {l : Addr} {p q r k : Int} {x y z u : Tok} {Q : Value → Shared → Prop} (hl : s.heap.IsList l #[.int p x, .int q y, .int r z]) (h0 : 0 ≤ k ∧ k ≤ 2) (h : ∀ t, Q (.int (pick3 p q r k) t) s)
    (hs : subscripted slice false (.ref l) (.int k u) = operate [.ref l, .int k u] (getItem (.ref l) (.int k u)) := by with_unfolding_all rfl) :
    wpAny (model prog w) A (subscriptTail value slice (.ref l) (.int k u)) Q E s := by
  rcases int3 h0 with rfl | rfl | rfl
  · exact item_litK (vs := [.int p x, .int q y, .int r z]) hl (by decide) (by decide) rfl (h x) hs
  · exact item_litK (vs := [.int p x, .int q y, .int r z]) hl (by decide) (by decide) rfl (h y) hs
  · exact item_litK (vs := [.int p x, .int q y, .int r z]) hl (by decide) (by decide) rfl (h z) hs
end Mine
end
section
open PySem PySem.W PySem.Calls PyProof.Rows
set_option Elab.async false
set_option maxRecDepth 100000
set_option maxHeartbeats 8000000
set_option pp.deepTerms false
set_option pp.deepTerms.threshold 4
set_option pp.maxSteps 6000
namespace Mine
theorem haltI_LawT1 {P : Prop} (h : Keep P) : P := h

namespace ET1
noncomputable def Pr (w : World) (p : Program) (loose : List Str) (mean : ExcName → Option Value) (mg : Str → Option Value) (mb : Str → Option Value) (fa : Addr) (cd : Value) (h₀ : Heap) (L : Addr) (m : Str → Option Value) (s : Shared) (Q : Flow → Shared → Prop) (I : Addr) (Or : Addr) (ni : Nat) (no : Nat) (b1 : Addr) (b2 : Addr) (b3 : Addr) (b4 : Addr) (b5 : Addr) (p1 : Int) (q1 : Int) (r1 : Int) (p2 : Int) (q2 : Int) (r2 : Int) (p3 : Int) (q3 : Int) (r3 : Int) (p4 : Int) (q4 : Int) (r4 : Int) (p5 : Int) (q5 : Int) (r5 : Int) (n1 : Nat) (n2 : Nat) (n3 : Nat) (n4 : Nat) (n5 : Nat) (x1 : Tok) (x1' : Tok) (x1'' : Tok) (x2 : Tok) (x2' : Tok) (x2'' : Tok) (x3 : Tok) (x3' : Tok) (x3'' : Tok) (x4 : Tok) (x4' : Tok) (x4'' : Tok) (x5 : Tok) (x5' : Tok) (x5'' : Tok) (th : Int) (mi : Int) (z0 : Int) (z1 : Int) (z2 : Int) (k6 : Tok) (k7 : Tok) (s1 : Tok) (s2 : Tok) (s3 : Tok) (o1 : Obj) (o6 : Obj) (o7 : Obj) (o8 : Obj) (o9 : Obj) (rest : List (Addr × Obj)) : Prop := ∀ (hp1 : 0 ≤ p1 ∧ p1 ≤ 2) (hq1 : 0 ≤ q1 ∧ q1 ≤ 2) (hr1 : 0 ≤ r1 ∧ r1 ≤ 2) (hp2 : 0 ≤ p2 ∧ p2 ≤ 2) (hq2 : 0 ≤ q2 ∧ q2 ≤ 2) (hr2 : 0 ≤ r2 ∧ r2 ≤ 2) (hp3 : 0 ≤ p3 ∧ p3 ≤ 2) (hq3 : 0 ≤ q3 ∧ q3 ≤ 2) (hr3 : 0 ≤ r3 ∧ r3 ≤ 2) (hp4 : 0 ≤ p4 ∧ p4 ≤ 2) (hq4 : 0 ≤ q4 ∧ q4 ≤ 2) (hr4 : 0 ≤ r4 ∧ r4 ≤ 2) (hp5 : 0 ≤ p5 ∧ p5 ≤ 2) (hq5 : 0 ≤ q5 ∧ q5 ≤ 2) (hr5 : 0 ≤ r5 ∧ r5 ≤ 2) (hth : 0 ≤ th ∧ th ≤ 2) (hmi : mi = 0 ∨ mi = 1) (hz0 : z0 = ordOf mi th 0) (hz1 : z1 = ordOf mi th 1) (hz2 : z2 = ordOf mi th 2) (hb0 : 0 ≤ z0 ∧ z0 ≤ 2) (hb1 : 0 ≤ z1 ∧ z1 ≤ 2) (hb2 : 0 ≤ z2 ∧ z2 ≤ 2) (hd1 : o1.data = .cell (some (.ref I))) (hd6 : o6.data = .cell (some (.int th k6))) (hd7 : o7.data = .cell (some (.int mi k7))) (hd8 : o8.data = .cell (some (.ref Or))) (v9 : Option Value) (hd9 : o9.data = .cell v9) (hr9 : ∀ p ∈ rest, p.1 ≠ L + 1 + 1 + 1 + 1 + 1 + 1 + 1 + 1 + 1) (hNI : @LT.lt Nat _ (L + 1 + 1 + 1 + 1 + 1 + 1 + 1 + 1 + 1) I) (hNOr : @LT.lt Nat _ (L + 1 + 1 + 1 + 1 + 1 + 1 + 1 + 1 + 1) Or) (hNb1 : @LT.lt Nat _ (L + 1 + 1 + 1 + 1 + 1 + 1 + 1 + 1 + 1) b1) (hNb2 : @LT.lt Nat _ (L + 1 + 1 + 1 + 1 + 1 + 1 + 1 + 1 + 1) b2) (hNb3 : @LT.lt Nat _ (L + 1 + 1 + 1 + 1 + 1 + 1 + 1 + 1 + 1) b3) (hNb4 : @LT.lt Nat _ (L + 1 + 1 + 1 + 1 + 1 + 1 + 1 + 1 + 1) b4) (hNb5 : @LT.lt Nat _ (L + 1 + 1 + 1 + 1 + 1 + 1 + 1 + 1 + 1) b5) (B : Below callerA h₀ [] h₀) (F : Fr h₀ L s.heap m) (X : (hd.heap_1 w.params).In h₀) (T : Top p loose mean mg mb h₀) (N : News h₀ L s.heap ((Or, W.listOf #[.int z0 s1, .int z1 s2, .int z2 s3] no) :: (I, W.listOf #[.ref b1, .ref b2, .ref b3, .ref b4, .ref b5] ni) :: (b5, W.listOf #[.int p5 x5, .int q5 x5', .int r5 x5''] n5) :: (b4, W.listOf #[.int p4 x4, .int q4 x4', .int r4 x4''] n4) :: (b3, W.listOf #[.int p3 x3, .int q3 x3', .int r3 x3''] n3) :: (b2, W.listOf #[.int p2 x2, .int q2 x2', .int r2 x2''] n2) :: (b1, W.listOf #[.int p1 x1, .int q1 x1', .int r1 x1''] n1) :: (L + 1, o1) :: (L + 1 + 1 + 1 + 1 + 1 + 1, o6) :: (L + 1 + 1 + 1 + 1 + 1 + 1 + 1, o7) :: (L + 1 + 1 + 1 + 1 + 1 + 1 + 1 + 1, o8) :: (L + 1 + 1 + 1 + 1 + 1 + 1 + 1 + 1 + 1, o9) :: rest)) (hQ : ∀ h' tk' (m' : Str → Option Value) o9' Im jm Ah jh t1 t2 t3 a1 m1 y1 y1' y1'' a2 m2 y2 y2' y2'' a3 m3 y3 y3' y3'' a4 m4 y4 y4' y4'' a5 m5 y5 y5' y5'', Fr h₀ L h' (fun y => if y = Str.ofString "images" then some (.ref Im) else m' y) → o9'.data = .cell (some (.ref Ah)) → News h₀ L h' ((Ah, W.listOf #[.int (2 ^ z0.toNat) t1, .int (7 - 2 ^ z2.toNat) t2, .int 7 t3] jh) :: (Im, W.listOf #[.ref a1, .ref a2, .ref a3, .ref a4, .ref a5] jm) :: (a5, W.listOf #[.int (pick3 p5 q5 r5 z0) y5, .int (pick3 p5 q5 r5 z1) y5', .int (pick3 p5 q5 r5 z2) y5''] m5) :: (a4, W.listOf #[.int (pick3 p4 q4 r4 z0) y4, .int (pick3 p4 q4 r4 z1) y4', .int (pick3 p4 q4 r4 z2) y4''] m4) :: (a3, W.listOf #[.int (pick3 p3 q3 r3 z0) y3, .int (pick3 p3 q3 r3 z1) y3', .int (pick3 p3 q3 r3 z2) y3''] m3) :: (a2, W.listOf #[.int (pick3 p2 q2 r2 z0) y2, .int (pick3 p2 q2 r2 z1) y2', .int (pick3 p2 q2 r2 z2) y2''] m2) :: (a1, W.listOf #[.int (pick3 p1 q1 r1 z0) y1, .int (pick3 p1 q1 r1 z1) y1', .int (pick3 p1 q1 r1 z2) y1''] m1) :: (Or, W.listOf #[.int z0 s1, .int z1 s2, .int z2 s3] no) :: (I, W.listOf #[.ref b1, .ref b2, .ref b3, .ref b4, .ref b5] ni) :: (b5, W.listOf #[.int p5 x5, .int q5 x5', .int r5 x5''] n5) :: (b4, W.listOf #[.int p4 x4, .int q4 x4', .int r4 x4''] n4) :: (b3, W.listOf #[.int p3 x3, .int q3 x3', .int r3 x3''] n3) :: (b2, W.listOf #[.int p2 x2, .int q2 x2', .int r2 x2''] n2) :: (b1, W.listOf #[.int p1 x1, .int q1 x1', .int r1 x1''] n1) :: (L + 1, o1) :: (L + 1 + 1 + 1 + 1 + 1 + 1, o6) :: (L + 1 + 1 + 1 + 1 + 1 + 1 + 1, o7) :: (L + 1 + 1 + 1 + 1 + 1 + 1 + 1 + 1, o8) :: (L + 1 + 1 + 1 + 1 + 1 + 1 + 1 + 1 + 1, o9') :: rest) → wpAny (model Challenge.rw_wo0027_01.row.prog w) (callerA.deeper (envOfC (Str.ofString "law") lawScope L fa cd)) (execs (turnParts.1.drop 4) (envOfC (Str.ofString "law") lawScope L fa cd)) Q (fun _ _ => False) { s with heap := h', toks := tk' }), wpAny (model Challenge.rw_wo0027_01.row.prog w) (callerA.deeper (envOfC (Str.ofString "law") lawScope L fa cd)) (execs (turnParts.1.drop 1) (envOfC (Str.ofString "law") lawScope L fa cd)) Q (fun _ _ => False) s
abbrev Pack : Type := (World) × (Program) × (List Str) × (ExcName → Option Value) × (Str → Option Value) × (Str → Option Value) × (Addr) × (Value) × (Heap) × (Addr) × (Str → Option Value) × (Shared) × (Flow → Shared → Prop) × (Addr) × (Addr) × (Nat) × (Nat) × (Addr) × (Addr) × (Addr) × (Addr) × (Addr) × (Int) × (Int) × (Int) × (Int) × (Int) × (Int) × (Int) × (Int) × (Int) × (Int) × (Int) × (Int) × (Int) × (Int) × (Int) × (Nat) × (Nat) × (Nat) × (Nat) × (Nat) × (Tok) × (Tok) × (Tok) × (Tok) × (Tok) × (Tok) × (Tok) × (Tok) × (Tok) × (Tok) × (Tok) × (Tok) × (Tok) × (Tok) × (Tok) × (Int) × (Int) × (Int) × (Int) × (Int) × (Tok) × (Tok) × (Tok) × (Tok) × (Tok) × (Obj) × (Obj) × (Obj) × (Obj) × (Obj) × (List (Addr × Obj))
noncomputable def PrX (x : Pack) : Prop := Pr (x.1) (x.2.1) (x.2.2.1) (x.2.2.2.1) (x.2.2.2.2.1) (x.2.2.2.2.2.1) (x.2.2.2.2.2.2.1) (x.2.2.2.2.2.2.2.1) (x.2.2.2.2.2.2.2.2.1) (x.2.2.2.2.2.2.2.2.2.1) (x.2.2.2.2.2.2.2.2.2.2.1) (x.2.2.2.2.2.2.2.2.2.2.2.1) (x.2.2.2.2.2.2.2.2.2.2.2.2.1) (x.2.2.2.2.2.2.2.2.2.2.2.2.2.1) (x.2.2.2.2.2.2.2.2.2.2.2.2.2.2.1) (x.2.2.2.2.2.2.2.2.2.2.2.2.2.2.2.1) (x.2.2.2.2.2.2.2.2.2.2.2.2.2.2.2.2.1) (x.2.2.2.2.2.2.2.2.2.2.2.2.2.2.2.2.2.1) (x.2.2.2.2.2.2.2.2.2.2.2.2.2.2.2.2.2.2.1) (x.2.2.2.2.2.2.2.2.2.2.2.2.2.2.2.2.2.2.2.1) (x.2.2.2.2.2.2.2.2.2.2.2.2.2.2.2.2.2.2.2.2.1) (x.2.2.2.2.2.2.2.2.2.2.2.2.2.2.2.2.2.2.2.2.2.1) (x.2.2.2.2.2.2.2.2.2.2.2.2.2.2.2.2.2.2.2.2.2.2.1) (x.2.2.2.2.2.2.2.2.2.2.2.2.2.2.2.2.2.2.2.2.2.2.2.1) (x.2.2.2.2.2.2.2.2.2.2.2.2.2.2.2.2.2.2.2.2.2.2.2.2.1) (x.2.2.2.2.2.2.2.2.2.2.2.2.2.2.2.2.2.2.2.2.2.2.2.2.2.1) (x.2.2.2.2.2.2.2.2.2.2.2.2.2.2.2.2.2.2.2.2.2.2.2.2.2.2.1) (x.2.2.2.2.2.2.2.2.2.2.2.2.2.2.2.2.2.2.2.2.2.2.2.2.2.2.2.1) (x.2.2.2.2.2.2.2.2.2.2.2.2.2.2.2.2.2.2.2.2.2.2.2.2.2.2.2.2.1) (x.2.2.2.2.2.2.2.2.2.2.2.2.2.2.2.2.2.2.2.2.2.2.2.2.2.2.2.2.2.1) (x.2.2.2.2.2.2.2.2.2.2.2.2.2.2.2.2.2.2.2.2.2.2.2.2.2.2.2.2.2.2.1) (x.2.2.2.2.2.2.2.2.2.2.2.2.2.2.2.2.2.2.2.2.2.2.2.2.2.2.2.2.2.2.2.1) (x.2.2.2.2.2.2.2.2.2.2.2.2.2.2.2.2.2.2.2.2.2.2.2.2.2.2.2.2.2.2.2.2.1) (x.2.2.2.2.2.2.2.2.2.2.2.2.2.2.2.2.2.2.2.2.2.2.2.2.2.2.2.2.2.2.2.2.2.1) (x.2.2.2.2.2.2.2.2.2.2.2.2.2.2.2.2.2.2.2.2.2.2.2.2.2.2.2.2.2.2.2.2.2.2.1) (x.2.2.2.2.2.2.2.2.2.2.2.2.2.2.2.2.2.2.2.2.2.2.2.2.2.2.2.2.2.2.2.2.2.2.2.1) (x.2.2.2.2.2.2.2.2.2.2.2.2.2.2.2.2.2.2.2.2.2.2.2.2.2.2.2.2.2.2.2.2.2.2.2.2.1) (x.2.2.2.2.2.2.2.2.2.2.2.2.2.2.2.2.2.2.2.2.2.2.2.2.2.2.2.2.2.2.2.2.2.2.2.2.2.1) (x.2.2.2.2.2.2.2.2.2.2.2.2.2.2.2.2.2.2.2.2.2.2.2.2.2.2.2.2.2.2.2.2.2.2.2.2.2.2.1) (x.2.2.2.2.2.2.2.2.2.2.2.2.2.2.2.2.2.2.2.2.2.2.2.2.2.2.2.2.2.2.2.2.2.2.2.2.2.2.2.1) (x.2.2.2.2.2.2.2.2.2.2.2.2.2.2.2.2.2.2.2.2.2.2.2.2.2.2.2.2.2.2.2.2.2.2.2.2.2.2.2.2.1) (x.2.2.2.2.2.2.2.2.2.2.2.2.2.2.2.2.2.2.2.2.2.2.2.2.2.2.2.2.2.2.2.2.2.2.2.2.2.2.2.2.2.1) (x.2.2.2.2.2.2.2.2.2.2.2.2.2.2.2.2.2.2.2.2.2.2.2.2.2.2.2.2.2.2.2.2.2.2.2.2.2.2.2.2.2.2.1) (x.2.2.2.2.2.2.2.2.2.2.2.2.2.2.2.2.2.2.2.2.2.2.2.2.2.2.2.2.2.2.2.2.2.2.2.2.2.2.2.2.2.2.2.1) (x.2.2.2.2.2.2.2.2.2.2.2.2.2.2.2.2.2.2.2.2.2.2.2.2.2.2.2.2.2.2.2.2.2.2.2.2.2.2.2.2.2.2.2.2.1) (x.2.2.2.2.2.2.2.2.2.2.2.2.2.2.2.2.2.2.2.2.2.2.2.2.2.2.2.2.2.2.2.2.2.2.2.2.2.2.2.2.2.2.2.2.2.1) (x.2.2.2.2.2.2.2.2.2.2.2.2.2.2.2.2.2.2.2.2.2.2.2.2.2.2.2.2.2.2.2.2.2.2.2.2.2.2.2.2.2.2.2.2.2.2.1) (x.2.2.2.2.2.2.2.2.2.2.2.2.2.2.2.2.2.2.2.2.2.2.2.2.2.2.2.2.2.2.2.2.2.2.2.2.2.2.2.2.2.2.2.2.2.2.2.1) (x.2.2.2.2.2.2.2.2.2.2.2.2.2.2.2.2.2.2.2.2.2.2.2.2.2.2.2.2.2.2.2.2.2.2.2.2.2.2.2.2.2.2.2.2.2.2.2.2.1) (x.2.2.2.2.2.2.2.2.2.2.2.2.2.2.2.2.2.2.2.2.2.2.2.2.2.2.2.2.2.2.2.2.2.2.2.2.2.2.2.2.2.2.2.2.2.2.2.2.2.1) (x.2.2.2.2.2.2.2.2.2.2.2.2.2.2.2.2.2.2.2.2.2.2.2.2.2.2.2.2.2.2.2.2.2.2.2.2.2.2.2.2.2.2.2.2.2.2.2.2.2.2.1) (x.2.2.2.2.2.2.2.2.2.2.2.2.2.2.2.2.2.2.2.2.2.2.2.2.2.2.2.2.2.2.2.2.2.2.2.2.2.2.2.2.2.2.2.2.2.2.2.2.2.2.2.1) (x.2.2.2.2.2.2.2.2.2.2.2.2.2.2.2.2.2.2.2.2.2.2.2.2.2.2.2.2.2.2.2.2.2.2.2.2.2.2.2.2.2.2.2.2.2.2.2.2.2.2.2.2.1) (x.2.2.2.2.2.2.2.2.2.2.2.2.2.2.2.2.2.2.2.2.2.2.2.2.2.2.2.2.2.2.2.2.2.2.2.2.2.2.2.2.2.2.2.2.2.2.2.2.2.2.2.2.2.1) (x.2.2.2.2.2.2.2.2.2.2.2.2.2.2.2.2.2.2.2.2.2.2.2.2.2.2.2.2.2.2.2.2.2.2.2.2.2.2.2.2.2.2.2.2.2.2.2.2.2.2.2.2.2.2.1) (x.2.2.2.2.2.2.2.2.2.2.2.2.2.2.2.2.2.2.2.2.2.2.2.2.2.2.2.2.2.2.2.2.2.2.2.2.2.2.2.2.2.2.2.2.2.2.2.2.2.2.2.2.2.2.2.1) (x.2.2.2.2.2.2.2.2.2.2.2.2.2.2.2.2.2.2.2.2.2.2.2.2.2.2.2.2.2.2.2.2.2.2.2.2.2.2.2.2.2.2.2.2.2.2.2.2.2.2.2.2.2.2.2.2.1) (x.2.2.2.2.2.2.2.2.2.2.2.2.2.2.2.2.2.2.2.2.2.2.2.2.2.2.2.2.2.2.2.2.2.2.2.2.2.2.2.2.2.2.2.2.2.2.2.2.2.2.2.2.2.2.2.2.2.1) (x.2.2.2.2.2.2.2.2.2.2.2.2.2.2.2.2.2.2.2.2.2.2.2.2.2.2.2.2.2.2.2.2.2.2.2.2.2.2.2.2.2.2.2.2.2.2.2.2.2.2.2.2.2.2.2.2.2.2.1) (x.2.2.2.2.2.2.2.2.2.2.2.2.2.2.2.2.2.2.2.2.2.2.2.2.2.2.2.2.2.2.2.2.2.2.2.2.2.2.2.2.2.2.2.2.2.2.2.2.2.2.2.2.2.2.2.2.2.2.2.1) (x.2.2.2.2.2.2.2.2.2.2.2.2.2.2.2.2.2.2.2.2.2.2.2.2.2.2.2.2.2.2.2.2.2.2.2.2.2.2.2.2.2.2.2.2.2.2.2.2.2.2.2.2.2.2.2.2.2.2.2.2.1) (x.2.2.2.2.2.2.2.2.2.2.2.2.2.2.2.2.2.2.2.2.2.2.2.2.2.2.2.2.2.2.2.2.2.2.2.2.2.2.2.2.2.2.2.2.2.2.2.2.2.2.2.2.2.2.2.2.2.2.2.2.2.1) (x.2.2.2.2.2.2.2.2.2.2.2.2.2.2.2.2.2.2.2.2.2.2.2.2.2.2.2.2.2.2.2.2.2.2.2.2.2.2.2.2.2.2.2.2.2.2.2.2.2.2.2.2.2.2.2.2.2.2.2.2.2.2.1) (x.2.2.2.2.2.2.2.2.2.2.2.2.2.2.2.2.2.2.2.2.2.2.2.2.2.2.2.2.2.2.2.2.2.2.2.2.2.2.2.2.2.2.2.2.2.2.2.2.2.2.2.2.2.2.2.2.2.2.2.2.2.2.2.1) (x.2.2.2.2.2.2.2.2.2.2.2.2.2.2.2.2.2.2.2.2.2.2.2.2.2.2.2.2.2.2.2.2.2.2.2.2.2.2.2.2.2.2.2.2.2.2.2.2.2.2.2.2.2.2.2.2.2.2.2.2.2.2.2.2.1) (x.2.2.2.2.2.2.2.2.2.2.2.2.2.2.2.2.2.2.2.2.2.2.2.2.2.2.2.2.2.2.2.2.2.2.2.2.2.2.2.2.2.2.2.2.2.2.2.2.2.2.2.2.2.2.2.2.2.2.2.2.2.2.2.2.2.1) (x.2.2.2.2.2.2.2.2.2.2.2.2.2.2.2.2.2.2.2.2.2.2.2.2.2.2.2.2.2.2.2.2.2.2.2.2.2.2.2.2.2.2.2.2.2.2.2.2.2.2.2.2.2.2.2.2.2.2.2.2.2.2.2.2.2.2.1) (x.2.2.2.2.2.2.2.2.2.2.2.2.2.2.2.2.2.2.2.2.2.2.2.2.2.2.2.2.2.2.2.2.2.2.2.2.2.2.2.2.2.2.2.2.2.2.2.2.2.2.2.2.2.2.2.2.2.2.2.2.2.2.2.2.2.2.2.1) (x.2.2.2.2.2.2.2.2.2.2.2.2.2.2.2.2.2.2.2.2.2.2.2.2.2.2.2.2.2.2.2.2.2.2.2.2.2.2.2.2.2.2.2.2.2.2.2.2.2.2.2.2.2.2.2.2.2.2.2.2.2.2.2.2.2.2.2.2.1) (x.2.2.2.2.2.2.2.2.2.2.2.2.2.2.2.2.2.2.2.2.2.2.2.2.2.2.2.2.2.2.2.2.2.2.2.2.2.2.2.2.2.2.2.2.2.2.2.2.2.2.2.2.2.2.2.2.2.2.2.2.2.2.2.2.2.2.2.2.2.1) (x.2.2.2.2.2.2.2.2.2.2.2.2.2.2.2.2.2.2.2.2.2.2.2.2.2.2.2.2.2.2.2.2.2.2.2.2.2.2.2.2.2.2.2.2.2.2.2.2.2.2.2.2.2.2.2.2.2.2.2.2.2.2.2.2.2.2.2.2.2.2.1) (x.2.2.2.2.2.2.2.2.2.2.2.2.2.2.2.2.2.2.2.2.2.2.2.2.2.2.2.2.2.2.2.2.2.2.2.2.2.2.2.2.2.2.2.2.2.2.2.2.2.2.2.2.2.2.2.2.2.2.2.2.2.2.2.2.2.2.2.2.2.2.2.1) (x.2.2.2.2.2.2.2.2.2.2.2.2.2.2.2.2.2.2.2.2.2.2.2.2.2.2.2.2.2.2.2.2.2.2.2.2.2.2.2.2.2.2.2.2.2.2.2.2.2.2.2.2.2.2.2.2.2.2.2.2.2.2.2.2.2.2.2.2.2.2.2.2)
theorem ne : Nonempty Pack := ⟨(aWorld 1, default, default, default, default, default, default, default, default, default, default, (start Mine.view).1, default, default, default, default, default, default, default, default, default, default, default, default, default, default, default, default, default, default, default, default, default, default, default, default, default, default, default, default, default, default, default, default, default, default, default, default, default, default, default, default, default, default, default, default, default, default, default, default, default, default, default, default, default, default, default, default, default, default, default, default, default)⟩
@[irreducible] noncomputable def pk : Pack := bad ne PrX
@[irreducible] noncomputable def w : World := pk.1
@[irreducible] noncomputable def p : Program := pk.2.1
@[irreducible] noncomputable def loose : List Str := pk.2.2.1
@[irreducible] noncomputable def mean : ExcName → Option Value := pk.2.2.2.1
@[irreducible] noncomputable def mg : Str → Option Value := pk.2.2.2.2.1
@[irreducible] noncomputable def mb : Str → Option Value := pk.2.2.2.2.2.1
@[irreducible] noncomputable def fa : Addr := pk.2.2.2.2.2.2.1
@[irreducible] noncomputable def cd : Value := pk.2.2.2.2.2.2.2.1
@[irreducible] noncomputable def h₀ : Heap := pk.2.2.2.2.2.2.2.2.1
@[irreducible] noncomputable def L : Addr := pk.2.2.2.2.2.2.2.2.2.1
@[irreducible] noncomputable def m : Str → Option Value := pk.2.2.2.2.2.2.2.2.2.2.1
@[irreducible] noncomputable def s : Shared := pk.2.2.2.2.2.2.2.2.2.2.2.1
@[irreducible] noncomputable def Q : Flow → Shared → Prop := pk.2.2.2.2.2.2.2.2.2.2.2.2.1
@[irreducible] noncomputable def I : Addr := pk.2.2.2.2.2.2.2.2.2.2.2.2.2.1
@[irreducible] noncomputable def Or : Addr := pk.2.2.2.2.2.2.2.2.2.2.2.2.2.2.1
@[irreducible] noncomputable def ni : Nat := pk.2.2.2.2.2.2.2.2.2.2.2.2.2.2.2.1
@[irreducible] noncomputable def no : Nat := pk.2.2.2.2.2.2.2.2.2.2.2.2.2.2.2.2.1
@[irreducible] noncomputable def b1 : Addr := pk.2.2.2.2.2.2.2.2.2.2.2.2.2.2.2.2.2.1
@[irreducible] noncomputable def b2 : Addr := pk.2.2.2.2.2.2.2.2.2.2.2.2.2.2.2.2.2.2.1
@[irreducible] noncomputable def b3 : Addr := pk.2.2.2.2.2.2.2.2.2.2.2.2.2.2.2.2.2.2.2.1
@[irreducible] noncomputable def b4 : Addr := pk.2.2.2.2.2.2.2.2.2.2.2.2.2.2.2.2.2.2.2.2.1
@[irreducible] noncomputable def b5 : Addr := pk.2.2.2.2.2.2.2.2.2.2.2.2.2.2.2.2.2.2.2.2.2.1
@[irreducible] noncomputable def p1 : Int := pk.2.2.2.2.2.2.2.2.2.2.2.2.2.2.2.2.2.2.2.2.2.2.1
@[irreducible] noncomputable def q1 : Int := pk.2.2.2.2.2.2.2.2.2.2.2.2.2.2.2.2.2.2.2.2.2.2.2.1
@[irreducible] noncomputable def r1 : Int := pk.2.2.2.2.2.2.2.2.2.2.2.2.2.2.2.2.2.2.2.2.2.2.2.2.1
@[irreducible] noncomputable def p2 : Int := pk.2.2.2.2.2.2.2.2.2.2.2.2.2.2.2.2.2.2.2.2.2.2.2.2.2.1
@[irreducible] noncomputable def q2 : Int := pk.2.2.2.2.2.2.2.2.2.2.2.2.2.2.2.2.2.2.2.2.2.2.2.2.2.2.1
@[irreducible] noncomputable def r2 : Int := pk.2.2.2.2.2.2.2.2.2.2.2.2.2.2.2.2.2.2.2.2.2.2.2.2.2.2.2.1
@[irreducible] noncomputable def p3 : Int := pk.2.2.2.2.2.2.2.2.2.2.2.2.2.2.2.2.2.2.2.2.2.2.2.2.2.2.2.2.1
@[irreducible] noncomputable def q3 : Int := pk.2.2.2.2.2.2.2.2.2.2.2.2.2.2.2.2.2.2.2.2.2.2.2.2.2.2.2.2.2.1
@[irreducible] noncomputable def r3 : Int := pk.2.2.2.2.2.2.2.2.2.2.2.2.2.2.2.2.2.2.2.2.2.2.2.2.2.2.2.2.2.2.1
@[irreducible] noncomputable def p4 : Int := pk.2.2.2.2.2.2.2.2.2.2.2.2.2.2.2.2.2.2.2.2.2.2.2.2.2.2.2.2.2.2.2.1
@[irreducible] noncomputable def q4 : Int := pk.2.2.2.2.2.2.2.2.2.2.2.2.2.2.2.2.2.2.2.2.2.2.2.2.2.2.2.2.2.2.2.2.1
@[irreducible] noncomputable def r4 : Int := pk.2.2.2.2.2.2.2.2.2.2.2.2.2.2.2.2.2.2.2.2.2.2.2.2.2.2.2.2.2.2.2.2.2.1
@[irreducible] noncomputable def p5 : Int := pk.2.2.2.2.2.2.2.2.2.2.2.2.2.2.2.2.2.2.2.2.2.2.2.2.2.2.2.2.2.2.2.2.2.2.1
@[irreducible] noncomputable def q5 : Int := pk.2.2.2.2.2.2.2.2.2.2.2.2.2.2.2.2.2.2.2.2.2.2.2.2.2.2.2.2.2.2.2.2.2.2.2.1
@[irreducible] noncomputable def r5 : Int := pk.2.2.2.2.2.2.2.2.2.2.2.2.2.2.2.2.2.2.2.2.2.2.2.2.2.2.2.2.2.2.2.2.2.2.2.2.1
@[irreducible] noncomputable def n1 : Nat := pk.2.2.2.2.2.2.2.2.2.2.2.2.2.2.2.2.2.2.2.2.2.2.2.2.2.2.2.2.2.2.2.2.2.2.2.2.2.1
@[irreducible] noncomputable def n2 : Nat := pk.2.2.2.2.2.2.2.2.2.2.2.2.2.2.2.2.2.2.2.2.2.2.2.2.2.2.2.2.2.2.2.2.2.2.2.2.2.2.1
@[irreducible] noncomputable def n3 : Nat := pk.2.2.2.2.2.2.2.2.2.2.2.2.2.2.2.2.2.2.2.2.2.2.2.2.2.2.2.2.2.2.2.2.2.2.2.2.2.2.2.1
@[irreducible] noncomputable def n4 : Nat := pk.2.2.2.2.2.2.2.2.2.2.2.2.2.2.2.2.2.2.2.2.2.2.2.2.2.2.2.2.2.2.2.2.2.2.2.2.2.2.2.2.1
@[irreducible] noncomputable def n5 : Nat := pk.2.2.2.2.2.2.2.2.2.2.2.2.2.2.2.2.2.2.2.2.2.2.2.2.2.2.2.2.2.2.2.2.2.2.2.2.2.2.2.2.2.1
@[irreducible] noncomputable def x1 : Tok := pk.2.2.2.2.2.2.2.2.2.2.2.2.2.2.2.2.2.2.2.2.2.2.2.2.2.2.2.2.2.2.2.2.2.2.2.2.2.2.2.2.2.2.1
@[irreducible] noncomputable def x1' : Tok := pk.2.2.2.2.2.2.2.2.2.2.2.2.2.2.2.2.2.2.2.2.2.2.2.2.2.2.2.2.2.2.2.2.2.2.2.2.2.2.2.2.2.2.2.1
@[irreducible] noncomputable def x1'' : Tok := pk.2.2.2.2.2.2.2.2.2.2.2.2.2.2.2.2.2.2.2.2.2.2.2.2.2.2.2.2.2.2.2.2.2.2.2.2.2.2.2.2.2.2.2.2.1
@[irreducible] noncomputable def x2 : Tok := pk.2.2.2.2.2.2.2.2.2.2.2.2.2.2.2.2.2.2.2.2.2.2.2.2.2.2.2.2.2.2.2.2.2.2.2.2.2.2.2.2.2.2.2.2.2.1
@[irreducible] noncomputable def x2' : Tok := pk.2.2.2.2.2.2.2.2.2.2.2.2.2.2.2.2.2.2.2.2.2.2.2.2.2.2.2.2.2.2.2.2.2.2.2.2.2.2.2.2.2.2.2.2.2.2.1
@[irreducible] noncomputable def x2'' : Tok := pk.2.2.2.2.2.2.2.2.2.2.2.2.2.2.2.2.2.2.2.2.2.2.2.2.2.2.2.2.2.2.2.2.2.2.2.2.2.2.2.2.2.2.2.2.2.2.2.1
@[irreducible] noncomputable def x3 : Tok := pk.2.2.2.2.2.2.2.2.2.2.2.2.2.2.2.2.2.2.2.2.2.2.2.2.2.2.2.2.2.2.2.2.2.2.2.2.2.2.2.2.2.2.2.2.2.2.2.2.1
@[irreducible] noncomputable def x3' : Tok := pk.2.2.2.2.2.2.2.2.2.2.2.2.2.2.2.2.2.2.2.2.2.2.2.2.2.2.2.2.2.2.2.2.2.2.2.2.2.2.2.2.2.2.2.2.2.2.2.2.2.1
@[irreducible] noncomputable def x3'' : Tok := pk.2.2.2.2.2.2.2.2.2.2.2.2.2.2.2.2.2.2.2.2.2.2.2.2.2.2.2.2.2.2.2.2.2.2.2.2.2.2.2.2.2.2.2.2.2.2.2.2.2.2.1
@[irreducible] noncomputable def x4 : Tok := pk.2.2.2.2.2.2.2.2.2.2.2.2.2.2.2.2.2.2.2.2.2.2.2.2.2.2.2.2.2.2.2.2.2.2.2.2.2.2.2.2.2.2.2.2.2.2.2.2.2.2.2.1
@[irreducible] noncomputable def x4' : Tok := pk.2.2.2.2.2.2.2.2.2.2.2.2.2.2.2.2.2.2.2.2.2.2.2.2.2.2.2.2.2.2.2.2.2.2.2.2.2.2.2.2.2.2.2.2.2.2.2.2.2.2.2.2.1
@[irreducible] noncomputable def x4'' : Tok := pk.2.2.2.2.2.2.2.2.2.2.2.2.2.2.2.2.2.2.2.2.2.2.2.2.2.2.2.2.2.2.2.2.2.2.2.2.2.2.2.2.2.2.2.2.2.2.2.2.2.2.2.2.2.1
@[irreducible] noncomputable def x5 : Tok := pk.2.2.2.2.2.2.2.2.2.2.2.2.2.2.2.2.2.2.2.2.2.2.2.2.2.2.2.2.2.2.2.2.2.2.2.2.2.2.2.2.2.2.2.2.2.2.2.2.2.2.2.2.2.2.1
@[irreducible] noncomputable def x5' : Tok := pk.2.2.2.2.2.2.2.2.2.2.2.2.2.2.2.2.2.2.2.2.2.2.2.2.2.2.2.2.2.2.2.2.2.2.2.2.2.2.2.2.2.2.2.2.2.2.2.2.2.2.2.2.2.2.2.1
@[irreducible] noncomputable def x5'' : Tok := pk.2.2.2.2.2.2.2.2.2.2.2.2.2.2.2.2.2.2.2.2.2.2.2.2.2.2.2.2.2.2.2.2.2.2.2.2.2.2.2.2.2.2.2.2.2.2.2.2.2.2.2.2.2.2.2.2.1
@[irreducible] noncomputable def th : Int := pk.2.2.2.2.2.2.2.2.2.2.2.2.2.2.2.2.2.2.2.2.2.2.2.2.2.2.2.2.2.2.2.2.2.2.2.2.2.2.2.2.2.2.2.2.2.2.2.2.2.2.2.2.2.2.2.2.2.1
@[irreducible] noncomputable def mi : Int := pk.2.2.2.2.2.2.2.2.2.2.2.2.2.2.2.2.2.2.2.2.2.2.2.2.2.2.2.2.2.2.2.2.2.2.2.2.2.2.2.2.2.2.2.2.2.2.2.2.2.2.2.2.2.2.2.2.2.2.1
@[irreducible] noncomputable def z0 : Int := pk.2.2.2.2.2.2.2.2.2.2.2.2.2.2.2.2.2.2.2.2.2.2.2.2.2.2.2.2.2.2.2.2.2.2.2.2.2.2.2.2.2.2.2.2.2.2.2.2.2.2.2.2.2.2.2.2.2.2.2.1
@[irreducible] noncomputable def z1 : Int := pk.2.2.2.2.2.2.2.2.2.2.2.2.2.2.2.2.2.2.2.2.2.2.2.2.2.2.2.2.2.2.2.2.2.2.2.2.2.2.2.2.2.2.2.2.2.2.2.2.2.2.2.2.2.2.2.2.2.2.2.2.1
@[irreducible] noncomputable def z2 : Int := pk.2.2.2.2.2.2.2.2.2.2.2.2.2.2.2.2.2.2.2.2.2.2.2.2.2.2.2.2.2.2.2.2.2.2.2.2.2.2.2.2.2.2.2.2.2.2.2.2.2.2.2.2.2.2.2.2.2.2.2.2.2.1
@[irreducible] noncomputable def k6 : Tok := pk.2.2.2.2.2.2.2.2.2.2.2.2.2.2.2.2.2.2.2.2.2.2.2.2.2.2.2.2.2.2.2.2.2.2.2.2.2.2.2.2.2.2.2.2.2.2.2.2.2.2.2.2.2.2.2.2.2.2.2.2.2.2.1
@[irreducible] noncomputable def k7 : Tok := pk.2.2.2.2.2.2.2.2.2.2.2.2.2.2.2.2.2.2.2.2.2.2.2.2.2.2.2.2.2.2.2.2.2.2.2.2.2.2.2.2.2.2.2.2.2.2.2.2.2.2.2.2.2.2.2.2.2.2.2.2.2.2.2.1
@[irreducible] noncomputable def s1 : Tok := pk.2.2.2.2.2.2.2.2.2.2.2.2.2.2.2.2.2.2.2.2.2.2.2.2.2.2.2.2.2.2.2.2.2.2.2.2.2.2.2.2.2.2.2.2.2.2.2.2.2.2.2.2.2.2.2.2.2.2.2.2.2.2.2.2.1
@[irreducible] noncomputable def s2 : Tok := pk.2.2.2.2.2.2.2.2.2.2.2.2.2.2.2.2.2.2.2.2.2.2.2.2.2.2.2.2.2.2.2.2.2.2.2.2.2.2.2.2.2.2.2.2.2.2.2.2.2.2.2.2.2.2.2.2.2.2.2.2.2.2.2.2.2.1
@[irreducible] noncomputable def s3 : Tok := pk.2.2.2.2.2.2.2.2.2.2.2.2.2.2.2.2.2.2.2.2.2.2.2.2.2.2.2.2.2.2.2.2.2.2.2.2.2.2.2.2.2.2.2.2.2.2.2.2.2.2.2.2.2.2.2.2.2.2.2.2.2.2.2.2.2.2.1
@[irreducible] noncomputable def o1 : Obj := pk.2.2.2.2.2.2.2.2.2.2.2.2.2.2.2.2.2.2.2.2.2.2.2.2.2.2.2.2.2.2.2.2.2.2.2.2.2.2.2.2.2.2.2.2.2.2.2.2.2.2.2.2.2.2.2.2.2.2.2.2.2.2.2.2.2.2.2.1
@[irreducible] noncomputable def o6 : Obj := pk.2.2.2.2.2.2.2.2.2.2.2.2.2.2.2.2.2.2.2.2.2.2.2.2.2.2.2.2.2.2.2.2.2.2.2.2.2.2.2.2.2.2.2.2.2.2.2.2.2.2.2.2.2.2.2.2.2.2.2.2.2.2.2.2.2.2.2.2.1
@[irreducible] noncomputable def o7 : Obj := pk.2.2.2.2.2.2.2.2.2.2.2.2.2.2.2.2.2.2.2.2.2.2.2.2.2.2.2.2.2.2.2.2.2.2.2.2.2.2.2.2.2.2.2.2.2.2.2.2.2.2.2.2.2.2.2.2.2.2.2.2.2.2.2.2.2.2.2.2.2.1
@[irreducible] noncomputable def o8 : Obj := pk.2.2.2.2.2.2.2.2.2.2.2.2.2.2.2.2.2.2.2.2.2.2.2.2.2.2.2.2.2.2.2.2.2.2.2.2.2.2.2.2.2.2.2.2.2.2.2.2.2.2.2.2.2.2.2.2.2.2.2.2.2.2.2.2.2.2.2.2.2.2.1
@[irreducible] noncomputable def o9 : Obj := pk.2.2.2.2.2.2.2.2.2.2.2.2.2.2.2.2.2.2.2.2.2.2.2.2.2.2.2.2.2.2.2.2.2.2.2.2.2.2.2.2.2.2.2.2.2.2.2.2.2.2.2.2.2.2.2.2.2.2.2.2.2.2.2.2.2.2.2.2.2.2.2.1
@[irreducible] noncomputable def rest : List (Addr × Obj) := pk.2.2.2.2.2.2.2.2.2.2.2.2.2.2.2.2.2.2.2.2.2.2.2.2.2.2.2.2.2.2.2.2.2.2.2.2.2.2.2.2.2.2.2.2.2.2.2.2.2.2.2.2.2.2.2.2.2.2.2.2.2.2.2.2.2.2.2.2.2.2.2.2
theorem core : Pr w p loose mean mg mb fa cd h₀ L m s Q I Or ni no b1 b2 b3 b4 b5 p1 q1 r1 p2 q2 r2 p3 q3 r3 p4 q4 r4 p5 q5 r5 n1 n2 n3 n4 n5 x1 x1' x1'' x2 x2' x2'' x3 x3' x3'' x4 x4' x4'' x5 x5' x5'' th mi z0 z1 z2 k6 k7 s1 s2 s3 o1 o6 o7 o8 o9 rest := by
  intro hp1 hq1 hr1 hp2 hq2 hr2 hp3 hq3 hr3 hp4 hq4 hr4 hp5 hq5 hr5 hth hmi hz0 hz1 hz2 hb0 hb1 hb2 hd1 hd6 hd7 hd8 v9 hd9 hr9 hNI hNOr hNb1 hNb2 hNb3 hNb4 hNb5 B F X T N hQ
  w_top off
  k_with_none
  k_with "subscriptTail Name Constant ref int" => (k_here; (with_reducible show wpAny _ _ (subscriptTail _ _ (Value.ref _) (Value.int _ _)) _ _ _); (with_unfolding_all refine' item_litK ?k1x262 ?k2x262 ?k3x262 ?k4x262 ?_ ?k6x262; (case k1x262 => exact News.isList (by k_asm) (by ((with_reducible (repeat (first | exact List.mem_cons_self | exact mem_led (by with_reducible assumption) | refine List.mem_cons_of_mem _ ?_ | refine mem_led_sub (by with_reducible assumption) ?_))); (first | done | with_reducible assumption)))); (case k2x262 => decide); (case k3x262 => decide); (case k4x262 => rfl); (case k6x262 => with_unfolding_all rfl); k_whole))
  k_with "subscriptTail Name Name ref int" => (k_here; (with_reducible show wpAny _ _ (subscriptTail _ _ (Value.ref _) (Value.int _ _)) _ _ _); (with_unfolding_all refine' item_litK ?k1x263 ?k2x263 ?k3x263 ?k4x263 ?_ ?k6x263; (case k1x263 => exact News.isList (by k_asm) (by ((with_reducible (repeat (first | exact List.mem_cons_self | exact mem_led (by with_reducible assumption) | refine List.mem_cons_of_mem _ ?_ | refine mem_led_sub (by with_reducible assumption) ?_))); (first | done | with_reducible assumption)))); (case k2x263 => decide); (case k3x263 => decide); (case k4x263 => rfl); (case k6x263 => with_unfolding_all rfl); k_whole))
  k_with "eval ListComp" => (k_here; k_dflt (first
    | refine comp_exprNH (by k_asm) (by with_unfolding_all rfl) (by rfl) (by decide) (fun _ => by rfl) (fun _ => by rfl) ?_
    | refine comp_exprXH (by k_asm) (by with_unfolding_all rfl) (by rfl) (by decide) (fun _ => by rfl) (fun _ => by rfl) ?_); intro Fin9'ₓ hFin9'ₓ)
  k_with "exec Assign cons ListComp" => (k_here; k_dflt (refine comp_assignNH (by k_asm) (by rfl) (by with_unfolding_all rfl) (by with_unfolding_all rfl) (by rfl) (by decide) (fun _ => by rfl) (fun _ => by rfl) (by rfl) (by rfl) ?_); intro Fin9'ₓ hFin9'ₓ)
  k_with "CSrc" => (k_here; k_dflt (first
    | (refine csrc_listNH rfl (by k_asm) (by k_asm) (by is_list) (by first | size_fits | exact Nat.le_of_ble_eq_true rfl) (by rfl) (by rfl) ?_; intro g1'ₓ g2'ₓ nb'ₓ Fin8'ₓ hFin8'ₓ)
    | (refine csrc_listXH rfl (by k_asm) (by k_asm) (by is_list) (by first | size_fits | exact Nat.le_of_ble_eq_true rfl) (by rfl) (by rfl) (fun _ => by rfl) ?_; intro g1'ₓ g2'ₓ nb'ₓ Fin8'ₓ hFin8'ₓ)
    | (refine csrc_tupleNH rfl (by k_asm) (by k_asm) (News.isTup (by k_asm) (by ((with_reducible (repeat (first | exact List.mem_cons_self | exact mem_led (by with_reducible assumption) | refine List.mem_cons_of_mem _ ?_ | refine mem_led_sub (by with_reducible assumption) ?_))); (first | done | with_reducible assumption)))) (by first | size_fits | exact Nat.le_of_ble_eq_true rfl) (by rfl) (by rfl) ?_; intro g1'ₓ g2'ₓ nb'ₓ Fin8'ₓ hFin8'ₓ)
    | (refine csrc_rangeNH rfl (by k_asm) (by k_asm) (by assumption) (by first | decide | rfl) (by first | rfl | decide) (by first | size_fits | exact Nat.le_of_ble_eq_true rfl) (by rfl) (by rfl) ?_; intro g1'ₓ g2'ₓ nb'ₓ Fin8'ₓ hFin8'ₓ)
    | (refine csrc_rangeXH rfl (by k_asm) (by k_asm) (by assumption) (by first | decide | rfl) (by first | rfl | decide) (by first | size_fits | exact Nat.le_of_ble_eq_true rfl) (by rfl) (by rfl) (fun _ => by rfl) ?_; intro g1'ₓ g2'ₓ nb'ₓ Fin8'ₓ hFin8'ₓ)); refine AllInC.both ?_; intro hsub'ₓ; (try dsimp only [AllInC]); intros; (try (refine AllInC.skip ?_)))
  k_with "call type:zip" => (k_here; (with_reducible show wpAny _ _ (PySem.call _ _) (CSrc _ _ _ _ _ _ _ _ _ _ _ _ _ _ _ _) _ _); k_dflt (refine csrc_zipH rfl (by k_asm) (by k_asm) (by is_list) (by is_list) (by first | size_fits | exact Nat.le_of_ble_eq_true rfl) (by rfl) (by rfl) (by decide) (by rfl) ?_; intro g1'ₓ g2'ₓ nb'ₓ Fin8'ₓ hFin8'ₓ); refine AllInC.both ?_; intro hsub'ₓ; (try dsimp only [AllInC]); intros; (try (refine AllInC.skip ?_)))
  k_with "call type:enumerate" => (k_here; (with_reducible show wpAny _ _ (PySem.call _ _) (CSrc _ _ _ _ _ _ _ _ _ _ _ _ _ _ _ _) _ _); k_dflt (refine csrc_enumH rfl (by k_asm) (by k_asm) (by is_list) (by first | size_fits | exact Nat.le_of_ble_eq_true rfl) (by rfl) (by rfl) (by decide) (by rfl) ?_; intro g1'ₓ g2'ₓ nb'ₓ Fin8'ₓ hFin8'ₓ); refine AllInC.both ?_; intro hsub'ₓ; (try dsimp only [AllInC]); intros; (try (refine AllInC.skip ?_)))
  k_with "RestL" => ((with_unfolding_all (first | refine RestL.l0 (by rfl) ?_ | refine RestL.lx0 (by rfl) ?_ | refine RestL.r0 ?_ | refine RestL.rx0 ?_ | refine RestL.z0 (by rfl) (by rfl) ?_ | refine RestL.e1 (by rfl) ?_)); intros)
  k_with "RestL" => (with_unfolding_all refine RestL.zero (by with_reducible assumption) (by with_reducible assumption) ?_)
  k_with "CFinE" => ((unfold CFinE); intro D'ₓ h'ₓ tk'ₓ l1'ₓ F'ₓ N'ₓ o1'ₓ; (try k_lt l1'ₓ); (try simp only [List.nil_append, List.cons_append, LCg.Off1, and_true] at o1'ₓ); (try simp only [snoc, List.nil_append, List.cons_append] at N'ₓ); (try dsimp only))
  k_with "CFinA" => ((unfold CFinA); intro D'ₓ h'ₓ tk'ₓ l1'ₓ F'ₓ N'ₓ o1'ₓ; (try k_lt l1'ₓ); (try simp only [List.nil_append, List.cons_append, LCg.Off1, and_true] at o1'ₓ); (try simp only [snoc, List.nil_append, List.cons_append] at N'ₓ); (try dsimp only))
  k_with "Hid" => ((with_reducible show Hid _ (Value.ref _) _); (first | (first | refine hid_fact (by with_reducible assumption) (by with_reducible assumption) ?_ | refine hid_fact3 (by with_reducible assumption) (by with_reducible assumption) ?_); intro hX9ₓ; simp only [AllLt, and_true] at hX9ₓ | skip); (refine turn1 (by with_reducible assumption) (by rfl) (by k_asm) (by first | k_asm | exact news_snd (by k_asm) | exact news_snd (news_snd (by k_asm)) | exact news_snd (news_snd (news_snd (by k_asm))) | exact news_snd (news_snd (news_snd (news_snd (by k_asm))))) (by first | assumption | exact And.right (α := _) (by assumption : AllLt _ (_ :: _)) | exact (And.right (And.right (by assumption : AllLt _ (_ :: _ :: _)))) | exact (And.right (And.right (And.right (by assumption : AllLt _ (_ :: _ :: _ :: _)))))) ?_))
  k_with "Hid" => ((with_reducible show Hid _ (Value.int _ _) _); (refine turn0 (by with_reducible assumption) (by rfl) (by k_asm) (by first | k_asm | exact news_tail (by k_asm) | exact news_tail (news_tail (by k_asm)) | exact news_tail (news_tail (news_tail (by k_asm))) | exact news_tail (news_tail (news_tail (news_tail (by k_asm)))) | exact news_tail (news_tail (news_tail (news_tail (news_tail (by k_asm))))) | exact news_tail (news_tail (news_tail (news_tail (news_tail (news_tail (by k_asm))))))) ?_))
  k_with "Hid" => ((with_reducible show Hid _ Value.none _); (refine turnF (by with_reducible assumption) (by rfl) (by k_asm) (by first | k_asm | exact news_tail (by k_asm) | exact news_tail (news_tail (by k_asm)) | exact news_tail (news_tail (news_tail (by k_asm))) | exact news_tail (news_tail (news_tail (news_tail (by k_asm)))) | exact news_tail (news_tail (news_tail (news_tail (news_tail (by k_asm))))) | exact news_tail (news_tail (news_tail (news_tail (news_tail (news_tail (by k_asm))))))) ?_))
  k_with "call builtin:max" => (k_here; (with_reducible show wpAny _ _ (PySem.call (Value.builtin _) [Value.ref _]) _ _ _); (with_unfolding_all refine' kso_max ?k1x276 ?k2x276 ?k3x276 ?k4x276 ?k5x276 ?k6x276 ?_; (case k1x276 => k_asm); (case k2x276 => k_asm); (case k3x276 => kso_list); (case k4x276 => l_ints); (case k5x276 => kso_len); (case k6x276 => with_unfolding_all rfl); k_whole); intro h'ₓ M'ₓ t'ₓ k'ₓ F'ₓ N'ₓ a'ₓ b'ₓ; (try kso_open a'ₓ); (try kso_open b'ₓ); (have kp'ₓ := keep2 a'ₓ b'ₓ); clear a'ₓ b'ₓ; (try k_sweep))
  k_with "exec Assign cons ListComp" => ((first
    | (with_reducible show wpAny _ _ (exec (Stmt.Assign [PySem.Expr.Name (Str.ofString "came") _] _ _) _) _ _ _)
    | (with_reducible show wpAny _ _ (exec (Stmt.Assign [PySem.Expr.Name (Str.ofString "services") _] _ _) _) _ _ _)
    | (with_reducible show wpAny _ _ (exec (Stmt.Assign [PySem.Expr.Name (Str.ofString "lines") _] _ _) _) _ _ _)
    | (with_reducible show wpAny _ _ (exec (Stmt.Assign [PySem.Expr.Name (Str.ofString "spare") _] _ _) _) _ _ _)
    | (with_reducible show wpAny _ _ (exec (Stmt.Assign [PySem.Expr.Name (Str.ofString "idles") _] _ _) _) _ _ _)
    | (with_reducible show wpAny _ _ (exec (Stmt.Assign [PySem.Expr.Name (Str.ofString "order") _] _ _) _) _ _ _)); k_dflt (refine wpAny_Assign_Name ?_))
  k_with "forall" => (intro D'ₓ h'ₓ tk'ₓ l1'ₓ F'ₓ N'ₓ o1'ₓ; (with_reducible have q9ₓ : LCg.Off1 _ _ := o1'ₓ); clear q9ₓ; (try k_lt l1'ₓ); (try simp only [snoc, List.nil_append, List.cons_append] at N'ₓ o1'ₓ); (try simp only [LCg.Off1, and_true] at o1'ₓ); (try dsimp only))
  k_with "subscriptTail Name Name ref int" => (k_here; (with_reducible show wpAny _ _ (subscriptTail _ _ (Value.ref _) (Value.int _ _)) _ _ _); k_dflt (refine' item3 ?k1x279 ?k2x279 ?_ ?k6x279; (case k1x279 => is_list); (case k2x279 => with_reducible assumption); (case k6x279 => with_unfolding_all rfl); intro t9ₓ))
  k_with "compareOp NotEq ref ref" => (k_here; (with_reducible show wpAny _ _ (compareOp CmpOp.NotEq (Value.ref _) (Value.ref _)) _ _ _); k_dflt (refine' ne_rows ?lax280 ?lbx280 ?rax280 ?rbx280 ?hsx280 ?hux280 ?_; (case lax280 => is_list); (case lbx280 => is_list); (case rax280 => exact .cons (by is_list) (.cons _ _ (.cons _ _ (.cons _ _ (.nil)))) (.cons (by is_list) (.cons _ _ (.cons _ _ (.cons _ _ (.nil)))) (.cons (by is_list) (.cons _ _ (.cons _ _ (.cons _ _ (.nil)))) (.cons (by is_list) (.cons _ _ (.cons _ _ (.cons _ _ (.nil)))) (.cons (by is_list) (.cons _ _ (.cons _ _ (.cons _ _ (.nil)))) (.nil)))))); (case rbx280 => exact .cons (by is_list) (.cons _ _ (.cons _ _ (.cons _ _ (.nil)))) (.cons (by is_list) (.cons _ _ (.cons _ _ (.cons _ _ (.nil)))) (.cons (by is_list) (.cons _ _ (.cons _ _ (.cons _ _ (.nil)))) (.cons (by is_list) (.cons _ _ (.cons _ _ (.cons _ _ (.nil)))) (.cons (by is_list) (.cons _ _ (.cons _ _ (.cons _ _ (.nil)))) (.nil)))))); (case hsx280 => ked_shaped); (case hux280 => ke_room)))
  k_with "execs cons" => ((with_reducible show wpAny _ _ (execs (Stmt.Assign [PySem.Expr.Tuple _ _ _] _ _ :: _) _) _ _ _); refine haltI_LawT1 ?_)
  k_with "call ref" => (k_here; (with_reducible show wpAny _ _ (PySem.call (Value.ref 82) _) _ _ _); k_dflt (refine' Does.use (image_does _ _ _ _ _ _ _ _ _ _ _ _ _ _ _ _ _ ?hmx282 ?hpx282 ?hqx282 ?hrx282 ?htx282 (imgB_of ?hpx282 ?hqx282 ?hrx282 ?htx282 ?hix282 ?z0x282 ?z1x282 ?z2x282)) ?k1x282 ?k2x282 ?k3x282 ?k4x282 ?k5x282 ?kKx282 ?kdx282 ?kux282 ?_; (case k1x282 => k_asm); (case k2x282 => k_asm); (case k3x282 => k_asm); (case k4x282 => k_asm); (case k5x282 => k_asm); (case kKx282 => first | exact rfl | assumption); (case kdx282 => ktr_room); (case kux282 => ktr_units); (case hmx282 => ((with_reducible (repeat (first | exact List.mem_cons_self | exact mem_led (by with_reducible assumption) | refine List.mem_cons_of_mem _ ?_ | refine mem_led_sub (by with_reducible assumption) ?_))); (first | done | with_reducible assumption))); (case hpx282 => with_reducible assumption); (case hqx282 => with_reducible assumption); (case hrx282 => with_reducible assumption); (case htx282 => with_reducible assumption); (case hix282 => with_reducible assumption); (case z0x282 => with_reducible assumption); (case z1x282 => with_reducible assumption); (case z2x282 => with_reducible assumption); intro r9ₓ tl9ₓ h9ₓ tk9ₓ F9ₓ N9ₓ l9ₓ p9ₓ; obtain ⟨D9ₓ, u0'ₓ, u1'ₓ, u2'ₓ, k9'ₓ, e1ₓ, e2ₓ⟩ := p9ₓ; subst e1ₓ; subst e2ₓ; (have hAll9ₓ := allLt_of (l9ₓ _ (List.mem_singleton.mpr rfl))); (replace l9ₓ := allLt_of (l9ₓ _ (List.mem_singleton.mpr rfl))); simp only [AllLt, and_true] at l9ₓ; (try simp only [List.cons_append, List.nil_append] at N9ₓ); (try dsimp only); (try k_sweep)))
  k_with "call builtin:sum" => (k_here; (with_reducible show wpAny _ _ (PySem.call (Value.builtin "sum") [Value.ref _]) _ _ _); k_dflt (refine' sumK ?k0x283 ?k1x283 ?k2x283 ?k3x283 ?k4x283 ?_; (case k0x283 => with_unfolding_all rfl); (case k1x283 => k_asm); (case k2x283 => k_asm); (case k3x283 => is_list); (case k4x283 => first | l_ints | l_intsW); k_whole); intro h'ₓ tk'ₓ t'ₓ F'ₓ N'ₓ; (try simp only [List.sum_cons, List.sum_nil]))
  k_with "eval Name" => (k_here; (with_reducible show wpAny _ _ (eval (PySem.Expr.Name _ _) (compEnvC _ _ _ _)) _ _ _); k_dflt (first
    | (refine' LCgL.ld_own ?Nx284 ?hmx284 ?hCx284 ?hxx284 ?_ ?hkx284 ?hlx284 ?hdx284; (case hlx284 => rfl); (case hkx284 => rfl); (case hdx284 => decide); (case Nx284 => k_asm); (case hmx284 => ((with_reducible (repeat (first | exact List.mem_cons_self | exact mem_led (by with_reducible assumption) | refine List.mem_cons_of_mem _ ?_ | refine mem_led_sub (by with_reducible assumption) ?_))); (first | done | with_reducible assumption))); (case hCx284 => with_reducible assumption); (case hxx284 => with_reducible assumption); k_whole)
    | (refine' kcf_cell ?Nx284 ?cx284 ?mx284 ?dx284 ?_ ?ax284 ?bx284 ?hdx284; (case bx284 => rfl); (case ax284 => rfl); (case hdx284 => decide); (case Nx284 => k_asm); (case cx284 => rfl); (case mx284 => ((with_reducible (repeat (first | exact List.mem_cons_self | exact mem_led (by with_reducible assumption) | refine List.mem_cons_of_mem _ ?_ | refine mem_led_sub (by with_reducible assumption) ?_))); (first | done | with_reducible assumption))); (case dx284 => k_asm); k_whole)
    | (refine' LCgL.ld_built ?Fx284 ?Xx284 ?Tx284 ?ex284 ?vx284 ?nx284 ?_ ?gx284 ?bx284 ?hkx284 ?hxx284 ?hdx284; (case hxx284 => rfl); (case hkx284 => rfl); (case gx284 => rfl); (case bx284 => rfl); (case hdx284 => decide); (case Fx284 => k_asm); (case Xx284 => k_asm); (case Tx284 => k_asm); (case ex284 => k_is); (case vx284 => boot_by_name); (case nx284 => decide); k_whole)))
  revert X
  k_fill
  intro X
  dsimp only [turnParts, lawScope, lawParts, List.drop]
  k_steps
  unfold Keep
  (rename Fr _ _ _ _ => F9)
  (rename News _ _ _ _ => N9)
  (rename _ = Data.cell (some (Value.ref _)) => d9)
  exact hQ _ _ _ _ _ _ _ _ _ _ _ _ _ _ _ _ _ _ _ _ _ _ _ _ _ _ _ _ _ _ _ _ _ _ _ _ F9 d9 (news_put N9 (.head _) (news_add [_, _, _, _, _, _, _] N9 rfl))

theorem all (x : Pack) : PrX x := all_of_bad ne (by with_unfolding_all exact core) x
end ET1
theorem law_T1 (w : World) {p : Program} {loose : List Str} {mean : ExcName → Option Value} {mg mb : Str → Option Value} {fa : Addr} {cd : Value} {h₀ : Heap} {L : Addr} {m : Str → Option Value} {s : Shared} {Q : Flow → Shared → Prop}
    (I Or : Addr) (ni no : Nat) (b1 b2 b3 b4 b5 : Addr) (p1 q1 r1 p2 q2 r2 p3 q3 r3 p4 q4 r4 p5 q5 r5 : Int) (n1 n2 n3 n4 n5 : Nat) (x1 x1' x1'' x2 x2' x2'' x3 x3' x3'' x4 x4' x4'' x5 x5' x5'' : Tok) (th mi z0 z1 z2 : Int) (k6 k7 s1 s2 s3 : Tok) (o1 o6 o7 o8 o9 : Obj) (rest : List (Addr × Obj))  (hp1 : 0 ≤ p1 ∧ p1 ≤ 2) (hq1 : 0 ≤ q1 ∧ q1 ≤ 2) (hr1 : 0 ≤ r1 ∧ r1 ≤ 2) (hp2 : 0 ≤ p2 ∧ p2 ≤ 2) (hq2 : 0 ≤ q2 ∧ q2 ≤ 2) (hr2 : 0 ≤ r2 ∧ r2 ≤ 2) (hp3 : 0 ≤ p3 ∧ p3 ≤ 2) (hq3 : 0 ≤ q3 ∧ q3 ≤ 2) (hr3 : 0 ≤ r3 ∧ r3 ≤ 2) (hp4 : 0 ≤ p4 ∧ p4 ≤ 2) (hq4 : 0 ≤ q4 ∧ q4 ≤ 2) (hr4 : 0 ≤ r4 ∧ r4 ≤ 2) (hp5 : 0 ≤ p5 ∧ p5 ≤ 2) (hq5 : 0 ≤ q5 ∧ q5 ≤ 2) (hr5 : 0 ≤ r5 ∧ r5 ≤ 2) (hth : 0 ≤ th ∧ th ≤ 2) (hmi : mi = 0 ∨ mi = 1) (hz0 : z0 = ordOf mi th 0) (hz1 : z1 = ordOf mi th 1) (hz2 : z2 = ordOf mi th 2) (hb0 : 0 ≤ z0 ∧ z0 ≤ 2) (hb1 : 0 ≤ z1 ∧ z1 ≤ 2) (hb2 : 0 ≤ z2 ∧ z2 ≤ 2)
    (hd1 : o1.data = .cell (some (.ref I))) (hd6 : o6.data = .cell (some (.int th k6))) (hd7 : o7.data = .cell (some (.int mi k7))) (hd8 : o8.data = .cell (some (.ref Or))) {v9 : Option Value} (hd9 : o9.data = .cell v9) (hr9 : ∀ p ∈ rest, p.1 ≠ L + 1 + 1 + 1 + 1 + 1 + 1 + 1 + 1 + 1) (hNI : @LT.lt Nat _ (L + 1 + 1 + 1 + 1 + 1 + 1 + 1 + 1 + 1) I) (hNOr : @LT.lt Nat _ (L + 1 + 1 + 1 + 1 + 1 + 1 + 1 + 1 + 1) Or) (hNb1 : @LT.lt Nat _ (L + 1 + 1 + 1 + 1 + 1 + 1 + 1 + 1 + 1) b1) (hNb2 : @LT.lt Nat _ (L + 1 + 1 + 1 + 1 + 1 + 1 + 1 + 1 + 1) b2) (hNb3 : @LT.lt Nat _ (L + 1 + 1 + 1 + 1 + 1 + 1 + 1 + 1 + 1) b3) (hNb4 : @LT.lt Nat _ (L + 1 + 1 + 1 + 1 + 1 + 1 + 1 + 1 + 1) b4) (hNb5 : @LT.lt Nat _ (L + 1 + 1 + 1 + 1 + 1 + 1 + 1 + 1 + 1) b5)
    (B : Below callerA h₀ [] h₀) (F : Fr h₀ L s.heap m) (X : (hd.heap_1 w.params).In h₀) (T : Top p loose mean mg mb h₀) (N : News h₀ L s.heap ((Or, W.listOf #[.int z0 s1, .int z1 s2, .int z2 s3] no) :: (I, W.listOf #[.ref b1, .ref b2, .ref b3, .ref b4, .ref b5] ni) :: (b5, W.listOf #[.int p5 x5, .int q5 x5', .int r5 x5''] n5) :: (b4, W.listOf #[.int p4 x4, .int q4 x4', .int r4 x4''] n4) :: (b3, W.listOf #[.int p3 x3, .int q3 x3', .int r3 x3''] n3) :: (b2, W.listOf #[.int p2 x2, .int q2 x2', .int r2 x2''] n2) :: (b1, W.listOf #[.int p1 x1, .int q1 x1', .int r1 x1''] n1) :: (L + 1, o1) :: (L + 1 + 1 + 1 + 1 + 1 + 1, o6) :: (L + 1 + 1 + 1 + 1 + 1 + 1 + 1, o7) :: (L + 1 + 1 + 1 + 1 + 1 + 1 + 1 + 1, o8) :: (L + 1 + 1 + 1 + 1 + 1 + 1 + 1 + 1 + 1, o9) :: rest))
    (hQ : ∀ h' tk' (m' : Str → Option Value) o9' Im jm Ah jh t1 t2 t3 a1 m1 y1 y1' y1'' a2 m2 y2 y2' y2'' a3 m3 y3 y3' y3'' a4 m4 y4 y4' y4'' a5 m5 y5 y5' y5'', Fr h₀ L h' (fun y => if y = Str.ofString "images" then some (.ref Im) else m' y) → o9'.data = .cell (some (.ref Ah)) → News h₀ L h' ((Ah, W.listOf #[.int (2 ^ z0.toNat) t1, .int (7 - 2 ^ z2.toNat) t2, .int 7 t3] jh) :: (Im, W.listOf #[.ref a1, .ref a2, .ref a3, .ref a4, .ref a5] jm) :: (a5, W.listOf #[.int (pick3 p5 q5 r5 z0) y5, .int (pick3 p5 q5 r5 z1) y5', .int (pick3 p5 q5 r5 z2) y5''] m5) :: (a4, W.listOf #[.int (pick3 p4 q4 r4 z0) y4, .int (pick3 p4 q4 r4 z1) y4', .int (pick3 p4 q4 r4 z2) y4''] m4) :: (a3, W.listOf #[.int (pick3 p3 q3 r3 z0) y3, .int (pick3 p3 q3 r3 z1) y3', .int (pick3 p3 q3 r3 z2) y3''] m3) :: (a2, W.listOf #[.int (pick3 p2 q2 r2 z0) y2, .int (pick3 p2 q2 r2 z1) y2', .int (pick3 p2 q2 r2 z2) y2''] m2) :: (a1, W.listOf #[.int (pick3 p1 q1 r1 z0) y1, .int (pick3 p1 q1 r1 z1) y1', .int (pick3 p1 q1 r1 z2) y1''] m1) :: (Or, W.listOf #[.int z0 s1, .int z1 s2, .int z2 s3] no) :: (I, W.listOf #[.ref b1, .ref b2, .ref b3, .ref b4, .ref b5] ni) :: (b5, W.listOf #[.int p5 x5, .int q5 x5', .int r5 x5''] n5) :: (b4, W.listOf #[.int p4 x4, .int q4 x4', .int r4 x4''] n4) :: (b3, W.listOf #[.int p3 x3, .int q3 x3', .int r3 x3''] n3) :: (b2, W.listOf #[.int p2 x2, .int q2 x2', .int r2 x2''] n2) :: (b1, W.listOf #[.int p1 x1, .int q1 x1', .int r1 x1''] n1) :: (L + 1, o1) :: (L + 1 + 1 + 1 + 1 + 1 + 1, o6) :: (L + 1 + 1 + 1 + 1 + 1 + 1 + 1, o7) :: (L + 1 + 1 + 1 + 1 + 1 + 1 + 1 + 1, o8) :: (L + 1 + 1 + 1 + 1 + 1 + 1 + 1 + 1 + 1, o9') :: rest) → wpAny (model Challenge.rw_wo0027_01.row.prog w) (callerA.deeper (envOfC (Str.ofString "law") lawScope L fa cd)) (execs (turnParts.1.drop 4) (envOfC (Str.ofString "law") lawScope L fa cd)) Q (fun _ _ => False) { s with heap := h', toks := tk' }) : wpAny (model Challenge.rw_wo0027_01.row.prog w) (callerA.deeper (envOfC (Str.ofString "law") lawScope L fa cd)) (execs (turnParts.1.drop 1) (envOfC (Str.ofString "law") lawScope L fa cd)) Q (fun _ _ => False) s :=
  ET1.all (w, p, loose, mean, mg, mb, fa, cd, h₀, L, m, s, Q, I, Or, ni, no, b1, b2, b3, b4, b5, p1, q1, r1, p2, q2, r2, p3, q3, r3, p4, q4, r4, p5, q5, r5, n1, n2, n3, n4, n5, x1, x1', x1'', x2, x2', x2'', x3, x3', x3'', x4, x4', x4'', x5, x5', x5'', th, mi, z0, z1, z2, k6, k7, s1, s2, s3, o1, o6, o7, o8, o9, rest) hp1 hq1 hr1 hp2 hq2 hr2 hp3 hq3 hr3 hp4 hq4 hr4 hp5 hq5 hr5 hth hmi hz0 hz1 hz2 hb0 hb1 hb2 hd1 hd6 hd7 hd8 v9 hd9 hr9 hNI hNOr hNb1 hNb2 hNb3 hNb4 hNb5 B F X T N hQ
end Mine
end
section
open PySem PySem.W PySem.Calls PyProof.Rows
set_option Elab.async false
set_option maxRecDepth 100000
set_option maxHeartbeats 8000000
set_option pp.deepTerms false
set_option pp.deepTerms.threshold 4
set_option pp.maxSteps 6000
namespace Mine
noncomputable def LF (p1 q1 r1 v1 p2 q2 r2 v2 p3 q3 r3 v3 p4 q4 r4 v4 p5 q5 r5 v5 g01 g02 g03 g04 g05 g11 g12 g13 g14 g15 g21 g22 g23 g24 g25 g31 g32 g33 g34 g35 g41 g42 g43 g44 g45 g51 g52 g53 g54 g55 g61 g62 g63 g64 g65 g71 g72 g73 g74 g75 i1 i2 i3 i4 i5 : Int) : Prop :=
  Lind (-v1) (-v2) (-v3) (-v4) (-v5) g01 g02 g03 g04 g05 ∧
  Lind (p1 - v1) (p2 - v2) (p3 - v3) (p4 - v4) (p5 - v5) g11 g12 g13 g14 g15 ∧
  Lind (q1 - v1) (q2 - v2) (q3 - v3) (q4 - v4) (q5 - v5) g21 g22 g23 g24 g25 ∧
  Lind (p1 + q1 - v1) (p2 + q2 - v2) (p3 + q3 - v3) (p4 + q4 - v4) (p5 + q5 - v5) g31 g32 g33 g34 g35 ∧
  Lind (r1 - v1) (r2 - v2) (r3 - v3) (r4 - v4) (r5 - v5) g41 g42 g43 g44 g45 ∧
  Lind (p1 + r1 - v1) (p2 + r2 - v2) (p3 + r3 - v3) (p4 + r4 - v4) (p5 + r5 - v5) g51 g52 g53 g54 g55 ∧
  Lind (q1 + r1 - v1) (q2 + r2 - v2) (q3 + r3 - v3) (q4 + r4 - v4) (q5 + r5 - v5) g61 g62 g63 g64 g65 ∧
  Lind (p1 + q1 + r1 - v1) (p2 + q2 + r2 - v2) (p3 + q3 + r3 - v3) (p4 + q4 + r4 - v4) (p5 + q5 + r5 - v5) g71 g72 g73 g74 g75 ∧
  Skor (v1 - (p1 + q1 + r1)) (v2 - (p2 + q2 + r2)) (v3 - (p3 + q3 + r3)) (v4 - (p4 + q4 + r4)) (v5 - (p5 + q5 + r5)) i1 i2 i3 i4 i5

theorem lind_congr {a1 a2 a3 a4 a5 b1 b2 b3 b4 b5 m1 m2 m3 m4 m5 : Int} (h : Lind a1 a2 a3 a4 a5 m1 m2 m3 m4 m5) (e1 : b1 = a1) (e2 : b2 = a2) (e3 : b3 = a3) (e4 : b4 = a4) (e5 : b5 = a5) : Lind b1 b2 b3 b4 b5 m1 m2 m3 m4 m5 := by
  subst e1; subst e2; subst e3; subst e4; subst e5; exact h
theorem skor_congr {a1 a2 a3 a4 a5 b1 b2 b3 b4 b5 m1 m2 m3 m4 m5 : Int} (h : Skor a1 a2 a3 a4 a5 m1 m2 m3 m4 m5) (e1 : b1 = a1) (e2 : b2 = a2) (e3 : b3 = a3) (e4 : b4 = a4) (e5 : b5 = a5) : Skor b1 b2 b3 b4 b5 m1 m2 m3 m4 m5 := by
  subst e1; subst e2; subst e3; subst e4; subst e5; exact h
theorem ord_cases {mi th z0 z1 z2 : Int} (hth : 0 ≤ th ∧ th ≤ 2) (hmi : mi = 0 ∨ mi = 1) (hz0 : z0 = ordOf mi th 0) (hz1 : z1 = ordOf mi th 1) (hz2 : z2 = ordOf mi th 2) :
    (z0 = 0 ∧ z1 = 1 ∧ z2 = 2) ∨ (z0 = 0 ∧ z1 = 2 ∧ z2 = 1) ∨ (z0 = 1 ∧ z1 = 0 ∧ z2 = 2) ∨ (z0 = 1 ∧ z1 = 2 ∧ z2 = 0) ∨ (z0 = 2 ∧ z1 = 0 ∧ z2 = 1) ∨ (z0 = 2 ∧ z1 = 1 ∧ z2 = 0) := by
  have : th = 0 ∨ th = 1 ∨ th = 2 := by omega
  subst hz0; subst hz1; subst hz2
  rcases hmi with rfl | rfl <;> rcases this with rfl | rfl | rfl <;> decide
theorem sl2 (a b v : Int) : a + b - v = b + a - v := by omega
theorem sl3acb (a b c v : Int) : a + b + c - v = a + c + b - v := by omega
theorem sk3acb (a b c v : Int) : v - (a + b + c) = v - (a + c + b) := by omega
theorem sl3bac (a b c v : Int) : a + b + c - v = b + a + c - v := by omega
theorem sk3bac (a b c v : Int) : v - (a + b + c) = v - (b + a + c) := by omega
theorem sl3bca (a b c v : Int) : a + b + c - v = b + c + a - v := by omega
theorem sk3bca (a b c v : Int) : v - (a + b + c) = v - (b + c + a) := by omega
theorem sl3cab (a b c v : Int) : a + b + c - v = c + a + b - v := by omega
theorem sk3cab (a b c v : Int) : v - (a + b + c) = v - (c + a + b) := by omega
theorem sl3cba (a b c v : Int) : a + b + c - v = c + b + a - v := by omega
theorem sk3cba (a b c v : Int) : v - (a + b + c) = v - (c + b + a) := by omega
theorem sel_of {P : Prop} (p1 q1 r1 v1 p2 q2 r2 v2 p3 q3 r3 v3 p4 q4 r4 v4 p5 q5 r5 v5 : Int) (e0 e1 e2 e3 e4 e5 e6 e7 : Addr) (g01 g02 g03 g04 g05 g11 g12 g13 g14 g15 g21 g22 g23 g24 g25 g31 g32 g33 g34 g35 g41 g42 g43 g44 g45 g51 g52 g53 g54 g55 g61 g62 g63 g64 g65 g71 g72 g73 g74 g75 : Int) (h01 h02 h03 h04 h05 h11 h12 h13 h14 h15 h21 h22 h23 h24 h25 h31 h32 h33 h34 h35 h41 h42 h43 h44 h45 h51 h52 h53 h54 h55 h61 h62 h63 h64 h65 h71 h72 h73 h74 h75 : Tok) (j0 j1 j2 j3 j4 j5 j6 j7 : Nat) (i1 i2 i3 i4 i5 : Int) {gl : List Value} {base : List (Addr × Obj)} {mi th z0 z1 z2 : Int} (hgl : gl = [.ref e0, .ref e1, .ref e2, .ref e3, .ref e4, .ref e5, .ref e6, .ref e7]) (he0 : (e0, W.listOf #[.int g01 h01, .int g02 h02, .int g03 h03, .int g04 h04, .int g05 h05] j0) ∈ base) (he1 : (e1, W.listOf #[.int g11 h11, .int g12 h12, .int g13 h13, .int g14 h14, .int g15 h15] j1) ∈ base) (he2 : (e2, W.listOf #[.int g21 h21, .int g22 h22, .int g23 h23, .int g24 h24, .int g25 h25] j2) ∈ base) (he3 : (e3, W.listOf #[.int g31 h31, .int g32 h32, .int g33 h33, .int g34 h34, .int g35 h35] j3) ∈ base) (he4 : (e4, W.listOf #[.int g41 h41, .int g42 h42, .int g43 h43, .int g44 h44, .int g45 h45] j4) ∈ base) (he5 : (e5, W.listOf #[.int g51 h51, .int g52 h52, .int g53 h53, .int g54 h54, .int g55 h55] j5) ∈ base) (he6 : (e6, W.listOf #[.int g61 h61, .int g62 h62, .int g63 h63, .int g64 h64, .int g65 h65] j6) ∈ base) (he7 : (e7, W.listOf #[.int g71 h71, .int g72 h72, .int g73 h73, .int g74 h74, .int g75 h75] j7) ∈ base) (hLF : LF p1 q1 r1 v1 p2 q2 r2 v2 p3 q3 r3 v3 p4 q4 r4 v4 p5 q5 r5 v5 g01 g02 g03 g04 g05 g11 g12 g13 g14 g15 g21 g22 g23 g24 g25 g31 g32 g33 g34 g35 g41 g42 g43 g44 g45 g51 g52 g53 g54 g55 g61 g62 g63 g64 g65 g71 g72 g73 g74 g75 i1 i2 i3 i4 i5) (hth : 0 ≤ th ∧ th ≤ 2) (hmi : mi = 0 ∨ mi = 1) (hz0 : z0 = ordOf mi th 0) (hz1 : z1 = ordOf mi th 1) (hz2 : z2 = ordOf mi th 2)
    (k : ∀ (ea eb : Addr) (ga1 ga2 ga3 ga4 ga5 gb1 gb2 gb3 gb4 gb5 : Int) (ha1 ha2 ha3 ha4 ha5 hb1 hb2 hb3 hb4 hb5 : Tok) (na nb : Nat), 0 ≤ (2 : Int) ^ z0.toNat → (2 : Int) ^ z0.toNat ≤ 7 → 0 ≤ 7 - (2 : Int) ^ z2.toNat → 7 - (2 : Int) ^ z2.toNat ≤ 7 → gl[((2 : Int) ^ z0.toNat).toNat]? = some (.ref ea) → gl[(7 - (2 : Int) ^ z2.toNat).toNat]? = some (.ref eb) → gl[(7 : Int).toNat]? = some (.ref e7) → (ea, W.listOf #[.int ga1 ha1, .int ga2 ha2, .int ga3 ha3, .int ga4 ha4, .int ga5 ha5] na) ∈ base → (eb, W.listOf #[.int gb1 hb1, .int gb2 hb2, .int gb3 hb3, .int gb4 hb4, .int gb5 hb5] nb) ∈ base → Lind (pick3 p1 q1 r1 z0 - v1) (pick3 p2 q2 r2 z0 - v2) (pick3 p3 q3 r3 z0 - v3) (pick3 p4 q4 r4 z0 - v4) (pick3 p5 q5 r5 z0 - v5) ga1 ga2 ga3 ga4 ga5 → Lind (pick3 p1 q1 r1 z0 + pick3 p1 q1 r1 z1 - v1) (pick3 p2 q2 r2 z0 + pick3 p2 q2 r2 z1 - v2) (pick3 p3 q3 r3 z0 + pick3 p3 q3 r3 z1 - v3) (pick3 p4 q4 r4 z0 + pick3 p4 q4 r4 z1 - v4) (pick3 p5 q5 r5 z0 + pick3 p5 q5 r5 z1 - v5) gb1 gb2 gb3 gb4 gb5 → Lind (pick3 p1 q1 r1 z0 + pick3 p1 q1 r1 z1 + pick3 p1 q1 r1 z2 - v1) (pick3 p2 q2 r2 z0 + pick3 p2 q2 r2 z1 + pick3 p2 q2 r2 z2 - v2) (pick3 p3 q3 r3 z0 + pick3 p3 q3 r3 z1 + pick3 p3 q3 r3 z2 - v3) (pick3 p4 q4 r4 z0 + pick3 p4 q4 r4 z1 + pick3 p4 q4 r4 z2 - v4) (pick3 p5 q5 r5 z0 + pick3 p5 q5 r5 z1 + pick3 p5 q5 r5 z2 - v5) g71 g72 g73 g74 g75 → Skor (v1 - (pick3 p1 q1 r1 z0 + pick3 p1 q1 r1 z1 + pick3 p1 q1 r1 z2)) (v2 - (pick3 p2 q2 r2 z0 + pick3 p2 q2 r2 z1 + pick3 p2 q2 r2 z2)) (v3 - (pick3 p3 q3 r3 z0 + pick3 p3 q3 r3 z1 + pick3 p3 q3 r3 z2)) (v4 - (pick3 p4 q4 r4 z0 + pick3 p4 q4 r4 z1 + pick3 p4 q4 r4 z2)) (v5 - (pick3 p5 q5 r5 z0 + pick3 p5 q5 r5 z1 + pick3 p5 q5 r5 z2)) i1 i2 i3 i4 i5 → P) : P := by
  obtain ⟨f0, f1, f2, f3, f4, f5, f6, f7, fJ⟩ := hLF
  rcases ord_cases hth hmi hz0 hz1 hz2 with ⟨rfl, rfl, rfl⟩ | ⟨rfl, rfl, rfl⟩ | ⟨rfl, rfl, rfl⟩ | ⟨rfl, rfl, rfl⟩ | ⟨rfl, rfl, rfl⟩ | ⟨rfl, rfl, rfl⟩
  · refine k e1 e3 g11 g12 g13 g14 g15 g31 g32 g33 g34 g35 h11 h12 h13 h14 h15 h31 h32 h33 h34 h35 j1 j3 (by decide) (by decide) (by decide) (by decide) (by rw [hgl]; rfl) (by rw [hgl]; rfl) (by rw [hgl]; rfl) he1 he3 (lind_congr f1 ?_ ?_ ?_ ?_ ?_) (lind_congr f3 ?_ ?_ ?_ ?_ ?_) (lind_congr f7 ?_ ?_ ?_ ?_ ?_) (skor_congr fJ ?_ ?_ ?_ ?_ ?_) <;> (first | rfl | exact sl2 _ _ _ | exact sl3acb _ _ _ _ | exact sk3acb _ _ _ _ | exact sl3bac _ _ _ _ | exact sk3bac _ _ _ _ | exact sl3bca _ _ _ _ | exact sk3bca _ _ _ _ | exact sl3cab _ _ _ _ | exact sk3cab _ _ _ _ | exact sl3cba _ _ _ _ | exact sk3cba _ _ _ _)
  · refine k e1 e5 g11 g12 g13 g14 g15 g51 g52 g53 g54 g55 h11 h12 h13 h14 h15 h51 h52 h53 h54 h55 j1 j5 (by decide) (by decide) (by decide) (by decide) (by rw [hgl]; rfl) (by rw [hgl]; rfl) (by rw [hgl]; rfl) he1 he5 (lind_congr f1 ?_ ?_ ?_ ?_ ?_) (lind_congr f5 ?_ ?_ ?_ ?_ ?_) (lind_congr f7 ?_ ?_ ?_ ?_ ?_) (skor_congr fJ ?_ ?_ ?_ ?_ ?_) <;> (first | rfl | exact sl2 _ _ _ | exact sl3acb _ _ _ _ | exact sk3acb _ _ _ _ | exact sl3bac _ _ _ _ | exact sk3bac _ _ _ _ | exact sl3bca _ _ _ _ | exact sk3bca _ _ _ _ | exact sl3cab _ _ _ _ | exact sk3cab _ _ _ _ | exact sl3cba _ _ _ _ | exact sk3cba _ _ _ _)
  · refine k e2 e3 g21 g22 g23 g24 g25 g31 g32 g33 g34 g35 h21 h22 h23 h24 h25 h31 h32 h33 h34 h35 j2 j3 (by decide) (by decide) (by decide) (by decide) (by rw [hgl]; rfl) (by rw [hgl]; rfl) (by rw [hgl]; rfl) he2 he3 (lind_congr f2 ?_ ?_ ?_ ?_ ?_) (lind_congr f3 ?_ ?_ ?_ ?_ ?_) (lind_congr f7 ?_ ?_ ?_ ?_ ?_) (skor_congr fJ ?_ ?_ ?_ ?_ ?_) <;> (first | rfl | exact sl2 _ _ _ | exact sl3acb _ _ _ _ | exact sk3acb _ _ _ _ | exact sl3bac _ _ _ _ | exact sk3bac _ _ _ _ | exact sl3bca _ _ _ _ | exact sk3bca _ _ _ _ | exact sl3cab _ _ _ _ | exact sk3cab _ _ _ _ | exact sl3cba _ _ _ _ | exact sk3cba _ _ _ _)
  · refine k e2 e6 g21 g22 g23 g24 g25 g61 g62 g63 g64 g65 h21 h22 h23 h24 h25 h61 h62 h63 h64 h65 j2 j6 (by decide) (by decide) (by decide) (by decide) (by rw [hgl]; rfl) (by rw [hgl]; rfl) (by rw [hgl]; rfl) he2 he6 (lind_congr f2 ?_ ?_ ?_ ?_ ?_) (lind_congr f6 ?_ ?_ ?_ ?_ ?_) (lind_congr f7 ?_ ?_ ?_ ?_ ?_) (skor_congr fJ ?_ ?_ ?_ ?_ ?_) <;> (first | rfl | exact sl2 _ _ _ | exact sl3acb _ _ _ _ | exact sk3acb _ _ _ _ | exact sl3bac _ _ _ _ | exact sk3bac _ _ _ _ | exact sl3bca _ _ _ _ | exact sk3bca _ _ _ _ | exact sl3cab _ _ _ _ | exact sk3cab _ _ _ _ | exact sl3cba _ _ _ _ | exact sk3cba _ _ _ _)
  · refine k e4 e5 g41 g42 g43 g44 g45 g51 g52 g53 g54 g55 h41 h42 h43 h44 h45 h51 h52 h53 h54 h55 j4 j5 (by decide) (by decide) (by decide) (by decide) (by rw [hgl]; rfl) (by rw [hgl]; rfl) (by rw [hgl]; rfl) he4 he5 (lind_congr f4 ?_ ?_ ?_ ?_ ?_) (lind_congr f5 ?_ ?_ ?_ ?_ ?_) (lind_congr f7 ?_ ?_ ?_ ?_ ?_) (skor_congr fJ ?_ ?_ ?_ ?_ ?_) <;> (first | rfl | exact sl2 _ _ _ | exact sl3acb _ _ _ _ | exact sk3acb _ _ _ _ | exact sl3bac _ _ _ _ | exact sk3bac _ _ _ _ | exact sl3bca _ _ _ _ | exact sk3bca _ _ _ _ | exact sl3cab _ _ _ _ | exact sk3cab _ _ _ _ | exact sl3cba _ _ _ _ | exact sk3cba _ _ _ _)
  · refine k e4 e6 g41 g42 g43 g44 g45 g61 g62 g63 g64 g65 h41 h42 h43 h44 h45 h61 h62 h63 h64 h65 j4 j6 (by decide) (by decide) (by decide) (by decide) (by rw [hgl]; rfl) (by rw [hgl]; rfl) (by rw [hgl]; rfl) he4 he6 (lind_congr f4 ?_ ?_ ?_ ?_ ?_) (lind_congr f6 ?_ ?_ ?_ ?_ ?_) (lind_congr f7 ?_ ?_ ?_ ?_ ?_) (skor_congr fJ ?_ ?_ ?_ ?_ ?_) <;> (first | rfl | exact sl2 _ _ _ | exact sl3acb _ _ _ _ | exact sk3acb _ _ _ _ | exact sl3bac _ _ _ _ | exact sk3bac _ _ _ _ | exact sl3bca _ _ _ _ | exact sk3bca _ _ _ _ | exact sl3cab _ _ _ _ | exact sk3cab _ _ _ _ | exact sl3cba _ _ _ _ | exact sk3cba _ _ _ _)
end Mine
end
section
open PySem PySem.W PySem.Calls PyProof.Rows
set_option Elab.async false
set_option maxRecDepth 100000
set_option maxHeartbeats 8000000
set_option pp.deepTerms false
set_option pp.deepTerms.threshold 4
set_option pp.maxSteps 6000
namespace Mine

theorem law_T (w : World) {p : Program} {loose : List Str} {mean : ExcName → Option Value} {mg mb : Str → Option Value} {fa : Addr} {cd : Value} {h₀ : Heap} {L : Addr} {m : Str → Option Value} {s : Shared} {Q : Flow → Shared → Prop}
    (S I J G : Addr) (ns ni jJ jG : Nat) (b1 b2 b3 b4 b5 : Addr) (p1 q1 r1 v1 p2 q2 r2 v2 p3 q3 r3 v3 p4 q4 r4 v4 p5 q5 r5 v5 : Int) (n1 n2 n3 n4 n5 : Nat) (x1 x1' x1'' y1 x2 x2' x2'' y2 x3 x3' x3'' y3 x4 x4' x4'' y4 x5 x5' x5'' y5 : Tok) (e0 e1 e2 e3 e4 e5 e6 e7 : Addr) (g01 g02 g03 g04 g05 g11 g12 g13 g14 g15 g21 g22 g23 g24 g25 g31 g32 g33 g34 g35 g41 g42 g43 g44 g45 g51 g52 g53 g54 g55 g61 g62 g63 g64 g65 g71 g72 g73 g74 g75 : Int) (h01 h02 h03 h04 h05 h11 h12 h13 h14 h15 h21 h22 h23 h24 h25 h31 h32 h33 h34 h35 h41 h42 h43 h44 h45 h51 h52 h53 h54 h55 h61 h62 h63 h64 h65 h71 h72 h73 h74 h75 : Tok) (j0 j1 j2 j3 j4 j5 j6 j7 : Nat) (i1 i2 i3 i4 i5 : Int) (τ1 τ2 τ3 τ4 τ5 : Tok) (gl : List Value) (base : List (Addr × Obj)) (o1 o2 o3 o5 o6 o7 o8 o9 oI oO : Obj) (iI iO : Addr) (th mi : Int) (k6 k7 : Tok) (hgl : gl = [.ref e0, .ref e1, .ref e2, .ref e3, .ref e4, .ref e5, .ref e6, .ref e7]) (hLF : LF p1 q1 r1 v1 p2 q2 r2 v2 p3 q3 r3 v3 p4 q4 r4 v4 p5 q5 r5 v5 g01 g02 g03 g04 g05 g11 g12 g13 g14 g15 g21 g22 g23 g24 g25 g31 g32 g33 g34 g35 g41 g42 g43 g44 g45 g51 g52 g53 g54 g55 g61 g62 g63 g64 g65 g71 g72 g73 g74 g75 i1 i2 i3 i4 i5)  (hp1 : 0 ≤ p1 ∧ p1 ≤ 2) (hq1 : 0 ≤ q1 ∧ q1 ≤ 2) (hr1 : 0 ≤ r1 ∧ r1 ≤ 2) (hv1 : 0 ≤ v1 ∧ v1 ≤ 5) (hp2 : 0 ≤ p2 ∧ p2 ≤ 2) (hq2 : 0 ≤ q2 ∧ q2 ≤ 2) (hr2 : 0 ≤ r2 ∧ r2 ≤ 2) (hv2 : 0 ≤ v2 ∧ v2 ≤ 5) (hp3 : 0 ≤ p3 ∧ p3 ≤ 2) (hq3 : 0 ≤ q3 ∧ q3 ≤ 2) (hr3 : 0 ≤ r3 ∧ r3 ≤ 2) (hv3 : 0 ≤ v3 ∧ v3 ≤ 5) (hp4 : 0 ≤ p4 ∧ p4 ≤ 2) (hq4 : 0 ≤ q4 ∧ q4 ≤ 2) (hr4 : 0 ≤ r4 ∧ r4 ≤ 2) (hv4 : 0 ≤ v4 ∧ v4 ≤ 5) (hp5 : 0 ≤ p5 ∧ p5 ≤ 2) (hq5 : 0 ≤ q5 ∧ q5 ≤ 2) (hr5 : 0 ≤ r5 ∧ r5 ≤ 2) (hv5 : 0 ≤ v5 ∧ v5 ≤ 5) (hmJ : (J, W.listOf #[.int i1 τ1, .int i2 τ2, .int i3 τ3, .int i4 τ4, .int i5 τ5] jJ) ∈ base) (hmG : (G, W.listOf gl.toArray jG) ∈ base) (he0 : (e0, W.listOf #[.int g01 h01, .int g02 h02, .int g03 h03, .int g04 h04, .int g05 h05] j0) ∈ base) (he1 : (e1, W.listOf #[.int g11 h11, .int g12 h12, .int g13 h13, .int g14 h14, .int g15 h15] j1) ∈ base) (he2 : (e2, W.listOf #[.int g21 h21, .int g22 h22, .int g23 h23, .int g24 h24, .int g25 h25] j2) ∈ base) (he3 : (e3, W.listOf #[.int g31 h31, .int g32 h32, .int g33 h33, .int g34 h34, .int g35 h35] j3) ∈ base) (he4 : (e4, W.listOf #[.int g41 h41, .int g42 h42, .int g43 h43, .int g44 h44, .int g45 h45] j4) ∈ base) (he5 : (e5, W.listOf #[.int g51 h51, .int g52 h52, .int g53 h53, .int g54 h54, .int g55 h55] j5) ∈ base) (he6 : (e6, W.listOf #[.int g61 h61, .int g62 h62, .int g63 h63, .int g64 h64, .int g65 h65] j6) ∈ base) (he7 : (e7, W.listOf #[.int g71 h71, .int g72 h72, .int g73 h73, .int g74 h74, .int g75 h75] j7) ∈ base) (hS : (S, W.listOf #[.int v1 y1, .int v2 y2, .int v3 y3, .int v4 y4, .int v5 y5] ns) ∈ base) (hI : (I, W.listOf #[.ref b1, .ref b2, .ref b3, .ref b4, .ref b5] ni) ∈ base) (hb5 : (b5, W.listOf #[.int p5 x5, .int q5 x5', .int r5 x5''] n5) ∈ base) (hb4 : (b4, W.listOf #[.int p4 x4, .int q4 x4', .int r4 x4''] n4) ∈ base) (hb3 : (b3, W.listOf #[.int p3 x3, .int q3 x3', .int r3 x3''] n3) ∈ base) (hb2 : (b2, W.listOf #[.int p2 x2, .int q2 x2', .int r2 x2''] n2) ∈ base) (hb1 : (b1, W.listOf #[.int p1 x1, .int q1 x1', .int r1 x1''] n1) ∈ base) (hm1 : (L + 1, o1) ∈ base) (hm2 : (L + 1 + 1, o2) ∈ base) (hm3 : (L + 1 + 1 + 1, o3) ∈ base) (hm5 : (L + 1 + 1 + 1 + 1 + 1, o5) ∈ base) (hd1 : o1.data = .cell (some (.ref I))) (hd2 : o2.data = .cell (some (.ref S))) (hd3 : o3.data = .cell (some (.ref G))) (hd5 : o5.data = .cell (some (.ref J))) (hth : 0 ≤ th ∧ th ≤ 2) (hmi : mi = 0 ∨ mi = 1) (hd6 : o6.data = .cell (some (.int th k6))) (hd7 : o7.data = .cell (some (.int mi k7))) {v8 v9 : Option Value} (hd8 : o8.data = .cell v8) (hd9 : o9.data = .cell v9) (hB6 : ∀ p ∈ base, p.1 ≠ L + 1 + 1 + 1 + 1 + 1 + 1) (hB7 : ∀ p ∈ base, p.1 ≠ L + 1 + 1 + 1 + 1 + 1 + 1 + 1) (hB8 : ∀ p ∈ base, p.1 ≠ L + 1 + 1 + 1 + 1 + 1 + 1 + 1 + 1) (hB9 : ∀ p ∈ base, p.1 ≠ L + 1 + 1 + 1 + 1 + 1 + 1 + 1 + 1 + 1) (hI9 : @LT.lt Nat _ (L + 1 + 1 + 1 + 1 + 1 + 1 + 1 + 1 + 1) I) (hN1 : @LT.lt Nat _ (L + 1 + 1 + 1 + 1 + 1 + 1 + 1 + 1 + 1) b1) (hN2 : @LT.lt Nat _ (L + 1 + 1 + 1 + 1 + 1 + 1 + 1 + 1 + 1) b2) (hN3 : @LT.lt Nat _ (L + 1 + 1 + 1 + 1 + 1 + 1 + 1 + 1 + 1) b3) (hN4 : @LT.lt Nat _ (L + 1 + 1 + 1 + 1 + 1 + 1 + 1 + 1 + 1) b4) (hN5 : @LT.lt Nat _ (L + 1 + 1 + 1 + 1 + 1 + 1 + 1 + 1 + 1) b5) (hX8 : iI ≠ L + 1 + 1 + 1 + 1 + 1 + 1 + 1 + 1) (hY8 : iO ≠ L + 1 + 1 + 1 + 1 + 1 + 1 + 1 + 1) (hX9 : iI ≠ L + 1 + 1 + 1 + 1 + 1 + 1 + 1 + 1 + 1) (hY9 : iO ≠ L + 1 + 1 + 1 + 1 + 1 + 1 + 1 + 1 + 1)
    (B : Below callerA h₀ [] h₀) (F : Fr h₀ L s.heap m) (X : (hd.heap_1 w.params).In h₀) (T : Top p loose mean mg mb h₀) (N : News h₀ L s.heap ((iI, oI) :: (iO, oO) :: (L + 1 + 1 + 1 + 1 + 1 + 1, o6) :: (L + 1 + 1 + 1 + 1 + 1 + 1 + 1, o7) :: (L + 1 + 1 + 1 + 1 + 1 + 1 + 1 + 1, o8) :: (L + 1 + 1 + 1 + 1 + 1 + 1 + 1 + 1 + 1, o9) :: base))
    (hQ : ∀ h' tk' (m' : Str → Option Value) o8' o9' v8' v9', o8'.data = .cell v8' → o9'.data = .cell v9' → Fr h₀ L h' m' → News h₀ L h' ((iI, oI) :: (iO, oO) :: (L + 1 + 1 + 1 + 1 + 1 + 1, o6) :: (L + 1 + 1 + 1 + 1 + 1 + 1 + 1, o7) :: (L + 1 + 1 + 1 + 1 + 1 + 1 + 1 + 1, o8') :: (L + 1 + 1 + 1 + 1 + 1 + 1 + 1 + 1 + 1, o9') :: base) → Q .next { s with heap := h', toks := tk' }) :
    wpAny (model Challenge.rw_wo0027_01.row.prog w) (callerA.deeper (envOfC (Str.ofString "law") lawScope L fa cd)) (execs (turnParts.1) (envOfC (Str.ofString "law") lawScope L fa cd)) Q (fun _ _ => False) s := by
  have N0 : News h₀ L s.heap ((L + 1 + 1 + 1 + 1 + 1 + 1, o6) :: (L + 1 + 1 + 1 + 1 + 1 + 1 + 1, o7) :: (L + 1 + 1 + 1 + 1 + 1 + 1 + 1 + 1, o8) :: (iI, oI) :: (iO, oO) :: (L + 1 + 1 + 1 + 1 + 1 + 1 + 1 + 1 + 1, o9) :: base) := fun q hq => N q (by
    simp only [List.mem_cons] at hq ⊢
    rcases hq with h | h | h | h | h | h | h
    · exact .inr (.inr (.inl h))
    · exact .inr (.inr (.inr (.inl h)))
    · exact .inr (.inr (.inr (.inr (.inl h))))
    · exact .inl h
    · exact .inr (.inl h)
    · exact .inr (.inr (.inr (.inr (.inr (.inl h)))))
    · exact .inr (.inr (.inr (.inr (.inr (.inr h))))))
  have hr8 : ∀ p ∈ ((iI, oI) :: (iO, oO) :: (L + 1 + 1 + 1 + 1 + 1 + 1 + 1 + 1 + 1, o9) :: base), p.1 ≠ L + 1 + 1 + 1 + 1 + 1 + 1 + 1 + 1 := List.forall_mem_cons.mpr ⟨hX8, List.forall_mem_cons.mpr ⟨hY8, List.forall_mem_cons.mpr ⟨neN (by dsimp only; omega), hB8⟩⟩⟩
  refine law_T0 w th mi k6 k7 o6 o7 o8 _ hth hmi hd6 hd7 hd8 hr8 B F X T N0 ?_
  intro h1 tk1 Or o8' no t1 t2 t3 z0 z1 z2 hz0 hz1 hz2 F1 hd8' hlt1 hlt8 N1
  have hz0b : 0 ≤ z0 ∧ z0 ≤ 2 := by rw [hz0]; exact ord_bnd _ _ _
  have hz1b : 0 ≤ z1 ∧ z1 ≤ 2 := by rw [hz1]; exact ord_bnd _ _ _
  have hz2b : 0 ≤ z2 ∧ z2 ≤ 2 := by rw [hz2]; exact ord_bnd _ _ _
  have hOr9 : @LT.lt Nat _ (L + 1 + 1 + 1 + 1 + 1 + 1 + 1 + 1 + 1) Or := hlt1 (L + 1 + 1 + 1 + 1 + 1 + 1 + 1 + 1 + 1, o9) (.tail _ (.tail _ (.head _)))
  have hr9 : ∀ p ∈ ((iI, oI) :: (iO, oO) :: base), p.1 ≠ L + 1 + 1 + 1 + 1 + 1 + 1 + 1 + 1 + 1 := List.forall_mem_cons.mpr ⟨hX9, List.forall_mem_cons.mpr ⟨hY9, hB9⟩⟩
  have inb : ∀ p ∈ base, p ∈ (Or, W.listOf #[.int z0 t1, .int z1 t2, .int z2 t3] no) :: (L + 1 + 1 + 1 + 1 + 1 + 1, o6) :: (L + 1 + 1 + 1 + 1 + 1 + 1 + 1, o7) :: (L + 1 + 1 + 1 + 1 + 1 + 1 + 1 + 1, o8') :: (iI, oI) :: (iO, oO) :: (L + 1 + 1 + 1 + 1 + 1 + 1 + 1 + 1 + 1, o9) :: base := fun p hp => .tail _ (.tail _ (.tail _ (.tail _ (.tail _ (.tail _ (.tail _ hp))))))
  have N2 : News h₀ L h1 ((Or, W.listOf #[.int z0 t1, .int z1 t2, .int z2 t3] no) :: (I, W.listOf #[.ref b1, .ref b2, .ref b3, .ref b4, .ref b5] ni) :: (b5, W.listOf #[.int p5 x5, .int q5 x5', .int r5 x5''] n5) :: (b4, W.listOf #[.int p4 x4, .int q4 x4', .int r4 x4''] n4) :: (b3, W.listOf #[.int p3 x3, .int q3 x3', .int r3 x3''] n3) :: (b2, W.listOf #[.int p2 x2, .int q2 x2', .int r2 x2''] n2) :: (b1, W.listOf #[.int p1 x1, .int q1 x1', .int r1 x1''] n1) :: (L + 1, o1) :: (L + 1 + 1 + 1 + 1 + 1 + 1, o6) :: (L + 1 + 1 + 1 + 1 + 1 + 1 + 1, o7) :: (L + 1 + 1 + 1 + 1 + 1 + 1 + 1 + 1, o8') :: (L + 1 + 1 + 1 + 1 + 1 + 1 + 1 + 1 + 1, o9) :: (iI, oI) :: (iO, oO) :: base) :=
    news_put N1 (.head _) (news_put N1 (inb _ hI) (news_put N1 (inb _ hb5) (news_put N1 (inb _ hb4) (news_put N1 (inb _ hb3) (news_put N1 (inb _ hb2) (news_put N1 (inb _ hb1) (news_put N1 (inb _ hm1) (news_put N1 (.tail _ (.head _)) (news_put N1 (.tail _ (.tail _ (.head _))) (news_put N1 (.tail _ (.tail _ (.tail _ (.head _)))) (news_put N1 (.tail _ (.tail _ (.tail _ (.tail _ (.tail _ (.tail _ (.head _))))))) (news_put N1 (.tail _ (.tail _ (.tail _ (.tail _ (.head _))))) (news_put N1 (.tail _ (.tail _ (.tail _ (.tail _ (.tail _ (.head _)))))) (fun q hq => N1 q (inb q hq)))))))))))))))
  refine law_T1 w I Or ni no b1 b2 b3 b4 b5 p1 q1 r1 p2 q2 r2 p3 q3 r3 p4 q4 r4 p5 q5 r5 n1 n2 n3 n4 n5 x1 x1' x1'' x2 x2' x2'' x3 x3' x3'' x4 x4' x4'' x5 x5' x5'' th mi z0 z1 z2 k6 k7 t1 t2 t3 o1 o6 o7 o8' o9 _ hp1 hq1 hr1 hp2 hq2 hr2 hp3 hq3 hr3 hp4 hq4 hr4 hp5 hq5 hr5 hth hmi hz0 hz1 hz2 hz0b hz1b hz2b hd1 hd6 hd7 hd8' hd9 hr9 hI9 hOr9 hN1 hN2 hN3 hN4 hN5 B F1 X T N2 ?_
  intro h2 tk2 m2 o9' Im jm Ah jh u1 u2 u3 a1 m1 α1 β1 γ1 a2 m2 α2 β2 γ2 a3 m3 α3 β3 γ3 a4 m4 α4 β4 γ4 a5 m5 α5 β5 γ5 F2 hd9' N3
  refine sel_of p1 q1 r1 v1 p2 q2 r2 v2 p3 q3 r3 v3 p4 q4 r4 v4 p5 q5 r5 v5 e0 e1 e2 e3 e4 e5 e6 e7 g01 g02 g03 g04 g05 g11 g12 g13 g14 g15 g21 g22 g23 g24 g25 g31 g32 g33 g34 g35 g41 g42 g43 g44 g45 g51 g52 g53 g54 g55 g61 g62 g63 g64 g65 g71 g72 g73 g74 g75 h01 h02 h03 h04 h05 h11 h12 h13 h14 h15 h21 h22 h23 h24 h25 h31 h32 h33 h34 h35 h41 h42 h43 h44 h45 h51 h52 h53 h54 h55 h61 h62 h63 h64 h65 h71 h72 h73 h74 h75 j0 j1 j2 j3 j4 j5 j6 j7 i1 i2 i3 i4 i5 hgl he0 he1 he2 he3 he4 he5 he6 he7 hLF hth hmi hz0 hz1 hz2 fun ea eb ga1 ga2 ga3 ga4 ga5 gb1 gb2 gb3 gb4 gb5 ha1 ha2 ha3 ha4 ha5 hb1 hb2 hb3 hb4 hb5 na nb k1 k2 k3 k4 g1 g2 g3 ma mb' LA LB LC LJ => ?_
  have pb : ∀ (p q r z : Int), 0 ≤ p ∧ p ≤ 2 → 0 ≤ q ∧ q ≤ 2 → 0 ≤ r ∧ r ≤ 2 → 0 ≤ pick3 p q r z ∧ pick3 p q r z ≤ 2 := by
    intro p q r z hp hq hr
    unfold pick3
    split
    · exact hp
    · split
      · exact hq
      · exact hr
  generalize hled : (Ah, W.listOf #[.int (2 ^ z0.toNat) u1, .int (7 - 2 ^ z2.toNat) u2, .int 7 u3] jh) :: (Im, W.listOf #[.ref a1, .ref a2, .ref a3, .ref a4, .ref a5] jm) :: (a5, W.listOf #[.int (pick3 p5 q5 r5 z0) α5, .int (pick3 p5 q5 r5 z1) β5, .int (pick3 p5 q5 r5 z2) γ5] m5) :: (a4, W.listOf #[.int (pick3 p4 q4 r4 z0) α4, .int (pick3 p4 q4 r4 z1) β4, .int (pick3 p4 q4 r4 z2) γ4] m4) :: (a3, W.listOf #[.int (pick3 p3 q3 r3 z0) α3, .int (pick3 p3 q3 r3 z1) β3, .int (pick3 p3 q3 r3 z2) γ3] m3) :: (a2, W.listOf #[.int (pick3 p2 q2 r2 z0) α2, .int (pick3 p2 q2 r2 z1) β2, .int (pick3 p2 q2 r2 z2) γ2] m2) :: (a1, W.listOf #[.int (pick3 p1 q1 r1 z0) α1, .int (pick3 p1 q1 r1 z1) β1, .int (pick3 p1 q1 r1 z2) γ1] m1) :: (Or, W.listOf #[.int z0 t1, .int z1 t2, .int z2 t3] no) :: (I, W.listOf #[.ref b1, .ref b2, .ref b3, .ref b4, .ref b5] ni) :: (b5, W.listOf #[.int p5 x5, .int q5 x5', .int r5 x5''] n5) :: (b4, W.listOf #[.int p4 x4, .int q4 x4', .int r4 x4''] n4) :: (b3, W.listOf #[.int p3 x3, .int q3 x3', .int r3 x3''] n3) :: (b2, W.listOf #[.int p2 x2, .int q2 x2', .int r2 x2''] n2) :: (b1, W.listOf #[.int p1 x1, .int q1 x1', .int r1 x1''] n1) :: (L + 1, o1) :: (L + 1 + 1 + 1 + 1 + 1 + 1, o6) :: (L + 1 + 1 + 1 + 1 + 1 + 1 + 1, o7) :: (L + 1 + 1 + 1 + 1 + 1 + 1 + 1 + 1, o8') :: (L + 1 + 1 + 1 + 1 + 1 + 1 + 1 + 1 + 1, o9') :: (iI, oI) :: (iO, oO) :: base = led at N3
  have inb3 : ∀ p ∈ base, p ∈ led := by rw [← hled]; exact fun p hp => .tail _ (.tail _ (.tail _ (.tail _ (.tail _ (.tail _ (.tail _ (.tail _ (.tail _ (.tail _ (.tail _ (.tail _ (.tail _ (.tail _ (.tail _ (.tail _ (.tail _ (.tail _ (.tail _ (.tail _ (.tail _ (hp)))))))))))))))))))))
  have N4 : News h₀ L h2 ((S, W.listOf #[.int v1 y1, .int v2 y2, .int v3 y3, .int v4 y4, .int v5 y5] ns) :: (Im, W.listOf #[.ref a1, .ref a2, .ref a3, .ref a4, .ref a5] jm) :: (a5, W.listOf #[.int (pick3 p5 q5 r5 z0) α5, .int (pick3 p5 q5 r5 z1) β5, .int (pick3 p5 q5 r5 z2) γ5] m5) :: (a4, W.listOf #[.int (pick3 p4 q4 r4 z0) α4, .int (pick3 p4 q4 r4 z1) β4, .int (pick3 p4 q4 r4 z2) γ4] m4) :: (a3, W.listOf #[.int (pick3 p3 q3 r3 z0) α3, .int (pick3 p3 q3 r3 z1) β3, .int (pick3 p3 q3 r3 z2) γ3] m3) :: (a2, W.listOf #[.int (pick3 p2 q2 r2 z0) α2, .int (pick3 p2 q2 r2 z1) β2, .int (pick3 p2 q2 r2 z2) γ2] m2) :: (a1, W.listOf #[.int (pick3 p1 q1 r1 z0) α1, .int (pick3 p1 q1 r1 z1) β1, .int (pick3 p1 q1 r1 z2) γ1] m1) :: (Ah, W.listOf #[.int (2 ^ z0.toNat) u1, .int (7 - 2 ^ z2.toNat) u2, .int 7 u3] jh) :: (G, W.listOf gl.toArray jG) :: (ea, W.listOf #[.int ga1 ha1, .int ga2 ha2, .int ga3 ha3, .int ga4 ha4, .int ga5 ha5] na) :: (eb, W.listOf #[.int gb1 hb1, .int gb2 hb2, .int gb3 hb3, .int gb4 hb4, .int gb5 hb5] nb) :: (e7, W.listOf #[.int g71 h71, .int g72 h72, .int g73 h73, .int g74 h74, .int g75 h75] j7) :: (J, W.listOf #[.int i1 τ1, .int i2 τ2, .int i3 τ3, .int i4 τ4, .int i5 τ5] jJ) :: (L + 1 + 1, o2) :: (L + 1 + 1 + 1, o3) :: (L + 1 + 1 + 1 + 1 + 1, o5) :: (L + 1 + 1 + 1 + 1 + 1 + 1 + 1 + 1 + 1, o9') :: led) := (news_put N3 (inb3 _ hS) (news_put N3 (by rw [← hled]; exact (.tail _ (.head _))) (news_put N3 (by rw [← hled]; exact (.tail _ (.tail _ (.head _)))) (news_put N3 (by rw [← hled]; exact (.tail _ (.tail _ (.tail _ (.head _))))) (news_put N3 (by rw [← hled]; exact (.tail _ (.tail _ (.tail _ (.tail _ (.head _)))))) (news_put N3 (by rw [← hled]; exact (.tail _ (.tail _ (.tail _ (.tail _ (.tail _ (.head _))))))) (news_put N3 (by rw [← hled]; exact (.tail _ (.tail _ (.tail _ (.tail _ (.tail _ (.tail _ (.head _)))))))) (news_put N3 (by rw [← hled]; exact (.head _)) (news_put N3 (inb3 _ hmG) (news_put N3 (inb3 _ ma) (news_put N3 (inb3 _ mb') (news_put N3 (inb3 _ he7) (news_put N3 (inb3 _ hmJ) (news_put N3 (inb3 _ hm2) (news_put N3 (inb3 _ hm3) (news_put N3 (inb3 _ hm5) (news_put N3 (by rw [← hled]; exact (.tail _ (.tail _ (.tail _ (.tail _ (.tail _ (.tail _ (.tail _ (.tail _ (.tail _ (.tail _ (.tail _ (.tail _ (.tail _ (.tail _ (.tail _ (.tail _ (.tail _ (.tail _ (.head _)))))))))))))))))))) N3)))))))))))))))))
  refine law_T2 w S Im ns jm a1 a2 a3 a4 a5 (pick3 p1 q1 r1 z0) (pick3 p1 q1 r1 z1) (pick3 p1 q1 r1 z2) v1 (pick3 p2 q2 r2 z0) (pick3 p2 q2 r2 z1) (pick3 p2 q2 r2 z2) v2 (pick3 p3 q3 r3 z0) (pick3 p3 q3 r3 z1) (pick3 p3 q3 r3 z2) v3 (pick3 p4 q4 r4 z0) (pick3 p4 q4 r4 z1) (pick3 p4 q4 r4 z2) v4 (pick3 p5 q5 r5 z0) (pick3 p5 q5 r5 z1) (pick3 p5 q5 r5 z2) v5 m1 m2 m3 m4 m5 α1 β1 γ1 y1 α2 β2 γ2 y2 α3 β3 γ3 y3 α4 β4 γ4 y4 α5 β5 γ5 y5 ga1 ga2 ga3 ga4 ga5 gb1 gb2 gb3 gb4 gb5 g71 g72 g73 g74 g75 i1 i2 i3 i4 i5 J G ea eb e7 Ah (2 ^ z0.toNat) (7 - 2 ^ z2.toNat) 7 o2 o3 o5 o9' u1 u2 u3 jh jG na nb j7 jJ gl led ha1 ha2 ha3 ha4 ha5 hb1 hb2 hb3 hb4 hb5 h71 h72 h73 h74 h75 τ1 τ2 τ3 τ4 τ5 (pb _ _ _ _ hp1 hq1 hr1) (pb _ _ _ _ hp1 hq1 hr1) (pb _ _ _ _ hp1 hq1 hr1) hv1 (pb _ _ _ _ hp2 hq2 hr2) (pb _ _ _ _ hp2 hq2 hr2) (pb _ _ _ _ hp2 hq2 hr2) hv2 (pb _ _ _ _ hp3 hq3 hr3) (pb _ _ _ _ hp3 hq3 hr3) (pb _ _ _ _ hp3 hq3 hr3) hv3 (pb _ _ _ _ hp4 hq4 hr4) (pb _ _ _ _ hp4 hq4 hr4) (pb _ _ _ _ hp4 hq4 hr4) hv4 (pb _ _ _ _ hp5 hq5 hr5) (pb _ _ _ _ hp5 hq5 hr5) (pb _ _ _ _ hp5 hq5 hr5) hv5 hd2 hd3 hd5 hd9' ⟨k1, k2⟩ ⟨k3, k4⟩ (by decide) g1 g2 g3 LA LB LC LJ B F2 X T N4 ?_
  intro h3 tk3 m3 F3 N5
  have N6 : News h₀ L h3 led := news_add [_, _, _, _, _, _, _, _, _, _, _, _, _, _, _, _, _] N5 rfl
  refine hQ h3 tk3 m3 o8' o9' _ _ hd8' hd9' F3 (fun q hq => N6 q ?_)
  rw [← hled]
  rcases List.mem_cons.mp hq with e | hq
  · rw [e]; exact (.tail _ (.tail _ (.tail _ (.tail _ (.tail _ (.tail _ (.tail _ (.tail _ (.tail _ (.tail _ (.tail _ (.tail _ (.tail _ (.tail _ (.tail _ (.tail _ (.tail _ (.tail _ (.tail _ (.head _))))))))))))))))))))
  rcases List.mem_cons.mp hq with e | hq
  · rw [e]; exact (.tail _ (.tail _ (.tail _ (.tail _ (.tail _ (.tail _ (.tail _ (.tail _ (.tail _ (.tail _ (.tail _ (.tail _ (.tail _ (.tail _ (.tail _ (.tail _ (.tail _ (.tail _ (.tail _ (.tail _ (.head _)))))))))))))))))))))
  rcases List.mem_cons.mp hq with e | hq
  · rw [e]; exact (.tail _ (.tail _ (.tail _ (.tail _ (.tail _ (.tail _ (.tail _ (.tail _ (.tail _ (.tail _ (.tail _ (.tail _ (.tail _ (.tail _ (.tail _ (.head _))))))))))))))))
  rcases List.mem_cons.mp hq with e | hq
  · rw [e]; exact (.tail _ (.tail _ (.tail _ (.tail _ (.tail _ (.tail _ (.tail _ (.tail _ (.tail _ (.tail _ (.tail _ (.tail _ (.tail _ (.tail _ (.tail _ (.tail _ (.head _)))))))))))))))))
  rcases List.mem_cons.mp hq with e | hq
  · rw [e]; exact (.tail _ (.tail _ (.tail _ (.tail _ (.tail _ (.tail _ (.tail _ (.tail _ (.tail _ (.tail _ (.tail _ (.tail _ (.tail _ (.tail _ (.tail _ (.tail _ (.tail _ (.head _))))))))))))))))))
  rcases List.mem_cons.mp hq with e | hq
  · rw [e]; exact (.tail _ (.tail _ (.tail _ (.tail _ (.tail _ (.tail _ (.tail _ (.tail _ (.tail _ (.tail _ (.tail _ (.tail _ (.tail _ (.tail _ (.tail _ (.tail _ (.tail _ (.tail _ (.head _)))))))))))))))))))
  rw [hled]; exact inb3 q hq
end Mine
end
section
open PySem PySem.W PySem.Calls PyProof.Rows
set_option Elab.async false
set_option maxRecDepth 100000
set_option maxHeartbeats 8000000
set_option pp.deepTerms false
set_option pp.deepTerms.threshold 4
set_option pp.maxSteps 6000
namespace Mine
theorem haltI_T18 {P : Prop} (h : Keep P) : P := h
local macro_rules | `(tactic| walk_at "exec For Name Call cons nil") => `(tactic| (k_here; (rename Fr _ _ _ _ => lF'); (with_unfolding_all refine' For_turns lF' ?_; k_whole)))
local macro_rules | `(tactic| walk_at "pyIter ref") => `(tactic| (k_here; (with_reducible show wpAny _ _ (pyIter _) (fun _ _ => TurnsAt _ _ _ _ _ _ _ _ _ _ _) _ _); k_dflt (refine range_turns rfl (by k_asm) (by k_asm) (by assumption) (by first | decide | rfl) (by first | rfl | decide) ?_); intro i' l1; (try k_lt l1)))

noncomputable def OutInv (L : Addr) (base : List (Addr × Obj)) (ws : List (Addr × String)) (xs : List Itm) (_m : Str → Option Value) (news' : List (Addr × Obj)) : Prop :=
  ∃ (is : List Nat) (u6 u7 u8 u9 : Obj) (v6 v7 v8 v9 : Option Value), xs = is.map intItm ∧ (∀ i ∈ is, i < 3) ∧ u6.data = .cell v6 ∧ u7.data = .cell v7 ∧ u8.data = .cell v8 ∧ u9.data = .cell v9 ∧
    news' = (L + 1 + 1 + 1 + 1 + 1 + 1, u6) :: (L + 1 + 1 + 1 + 1 + 1 + 1 + 1, u7) :: (L + 1 + 1 + 1 + 1 + 1 + 1 + 1 + 1, u8) :: (L + 1 + 1 + 1 + 1 + 1 + 1 + 1 + 1 + 1, u9) :: base ∧ (∀ p ∈ news', ∀ q ∈ ws, p.1 ≠ q.1)
noncomputable def InInv (L : Addr) (base : List (Addr × Obj)) (iO : Addr) (oO u6 : Obj) (ws : List (Addr × String)) (xs : List Itm) (_m : Str → Option Value) (news' : List (Addr × Obj)) : Prop :=
  ∃ (is : List Nat) (u7 u8 u9 : Obj) (v7 v8 v9 : Option Value), xs = is.map intItm ∧ (∀ i ∈ is, i < 2) ∧ u7.data = .cell v7 ∧ u8.data = .cell v8 ∧ u9.data = .cell v9 ∧
    news' = (iO, oO) :: (L + 1 + 1 + 1 + 1 + 1 + 1, u6) :: (L + 1 + 1 + 1 + 1 + 1 + 1 + 1, u7) :: (L + 1 + 1 + 1 + 1 + 1 + 1 + 1 + 1, u8) :: (L + 1 + 1 + 1 + 1 + 1 + 1 + 1 + 1 + 1, u9) :: base ∧ (∀ p ∈ news', ∀ q ∈ ws, p.1 ≠ q.1)

theorem off_lb {L iO : Addr} {base : List (Addr × Obj)} {u6 u7 u8 u9 y6 y7 y8 y9 : Obj} (h : AllLt iO ((L + 1 + 1 + 1 + 1 + 1 + 1, u6) :: (L + 1 + 1 + 1 + 1 + 1 + 1 + 1, u7) :: (L + 1 + 1 + 1 + 1 + 1 + 1 + 1 + 1, u8) :: (L + 1 + 1 + 1 + 1 + 1 + 1 + 1 + 1 + 1, u9) :: base)) : ∀ p ∈ (L + 1 + 1 + 1 + 1 + 1 + 1, y6) :: (L + 1 + 1 + 1 + 1 + 1 + 1 + 1, y7) :: (L + 1 + 1 + 1 + 1 + 1 + 1 + 1 + 1, y8) :: (L + 1 + 1 + 1 + 1 + 1 + 1 + 1 + 1 + 1, y9) :: base, p.1 ≠ iO := by
  obtain ⟨h1, h2, h3, h4, h5⟩ := h
  exact List.forall_mem_cons.mpr ⟨Nat.ne_of_lt h1, List.forall_mem_cons.mpr ⟨Nat.ne_of_lt h2, List.forall_mem_cons.mpr ⟨Nat.ne_of_lt h3, List.forall_mem_cons.mpr ⟨Nat.ne_of_lt h4, fun p hp => Nat.ne_of_lt (allLt_all h5 p hp)⟩⟩⟩⟩
theorem off_in {L iO iI : Addr} {base : List (Addr × Obj)} {oO pO u6 u7 u8 u9 y6 y7 y8 y9 : Obj} (h : AllLt iI ((iO, oO) :: (L + 1 + 1 + 1 + 1 + 1 + 1, u6) :: (L + 1 + 1 + 1 + 1 + 1 + 1 + 1, u7) :: (L + 1 + 1 + 1 + 1 + 1 + 1 + 1 + 1, u8) :: (L + 1 + 1 + 1 + 1 + 1 + 1 + 1 + 1 + 1, u9) :: base)) : ∀ p ∈ (iO, pO) :: (L + 1 + 1 + 1 + 1 + 1 + 1, y6) :: (L + 1 + 1 + 1 + 1 + 1 + 1 + 1, y7) :: (L + 1 + 1 + 1 + 1 + 1 + 1 + 1 + 1, y8) :: (L + 1 + 1 + 1 + 1 + 1 + 1 + 1 + 1 + 1, y9) :: base, p.1 ≠ iI := by
  exact List.forall_mem_cons.mpr ⟨Nat.ne_of_lt h.1, off_lb h.2⟩

theorem law_D (w : World) {p : Program} {loose : List Str} {mean : ExcName → Option Value} {mg mb : Str → Option Value} {fa : Addr} {cd : Value} {h₀ : Heap} {L : Addr} {m : Str → Option Value} {s : Shared} {Q : Flow → Shared → Prop}
    (S I J G : Addr) (ns ni jJ jG : Nat) (b1 b2 b3 b4 b5 : Addr) (p1 q1 r1 v1 p2 q2 r2 v2 p3 q3 r3 v3 p4 q4 r4 v4 p5 q5 r5 v5 : Int) (n1 n2 n3 n4 n5 : Nat) (x1 x1' x1'' y1 x2 x2' x2'' y2 x3 x3' x3'' y3 x4 x4' x4'' y4 x5 x5' x5'' y5 : Tok) (e0 e1 e2 e3 e4 e5 e6 e7 : Addr) (g01 g02 g03 g04 g05 g11 g12 g13 g14 g15 g21 g22 g23 g24 g25 g31 g32 g33 g34 g35 g41 g42 g43 g44 g45 g51 g52 g53 g54 g55 g61 g62 g63 g64 g65 g71 g72 g73 g74 g75 : Int) (h01 h02 h03 h04 h05 h11 h12 h13 h14 h15 h21 h22 h23 h24 h25 h31 h32 h33 h34 h35 h41 h42 h43 h44 h45 h51 h52 h53 h54 h55 h61 h62 h63 h64 h65 h71 h72 h73 h74 h75 : Tok) (j0 j1 j2 j3 j4 j5 j6 j7 : Nat) (i1 i2 i3 i4 i5 : Int) (τ1 τ2 τ3 τ4 τ5 : Tok) (gl : List Value) (base : List (Addr × Obj)) (o1 o2 o3 o5 o6 o7 o8 o9 : Obj) (hgl : gl = [.ref e0, .ref e1, .ref e2, .ref e3, .ref e4, .ref e5, .ref e6, .ref e7]) (hLF : LF p1 q1 r1 v1 p2 q2 r2 v2 p3 q3 r3 v3 p4 q4 r4 v4 p5 q5 r5 v5 g01 g02 g03 g04 g05 g11 g12 g13 g14 g15 g21 g22 g23 g24 g25 g31 g32 g33 g34 g35 g41 g42 g43 g44 g45 g51 g52 g53 g54 g55 g61 g62 g63 g64 g65 g71 g72 g73 g74 g75 i1 i2 i3 i4 i5)  (hp1 : 0 ≤ p1 ∧ p1 ≤ 2) (hq1 : 0 ≤ q1 ∧ q1 ≤ 2) (hr1 : 0 ≤ r1 ∧ r1 ≤ 2) (hv1 : 0 ≤ v1 ∧ v1 ≤ 5) (hp2 : 0 ≤ p2 ∧ p2 ≤ 2) (hq2 : 0 ≤ q2 ∧ q2 ≤ 2) (hr2 : 0 ≤ r2 ∧ r2 ≤ 2) (hv2 : 0 ≤ v2 ∧ v2 ≤ 5) (hp3 : 0 ≤ p3 ∧ p3 ≤ 2) (hq3 : 0 ≤ q3 ∧ q3 ≤ 2) (hr3 : 0 ≤ r3 ∧ r3 ≤ 2) (hv3 : 0 ≤ v3 ∧ v3 ≤ 5) (hp4 : 0 ≤ p4 ∧ p4 ≤ 2) (hq4 : 0 ≤ q4 ∧ q4 ≤ 2) (hr4 : 0 ≤ r4 ∧ r4 ≤ 2) (hv4 : 0 ≤ v4 ∧ v4 ≤ 5) (hp5 : 0 ≤ p5 ∧ p5 ≤ 2) (hq5 : 0 ≤ q5 ∧ q5 ≤ 2) (hr5 : 0 ≤ r5 ∧ r5 ≤ 2) (hv5 : 0 ≤ v5 ∧ v5 ≤ 5) (hmJ : (J, W.listOf #[.int i1 τ1, .int i2 τ2, .int i3 τ3, .int i4 τ4, .int i5 τ5] jJ) ∈ base) (hmG : (G, W.listOf gl.toArray jG) ∈ base) (he0 : (e0, W.listOf #[.int g01 h01, .int g02 h02, .int g03 h03, .int g04 h04, .int g05 h05] j0) ∈ base) (he1 : (e1, W.listOf #[.int g11 h11, .int g12 h12, .int g13 h13, .int g14 h14, .int g15 h15] j1) ∈ base) (he2 : (e2, W.listOf #[.int g21 h21, .int g22 h22, .int g23 h23, .int g24 h24, .int g25 h25] j2) ∈ base) (he3 : (e3, W.listOf #[.int g31 h31, .int g32 h32, .int g33 h33, .int g34 h34, .int g35 h35] j3) ∈ base) (he4 : (e4, W.listOf #[.int g41 h41, .int g42 h42, .int g43 h43, .int g44 h44, .int g45 h45] j4) ∈ base) (he5 : (e5, W.listOf #[.int g51 h51, .int g52 h52, .int g53 h53, .int g54 h54, .int g55 h55] j5) ∈ base) (he6 : (e6, W.listOf #[.int g61 h61, .int g62 h62, .int g63 h63, .int g64 h64, .int g65 h65] j6) ∈ base) (he7 : (e7, W.listOf #[.int g71 h71, .int g72 h72, .int g73 h73, .int g74 h74, .int g75 h75] j7) ∈ base) (hS : (S, W.listOf #[.int v1 y1, .int v2 y2, .int v3 y3, .int v4 y4, .int v5 y5] ns) ∈ base) (hI : (I, W.listOf #[.ref b1, .ref b2, .ref b3, .ref b4, .ref b5] ni) ∈ base) (hb5 : (b5, W.listOf #[.int p5 x5, .int q5 x5', .int r5 x5''] n5) ∈ base) (hb4 : (b4, W.listOf #[.int p4 x4, .int q4 x4', .int r4 x4''] n4) ∈ base) (hb3 : (b3, W.listOf #[.int p3 x3, .int q3 x3', .int r3 x3''] n3) ∈ base) (hb2 : (b2, W.listOf #[.int p2 x2, .int q2 x2', .int r2 x2''] n2) ∈ base) (hb1 : (b1, W.listOf #[.int p1 x1, .int q1 x1', .int r1 x1''] n1) ∈ base) (hm1 : (L + 1, o1) ∈ base) (hm2 : (L + 1 + 1, o2) ∈ base) (hm3 : (L + 1 + 1 + 1, o3) ∈ base) (hm5 : (L + 1 + 1 + 1 + 1 + 1, o5) ∈ base) (hd1 : o1.data = .cell (some (.ref I))) (hd2 : o2.data = .cell (some (.ref S))) (hd3 : o3.data = .cell (some (.ref G))) (hd5 : o5.data = .cell (some (.ref J))) (hd6 : o6.data = .cell none) (hd7 : o7.data = .cell none) (hd8 : o8.data = .cell none) (hd9 : o9.data = .cell none) (hB6 : ∀ p ∈ base, p.1 ≠ L + 1 + 1 + 1 + 1 + 1 + 1) (hB7 : ∀ p ∈ base, p.1 ≠ L + 1 + 1 + 1 + 1 + 1 + 1 + 1) (hB8 : ∀ p ∈ base, p.1 ≠ L + 1 + 1 + 1 + 1 + 1 + 1 + 1 + 1) (hB9 : ∀ p ∈ base, p.1 ≠ L + 1 + 1 + 1 + 1 + 1 + 1 + 1 + 1 + 1) (hI9 : @LT.lt Nat _ (L + 1 + 1 + 1 + 1 + 1 + 1 + 1 + 1 + 1) I) (hN1 : @LT.lt Nat _ (L + 1 + 1 + 1 + 1 + 1 + 1 + 1 + 1 + 1) b1) (hN2 : @LT.lt Nat _ (L + 1 + 1 + 1 + 1 + 1 + 1 + 1 + 1 + 1) b2) (hN3 : @LT.lt Nat _ (L + 1 + 1 + 1 + 1 + 1 + 1 + 1 + 1 + 1) b3) (hN4 : @LT.lt Nat _ (L + 1 + 1 + 1 + 1 + 1 + 1 + 1 + 1 + 1) b4) (hN5 : @LT.lt Nat _ (L + 1 + 1 + 1 + 1 + 1 + 1 + 1 + 1 + 1) b5)
    (B : Below callerA h₀ [] h₀) (F : Fr h₀ L s.heap m) (X : (hd.heap_1 w.params).In h₀) (T : Top p loose mean mg mb h₀) (N : News h₀ L s.heap ((L + 1 + 1 + 1 + 1 + 1 + 1, o6) :: (L + 1 + 1 + 1 + 1 + 1 + 1 + 1, o7) :: (L + 1 + 1 + 1 + 1 + 1 + 1 + 1 + 1, o8) :: (L + 1 + 1 + 1 + 1 + 1 + 1 + 1 + 1 + 1, o9) :: base))
    (hQ : ∀ h' tk' m', Fr h₀ L h' m' → Q (.ret (.bool true)) { s with heap := h', toks := tk' }) :
    wpAny (model Challenge.rw_wo0027_01.row.prog w) (callerA.deeper (envOfC (Str.ofString "law") lawScope L fa cd)) (execs (lawBody.drop 7) (envOfC (Str.ofString "law") lawScope L fa cd)) Q (fun _ _ => False) s := by
  w_top off
  k_with_none
  k_with "ItemsRest" => (refine haltI_T18 ?_)
  k_with "UnrEndW" => (refine haltI_T18 ?_)
  k_with "execs cons" => ((with_reducible show wpAny _ _ (execs (Stmt.Assign [PySem.Expr.Name (Str.ofString "order") _] _ _ :: _) _) _ _ _); refine haltI_T18 ?_)
  revert X
  k_fill
  intro X
  dsimp only [lawBody, lawScope, lawParts, List.drop]
  k_steps
  unfold Keep
  rename_i iO hAO hlO
  refine loopV (OutInv L base) ?init ?done ?step
  case init =>
    refine ⟨_, fun p hp => hp, [0, 1, 2], _, _, _, _, _, _, _, _, rfl, by decide, hd6, hd7, hd8, hd9, rfl, ?_⟩
    (rename AllLt _ _ => A9)
    intro p hp q hq
    rw [List.mem_singleton.mp hq]
    exact Nat.ne_of_lt (allLt_all A9 p hp)
  case done =>
    intro m1 news1 hI1 h1 tk1 F1 N1
    k_steps
    exact hQ _ _ _ F1
  case step =>
    intro a1 r1' m1 news1 hI1 v1' h1 tk1 hv1' F1
    obtain ⟨is, u6, u7, u8, u9, w6, w7, w8, w9, exs, his, d6, d7, d8, d9, rfl, hap⟩ := hI1
    cases is with
    | nil => cases exs
    | cons i is =>
    simp only [List.map_cons, List.cons.injEq] at exs
    obtain ⟨rfl, rfl⟩ := exs
    obtain ⟨t1, rfl⟩ := hv1'
    have hi3 : i < 3 := his i (.head _)
    have hth : 0 ≤ 0 + (i : Int) ∧ 0 + (i : Int) ≤ 2 := by omega
    clear hd6 hd7 hd8 hd9
    have hA6 : ∀ p ∈ ((L + 1 + 1 + 1 + 1 + 1 + 1 + 1, u7) :: (L + 1 + 1 + 1 + 1 + 1 + 1 + 1 + 1, u8) :: (L + 1 + 1 + 1 + 1 + 1 + 1 + 1 + 1 + 1, u9) :: base), p.1 ≠ L + 1 + 1 + 1 + 1 + 1 + 1 := List.forall_mem_cons.mpr ⟨neN (by dsimp only; omega), List.forall_mem_cons.mpr ⟨neN (by dsimp only; omega), List.forall_mem_cons.mpr ⟨neN (by dsimp only; omega), hB6⟩⟩⟩
    have hap5 := hap
    ktu_objs
    rename_i oO hcO NO
    k_steps
    unfold Keep
    rename_i iI hAI hlI
    (rename Obj => u6')
    (rename _ = Data.cell (some ((fun t => _) t1)) => d6')
    refine loopV (InInv L base iO oO u6') ?init2 ?done2 ?step2
    case init2 =>
      refine ⟨_, fun p hp => hp, [0, 1], u7, u8, u9, w7, w8, w9, rfl, by decide, d7, d8, d9, rfl, ?_⟩
      intro p hp q hq
      rw [List.mem_singleton.mp hq]
      exact Nat.ne_of_lt (allLt_all hAI p hp)
    case done2 =>
      intro m2 news2 hI2 h2 tk2 F2 N2
      obtain ⟨is2, y7, y8, y9, x7, x8, x9, exs2, his2, e7', e8', e9', rfl, hap2⟩ := hI2
      k_steps
      unfold Keep
      exact ⟨h2, tk2, m2, _, rfl, F2, N2, fun p hp q hq => by rw [List.mem_singleton.mp hq]; exact off_lb hAO p hp, trivial, is, _, y7, y8, y9, _, x7, x8, x9, rfl, fun k hk => his k (.tail _ hk), d6', e7', e8', e9', rfl, fun p hp q hq => by rw [List.mem_singleton.mp hq]; exact off_lb hAO p hp⟩
    case step2 =>
      intro a2 r2' m2 news2 hI2 v2' h2 tk2 hv2' F2
      obtain ⟨is2, y7, y8, y9, x7, x8, x9, exs2, his2, e7', e8', e9', rfl, hap2⟩ := hI2
      cases is2 with
      | nil => cases exs2
      | cons j is2 =>
      simp only [List.map_cons, List.cons.injEq] at exs2
      obtain ⟨rfl, rfl⟩ := exs2
      obtain ⟨t2, rfl⟩ := hv2'
      have hj2 : j < 2 := his2 j (.head _)
      have hmi : 0 + (j : Int) = 0 ∨ 0 + (j : Int) = 1 := by omega
      have hA7 : ∀ p ∈ ((L + 1 + 1 + 1 + 1 + 1 + 1 + 1 + 1, y8) :: (L + 1 + 1 + 1 + 1 + 1 + 1 + 1 + 1 + 1, y9) :: base), p.1 ≠ L + 1 + 1 + 1 + 1 + 1 + 1 + 1 := List.forall_mem_cons.mpr ⟨neN (by dsimp only; omega), List.forall_mem_cons.mpr ⟨neN (by dsimp only; omega), hB7⟩⟩
      ktu_objs
      k_steps
      unfold Keep
      (rename Fr _ _ _ _ => F9)
      (rename News _ _ _ _ => N9)
      (rename _ = Data.cell (some ((fun t => _) t2)) => d7')
      refine law_T w _ _ _ _ _ _ _ _ _ _ _ _ _ _ _ _ _ _ _ _ _ _ _ _ _ _ _ _ _ _ _ _ _ _ _ _ _ _ _ _ _ _ _ _ _ _ _ _ _ _ _ _ _ _ _ _ _ _ _ _ _ _ _ _ _ _ _ _ _ _ _ _ _ _ _ _ _ _ _ _ _ _ _ _ _ _ _ _ _ _ _ _ _ _ _ _ _ _ _ _ _ _ _ _ _ _ _ _ _ _ _ _ _ _ _ _ _ _ _ _ _ _ _ _ _ _ _ _ _ _ _ _ _ _ _ _ _ _ _ _ _ _ _ _ _ _ _ _ _ _ _ _ _ _ _ _ _ _ _ _ _ _ _ _ _ _ _ _ _ _ _ _ _ _ _ _ _ _ _ _ _ _  hgl hLF hp1 hq1 hr1 hv1 hp2 hq2 hr2 hv2 hp3 hq3 hr3 hv3 hp4 hq4 hr4 hv4 hp5 hq5 hr5 hv5 hmJ hmG he0 he1 he2 he3 he4 he5 he6 he7 hS hI hb5 hb4 hb3 hb2 hb1 hm1 hm2 hm3 hm5 hd1 hd2 hd3 hd5 hth hmi d6' d7' e8' e9' hB6 hB7 hB8 hB9 hI9 hN1 hN2 hN3 hN4 hN5 (neN (by omega)) (neN (by omega)) (neN (by omega)) (neN (by omega)) B F9 X T N9 ?_
      intro h5 tk5 m5 y8' y9' x8' x9' f8 f9 F5 N5
      exact ⟨h5, tk5, m5, _, rfl, F5, N5, fun p hp q hq => by rw [List.mem_singleton.mp hq]; exact off_in hAI p hp, trivial, is2, _, y8', y9', _, x8', x9', rfl, fun k hk => his2 k (.tail _ hk), d7', f8, f9, rfl, fun p hp q hq => by rw [List.mem_singleton.mp hq]; exact off_in hAI p hp⟩
end Mine
end
section
open PySem PySem.W PySem.Calls PyProof.Rows
set_option Elab.async false
set_option maxRecDepth 100000
set_option maxHeartbeats 8000000
set_option pp.deepTerms false
set_option pp.deepTerms.threshold 4
set_option pp.maxSteps 6000
namespace Mine

theorem law_Dl (w : World) {p : Program} {loose : List Str} {mean : ExcName → Option Value} {mg mb : Str → Option Value} {fa : Addr} {cd : Value} {h₀ : Heap} {L : Addr} {m : Str → Option Value} {s : Shared} {Q : Flow → Shared → Prop}
    (S I J G : Addr) (ns ni jJ jG : Nat) (b1 b2 b3 b4 b5 : Addr) (p1 q1 r1 v1 p2 q2 r2 v2 p3 q3 r3 v3 p4 q4 r4 v4 p5 q5 r5 v5 : Int) (n1 n2 n3 n4 n5 : Nat) (x1 x1' x1'' y1 x2 x2' x2'' y2 x3 x3' x3'' y3 x4 x4' x4'' y4 x5 x5' x5'' y5 : Tok) (e0 e1 e2 e3 e4 e5 e6 e7 : Addr) (g01 g02 g03 g04 g05 g11 g12 g13 g14 g15 g21 g22 g23 g24 g25 g31 g32 g33 g34 g35 g41 g42 g43 g44 g45 g51 g52 g53 g54 g55 g61 g62 g63 g64 g65 g71 g72 g73 g74 g75 : Int) (h01 h02 h03 h04 h05 h11 h12 h13 h14 h15 h21 h22 h23 h24 h25 h31 h32 h33 h34 h35 h41 h42 h43 h44 h45 h51 h52 h53 h54 h55 h61 h62 h63 h64 h65 h71 h72 h73 h74 h75 : Tok) (j0 j1 j2 j3 j4 j5 j6 j7 : Nat) (i1 i2 i3 i4 i5 : Int) (τ1 τ2 τ3 τ4 τ5 : Tok) (gl : List Value) (l : List (Addr × Obj)) (o1 o2 o3 o5 o6 o7 o8 o9 : Obj) (hgl : gl = [.ref e0, .ref e1, .ref e2, .ref e3, .ref e4, .ref e5, .ref e6, .ref e7]) (hLF : LF p1 q1 r1 v1 p2 q2 r2 v2 p3 q3 r3 v3 p4 q4 r4 v4 p5 q5 r5 v5 g01 g02 g03 g04 g05 g11 g12 g13 g14 g15 g21 g22 g23 g24 g25 g31 g32 g33 g34 g35 g41 g42 g43 g44 g45 g51 g52 g53 g54 g55 g61 g62 g63 g64 g65 g71 g72 g73 g74 g75 i1 i2 i3 i4 i5)  (hp1 : 0 ≤ p1 ∧ p1 ≤ 2) (hq1 : 0 ≤ q1 ∧ q1 ≤ 2) (hr1 : 0 ≤ r1 ∧ r1 ≤ 2) (hv1 : 0 ≤ v1 ∧ v1 ≤ 5) (hp2 : 0 ≤ p2 ∧ p2 ≤ 2) (hq2 : 0 ≤ q2 ∧ q2 ≤ 2) (hr2 : 0 ≤ r2 ∧ r2 ≤ 2) (hv2 : 0 ≤ v2 ∧ v2 ≤ 5) (hp3 : 0 ≤ p3 ∧ p3 ≤ 2) (hq3 : 0 ≤ q3 ∧ q3 ≤ 2) (hr3 : 0 ≤ r3 ∧ r3 ≤ 2) (hv3 : 0 ≤ v3 ∧ v3 ≤ 5) (hp4 : 0 ≤ p4 ∧ p4 ≤ 2) (hq4 : 0 ≤ q4 ∧ q4 ≤ 2) (hr4 : 0 ≤ r4 ∧ r4 ≤ 2) (hv4 : 0 ≤ v4 ∧ v4 ≤ 5) (hp5 : 0 ≤ p5 ∧ p5 ≤ 2) (hq5 : 0 ≤ q5 ∧ q5 ≤ 2) (hr5 : 0 ≤ r5 ∧ r5 ≤ 2) (hv5 : 0 ≤ v5 ∧ v5 ≤ 5) (hmJ : (J, W.listOf #[.int i1 τ1, .int i2 τ2, .int i3 τ3, .int i4 τ4, .int i5 τ5] jJ) ∈ l) (hmG : (G, W.listOf gl.toArray jG) ∈ l) (he0 : (e0, W.listOf #[.int g01 h01, .int g02 h02, .int g03 h03, .int g04 h04, .int g05 h05] j0) ∈ l) (he1 : (e1, W.listOf #[.int g11 h11, .int g12 h12, .int g13 h13, .int g14 h14, .int g15 h15] j1) ∈ l) (he2 : (e2, W.listOf #[.int g21 h21, .int g22 h22, .int g23 h23, .int g24 h24, .int g25 h25] j2) ∈ l) (he3 : (e3, W.listOf #[.int g31 h31, .int g32 h32, .int g33 h33, .int g34 h34, .int g35 h35] j3) ∈ l) (he4 : (e4, W.listOf #[.int g41 h41, .int g42 h42, .int g43 h43, .int g44 h44, .int g45 h45] j4) ∈ l) (he5 : (e5, W.listOf #[.int g51 h51, .int g52 h52, .int g53 h53, .int g54 h54, .int g55 h55] j5) ∈ l) (he6 : (e6, W.listOf #[.int g61 h61, .int g62 h62, .int g63 h63, .int g64 h64, .int g65 h65] j6) ∈ l) (he7 : (e7, W.listOf #[.int g71 h71, .int g72 h72, .int g73 h73, .int g74 h74, .int g75 h75] j7) ∈ l) (hS : (S, W.listOf #[.int v1 y1, .int v2 y2, .int v3 y3, .int v4 y4, .int v5 y5] ns) ∈ l) (hI : (I, W.listOf #[.ref b1, .ref b2, .ref b3, .ref b4, .ref b5] ni) ∈ l) (hb5 : (b5, W.listOf #[.int p5 x5, .int q5 x5', .int r5 x5''] n5) ∈ l) (hb4 : (b4, W.listOf #[.int p4 x4, .int q4 x4', .int r4 x4''] n4) ∈ l) (hb3 : (b3, W.listOf #[.int p3 x3, .int q3 x3', .int r3 x3''] n3) ∈ l) (hb2 : (b2, W.listOf #[.int p2 x2, .int q2 x2', .int r2 x2''] n2) ∈ l) (hb1 : (b1, W.listOf #[.int p1 x1, .int q1 x1', .int r1 x1''] n1) ∈ l) (hm1 : (L + 1, o1) ∈ l) (hm2 : (L + 1 + 1, o2) ∈ l) (hm3 : (L + 1 + 1 + 1, o3) ∈ l) (hm5 : (L + 1 + 1 + 1 + 1 + 1, o5) ∈ l) (hd1 : o1.data = .cell (some (.ref I))) (hd2 : o2.data = .cell (some (.ref S))) (hd3 : o3.data = .cell (some (.ref G))) (hd5 : o5.data = .cell (some (.ref J))) (hd6 : o6.data = .cell none) (hd7 : o7.data = .cell none) (hd8 : o8.data = .cell none) (hd9 : o9.data = .cell none) (hLJ : @LT.lt Nat _ (L + 1 + 1 + 1 + 1 + 1 + 1 + 1 + 1 + 1) J) (hLG : @LT.lt Nat _ (L + 1 + 1 + 1 + 1 + 1 + 1 + 1 + 1 + 1) G) (hLS : @LT.lt Nat _ (L + 1 + 1 + 1 + 1 + 1 + 1 + 1 + 1 + 1) S) (hLI : @LT.lt Nat _ (L + 1 + 1 + 1 + 1 + 1 + 1 + 1 + 1 + 1) I) (hLb1 : @LT.lt Nat _ (L + 1 + 1 + 1 + 1 + 1 + 1 + 1 + 1 + 1) b1) (hLb2 : @LT.lt Nat _ (L + 1 + 1 + 1 + 1 + 1 + 1 + 1 + 1 + 1) b2) (hLb3 : @LT.lt Nat _ (L + 1 + 1 + 1 + 1 + 1 + 1 + 1 + 1 + 1) b3) (hLb4 : @LT.lt Nat _ (L + 1 + 1 + 1 + 1 + 1 + 1 + 1 + 1 + 1) b4) (hLb5 : @LT.lt Nat _ (L + 1 + 1 + 1 + 1 + 1 + 1 + 1 + 1 + 1) b5) (hLe0 : @LT.lt Nat _ (L + 1 + 1 + 1 + 1 + 1 + 1 + 1 + 1 + 1) e0) (hLe1 : @LT.lt Nat _ (L + 1 + 1 + 1 + 1 + 1 + 1 + 1 + 1 + 1) e1) (hLe2 : @LT.lt Nat _ (L + 1 + 1 + 1 + 1 + 1 + 1 + 1 + 1 + 1) e2) (hLe3 : @LT.lt Nat _ (L + 1 + 1 + 1 + 1 + 1 + 1 + 1 + 1 + 1) e3) (hLe4 : @LT.lt Nat _ (L + 1 + 1 + 1 + 1 + 1 + 1 + 1 + 1 + 1) e4) (hLe5 : @LT.lt Nat _ (L + 1 + 1 + 1 + 1 + 1 + 1 + 1 + 1 + 1) e5) (hLe6 : @LT.lt Nat _ (L + 1 + 1 + 1 + 1 + 1 + 1 + 1 + 1 + 1) e6) (hLe7 : @LT.lt Nat _ (L + 1 + 1 + 1 + 1 + 1 + 1 + 1 + 1 + 1) e7) (hm6 : (L + 1 + 1 + 1 + 1 + 1 + 1, o6) ∈ l) (hm7 : (L + 1 + 1 + 1 + 1 + 1 + 1 + 1, o7) ∈ l) (hm8 : (L + 1 + 1 + 1 + 1 + 1 + 1 + 1 + 1, o8) ∈ l) (hm9 : (L + 1 + 1 + 1 + 1 + 1 + 1 + 1 + 1 + 1, o9) ∈ l)
    (B : Below callerA h₀ [] h₀) (F : Fr h₀ L s.heap m) (X : (hd.heap_1 w.params).In h₀) (T : Top p loose mean mg mb h₀) (N : News h₀ L s.heap l)
    (hQ : ∀ h' tk' m', Fr h₀ L h' m' → Q (.ret (.bool true)) { s with heap := h', toks := tk' }) :
    wpAny (model Challenge.rw_wo0027_01.row.prog w) (callerA.deeper (envOfC (Str.ofString "law") lawScope L fa cd)) (execs (lawBody.drop 7) (envOfC (Str.ofString "law") lawScope L fa cd)) Q (fun _ _ => False) s := by
  have hf : ∀ p ∈ l.filter (fun p => decide (p.1 ≠ L + 1 + 1 + 1 + 1 + 1 + 1 ∧ p.1 ≠ L + 1 + 1 + 1 + 1 + 1 + 1 + 1 ∧ p.1 ≠ L + 1 + 1 + 1 + 1 + 1 + 1 + 1 + 1 ∧ p.1 ≠ L + 1 + 1 + 1 + 1 + 1 + 1 + 1 + 1 + 1)), p ∈ l ∧ (p.1 ≠ L + 1 + 1 + 1 + 1 + 1 + 1 ∧ p.1 ≠ L + 1 + 1 + 1 + 1 + 1 + 1 + 1 ∧ p.1 ≠ L + 1 + 1 + 1 + 1 + 1 + 1 + 1 + 1 ∧ p.1 ≠ L + 1 + 1 + 1 + 1 + 1 + 1 + 1 + 1 + 1) := fun p hp => ⟨(List.mem_filter.mp hp).1, of_decide_eq_true (List.mem_filter.mp hp).2⟩
  have N2 : News h₀ L s.heap ((L + 1 + 1 + 1 + 1 + 1 + 1, o6) :: (L + 1 + 1 + 1 + 1 + 1 + 1 + 1, o7) :: (L + 1 + 1 + 1 + 1 + 1 + 1 + 1 + 1, o8) :: (L + 1 + 1 + 1 + 1 + 1 + 1 + 1 + 1 + 1, o9) :: l.filter (fun p => decide (p.1 ≠ L + 1 + 1 + 1 + 1 + 1 + 1 ∧ p.1 ≠ L + 1 + 1 + 1 + 1 + 1 + 1 + 1 ∧ p.1 ≠ L + 1 + 1 + 1 + 1 + 1 + 1 + 1 + 1 ∧ p.1 ≠ L + 1 + 1 + 1 + 1 + 1 + 1 + 1 + 1 + 1))) := news_put N hm6 (news_put N hm7 (news_put N hm8 (news_put N hm9 fun q hq => N q (hf q hq).1)))
  exact law_D w S I J G ns ni jJ jG b1 b2 b3 b4 b5 p1 q1 r1 v1 p2 q2 r2 v2 p3 q3 r3 v3 p4 q4 r4 v4 p5 q5 r5 v5 n1 n2 n3 n4 n5 x1 x1' x1'' y1 x2 x2' x2'' y2 x3 x3' x3'' y3 x4 x4' x4'' y4 x5 x5' x5'' y5 e0 e1 e2 e3 e4 e5 e6 e7 g01 g02 g03 g04 g05 g11 g12 g13 g14 g15 g21 g22 g23 g24 g25 g31 g32 g33 g34 g35 g41 g42 g43 g44 g45 g51 g52 g53 g54 g55 g61 g62 g63 g64 g65 g71 g72 g73 g74 g75 h01 h02 h03 h04 h05 h11 h12 h13 h14 h15 h21 h22 h23 h24 h25 h31 h32 h33 h34 h35 h41 h42 h43 h44 h45 h51 h52 h53 h54 h55 h61 h62 h63 h64 h65 h71 h72 h73 h74 h75 j0 j1 j2 j3 j4 j5 j6 j7 i1 i2 i3 i4 i5 τ1 τ2 τ3 τ4 τ5 gl (l.filter (fun p => decide (p.1 ≠ L + 1 + 1 + 1 + 1 + 1 + 1 ∧ p.1 ≠ L + 1 + 1 + 1 + 1 + 1 + 1 + 1 ∧ p.1 ≠ L + 1 + 1 + 1 + 1 + 1 + 1 + 1 + 1 ∧ p.1 ≠ L + 1 + 1 + 1 + 1 + 1 + 1 + 1 + 1 + 1))) o1 o2 o3 o5 o6 o7 o8 o9 hgl hLF hp1 hq1 hr1 hv1 hp2 hq2 hr2 hv2 hp3 hq3 hr3 hv3 hp4 hq4 hr4 hv4 hp5 hq5 hr5 hv5 (List.mem_filter.mpr ⟨hmJ, decide_eq_true (by dsimp only; exact ⟨neN (by omega), neN (by omega), neN (by omega), neN (by omega)⟩)⟩) (List.mem_filter.mpr ⟨hmG, decide_eq_true (by dsimp only; exact ⟨neN (by omega), neN (by omega), neN (by omega), neN (by omega)⟩)⟩) (List.mem_filter.mpr ⟨he0, decide_eq_true (by dsimp only; exact ⟨neN (by omega), neN (by omega), neN (by omega), neN (by omega)⟩)⟩) (List.mem_filter.mpr ⟨he1, decide_eq_true (by dsimp only; exact ⟨neN (by omega), neN (by omega), neN (by omega), neN (by omega)⟩)⟩) (List.mem_filter.mpr ⟨he2, decide_eq_true (by dsimp only; exact ⟨neN (by omega), neN (by omega), neN (by omega), neN (by omega)⟩)⟩) (List.mem_filter.mpr ⟨he3, decide_eq_true (by dsimp only; exact ⟨neN (by omega), neN (by omega), neN (by omega), neN (by omega)⟩)⟩) (List.mem_filter.mpr ⟨he4, decide_eq_true (by dsimp only; exact ⟨neN (by omega), neN (by omega), neN (by omega), neN (by omega)⟩)⟩) (List.mem_filter.mpr ⟨he5, decide_eq_true (by dsimp only; exact ⟨neN (by omega), neN (by omega), neN (by omega), neN (by omega)⟩)⟩) (List.mem_filter.mpr ⟨he6, decide_eq_true (by dsimp only; exact ⟨neN (by omega), neN (by omega), neN (by omega), neN (by omega)⟩)⟩) (List.mem_filter.mpr ⟨he7, decide_eq_true (by dsimp only; exact ⟨neN (by omega), neN (by omega), neN (by omega), neN (by omega)⟩)⟩) (List.mem_filter.mpr ⟨hS, decide_eq_true (by dsimp only; exact ⟨neN (by omega), neN (by omega), neN (by omega), neN (by omega)⟩)⟩) (List.mem_filter.mpr ⟨hI, decide_eq_true (by dsimp only; exact ⟨neN (by omega), neN (by omega), neN (by omega), neN (by omega)⟩)⟩) (List.mem_filter.mpr ⟨hb5, decide_eq_true (by dsimp only; exact ⟨neN (by omega), neN (by omega), neN (by omega), neN (by omega)⟩)⟩) (List.mem_filter.mpr ⟨hb4, decide_eq_true (by dsimp only; exact ⟨neN (by omega), neN (by omega), neN (by omega), neN (by omega)⟩)⟩) (List.mem_filter.mpr ⟨hb3, decide_eq_true (by dsimp only; exact ⟨neN (by omega), neN (by omega), neN (by omega), neN (by omega)⟩)⟩) (List.mem_filter.mpr ⟨hb2, decide_eq_true (by dsimp only; exact ⟨neN (by omega), neN (by omega), neN (by omega), neN (by omega)⟩)⟩) (List.mem_filter.mpr ⟨hb1, decide_eq_true (by dsimp only; exact ⟨neN (by omega), neN (by omega), neN (by omega), neN (by omega)⟩)⟩) (List.mem_filter.mpr ⟨hm1, decide_eq_true (by dsimp only; exact ⟨neN (by omega), neN (by omega), neN (by omega), neN (by omega)⟩)⟩) (List.mem_filter.mpr ⟨hm2, decide_eq_true (by dsimp only; exact ⟨neN (by omega), neN (by omega), neN (by omega), neN (by omega)⟩)⟩) (List.mem_filter.mpr ⟨hm3, decide_eq_true (by dsimp only; exact ⟨neN (by omega), neN (by omega), neN (by omega), neN (by omega)⟩)⟩) (List.mem_filter.mpr ⟨hm5, decide_eq_true (by dsimp only; exact ⟨neN (by omega), neN (by omega), neN (by omega), neN (by omega)⟩)⟩) hd1 hd2 hd3 hd5 hd6 hd7 hd8 hd9 (fun p hp => (hf p hp).2.1) (fun p hp => (hf p hp).2.2.1) (fun p hp => (hf p hp).2.2.2.1) (fun p hp => (hf p hp).2.2.2.2) hLI hLb1 hLb2 hLb3 hLb4 hLb5 B F X T N2 hQ
theorem sd2 (a b : Int) : a + b = a + (b + 0) := by rw [Int.add_zero]
theorem sd3 (a b c : Int) : a + b + c = a + (b + (c + 0)) := by rw [Int.add_zero, Int.add_assoc]
theorem sd4 (a b c d : Int) : a + b + c + d = a + (b + (c + (d + 0))) := by rw [Int.add_zero, Int.add_assoc, Int.add_assoc]
theorem sd5 (a b c d e : Int) : a + b + c + d + e = a + (b + (c + (d + (e + 0)))) := by rw [Int.add_zero, Int.add_assoc, Int.add_assoc, Int.add_assoc]
theorem skor_of {d1 d2 d3 d4 d5 m1 m2 m3 m4 m5 : Int} (a1 : (m1 = 0 ∨ m1 = d1 + 0) ∧ (0 ≤ m1 ∧ d1 + 0 ≤ m1)) (a2 : (m2 = 0 ∨ m2 = d1 + 0 ∨ m2 = d1 + (d2 + 0)) ∧ (0 ≤ m2 ∧ d1 + 0 ≤ m2 ∧ d1 + (d2 + 0) ≤ m2)) (a3 : (m3 = 0 ∨ m3 = d1 + 0 ∨ m3 = d1 + (d2 + 0) ∨ m3 = d1 + (d2 + (d3 + 0))) ∧ (0 ≤ m3 ∧ d1 + 0 ≤ m3 ∧ d1 + (d2 + 0) ≤ m3 ∧ d1 + (d2 + (d3 + 0)) ≤ m3)) (a4 : (m4 = 0 ∨ m4 = d1 + 0 ∨ m4 = d1 + (d2 + 0) ∨ m4 = d1 + (d2 + (d3 + 0)) ∨ m4 = d1 + (d2 + (d3 + (d4 + 0)))) ∧ (0 ≤ m4 ∧ d1 + 0 ≤ m4 ∧ d1 + (d2 + 0) ≤ m4 ∧ d1 + (d2 + (d3 + 0)) ≤ m4 ∧ d1 + (d2 + (d3 + (d4 + 0))) ≤ m4)) (a5 : (m5 = 0 ∨ m5 = d1 + 0 ∨ m5 = d1 + (d2 + 0) ∨ m5 = d1 + (d2 + (d3 + 0)) ∨ m5 = d1 + (d2 + (d3 + (d4 + 0))) ∨ m5 = d1 + (d2 + (d3 + (d4 + (d5 + 0))))) ∧ (0 ≤ m5 ∧ d1 + 0 ≤ m5 ∧ d1 + (d2 + 0) ≤ m5 ∧ d1 + (d2 + (d3 + 0)) ≤ m5 ∧ d1 + (d2 + (d3 + (d4 + 0))) ≤ m5 ∧ d1 + (d2 + (d3 + (d4 + (d5 + 0)))) ≤ m5)) : Skor d1 d2 d3 d4 d5 m1 m2 m3 m4 m5 := by
  exact ⟨MaxI.cast (Int.add_zero _).symm (maxi_step (l := [0]) ⟨rfl, Int.le_refl 0⟩ a1), MaxI.cast (sd2 _ _) (maxi_step (l := [0, d1 + 0]) a1 a2), MaxI.cast (sd3 _ _ _) (maxi_step (l := [0, d1 + 0, d1 + (d2 + 0)]) a2 a3), MaxI.cast (sd4 _ _ _ _) (maxi_step (l := [0, d1 + 0, d1 + (d2 + 0), d1 + (d2 + (d3 + 0))]) a3 a4), MaxI.cast (sd5 _ _ _ _ _) (maxi_step (l := [0, d1 + 0, d1 + (d2 + 0), d1 + (d2 + (d3 + 0)), d1 + (d2 + (d3 + (d4 + 0)))]) a4 a5)⟩
theorem bnet_of (mask : Int) (x y z : Bool) (c : Cel) (hx : bitOn mask 0 = x) (hy : bitOn mask 1 = y) (hz : bitOn mask 2 = z) : bnet mask c = (if x then c.p else 0) + (if y then c.q else 0) + (if z then c.r else 0) - c.v := by
  subst hx; subst hy; subst hz; rfl

theorem bn0_of (c : Cel) : bnet 0 c = -c.v := (bnet_of 0 false false false c (by decide) (by decide) (by decide)).trans (by simp only [if_true, Bool.false_eq_true, if_false]; try omega)
theorem bn1_of (c : Cel) : bnet 1 c = c.p - c.v := (bnet_of 1 true false false c (by decide) (by decide) (by decide)).trans (by simp only [if_true, Bool.false_eq_true, if_false]; try omega)
theorem bn2_of (c : Cel) : bnet 2 c = c.q - c.v := (bnet_of 2 false true false c (by decide) (by decide) (by decide)).trans (by simp only [if_true, Bool.false_eq_true, if_false]; try omega)
theorem bn3_of (c : Cel) : bnet 3 c = c.p + c.q - c.v := (bnet_of 3 true true false c (by decide) (by decide) (by decide)).trans (by simp only [if_true, Bool.false_eq_true, if_false]; try omega)
theorem bn4_of (c : Cel) : bnet 4 c = c.r - c.v := (bnet_of 4 false false true c (by decide) (by decide) (by decide)).trans (by simp only [if_true, Bool.false_eq_true, if_false]; try omega)
theorem bn5_of (c : Cel) : bnet 5 c = c.p + c.r - c.v := (bnet_of 5 true false true c (by decide) (by decide) (by decide)).trans (by simp only [if_true, Bool.false_eq_true, if_false]; try omega)
theorem bn6_of (c : Cel) : bnet 6 c = c.q + c.r - c.v := (bnet_of 6 false true true c (by decide) (by decide) (by decide)).trans (by simp only [if_true, Bool.false_eq_true, if_false]; try omega)
theorem bn7_of (c : Cel) : bnet 7 c = c.p + c.q + c.r - c.v := (bnet_of 7 true true true c (by decide) (by decide) (by decide)).trans (by simp only [if_true, Bool.false_eq_true, if_false]; try omega)
theorem lf_of (S I : Addr) (ns ni : Nat) (b1 b2 b3 b4 b5 : Addr) (p1 q1 r1 v1 p2 q2 r2 v2 p3 q3 r3 v3 p4 q4 r4 v4 p5 q5 r5 v5 : Int) (n1 n2 n3 n4 n5 : Nat) (x1 x1' x1'' y1 x2 x2' x2'' y2 x3 x3' x3'' y3 x4 x4' x4'' y4 x5 x5' x5'' y5 : Tok) (e0 e1 e2 e3 e4 e5 e6 e7 : Addr) (g01 g02 g03 g04 g05 g11 g12 g13 g14 g15 g21 g22 g23 g24 g25 g31 g32 g33 g34 g35 g41 g42 g43 g44 g45 g51 g52 g53 g54 g55 g61 g62 g63 g64 g65 g71 g72 g73 g74 g75 : Int) (h01 h02 h03 h04 h05 h11 h12 h13 h14 h15 h21 h22 h23 h24 h25 h31 h32 h33 h34 h35 h41 h42 h43 h44 h45 h51 h52 h53 h54 h55 h61 h62 h63 h64 h65 h71 h72 h73 h74 h75 : Tok) (j0 j1 j2 j3 j4 j5 j6 j7 : Nat) (i1 i2 i3 i4 i5 : Int) (hG0 : Lind (bnet 0 ⟨b1, n1, p1, q1, r1, v1, x1, x1', x1'', y1⟩) (bnet 0 ⟨b2, n2, p2, q2, r2, v2, x2, x2', x2'', y2⟩) (bnet 0 ⟨b3, n3, p3, q3, r3, v3, x3, x3', x3'', y3⟩) (bnet 0 ⟨b4, n4, p4, q4, r4, v4, x4, x4', x4'', y4⟩) (bnet 0 ⟨b5, n5, p5, q5, r5, v5, x5, x5', x5'', y5⟩) g01 g02 g03 g04 g05) (hG1 : Lind (bnet 1 ⟨b1, n1, p1, q1, r1, v1, x1, x1', x1'', y1⟩) (bnet 1 ⟨b2, n2, p2, q2, r2, v2, x2, x2', x2'', y2⟩) (bnet 1 ⟨b3, n3, p3, q3, r3, v3, x3, x3', x3'', y3⟩) (bnet 1 ⟨b4, n4, p4, q4, r4, v4, x4, x4', x4'', y4⟩) (bnet 1 ⟨b5, n5, p5, q5, r5, v5, x5, x5', x5'', y5⟩) g11 g12 g13 g14 g15) (hG2 : Lind (bnet 2 ⟨b1, n1, p1, q1, r1, v1, x1, x1', x1'', y1⟩) (bnet 2 ⟨b2, n2, p2, q2, r2, v2, x2, x2', x2'', y2⟩) (bnet 2 ⟨b3, n3, p3, q3, r3, v3, x3, x3', x3'', y3⟩) (bnet 2 ⟨b4, n4, p4, q4, r4, v4, x4, x4', x4'', y4⟩) (bnet 2 ⟨b5, n5, p5, q5, r5, v5, x5, x5', x5'', y5⟩) g21 g22 g23 g24 g25) (hG3 : Lind (bnet 3 ⟨b1, n1, p1, q1, r1, v1, x1, x1', x1'', y1⟩) (bnet 3 ⟨b2, n2, p2, q2, r2, v2, x2, x2', x2'', y2⟩) (bnet 3 ⟨b3, n3, p3, q3, r3, v3, x3, x3', x3'', y3⟩) (bnet 3 ⟨b4, n4, p4, q4, r4, v4, x4, x4', x4'', y4⟩) (bnet 3 ⟨b5, n5, p5, q5, r5, v5, x5, x5', x5'', y5⟩) g31 g32 g33 g34 g35) (hG4 : Lind (bnet 4 ⟨b1, n1, p1, q1, r1, v1, x1, x1', x1'', y1⟩) (bnet 4 ⟨b2, n2, p2, q2, r2, v2, x2, x2', x2'', y2⟩) (bnet 4 ⟨b3, n3, p3, q3, r3, v3, x3, x3', x3'', y3⟩) (bnet 4 ⟨b4, n4, p4, q4, r4, v4, x4, x4', x4'', y4⟩) (bnet 4 ⟨b5, n5, p5, q5, r5, v5, x5, x5', x5'', y5⟩) g41 g42 g43 g44 g45) (hG5 : Lind (bnet 5 ⟨b1, n1, p1, q1, r1, v1, x1, x1', x1'', y1⟩) (bnet 5 ⟨b2, n2, p2, q2, r2, v2, x2, x2', x2'', y2⟩) (bnet 5 ⟨b3, n3, p3, q3, r3, v3, x3, x3', x3'', y3⟩) (bnet 5 ⟨b4, n4, p4, q4, r4, v4, x4, x4', x4'', y4⟩) (bnet 5 ⟨b5, n5, p5, q5, r5, v5, x5, x5', x5'', y5⟩) g51 g52 g53 g54 g55) (hG6 : Lind (bnet 6 ⟨b1, n1, p1, q1, r1, v1, x1, x1', x1'', y1⟩) (bnet 6 ⟨b2, n2, p2, q2, r2, v2, x2, x2', x2'', y2⟩) (bnet 6 ⟨b3, n3, p3, q3, r3, v3, x3, x3', x3'', y3⟩) (bnet 6 ⟨b4, n4, p4, q4, r4, v4, x4, x4', x4'', y4⟩) (bnet 6 ⟨b5, n5, p5, q5, r5, v5, x5, x5', x5'', y5⟩) g61 g62 g63 g64 g65) (hG7 : Lind (bnet 7 ⟨b1, n1, p1, q1, r1, v1, x1, x1', x1'', y1⟩) (bnet 7 ⟨b2, n2, p2, q2, r2, v2, x2, x2', x2'', y2⟩) (bnet 7 ⟨b3, n3, p3, q3, r3, v3, x3, x3', x3'', y3⟩) (bnet 7 ⟨b4, n4, p4, q4, r4, v4, x4, x4', x4'', y4⟩) (bnet 7 ⟨b5, n5, p5, q5, r5, v5, x5, x5', x5'', y5⟩) g71 g72 g73 g74 g75) (hJ : Skor (v1 - (p1 + q1 + r1)) (v2 - (p2 + q2 + r2)) (v3 - (p3 + q3 + r3)) (v4 - (p4 + q4 + r4)) (v5 - (p5 + q5 + r5)) i1 i2 i3 i4 i5) : LF p1 q1 r1 v1 p2 q2 r2 v2 p3 q3 r3 v3 p4 q4 r4 v4 p5 q5 r5 v5 g01 g02 g03 g04 g05 g11 g12 g13 g14 g15 g21 g22 g23 g24 g25 g31 g32 g33 g34 g35 g41 g42 g43 g44 g45 g51 g52 g53 g54 g55 g61 g62 g63 g64 g65 g71 g72 g73 g74 g75 i1 i2 i3 i4 i5 := by
  refine ⟨lind_congr hG0 ?_ ?_ ?_ ?_ ?_, lind_congr hG1 ?_ ?_ ?_ ?_ ?_, lind_congr hG2 ?_ ?_ ?_ ?_ ?_, lind_congr hG3 ?_ ?_ ?_ ?_ ?_, lind_congr hG4 ?_ ?_ ?_ ?_ ?_, lind_congr hG5 ?_ ?_ ?_ ?_ ?_, lind_congr hG6 ?_ ?_ ?_ ?_ ?_, lind_congr hG7 ?_ ?_ ?_ ?_ ?_, hJ⟩
  iterate 5 exact (bn0_of ⟨_, _, _, _, _, _, _, _, _, _⟩).symm
  iterate 5 exact (bn1_of ⟨_, _, _, _, _, _, _, _, _, _⟩).symm
  iterate 5 exact (bn2_of ⟨_, _, _, _, _, _, _, _, _, _⟩).symm
  iterate 5 exact (bn3_of ⟨_, _, _, _, _, _, _, _, _, _⟩).symm
  iterate 5 exact (bn4_of ⟨_, _, _, _, _, _, _, _, _, _⟩).symm
  iterate 5 exact (bn5_of ⟨_, _, _, _, _, _, _, _, _, _⟩).symm
  iterate 5 exact (bn6_of ⟨_, _, _, _, _, _, _, _, _, _⟩).symm
  iterate 5 exact (bn7_of ⟨_, _, _, _, _, _, _, _, _, _⟩).symm
end Mine
end
section
open PySem PySem.W PySem.Calls PyProof.Rows
set_option Elab.async false
set_option maxRecDepth 100000
set_option maxHeartbeats 8000000
set_option pp.deepTerms false
set_option pp.deepTerms.threshold 4
set_option pp.maxSteps 6000
namespace Mine

theorem law_Cend (w : World) {p : Program} {loose : List Str} {mean : ExcName → Option Value} {mg mb : Str → Option Value} {fa : Addr} {cd : Value} {h₀ : Heap} {L : Addr} {m : Str → Option Value} {s : Shared} {Q : Flow → Shared → Prop}
    (S I : Addr) (ns ni : Nat) (b1 b2 b3 b4 b5 : Addr) (p1 q1 r1 v1 p2 q2 r2 v2 p3 q3 r3 v3 p4 q4 r4 v4 p5 q5 r5 v5 : Int) (n1 n2 n3 n4 n5 : Nat) (x1 x1' x1'' y1 x2 x2' x2'' y2 x3 x3' x3'' y3 x4 x4' x4'' y4 x5 x5' x5'' y5 : Tok) (G : Addr) (jG : Nat) (e0 e1 e2 e3 e4 e5 e6 e7 : Addr) (g01 g02 g03 g04 g05 g11 g12 g13 g14 g15 g21 g22 g23 g24 g25 g31 g32 g33 g34 g35 g41 g42 g43 g44 g45 g51 g52 g53 g54 g55 g61 g62 g63 g64 g65 g71 g72 g73 g74 g75 : Int) (h01 h02 h03 h04 h05 h11 h12 h13 h14 h15 h21 h22 h23 h24 h25 h31 h32 h33 h34 h35 h41 h42 h43 h44 h45 h51 h52 h53 h54 h55 h61 h62 h63 h64 h65 h71 h72 h73 h74 h75 : Tok) (j0 j1 j2 j3 j4 j5 j6 j7 : Nat) (J U : Addr) (jJ : Nat) (oU : Obj) (i1 i2 i3 i4 i5 : Int) (τ1 τ2 τ3 τ4 τ5 : Tok) (o1 o2 o3 o4 o5 o6 o7 o8 o9 : Obj)  (hp1 : 0 ≤ p1 ∧ p1 ≤ 2) (hq1 : 0 ≤ q1 ∧ q1 ≤ 2) (hr1 : 0 ≤ r1 ∧ r1 ≤ 2) (hv1 : 0 ≤ v1 ∧ v1 ≤ 5) (hp2 : 0 ≤ p2 ∧ p2 ≤ 2) (hq2 : 0 ≤ q2 ∧ q2 ≤ 2) (hr2 : 0 ≤ r2 ∧ r2 ≤ 2) (hv2 : 0 ≤ v2 ∧ v2 ≤ 5) (hp3 : 0 ≤ p3 ∧ p3 ≤ 2) (hq3 : 0 ≤ q3 ∧ q3 ≤ 2) (hr3 : 0 ≤ r3 ∧ r3 ≤ 2) (hv3 : 0 ≤ v3 ∧ v3 ≤ 5) (hp4 : 0 ≤ p4 ∧ p4 ≤ 2) (hq4 : 0 ≤ q4 ∧ q4 ≤ 2) (hr4 : 0 ≤ r4 ∧ r4 ≤ 2) (hv4 : 0 ≤ v4 ∧ v4 ≤ 5) (hp5 : 0 ≤ p5 ∧ p5 ≤ 2) (hq5 : 0 ≤ q5 ∧ q5 ≤ 2) (hr5 : 0 ≤ r5 ∧ r5 ≤ 2) (hv5 : 0 ≤ v5 ∧ v5 ≤ 5) (hG0 : Lind (bnet 0 ⟨b1, n1, p1, q1, r1, v1, x1, x1', x1'', y1⟩) (bnet 0 ⟨b2, n2, p2, q2, r2, v2, x2, x2', x2'', y2⟩) (bnet 0 ⟨b3, n3, p3, q3, r3, v3, x3, x3', x3'', y3⟩) (bnet 0 ⟨b4, n4, p4, q4, r4, v4, x4, x4', x4'', y4⟩) (bnet 0 ⟨b5, n5, p5, q5, r5, v5, x5, x5', x5'', y5⟩) g01 g02 g03 g04 g05) (hG1 : Lind (bnet 1 ⟨b1, n1, p1, q1, r1, v1, x1, x1', x1'', y1⟩) (bnet 1 ⟨b2, n2, p2, q2, r2, v2, x2, x2', x2'', y2⟩) (bnet 1 ⟨b3, n3, p3, q3, r3, v3, x3, x3', x3'', y3⟩) (bnet 1 ⟨b4, n4, p4, q4, r4, v4, x4, x4', x4'', y4⟩) (bnet 1 ⟨b5, n5, p5, q5, r5, v5, x5, x5', x5'', y5⟩) g11 g12 g13 g14 g15) (hG2 : Lind (bnet 2 ⟨b1, n1, p1, q1, r1, v1, x1, x1', x1'', y1⟩) (bnet 2 ⟨b2, n2, p2, q2, r2, v2, x2, x2', x2'', y2⟩) (bnet 2 ⟨b3, n3, p3, q3, r3, v3, x3, x3', x3'', y3⟩) (bnet 2 ⟨b4, n4, p4, q4, r4, v4, x4, x4', x4'', y4⟩) (bnet 2 ⟨b5, n5, p5, q5, r5, v5, x5, x5', x5'', y5⟩) g21 g22 g23 g24 g25) (hG3 : Lind (bnet 3 ⟨b1, n1, p1, q1, r1, v1, x1, x1', x1'', y1⟩) (bnet 3 ⟨b2, n2, p2, q2, r2, v2, x2, x2', x2'', y2⟩) (bnet 3 ⟨b3, n3, p3, q3, r3, v3, x3, x3', x3'', y3⟩) (bnet 3 ⟨b4, n4, p4, q4, r4, v4, x4, x4', x4'', y4⟩) (bnet 3 ⟨b5, n5, p5, q5, r5, v5, x5, x5', x5'', y5⟩) g31 g32 g33 g34 g35) (hG4 : Lind (bnet 4 ⟨b1, n1, p1, q1, r1, v1, x1, x1', x1'', y1⟩) (bnet 4 ⟨b2, n2, p2, q2, r2, v2, x2, x2', x2'', y2⟩) (bnet 4 ⟨b3, n3, p3, q3, r3, v3, x3, x3', x3'', y3⟩) (bnet 4 ⟨b4, n4, p4, q4, r4, v4, x4, x4', x4'', y4⟩) (bnet 4 ⟨b5, n5, p5, q5, r5, v5, x5, x5', x5'', y5⟩) g41 g42 g43 g44 g45) (hG5 : Lind (bnet 5 ⟨b1, n1, p1, q1, r1, v1, x1, x1', x1'', y1⟩) (bnet 5 ⟨b2, n2, p2, q2, r2, v2, x2, x2', x2'', y2⟩) (bnet 5 ⟨b3, n3, p3, q3, r3, v3, x3, x3', x3'', y3⟩) (bnet 5 ⟨b4, n4, p4, q4, r4, v4, x4, x4', x4'', y4⟩) (bnet 5 ⟨b5, n5, p5, q5, r5, v5, x5, x5', x5'', y5⟩) g51 g52 g53 g54 g55) (hG6 : Lind (bnet 6 ⟨b1, n1, p1, q1, r1, v1, x1, x1', x1'', y1⟩) (bnet 6 ⟨b2, n2, p2, q2, r2, v2, x2, x2', x2'', y2⟩) (bnet 6 ⟨b3, n3, p3, q3, r3, v3, x3, x3', x3'', y3⟩) (bnet 6 ⟨b4, n4, p4, q4, r4, v4, x4, x4', x4'', y4⟩) (bnet 6 ⟨b5, n5, p5, q5, r5, v5, x5, x5', x5'', y5⟩) g61 g62 g63 g64 g65) (hG7 : Lind (bnet 7 ⟨b1, n1, p1, q1, r1, v1, x1, x1', x1'', y1⟩) (bnet 7 ⟨b2, n2, p2, q2, r2, v2, x2, x2', x2'', y2⟩) (bnet 7 ⟨b3, n3, p3, q3, r3, v3, x3, x3', x3'', y3⟩) (bnet 7 ⟨b4, n4, p4, q4, r4, v4, x4, x4', x4'', y4⟩) (bnet 7 ⟨b5, n5, p5, q5, r5, v5, x5, x5', x5'', y5⟩) g71 g72 g73 g74 g75) (hd1 : o1.data = .cell (some (.ref I))) (hd2 : o2.data = .cell (some (.ref S))) (hd3 : o3.data = .cell (some (.ref G))) (hd5 : o5.data = .cell (some (.ref J))) (hd6 : o6.data = .cell none) (hd7 : o7.data = .cell none) (hd8 : o8.data = .cell none) (hd9 : o9.data = .cell none) (hLS : @LT.lt Nat _ (L + 1 + 1 + 1 + 1 + 1 + 1 + 1 + 1 + 1) S) (hLI : @LT.lt Nat _ (L + 1 + 1 + 1 + 1 + 1 + 1 + 1 + 1 + 1) I) (hLb1 : @LT.lt Nat _ (L + 1 + 1 + 1 + 1 + 1 + 1 + 1 + 1 + 1) b1) (hLb2 : @LT.lt Nat _ (L + 1 + 1 + 1 + 1 + 1 + 1 + 1 + 1 + 1) b2) (hLb3 : @LT.lt Nat _ (L + 1 + 1 + 1 + 1 + 1 + 1 + 1 + 1 + 1) b3) (hLb4 : @LT.lt Nat _ (L + 1 + 1 + 1 + 1 + 1 + 1 + 1 + 1 + 1) b4) (hLb5 : @LT.lt Nat _ (L + 1 + 1 + 1 + 1 + 1 + 1 + 1 + 1 + 1) b5) (hLG : @LT.lt Nat _ (L + 1 + 1 + 1 + 1 + 1 + 1 + 1 + 1 + 1) G) (hLe0 : @LT.lt Nat _ (L + 1 + 1 + 1 + 1 + 1 + 1 + 1 + 1 + 1) e0) (hLe1 : @LT.lt Nat _ (L + 1 + 1 + 1 + 1 + 1 + 1 + 1 + 1 + 1) e1) (hLe2 : @LT.lt Nat _ (L + 1 + 1 + 1 + 1 + 1 + 1 + 1 + 1 + 1) e2) (hLe3 : @LT.lt Nat _ (L + 1 + 1 + 1 + 1 + 1 + 1 + 1 + 1 + 1) e3) (hLe4 : @LT.lt Nat _ (L + 1 + 1 + 1 + 1 + 1 + 1 + 1 + 1 + 1) e4) (hLe5 : @LT.lt Nat _ (L + 1 + 1 + 1 + 1 + 1 + 1 + 1 + 1 + 1) e5) (hLe6 : @LT.lt Nat _ (L + 1 + 1 + 1 + 1 + 1 + 1 + 1 + 1 + 1) e6) (hLe7 : @LT.lt Nat _ (L + 1 + 1 + 1 + 1 + 1 + 1 + 1 + 1 + 1) e7) (hLJ : @LT.lt Nat _ (L + 1 + 1 + 1 + 1 + 1 + 1 + 1 + 1 + 1) J) (a1 : Keep ((i1 = 0 ∨ i1 = v1 - (p1 + (q1 + (r1 + 0))) + 0) ∧ (0 ≤ i1 ∧ v1 - (p1 + (q1 + (r1 + 0))) + 0 ≤ i1))) (a2 : Keep ((i2 = 0 ∨ i2 = v1 - (p1 + (q1 + (r1 + 0))) + 0 ∨ i2 = v1 - (p1 + (q1 + (r1 + 0))) + (v2 - (p2 + (q2 + (r2 + 0))) + 0)) ∧ (0 ≤ i2 ∧ v1 - (p1 + (q1 + (r1 + 0))) + 0 ≤ i2 ∧ v1 - (p1 + (q1 + (r1 + 0))) + (v2 - (p2 + (q2 + (r2 + 0))) + 0) ≤ i2))) (a3 : Keep ((i3 = 0 ∨ i3 = v1 - (p1 + (q1 + (r1 + 0))) + 0 ∨ i3 = v1 - (p1 + (q1 + (r1 + 0))) + (v2 - (p2 + (q2 + (r2 + 0))) + 0) ∨ i3 = v1 - (p1 + (q1 + (r1 + 0))) + (v2 - (p2 + (q2 + (r2 + 0))) + (v3 - (p3 + (q3 + (r3 + 0))) + 0))) ∧ (0 ≤ i3 ∧ v1 - (p1 + (q1 + (r1 + 0))) + 0 ≤ i3 ∧ v1 - (p1 + (q1 + (r1 + 0))) + (v2 - (p2 + (q2 + (r2 + 0))) + 0) ≤ i3 ∧ v1 - (p1 + (q1 + (r1 + 0))) + (v2 - (p2 + (q2 + (r2 + 0))) + (v3 - (p3 + (q3 + (r3 + 0))) + 0)) ≤ i3))) (a4 : Keep ((i4 = 0 ∨ i4 = v1 - (p1 + (q1 + (r1 + 0))) + 0 ∨ i4 = v1 - (p1 + (q1 + (r1 + 0))) + (v2 - (p2 + (q2 + (r2 + 0))) + 0) ∨ i4 = v1 - (p1 + (q1 + (r1 + 0))) + (v2 - (p2 + (q2 + (r2 + 0))) + (v3 - (p3 + (q3 + (r3 + 0))) + 0)) ∨ i4 = v1 - (p1 + (q1 + (r1 + 0))) + (v2 - (p2 + (q2 + (r2 + 0))) + (v3 - (p3 + (q3 + (r3 + 0))) + (v4 - (p4 + (q4 + (r4 + 0))) + 0)))) ∧ (0 ≤ i4 ∧ v1 - (p1 + (q1 + (r1 + 0))) + 0 ≤ i4 ∧ v1 - (p1 + (q1 + (r1 + 0))) + (v2 - (p2 + (q2 + (r2 + 0))) + 0) ≤ i4 ∧ v1 - (p1 + (q1 + (r1 + 0))) + (v2 - (p2 + (q2 + (r2 + 0))) + (v3 - (p3 + (q3 + (r3 + 0))) + 0)) ≤ i4 ∧ v1 - (p1 + (q1 + (r1 + 0))) + (v2 - (p2 + (q2 + (r2 + 0))) + (v3 - (p3 + (q3 + (r3 + 0))) + (v4 - (p4 + (q4 + (r4 + 0))) + 0))) ≤ i4))) (a5 : Keep ((i5 = 0 ∨ i5 = v1 - (p1 + (q1 + (r1 + 0))) + 0 ∨ i5 = v1 - (p1 + (q1 + (r1 + 0))) + (v2 - (p2 + (q2 + (r2 + 0))) + 0) ∨ i5 = v1 - (p1 + (q1 + (r1 + 0))) + (v2 - (p2 + (q2 + (r2 + 0))) + (v3 - (p3 + (q3 + (r3 + 0))) + 0)) ∨ i5 = v1 - (p1 + (q1 + (r1 + 0))) + (v2 - (p2 + (q2 + (r2 + 0))) + (v3 - (p3 + (q3 + (r3 + 0))) + (v4 - (p4 + (q4 + (r4 + 0))) + 0))) ∨ i5 = v1 - (p1 + (q1 + (r1 + 0))) + (v2 - (p2 + (q2 + (r2 + 0))) + (v3 - (p3 + (q3 + (r3 + 0))) + (v4 - (p4 + (q4 + (r4 + 0))) + (v5 - (p5 + (q5 + (r5 + 0))) + 0))))) ∧ (0 ≤ i5 ∧ v1 - (p1 + (q1 + (r1 + 0))) + 0 ≤ i5 ∧ v1 - (p1 + (q1 + (r1 + 0))) + (v2 - (p2 + (q2 + (r2 + 0))) + 0) ≤ i5 ∧ v1 - (p1 + (q1 + (r1 + 0))) + (v2 - (p2 + (q2 + (r2 + 0))) + (v3 - (p3 + (q3 + (r3 + 0))) + 0)) ≤ i5 ∧ v1 - (p1 + (q1 + (r1 + 0))) + (v2 - (p2 + (q2 + (r2 + 0))) + (v3 - (p3 + (q3 + (r3 + 0))) + (v4 - (p4 + (q4 + (r4 + 0))) + 0))) ≤ i5 ∧ v1 - (p1 + (q1 + (r1 + 0))) + (v2 - (p2 + (q2 + (r2 + 0))) + (v3 - (p3 + (q3 + (r3 + 0))) + (v4 - (p4 + (q4 + (r4 + 0))) + (v5 - (p5 + (q5 + (r5 + 0))) + 0)))) ≤ i5)))
    (B : Below callerA h₀ [] h₀) (F : Fr h₀ L s.heap m) (X : (hd.heap_1 w.params).In h₀) (T : Top p loose mean mg mb h₀) (N : News h₀ L s.heap [(J, W.listOf #[.int i1 τ1, .int i2 τ2, .int i3 τ3, .int i4 τ4, .int i5 τ5] jJ), (U, oU), (G, W.listOf #[.ref e0, .ref e1, .ref e2, .ref e3, .ref e4, .ref e5, .ref e6, .ref e7] jG), (e7, W.listOf #[.int g71 h71, .int g72 h72, .int g73 h73, .int g74 h74, .int g75 h75] j7), (e6, W.listOf #[.int g61 h61, .int g62 h62, .int g63 h63, .int g64 h64, .int g65 h65] j6), (e5, W.listOf #[.int g51 h51, .int g52 h52, .int g53 h53, .int g54 h54, .int g55 h55] j5), (e4, W.listOf #[.int g41 h41, .int g42 h42, .int g43 h43, .int g44 h44, .int g45 h45] j4), (e3, W.listOf #[.int g31 h31, .int g32 h32, .int g33 h33, .int g34 h34, .int g35 h35] j3), (e2, W.listOf #[.int g21 h21, .int g22 h22, .int g23 h23, .int g24 h24, .int g25 h25] j2), (e1, W.listOf #[.int g11 h11, .int g12 h12, .int g13 h13, .int g14 h14, .int g15 h15] j1), (e0, W.listOf #[.int g01 h01, .int g02 h02, .int g03 h03, .int g04 h04, .int g05 h05] j0), (S, W.listOf #[.int v1 y1, .int v2 y2, .int v3 y3, .int v4 y4, .int v5 y5] ns), (I, W.listOf #[.ref b1, .ref b2, .ref b3, .ref b4, .ref b5] ni), (b5, W.listOf #[.int p5 x5, .int q5 x5', .int r5 x5''] n5), (b4, W.listOf #[.int p4 x4, .int q4 x4', .int r4 x4''] n4), (b3, W.listOf #[.int p3 x3, .int q3 x3', .int r3 x3''] n3), (b2, W.listOf #[.int p2 x2, .int q2 x2', .int r2 x2''] n2), (b1, W.listOf #[.int p1 x1, .int q1 x1', .int r1 x1''] n1), (L + 1 + 1 + 1 + 1 + 1 + 1 + 1 + 1 + 1, o9), (L + 1 + 1 + 1 + 1 + 1 + 1 + 1 + 1, o8), (L + 1 + 1 + 1 + 1 + 1 + 1 + 1, o7), (L + 1 + 1 + 1 + 1 + 1 + 1, o6), (L + 1 + 1 + 1 + 1 + 1, o5), (L + 1 + 1 + 1 + 1, o4), (L + 1 + 1 + 1, o3), (L + 1 + 1, o2), (L + 1, o1)])
    (hQ : ∀ h' tk' m', Fr h₀ L h' m' → Q (.ret (.bool true)) { s with heap := h', toks := tk' }) :
    wpAny (model Challenge.rw_wo0027_01.row.prog w) (callerA.deeper (envOfC (Str.ofString "law") lawScope L fa cd)) (execs (lawBody.drop 7) (envOfC (Str.ofString "law") lawScope L fa cd)) Q (fun _ _ => False) s := by
  have sk := skor_of a1 a2 a3 a4 a5
  have sk2 := skor_congr (b1 := v1 - (p1 + q1 + r1)) (b2 := v2 - (p2 + q2 + r2)) (b3 := v3 - (p3 + q3 + r3)) (b4 := v4 - (p4 + q4 + r4)) (b5 := v5 - (p5 + q5 + r5)) sk (by clear sk; omega) (by clear sk; omega) (by clear sk; omega) (by clear sk; omega) (by clear sk; omega)
  have hLF := lf_of S I ns ni b1 b2 b3 b4 b5 p1 q1 r1 v1 p2 q2 r2 v2 p3 q3 r3 v3 p4 q4 r4 v4 p5 q5 r5 v5 n1 n2 n3 n4 n5 x1 x1' x1'' y1 x2 x2' x2'' y2 x3 x3' x3'' y3 x4 x4' x4'' y4 x5 x5' x5'' y5 e0 e1 e2 e3 e4 e5 e6 e7 g01 g02 g03 g04 g05 g11 g12 g13 g14 g15 g21 g22 g23 g24 g25 g31 g32 g33 g34 g35 g41 g42 g43 g44 g45 g51 g52 g53 g54 g55 g61 g62 g63 g64 g65 g71 g72 g73 g74 g75 h01 h02 h03 h04 h05 h11 h12 h13 h14 h15 h21 h22 h23 h24 h25 h31 h32 h33 h34 h35 h41 h42 h43 h44 h45 h51 h52 h53 h54 h55 h61 h62 h63 h64 h65 h71 h72 h73 h74 h75 j0 j1 j2 j3 j4 j5 j6 j7 i1 i2 i3 i4 i5 hG0 hG1 hG2 hG3 hG4 hG5 hG6 hG7 sk2
  refine law_Dl w S I J G ns ni jJ jG b1 b2 b3 b4 b5 p1 q1 r1 v1 p2 q2 r2 v2 p3 q3 r3 v3 p4 q4 r4 v4 p5 q5 r5 v5 n1 n2 n3 n4 n5 x1 x1' x1'' y1 x2 x2' x2'' y2 x3 x3' x3'' y3 x4 x4' x4'' y4 x5 x5' x5'' y5 e0 e1 e2 e3 e4 e5 e6 e7 g01 g02 g03 g04 g05 g11 g12 g13 g14 g15 g21 g22 g23 g24 g25 g31 g32 g33 g34 g35 g41 g42 g43 g44 g45 g51 g52 g53 g54 g55 g61 g62 g63 g64 g65 g71 g72 g73 g74 g75 h01 h02 h03 h04 h05 h11 h12 h13 h14 h15 h21 h22 h23 h24 h25 h31 h32 h33 h34 h35 h41 h42 h43 h44 h45 h51 h52 h53 h54 h55 h61 h62 h63 h64 h65 h71 h72 h73 h74 h75 j0 j1 j2 j3 j4 j5 j6 j7 i1 i2 i3 i4 i5 τ1 τ2 τ3 τ4 τ5 [.ref e0, .ref e1, .ref e2, .ref e3, .ref e4, .ref e5, .ref e6, .ref e7] _ o1 o2 o3 o5 o6 o7 o8 o9 rfl hLF hp1 hq1 hr1 hv1 hp2 hq2 hr2 hv2 hp3 hq3 hr3 hv3 hp4 hq4 hr4 hv4 hp5 hq5 hr5 hv5 (by k_mem) (by k_mem) (by k_mem) (by k_mem) (by k_mem) (by k_mem) (by k_mem) (by k_mem) (by k_mem) (by k_mem) (by k_mem) (by k_mem) (by k_mem) (by k_mem) (by k_mem) (by k_mem) (by k_mem) (by k_mem) (by k_mem) (by k_mem) (by k_mem) hd1 hd2 hd3 hd5 hd6 hd7 hd8 hd9 hLJ hLG hLS hLI hLb1 hLb2 hLb3 hLb4 hLb5 hLe0 hLe1 hLe2 hLe3 hLe4 hLe5 hLe6 hLe7 (by k_mem) (by k_mem) (by k_mem) (by k_mem) B F X T N hQ
end Mine
end
section
open PySem PySem.W PySem.Calls PyProof.Rows
set_option Elab.async false
set_option maxRecDepth 100000
set_option maxHeartbeats 8000000
set_option pp.deepTerms false
set_option pp.deepTerms.threshold 4
set_option pp.maxSteps 6000
namespace Mine
theorem haltI_T20 {P : Prop} (h : Keep P) : P := h

namespace EC
noncomputable def Pr (w : World) (p : Program) (loose : List Str) (mean : ExcName → Option Value) (mg : Str → Option Value) (mb : Str → Option Value) (fa : Addr) (cd : Value) (h₀ : Heap) (L : Addr) (m : Str → Option Value) (s : Shared) (Q : Flow → Shared → Prop) (S : Addr) (I : Addr) (ns : Nat) (ni : Nat) (b1 : Addr) (b2 : Addr) (b3 : Addr) (b4 : Addr) (b5 : Addr) (p1 : Int) (q1 : Int) (r1 : Int) (v1 : Int) (p2 : Int) (q2 : Int) (r2 : Int) (v2 : Int) (p3 : Int) (q3 : Int) (r3 : Int) (v3 : Int) (p4 : Int) (q4 : Int) (r4 : Int) (v4 : Int) (p5 : Int) (q5 : Int) (r5 : Int) (v5 : Int) (n1 : Nat) (n2 : Nat) (n3 : Nat) (n4 : Nat) (n5 : Nat) (x1 : Tok) (x1' : Tok) (x1'' : Tok) (y1 : Tok) (x2 : Tok) (x2' : Tok) (x2'' : Tok) (y2 : Tok) (x3 : Tok) (x3' : Tok) (x3'' : Tok) (y3 : Tok) (x4 : Tok) (x4' : Tok) (x4'' : Tok) (y4 : Tok) (x5 : Tok) (x5' : Tok) (x5'' : Tok) (y5 : Tok) (G : Addr) (jG : Nat) (e0 : Addr) (e1 : Addr) (e2 : Addr) (e3 : Addr) (e4 : Addr) (e5 : Addr) (e6 : Addr) (e7 : Addr) (g01 : Int) (g02 : Int) (g03 : Int) (g04 : Int) (g05 : Int) (g11 : Int) (g12 : Int) (g13 : Int) (g14 : Int) (g15 : Int) (g21 : Int) (g22 : Int) (g23 : Int) (g24 : Int) (g25 : Int) (g31 : Int) (g32 : Int) (g33 : Int) (g34 : Int) (g35 : Int) (g41 : Int) (g42 : Int) (g43 : Int) (g44 : Int) (g45 : Int) (g51 : Int) (g52 : Int) (g53 : Int) (g54 : Int) (g55 : Int) (g61 : Int) (g62 : Int) (g63 : Int) (g64 : Int) (g65 : Int) (g71 : Int) (g72 : Int) (g73 : Int) (g74 : Int) (g75 : Int) (h01 : Tok) (h02 : Tok) (h03 : Tok) (h04 : Tok) (h05 : Tok) (h11 : Tok) (h12 : Tok) (h13 : Tok) (h14 : Tok) (h15 : Tok) (h21 : Tok) (h22 : Tok) (h23 : Tok) (h24 : Tok) (h25 : Tok) (h31 : Tok) (h32 : Tok) (h33 : Tok) (h34 : Tok) (h35 : Tok) (h41 : Tok) (h42 : Tok) (h43 : Tok) (h44 : Tok) (h45 : Tok) (h51 : Tok) (h52 : Tok) (h53 : Tok) (h54 : Tok) (h55 : Tok) (h61 : Tok) (h62 : Tok) (h63 : Tok) (h64 : Tok) (h65 : Tok) (h71 : Tok) (h72 : Tok) (h73 : Tok) (h74 : Tok) (h75 : Tok) (j0 : Nat) (j1 : Nat) (j2 : Nat) (j3 : Nat) (j4 : Nat) (j5 : Nat) (j6 : Nat) (j7 : Nat) (o1 : Obj) (o2 : Obj) (o3 : Obj) (o4 : Obj) (o5 : Obj) (o6 : Obj) (o7 : Obj) (o8 : Obj) (o9 : Obj) : Prop := ∀ (hp1 : 0 ≤ p1 ∧ p1 ≤ 2) (hq1 : 0 ≤ q1 ∧ q1 ≤ 2) (hr1 : 0 ≤ r1 ∧ r1 ≤ 2) (hv1 : 0 ≤ v1 ∧ v1 ≤ 5) (hp2 : 0 ≤ p2 ∧ p2 ≤ 2) (hq2 : 0 ≤ q2 ∧ q2 ≤ 2) (hr2 : 0 ≤ r2 ∧ r2 ≤ 2) (hv2 : 0 ≤ v2 ∧ v2 ≤ 5) (hp3 : 0 ≤ p3 ∧ p3 ≤ 2) (hq3 : 0 ≤ q3 ∧ q3 ≤ 2) (hr3 : 0 ≤ r3 ∧ r3 ≤ 2) (hv3 : 0 ≤ v3 ∧ v3 ≤ 5) (hp4 : 0 ≤ p4 ∧ p4 ≤ 2) (hq4 : 0 ≤ q4 ∧ q4 ≤ 2) (hr4 : 0 ≤ r4 ∧ r4 ≤ 2) (hv4 : 0 ≤ v4 ∧ v4 ≤ 5) (hp5 : 0 ≤ p5 ∧ p5 ≤ 2) (hq5 : 0 ≤ q5 ∧ q5 ≤ 2) (hr5 : 0 ≤ r5 ∧ r5 ≤ 2) (hv5 : 0 ≤ v5 ∧ v5 ≤ 5) (hG0 : Lind (bnet 0 ⟨b1, n1, p1, q1, r1, v1, x1, x1', x1'', y1⟩) (bnet 0 ⟨b2, n2, p2, q2, r2, v2, x2, x2', x2'', y2⟩) (bnet 0 ⟨b3, n3, p3, q3, r3, v3, x3, x3', x3'', y3⟩) (bnet 0 ⟨b4, n4, p4, q4, r4, v4, x4, x4', x4'', y4⟩) (bnet 0 ⟨b5, n5, p5, q5, r5, v5, x5, x5', x5'', y5⟩) g01 g02 g03 g04 g05) (hG1 : Lind (bnet 1 ⟨b1, n1, p1, q1, r1, v1, x1, x1', x1'', y1⟩) (bnet 1 ⟨b2, n2, p2, q2, r2, v2, x2, x2', x2'', y2⟩) (bnet 1 ⟨b3, n3, p3, q3, r3, v3, x3, x3', x3'', y3⟩) (bnet 1 ⟨b4, n4, p4, q4, r4, v4, x4, x4', x4'', y4⟩) (bnet 1 ⟨b5, n5, p5, q5, r5, v5, x5, x5', x5'', y5⟩) g11 g12 g13 g14 g15) (hG2 : Lind (bnet 2 ⟨b1, n1, p1, q1, r1, v1, x1, x1', x1'', y1⟩) (bnet 2 ⟨b2, n2, p2, q2, r2, v2, x2, x2', x2'', y2⟩) (bnet 2 ⟨b3, n3, p3, q3, r3, v3, x3, x3', x3'', y3⟩) (bnet 2 ⟨b4, n4, p4, q4, r4, v4, x4, x4', x4'', y4⟩) (bnet 2 ⟨b5, n5, p5, q5, r5, v5, x5, x5', x5'', y5⟩) g21 g22 g23 g24 g25) (hG3 : Lind (bnet 3 ⟨b1, n1, p1, q1, r1, v1, x1, x1', x1'', y1⟩) (bnet 3 ⟨b2, n2, p2, q2, r2, v2, x2, x2', x2'', y2⟩) (bnet 3 ⟨b3, n3, p3, q3, r3, v3, x3, x3', x3'', y3⟩) (bnet 3 ⟨b4, n4, p4, q4, r4, v4, x4, x4', x4'', y4⟩) (bnet 3 ⟨b5, n5, p5, q5, r5, v5, x5, x5', x5'', y5⟩) g31 g32 g33 g34 g35) (hG4 : Lind (bnet 4 ⟨b1, n1, p1, q1, r1, v1, x1, x1', x1'', y1⟩) (bnet 4 ⟨b2, n2, p2, q2, r2, v2, x2, x2', x2'', y2⟩) (bnet 4 ⟨b3, n3, p3, q3, r3, v3, x3, x3', x3'', y3⟩) (bnet 4 ⟨b4, n4, p4, q4, r4, v4, x4, x4', x4'', y4⟩) (bnet 4 ⟨b5, n5, p5, q5, r5, v5, x5, x5', x5'', y5⟩) g41 g42 g43 g44 g45) (hG5 : Lind (bnet 5 ⟨b1, n1, p1, q1, r1, v1, x1, x1', x1'', y1⟩) (bnet 5 ⟨b2, n2, p2, q2, r2, v2, x2, x2', x2'', y2⟩) (bnet 5 ⟨b3, n3, p3, q3, r3, v3, x3, x3', x3'', y3⟩) (bnet 5 ⟨b4, n4, p4, q4, r4, v4, x4, x4', x4'', y4⟩) (bnet 5 ⟨b5, n5, p5, q5, r5, v5, x5, x5', x5'', y5⟩) g51 g52 g53 g54 g55) (hG6 : Lind (bnet 6 ⟨b1, n1, p1, q1, r1, v1, x1, x1', x1'', y1⟩) (bnet 6 ⟨b2, n2, p2, q2, r2, v2, x2, x2', x2'', y2⟩) (bnet 6 ⟨b3, n3, p3, q3, r3, v3, x3, x3', x3'', y3⟩) (bnet 6 ⟨b4, n4, p4, q4, r4, v4, x4, x4', x4'', y4⟩) (bnet 6 ⟨b5, n5, p5, q5, r5, v5, x5, x5', x5'', y5⟩) g61 g62 g63 g64 g65) (hG7 : Lind (bnet 7 ⟨b1, n1, p1, q1, r1, v1, x1, x1', x1'', y1⟩) (bnet 7 ⟨b2, n2, p2, q2, r2, v2, x2, x2', x2'', y2⟩) (bnet 7 ⟨b3, n3, p3, q3, r3, v3, x3, x3', x3'', y3⟩) (bnet 7 ⟨b4, n4, p4, q4, r4, v4, x4, x4', x4'', y4⟩) (bnet 7 ⟨b5, n5, p5, q5, r5, v5, x5, x5', x5'', y5⟩) g71 g72 g73 g74 g75) (hd1 : o1.data = .cell (some (.ref I))) (hd2 : o2.data = .cell (some (.ref S))) (hd3 : o3.data = .cell (some (.ref G))) (hd4 : o4.data = .cell none) (hd5 : o5.data = .cell none) (hd6 : o6.data = .cell none) (hd7 : o7.data = .cell none) (hd8 : o8.data = .cell none) (hd9 : o9.data = .cell none) (hLS : @LT.lt Nat _ (L + 1 + 1 + 1 + 1 + 1 + 1 + 1 + 1 + 1) S) (hLI : @LT.lt Nat _ (L + 1 + 1 + 1 + 1 + 1 + 1 + 1 + 1 + 1) I) (hLb1 : @LT.lt Nat _ (L + 1 + 1 + 1 + 1 + 1 + 1 + 1 + 1 + 1) b1) (hLb2 : @LT.lt Nat _ (L + 1 + 1 + 1 + 1 + 1 + 1 + 1 + 1 + 1) b2) (hLb3 : @LT.lt Nat _ (L + 1 + 1 + 1 + 1 + 1 + 1 + 1 + 1 + 1) b3) (hLb4 : @LT.lt Nat _ (L + 1 + 1 + 1 + 1 + 1 + 1 + 1 + 1 + 1) b4) (hLb5 : @LT.lt Nat _ (L + 1 + 1 + 1 + 1 + 1 + 1 + 1 + 1 + 1) b5) (hLG : @LT.lt Nat _ (L + 1 + 1 + 1 + 1 + 1 + 1 + 1 + 1 + 1) G) (hLe0 : @LT.lt Nat _ (L + 1 + 1 + 1 + 1 + 1 + 1 + 1 + 1 + 1) e0) (hLe1 : @LT.lt Nat _ (L + 1 + 1 + 1 + 1 + 1 + 1 + 1 + 1 + 1) e1) (hLe2 : @LT.lt Nat _ (L + 1 + 1 + 1 + 1 + 1 + 1 + 1 + 1 + 1) e2) (hLe3 : @LT.lt Nat _ (L + 1 + 1 + 1 + 1 + 1 + 1 + 1 + 1 + 1) e3) (hLe4 : @LT.lt Nat _ (L + 1 + 1 + 1 + 1 + 1 + 1 + 1 + 1 + 1) e4) (hLe5 : @LT.lt Nat _ (L + 1 + 1 + 1 + 1 + 1 + 1 + 1 + 1 + 1) e5) (hLe6 : @LT.lt Nat _ (L + 1 + 1 + 1 + 1 + 1 + 1 + 1 + 1 + 1) e6) (hLe7 : @LT.lt Nat _ (L + 1 + 1 + 1 + 1 + 1 + 1 + 1 + 1 + 1) e7) (B : Below callerA h₀ [] h₀) (F : Fr h₀ L s.heap m) (X : (hd.heap_1 w.params).In h₀) (T : Top p loose mean mg mb h₀) (N : News h₀ L s.heap [(G, W.listOf #[.ref e0, .ref e1, .ref e2, .ref e3, .ref e4, .ref e5, .ref e6, .ref e7] jG), (e7, W.listOf #[.int g71 h71, .int g72 h72, .int g73 h73, .int g74 h74, .int g75 h75] j7), (e6, W.listOf #[.int g61 h61, .int g62 h62, .int g63 h63, .int g64 h64, .int g65 h65] j6), (e5, W.listOf #[.int g51 h51, .int g52 h52, .int g53 h53, .int g54 h54, .int g55 h55] j5), (e4, W.listOf #[.int g41 h41, .int g42 h42, .int g43 h43, .int g44 h44, .int g45 h45] j4), (e3, W.listOf #[.int g31 h31, .int g32 h32, .int g33 h33, .int g34 h34, .int g35 h35] j3), (e2, W.listOf #[.int g21 h21, .int g22 h22, .int g23 h23, .int g24 h24, .int g25 h25] j2), (e1, W.listOf #[.int g11 h11, .int g12 h12, .int g13 h13, .int g14 h14, .int g15 h15] j1), (e0, W.listOf #[.int g01 h01, .int g02 h02, .int g03 h03, .int g04 h04, .int g05 h05] j0), (S, W.listOf #[.int v1 y1, .int v2 y2, .int v3 y3, .int v4 y4, .int v5 y5] ns), (I, W.listOf #[.ref b1, .ref b2, .ref b3, .ref b4, .ref b5] ni), (b5, W.listOf #[.int p5 x5, .int q5 x5', .int r5 x5''] n5), (b4, W.listOf #[.int p4 x4, .int q4 x4', .int r4 x4''] n4), (b3, W.listOf #[.int p3 x3, .int q3 x3', .int r3 x3''] n3), (b2, W.listOf #[.int p2 x2, .int q2 x2', .int r2 x2''] n2), (b1, W.listOf #[.int p1 x1, .int q1 x1', .int r1 x1''] n1), (L + 1 + 1 + 1 + 1 + 1 + 1 + 1 + 1 + 1, o9), (L + 1 + 1 + 1 + 1 + 1 + 1 + 1 + 1, o8), (L + 1 + 1 + 1 + 1 + 1 + 1 + 1, o7), (L + 1 + 1 + 1 + 1 + 1 + 1, o6), (L + 1 + 1 + 1 + 1 + 1, o5), (L + 1 + 1 + 1 + 1, o4), (L + 1 + 1 + 1, o3), (L + 1 + 1, o2), (L + 1, o1)]) (hQ : ∀ h' tk' m', Fr h₀ L h' m' → Q (.ret (.bool true)) { s with heap := h', toks := tk' }), wpAny (model Challenge.rw_wo0027_01.row.prog w) (callerA.deeper (envOfC (Str.ofString "law") lawScope L fa cd)) (execs (lawBody.drop 5) (envOfC (Str.ofString "law") lawScope L fa cd)) Q (fun _ _ => False) s
abbrev Pack : Type := (World) × (Program) × (List Str) × (ExcName → Option Value) × (Str → Option Value) × (Str → Option Value) × (Addr) × (Value) × (Heap) × (Addr) × (Str → Option Value) × (Shared) × (Flow → Shared → Prop) × (Addr) × (Addr) × (Nat) × (Nat) × (Addr) × (Addr) × (Addr) × (Addr) × (Addr) × (Int) × (Int) × (Int) × (Int) × (Int) × (Int) × (Int) × (Int) × (Int) × (Int) × (Int) × (Int) × (Int) × (Int) × (Int) × (Int) × (Int) × (Int) × (Int) × (Int) × (Nat) × (Nat) × (Nat) × (Nat) × (Nat) × (Tok) × (Tok) × (Tok) × (Tok) × (Tok) × (Tok) × (Tok) × (Tok) × (Tok) × (Tok) × (Tok) × (Tok) × (Tok) × (Tok) × (Tok) × (Tok) × (Tok) × (Tok) × (Tok) × (Tok) × (Addr) × (Nat) × (Addr) × (Addr) × (Addr) × (Addr) × (Addr) × (Addr) × (Addr) × (Addr) × (Int) × (Int) × (Int) × (Int) × (Int) × (Int) × (Int) × (Int) × (Int) × (Int) × (Int) × (Int) × (Int) × (Int) × (Int) × (Int) × (Int) × (Int) × (Int) × (Int) × (Int) × (Int) × (Int) × (Int) × (Int) × (Int) × (Int) × (Int) × (Int) × (Int) × (Int) × (Int) × (Int) × (Int) × (Int) × (Int) × (Int) × (Int) × (Int) × (Int) × (Tok) × (Tok) × (Tok) × (Tok) × (Tok) × (Tok) × (Tok) × (Tok) × (Tok) × (Tok) × (Tok) × (Tok) × (Tok) × (Tok) × (Tok) × (Tok) × (Tok) × (Tok) × (Tok) × (Tok) × (Tok) × (Tok) × (Tok) × (Tok) × (Tok) × (Tok) × (Tok) × (Tok) × (Tok) × (Tok) × (Tok) × (Tok) × (Tok) × (Tok) × (Tok) × (Tok) × (Tok) × (Tok) × (Tok) × (Tok) × (Nat) × (Nat) × (Nat) × (Nat) × (Nat) × (Nat) × (Nat) × (Nat) × (Obj) × (Obj) × (Obj) × (Obj) × (Obj) × (Obj) × (Obj) × (Obj) × (Obj)
noncomputable def PrX (x : Pack) : Prop := Pr (x.1) (x.2.1) (x.2.2.1) (x.2.2.2.1) (x.2.2.2.2.1) (x.2.2.2.2.2.1) (x.2.2.2.2.2.2.1) (x.2.2.2.2.2.2.2.1) (x.2.2.2.2.2.2.2.2.1) (x.2.2.2.2.2.2.2.2.2.1) (x.2.2.2.2.2.2.2.2.2.2.1) (x.2.2.2.2.2.2.2.2.2.2.2.1) (x.2.2.2.2.2.2.2.2.2.2.2.2.1) (x.2.2.2.2.2.2.2.2.2.2.2.2.2.1) (x.2.2.2.2.2.2.2.2.2.2.2.2.2.2.1) (x.2.2.2.2.2.2.2.2.2.2.2.2.2.2.2.1) (x.2.2.2.2.2.2.2.2.2.2.2.2.2.2.2.2.1) (x.2.2.2.2.2.2.2.2.2.2.2.2.2.2.2.2.2.1) (x.2.2.2.2.2.2.2.2.2.2.2.2.2.2.2.2.2.2.1) (x.2.2.2.2.2.2.2.2.2.2.2.2.2.2.2.2.2.2.2.1) (x.2.2.2.2.2.2.2.2.2.2.2.2.2.2.2.2.2.2.2.2.1) (x.2.2.2.2.2.2.2.2.2.2.2.2.2.2.2.2.2.2.2.2.2.1) (x.2.2.2.2.2.2.2.2.2.2.2.2.2.2.2.2.2.2.2.2.2.2.1) (x.2.2.2.2.2.2.2.2.2.2.2.2.2.2.2.2.2.2.2.2.2.2.2.1) (x.2.2.2.2.2.2.2.2.2.2.2.2.2.2.2.2.2.2.2.2.2.2.2.2.1) (x.2.2.2.2.2.2.2.2.2.2.2.2.2.2.2.2.2.2.2.2.2.2.2.2.2.1) (x.2.2.2.2.2.2.2.2.2.2.2.2.2.2.2.2.2.2.2.2.2.2.2.2.2.2.1) (x.2.2.2.2.2.2.2.2.2.2.2.2.2.2.2.2.2.2.2.2.2.2.2.2.2.2.2.1) (x.2.2.2.2.2.2.2.2.2.2.2.2.2.2.2.2.2.2.2.2.2.2.2.2.2.2.2.2.1) (x.2.2.2.2.2.2.2.2.2.2.2.2.2.2.2.2.2.2.2.2.2.2.2.2.2.2.2.2.2.1) (x.2.2.2.2.2.2.2.2.2.2.2.2.2.2.2.2.2.2.2.2.2.2.2.2.2.2.2.2.2.2.1) (x.2.2.2.2.2.2.2.2.2.2.2.2.2.2.2.2.2.2.2.2.2.2.2.2.2.2.2.2.2.2.2.1) (x.2.2.2.2.2.2.2.2.2.2.2.2.2.2.2.2.2.2.2.2.2.2.2.2.2.2.2.2.2.2.2.2.1) (x.2.2.2.2.2.2.2.2.2.2.2.2.2.2.2.2.2.2.2.2.2.2.2.2.2.2.2.2.2.2.2.2.2.1) (x.2.2.2.2.2.2.2.2.2.2.2.2.2.2.2.2.2.2.2.2.2.2.2.2.2.2.2.2.2.2.2.2.2.2.1) (x.2.2.2.2.2.2.2.2.2.2.2.2.2.2.2.2.2.2.2.2.2.2.2.2.2.2.2.2.2.2.2.2.2.2.2.1) (x.2.2.2.2.2.2.2.2.2.2.2.2.2.2.2.2.2.2.2.2.2.2.2.2.2.2.2.2.2.2.2.2.2.2.2.2.1) (x.2.2.2.2.2.2.2.2.2.2.2.2.2.2.2.2.2.2.2.2.2.2.2.2.2.2.2.2.2.2.2.2.2.2.2.2.2.1) (x.2.2.2.2.2.2.2.2.2.2.2.2.2.2.2.2.2.2.2.2.2.2.2.2.2.2.2.2.2.2.2.2.2.2.2.2.2.2.1) (x.2.2.2.2.2.2.2.2.2.2.2.2.2.2.2.2.2.2.2.2.2.2.2.2.2.2.2.2.2.2.2.2.2.2.2.2.2.2.2.1) (x.2.2.2.2.2.2.2.2.2.2.2.2.2.2.2.2.2.2.2.2.2.2.2.2.2.2.2.2.2.2.2.2.2.2.2.2.2.2.2.2.1) (x.2.2.2.2.2.2.2.2.2.2.2.2.2.2.2.2.2.2.2.2.2.2.2.2.2.2.2.2.2.2.2.2.2.2.2.2.2.2.2.2.2.1) (x.2.2.2.2.2.2.2.2.2.2.2.2.2.2.2.2.2.2.2.2.2.2.2.2.2.2.2.2.2.2.2.2.2.2.2.2.2.2.2.2.2.2.1) (x.2.2.2.2.2.2.2.2.2.2.2.2.2.2.2.2.2.2.2.2.2.2.2.2.2.2.2.2.2.2.2.2.2.2.2.2.2.2.2.2.2.2.2.1) (x.2.2.2.2.2.2.2.2.2.2.2.2.2.2.2.2.2.2.2.2.2.2.2.2.2.2.2.2.2.2.2.2.2.2.2.2.2.2.2.2.2.2.2.2.1) (x.2.2.2.2.2.2.2.2.2.2.2.2.2.2.2.2.2.2.2.2.2.2.2.2.2.2.2.2.2.2.2.2.2.2.2.2.2.2.2.2.2.2.2.2.2.1) (x.2.2.2.2.2.2.2.2.2.2.2.2.2.2.2.2.2.2.2.2.2.2.2.2.2.2.2.2.2.2.2.2.2.2.2.2.2.2.2.2.2.2.2.2.2.2.1) (x.2.2.2.2.2.2.2.2.2.2.2.2.2.2.2.2.2.2.2.2.2.2.2.2.2.2.2.2.2.2.2.2.2.2.2.2.2.2.2.2.2.2.2.2.2.2.2.1) (x.2.2.2.2.2.2.2.2.2.2.2.2.2.2.2.2.2.2.2.2.2.2.2.2.2.2.2.2.2.2.2.2.2.2.2.2.2.2.2.2.2.2.2.2.2.2.2.2.1) (x.2.2.2.2.2.2.2.2.2.2.2.2.2.2.2.2.2.2.2.2.2.2.2.2.2.2.2.2.2.2.2.2.2.2.2.2.2.2.2.2.2.2.2.2.2.2.2.2.2.1) (x.2.2.2.2.2.2.2.2.2.2.2.2.2.2.2.2.2.2.2.2.2.2.2.2.2.2.2.2.2.2.2.2.2.2.2.2.2.2.2.2.2.2.2.2.2.2.2.2.2.2.1) (x.2.2.2.2.2.2.2.2.2.2.2.2.2.2.2.2.2.2.2.2.2.2.2.2.2.2.2.2.2.2.2.2.2.2.2.2.2.2.2.2.2.2.2.2.2.2.2.2.2.2.2.1) (x.2.2.2.2.2.2.2.2.2.2.2.2.2.2.2.2.2.2.2.2.2.2.2.2.2.2.2.2.2.2.2.2.2.2.2.2.2.2.2.2.2.2.2.2.2.2.2.2.2.2.2.2.1) (x.2.2.2.2.2.2.2.2.2.2.2.2.2.2.2.2.2.2.2.2.2.2.2.2.2.2.2.2.2.2.2.2.2.2.2.2.2.2.2.2.2.2.2.2.2.2.2.2.2.2.2.2.2.1) (x.2.2.2.2.2.2.2.2.2.2.2.2.2.2.2.2.2.2.2.2.2.2.2.2.2.2.2.2.2.2.2.2.2.2.2.2.2.2.2.2.2.2.2.2.2.2.2.2.2.2.2.2.2.2.1) (x.2.2.2.2.2.2.2.2.2.2.2.2.2.2.2.2.2.2.2.2.2.2.2.2.2.2.2.2.2.2.2.2.2.2.2.2.2.2.2.2.2.2.2.2.2.2.2.2.2.2.2.2.2.2.2.1) (x.2.2.2.2.2.2.2.2.2.2.2.2.2.2.2.2.2.2.2.2.2.2.2.2.2.2.2.2.2.2.2.2.2.2.2.2.2.2.2.2.2.2.2.2.2.2.2.2.2.2.2.2.2.2.2.2.1) (x.2.2.2.2.2.2.2.2.2.2.2.2.2.2.2.2.2.2.2.2.2.2.2.2.2.2.2.2.2.2.2.2.2.2.2.2.2.2.2.2.2.2.2.2.2.2.2.2.2.2.2.2.2.2.2.2.2.1) (x.2.2.2.2.2.2.2.2.2.2.2.2.2.2.2.2.2.2.2.2.2.2.2.2.2.2.2.2.2.2.2.2.2.2.2.2.2.2.2.2.2.2.2.2.2.2.2.2.2.2.2.2.2.2.2.2.2.2.1) (x.2.2.2.2.2.2.2.2.2.2.2.2.2.2.2.2.2.2.2.2.2.2.2.2.2.2.2.2.2.2.2.2.2.2.2.2.2.2.2.2.2.2.2.2.2.2.2.2.2.2.2.2.2.2.2.2.2.2.2.1) (x.2.2.2.2.2.2.2.2.2.2.2.2.2.2.2.2.2.2.2.2.2.2.2.2.2.2.2.2.2.2.2.2.2.2.2.2.2.2.2.2.2.2.2.2.2.2.2.2.2.2.2.2.2.2.2.2.2.2.2.2.1) (x.2.2.2.2.2.2.2.2.2.2.2.2.2.2.2.2.2.2.2.2.2.2.2.2.2.2.2.2.2.2.2.2.2.2.2.2.2.2.2.2.2.2.2.2.2.2.2.2.2.2.2.2.2.2.2.2.2.2.2.2.2.1) (x.2.2.2.2.2.2.2.2.2.2.2.2.2.2.2.2.2.2.2.2.2.2.2.2.2.2.2.2.2.2.2.2.2.2.2.2.2.2.2.2.2.2.2.2.2.2.2.2.2.2.2.2.2.2.2.2.2.2.2.2.2.2.1) (x.2.2.2.2.2.2.2.2.2.2.2.2.2.2.2.2.2.2.2.2.2.2.2.2.2.2.2.2.2.2.2.2.2.2.2.2.2.2.2.2.2.2.2.2.2.2.2.2.2.2.2.2.2.2.2.2.2.2.2.2.2.2.2.1) (x.2.2.2.2.2.2.2.2.2.2.2.2.2.2.2.2.2.2.2.2.2.2.2.2.2.2.2.2.2.2.2.2.2.2.2.2.2.2.2.2.2.2.2.2.2.2.2.2.2.2.2.2.2.2.2.2.2.2.2.2.2.2.2.2.1) (x.2.2.2.2.2.2.2.2.2.2.2.2.2.2.2.2.2.2.2.2.2.2.2.2.2.2.2.2.2.2.2.2.2.2.2.2.2.2.2.2.2.2.2.2.2.2.2.2.2.2.2.2.2.2.2.2.2.2.2.2.2.2.2.2.2.1) (x.2.2.2.2.2.2.2.2.2.2.2.2.2.2.2.2.2.2.2.2.2.2.2.2.2.2.2.2.2.2.2.2.2.2.2.2.2.2.2.2.2.2.2.2.2.2.2.2.2.2.2.2.2.2.2.2.2.2.2.2.2.2.2.2.2.2.1) (x.2.2.2.2.2.2.2.2.2.2.2.2.2.2.2.2.2.2.2.2.2.2.2.2.2.2.2.2.2.2.2.2.2.2.2.2.2.2.2.2.2.2.2.2.2.2.2.2.2.2.2.2.2.2.2.2.2.2.2.2.2.2.2.2.2.2.2.1) (x.2.2.2.2.2.2.2.2.2.2.2.2.2.2.2.2.2.2.2.2.2.2.2.2.2.2.2.2.2.2.2.2.2.2.2.2.2.2.2.2.2.2.2.2.2.2.2.2.2.2.2.2.2.2.2.2.2.2.2.2.2.2.2.2.2.2.2.2.1) (x.2.2.2.2.2.2.2.2.2.2.2.2.2.2.2.2.2.2.2.2.2.2.2.2.2.2.2.2.2.2.2.2.2.2.2.2.2.2.2.2.2.2.2.2.2.2.2.2.2.2.2.2.2.2.2.2.2.2.2.2.2.2.2.2.2.2.2.2.2.1) (x.2.2.2.2.2.2.2.2.2.2.2.2.2.2.2.2.2.2.2.2.2.2.2.2.2.2.2.2.2.2.2.2.2.2.2.2.2.2.2.2.2.2.2.2.2.2.2.2.2.2.2.2.2.2.2.2.2.2.2.2.2.2.2.2.2.2.2.2.2.2.1) (x.2.2.2.2.2.2.2.2.2.2.2.2.2.2.2.2.2.2.2.2.2.2.2.2.2.2.2.2.2.2.2.2.2.2.2.2.2.2.2.2.2.2.2.2.2.2.2.2.2.2.2.2.2.2.2.2.2.2.2.2.2.2.2.2.2.2.2.2.2.2.2.1) (x.2.2.2.2.2.2.2.2.2.2.2.2.2.2.2.2.2.2.2.2.2.2.2.2.2.2.2.2.2.2.2.2.2.2.2.2.2.2.2.2.2.2.2.2.2.2.2.2.2.2.2.2.2.2.2.2.2.2.2.2.2.2.2.2.2.2.2.2.2.2.2.2.1) (x.2.2.2.2.2.2.2.2.2.2.2.2.2.2.2.2.2.2.2.2.2.2.2.2.2.2.2.2.2.2.2.2.2.2.2.2.2.2.2.2.2.2.2.2.2.2.2.2.2.2.2.2.2.2.2.2.2.2.2.2.2.2.2.2.2.2.2.2.2.2.2.2.2.1) (x.2.2.2.2.2.2.2.2.2.2.2.2.2.2.2.2.2.2.2.2.2.2.2.2.2.2.2.2.2.2.2.2.2.2.2.2.2.2.2.2.2.2.2.2.2.2.2.2.2.2.2.2.2.2.2.2.2.2.2.2.2.2.2.2.2.2.2.2.2.2.2.2.2.2.1) (x.2.2.2.2.2.2.2.2.2.2.2.2.2.2.2.2.2.2.2.2.2.2.2.2.2.2.2.2.2.2.2.2.2.2.2.2.2.2.2.2.2.2.2.2.2.2.2.2.2.2.2.2.2.2.2.2.2.2.2.2.2.2.2.2.2.2.2.2.2.2.2.2.2.2.2.1) (x.2.2.2.2.2.2.2.2.2.2.2.2.2.2.2.2.2.2.2.2.2.2.2.2.2.2.2.2.2.2.2.2.2.2.2.2.2.2.2.2.2.2.2.2.2.2.2.2.2.2.2.2.2.2.2.2.2.2.2.2.2.2.2.2.2.2.2.2.2.2.2.2.2.2.2.2.1) (x.2.2.2.2.2.2.2.2.2.2.2.2.2.2.2.2.2.2.2.2.2.2.2.2.2.2.2.2.2.2.2.2.2.2.2.2.2.2.2.2.2.2.2.2.2.2.2.2.2.2.2.2.2.2.2.2.2.2.2.2.2.2.2.2.2.2.2.2.2.2.2.2.2.2.2.2.2.1) (x.2.2.2.2.2.2.2.2.2.2.2.2.2.2.2.2.2.2.2.2.2.2.2.2.2.2.2.2.2.2.2.2.2.2.2.2.2.2.2.2.2.2.2.2.2.2.2.2.2.2.2.2.2.2.2.2.2.2.2.2.2.2.2.2.2.2.2.2.2.2.2.2.2.2.2.2.2.2.1) (x.2.2.2.2.2.2.2.2.2.2.2.2.2.2.2.2.2.2.2.2.2.2.2.2.2.2.2.2.2.2.2.2.2.2.2.2.2.2.2.2.2.2.2.2.2.2.2.2.2.2.2.2.2.2.2.2.2.2.2.2.2.2.2.2.2.2.2.2.2.2.2.2.2.2.2.2.2.2.2.1) (x.2.2.2.2.2.2.2.2.2.2.2.2.2.2.2.2.2.2.2.2.2.2.2.2.2.2.2.2.2.2.2.2.2.2.2.2.2.2.2.2.2.2.2.2.2.2.2.2.2.2.2.2.2.2.2.2.2.2.2.2.2.2.2.2.2.2.2.2.2.2.2.2.2.2.2.2.2.2.2.2.1) (x.2.2.2.2.2.2.2.2.2.2.2.2.2.2.2.2.2.2.2.2.2.2.2.2.2.2.2.2.2.2.2.2.2.2.2.2.2.2.2.2.2.2.2.2.2.2.2.2.2.2.2.2.2.2.2.2.2.2.2.2.2.2.2.2.2.2.2.2.2.2.2.2.2.2.2.2.2.2.2.2.2.1) (x.2.2.2.2.2.2.2.2.2.2.2.2.2.2.2.2.2.2.2.2.2.2.2.2.2.2.2.2.2.2.2.2.2.2.2.2.2.2.2.2.2.2.2.2.2.2.2.2.2.2.2.2.2.2.2.2.2.2.2.2.2.2.2.2.2.2.2.2.2.2.2.2.2.2.2.2.2.2.2.2.2.2.1) (x.2.2.2.2.2.2.2.2.2.2.2.2.2.2.2.2.2.2.2.2.2.2.2.2.2.2.2.2.2.2.2.2.2.2.2.2.2.2.2.2.2.2.2.2.2.2.2.2.2.2.2.2.2.2.2.2.2.2.2.2.2.2.2.2.2.2.2.2.2.2.2.2.2.2.2.2.2.2.2.2.2.2.2.1) (x.2.2.2.2.2.2.2.2.2.2.2.2.2.2.2.2.2.2.2.2.2.2.2.2.2.2.2.2.2.2.2.2.2.2.2.2.2.2.2.2.2.2.2.2.2.2.2.2.2.2.2.2.2.2.2.2.2.2.2.2.2.2.2.2.2.2.2.2.2.2.2.2.2.2.2.2.2.2.2.2.2.2.2.2.1) (x.2.2.2.2.2.2.2.2.2.2.2.2.2.2.2.2.2.2.2.2.2.2.2.2.2.2.2.2.2.2.2.2.2.2.2.2.2.2.2.2.2.2.2.2.2.2.2.2.2.2.2.2.2.2.2.2.2.2.2.2.2.2.2.2.2.2.2.2.2.2.2.2.2.2.2.2.2.2.2.2.2.2.2.2.2.1) (x.2.2.2.2.2.2.2.2.2.2.2.2.2.2.2.2.2.2.2.2.2.2.2.2.2.2.2.2.2.2.2.2.2.2.2.2.2.2.2.2.2.2.2.2.2.2.2.2.2.2.2.2.2.2.2.2.2.2.2.2.2.2.2.2.2.2.2.2.2.2.2.2.2.2.2.2.2.2.2.2.2.2.2.2.2.2.1) (x.2.2.2.2.2.2.2.2.2.2.2.2.2.2.2.2.2.2.2.2.2.2.2.2.2.2.2.2.2.2.2.2.2.2.2.2.2.2.2.2.2.2.2.2.2.2.2.2.2.2.2.2.2.2.2.2.2.2.2.2.2.2.2.2.2.2.2.2.2.2.2.2.2.2.2.2.2.2.2.2.2.2.2.2.2.2.2.1) (x.2.2.2.2.2.2.2.2.2.2.2.2.2.2.2.2.2.2.2.2.2.2.2.2.2.2.2.2.2.2.2.2.2.2.2.2.2.2.2.2.2.2.2.2.2.2.2.2.2.2.2.2.2.2.2.2.2.2.2.2.2.2.2.2.2.2.2.2.2.2.2.2.2.2.2.2.2.2.2.2.2.2.2.2.2.2.2.2.1) (x.2.2.2.2.2.2.2.2.2.2.2.2.2.2.2.2.2.2.2.2.2.2.2.2.2.2.2.2.2.2.2.2.2.2.2.2.2.2.2.2.2.2.2.2.2.2.2.2.2.2.2.2.2.2.2.2.2.2.2.2.2.2.2.2.2.2.2.2.2.2.2.2.2.2.2.2.2.2.2.2.2.2.2.2.2.2.2.2.2.1) (x.2.2.2.2.2.2.2.2.2.2.2.2.2.2.2.2.2.2.2.2.2.2.2.2.2.2.2.2.2.2.2.2.2.2.2.2.2.2.2.2.2.2.2.2.2.2.2.2.2.2.2.2.2.2.2.2.2.2.2.2.2.2.2.2.2.2.2.2.2.2.2.2.2.2.2.2.2.2.2.2.2.2.2.2.2.2.2.2.2.2.1) (x.2.2.2.2.2.2.2.2.2.2.2.2.2.2.2.2.2.2.2.2.2.2.2.2.2.2.2.2.2.2.2.2.2.2.2.2.2.2.2.2.2.2.2.2.2.2.2.2.2.2.2.2.2.2.2.2.2.2.2.2.2.2.2.2.2.2.2.2.2.2.2.2.2.2.2.2.2.2.2.2.2.2.2.2.2.2.2.2.2.2.2.1) (x.2.2.2.2.2.2.2.2.2.2.2.2.2.2.2.2.2.2.2.2.2.2.2.2.2.2.2.2.2.2.2.2.2.2.2.2.2.2.2.2.2.2.2.2.2.2.2.2.2.2.2.2.2.2.2.2.2.2.2.2.2.2.2.2.2.2.2.2.2.2.2.2.2.2.2.2.2.2.2.2.2.2.2.2.2.2.2.2.2.2.2.2.1) (x.2.2.2.2.2.2.2.2.2.2.2.2.2.2.2.2.2.2.2.2.2.2.2.2.2.2.2.2.2.2.2.2.2.2.2.2.2.2.2.2.2.2.2.2.2.2.2.2.2.2.2.2.2.2.2.2.2.2.2.2.2.2.2.2.2.2.2.2.2.2.2.2.2.2.2.2.2.2.2.2.2.2.2.2.2.2.2.2.2.2.2.2.2.1) (x.2.2.2.2.2.2.2.2.2.2.2.2.2.2.2.2.2.2.2.2.2.2.2.2.2.2.2.2.2.2.2.2.2.2.2.2.2.2.2.2.2.2.2.2.2.2.2.2.2.2.2.2.2.2.2.2.2.2.2.2.2.2.2.2.2.2.2.2.2.2.2.2.2.2.2.2.2.2.2.2.2.2.2.2.2.2.2.2.2.2.2.2.2.2.1) (x.2.2.2.2.2.2.2.2.2.2.2.2.2.2.2.2.2.2.2.2.2.2.2.2.2.2.2.2.2.2.2.2.2.2.2.2.2.2.2.2.2.2.2.2.2.2.2.2.2.2.2.2.2.2.2.2.2.2.2.2.2.2.2.2.2.2.2.2.2.2.2.2.2.2.2.2.2.2.2.2.2.2.2.2.2.2.2.2.2.2.2.2.2.2.2.1) (x.2.2.2.2.2.2.2.2.2.2.2.2.2.2.2.2.2.2.2.2.2.2.2.2.2.2.2.2.2.2.2.2.2.2.2.2.2.2.2.2.2.2.2.2.2.2.2.2.2.2.2.2.2.2.2.2.2.2.2.2.2.2.2.2.2.2.2.2.2.2.2.2.2.2.2.2.2.2.2.2.2.2.2.2.2.2.2.2.2.2.2.2.2.2.2.2.1) (x.2.2.2.2.2.2.2.2.2.2.2.2.2.2.2.2.2.2.2.2.2.2.2.2.2.2.2.2.2.2.2.2.2.2.2.2.2.2.2.2.2.2.2.2.2.2.2.2.2.2.2.2.2.2.2.2.2.2.2.2.2.2.2.2.2.2.2.2.2.2.2.2.2.2.2.2.2.2.2.2.2.2.2.2.2.2.2.2.2.2.2.2.2.2.2.2.2.1) (x.2.2.2.2.2.2.2.2.2.2.2.2.2.2.2.2.2.2.2.2.2.2.2.2.2.2.2.2.2.2.2.2.2.2.2.2.2.2.2.2.2.2.2.2.2.2.2.2.2.2.2.2.2.2.2.2.2.2.2.2.2.2.2.2.2.2.2.2.2.2.2.2.2.2.2.2.2.2.2.2.2.2.2.2.2.2.2.2.2.2.2.2.2.2.2.2.2.2.1) (x.2.2.2.2.2.2.2.2.2.2.2.2.2.2.2.2.2.2.2.2.2.2.2.2.2.2.2.2.2.2.2.2.2.2.2.2.2.2.2.2.2.2.2.2.2.2.2.2.2.2.2.2.2.2.2.2.2.2.2.2.2.2.2.2.2.2.2.2.2.2.2.2.2.2.2.2.2.2.2.2.2.2.2.2.2.2.2.2.2.2.2.2.2.2.2.2.2.2.2.1) (x.2.2.2.2.2.2.2.2.2.2.2.2.2.2.2.2.2.2.2.2.2.2.2.2.2.2.2.2.2.2.2.2.2.2.2.2.2.2.2.2.2.2.2.2.2.2.2.2.2.2.2.2.2.2.2.2.2.2.2.2.2.2.2.2.2.2.2.2.2.2.2.2.2.2.2.2.2.2.2.2.2.2.2.2.2.2.2.2.2.2.2.2.2.2.2.2.2.2.2.2.1) (x.2.2.2.2.2.2.2.2.2.2.2.2.2.2.2.2.2.2.2.2.2.2.2.2.2.2.2.2.2.2.2.2.2.2.2.2.2.2.2.2.2.2.2.2.2.2.2.2.2.2.2.2.2.2.2.2.2.2.2.2.2.2.2.2.2.2.2.2.2.2.2.2.2.2.2.2.2.2.2.2.2.2.2.2.2.2.2.2.2.2.2.2.2.2.2.2.2.2.2.2.2.1) (x.2.2.2.2.2.2.2.2.2.2.2.2.2.2.2.2.2.2.2.2.2.2.2.2.2.2.2.2.2.2.2.2.2.2.2.2.2.2.2.2.2.2.2.2.2.2.2.2.2.2.2.2.2.2.2.2.2.2.2.2.2.2.2.2.2.2.2.2.2.2.2.2.2.2.2.2.2.2.2.2.2.2.2.2.2.2.2.2.2.2.2.2.2.2.2.2.2.2.2.2.2.2.1) (x.2.2.2.2.2.2.2.2.2.2.2.2.2.2.2.2.2.2.2.2.2.2.2.2.2.2.2.2.2.2.2.2.2.2.2.2.2.2.2.2.2.2.2.2.2.2.2.2.2.2.2.2.2.2.2.2.2.2.2.2.2.2.2.2.2.2.2.2.2.2.2.2.2.2.2.2.2.2.2.2.2.2.2.2.2.2.2.2.2.2.2.2.2.2.2.2.2.2.2.2.2.2.2.1) (x.2.2.2.2.2.2.2.2.2.2.2.2.2.2.2.2.2.2.2.2.2.2.2.2.2.2.2.2.2.2.2.2.2.2.2.2.2.2.2.2.2.2.2.2.2.2.2.2.2.2.2.2.2.2.2.2.2.2.2.2.2.2.2.2.2.2.2.2.2.2.2.2.2.2.2.2.2.2.2.2.2.2.2.2.2.2.2.2.2.2.2.2.2.2.2.2.2.2.2.2.2.2.2.2.1) (x.2.2.2.2.2.2.2.2.2.2.2.2.2.2.2.2.2.2.2.2.2.2.2.2.2.2.2.2.2.2.2.2.2.2.2.2.2.2.2.2.2.2.2.2.2.2.2.2.2.2.2.2.2.2.2.2.2.2.2.2.2.2.2.2.2.2.2.2.2.2.2.2.2.2.2.2.2.2.2.2.2.2.2.2.2.2.2.2.2.2.2.2.2.2.2.2.2.2.2.2.2.2.2.2.2.1) (x.2.2.2.2.2.2.2.2.2.2.2.2.2.2.2.2.2.2.2.2.2.2.2.2.2.2.2.2.2.2.2.2.2.2.2.2.2.2.2.2.2.2.2.2.2.2.2.2.2.2.2.2.2.2.2.2.2.2.2.2.2.2.2.2.2.2.2.2.2.2.2.2.2.2.2.2.2.2.2.2.2.2.2.2.2.2.2.2.2.2.2.2.2.2.2.2.2.2.2.2.2.2.2.2.2.2.1) (x.2.2.2.2.2.2.2.2.2.2.2.2.2.2.2.2.2.2.2.2.2.2.2.2.2.2.2.2.2.2.2.2.2.2.2.2.2.2.2.2.2.2.2.2.2.2.2.2.2.2.2.2.2.2.2.2.2.2.2.2.2.2.2.2.2.2.2.2.2.2.2.2.2.2.2.2.2.2.2.2.2.2.2.2.2.2.2.2.2.2.2.2.2.2.2.2.2.2.2.2.2.2.2.2.2.2.2.1) (x.2.2.2.2.2.2.2.2.2.2.2.2.2.2.2.2.2.2.2.2.2.2.2.2.2.2.2.2.2.2.2.2.2.2.2.2.2.2.2.2.2.2.2.2.2.2.2.2.2.2.2.2.2.2.2.2.2.2.2.2.2.2.2.2.2.2.2.2.2.2.2.2.2.2.2.2.2.2.2.2.2.2.2.2.2.2.2.2.2.2.2.2.2.2.2.2.2.2.2.2.2.2.2.2.2.2.2.2.1) (x.2.2.2.2.2.2.2.2.2.2.2.2.2.2.2.2.2.2.2.2.2.2.2.2.2.2.2.2.2.2.2.2.2.2.2.2.2.2.2.2.2.2.2.2.2.2.2.2.2.2.2.2.2.2.2.2.2.2.2.2.2.2.2.2.2.2.2.2.2.2.2.2.2.2.2.2.2.2.2.2.2.2.2.2.2.2.2.2.2.2.2.2.2.2.2.2.2.2.2.2.2.2.2.2.2.2.2.2.2.1) (x.2.2.2.2.2.2.2.2.2.2.2.2.2.2.2.2.2.2.2.2.2.2.2.2.2.2.2.2.2.2.2.2.2.2.2.2.2.2.2.2.2.2.2.2.2.2.2.2.2.2.2.2.2.2.2.2.2.2.2.2.2.2.2.2.2.2.2.2.2.2.2.2.2.2.2.2.2.2.2.2.2.2.2.2.2.2.2.2.2.2.2.2.2.2.2.2.2.2.2.2.2.2.2.2.2.2.2.2.2.2.1) (x.2.2.2.2.2.2.2.2.2.2.2.2.2.2.2.2.2.2.2.2.2.2.2.2.2.2.2.2.2.2.2.2.2.2.2.2.2.2.2.2.2.2.2.2.2.2.2.2.2.2.2.2.2.2.2.2.2.2.2.2.2.2.2.2.2.2.2.2.2.2.2.2.2.2.2.2.2.2.2.2.2.2.2.2.2.2.2.2.2.2.2.2.2.2.2.2.2.2.2.2.2.2.2.2.2.2.2.2.2.2.2.1) (x.2.2.2.2.2.2.2.2.2.2.2.2.2.2.2.2.2.2.2.2.2.2.2.2.2.2.2.2.2.2.2.2.2.2.2.2.2.2.2.2.2.2.2.2.2.2.2.2.2.2.2.2.2.2.2.2.2.2.2.2.2.2.2.2.2.2.2.2.2.2.2.2.2.2.2.2.2.2.2.2.2.2.2.2.2.2.2.2.2.2.2.2.2.2.2.2.2.2.2.2.2.2.2.2.2.2.2.2.2.2.2.2.1) (x.2.2.2.2.2.2.2.2.2.2.2.2.2.2.2.2.2.2.2.2.2.2.2.2.2.2.2.2.2.2.2.2.2.2.2.2.2.2.2.2.2.2.2.2.2.2.2.2.2.2.2.2.2.2.2.2.2.2.2.2.2.2.2.2.2.2.2.2.2.2.2.2.2.2.2.2.2.2.2.2.2.2.2.2.2.2.2.2.2.2.2.2.2.2.2.2.2.2.2.2.2.2.2.2.2.2.2.2.2.2.2.2.2.1) (x.2.2.2.2.2.2.2.2.2.2.2.2.2.2.2.2.2.2.2.2.2.2.2.2.2.2.2.2.2.2.2.2.2.2.2.2.2.2.2.2.2.2.2.2.2.2.2.2.2.2.2.2.2.2.2.2.2.2.2.2.2.2.2.2.2.2.2.2.2.2.2.2.2.2.2.2.2.2.2.2.2.2.2.2.2.2.2.2.2.2.2.2.2.2.2.2.2.2.2.2.2.2.2.2.2.2.2.2.2.2.2.2.2.2.1) (x.2.2.2.2.2.2.2.2.2.2.2.2.2.2.2.2.2.2.2.2.2.2.2.2.2.2.2.2.2.2.2.2.2.2.2.2.2.2.2.2.2.2.2.2.2.2.2.2.2.2.2.2.2.2.2.2.2.2.2.2.2.2.2.2.2.2.2.2.2.2.2.2.2.2.2.2.2.2.2.2.2.2.2.2.2.2.2.2.2.2.2.2.2.2.2.2.2.2.2.2.2.2.2.2.2.2.2.2.2.2.2.2.2.2.2.1) (x.2.2.2.2.2.2.2.2.2.2.2.2.2.2.2.2.2.2.2.2.2.2.2.2.2.2.2.2.2.2.2.2.2.2.2.2.2.2.2.2.2.2.2.2.2.2.2.2.2.2.2.2.2.2.2.2.2.2.2.2.2.2.2.2.2.2.2.2.2.2.2.2.2.2.2.2.2.2.2.2.2.2.2.2.2.2.2.2.2.2.2.2.2.2.2.2.2.2.2.2.2.2.2.2.2.2.2.2.2.2.2.2.2.2.2.2.1) (x.2.2.2.2.2.2.2.2.2.2.2.2.2.2.2.2.2.2.2.2.2.2.2.2.2.2.2.2.2.2.2.2.2.2.2.2.2.2.2.2.2.2.2.2.2.2.2.2.2.2.2.2.2.2.2.2.2.2.2.2.2.2.2.2.2.2.2.2.2.2.2.2.2.2.2.2.2.2.2.2.2.2.2.2.2.2.2.2.2.2.2.2.2.2.2.2.2.2.2.2.2.2.2.2.2.2.2.2.2.2.2.2.2.2.2.2.2.1) (x.2.2.2.2.2.2.2.2.2.2.2.2.2.2.2.2.2.2.2.2.2.2.2.2.2.2.2.2.2.2.2.2.2.2.2.2.2.2.2.2.2.2.2.2.2.2.2.2.2.2.2.2.2.2.2.2.2.2.2.2.2.2.2.2.2.2.2.2.2.2.2.2.2.2.2.2.2.2.2.2.2.2.2.2.2.2.2.2.2.2.2.2.2.2.2.2.2.2.2.2.2.2.2.2.2.2.2.2.2.2.2.2.2.2.2.2.2.2.1) (x.2.2.2.2.2.2.2.2.2.2.2.2.2.2.2.2.2.2.2.2.2.2.2.2.2.2.2.2.2.2.2.2.2.2.2.2.2.2.2.2.2.2.2.2.2.2.2.2.2.2.2.2.2.2.2.2.2.2.2.2.2.2.2.2.2.2.2.2.2.2.2.2.2.2.2.2.2.2.2.2.2.2.2.2.2.2.2.2.2.2.2.2.2.2.2.2.2.2.2.2.2.2.2.2.2.2.2.2.2.2.2.2.2.2.2.2.2.2.2.1) (x.2.2.2.2.2.2.2.2.2.2.2.2.2.2.2.2.2.2.2.2.2.2.2.2.2.2.2.2.2.2.2.2.2.2.2.2.2.2.2.2.2.2.2.2.2.2.2.2.2.2.2.2.2.2.2.2.2.2.2.2.2.2.2.2.2.2.2.2.2.2.2.2.2.2.2.2.2.2.2.2.2.2.2.2.2.2.2.2.2.2.2.2.2.2.2.2.2.2.2.2.2.2.2.2.2.2.2.2.2.2.2.2.2.2.2.2.2.2.2.2.1) (x.2.2.2.2.2.2.2.2.2.2.2.2.2.2.2.2.2.2.2.2.2.2.2.2.2.2.2.2.2.2.2.2.2.2.2.2.2.2.2.2.2.2.2.2.2.2.2.2.2.2.2.2.2.2.2.2.2.2.2.2.2.2.2.2.2.2.2.2.2.2.2.2.2.2.2.2.2.2.2.2.2.2.2.2.2.2.2.2.2.2.2.2.2.2.2.2.2.2.2.2.2.2.2.2.2.2.2.2.2.2.2.2.2.2.2.2.2.2.2.2.2.1) (x.2.2.2.2.2.2.2.2.2.2.2.2.2.2.2.2.2.2.2.2.2.2.2.2.2.2.2.2.2.2.2.2.2.2.2.2.2.2.2.2.2.2.2.2.2.2.2.2.2.2.2.2.2.2.2.2.2.2.2.2.2.2.2.2.2.2.2.2.2.2.2.2.2.2.2.2.2.2.2.2.2.2.2.2.2.2.2.2.2.2.2.2.2.2.2.2.2.2.2.2.2.2.2.2.2.2.2.2.2.2.2.2.2.2.2.2.2.2.2.2.2.2.1) (x.2.2.2.2.2.2.2.2.2.2.2.2.2.2.2.2.2.2.2.2.2.2.2.2.2.2.2.2.2.2.2.2.2.2.2.2.2.2.2.2.2.2.2.2.2.2.2.2.2.2.2.2.2.2.2.2.2.2.2.2.2.2.2.2.2.2.2.2.2.2.2.2.2.2.2.2.2.2.2.2.2.2.2.2.2.2.2.2.2.2.2.2.2.2.2.2.2.2.2.2.2.2.2.2.2.2.2.2.2.2.2.2.2.2.2.2.2.2.2.2.2.2.2.1) (x.2.2.2.2.2.2.2.2.2.2.2.2.2.2.2.2.2.2.2.2.2.2.2.2.2.2.2.2.2.2.2.2.2.2.2.2.2.2.2.2.2.2.2.2.2.2.2.2.2.2.2.2.2.2.2.2.2.2.2.2.2.2.2.2.2.2.2.2.2.2.2.2.2.2.2.2.2.2.2.2.2.2.2.2.2.2.2.2.2.2.2.2.2.2.2.2.2.2.2.2.2.2.2.2.2.2.2.2.2.2.2.2.2.2.2.2.2.2.2.2.2.2.2.2.1) (x.2.2.2.2.2.2.2.2.2.2.2.2.2.2.2.2.2.2.2.2.2.2.2.2.2.2.2.2.2.2.2.2.2.2.2.2.2.2.2.2.2.2.2.2.2.2.2.2.2.2.2.2.2.2.2.2.2.2.2.2.2.2.2.2.2.2.2.2.2.2.2.2.2.2.2.2.2.2.2.2.2.2.2.2.2.2.2.2.2.2.2.2.2.2.2.2.2.2.2.2.2.2.2.2.2.2.2.2.2.2.2.2.2.2.2.2.2.2.2.2.2.2.2.2.2.1) (x.2.2.2.2.2.2.2.2.2.2.2.2.2.2.2.2.2.2.2.2.2.2.2.2.2.2.2.2.2.2.2.2.2.2.2.2.2.2.2.2.2.2.2.2.2.2.2.2.2.2.2.2.2.2.2.2.2.2.2.2.2.2.2.2.2.2.2.2.2.2.2.2.2.2.2.2.2.2.2.2.2.2.2.2.2.2.2.2.2.2.2.2.2.2.2.2.2.2.2.2.2.2.2.2.2.2.2.2.2.2.2.2.2.2.2.2.2.2.2.2.2.2.2.2.2.2.1) (x.2.2.2.2.2.2.2.2.2.2.2.2.2.2.2.2.2.2.2.2.2.2.2.2.2.2.2.2.2.2.2.2.2.2.2.2.2.2.2.2.2.2.2.2.2.2.2.2.2.2.2.2.2.2.2.2.2.2.2.2.2.2.2.2.2.2.2.2.2.2.2.2.2.2.2.2.2.2.2.2.2.2.2.2.2.2.2.2.2.2.2.2.2.2.2.2.2.2.2.2.2.2.2.2.2.2.2.2.2.2.2.2.2.2.2.2.2.2.2.2.2.2.2.2.2.2.2.1) (x.2.2.2.2.2.2.2.2.2.2.2.2.2.2.2.2.2.2.2.2.2.2.2.2.2.2.2.2.2.2.2.2.2.2.2.2.2.2.2.2.2.2.2.2.2.2.2.2.2.2.2.2.2.2.2.2.2.2.2.2.2.2.2.2.2.2.2.2.2.2.2.2.2.2.2.2.2.2.2.2.2.2.2.2.2.2.2.2.2.2.2.2.2.2.2.2.2.2.2.2.2.2.2.2.2.2.2.2.2.2.2.2.2.2.2.2.2.2.2.2.2.2.2.2.2.2.2.2.1) (x.2.2.2.2.2.2.2.2.2.2.2.2.2.2.2.2.2.2.2.2.2.2.2.2.2.2.2.2.2.2.2.2.2.2.2.2.2.2.2.2.2.2.2.2.2.2.2.2.2.2.2.2.2.2.2.2.2.2.2.2.2.2.2.2.2.2.2.2.2.2.2.2.2.2.2.2.2.2.2.2.2.2.2.2.2.2.2.2.2.2.2.2.2.2.2.2.2.2.2.2.2.2.2.2.2.2.2.2.2.2.2.2.2.2.2.2.2.2.2.2.2.2.2.2.2.2.2.2.2.1) (x.2.2.2.2.2.2.2.2.2.2.2.2.2.2.2.2.2.2.2.2.2.2.2.2.2.2.2.2.2.2.2.2.2.2.2.2.2.2.2.2.2.2.2.2.2.2.2.2.2.2.2.2.2.2.2.2.2.2.2.2.2.2.2.2.2.2.2.2.2.2.2.2.2.2.2.2.2.2.2.2.2.2.2.2.2.2.2.2.2.2.2.2.2.2.2.2.2.2.2.2.2.2.2.2.2.2.2.2.2.2.2.2.2.2.2.2.2.2.2.2.2.2.2.2.2.2.2.2.2.2.1) (x.2.2.2.2.2.2.2.2.2.2.2.2.2.2.2.2.2.2.2.2.2.2.2.2.2.2.2.2.2.2.2.2.2.2.2.2.2.2.2.2.2.2.2.2.2.2.2.2.2.2.2.2.2.2.2.2.2.2.2.2.2.2.2.2.2.2.2.2.2.2.2.2.2.2.2.2.2.2.2.2.2.2.2.2.2.2.2.2.2.2.2.2.2.2.2.2.2.2.2.2.2.2.2.2.2.2.2.2.2.2.2.2.2.2.2.2.2.2.2.2.2.2.2.2.2.2.2.2.2.2.2.1) (x.2.2.2.2.2.2.2.2.2.2.2.2.2.2.2.2.2.2.2.2.2.2.2.2.2.2.2.2.2.2.2.2.2.2.2.2.2.2.2.2.2.2.2.2.2.2.2.2.2.2.2.2.2.2.2.2.2.2.2.2.2.2.2.2.2.2.2.2.2.2.2.2.2.2.2.2.2.2.2.2.2.2.2.2.2.2.2.2.2.2.2.2.2.2.2.2.2.2.2.2.2.2.2.2.2.2.2.2.2.2.2.2.2.2.2.2.2.2.2.2.2.2.2.2.2.2.2.2.2.2.2.2.1) (x.2.2.2.2.2.2.2.2.2.2.2.2.2.2.2.2.2.2.2.2.2.2.2.2.2.2.2.2.2.2.2.2.2.2.2.2.2.2.2.2.2.2.2.2.2.2.2.2.2.2.2.2.2.2.2.2.2.2.2.2.2.2.2.2.2.2.2.2.2.2.2.2.2.2.2.2.2.2.2.2.2.2.2.2.2.2.2.2.2.2.2.2.2.2.2.2.2.2.2.2.2.2.2.2.2.2.2.2.2.2.2.2.2.2.2.2.2.2.2.2.2.2.2.2.2.2.2.2.2.2.2.2.2.1) (x.2.2.2.2.2.2.2.2.2.2.2.2.2.2.2.2.2.2.2.2.2.2.2.2.2.2.2.2.2.2.2.2.2.2.2.2.2.2.2.2.2.2.2.2.2.2.2.2.2.2.2.2.2.2.2.2.2.2.2.2.2.2.2.2.2.2.2.2.2.2.2.2.2.2.2.2.2.2.2.2.2.2.2.2.2.2.2.2.2.2.2.2.2.2.2.2.2.2.2.2.2.2.2.2.2.2.2.2.2.2.2.2.2.2.2.2.2.2.2.2.2.2.2.2.2.2.2.2.2.2.2.2.2.2.1) (x.2.2.2.2.2.2.2.2.2.2.2.2.2.2.2.2.2.2.2.2.2.2.2.2.2.2.2.2.2.2.2.2.2.2.2.2.2.2.2.2.2.2.2.2.2.2.2.2.2.2.2.2.2.2.2.2.2.2.2.2.2.2.2.2.2.2.2.2.2.2.2.2.2.2.2.2.2.2.2.2.2.2.2.2.2.2.2.2.2.2.2.2.2.2.2.2.2.2.2.2.2.2.2.2.2.2.2.2.2.2.2.2.2.2.2.2.2.2.2.2.2.2.2.2.2.2.2.2.2.2.2.2.2.2.2.1) (x.2.2.2.2.2.2.2.2.2.2.2.2.2.2.2.2.2.2.2.2.2.2.2.2.2.2.2.2.2.2.2.2.2.2.2.2.2.2.2.2.2.2.2.2.2.2.2.2.2.2.2.2.2.2.2.2.2.2.2.2.2.2.2.2.2.2.2.2.2.2.2.2.2.2.2.2.2.2.2.2.2.2.2.2.2.2.2.2.2.2.2.2.2.2.2.2.2.2.2.2.2.2.2.2.2.2.2.2.2.2.2.2.2.2.2.2.2.2.2.2.2.2.2.2.2.2.2.2.2.2.2.2.2.2.2.2.1) (x.2.2.2.2.2.2.2.2.2.2.2.2.2.2.2.2.2.2.2.2.2.2.2.2.2.2.2.2.2.2.2.2.2.2.2.2.2.2.2.2.2.2.2.2.2.2.2.2.2.2.2.2.2.2.2.2.2.2.2.2.2.2.2.2.2.2.2.2.2.2.2.2.2.2.2.2.2.2.2.2.2.2.2.2.2.2.2.2.2.2.2.2.2.2.2.2.2.2.2.2.2.2.2.2.2.2.2.2.2.2.2.2.2.2.2.2.2.2.2.2.2.2.2.2.2.2.2.2.2.2.2.2.2.2.2.2.2.1) (x.2.2.2.2.2.2.2.2.2.2.2.2.2.2.2.2.2.2.2.2.2.2.2.2.2.2.2.2.2.2.2.2.2.2.2.2.2.2.2.2.2.2.2.2.2.2.2.2.2.2.2.2.2.2.2.2.2.2.2.2.2.2.2.2.2.2.2.2.2.2.2.2.2.2.2.2.2.2.2.2.2.2.2.2.2.2.2.2.2.2.2.2.2.2.2.2.2.2.2.2.2.2.2.2.2.2.2.2.2.2.2.2.2.2.2.2.2.2.2.2.2.2.2.2.2.2.2.2.2.2.2.2.2.2.2.2.2.2.1) (x.2.2.2.2.2.2.2.2.2.2.2.2.2.2.2.2.2.2.2.2.2.2.2.2.2.2.2.2.2.2.2.2.2.2.2.2.2.2.2.2.2.2.2.2.2.2.2.2.2.2.2.2.2.2.2.2.2.2.2.2.2.2.2.2.2.2.2.2.2.2.2.2.2.2.2.2.2.2.2.2.2.2.2.2.2.2.2.2.2.2.2.2.2.2.2.2.2.2.2.2.2.2.2.2.2.2.2.2.2.2.2.2.2.2.2.2.2.2.2.2.2.2.2.2.2.2.2.2.2.2.2.2.2.2.2.2.2.2.2.1) (x.2.2.2.2.2.2.2.2.2.2.2.2.2.2.2.2.2.2.2.2.2.2.2.2.2.2.2.2.2.2.2.2.2.2.2.2.2.2.2.2.2.2.2.2.2.2.2.2.2.2.2.2.2.2.2.2.2.2.2.2.2.2.2.2.2.2.2.2.2.2.2.2.2.2.2.2.2.2.2.2.2.2.2.2.2.2.2.2.2.2.2.2.2.2.2.2.2.2.2.2.2.2.2.2.2.2.2.2.2.2.2.2.2.2.2.2.2.2.2.2.2.2.2.2.2.2.2.2.2.2.2.2.2.2.2.2.2.2.2.2.1) (x.2.2.2.2.2.2.2.2.2.2.2.2.2.2.2.2.2.2.2.2.2.2.2.2.2.2.2.2.2.2.2.2.2.2.2.2.2.2.2.2.2.2.2.2.2.2.2.2.2.2.2.2.2.2.2.2.2.2.2.2.2.2.2.2.2.2.2.2.2.2.2.2.2.2.2.2.2.2.2.2.2.2.2.2.2.2.2.2.2.2.2.2.2.2.2.2.2.2.2.2.2.2.2.2.2.2.2.2.2.2.2.2.2.2.2.2.2.2.2.2.2.2.2.2.2.2.2.2.2.2.2.2.2.2.2.2.2.2.2.2.2.1) (x.2.2.2.2.2.2.2.2.2.2.2.2.2.2.2.2.2.2.2.2.2.2.2.2.2.2.2.2.2.2.2.2.2.2.2.2.2.2.2.2.2.2.2.2.2.2.2.2.2.2.2.2.2.2.2.2.2.2.2.2.2.2.2.2.2.2.2.2.2.2.2.2.2.2.2.2.2.2.2.2.2.2.2.2.2.2.2.2.2.2.2.2.2.2.2.2.2.2.2.2.2.2.2.2.2.2.2.2.2.2.2.2.2.2.2.2.2.2.2.2.2.2.2.2.2.2.2.2.2.2.2.2.2.2.2.2.2.2.2.2.2.2.1) (x.2.2.2.2.2.2.2.2.2.2.2.2.2.2.2.2.2.2.2.2.2.2.2.2.2.2.2.2.2.2.2.2.2.2.2.2.2.2.2.2.2.2.2.2.2.2.2.2.2.2.2.2.2.2.2.2.2.2.2.2.2.2.2.2.2.2.2.2.2.2.2.2.2.2.2.2.2.2.2.2.2.2.2.2.2.2.2.2.2.2.2.2.2.2.2.2.2.2.2.2.2.2.2.2.2.2.2.2.2.2.2.2.2.2.2.2.2.2.2.2.2.2.2.2.2.2.2.2.2.2.2.2.2.2.2.2.2.2.2.2.2.2.2.1) (x.2.2.2.2.2.2.2.2.2.2.2.2.2.2.2.2.2.2.2.2.2.2.2.2.2.2.2.2.2.2.2.2.2.2.2.2.2.2.2.2.2.2.2.2.2.2.2.2.2.2.2.2.2.2.2.2.2.2.2.2.2.2.2.2.2.2.2.2.2.2.2.2.2.2.2.2.2.2.2.2.2.2.2.2.2.2.2.2.2.2.2.2.2.2.2.2.2.2.2.2.2.2.2.2.2.2.2.2.2.2.2.2.2.2.2.2.2.2.2.2.2.2.2.2.2.2.2.2.2.2.2.2.2.2.2.2.2.2.2.2.2.2.2.2.1) (x.2.2.2.2.2.2.2.2.2.2.2.2.2.2.2.2.2.2.2.2.2.2.2.2.2.2.2.2.2.2.2.2.2.2.2.2.2.2.2.2.2.2.2.2.2.2.2.2.2.2.2.2.2.2.2.2.2.2.2.2.2.2.2.2.2.2.2.2.2.2.2.2.2.2.2.2.2.2.2.2.2.2.2.2.2.2.2.2.2.2.2.2.2.2.2.2.2.2.2.2.2.2.2.2.2.2.2.2.2.2.2.2.2.2.2.2.2.2.2.2.2.2.2.2.2.2.2.2.2.2.2.2.2.2.2.2.2.2.2.2.2.2.2.2.2.1) (x.2.2.2.2.2.2.2.2.2.2.2.2.2.2.2.2.2.2.2.2.2.2.2.2.2.2.2.2.2.2.2.2.2.2.2.2.2.2.2.2.2.2.2.2.2.2.2.2.2.2.2.2.2.2.2.2.2.2.2.2.2.2.2.2.2.2.2.2.2.2.2.2.2.2.2.2.2.2.2.2.2.2.2.2.2.2.2.2.2.2.2.2.2.2.2.2.2.2.2.2.2.2.2.2.2.2.2.2.2.2.2.2.2.2.2.2.2.2.2.2.2.2.2.2.2.2.2.2.2.2.2.2.2.2.2.2.2.2.2.2.2.2.2.2.2.2.1) (x.2.2.2.2.2.2.2.2.2.2.2.2.2.2.2.2.2.2.2.2.2.2.2.2.2.2.2.2.2.2.2.2.2.2.2.2.2.2.2.2.2.2.2.2.2.2.2.2.2.2.2.2.2.2.2.2.2.2.2.2.2.2.2.2.2.2.2.2.2.2.2.2.2.2.2.2.2.2.2.2.2.2.2.2.2.2.2.2.2.2.2.2.2.2.2.2.2.2.2.2.2.2.2.2.2.2.2.2.2.2.2.2.2.2.2.2.2.2.2.2.2.2.2.2.2.2.2.2.2.2.2.2.2.2.2.2.2.2.2.2.2.2.2.2.2.2.2.1) (x.2.2.2.2.2.2.2.2.2.2.2.2.2.2.2.2.2.2.2.2.2.2.2.2.2.2.2.2.2.2.2.2.2.2.2.2.2.2.2.2.2.2.2.2.2.2.2.2.2.2.2.2.2.2.2.2.2.2.2.2.2.2.2.2.2.2.2.2.2.2.2.2.2.2.2.2.2.2.2.2.2.2.2.2.2.2.2.2.2.2.2.2.2.2.2.2.2.2.2.2.2.2.2.2.2.2.2.2.2.2.2.2.2.2.2.2.2.2.2.2.2.2.2.2.2.2.2.2.2.2.2.2.2.2.2.2.2.2.2.2.2.2.2.2.2.2.2.2.1) (x.2.2.2.2.2.2.2.2.2.2.2.2.2.2.2.2.2.2.2.2.2.2.2.2.2.2.2.2.2.2.2.2.2.2.2.2.2.2.2.2.2.2.2.2.2.2.2.2.2.2.2.2.2.2.2.2.2.2.2.2.2.2.2.2.2.2.2.2.2.2.2.2.2.2.2.2.2.2.2.2.2.2.2.2.2.2.2.2.2.2.2.2.2.2.2.2.2.2.2.2.2.2.2.2.2.2.2.2.2.2.2.2.2.2.2.2.2.2.2.2.2.2.2.2.2.2.2.2.2.2.2.2.2.2.2.2.2.2.2.2.2.2.2.2.2.2.2.2.2.1) (x.2.2.2.2.2.2.2.2.2.2.2.2.2.2.2.2.2.2.2.2.2.2.2.2.2.2.2.2.2.2.2.2.2.2.2.2.2.2.2.2.2.2.2.2.2.2.2.2.2.2.2.2.2.2.2.2.2.2.2.2.2.2.2.2.2.2.2.2.2.2.2.2.2.2.2.2.2.2.2.2.2.2.2.2.2.2.2.2.2.2.2.2.2.2.2.2.2.2.2.2.2.2.2.2.2.2.2.2.2.2.2.2.2.2.2.2.2.2.2.2.2.2.2.2.2.2.2.2.2.2.2.2.2.2.2.2.2.2.2.2.2.2.2.2.2.2.2.2.2.2.1) (x.2.2.2.2.2.2.2.2.2.2.2.2.2.2.2.2.2.2.2.2.2.2.2.2.2.2.2.2.2.2.2.2.2.2.2.2.2.2.2.2.2.2.2.2.2.2.2.2.2.2.2.2.2.2.2.2.2.2.2.2.2.2.2.2.2.2.2.2.2.2.2.2.2.2.2.2.2.2.2.2.2.2.2.2.2.2.2.2.2.2.2.2.2.2.2.2.2.2.2.2.2.2.2.2.2.2.2.2.2.2.2.2.2.2.2.2.2.2.2.2.2.2.2.2.2.2.2.2.2.2.2.2.2.2.2.2.2.2.2.2.2.2.2.2.2.2.2.2.2.2.2.1) (x.2.2.2.2.2.2.2.2.2.2.2.2.2.2.2.2.2.2.2.2.2.2.2.2.2.2.2.2.2.2.2.2.2.2.2.2.2.2.2.2.2.2.2.2.2.2.2.2.2.2.2.2.2.2.2.2.2.2.2.2.2.2.2.2.2.2.2.2.2.2.2.2.2.2.2.2.2.2.2.2.2.2.2.2.2.2.2.2.2.2.2.2.2.2.2.2.2.2.2.2.2.2.2.2.2.2.2.2.2.2.2.2.2.2.2.2.2.2.2.2.2.2.2.2.2.2.2.2.2.2.2.2.2.2.2.2.2.2.2.2.2.2.2.2.2.2.2.2.2.2.2.2.1) (x.2.2.2.2.2.2.2.2.2.2.2.2.2.2.2.2.2.2.2.2.2.2.2.2.2.2.2.2.2.2.2.2.2.2.2.2.2.2.2.2.2.2.2.2.2.2.2.2.2.2.2.2.2.2.2.2.2.2.2.2.2.2.2.2.2.2.2.2.2.2.2.2.2.2.2.2.2.2.2.2.2.2.2.2.2.2.2.2.2.2.2.2.2.2.2.2.2.2.2.2.2.2.2.2.2.2.2.2.2.2.2.2.2.2.2.2.2.2.2.2.2.2.2.2.2.2.2.2.2.2.2.2.2.2.2.2.2.2.2.2.2.2.2.2.2.2.2.2.2.2.2.2.2.1) (x.2.2.2.2.2.2.2.2.2.2.2.2.2.2.2.2.2.2.2.2.2.2.2.2.2.2.2.2.2.2.2.2.2.2.2.2.2.2.2.2.2.2.2.2.2.2.2.2.2.2.2.2.2.2.2.2.2.2.2.2.2.2.2.2.2.2.2.2.2.2.2.2.2.2.2.2.2.2.2.2.2.2.2.2.2.2.2.2.2.2.2.2.2.2.2.2.2.2.2.2.2.2.2.2.2.2.2.2.2.2.2.2.2.2.2.2.2.2.2.2.2.2.2.2.2.2.2.2.2.2.2.2.2.2.2.2.2.2.2.2.2.2.2.2.2.2.2.2.2.2.2.2.2.2.1) (x.2.2.2.2.2.2.2.2.2.2.2.2.2.2.2.2.2.2.2.2.2.2.2.2.2.2.2.2.2.2.2.2.2.2.2.2.2.2.2.2.2.2.2.2.2.2.2.2.2.2.2.2.2.2.2.2.2.2.2.2.2.2.2.2.2.2.2.2.2.2.2.2.2.2.2.2.2.2.2.2.2.2.2.2.2.2.2.2.2.2.2.2.2.2.2.2.2.2.2.2.2.2.2.2.2.2.2.2.2.2.2.2.2.2.2.2.2.2.2.2.2.2.2.2.2.2.2.2.2.2.2.2.2.2.2.2.2.2.2.2.2.2.2.2.2.2.2.2.2.2.2.2.2.2.2.1) (x.2.2.2.2.2.2.2.2.2.2.2.2.2.2.2.2.2.2.2.2.2.2.2.2.2.2.2.2.2.2.2.2.2.2.2.2.2.2.2.2.2.2.2.2.2.2.2.2.2.2.2.2.2.2.2.2.2.2.2.2.2.2.2.2.2.2.2.2.2.2.2.2.2.2.2.2.2.2.2.2.2.2.2.2.2.2.2.2.2.2.2.2.2.2.2.2.2.2.2.2.2.2.2.2.2.2.2.2.2.2.2.2.2.2.2.2.2.2.2.2.2.2.2.2.2.2.2.2.2.2.2.2.2.2.2.2.2.2.2.2.2.2.2.2.2.2.2.2.2.2.2.2.2.2.2.2.1) (x.2.2.2.2.2.2.2.2.2.2.2.2.2.2.2.2.2.2.2.2.2.2.2.2.2.2.2.2.2.2.2.2.2.2.2.2.2.2.2.2.2.2.2.2.2.2.2.2.2.2.2.2.2.2.2.2.2.2.2.2.2.2.2.2.2.2.2.2.2.2.2.2.2.2.2.2.2.2.2.2.2.2.2.2.2.2.2.2.2.2.2.2.2.2.2.2.2.2.2.2.2.2.2.2.2.2.2.2.2.2.2.2.2.2.2.2.2.2.2.2.2.2.2.2.2.2.2.2.2.2.2.2.2.2.2.2.2.2.2.2.2.2.2.2.2.2.2.2.2.2.2.2.2.2.2.2.2.1) (x.2.2.2.2.2.2.2.2.2.2.2.2.2.2.2.2.2.2.2.2.2.2.2.2.2.2.2.2.2.2.2.2.2.2.2.2.2.2.2.2.2.2.2.2.2.2.2.2.2.2.2.2.2.2.2.2.2.2.2.2.2.2.2.2.2.2.2.2.2.2.2.2.2.2.2.2.2.2.2.2.2.2.2.2.2.2.2.2.2.2.2.2.2.2.2.2.2.2.2.2.2.2.2.2.2.2.2.2.2.2.2.2.2.2.2.2.2.2.2.2.2.2.2.2.2.2.2.2.2.2.2.2.2.2.2.2.2.2.2.2.2.2.2.2.2.2.2.2.2.2.2.2.2.2.2.2.2.2.1) (x.2.2.2.2.2.2.2.2.2.2.2.2.2.2.2.2.2.2.2.2.2.2.2.2.2.2.2.2.2.2.2.2.2.2.2.2.2.2.2.2.2.2.2.2.2.2.2.2.2.2.2.2.2.2.2.2.2.2.2.2.2.2.2.2.2.2.2.2.2.2.2.2.2.2.2.2.2.2.2.2.2.2.2.2.2.2.2.2.2.2.2.2.2.2.2.2.2.2.2.2.2.2.2.2.2.2.2.2.2.2.2.2.2.2.2.2.2.2.2.2.2.2.2.2.2.2.2.2.2.2.2.2.2.2.2.2.2.2.2.2.2.2.2.2.2.2.2.2.2.2.2.2.2.2.2.2.2.2.2.1) (x.2.2.2.2.2.2.2.2.2.2.2.2.2.2.2.2.2.2.2.2.2.2.2.2.2.2.2.2.2.2.2.2.2.2.2.2.2.2.2.2.2.2.2.2.2.2.2.2.2.2.2.2.2.2.2.2.2.2.2.2.2.2.2.2.2.2.2.2.2.2.2.2.2.2.2.2.2.2.2.2.2.2.2.2.2.2.2.2.2.2.2.2.2.2.2.2.2.2.2.2.2.2.2.2.2.2.2.2.2.2.2.2.2.2.2.2.2.2.2.2.2.2.2.2.2.2.2.2.2.2.2.2.2.2.2.2.2.2.2.2.2.2.2.2.2.2.2.2.2.2.2.2.2.2.2.2.2.2.2.2.1) (x.2.2.2.2.2.2.2.2.2.2.2.2.2.2.2.2.2.2.2.2.2.2.2.2.2.2.2.2.2.2.2.2.2.2.2.2.2.2.2.2.2.2.2.2.2.2.2.2.2.2.2.2.2.2.2.2.2.2.2.2.2.2.2.2.2.2.2.2.2.2.2.2.2.2.2.2.2.2.2.2.2.2.2.2.2.2.2.2.2.2.2.2.2.2.2.2.2.2.2.2.2.2.2.2.2.2.2.2.2.2.2.2.2.2.2.2.2.2.2.2.2.2.2.2.2.2.2.2.2.2.2.2.2.2.2.2.2.2.2.2.2.2.2.2.2.2.2.2.2.2.2.2.2.2.2.2.2.2.2.2.2.1) (x.2.2.2.2.2.2.2.2.2.2.2.2.2.2.2.2.2.2.2.2.2.2.2.2.2.2.2.2.2.2.2.2.2.2.2.2.2.2.2.2.2.2.2.2.2.2.2.2.2.2.2.2.2.2.2.2.2.2.2.2.2.2.2.2.2.2.2.2.2.2.2.2.2.2.2.2.2.2.2.2.2.2.2.2.2.2.2.2.2.2.2.2.2.2.2.2.2.2.2.2.2.2.2.2.2.2.2.2.2.2.2.2.2.2.2.2.2.2.2.2.2.2.2.2.2.2.2.2.2.2.2.2.2.2.2.2.2.2.2.2.2.2.2.2.2.2.2.2.2.2.2.2.2.2.2.2.2.2.2.2.2.2.1) (x.2.2.2.2.2.2.2.2.2.2.2.2.2.2.2.2.2.2.2.2.2.2.2.2.2.2.2.2.2.2.2.2.2.2.2.2.2.2.2.2.2.2.2.2.2.2.2.2.2.2.2.2.2.2.2.2.2.2.2.2.2.2.2.2.2.2.2.2.2.2.2.2.2.2.2.2.2.2.2.2.2.2.2.2.2.2.2.2.2.2.2.2.2.2.2.2.2.2.2.2.2.2.2.2.2.2.2.2.2.2.2.2.2.2.2.2.2.2.2.2.2.2.2.2.2.2.2.2.2.2.2.2.2.2.2.2.2.2.2.2.2.2.2.2.2.2.2.2.2.2.2.2.2.2.2.2.2.2.2.2.2.2.2.1) (x.2.2.2.2.2.2.2.2.2.2.2.2.2.2.2.2.2.2.2.2.2.2.2.2.2.2.2.2.2.2.2.2.2.2.2.2.2.2.2.2.2.2.2.2.2.2.2.2.2.2.2.2.2.2.2.2.2.2.2.2.2.2.2.2.2.2.2.2.2.2.2.2.2.2.2.2.2.2.2.2.2.2.2.2.2.2.2.2.2.2.2.2.2.2.2.2.2.2.2.2.2.2.2.2.2.2.2.2.2.2.2.2.2.2.2.2.2.2.2.2.2.2.2.2.2.2.2.2.2.2.2.2.2.2.2.2.2.2.2.2.2.2.2.2.2.2.2.2.2.2.2.2.2.2.2.2.2.2.2.2.2.2.2.2.1) (x.2.2.2.2.2.2.2.2.2.2.2.2.2.2.2.2.2.2.2.2.2.2.2.2.2.2.2.2.2.2.2.2.2.2.2.2.2.2.2.2.2.2.2.2.2.2.2.2.2.2.2.2.2.2.2.2.2.2.2.2.2.2.2.2.2.2.2.2.2.2.2.2.2.2.2.2.2.2.2.2.2.2.2.2.2.2.2.2.2.2.2.2.2.2.2.2.2.2.2.2.2.2.2.2.2.2.2.2.2.2.2.2.2.2.2.2.2.2.2.2.2.2.2.2.2.2.2.2.2.2.2.2.2.2.2.2.2.2.2.2.2.2.2.2.2.2.2.2.2.2.2.2.2.2.2.2.2.2.2.2.2.2.2.2.2.1) (x.2.2.2.2.2.2.2.2.2.2.2.2.2.2.2.2.2.2.2.2.2.2.2.2.2.2.2.2.2.2.2.2.2.2.2.2.2.2.2.2.2.2.2.2.2.2.2.2.2.2.2.2.2.2.2.2.2.2.2.2.2.2.2.2.2.2.2.2.2.2.2.2.2.2.2.2.2.2.2.2.2.2.2.2.2.2.2.2.2.2.2.2.2.2.2.2.2.2.2.2.2.2.2.2.2.2.2.2.2.2.2.2.2.2.2.2.2.2.2.2.2.2.2.2.2.2.2.2.2.2.2.2.2.2.2.2.2.2.2.2.2.2.2.2.2.2.2.2.2.2.2.2.2.2.2.2.2.2.2.2.2.2.2.2.2.2.1) (x.2.2.2.2.2.2.2.2.2.2.2.2.2.2.2.2.2.2.2.2.2.2.2.2.2.2.2.2.2.2.2.2.2.2.2.2.2.2.2.2.2.2.2.2.2.2.2.2.2.2.2.2.2.2.2.2.2.2.2.2.2.2.2.2.2.2.2.2.2.2.2.2.2.2.2.2.2.2.2.2.2.2.2.2.2.2.2.2.2.2.2.2.2.2.2.2.2.2.2.2.2.2.2.2.2.2.2.2.2.2.2.2.2.2.2.2.2.2.2.2.2.2.2.2.2.2.2.2.2.2.2.2.2.2.2.2.2.2.2.2.2.2.2.2.2.2.2.2.2.2.2.2.2.2.2.2.2.2.2.2.2.2.2.2.2.2.2.1) (x.2.2.2.2.2.2.2.2.2.2.2.2.2.2.2.2.2.2.2.2.2.2.2.2.2.2.2.2.2.2.2.2.2.2.2.2.2.2.2.2.2.2.2.2.2.2.2.2.2.2.2.2.2.2.2.2.2.2.2.2.2.2.2.2.2.2.2.2.2.2.2.2.2.2.2.2.2.2.2.2.2.2.2.2.2.2.2.2.2.2.2.2.2.2.2.2.2.2.2.2.2.2.2.2.2.2.2.2.2.2.2.2.2.2.2.2.2.2.2.2.2.2.2.2.2.2.2.2.2.2.2.2.2.2.2.2.2.2.2.2.2.2.2.2.2.2.2.2.2.2.2.2.2.2.2.2.2.2.2.2.2.2.2.2.2.2.2.2.1) (x.2.2.2.2.2.2.2.2.2.2.2.2.2.2.2.2.2.2.2.2.2.2.2.2.2.2.2.2.2.2.2.2.2.2.2.2.2.2.2.2.2.2.2.2.2.2.2.2.2.2.2.2.2.2.2.2.2.2.2.2.2.2.2.2.2.2.2.2.2.2.2.2.2.2.2.2.2.2.2.2.2.2.2.2.2.2.2.2.2.2.2.2.2.2.2.2.2.2.2.2.2.2.2.2.2.2.2.2.2.2.2.2.2.2.2.2.2.2.2.2.2.2.2.2.2.2.2.2.2.2.2.2.2.2.2.2.2.2.2.2.2.2.2.2.2.2.2.2.2.2.2.2.2.2.2.2.2.2.2.2.2.2.2.2.2.2.2.2.2.1) (x.2.2.2.2.2.2.2.2.2.2.2.2.2.2.2.2.2.2.2.2.2.2.2.2.2.2.2.2.2.2.2.2.2.2.2.2.2.2.2.2.2.2.2.2.2.2.2.2.2.2.2.2.2.2.2.2.2.2.2.2.2.2.2.2.2.2.2.2.2.2.2.2.2.2.2.2.2.2.2.2.2.2.2.2.2.2.2.2.2.2.2.2.2.2.2.2.2.2.2.2.2.2.2.2.2.2.2.2.2.2.2.2.2.2.2.2.2.2.2.2.2.2.2.2.2.2.2.2.2.2.2.2.2.2.2.2.2.2.2.2.2.2.2.2.2.2.2.2.2.2.2.2.2.2.2.2.2.2.2.2.2.2.2.2.2.2.2.2.2.2.1) (x.2.2.2.2.2.2.2.2.2.2.2.2.2.2.2.2.2.2.2.2.2.2.2.2.2.2.2.2.2.2.2.2.2.2.2.2.2.2.2.2.2.2.2.2.2.2.2.2.2.2.2.2.2.2.2.2.2.2.2.2.2.2.2.2.2.2.2.2.2.2.2.2.2.2.2.2.2.2.2.2.2.2.2.2.2.2.2.2.2.2.2.2.2.2.2.2.2.2.2.2.2.2.2.2.2.2.2.2.2.2.2.2.2.2.2.2.2.2.2.2.2.2.2.2.2.2.2.2.2.2.2.2.2.2.2.2.2.2.2.2.2.2.2.2.2.2.2.2.2.2.2.2.2.2.2.2.2.2.2.2.2.2.2.2.2.2.2.2.2.2.2.1) (x.2.2.2.2.2.2.2.2.2.2.2.2.2.2.2.2.2.2.2.2.2.2.2.2.2.2.2.2.2.2.2.2.2.2.2.2.2.2.2.2.2.2.2.2.2.2.2.2.2.2.2.2.2.2.2.2.2.2.2.2.2.2.2.2.2.2.2.2.2.2.2.2.2.2.2.2.2.2.2.2.2.2.2.2.2.2.2.2.2.2.2.2.2.2.2.2.2.2.2.2.2.2.2.2.2.2.2.2.2.2.2.2.2.2.2.2.2.2.2.2.2.2.2.2.2.2.2.2.2.2.2.2.2.2.2.2.2.2.2.2.2.2.2.2.2.2.2.2.2.2.2.2.2.2.2.2.2.2.2.2.2.2.2.2.2.2.2.2.2.2.2.2.1) (x.2.2.2.2.2.2.2.2.2.2.2.2.2.2.2.2.2.2.2.2.2.2.2.2.2.2.2.2.2.2.2.2.2.2.2.2.2.2.2.2.2.2.2.2.2.2.2.2.2.2.2.2.2.2.2.2.2.2.2.2.2.2.2.2.2.2.2.2.2.2.2.2.2.2.2.2.2.2.2.2.2.2.2.2.2.2.2.2.2.2.2.2.2.2.2.2.2.2.2.2.2.2.2.2.2.2.2.2.2.2.2.2.2.2.2.2.2.2.2.2.2.2.2.2.2.2.2.2.2.2.2.2.2.2.2.2.2.2.2.2.2.2.2.2.2.2.2.2.2.2.2.2.2.2.2.2.2.2.2.2.2.2.2.2.2.2.2.2.2.2.2.2.2)
theorem ne : Nonempty Pack := ⟨(aWorld 1, default, default, default, default, default, default, default, default, default, default, (start Mine.view).1, default, default, default, default, default, default, default, default, default, default, default, default, default, default, default, default, default, default, default, default, default, default, default, default, default, default, default, default, default, default, default, default, default, default, default, default, default, default, default, default, default, default, default, default, default, default, default, default, default, default, default, default, default, default, default, default, default, default, default, default, default, default, default, default, default, default, default, default, default, default, default, default, default, default, default, default, default, default, default, default, default, default, default, default, default, default, default, default, default, default, default, default, default, default, default, default, default, default, default, default, default, default, default, default, default, default, default, default, default, default, default, default, default, default, default, default, default, default, default, default, default, default, default, default, default, default, default, default, default, default, default, default, default, default, default, default, default, default, default, default, default, default, default, default, default, default, default, default, default, default, default, default, default, default, default, default, default, default, default, default, default, default)⟩
@[irreducible] noncomputable def pk : Pack := bad ne PrX
@[irreducible] noncomputable def w : World := pk.1
@[irreducible] noncomputable def p : Program := pk.2.1
@[irreducible] noncomputable def loose : List Str := pk.2.2.1
@[irreducible] noncomputable def mean : ExcName → Option Value := pk.2.2.2.1
@[irreducible] noncomputable def mg : Str → Option Value := pk.2.2.2.2.1
@[irreducible] noncomputable def mb : Str → Option Value := pk.2.2.2.2.2.1
@[irreducible] noncomputable def fa : Addr := pk.2.2.2.2.2.2.1
@[irreducible] noncomputable def cd : Value := pk.2.2.2.2.2.2.2.1
@[irreducible] noncomputable def h₀ : Heap := pk.2.2.2.2.2.2.2.2.1
@[irreducible] noncomputable def L : Addr := pk.2.2.2.2.2.2.2.2.2.1
@[irreducible] noncomputable def m : Str → Option Value := pk.2.2.2.2.2.2.2.2.2.2.1
@[irreducible] noncomputable def s : Shared := pk.2.2.2.2.2.2.2.2.2.2.2.1
@[irreducible] noncomputable def Q : Flow → Shared → Prop := pk.2.2.2.2.2.2.2.2.2.2.2.2.1
@[irreducible] noncomputable def S : Addr := pk.2.2.2.2.2.2.2.2.2.2.2.2.2.1
@[irreducible] noncomputable def I : Addr := pk.2.2.2.2.2.2.2.2.2.2.2.2.2.2.1
@[irreducible] noncomputable def ns : Nat := pk.2.2.2.2.2.2.2.2.2.2.2.2.2.2.2.1
@[irreducible] noncomputable def ni : Nat := pk.2.2.2.2.2.2.2.2.2.2.2.2.2.2.2.2.1
@[irreducible] noncomputable def b1 : Addr := pk.2.2.2.2.2.2.2.2.2.2.2.2.2.2.2.2.2.1
@[irreducible] noncomputable def b2 : Addr := pk.2.2.2.2.2.2.2.2.2.2.2.2.2.2.2.2.2.2.1
@[irreducible] noncomputable def b3 : Addr := pk.2.2.2.2.2.2.2.2.2.2.2.2.2.2.2.2.2.2.2.1
@[irreducible] noncomputable def b4 : Addr := pk.2.2.2.2.2.2.2.2.2.2.2.2.2.2.2.2.2.2.2.2.1
@[irreducible] noncomputable def b5 : Addr := pk.2.2.2.2.2.2.2.2.2.2.2.2.2.2.2.2.2.2.2.2.2.1
@[irreducible] noncomputable def p1 : Int := pk.2.2.2.2.2.2.2.2.2.2.2.2.2.2.2.2.2.2.2.2.2.2.1
@[irreducible] noncomputable def q1 : Int := pk.2.2.2.2.2.2.2.2.2.2.2.2.2.2.2.2.2.2.2.2.2.2.2.1
@[irreducible] noncomputable def r1 : Int := pk.2.2.2.2.2.2.2.2.2.2.2.2.2.2.2.2.2.2.2.2.2.2.2.2.1
@[irreducible] noncomputable def v1 : Int := pk.2.2.2.2.2.2.2.2.2.2.2.2.2.2.2.2.2.2.2.2.2.2.2.2.2.1
@[irreducible] noncomputable def p2 : Int := pk.2.2.2.2.2.2.2.2.2.2.2.2.2.2.2.2.2.2.2.2.2.2.2.2.2.2.1
@[irreducible] noncomputable def q2 : Int := pk.2.2.2.2.2.2.2.2.2.2.2.2.2.2.2.2.2.2.2.2.2.2.2.2.2.2.2.1
@[irreducible] noncomputable def r2 : Int := pk.2.2.2.2.2.2.2.2.2.2.2.2.2.2.2.2.2.2.2.2.2.2.2.2.2.2.2.2.1
@[irreducible] noncomputable def v2 : Int := pk.2.2.2.2.2.2.2.2.2.2.2.2.2.2.2.2.2.2.2.2.2.2.2.2.2.2.2.2.2.1
@[irreducible] noncomputable def p3 : Int := pk.2.2.2.2.2.2.2.2.2.2.2.2.2.2.2.2.2.2.2.2.2.2.2.2.2.2.2.2.2.2.1
@[irreducible] noncomputable def q3 : Int := pk.2.2.2.2.2.2.2.2.2.2.2.2.2.2.2.2.2.2.2.2.2.2.2.2.2.2.2.2.2.2.2.1
@[irreducible] noncomputable def r3 : Int := pk.2.2.2.2.2.2.2.2.2.2.2.2.2.2.2.2.2.2.2.2.2.2.2.2.2.2.2.2.2.2.2.2.1
@[irreducible] noncomputable def v3 : Int := pk.2.2.2.2.2.2.2.2.2.2.2.2.2.2.2.2.2.2.2.2.2.2.2.2.2.2.2.2.2.2.2.2.2.1
@[irreducible] noncomputable def p4 : Int := pk.2.2.2.2.2.2.2.2.2.2.2.2.2.2.2.2.2.2.2.2.2.2.2.2.2.2.2.2.2.2.2.2.2.2.1
@[irreducible] noncomputable def q4 : Int := pk.2.2.2.2.2.2.2.2.2.2.2.2.2.2.2.2.2.2.2.2.2.2.2.2.2.2.2.2.2.2.2.2.2.2.2.1
@[irreducible] noncomputable def r4 : Int := pk.2.2.2.2.2.2.2.2.2.2.2.2.2.2.2.2.2.2.2.2.2.2.2.2.2.2.2.2.2.2.2.2.2.2.2.2.1
@[irreducible] noncomputable def v4 : Int := pk.2.2.2.2.2.2.2.2.2.2.2.2.2.2.2.2.2.2.2.2.2.2.2.2.2.2.2.2.2.2.2.2.2.2.2.2.2.1
@[irreducible] noncomputable def p5 : Int := pk.2.2.2.2.2.2.2.2.2.2.2.2.2.2.2.2.2.2.2.2.2.2.2.2.2.2.2.2.2.2.2.2.2.2.2.2.2.2.1
@[irreducible] noncomputable def q5 : Int := pk.2.2.2.2.2.2.2.2.2.2.2.2.2.2.2.2.2.2.2.2.2.2.2.2.2.2.2.2.2.2.2.2.2.2.2.2.2.2.2.1
@[irreducible] noncomputable def r5 : Int := pk.2.2.2.2.2.2.2.2.2.2.2.2.2.2.2.2.2.2.2.2.2.2.2.2.2.2.2.2.2.2.2.2.2.2.2.2.2.2.2.2.1
@[irreducible] noncomputable def v5 : Int := pk.2.2.2.2.2.2.2.2.2.2.2.2.2.2.2.2.2.2.2.2.2.2.2.2.2.2.2.2.2.2.2.2.2.2.2.2.2.2.2.2.2.1
@[irreducible] noncomputable def n1 : Nat := pk.2.2.2.2.2.2.2.2.2.2.2.2.2.2.2.2.2.2.2.2.2.2.2.2.2.2.2.2.2.2.2.2.2.2.2.2.2.2.2.2.2.2.1
@[irreducible] noncomputable def n2 : Nat := pk.2.2.2.2.2.2.2.2.2.2.2.2.2.2.2.2.2.2.2.2.2.2.2.2.2.2.2.2.2.2.2.2.2.2.2.2.2.2.2.2.2.2.2.1
@[irreducible] noncomputable def n3 : Nat := pk.2.2.2.2.2.2.2.2.2.2.2.2.2.2.2.2.2.2.2.2.2.2.2.2.2.2.2.2.2.2.2.2.2.2.2.2.2.2.2.2.2.2.2.2.1
@[irreducible] noncomputable def n4 : Nat := pk.2.2.2.2.2.2.2.2.2.2.2.2.2.2.2.2.2.2.2.2.2.2.2.2.2.2.2.2.2.2.2.2.2.2.2.2.2.2.2.2.2.2.2.2.2.1
@[irreducible] noncomputable def n5 : Nat := pk.2.2.2.2.2.2.2.2.2.2.2.2.2.2.2.2.2.2.2.2.2.2.2.2.2.2.2.2.2.2.2.2.2.2.2.2.2.2.2.2.2.2.2.2.2.2.1
@[irreducible] noncomputable def x1 : Tok := pk.2.2.2.2.2.2.2.2.2.2.2.2.2.2.2.2.2.2.2.2.2.2.2.2.2.2.2.2.2.2.2.2.2.2.2.2.2.2.2.2.2.2.2.2.2.2.2.1
@[irreducible] noncomputable def x1' : Tok := pk.2.2.2.2.2.2.2.2.2.2.2.2.2.2.2.2.2.2.2.2.2.2.2.2.2.2.2.2.2.2.2.2.2.2.2.2.2.2.2.2.2.2.2.2.2.2.2.2.1
@[irreducible] noncomputable def x1'' : Tok := pk.2.2.2.2.2.2.2.2.2.2.2.2.2.2.2.2.2.2.2.2.2.2.2.2.2.2.2.2.2.2.2.2.2.2.2.2.2.2.2.2.2.2.2.2.2.2.2.2.2.1
@[irreducible] noncomputable def y1 : Tok := pk.2.2.2.2.2.2.2.2.2.2.2.2.2.2.2.2.2.2.2.2.2.2.2.2.2.2.2.2.2.2.2.2.2.2.2.2.2.2.2.2.2.2.2.2.2.2.2.2.2.2.1
@[irreducible] noncomputable def x2 : Tok := pk.2.2.2.2.2.2.2.2.2.2.2.2.2.2.2.2.2.2.2.2.2.2.2.2.2.2.2.2.2.2.2.2.2.2.2.2.2.2.2.2.2.2.2.2.2.2.2.2.2.2.2.1
@[irreducible] noncomputable def x2' : Tok := pk.2.2.2.2.2.2.2.2.2.2.2.2.2.2.2.2.2.2.2.2.2.2.2.2.2.2.2.2.2.2.2.2.2.2.2.2.2.2.2.2.2.2.2.2.2.2.2.2.2.2.2.2.1
@[irreducible] noncomputable def x2'' : Tok := pk.2.2.2.2.2.2.2.2.2.2.2.2.2.2.2.2.2.2.2.2.2.2.2.2.2.2.2.2.2.2.2.2.2.2.2.2.2.2.2.2.2.2.2.2.2.2.2.2.2.2.2.2.2.1
@[irreducible] noncomputable def y2 : Tok := pk.2.2.2.2.2.2.2.2.2.2.2.2.2.2.2.2.2.2.2.2.2.2.2.2.2.2.2.2.2.2.2.2.2.2.2.2.2.2.2.2.2.2.2.2.2.2.2.2.2.2.2.2.2.2.1
@[irreducible] noncomputable def x3 : Tok := pk.2.2.2.2.2.2.2.2.2.2.2.2.2.2.2.2.2.2.2.2.2.2.2.2.2.2.2.2.2.2.2.2.2.2.2.2.2.2.2.2.2.2.2.2.2.2.2.2.2.2.2.2.2.2.2.1
@[irreducible] noncomputable def x3' : Tok := pk.2.2.2.2.2.2.2.2.2.2.2.2.2.2.2.2.2.2.2.2.2.2.2.2.2.2.2.2.2.2.2.2.2.2.2.2.2.2.2.2.2.2.2.2.2.2.2.2.2.2.2.2.2.2.2.2.1
@[irreducible] noncomputable def x3'' : Tok := pk.2.2.2.2.2.2.2.2.2.2.2.2.2.2.2.2.2.2.2.2.2.2.2.2.2.2.2.2.2.2.2.2.2.2.2.2.2.2.2.2.2.2.2.2.2.2.2.2.2.2.2.2.2.2.2.2.2.1
@[irreducible] noncomputable def y3 : Tok := pk.2.2.2.2.2.2.2.2.2.2.2.2.2.2.2.2.2.2.2.2.2.2.2.2.2.2.2.2.2.2.2.2.2.2.2.2.2.2.2.2.2.2.2.2.2.2.2.2.2.2.2.2.2.2.2.2.2.2.1
@[irreducible] noncomputable def x4 : Tok := pk.2.2.2.2.2.2.2.2.2.2.2.2.2.2.2.2.2.2.2.2.2.2.2.2.2.2.2.2.2.2.2.2.2.2.2.2.2.2.2.2.2.2.2.2.2.2.2.2.2.2.2.2.2.2.2.2.2.2.2.1
@[irreducible] noncomputable def x4' : Tok := pk.2.2.2.2.2.2.2.2.2.2.2.2.2.2.2.2.2.2.2.2.2.2.2.2.2.2.2.2.2.2.2.2.2.2.2.2.2.2.2.2.2.2.2.2.2.2.2.2.2.2.2.2.2.2.2.2.2.2.2.2.1
@[irreducible] noncomputable def x4'' : Tok := pk.2.2.2.2.2.2.2.2.2.2.2.2.2.2.2.2.2.2.2.2.2.2.2.2.2.2.2.2.2.2.2.2.2.2.2.2.2.2.2.2.2.2.2.2.2.2.2.2.2.2.2.2.2.2.2.2.2.2.2.2.2.1
@[irreducible] noncomputable def y4 : Tok := pk.2.2.2.2.2.2.2.2.2.2.2.2.2.2.2.2.2.2.2.2.2.2.2.2.2.2.2.2.2.2.2.2.2.2.2.2.2.2.2.2.2.2.2.2.2.2.2.2.2.2.2.2.2.2.2.2.2.2.2.2.2.2.1
@[irreducible] noncomputable def x5 : Tok := pk.2.2.2.2.2.2.2.2.2.2.2.2.2.2.2.2.2.2.2.2.2.2.2.2.2.2.2.2.2.2.2.2.2.2.2.2.2.2.2.2.2.2.2.2.2.2.2.2.2.2.2.2.2.2.2.2.2.2.2.2.2.2.2.1
@[irreducible] noncomputable def x5' : Tok := pk.2.2.2.2.2.2.2.2.2.2.2.2.2.2.2.2.2.2.2.2.2.2.2.2.2.2.2.2.2.2.2.2.2.2.2.2.2.2.2.2.2.2.2.2.2.2.2.2.2.2.2.2.2.2.2.2.2.2.2.2.2.2.2.2.1
@[irreducible] noncomputable def x5'' : Tok := pk.2.2.2.2.2.2.2.2.2.2.2.2.2.2.2.2.2.2.2.2.2.2.2.2.2.2.2.2.2.2.2.2.2.2.2.2.2.2.2.2.2.2.2.2.2.2.2.2.2.2.2.2.2.2.2.2.2.2.2.2.2.2.2.2.2.1
@[irreducible] noncomputable def y5 : Tok := pk.2.2.2.2.2.2.2.2.2.2.2.2.2.2.2.2.2.2.2.2.2.2.2.2.2.2.2.2.2.2.2.2.2.2.2.2.2.2.2.2.2.2.2.2.2.2.2.2.2.2.2.2.2.2.2.2.2.2.2.2.2.2.2.2.2.2.1
@[irreducible] noncomputable def G : Addr := pk.2.2.2.2.2.2.2.2.2.2.2.2.2.2.2.2.2.2.2.2.2.2.2.2.2.2.2.2.2.2.2.2.2.2.2.2.2.2.2.2.2.2.2.2.2.2.2.2.2.2.2.2.2.2.2.2.2.2.2.2.2.2.2.2.2.2.2.1
@[irreducible] noncomputable def jG : Nat := pk.2.2.2.2.2.2.2.2.2.2.2.2.2.2.2.2.2.2.2.2.2.2.2.2.2.2.2.2.2.2.2.2.2.2.2.2.2.2.2.2.2.2.2.2.2.2.2.2.2.2.2.2.2.2.2.2.2.2.2.2.2.2.2.2.2.2.2.2.1
@[irreducible] noncomputable def e0 : Addr := pk.2.2.2.2.2.2.2.2.2.2.2.2.2.2.2.2.2.2.2.2.2.2.2.2.2.2.2.2.2.2.2.2.2.2.2.2.2.2.2.2.2.2.2.2.2.2.2.2.2.2.2.2.2.2.2.2.2.2.2.2.2.2.2.2.2.2.2.2.2.1
@[irreducible] noncomputable def e1 : Addr := pk.2.2.2.2.2.2.2.2.2.2.2.2.2.2.2.2.2.2.2.2.2.2.2.2.2.2.2.2.2.2.2.2.2.2.2.2.2.2.2.2.2.2.2.2.2.2.2.2.2.2.2.2.2.2.2.2.2.2.2.2.2.2.2.2.2.2.2.2.2.2.1
@[irreducible] noncomputable def e2 : Addr := pk.2.2.2.2.2.2.2.2.2.2.2.2.2.2.2.2.2.2.2.2.2.2.2.2.2.2.2.2.2.2.2.2.2.2.2.2.2.2.2.2.2.2.2.2.2.2.2.2.2.2.2.2.2.2.2.2.2.2.2.2.2.2.2.2.2.2.2.2.2.2.2.1
@[irreducible] noncomputable def e3 : Addr := pk.2.2.2.2.2.2.2.2.2.2.2.2.2.2.2.2.2.2.2.2.2.2.2.2.2.2.2.2.2.2.2.2.2.2.2.2.2.2.2.2.2.2.2.2.2.2.2.2.2.2.2.2.2.2.2.2.2.2.2.2.2.2.2.2.2.2.2.2.2.2.2.2.1
@[irreducible] noncomputable def e4 : Addr := pk.2.2.2.2.2.2.2.2.2.2.2.2.2.2.2.2.2.2.2.2.2.2.2.2.2.2.2.2.2.2.2.2.2.2.2.2.2.2.2.2.2.2.2.2.2.2.2.2.2.2.2.2.2.2.2.2.2.2.2.2.2.2.2.2.2.2.2.2.2.2.2.2.2.1
@[irreducible] noncomputable def e5 : Addr := pk.2.2.2.2.2.2.2.2.2.2.2.2.2.2.2.2.2.2.2.2.2.2.2.2.2.2.2.2.2.2.2.2.2.2.2.2.2.2.2.2.2.2.2.2.2.2.2.2.2.2.2.2.2.2.2.2.2.2.2.2.2.2.2.2.2.2.2.2.2.2.2.2.2.2.1
@[irreducible] noncomputable def e6 : Addr := pk.2.2.2.2.2.2.2.2.2.2.2.2.2.2.2.2.2.2.2.2.2.2.2.2.2.2.2.2.2.2.2.2.2.2.2.2.2.2.2.2.2.2.2.2.2.2.2.2.2.2.2.2.2.2.2.2.2.2.2.2.2.2.2.2.2.2.2.2.2.2.2.2.2.2.2.1
@[irreducible] noncomputable def e7 : Addr := pk.2.2.2.2.2.2.2.2.2.2.2.2.2.2.2.2.2.2.2.2.2.2.2.2.2.2.2.2.2.2.2.2.2.2.2.2.2.2.2.2.2.2.2.2.2.2.2.2.2.2.2.2.2.2.2.2.2.2.2.2.2.2.2.2.2.2.2.2.2.2.2.2.2.2.2.2.1
@[irreducible] noncomputable def g01 : Int := pk.2.2.2.2.2.2.2.2.2.2.2.2.2.2.2.2.2.2.2.2.2.2.2.2.2.2.2.2.2.2.2.2.2.2.2.2.2.2.2.2.2.2.2.2.2.2.2.2.2.2.2.2.2.2.2.2.2.2.2.2.2.2.2.2.2.2.2.2.2.2.2.2.2.2.2.2.2.1
@[irreducible] noncomputable def g02 : Int := pk.2.2.2.2.2.2.2.2.2.2.2.2.2.2.2.2.2.2.2.2.2.2.2.2.2.2.2.2.2.2.2.2.2.2.2.2.2.2.2.2.2.2.2.2.2.2.2.2.2.2.2.2.2.2.2.2.2.2.2.2.2.2.2.2.2.2.2.2.2.2.2.2.2.2.2.2.2.2.1
@[irreducible] noncomputable def g03 : Int := pk.2.2.2.2.2.2.2.2.2.2.2.2.2.2.2.2.2.2.2.2.2.2.2.2.2.2.2.2.2.2.2.2.2.2.2.2.2.2.2.2.2.2.2.2.2.2.2.2.2.2.2.2.2.2.2.2.2.2.2.2.2.2.2.2.2.2.2.2.2.2.2.2.2.2.2.2.2.2.2.1
@[irreducible] noncomputable def g04 : Int := pk.2.2.2.2.2.2.2.2.2.2.2.2.2.2.2.2.2.2.2.2.2.2.2.2.2.2.2.2.2.2.2.2.2.2.2.2.2.2.2.2.2.2.2.2.2.2.2.2.2.2.2.2.2.2.2.2.2.2.2.2.2.2.2.2.2.2.2.2.2.2.2.2.2.2.2.2.2.2.2.2.1
@[irreducible] noncomputable def g05 : Int := pk.2.2.2.2.2.2.2.2.2.2.2.2.2.2.2.2.2.2.2.2.2.2.2.2.2.2.2.2.2.2.2.2.2.2.2.2.2.2.2.2.2.2.2.2.2.2.2.2.2.2.2.2.2.2.2.2.2.2.2.2.2.2.2.2.2.2.2.2.2.2.2.2.2.2.2.2.2.2.2.2.2.1
@[irreducible] noncomputable def g11 : Int := pk.2.2.2.2.2.2.2.2.2.2.2.2.2.2.2.2.2.2.2.2.2.2.2.2.2.2.2.2.2.2.2.2.2.2.2.2.2.2.2.2.2.2.2.2.2.2.2.2.2.2.2.2.2.2.2.2.2.2.2.2.2.2.2.2.2.2.2.2.2.2.2.2.2.2.2.2.2.2.2.2.2.2.1
@[irreducible] noncomputable def g12 : Int := pk.2.2.2.2.2.2.2.2.2.2.2.2.2.2.2.2.2.2.2.2.2.2.2.2.2.2.2.2.2.2.2.2.2.2.2.2.2.2.2.2.2.2.2.2.2.2.2.2.2.2.2.2.2.2.2.2.2.2.2.2.2.2.2.2.2.2.2.2.2.2.2.2.2.2.2.2.2.2.2.2.2.2.2.1
@[irreducible] noncomputable def g13 : Int := pk.2.2.2.2.2.2.2.2.2.2.2.2.2.2.2.2.2.2.2.2.2.2.2.2.2.2.2.2.2.2.2.2.2.2.2.2.2.2.2.2.2.2.2.2.2.2.2.2.2.2.2.2.2.2.2.2.2.2.2.2.2.2.2.2.2.2.2.2.2.2.2.2.2.2.2.2.2.2.2.2.2.2.2.2.1
@[irreducible] noncomputable def g14 : Int := pk.2.2.2.2.2.2.2.2.2.2.2.2.2.2.2.2.2.2.2.2.2.2.2.2.2.2.2.2.2.2.2.2.2.2.2.2.2.2.2.2.2.2.2.2.2.2.2.2.2.2.2.2.2.2.2.2.2.2.2.2.2.2.2.2.2.2.2.2.2.2.2.2.2.2.2.2.2.2.2.2.2.2.2.2.2.1
@[irreducible] noncomputable def g15 : Int := pk.2.2.2.2.2.2.2.2.2.2.2.2.2.2.2.2.2.2.2.2.2.2.2.2.2.2.2.2.2.2.2.2.2.2.2.2.2.2.2.2.2.2.2.2.2.2.2.2.2.2.2.2.2.2.2.2.2.2.2.2.2.2.2.2.2.2.2.2.2.2.2.2.2.2.2.2.2.2.2.2.2.2.2.2.2.2.1
@[irreducible] noncomputable def g21 : Int := pk.2.2.2.2.2.2.2.2.2.2.2.2.2.2.2.2.2.2.2.2.2.2.2.2.2.2.2.2.2.2.2.2.2.2.2.2.2.2.2.2.2.2.2.2.2.2.2.2.2.2.2.2.2.2.2.2.2.2.2.2.2.2.2.2.2.2.2.2.2.2.2.2.2.2.2.2.2.2.2.2.2.2.2.2.2.2.2.1
@[irreducible] noncomputable def g22 : Int := pk.2.2.2.2.2.2.2.2.2.2.2.2.2.2.2.2.2.2.2.2.2.2.2.2.2.2.2.2.2.2.2.2.2.2.2.2.2.2.2.2.2.2.2.2.2.2.2.2.2.2.2.2.2.2.2.2.2.2.2.2.2.2.2.2.2.2.2.2.2.2.2.2.2.2.2.2.2.2.2.2.2.2.2.2.2.2.2.2.1
@[irreducible] noncomputable def g23 : Int := pk.2.2.2.2.2.2.2.2.2.2.2.2.2.2.2.2.2.2.2.2.2.2.2.2.2.2.2.2.2.2.2.2.2.2.2.2.2.2.2.2.2.2.2.2.2.2.2.2.2.2.2.2.2.2.2.2.2.2.2.2.2.2.2.2.2.2.2.2.2.2.2.2.2.2.2.2.2.2.2.2.2.2.2.2.2.2.2.2.2.1
@[irreducible] noncomputable def g24 : Int := pk.2.2.2.2.2.2.2.2.2.2.2.2.2.2.2.2.2.2.2.2.2.2.2.2.2.2.2.2.2.2.2.2.2.2.2.2.2.2.2.2.2.2.2.2.2.2.2.2.2.2.2.2.2.2.2.2.2.2.2.2.2.2.2.2.2.2.2.2.2.2.2.2.2.2.2.2.2.2.2.2.2.2.2.2.2.2.2.2.2.2.1
@[irreducible] noncomputable def g25 : Int := pk.2.2.2.2.2.2.2.2.2.2.2.2.2.2.2.2.2.2.2.2.2.2.2.2.2.2.2.2.2.2.2.2.2.2.2.2.2.2.2.2.2.2.2.2.2.2.2.2.2.2.2.2.2.2.2.2.2.2.2.2.2.2.2.2.2.2.2.2.2.2.2.2.2.2.2.2.2.2.2.2.2.2.2.2.2.2.2.2.2.2.2.1
@[irreducible] noncomputable def g31 : Int := pk.2.2.2.2.2.2.2.2.2.2.2.2.2.2.2.2.2.2.2.2.2.2.2.2.2.2.2.2.2.2.2.2.2.2.2.2.2.2.2.2.2.2.2.2.2.2.2.2.2.2.2.2.2.2.2.2.2.2.2.2.2.2.2.2.2.2.2.2.2.2.2.2.2.2.2.2.2.2.2.2.2.2.2.2.2.2.2.2.2.2.2.2.1
@[irreducible] noncomputable def g32 : Int := pk.2.2.2.2.2.2.2.2.2.2.2.2.2.2.2.2.2.2.2.2.2.2.2.2.2.2.2.2.2.2.2.2.2.2.2.2.2.2.2.2.2.2.2.2.2.2.2.2.2.2.2.2.2.2.2.2.2.2.2.2.2.2.2.2.2.2.2.2.2.2.2.2.2.2.2.2.2.2.2.2.2.2.2.2.2.2.2.2.2.2.2.2.2.1
@[irreducible] noncomputable def g33 : Int := pk.2.2.2.2.2.2.2.2.2.2.2.2.2.2.2.2.2.2.2.2.2.2.2.2.2.2.2.2.2.2.2.2.2.2.2.2.2.2.2.2.2.2.2.2.2.2.2.2.2.2.2.2.2.2.2.2.2.2.2.2.2.2.2.2.2.2.2.2.2.2.2.2.2.2.2.2.2.2.2.2.2.2.2.2.2.2.2.2.2.2.2.2.2.2.1
@[irreducible] noncomputable def g34 : Int := pk.2.2.2.2.2.2.2.2.2.2.2.2.2.2.2.2.2.2.2.2.2.2.2.2.2.2.2.2.2.2.2.2.2.2.2.2.2.2.2.2.2.2.2.2.2.2.2.2.2.2.2.2.2.2.2.2.2.2.2.2.2.2.2.2.2.2.2.2.2.2.2.2.2.2.2.2.2.2.2.2.2.2.2.2.2.2.2.2.2.2.2.2.2.2.2.1
@[irreducible] noncomputable def g35 : Int := pk.2.2.2.2.2.2.2.2.2.2.2.2.2.2.2.2.2.2.2.2.2.2.2.2.2.2.2.2.2.2.2.2.2.2.2.2.2.2.2.2.2.2.2.2.2.2.2.2.2.2.2.2.2.2.2.2.2.2.2.2.2.2.2.2.2.2.2.2.2.2.2.2.2.2.2.2.2.2.2.2.2.2.2.2.2.2.2.2.2.2.2.2.2.2.2.2.1
@[irreducible] noncomputable def g41 : Int := pk.2.2.2.2.2.2.2.2.2.2.2.2.2.2.2.2.2.2.2.2.2.2.2.2.2.2.2.2.2.2.2.2.2.2.2.2.2.2.2.2.2.2.2.2.2.2.2.2.2.2.2.2.2.2.2.2.2.2.2.2.2.2.2.2.2.2.2.2.2.2.2.2.2.2.2.2.2.2.2.2.2.2.2.2.2.2.2.2.2.2.2.2.2.2.2.2.2.1
@[irreducible] noncomputable def g42 : Int := pk.2.2.2.2.2.2.2.2.2.2.2.2.2.2.2.2.2.2.2.2.2.2.2.2.2.2.2.2.2.2.2.2.2.2.2.2.2.2.2.2.2.2.2.2.2.2.2.2.2.2.2.2.2.2.2.2.2.2.2.2.2.2.2.2.2.2.2.2.2.2.2.2.2.2.2.2.2.2.2.2.2.2.2.2.2.2.2.2.2.2.2.2.2.2.2.2.2.2.1
@[irreducible] noncomputable def g43 : Int := pk.2.2.2.2.2.2.2.2.2.2.2.2.2.2.2.2.2.2.2.2.2.2.2.2.2.2.2.2.2.2.2.2.2.2.2.2.2.2.2.2.2.2.2.2.2.2.2.2.2.2.2.2.2.2.2.2.2.2.2.2.2.2.2.2.2.2.2.2.2.2.2.2.2.2.2.2.2.2.2.2.2.2.2.2.2.2.2.2.2.2.2.2.2.2.2.2.2.2.2.1
@[irreducible] noncomputable def g44 : Int := pk.2.2.2.2.2.2.2.2.2.2.2.2.2.2.2.2.2.2.2.2.2.2.2.2.2.2.2.2.2.2.2.2.2.2.2.2.2.2.2.2.2.2.2.2.2.2.2.2.2.2.2.2.2.2.2.2.2.2.2.2.2.2.2.2.2.2.2.2.2.2.2.2.2.2.2.2.2.2.2.2.2.2.2.2.2.2.2.2.2.2.2.2.2.2.2.2.2.2.2.2.1
@[irreducible] noncomputable def g45 : Int := pk.2.2.2.2.2.2.2.2.2.2.2.2.2.2.2.2.2.2.2.2.2.2.2.2.2.2.2.2.2.2.2.2.2.2.2.2.2.2.2.2.2.2.2.2.2.2.2.2.2.2.2.2.2.2.2.2.2.2.2.2.2.2.2.2.2.2.2.2.2.2.2.2.2.2.2.2.2.2.2.2.2.2.2.2.2.2.2.2.2.2.2.2.2.2.2.2.2.2.2.2.2.1
@[irreducible] noncomputable def g51 : Int := pk.2.2.2.2.2.2.2.2.2.2.2.2.2.2.2.2.2.2.2.2.2.2.2.2.2.2.2.2.2.2.2.2.2.2.2.2.2.2.2.2.2.2.2.2.2.2.2.2.2.2.2.2.2.2.2.2.2.2.2.2.2.2.2.2.2.2.2.2.2.2.2.2.2.2.2.2.2.2.2.2.2.2.2.2.2.2.2.2.2.2.2.2.2.2.2.2.2.2.2.2.2.2.1
@[irreducible] noncomputable def g52 : Int := pk.2.2.2.2.2.2.2.2.2.2.2.2.2.2.2.2.2.2.2.2.2.2.2.2.2.2.2.2.2.2.2.2.2.2.2.2.2.2.2.2.2.2.2.2.2.2.2.2.2.2.2.2.2.2.2.2.2.2.2.2.2.2.2.2.2.2.2.2.2.2.2.2.2.2.2.2.2.2.2.2.2.2.2.2.2.2.2.2.2.2.2.2.2.2.2.2.2.2.2.2.2.2.2.1
@[irreducible] noncomputable def g53 : Int := pk.2.2.2.2.2.2.2.2.2.2.2.2.2.2.2.2.2.2.2.2.2.2.2.2.2.2.2.2.2.2.2.2.2.2.2.2.2.2.2.2.2.2.2.2.2.2.2.2.2.2.2.2.2.2.2.2.2.2.2.2.2.2.2.2.2.2.2.2.2.2.2.2.2.2.2.2.2.2.2.2.2.2.2.2.2.2.2.2.2.2.2.2.2.2.2.2.2.2.2.2.2.2.2.2.1
@[irreducible] noncomputable def g54 : Int := pk.2.2.2.2.2.2.2.2.2.2.2.2.2.2.2.2.2.2.2.2.2.2.2.2.2.2.2.2.2.2.2.2.2.2.2.2.2.2.2.2.2.2.2.2.2.2.2.2.2.2.2.2.2.2.2.2.2.2.2.2.2.2.2.2.2.2.2.2.2.2.2.2.2.2.2.2.2.2.2.2.2.2.2.2.2.2.2.2.2.2.2.2.2.2.2.2.2.2.2.2.2.2.2.2.2.1
@[irreducible] noncomputable def g55 : Int := pk.2.2.2.2.2.2.2.2.2.2.2.2.2.2.2.2.2.2.2.2.2.2.2.2.2.2.2.2.2.2.2.2.2.2.2.2.2.2.2.2.2.2.2.2.2.2.2.2.2.2.2.2.2.2.2.2.2.2.2.2.2.2.2.2.2.2.2.2.2.2.2.2.2.2.2.2.2.2.2.2.2.2.2.2.2.2.2.2.2.2.2.2.2.2.2.2.2.2.2.2.2.2.2.2.2.2.1
@[irreducible] noncomputable def g61 : Int := pk.2.2.2.2.2.2.2.2.2.2.2.2.2.2.2.2.2.2.2.2.2.2.2.2.2.2.2.2.2.2.2.2.2.2.2.2.2.2.2.2.2.2.2.2.2.2.2.2.2.2.2.2.2.2.2.2.2.2.2.2.2.2.2.2.2.2.2.2.2.2.2.2.2.2.2.2.2.2.2.2.2.2.2.2.2.2.2.2.2.2.2.2.2.2.2.2.2.2.2.2.2.2.2.2.2.2.2.1
@[irreducible] noncomputable def g62 : Int := pk.2.2.2.2.2.2.2.2.2.2.2.2.2.2.2.2.2.2.2.2.2.2.2.2.2.2.2.2.2.2.2.2.2.2.2.2.2.2.2.2.2.2.2.2.2.2.2.2.2.2.2.2.2.2.2.2.2.2.2.2.2.2.2.2.2.2.2.2.2.2.2.2.2.2.2.2.2.2.2.2.2.2.2.2.2.2.2.2.2.2.2.2.2.2.2.2.2.2.2.2.2.2.2.2.2.2.2.2.1
@[irreducible] noncomputable def g63 : Int := pk.2.2.2.2.2.2.2.2.2.2.2.2.2.2.2.2.2.2.2.2.2.2.2.2.2.2.2.2.2.2.2.2.2.2.2.2.2.2.2.2.2.2.2.2.2.2.2.2.2.2.2.2.2.2.2.2.2.2.2.2.2.2.2.2.2.2.2.2.2.2.2.2.2.2.2.2.2.2.2.2.2.2.2.2.2.2.2.2.2.2.2.2.2.2.2.2.2.2.2.2.2.2.2.2.2.2.2.2.2.1
@[irreducible] noncomputable def g64 : Int := pk.2.2.2.2.2.2.2.2.2.2.2.2.2.2.2.2.2.2.2.2.2.2.2.2.2.2.2.2.2.2.2.2.2.2.2.2.2.2.2.2.2.2.2.2.2.2.2.2.2.2.2.2.2.2.2.2.2.2.2.2.2.2.2.2.2.2.2.2.2.2.2.2.2.2.2.2.2.2.2.2.2.2.2.2.2.2.2.2.2.2.2.2.2.2.2.2.2.2.2.2.2.2.2.2.2.2.2.2.2.2.1
@[irreducible] noncomputable def g65 : Int := pk.2.2.2.2.2.2.2.2.2.2.2.2.2.2.2.2.2.2.2.2.2.2.2.2.2.2.2.2.2.2.2.2.2.2.2.2.2.2.2.2.2.2.2.2.2.2.2.2.2.2.2.2.2.2.2.2.2.2.2.2.2.2.2.2.2.2.2.2.2.2.2.2.2.2.2.2.2.2.2.2.2.2.2.2.2.2.2.2.2.2.2.2.2.2.2.2.2.2.2.2.2.2.2.2.2.2.2.2.2.2.2.1
@[irreducible] noncomputable def g71 : Int := pk.2.2.2.2.2.2.2.2.2.2.2.2.2.2.2.2.2.2.2.2.2.2.2.2.2.2.2.2.2.2.2.2.2.2.2.2.2.2.2.2.2.2.2.2.2.2.2.2.2.2.2.2.2.2.2.2.2.2.2.2.2.2.2.2.2.2.2.2.2.2.2.2.2.2.2.2.2.2.2.2.2.2.2.2.2.2.2.2.2.2.2.2.2.2.2.2.2.2.2.2.2.2.2.2.2.2.2.2.2.2.2.2.1
@[irreducible] noncomputable def g72 : Int := pk.2.2.2.2.2.2.2.2.2.2.2.2.2.2.2.2.2.2.2.2.2.2.2.2.2.2.2.2.2.2.2.2.2.2.2.2.2.2.2.2.2.2.2.2.2.2.2.2.2.2.2.2.2.2.2.2.2.2.2.2.2.2.2.2.2.2.2.2.2.2.2.2.2.2.2.2.2.2.2.2.2.2.2.2.2.2.2.2.2.2.2.2.2.2.2.2.2.2.2.2.2.2.2.2.2.2.2.2.2.2.2.2.2.1
@[irreducible] noncomputable def g73 : Int := pk.2.2.2.2.2.2.2.2.2.2.2.2.2.2.2.2.2.2.2.2.2.2.2.2.2.2.2.2.2.2.2.2.2.2.2.2.2.2.2.2.2.2.2.2.2.2.2.2.2.2.2.2.2.2.2.2.2.2.2.2.2.2.2.2.2.2.2.2.2.2.2.2.2.2.2.2.2.2.2.2.2.2.2.2.2.2.2.2.2.2.2.2.2.2.2.2.2.2.2.2.2.2.2.2.2.2.2.2.2.2.2.2.2.2.1
@[irreducible] noncomputable def g74 : Int := pk.2.2.2.2.2.2.2.2.2.2.2.2.2.2.2.2.2.2.2.2.2.2.2.2.2.2.2.2.2.2.2.2.2.2.2.2.2.2.2.2.2.2.2.2.2.2.2.2.2.2.2.2.2.2.2.2.2.2.2.2.2.2.2.2.2.2.2.2.2.2.2.2.2.2.2.2.2.2.2.2.2.2.2.2.2.2.2.2.2.2.2.2.2.2.2.2.2.2.2.2.2.2.2.2.2.2.2.2.2.2.2.2.2.2.2.1
@[irreducible] noncomputable def g75 : Int := pk.2.2.2.2.2.2.2.2.2.2.2.2.2.2.2.2.2.2.2.2.2.2.2.2.2.2.2.2.2.2.2.2.2.2.2.2.2.2.2.2.2.2.2.2.2.2.2.2.2.2.2.2.2.2.2.2.2.2.2.2.2.2.2.2.2.2.2.2.2.2.2.2.2.2.2.2.2.2.2.2.2.2.2.2.2.2.2.2.2.2.2.2.2.2.2.2.2.2.2.2.2.2.2.2.2.2.2.2.2.2.2.2.2.2.2.2.1
@[irreducible] noncomputable def h01 : Tok := pk.2.2.2.2.2.2.2.2.2.2.2.2.2.2.2.2.2.2.2.2.2.2.2.2.2.2.2.2.2.2.2.2.2.2.2.2.2.2.2.2.2.2.2.2.2.2.2.2.2.2.2.2.2.2.2.2.2.2.2.2.2.2.2.2.2.2.2.2.2.2.2.2.2.2.2.2.2.2.2.2.2.2.2.2.2.2.2.2.2.2.2.2.2.2.2.2.2.2.2.2.2.2.2.2.2.2.2.2.2.2.2.2.2.2.2.2.2.1
@[irreducible] noncomputable def h02 : Tok := pk.2.2.2.2.2.2.2.2.2.2.2.2.2.2.2.2.2.2.2.2.2.2.2.2.2.2.2.2.2.2.2.2.2.2.2.2.2.2.2.2.2.2.2.2.2.2.2.2.2.2.2.2.2.2.2.2.2.2.2.2.2.2.2.2.2.2.2.2.2.2.2.2.2.2.2.2.2.2.2.2.2.2.2.2.2.2.2.2.2.2.2.2.2.2.2.2.2.2.2.2.2.2.2.2.2.2.2.2.2.2.2.2.2.2.2.2.2.2.1
@[irreducible] noncomputable def h03 : Tok := pk.2.2.2.2.2.2.2.2.2.2.2.2.2.2.2.2.2.2.2.2.2.2.2.2.2.2.2.2.2.2.2.2.2.2.2.2.2.2.2.2.2.2.2.2.2.2.2.2.2.2.2.2.2.2.2.2.2.2.2.2.2.2.2.2.2.2.2.2.2.2.2.2.2.2.2.2.2.2.2.2.2.2.2.2.2.2.2.2.2.2.2.2.2.2.2.2.2.2.2.2.2.2.2.2.2.2.2.2.2.2.2.2.2.2.2.2.2.2.2.1
@[irreducible] noncomputable def h04 : Tok := pk.2.2.2.2.2.2.2.2.2.2.2.2.2.2.2.2.2.2.2.2.2.2.2.2.2.2.2.2.2.2.2.2.2.2.2.2.2.2.2.2.2.2.2.2.2.2.2.2.2.2.2.2.2.2.2.2.2.2.2.2.2.2.2.2.2.2.2.2.2.2.2.2.2.2.2.2.2.2.2.2.2.2.2.2.2.2.2.2.2.2.2.2.2.2.2.2.2.2.2.2.2.2.2.2.2.2.2.2.2.2.2.2.2.2.2.2.2.2.2.2.1
@[irreducible] noncomputable def h05 : Tok := pk.2.2.2.2.2.2.2.2.2.2.2.2.2.2.2.2.2.2.2.2.2.2.2.2.2.2.2.2.2.2.2.2.2.2.2.2.2.2.2.2.2.2.2.2.2.2.2.2.2.2.2.2.2.2.2.2.2.2.2.2.2.2.2.2.2.2.2.2.2.2.2.2.2.2.2.2.2.2.2.2.2.2.2.2.2.2.2.2.2.2.2.2.2.2.2.2.2.2.2.2.2.2.2.2.2.2.2.2.2.2.2.2.2.2.2.2.2.2.2.2.2.1
@[irreducible] noncomputable def h11 : Tok := pk.2.2.2.2.2.2.2.2.2.2.2.2.2.2.2.2.2.2.2.2.2.2.2.2.2.2.2.2.2.2.2.2.2.2.2.2.2.2.2.2.2.2.2.2.2.2.2.2.2.2.2.2.2.2.2.2.2.2.2.2.2.2.2.2.2.2.2.2.2.2.2.2.2.2.2.2.2.2.2.2.2.2.2.2.2.2.2.2.2.2.2.2.2.2.2.2.2.2.2.2.2.2.2.2.2.2.2.2.2.2.2.2.2.2.2.2.2.2.2.2.2.2.1
@[irreducible] noncomputable def h12 : Tok := pk.2.2.2.2.2.2.2.2.2.2.2.2.2.2.2.2.2.2.2.2.2.2.2.2.2.2.2.2.2.2.2.2.2.2.2.2.2.2.2.2.2.2.2.2.2.2.2.2.2.2.2.2.2.2.2.2.2.2.2.2.2.2.2.2.2.2.2.2.2.2.2.2.2.2.2.2.2.2.2.2.2.2.2.2.2.2.2.2.2.2.2.2.2.2.2.2.2.2.2.2.2.2.2.2.2.2.2.2.2.2.2.2.2.2.2.2.2.2.2.2.2.2.2.1
@[irreducible] noncomputable def h13 : Tok := pk.2.2.2.2.2.2.2.2.2.2.2.2.2.2.2.2.2.2.2.2.2.2.2.2.2.2.2.2.2.2.2.2.2.2.2.2.2.2.2.2.2.2.2.2.2.2.2.2.2.2.2.2.2.2.2.2.2.2.2.2.2.2.2.2.2.2.2.2.2.2.2.2.2.2.2.2.2.2.2.2.2.2.2.2.2.2.2.2.2.2.2.2.2.2.2.2.2.2.2.2.2.2.2.2.2.2.2.2.2.2.2.2.2.2.2.2.2.2.2.2.2.2.2.2.1
@[irreducible] noncomputable def h14 : Tok := pk.2.2.2.2.2.2.2.2.2.2.2.2.2.2.2.2.2.2.2.2.2.2.2.2.2.2.2.2.2.2.2.2.2.2.2.2.2.2.2.2.2.2.2.2.2.2.2.2.2.2.2.2.2.2.2.2.2.2.2.2.2.2.2.2.2.2.2.2.2.2.2.2.2.2.2.2.2.2.2.2.2.2.2.2.2.2.2.2.2.2.2.2.2.2.2.2.2.2.2.2.2.2.2.2.2.2.2.2.2.2.2.2.2.2.2.2.2.2.2.2.2.2.2.2.2.1
@[irreducible] noncomputable def h15 : Tok := pk.2.2.2.2.2.2.2.2.2.2.2.2.2.2.2.2.2.2.2.2.2.2.2.2.2.2.2.2.2.2.2.2.2.2.2.2.2.2.2.2.2.2.2.2.2.2.2.2.2.2.2.2.2.2.2.2.2.2.2.2.2.2.2.2.2.2.2.2.2.2.2.2.2.2.2.2.2.2.2.2.2.2.2.2.2.2.2.2.2.2.2.2.2.2.2.2.2.2.2.2.2.2.2.2.2.2.2.2.2.2.2.2.2.2.2.2.2.2.2.2.2.2.2.2.2.2.1
@[irreducible] noncomputable def h21 : Tok := pk.2.2.2.2.2.2.2.2.2.2.2.2.2.2.2.2.2.2.2.2.2.2.2.2.2.2.2.2.2.2.2.2.2.2.2.2.2.2.2.2.2.2.2.2.2.2.2.2.2.2.2.2.2.2.2.2.2.2.2.2.2.2.2.2.2.2.2.2.2.2.2.2.2.2.2.2.2.2.2.2.2.2.2.2.2.2.2.2.2.2.2.2.2.2.2.2.2.2.2.2.2.2.2.2.2.2.2.2.2.2.2.2.2.2.2.2.2.2.2.2.2.2.2.2.2.2.2.1
@[irreducible] noncomputable def h22 : Tok := pk.2.2.2.2.2.2.2.2.2.2.2.2.2.2.2.2.2.2.2.2.2.2.2.2.2.2.2.2.2.2.2.2.2.2.2.2.2.2.2.2.2.2.2.2.2.2.2.2.2.2.2.2.2.2.2.2.2.2.2.2.2.2.2.2.2.2.2.2.2.2.2.2.2.2.2.2.2.2.2.2.2.2.2.2.2.2.2.2.2.2.2.2.2.2.2.2.2.2.2.2.2.2.2.2.2.2.2.2.2.2.2.2.2.2.2.2.2.2.2.2.2.2.2.2.2.2.2.2.1
@[irreducible] noncomputable def h23 : Tok := pk.2.2.2.2.2.2.2.2.2.2.2.2.2.2.2.2.2.2.2.2.2.2.2.2.2.2.2.2.2.2.2.2.2.2.2.2.2.2.2.2.2.2.2.2.2.2.2.2.2.2.2.2.2.2.2.2.2.2.2.2.2.2.2.2.2.2.2.2.2.2.2.2.2.2.2.2.2.2.2.2.2.2.2.2.2.2.2.2.2.2.2.2.2.2.2.2.2.2.2.2.2.2.2.2.2.2.2.2.2.2.2.2.2.2.2.2.2.2.2.2.2.2.2.2.2.2.2.2.2.1
@[irreducible] noncomputable def h24 : Tok := pk.2.2.2.2.2.2.2.2.2.2.2.2.2.2.2.2.2.2.2.2.2.2.2.2.2.2.2.2.2.2.2.2.2.2.2.2.2.2.2.2.2.2.2.2.2.2.2.2.2.2.2.2.2.2.2.2.2.2.2.2.2.2.2.2.2.2.2.2.2.2.2.2.2.2.2.2.2.2.2.2.2.2.2.2.2.2.2.2.2.2.2.2.2.2.2.2.2.2.2.2.2.2.2.2.2.2.2.2.2.2.2.2.2.2.2.2.2.2.2.2.2.2.2.2.2.2.2.2.2.2.1
@[irreducible] noncomputable def h25 : Tok := pk.2.2.2.2.2.2.2.2.2.2.2.2.2.2.2.2.2.2.2.2.2.2.2.2.2.2.2.2.2.2.2.2.2.2.2.2.2.2.2.2.2.2.2.2.2.2.2.2.2.2.2.2.2.2.2.2.2.2.2.2.2.2.2.2.2.2.2.2.2.2.2.2.2.2.2.2.2.2.2.2.2.2.2.2.2.2.2.2.2.2.2.2.2.2.2.2.2.2.2.2.2.2.2.2.2.2.2.2.2.2.2.2.2.2.2.2.2.2.2.2.2.2.2.2.2.2.2.2.2.2.2.1
@[irreducible] noncomputable def h31 : Tok := pk.2.2.2.2.2.2.2.2.2.2.2.2.2.2.2.2.2.2.2.2.2.2.2.2.2.2.2.2.2.2.2.2.2.2.2.2.2.2.2.2.2.2.2.2.2.2.2.2.2.2.2.2.2.2.2.2.2.2.2.2.2.2.2.2.2.2.2.2.2.2.2.2.2.2.2.2.2.2.2.2.2.2.2.2.2.2.2.2.2.2.2.2.2.2.2.2.2.2.2.2.2.2.2.2.2.2.2.2.2.2.2.2.2.2.2.2.2.2.2.2.2.2.2.2.2.2.2.2.2.2.2.2.1
@[irreducible] noncomputable def h32 : Tok := pk.2.2.2.2.2.2.2.2.2.2.2.2.2.2.2.2.2.2.2.2.2.2.2.2.2.2.2.2.2.2.2.2.2.2.2.2.2.2.2.2.2.2.2.2.2.2.2.2.2.2.2.2.2.2.2.2.2.2.2.2.2.2.2.2.2.2.2.2.2.2.2.2.2.2.2.2.2.2.2.2.2.2.2.2.2.2.2.2.2.2.2.2.2.2.2.2.2.2.2.2.2.2.2.2.2.2.2.2.2.2.2.2.2.2.2.2.2.2.2.2.2.2.2.2.2.2.2.2.2.2.2.2.2.1
@[irreducible] noncomputable def h33 : Tok := pk.2.2.2.2.2.2.2.2.2.2.2.2.2.2.2.2.2.2.2.2.2.2.2.2.2.2.2.2.2.2.2.2.2.2.2.2.2.2.2.2.2.2.2.2.2.2.2.2.2.2.2.2.2.2.2.2.2.2.2.2.2.2.2.2.2.2.2.2.2.2.2.2.2.2.2.2.2.2.2.2.2.2.2.2.2.2.2.2.2.2.2.2.2.2.2.2.2.2.2.2.2.2.2.2.2.2.2.2.2.2.2.2.2.2.2.2.2.2.2.2.2.2.2.2.2.2.2.2.2.2.2.2.2.2.1
@[irreducible] noncomputable def h34 : Tok := pk.2.2.2.2.2.2.2.2.2.2.2.2.2.2.2.2.2.2.2.2.2.2.2.2.2.2.2.2.2.2.2.2.2.2.2.2.2.2.2.2.2.2.2.2.2.2.2.2.2.2.2.2.2.2.2.2.2.2.2.2.2.2.2.2.2.2.2.2.2.2.2.2.2.2.2.2.2.2.2.2.2.2.2.2.2.2.2.2.2.2.2.2.2.2.2.2.2.2.2.2.2.2.2.2.2.2.2.2.2.2.2.2.2.2.2.2.2.2.2.2.2.2.2.2.2.2.2.2.2.2.2.2.2.2.2.1
@[irreducible] noncomputable def h35 : Tok := pk.2.2.2.2.2.2.2.2.2.2.2.2.2.2.2.2.2.2.2.2.2.2.2.2.2.2.2.2.2.2.2.2.2.2.2.2.2.2.2.2.2.2.2.2.2.2.2.2.2.2.2.2.2.2.2.2.2.2.2.2.2.2.2.2.2.2.2.2.2.2.2.2.2.2.2.2.2.2.2.2.2.2.2.2.2.2.2.2.2.2.2.2.2.2.2.2.2.2.2.2.2.2.2.2.2.2.2.2.2.2.2.2.2.2.2.2.2.2.2.2.2.2.2.2.2.2.2.2.2.2.2.2.2.2.2.2.1
@[irreducible] noncomputable def h41 : Tok := pk.2.2.2.2.2.2.2.2.2.2.2.2.2.2.2.2.2.2.2.2.2.2.2.2.2.2.2.2.2.2.2.2.2.2.2.2.2.2.2.2.2.2.2.2.2.2.2.2.2.2.2.2.2.2.2.2.2.2.2.2.2.2.2.2.2.2.2.2.2.2.2.2.2.2.2.2.2.2.2.2.2.2.2.2.2.2.2.2.2.2.2.2.2.2.2.2.2.2.2.2.2.2.2.2.2.2.2.2.2.2.2.2.2.2.2.2.2.2.2.2.2.2.2.2.2.2.2.2.2.2.2.2.2.2.2.2.2.1
@[irreducible] noncomputable def h42 : Tok := pk.2.2.2.2.2.2.2.2.2.2.2.2.2.2.2.2.2.2.2.2.2.2.2.2.2.2.2.2.2.2.2.2.2.2.2.2.2.2.2.2.2.2.2.2.2.2.2.2.2.2.2.2.2.2.2.2.2.2.2.2.2.2.2.2.2.2.2.2.2.2.2.2.2.2.2.2.2.2.2.2.2.2.2.2.2.2.2.2.2.2.2.2.2.2.2.2.2.2.2.2.2.2.2.2.2.2.2.2.2.2.2.2.2.2.2.2.2.2.2.2.2.2.2.2.2.2.2.2.2.2.2.2.2.2.2.2.2.2.1
@[irreducible] noncomputable def h43 : Tok := pk.2.2.2.2.2.2.2.2.2.2.2.2.2.2.2.2.2.2.2.2.2.2.2.2.2.2.2.2.2.2.2.2.2.2.2.2.2.2.2.2.2.2.2.2.2.2.2.2.2.2.2.2.2.2.2.2.2.2.2.2.2.2.2.2.2.2.2.2.2.2.2.2.2.2.2.2.2.2.2.2.2.2.2.2.2.2.2.2.2.2.2.2.2.2.2.2.2.2.2.2.2.2.2.2.2.2.2.2.2.2.2.2.2.2.2.2.2.2.2.2.2.2.2.2.2.2.2.2.2.2.2.2.2.2.2.2.2.2.2.1
@[irreducible] noncomputable def h44 : Tok := pk.2.2.2.2.2.2.2.2.2.2.2.2.2.2.2.2.2.2.2.2.2.2.2.2.2.2.2.2.2.2.2.2.2.2.2.2.2.2.2.2.2.2.2.2.2.2.2.2.2.2.2.2.2.2.2.2.2.2.2.2.2.2.2.2.2.2.2.2.2.2.2.2.2.2.2.2.2.2.2.2.2.2.2.2.2.2.2.2.2.2.2.2.2.2.2.2.2.2.2.2.2.2.2.2.2.2.2.2.2.2.2.2.2.2.2.2.2.2.2.2.2.2.2.2.2.2.2.2.2.2.2.2.2.2.2.2.2.2.2.2.1
@[irreducible] noncomputable def h45 : Tok := pk.2.2.2.2.2.2.2.2.2.2.2.2.2.2.2.2.2.2.2.2.2.2.2.2.2.2.2.2.2.2.2.2.2.2.2.2.2.2.2.2.2.2.2.2.2.2.2.2.2.2.2.2.2.2.2.2.2.2.2.2.2.2.2.2.2.2.2.2.2.2.2.2.2.2.2.2.2.2.2.2.2.2.2.2.2.2.2.2.2.2.2.2.2.2.2.2.2.2.2.2.2.2.2.2.2.2.2.2.2.2.2.2.2.2.2.2.2.2.2.2.2.2.2.2.2.2.2.2.2.2.2.2.2.2.2.2.2.2.2.2.2.1
@[irreducible] noncomputable def h51 : Tok := pk.2.2.2.2.2.2.2.2.2.2.2.2.2.2.2.2.2.2.2.2.2.2.2.2.2.2.2.2.2.2.2.2.2.2.2.2.2.2.2.2.2.2.2.2.2.2.2.2.2.2.2.2.2.2.2.2.2.2.2.2.2.2.2.2.2.2.2.2.2.2.2.2.2.2.2.2.2.2.2.2.2.2.2.2.2.2.2.2.2.2.2.2.2.2.2.2.2.2.2.2.2.2.2.2.2.2.2.2.2.2.2.2.2.2.2.2.2.2.2.2.2.2.2.2.2.2.2.2.2.2.2.2.2.2.2.2.2.2.2.2.2.2.1
@[irreducible] noncomputable def h52 : Tok := pk.2.2.2.2.2.2.2.2.2.2.2.2.2.2.2.2.2.2.2.2.2.2.2.2.2.2.2.2.2.2.2.2.2.2.2.2.2.2.2.2.2.2.2.2.2.2.2.2.2.2.2.2.2.2.2.2.2.2.2.2.2.2.2.2.2.2.2.2.2.2.2.2.2.2.2.2.2.2.2.2.2.2.2.2.2.2.2.2.2.2.2.2.2.2.2.2.2.2.2.2.2.2.2.2.2.2.2.2.2.2.2.2.2.2.2.2.2.2.2.2.2.2.2.2.2.2.2.2.2.2.2.2.2.2.2.2.2.2.2.2.2.2.2.1
@[irreducible] noncomputable def h53 : Tok := pk.2.2.2.2.2.2.2.2.2.2.2.2.2.2.2.2.2.2.2.2.2.2.2.2.2.2.2.2.2.2.2.2.2.2.2.2.2.2.2.2.2.2.2.2.2.2.2.2.2.2.2.2.2.2.2.2.2.2.2.2.2.2.2.2.2.2.2.2.2.2.2.2.2.2.2.2.2.2.2.2.2.2.2.2.2.2.2.2.2.2.2.2.2.2.2.2.2.2.2.2.2.2.2.2.2.2.2.2.2.2.2.2.2.2.2.2.2.2.2.2.2.2.2.2.2.2.2.2.2.2.2.2.2.2.2.2.2.2.2.2.2.2.2.2.1
@[irreducible] noncomputable def h54 : Tok := pk.2.2.2.2.2.2.2.2.2.2.2.2.2.2.2.2.2.2.2.2.2.2.2.2.2.2.2.2.2.2.2.2.2.2.2.2.2.2.2.2.2.2.2.2.2.2.2.2.2.2.2.2.2.2.2.2.2.2.2.2.2.2.2.2.2.2.2.2.2.2.2.2.2.2.2.2.2.2.2.2.2.2.2.2.2.2.2.2.2.2.2.2.2.2.2.2.2.2.2.2.2.2.2.2.2.2.2.2.2.2.2.2.2.2.2.2.2.2.2.2.2.2.2.2.2.2.2.2.2.2.2.2.2.2.2.2.2.2.2.2.2.2.2.2.2.1
@[irreducible] noncomputable def h55 : Tok := pk.2.2.2.2.2.2.2.2.2.2.2.2.2.2.2.2.2.2.2.2.2.2.2.2.2.2.2.2.2.2.2.2.2.2.2.2.2.2.2.2.2.2.2.2.2.2.2.2.2.2.2.2.2.2.2.2.2.2.2.2.2.2.2.2.2.2.2.2.2.2.2.2.2.2.2.2.2.2.2.2.2.2.2.2.2.2.2.2.2.2.2.2.2.2.2.2.2.2.2.2.2.2.2.2.2.2.2.2.2.2.2.2.2.2.2.2.2.2.2.2.2.2.2.2.2.2.2.2.2.2.2.2.2.2.2.2.2.2.2.2.2.2.2.2.2.2.1
@[irreducible] noncomputable def h61 : Tok := pk.2.2.2.2.2.2.2.2.2.2.2.2.2.2.2.2.2.2.2.2.2.2.2.2.2.2.2.2.2.2.2.2.2.2.2.2.2.2.2.2.2.2.2.2.2.2.2.2.2.2.2.2.2.2.2.2.2.2.2.2.2.2.2.2.2.2.2.2.2.2.2.2.2.2.2.2.2.2.2.2.2.2.2.2.2.2.2.2.2.2.2.2.2.2.2.2.2.2.2.2.2.2.2.2.2.2.2.2.2.2.2.2.2.2.2.2.2.2.2.2.2.2.2.2.2.2.2.2.2.2.2.2.2.2.2.2.2.2.2.2.2.2.2.2.2.2.2.1
@[irreducible] noncomputable def h62 : Tok := pk.2.2.2.2.2.2.2.2.2.2.2.2.2.2.2.2.2.2.2.2.2.2.2.2.2.2.2.2.2.2.2.2.2.2.2.2.2.2.2.2.2.2.2.2.2.2.2.2.2.2.2.2.2.2.2.2.2.2.2.2.2.2.2.2.2.2.2.2.2.2.2.2.2.2.2.2.2.2.2.2.2.2.2.2.2.2.2.2.2.2.2.2.2.2.2.2.2.2.2.2.2.2.2.2.2.2.2.2.2.2.2.2.2.2.2.2.2.2.2.2.2.2.2.2.2.2.2.2.2.2.2.2.2.2.2.2.2.2.2.2.2.2.2.2.2.2.2.2.1
@[irreducible] noncomputable def h63 : Tok := pk.2.2.2.2.2.2.2.2.2.2.2.2.2.2.2.2.2.2.2.2.2.2.2.2.2.2.2.2.2.2.2.2.2.2.2.2.2.2.2.2.2.2.2.2.2.2.2.2.2.2.2.2.2.2.2.2.2.2.2.2.2.2.2.2.2.2.2.2.2.2.2.2.2.2.2.2.2.2.2.2.2.2.2.2.2.2.2.2.2.2.2.2.2.2.2.2.2.2.2.2.2.2.2.2.2.2.2.2.2.2.2.2.2.2.2.2.2.2.2.2.2.2.2.2.2.2.2.2.2.2.2.2.2.2.2.2.2.2.2.2.2.2.2.2.2.2.2.2.2.1
@[irreducible] noncomputable def h64 : Tok := pk.2.2.2.2.2.2.2.2.2.2.2.2.2.2.2.2.2.2.2.2.2.2.2.2.2.2.2.2.2.2.2.2.2.2.2.2.2.2.2.2.2.2.2.2.2.2.2.2.2.2.2.2.2.2.2.2.2.2.2.2.2.2.2.2.2.2.2.2.2.2.2.2.2.2.2.2.2.2.2.2.2.2.2.2.2.2.2.2.2.2.2.2.2.2.2.2.2.2.2.2.2.2.2.2.2.2.2.2.2.2.2.2.2.2.2.2.2.2.2.2.2.2.2.2.2.2.2.2.2.2.2.2.2.2.2.2.2.2.2.2.2.2.2.2.2.2.2.2.2.2.1
@[irreducible] noncomputable def h65 : Tok := pk.2.2.2.2.2.2.2.2.2.2.2.2.2.2.2.2.2.2.2.2.2.2.2.2.2.2.2.2.2.2.2.2.2.2.2.2.2.2.2.2.2.2.2.2.2.2.2.2.2.2.2.2.2.2.2.2.2.2.2.2.2.2.2.2.2.2.2.2.2.2.2.2.2.2.2.2.2.2.2.2.2.2.2.2.2.2.2.2.2.2.2.2.2.2.2.2.2.2.2.2.2.2.2.2.2.2.2.2.2.2.2.2.2.2.2.2.2.2.2.2.2.2.2.2.2.2.2.2.2.2.2.2.2.2.2.2.2.2.2.2.2.2.2.2.2.2.2.2.2.2.2.1
@[irreducible] noncomputable def h71 : Tok := pk.2.2.2.2.2.2.2.2.2.2.2.2.2.2.2.2.2.2.2.2.2.2.2.2.2.2.2.2.2.2.2.2.2.2.2.2.2.2.2.2.2.2.2.2.2.2.2.2.2.2.2.2.2.2.2.2.2.2.2.2.2.2.2.2.2.2.2.2.2.2.2.2.2.2.2.2.2.2.2.2.2.2.2.2.2.2.2.2.2.2.2.2.2.2.2.2.2.2.2.2.2.2.2.2.2.2.2.2.2.2.2.2.2.2.2.2.2.2.2.2.2.2.2.2.2.2.2.2.2.2.2.2.2.2.2.2.2.2.2.2.2.2.2.2.2.2.2.2.2.2.2.2.1
@[irreducible] noncomputable def h72 : Tok := pk.2.2.2.2.2.2.2.2.2.2.2.2.2.2.2.2.2.2.2.2.2.2.2.2.2.2.2.2.2.2.2.2.2.2.2.2.2.2.2.2.2.2.2.2.2.2.2.2.2.2.2.2.2.2.2.2.2.2.2.2.2.2.2.2.2.2.2.2.2.2.2.2.2.2.2.2.2.2.2.2.2.2.2.2.2.2.2.2.2.2.2.2.2.2.2.2.2.2.2.2.2.2.2.2.2.2.2.2.2.2.2.2.2.2.2.2.2.2.2.2.2.2.2.2.2.2.2.2.2.2.2.2.2.2.2.2.2.2.2.2.2.2.2.2.2.2.2.2.2.2.2.2.2.1
@[irreducible] noncomputable def h73 : Tok := pk.2.2.2.2.2.2.2.2.2.2.2.2.2.2.2.2.2.2.2.2.2.2.2.2.2.2.2.2.2.2.2.2.2.2.2.2.2.2.2.2.2.2.2.2.2.2.2.2.2.2.2.2.2.2.2.2.2.2.2.2.2.2.2.2.2.2.2.2.2.2.2.2.2.2.2.2.2.2.2.2.2.2.2.2.2.2.2.2.2.2.2.2.2.2.2.2.2.2.2.2.2.2.2.2.2.2.2.2.2.2.2.2.2.2.2.2.2.2.2.2.2.2.2.2.2.2.2.2.2.2.2.2.2.2.2.2.2.2.2.2.2.2.2.2.2.2.2.2.2.2.2.2.2.2.1
@[irreducible] noncomputable def h74 : Tok := pk.2.2.2.2.2.2.2.2.2.2.2.2.2.2.2.2.2.2.2.2.2.2.2.2.2.2.2.2.2.2.2.2.2.2.2.2.2.2.2.2.2.2.2.2.2.2.2.2.2.2.2.2.2.2.2.2.2.2.2.2.2.2.2.2.2.2.2.2.2.2.2.2.2.2.2.2.2.2.2.2.2.2.2.2.2.2.2.2.2.2.2.2.2.2.2.2.2.2.2.2.2.2.2.2.2.2.2.2.2.2.2.2.2.2.2.2.2.2.2.2.2.2.2.2.2.2.2.2.2.2.2.2.2.2.2.2.2.2.2.2.2.2.2.2.2.2.2.2.2.2.2.2.2.2.2.1
@[irreducible] noncomputable def h75 : Tok := pk.2.2.2.2.2.2.2.2.2.2.2.2.2.2.2.2.2.2.2.2.2.2.2.2.2.2.2.2.2.2.2.2.2.2.2.2.2.2.2.2.2.2.2.2.2.2.2.2.2.2.2.2.2.2.2.2.2.2.2.2.2.2.2.2.2.2.2.2.2.2.2.2.2.2.2.2.2.2.2.2.2.2.2.2.2.2.2.2.2.2.2.2.2.2.2.2.2.2.2.2.2.2.2.2.2.2.2.2.2.2.2.2.2.2.2.2.2.2.2.2.2.2.2.2.2.2.2.2.2.2.2.2.2.2.2.2.2.2.2.2.2.2.2.2.2.2.2.2.2.2.2.2.2.2.2.2.1
@[irreducible] noncomputable def j0 : Nat := pk.2.2.2.2.2.2.2.2.2.2.2.2.2.2.2.2.2.2.2.2.2.2.2.2.2.2.2.2.2.2.2.2.2.2.2.2.2.2.2.2.2.2.2.2.2.2.2.2.2.2.2.2.2.2.2.2.2.2.2.2.2.2.2.2.2.2.2.2.2.2.2.2.2.2.2.2.2.2.2.2.2.2.2.2.2.2.2.2.2.2.2.2.2.2.2.2.2.2.2.2.2.2.2.2.2.2.2.2.2.2.2.2.2.2.2.2.2.2.2.2.2.2.2.2.2.2.2.2.2.2.2.2.2.2.2.2.2.2.2.2.2.2.2.2.2.2.2.2.2.2.2.2.2.2.2.2.2.1
@[irreducible] noncomputable def j1 : Nat := pk.2.2.2.2.2.2.2.2.2.2.2.2.2.2.2.2.2.2.2.2.2.2.2.2.2.2.2.2.2.2.2.2.2.2.2.2.2.2.2.2.2.2.2.2.2.2.2.2.2.2.2.2.2.2.2.2.2.2.2.2.2.2.2.2.2.2.2.2.2.2.2.2.2.2.2.2.2.2.2.2.2.2.2.2.2.2.2.2.2.2.2.2.2.2.2.2.2.2.2.2.2.2.2.2.2.2.2.2.2.2.2.2.2.2.2.2.2.2.2.2.2.2.2.2.2.2.2.2.2.2.2.2.2.2.2.2.2.2.2.2.2.2.2.2.2.2.2.2.2.2.2.2.2.2.2.2.2.2.1
@[irreducible] noncomputable def j2 : Nat := pk.2.2.2.2.2.2.2.2.2.2.2.2.2.2.2.2.2.2.2.2.2.2.2.2.2.2.2.2.2.2.2.2.2.2.2.2.2.2.2.2.2.2.2.2.2.2.2.2.2.2.2.2.2.2.2.2.2.2.2.2.2.2.2.2.2.2.2.2.2.2.2.2.2.2.2.2.2.2.2.2.2.2.2.2.2.2.2.2.2.2.2.2.2.2.2.2.2.2.2.2.2.2.2.2.2.2.2.2.2.2.2.2.2.2.2.2.2.2.2.2.2.2.2.2.2.2.2.2.2.2.2.2.2.2.2.2.2.2.2.2.2.2.2.2.2.2.2.2.2.2.2.2.2.2.2.2.2.2.2.1
@[irreducible] noncomputable def j3 : Nat := pk.2.2.2.2.2.2.2.2.2.2.2.2.2.2.2.2.2.2.2.2.2.2.2.2.2.2.2.2.2.2.2.2.2.2.2.2.2.2.2.2.2.2.2.2.2.2.2.2.2.2.2.2.2.2.2.2.2.2.2.2.2.2.2.2.2.2.2.2.2.2.2.2.2.2.2.2.2.2.2.2.2.2.2.2.2.2.2.2.2.2.2.2.2.2.2.2.2.2.2.2.2.2.2.2.2.2.2.2.2.2.2.2.2.2.2.2.2.2.2.2.2.2.2.2.2.2.2.2.2.2.2.2.2.2.2.2.2.2.2.2.2.2.2.2.2.2.2.2.2.2.2.2.2.2.2.2.2.2.2.2.1
@[irreducible] noncomputable def j4 : Nat := pk.2.2.2.2.2.2.2.2.2.2.2.2.2.2.2.2.2.2.2.2.2.2.2.2.2.2.2.2.2.2.2.2.2.2.2.2.2.2.2.2.2.2.2.2.2.2.2.2.2.2.2.2.2.2.2.2.2.2.2.2.2.2.2.2.2.2.2.2.2.2.2.2.2.2.2.2.2.2.2.2.2.2.2.2.2.2.2.2.2.2.2.2.2.2.2.2.2.2.2.2.2.2.2.2.2.2.2.2.2.2.2.2.2.2.2.2.2.2.2.2.2.2.2.2.2.2.2.2.2.2.2.2.2.2.2.2.2.2.2.2.2.2.2.2.2.2.2.2.2.2.2.2.2.2.2.2.2.2.2.2.2.1
@[irreducible] noncomputable def j5 : Nat := pk.2.2.2.2.2.2.2.2.2.2.2.2.2.2.2.2.2.2.2.2.2.2.2.2.2.2.2.2.2.2.2.2.2.2.2.2.2.2.2.2.2.2.2.2.2.2.2.2.2.2.2.2.2.2.2.2.2.2.2.2.2.2.2.2.2.2.2.2.2.2.2.2.2.2.2.2.2.2.2.2.2.2.2.2.2.2.2.2.2.2.2.2.2.2.2.2.2.2.2.2.2.2.2.2.2.2.2.2.2.2.2.2.2.2.2.2.2.2.2.2.2.2.2.2.2.2.2.2.2.2.2.2.2.2.2.2.2.2.2.2.2.2.2.2.2.2.2.2.2.2.2.2.2.2.2.2.2.2.2.2.2.2.1
@[irreducible] noncomputable def j6 : Nat := pk.2.2.2.2.2.2.2.2.2.2.2.2.2.2.2.2.2.2.2.2.2.2.2.2.2.2.2.2.2.2.2.2.2.2.2.2.2.2.2.2.2.2.2.2.2.2.2.2.2.2.2.2.2.2.2.2.2.2.2.2.2.2.2.2.2.2.2.2.2.2.2.2.2.2.2.2.2.2.2.2.2.2.2.2.2.2.2.2.2.2.2.2.2.2.2.2.2.2.2.2.2.2.2.2.2.2.2.2.2.2.2.2.2.2.2.2.2.2.2.2.2.2.2.2.2.2.2.2.2.2.2.2.2.2.2.2.2.2.2.2.2.2.2.2.2.2.2.2.2.2.2.2.2.2.2.2.2.2.2.2.2.2.2.1
@[irreducible] noncomputable def j7 : Nat := pk.2.2.2.2.2.2.2.2.2.2.2.2.2.2.2.2.2.2.2.2.2.2.2.2.2.2.2.2.2.2.2.2.2.2.2.2.2.2.2.2.2.2.2.2.2.2.2.2.2.2.2.2.2.2.2.2.2.2.2.2.2.2.2.2.2.2.2.2.2.2.2.2.2.2.2.2.2.2.2.2.2.2.2.2.2.2.2.2.2.2.2.2.2.2.2.2.2.2.2.2.2.2.2.2.2.2.2.2.2.2.2.2.2.2.2.2.2.2.2.2.2.2.2.2.2.2.2.2.2.2.2.2.2.2.2.2.2.2.2.2.2.2.2.2.2.2.2.2.2.2.2.2.2.2.2.2.2.2.2.2.2.2.2.2.1
@[irreducible] noncomputable def o1 : Obj := pk.2.2.2.2.2.2.2.2.2.2.2.2.2.2.2.2.2.2.2.2.2.2.2.2.2.2.2.2.2.2.2.2.2.2.2.2.2.2.2.2.2.2.2.2.2.2.2.2.2.2.2.2.2.2.2.2.2.2.2.2.2.2.2.2.2.2.2.2.2.2.2.2.2.2.2.2.2.2.2.2.2.2.2.2.2.2.2.2.2.2.2.2.2.2.2.2.2.2.2.2.2.2.2.2.2.2.2.2.2.2.2.2.2.2.2.2.2.2.2.2.2.2.2.2.2.2.2.2.2.2.2.2.2.2.2.2.2.2.2.2.2.2.2.2.2.2.2.2.2.2.2.2.2.2.2.2.2.2.2.2.2.2.2.2.2.1
@[irreducible] noncomputable def o2 : Obj := pk.2.2.2.2.2.2.2.2.2.2.2.2.2.2.2.2.2.2.2.2.2.2.2.2.2.2.2.2.2.2.2.2.2.2.2.2.2.2.2.2.2.2.2.2.2.2.2.2.2.2.2.2.2.2.2.2.2.2.2.2.2.2.2.2.2.2.2.2.2.2.2.2.2.2.2.2.2.2.2.2.2.2.2.2.2.2.2.2.2.2.2.2.2.2.2.2.2.2.2.2.2.2.2.2.2.2.2.2.2.2.2.2.2.2.2.2.2.2.2.2.2.2.2.2.2.2.2.2.2.2.2.2.2.2.2.2.2.2.2.2.2.2.2.2.2.2.2.2.2.2.2.2.2.2.2.2.2.2.2.2.2.2.2.2.2.2.1
@[irreducible] noncomputable def o3 : Obj := pk.2.2.2.2.2.2.2.2.2.2.2.2.2.2.2.2.2.2.2.2.2.2.2.2.2.2.2.2.2.2.2.2.2.2.2.2.2.2.2.2.2.2.2.2.2.2.2.2.2.2.2.2.2.2.2.2.2.2.2.2.2.2.2.2.2.2.2.2.2.2.2.2.2.2.2.2.2.2.2.2.2.2.2.2.2.2.2.2.2.2.2.2.2.2.2.2.2.2.2.2.2.2.2.2.2.2.2.2.2.2.2.2.2.2.2.2.2.2.2.2.2.2.2.2.2.2.2.2.2.2.2.2.2.2.2.2.2.2.2.2.2.2.2.2.2.2.2.2.2.2.2.2.2.2.2.2.2.2.2.2.2.2.2.2.2.2.2.1
@[irreducible] noncomputable def o4 : Obj := pk.2.2.2.2.2.2.2.2.2.2.2.2.2.2.2.2.2.2.2.2.2.2.2.2.2.2.2.2.2.2.2.2.2.2.2.2.2.2.2.2.2.2.2.2.2.2.2.2.2.2.2.2.2.2.2.2.2.2.2.2.2.2.2.2.2.2.2.2.2.2.2.2.2.2.2.2.2.2.2.2.2.2.2.2.2.2.2.2.2.2.2.2.2.2.2.2.2.2.2.2.2.2.2.2.2.2.2.2.2.2.2.2.2.2.2.2.2.2.2.2.2.2.2.2.2.2.2.2.2.2.2.2.2.2.2.2.2.2.2.2.2.2.2.2.2.2.2.2.2.2.2.2.2.2.2.2.2.2.2.2.2.2.2.2.2.2.2.2.1
@[irreducible] noncomputable def o5 : Obj := pk.2.2.2.2.2.2.2.2.2.2.2.2.2.2.2.2.2.2.2.2.2.2.2.2.2.2.2.2.2.2.2.2.2.2.2.2.2.2.2.2.2.2.2.2.2.2.2.2.2.2.2.2.2.2.2.2.2.2.2.2.2.2.2.2.2.2.2.2.2.2.2.2.2.2.2.2.2.2.2.2.2.2.2.2.2.2.2.2.2.2.2.2.2.2.2.2.2.2.2.2.2.2.2.2.2.2.2.2.2.2.2.2.2.2.2.2.2.2.2.2.2.2.2.2.2.2.2.2.2.2.2.2.2.2.2.2.2.2.2.2.2.2.2.2.2.2.2.2.2.2.2.2.2.2.2.2.2.2.2.2.2.2.2.2.2.2.2.2.2.1
@[irreducible] noncomputable def o6 : Obj := pk.2.2.2.2.2.2.2.2.2.2.2.2.2.2.2.2.2.2.2.2.2.2.2.2.2.2.2.2.2.2.2.2.2.2.2.2.2.2.2.2.2.2.2.2.2.2.2.2.2.2.2.2.2.2.2.2.2.2.2.2.2.2.2.2.2.2.2.2.2.2.2.2.2.2.2.2.2.2.2.2.2.2.2.2.2.2.2.2.2.2.2.2.2.2.2.2.2.2.2.2.2.2.2.2.2.2.2.2.2.2.2.2.2.2.2.2.2.2.2.2.2.2.2.2.2.2.2.2.2.2.2.2.2.2.2.2.2.2.2.2.2.2.2.2.2.2.2.2.2.2.2.2.2.2.2.2.2.2.2.2.2.2.2.2.2.2.2.2.2.2.1
@[irreducible] noncomputable def o7 : Obj := pk.2.2.2.2.2.2.2.2.2.2.2.2.2.2.2.2.2.2.2.2.2.2.2.2.2.2.2.2.2.2.2.2.2.2.2.2.2.2.2.2.2.2.2.2.2.2.2.2.2.2.2.2.2.2.2.2.2.2.2.2.2.2.2.2.2.2.2.2.2.2.2.2.2.2.2.2.2.2.2.2.2.2.2.2.2.2.2.2.2.2.2.2.2.2.2.2.2.2.2.2.2.2.2.2.2.2.2.2.2.2.2.2.2.2.2.2.2.2.2.2.2.2.2.2.2.2.2.2.2.2.2.2.2.2.2.2.2.2.2.2.2.2.2.2.2.2.2.2.2.2.2.2.2.2.2.2.2.2.2.2.2.2.2.2.2.2.2.2.2.2.2.1
@[irreducible] noncomputable def o8 : Obj := pk.2.2.2.2.2.2.2.2.2.2.2.2.2.2.2.2.2.2.2.2.2.2.2.2.2.2.2.2.2.2.2.2.2.2.2.2.2.2.2.2.2.2.2.2.2.2.2.2.2.2.2.2.2.2.2.2.2.2.2.2.2.2.2.2.2.2.2.2.2.2.2.2.2.2.2.2.2.2.2.2.2.2.2.2.2.2.2.2.2.2.2.2.2.2.2.2.2.2.2.2.2.2.2.2.2.2.2.2.2.2.2.2.2.2.2.2.2.2.2.2.2.2.2.2.2.2.2.2.2.2.2.2.2.2.2.2.2.2.2.2.2.2.2.2.2.2.2.2.2.2.2.2.2.2.2.2.2.2.2.2.2.2.2.2.2.2.2.2.2.2.2.2.1
@[irreducible] noncomputable def o9 : Obj := pk.2.2.2.2.2.2.2.2.2.2.2.2.2.2.2.2.2.2.2.2.2.2.2.2.2.2.2.2.2.2.2.2.2.2.2.2.2.2.2.2.2.2.2.2.2.2.2.2.2.2.2.2.2.2.2.2.2.2.2.2.2.2.2.2.2.2.2.2.2.2.2.2.2.2.2.2.2.2.2.2.2.2.2.2.2.2.2.2.2.2.2.2.2.2.2.2.2.2.2.2.2.2.2.2.2.2.2.2.2.2.2.2.2.2.2.2.2.2.2.2.2.2.2.2.2.2.2.2.2.2.2.2.2.2.2.2.2.2.2.2.2.2.2.2.2.2.2.2.2.2.2.2.2.2.2.2.2.2.2.2.2.2.2.2.2.2.2.2.2.2.2.2.2
theorem core : Pr w p loose mean mg mb fa cd h₀ L m s Q S I ns ni b1 b2 b3 b4 b5 p1 q1 r1 v1 p2 q2 r2 v2 p3 q3 r3 v3 p4 q4 r4 v4 p5 q5 r5 v5 n1 n2 n3 n4 n5 x1 x1' x1'' y1 x2 x2' x2'' y2 x3 x3' x3'' y3 x4 x4' x4'' y4 x5 x5' x5'' y5 G jG e0 e1 e2 e3 e4 e5 e6 e7 g01 g02 g03 g04 g05 g11 g12 g13 g14 g15 g21 g22 g23 g24 g25 g31 g32 g33 g34 g35 g41 g42 g43 g44 g45 g51 g52 g53 g54 g55 g61 g62 g63 g64 g65 g71 g72 g73 g74 g75 h01 h02 h03 h04 h05 h11 h12 h13 h14 h15 h21 h22 h23 h24 h25 h31 h32 h33 h34 h35 h41 h42 h43 h44 h45 h51 h52 h53 h54 h55 h61 h62 h63 h64 h65 h71 h72 h73 h74 h75 j0 j1 j2 j3 j4 j5 j6 j7 o1 o2 o3 o4 o5 o6 o7 o8 o9 := by
  intro hp1 hq1 hr1 hv1 hp2 hq2 hr2 hv2 hp3 hq3 hr3 hv3 hp4 hq4 hr4 hv4 hp5 hq5 hr5 hv5 hG0 hG1 hG2 hG3 hG4 hG5 hG6 hG7 hd1 hd2 hd3 hd4 hd5 hd6 hd7 hd8 hd9 hLS hLI hLb1 hLb2 hLb3 hLb4 hLb5 hLG hLe0 hLe1 hLe2 hLe3 hLe4 hLe5 hLe6 hLe7 B F X T N hQ
  w_top off
  k_with_none
  k_with "subscriptTail Name Constant ref int" => (k_here; (with_reducible show wpAny _ _ (subscriptTail _ _ (Value.ref _) (Value.int _ _)) _ _ _); (with_unfolding_all refine' item_litK ?k1x285 ?k2x285 ?k3x285 ?k4x285 ?_ ?k6x285; (case k1x285 => exact News.isList (by k_asm) (by ((with_reducible (repeat (first | exact List.mem_cons_self | exact mem_led (by with_reducible assumption) | refine List.mem_cons_of_mem _ ?_ | refine mem_led_sub (by with_reducible assumption) ?_))); (first | done | with_reducible assumption)))); (case k2x285 => decide); (case k3x285 => decide); (case k4x285 => rfl); (case k6x285 => with_unfolding_all rfl); k_whole))
  k_with "subscriptTail Name Name ref int" => (k_here; (with_reducible show wpAny _ _ (subscriptTail _ _ (Value.ref _) (Value.int _ _)) _ _ _); (with_unfolding_all refine' item_litK ?k1x286 ?k2x286 ?k3x286 ?k4x286 ?_ ?k6x286; (case k1x286 => exact News.isList (by k_asm) (by ((with_reducible (repeat (first | exact List.mem_cons_self | exact mem_led (by with_reducible assumption) | refine List.mem_cons_of_mem _ ?_ | refine mem_led_sub (by with_reducible assumption) ?_))); (first | done | with_reducible assumption)))); (case k2x286 => decide); (case k3x286 => decide); (case k4x286 => rfl); (case k6x286 => with_unfolding_all rfl); k_whole))
  k_with "eval ListComp" => (k_here; k_dflt (first
    | refine comp_exprNH (by k_asm) (by with_unfolding_all rfl) (by rfl) (by decide) (fun _ => by rfl) (fun _ => by rfl) ?_
    | refine comp_exprXH (by k_asm) (by with_unfolding_all rfl) (by rfl) (by decide) (fun _ => by rfl) (fun _ => by rfl) ?_); intro Fin9'ₓ hFin9'ₓ)
  k_with "exec Assign cons ListComp" => (k_here; k_dflt (refine comp_assignNH (by k_asm) (by rfl) (by with_unfolding_all rfl) (by with_unfolding_all rfl) (by rfl) (by decide) (fun _ => by rfl) (fun _ => by rfl) (by rfl) (by rfl) ?_); intro Fin9'ₓ hFin9'ₓ)
  k_with "CSrc" => (k_here; k_dflt (first
    | (refine csrc_listNH rfl (by k_asm) (by k_asm) (by is_list) (by first | size_fits | exact Nat.le_of_ble_eq_true rfl) (by rfl) (by rfl) ?_; intro g1'ₓ g2'ₓ nb'ₓ Fin8'ₓ hFin8'ₓ)
    | (refine csrc_listXH rfl (by k_asm) (by k_asm) (by is_list) (by first | size_fits | exact Nat.le_of_ble_eq_true rfl) (by rfl) (by rfl) (fun _ => by rfl) ?_; intro g1'ₓ g2'ₓ nb'ₓ Fin8'ₓ hFin8'ₓ)
    | (refine csrc_tupleNH rfl (by k_asm) (by k_asm) (News.isTup (by k_asm) (by ((with_reducible (repeat (first | exact List.mem_cons_self | exact mem_led (by with_reducible assumption) | refine List.mem_cons_of_mem _ ?_ | refine mem_led_sub (by with_reducible assumption) ?_))); (first | done | with_reducible assumption)))) (by first | size_fits | exact Nat.le_of_ble_eq_true rfl) (by rfl) (by rfl) ?_; intro g1'ₓ g2'ₓ nb'ₓ Fin8'ₓ hFin8'ₓ)
    | (refine csrc_rangeNH rfl (by k_asm) (by k_asm) (by assumption) (by first | decide | rfl) (by first | rfl | decide) (by first | size_fits | exact Nat.le_of_ble_eq_true rfl) (by rfl) (by rfl) ?_; intro g1'ₓ g2'ₓ nb'ₓ Fin8'ₓ hFin8'ₓ)
    | (refine csrc_rangeXH rfl (by k_asm) (by k_asm) (by assumption) (by first | decide | rfl) (by first | rfl | decide) (by first | size_fits | exact Nat.le_of_ble_eq_true rfl) (by rfl) (by rfl) (fun _ => by rfl) ?_; intro g1'ₓ g2'ₓ nb'ₓ Fin8'ₓ hFin8'ₓ)); refine AllInC.both ?_; intro hsub'ₓ; (try dsimp only [AllInC]); intros; (try (refine AllInC.skip ?_)))
  k_with "call type:zip" => (k_here; (with_reducible show wpAny _ _ (PySem.call _ _) (CSrc _ _ _ _ _ _ _ _ _ _ _ _ _ _ _ _) _ _); k_dflt (refine csrc_zipH rfl (by k_asm) (by k_asm) (by is_list) (by is_list) (by first | size_fits | exact Nat.le_of_ble_eq_true rfl) (by rfl) (by rfl) (by decide) (by rfl) ?_; intro g1'ₓ g2'ₓ nb'ₓ Fin8'ₓ hFin8'ₓ); refine AllInC.both ?_; intro hsub'ₓ; (try dsimp only [AllInC]); intros; (try (refine AllInC.skip ?_)))
  k_with "call type:enumerate" => (k_here; (with_reducible show wpAny _ _ (PySem.call _ _) (CSrc _ _ _ _ _ _ _ _ _ _ _ _ _ _ _ _) _ _); k_dflt (refine csrc_enumH rfl (by k_asm) (by k_asm) (by is_list) (by first | size_fits | exact Nat.le_of_ble_eq_true rfl) (by rfl) (by rfl) (by decide) (by rfl) ?_; intro g1'ₓ g2'ₓ nb'ₓ Fin8'ₓ hFin8'ₓ); refine AllInC.both ?_; intro hsub'ₓ; (try dsimp only [AllInC]); intros; (try (refine AllInC.skip ?_)))
  k_with "RestL" => ((with_unfolding_all (first | refine RestL.l0 (by rfl) ?_ | refine RestL.lx0 (by rfl) ?_ | refine RestL.r0 ?_ | refine RestL.rx0 ?_ | refine RestL.z0 (by rfl) (by rfl) ?_ | refine RestL.e1 (by rfl) ?_)); intros)
  k_with "RestL" => (with_unfolding_all refine RestL.zero (by with_reducible assumption) (by with_reducible assumption) ?_)
  k_with "CFinE" => ((unfold CFinE); intro D'ₓ h'ₓ tk'ₓ l1'ₓ F'ₓ N'ₓ o1'ₓ; (try k_lt l1'ₓ); (try simp only [List.nil_append, List.cons_append, LCg.Off1, and_true] at o1'ₓ); (try simp only [snoc, List.nil_append, List.cons_append] at N'ₓ); (try dsimp only))
  k_with "CFinA" => ((unfold CFinA); intro D'ₓ h'ₓ tk'ₓ l1'ₓ F'ₓ N'ₓ o1'ₓ; (try k_lt l1'ₓ); (try simp only [List.nil_append, List.cons_append, LCg.Off1, and_true] at o1'ₓ); (try simp only [snoc, List.nil_append, List.cons_append] at N'ₓ); (try dsimp only))
  k_with "Hid" => ((with_reducible show Hid _ (Value.ref _) _); (first | (first | refine hid_fact (by with_reducible assumption) (by with_reducible assumption) ?_ | refine hid_fact3 (by with_reducible assumption) (by with_reducible assumption) ?_); intro hX9ₓ; simp only [AllLt, and_true] at hX9ₓ | skip); (refine turn1 (by with_reducible assumption) (by rfl) (by k_asm) (by first | k_asm | exact news_snd (by k_asm) | exact news_snd (news_snd (by k_asm)) | exact news_snd (news_snd (news_snd (by k_asm))) | exact news_snd (news_snd (news_snd (news_snd (by k_asm))))) (by first | assumption | exact And.right (α := _) (by assumption : AllLt _ (_ :: _)) | exact (And.right (And.right (by assumption : AllLt _ (_ :: _ :: _)))) | exact (And.right (And.right (And.right (by assumption : AllLt _ (_ :: _ :: _ :: _)))))) ?_))
  k_with "Hid" => ((with_reducible show Hid _ (Value.int _ _) _); (refine turn0 (by with_reducible assumption) (by rfl) (by k_asm) (by first | k_asm | exact news_tail (by k_asm) | exact news_tail (news_tail (by k_asm)) | exact news_tail (news_tail (news_tail (by k_asm))) | exact news_tail (news_tail (news_tail (news_tail (by k_asm)))) | exact news_tail (news_tail (news_tail (news_tail (news_tail (by k_asm))))) | exact news_tail (news_tail (news_tail (news_tail (news_tail (news_tail (by k_asm))))))) ?_))
  k_with "Hid" => ((with_reducible show Hid _ Value.none _); (refine turnF (by with_reducible assumption) (by rfl) (by k_asm) (by first | k_asm | exact news_tail (by k_asm) | exact news_tail (news_tail (by k_asm)) | exact news_tail (news_tail (news_tail (by k_asm))) | exact news_tail (news_tail (news_tail (news_tail (by k_asm)))) | exact news_tail (news_tail (news_tail (news_tail (news_tail (by k_asm))))) | exact news_tail (news_tail (news_tail (news_tail (news_tail (news_tail (by k_asm))))))) ?_))
  k_with "call builtin:max" => (k_here; (with_reducible show wpAny _ _ (PySem.call (Value.builtin _) [Value.ref _]) _ _ _); (with_unfolding_all refine' kso_max ?k1x299 ?k2x299 ?k3x299 ?k4x299 ?k5x299 ?k6x299 ?_; (case k1x299 => k_asm); (case k2x299 => k_asm); (case k3x299 => kso_list); (case k4x299 => l_ints); (case k5x299 => kso_len); (case k6x299 => with_unfolding_all rfl); k_whole); intro h'ₓ M'ₓ t'ₓ k'ₓ F'ₓ N'ₓ a'ₓ b'ₓ; (try kso_open a'ₓ); (try kso_open b'ₓ); (have kp'ₓ := keep2 a'ₓ b'ₓ); clear a'ₓ b'ₓ; (try k_sweep))
  k_with "exec Assign cons ListComp" => ((first
    | (with_reducible show wpAny _ _ (exec (Stmt.Assign [PySem.Expr.Name (Str.ofString "came") _] _ _) _) _ _ _)
    | (with_reducible show wpAny _ _ (exec (Stmt.Assign [PySem.Expr.Name (Str.ofString "services") _] _ _) _) _ _ _)
    | (with_reducible show wpAny _ _ (exec (Stmt.Assign [PySem.Expr.Name (Str.ofString "lines") _] _ _) _) _ _ _)
    | (with_reducible show wpAny _ _ (exec (Stmt.Assign [PySem.Expr.Name (Str.ofString "spare") _] _ _) _) _ _ _)
    | (with_reducible show wpAny _ _ (exec (Stmt.Assign [PySem.Expr.Name (Str.ofString "idles") _] _ _) _) _ _ _)
    | (with_reducible show wpAny _ _ (exec (Stmt.Assign [PySem.Expr.Name (Str.ofString "order") _] _ _) _) _ _ _)); k_dflt (refine wpAny_Assign_Name ?_))
  k_with "forall" => (intro D'ₓ h'ₓ tk'ₓ l1'ₓ F'ₓ N'ₓ o1'ₓ; (with_reducible have q9ₓ : LCg.Off1 _ _ := o1'ₓ); clear q9ₓ; (try k_lt l1'ₓ); (try simp only [snoc, List.nil_append, List.cons_append] at N'ₓ o1'ₓ); (try simp only [LCg.Off1, and_true] at o1'ₓ); (try dsimp only))
  k_with "execs cons" => ((with_reducible show wpAny _ _ (execs (Stmt.For _ _ _ _ _ :: _) _) _ _ _); refine haltI_T20 ?_)
  k_with "call builtin:sum" => (k_here; (with_reducible show wpAny _ _ (PySem.call (Value.builtin "sum") [Value.ref _]) _ _ _); k_dflt (refine' sumK ?k0x303 ?k1x303 ?k2x303 ?k3x303 ?k4x303 ?_; (case k0x303 => with_unfolding_all rfl); (case k1x303 => k_asm); (case k2x303 => k_asm); (case k3x303 => is_list); (case k4x303 => first | l_ints | l_intsW); k_whole); intro h'ₓ tk'ₓ t'ₓ F'ₓ N'ₓ; (try simp only [List.sum_cons, List.sum_nil]))
  k_with "eval Name" => (k_here; (with_reducible show wpAny _ _ (eval (PySem.Expr.Name _ _) (compEnvC _ _ _ _)) _ _ _); k_dflt (first
    | (refine' LCgL.ld_own ?Nx304 ?hmx304 ?hCx304 ?hxx304 ?_ ?hkx304 ?hlx304 ?hdx304; (case hlx304 => rfl); (case hkx304 => rfl); (case hdx304 => decide); (case Nx304 => k_asm); (case hmx304 => ((with_reducible (repeat (first | exact List.mem_cons_self | exact mem_led (by with_reducible assumption) | refine List.mem_cons_of_mem _ ?_ | refine mem_led_sub (by with_reducible assumption) ?_))); (first | done | with_reducible assumption))); (case hCx304 => with_reducible assumption); (case hxx304 => with_reducible assumption); k_whole)
    | (refine' kcf_cell ?Nx304 ?cx304 ?mx304 ?dx304 ?_ ?ax304 ?bx304 ?hdx304; (case bx304 => rfl); (case ax304 => rfl); (case hdx304 => decide); (case Nx304 => k_asm); (case cx304 => rfl); (case mx304 => ((with_reducible (repeat (first | exact List.mem_cons_self | exact mem_led (by with_reducible assumption) | refine List.mem_cons_of_mem _ ?_ | refine mem_led_sub (by with_reducible assumption) ?_))); (first | done | with_reducible assumption))); (case dx304 => k_asm); k_whole)
    | (refine' LCgL.ld_built ?Fx304 ?Xx304 ?Tx304 ?ex304 ?vx304 ?nx304 ?_ ?gx304 ?bx304 ?hkx304 ?hxx304 ?hdx304; (case hxx304 => rfl); (case hkx304 => rfl); (case gx304 => rfl); (case bx304 => rfl); (case hdx304 => decide); (case Fx304 => k_asm); (case Xx304 => k_asm); (case Tx304 => k_asm); (case ex304 => k_is); (case vx304 => boot_by_name); (case nx304 => decide); k_whole)))
  revert X
  k_fill
  intro X
  dsimp only [lawBody, lawScope, lawParts, List.drop]
  k_steps
  unfold Keep
  (rename News _ _ _ (_ :: _) => N9)
  (rename Fr _ _ _ _ => F9)
  with_reducible rename (Keep ((_ = 0 ∨ _ = v1 - (p1 + (q1 + (r1 + 0))) + 0) ∧ (0 ≤ _ ∧ v1 - (p1 + (q1 + (r1 + 0))) + 0 ≤ _))) => a1
  with_reducible rename (Keep ((_ = 0 ∨ _ = v1 - (p1 + (q1 + (r1 + 0))) + 0 ∨ _ = v1 - (p1 + (q1 + (r1 + 0))) + (v2 - (p2 + (q2 + (r2 + 0))) + 0)) ∧ (0 ≤ _ ∧ v1 - (p1 + (q1 + (r1 + 0))) + 0 ≤ _ ∧ v1 - (p1 + (q1 + (r1 + 0))) + (v2 - (p2 + (q2 + (r2 + 0))) + 0) ≤ _))) => a2
  with_reducible rename (Keep ((_ = 0 ∨ _ = v1 - (p1 + (q1 + (r1 + 0))) + 0 ∨ _ = v1 - (p1 + (q1 + (r1 + 0))) + (v2 - (p2 + (q2 + (r2 + 0))) + 0) ∨ _ = v1 - (p1 + (q1 + (r1 + 0))) + (v2 - (p2 + (q2 + (r2 + 0))) + (v3 - (p3 + (q3 + (r3 + 0))) + 0))) ∧ (0 ≤ _ ∧ v1 - (p1 + (q1 + (r1 + 0))) + 0 ≤ _ ∧ v1 - (p1 + (q1 + (r1 + 0))) + (v2 - (p2 + (q2 + (r2 + 0))) + 0) ≤ _ ∧ v1 - (p1 + (q1 + (r1 + 0))) + (v2 - (p2 + (q2 + (r2 + 0))) + (v3 - (p3 + (q3 + (r3 + 0))) + 0)) ≤ _))) => a3
  with_reducible rename (Keep ((_ = 0 ∨ _ = v1 - (p1 + (q1 + (r1 + 0))) + 0 ∨ _ = v1 - (p1 + (q1 + (r1 + 0))) + (v2 - (p2 + (q2 + (r2 + 0))) + 0) ∨ _ = v1 - (p1 + (q1 + (r1 + 0))) + (v2 - (p2 + (q2 + (r2 + 0))) + (v3 - (p3 + (q3 + (r3 + 0))) + 0)) ∨ _ = v1 - (p1 + (q1 + (r1 + 0))) + (v2 - (p2 + (q2 + (r2 + 0))) + (v3 - (p3 + (q3 + (r3 + 0))) + (v4 - (p4 + (q4 + (r4 + 0))) + 0)))) ∧ (0 ≤ _ ∧ v1 - (p1 + (q1 + (r1 + 0))) + 0 ≤ _ ∧ v1 - (p1 + (q1 + (r1 + 0))) + (v2 - (p2 + (q2 + (r2 + 0))) + 0) ≤ _ ∧ v1 - (p1 + (q1 + (r1 + 0))) + (v2 - (p2 + (q2 + (r2 + 0))) + (v3 - (p3 + (q3 + (r3 + 0))) + 0)) ≤ _ ∧ v1 - (p1 + (q1 + (r1 + 0))) + (v2 - (p2 + (q2 + (r2 + 0))) + (v3 - (p3 + (q3 + (r3 + 0))) + (v4 - (p4 + (q4 + (r4 + 0))) + 0))) ≤ _))) => a4
  with_reducible rename (Keep ((_ = 0 ∨ _ = v1 - (p1 + (q1 + (r1 + 0))) + 0 ∨ _ = v1 - (p1 + (q1 + (r1 + 0))) + (v2 - (p2 + (q2 + (r2 + 0))) + 0) ∨ _ = v1 - (p1 + (q1 + (r1 + 0))) + (v2 - (p2 + (q2 + (r2 + 0))) + (v3 - (p3 + (q3 + (r3 + 0))) + 0)) ∨ _ = v1 - (p1 + (q1 + (r1 + 0))) + (v2 - (p2 + (q2 + (r2 + 0))) + (v3 - (p3 + (q3 + (r3 + 0))) + (v4 - (p4 + (q4 + (r4 + 0))) + 0))) ∨ _ = v1 - (p1 + (q1 + (r1 + 0))) + (v2 - (p2 + (q2 + (r2 + 0))) + (v3 - (p3 + (q3 + (r3 + 0))) + (v4 - (p4 + (q4 + (r4 + 0))) + (v5 - (p5 + (q5 + (r5 + 0))) + 0))))) ∧ (0 ≤ _ ∧ v1 - (p1 + (q1 + (r1 + 0))) + 0 ≤ _ ∧ v1 - (p1 + (q1 + (r1 + 0))) + (v2 - (p2 + (q2 + (r2 + 0))) + 0) ≤ _ ∧ v1 - (p1 + (q1 + (r1 + 0))) + (v2 - (p2 + (q2 + (r2 + 0))) + (v3 - (p3 + (q3 + (r3 + 0))) + 0)) ≤ _ ∧ v1 - (p1 + (q1 + (r1 + 0))) + (v2 - (p2 + (q2 + (r2 + 0))) + (v3 - (p3 + (q3 + (r3 + 0))) + (v4 - (p4 + (q4 + (r4 + 0))) + 0))) ≤ _ ∧ v1 - (p1 + (q1 + (r1 + 0))) + (v2 - (p2 + (q2 + (r2 + 0))) + (v3 - (p3 + (q3 + (r3 + 0))) + (v4 - (p4 + (q4 + (r4 + 0))) + (v5 - (p5 + (q5 + (r5 + 0))) + 0)))) ≤ _))) => a5
  (rename _ = Data.cell (some (Value.ref _)) => d5)
  exact law_Cend w S I ns ni b1 b2 b3 b4 b5 p1 q1 r1 v1 p2 q2 r2 v2 p3 q3 r3 v3 p4 q4 r4 v4 p5 q5 r5 v5 n1 n2 n3 n4 n5 x1 x1' x1'' y1 x2 x2' x2'' y2 x3 x3' x3'' y3 x4 x4' x4'' y4 x5 x5' x5'' y5 G jG e0 e1 e2 e3 e4 e5 e6 e7 g01 g02 g03 g04 g05 g11 g12 g13 g14 g15 g21 g22 g23 g24 g25 g31 g32 g33 g34 g35 g41 g42 g43 g44 g45 g51 g52 g53 g54 g55 g61 g62 g63 g64 g65 g71 g72 g73 g74 g75 h01 h02 h03 h04 h05 h11 h12 h13 h14 h15 h21 h22 h23 h24 h25 h31 h32 h33 h34 h35 h41 h42 h43 h44 h45 h51 h52 h53 h54 h55 h61 h62 h63 h64 h65 h71 h72 h73 h74 h75 j0 j1 j2 j3 j4 j5 j6 j7 _ _ _ _ _ _ _ _ _ _ _ _ _ _ o1 o2 o3 _ _ o6 o7 o8 o9 hp1 hq1 hr1 hv1 hp2 hq2 hr2 hv2 hp3 hq3 hr3 hv3 hp4 hq4 hr4 hv4 hp5 hq5 hr5 hv5 hG0 hG1 hG2 hG3 hG4 hG5 hG6 hG7 hd1 hd2 hd3 d5 hd6 hd7 hd8 hd9 hLS hLI hLb1 hLb2 hLb3 hLb4 hLb5 hLG hLe0 hLe1 hLe2 hLe3 hLe4 hLe5 hLe6 hLe7 (by omega) a1 a2 a3 a4 a5 B F9 X T N9 hQ

theorem all (x : Pack) : PrX x := all_of_bad ne (by with_unfolding_all exact core) x
end EC
theorem law_C (w : World) {p : Program} {loose : List Str} {mean : ExcName → Option Value} {mg mb : Str → Option Value} {fa : Addr} {cd : Value} {h₀ : Heap} {L : Addr} {m : Str → Option Value} {s : Shared} {Q : Flow → Shared → Prop}
    (S I : Addr) (ns ni : Nat) (b1 b2 b3 b4 b5 : Addr) (p1 q1 r1 v1 p2 q2 r2 v2 p3 q3 r3 v3 p4 q4 r4 v4 p5 q5 r5 v5 : Int) (n1 n2 n3 n4 n5 : Nat) (x1 x1' x1'' y1 x2 x2' x2'' y2 x3 x3' x3'' y3 x4 x4' x4'' y4 x5 x5' x5'' y5 : Tok)  (hp1 : 0 ≤ p1 ∧ p1 ≤ 2) (hq1 : 0 ≤ q1 ∧ q1 ≤ 2) (hr1 : 0 ≤ r1 ∧ r1 ≤ 2) (hv1 : 0 ≤ v1 ∧ v1 ≤ 5) (hp2 : 0 ≤ p2 ∧ p2 ≤ 2) (hq2 : 0 ≤ q2 ∧ q2 ≤ 2) (hr2 : 0 ≤ r2 ∧ r2 ≤ 2) (hv2 : 0 ≤ v2 ∧ v2 ≤ 5) (hp3 : 0 ≤ p3 ∧ p3 ≤ 2) (hq3 : 0 ≤ q3 ∧ q3 ≤ 2) (hr3 : 0 ≤ r3 ∧ r3 ≤ 2) (hv3 : 0 ≤ v3 ∧ v3 ≤ 5) (hp4 : 0 ≤ p4 ∧ p4 ≤ 2) (hq4 : 0 ≤ q4 ∧ q4 ≤ 2) (hr4 : 0 ≤ r4 ∧ r4 ≤ 2) (hv4 : 0 ≤ v4 ∧ v4 ≤ 5) (hp5 : 0 ≤ p5 ∧ p5 ≤ 2) (hq5 : 0 ≤ q5 ∧ q5 ≤ 2) (hr5 : 0 ≤ r5 ∧ r5 ≤ 2) (hv5 : 0 ≤ v5 ∧ v5 ≤ 5) (G : Addr) (jG : Nat) (e0 e1 e2 e3 e4 e5 e6 e7 : Addr) (g01 g02 g03 g04 g05 g11 g12 g13 g14 g15 g21 g22 g23 g24 g25 g31 g32 g33 g34 g35 g41 g42 g43 g44 g45 g51 g52 g53 g54 g55 g61 g62 g63 g64 g65 g71 g72 g73 g74 g75 : Int) (h01 h02 h03 h04 h05 h11 h12 h13 h14 h15 h21 h22 h23 h24 h25 h31 h32 h33 h34 h35 h41 h42 h43 h44 h45 h51 h52 h53 h54 h55 h61 h62 h63 h64 h65 h71 h72 h73 h74 h75 : Tok) (j0 j1 j2 j3 j4 j5 j6 j7 : Nat) (hG0 : Lind (bnet 0 ⟨b1, n1, p1, q1, r1, v1, x1, x1', x1'', y1⟩) (bnet 0 ⟨b2, n2, p2, q2, r2, v2, x2, x2', x2'', y2⟩) (bnet 0 ⟨b3, n3, p3, q3, r3, v3, x3, x3', x3'', y3⟩) (bnet 0 ⟨b4, n4, p4, q4, r4, v4, x4, x4', x4'', y4⟩) (bnet 0 ⟨b5, n5, p5, q5, r5, v5, x5, x5', x5'', y5⟩) g01 g02 g03 g04 g05) (hG1 : Lind (bnet 1 ⟨b1, n1, p1, q1, r1, v1, x1, x1', x1'', y1⟩) (bnet 1 ⟨b2, n2, p2, q2, r2, v2, x2, x2', x2'', y2⟩) (bnet 1 ⟨b3, n3, p3, q3, r3, v3, x3, x3', x3'', y3⟩) (bnet 1 ⟨b4, n4, p4, q4, r4, v4, x4, x4', x4'', y4⟩) (bnet 1 ⟨b5, n5, p5, q5, r5, v5, x5, x5', x5'', y5⟩) g11 g12 g13 g14 g15) (hG2 : Lind (bnet 2 ⟨b1, n1, p1, q1, r1, v1, x1, x1', x1'', y1⟩) (bnet 2 ⟨b2, n2, p2, q2, r2, v2, x2, x2', x2'', y2⟩) (bnet 2 ⟨b3, n3, p3, q3, r3, v3, x3, x3', x3'', y3⟩) (bnet 2 ⟨b4, n4, p4, q4, r4, v4, x4, x4', x4'', y4⟩) (bnet 2 ⟨b5, n5, p5, q5, r5, v5, x5, x5', x5'', y5⟩) g21 g22 g23 g24 g25) (hG3 : Lind (bnet 3 ⟨b1, n1, p1, q1, r1, v1, x1, x1', x1'', y1⟩) (bnet 3 ⟨b2, n2, p2, q2, r2, v2, x2, x2', x2'', y2⟩) (bnet 3 ⟨b3, n3, p3, q3, r3, v3, x3, x3', x3'', y3⟩) (bnet 3 ⟨b4, n4, p4, q4, r4, v4, x4, x4', x4'', y4⟩) (bnet 3 ⟨b5, n5, p5, q5, r5, v5, x5, x5', x5'', y5⟩) g31 g32 g33 g34 g35) (hG4 : Lind (bnet 4 ⟨b1, n1, p1, q1, r1, v1, x1, x1', x1'', y1⟩) (bnet 4 ⟨b2, n2, p2, q2, r2, v2, x2, x2', x2'', y2⟩) (bnet 4 ⟨b3, n3, p3, q3, r3, v3, x3, x3', x3'', y3⟩) (bnet 4 ⟨b4, n4, p4, q4, r4, v4, x4, x4', x4'', y4⟩) (bnet 4 ⟨b5, n5, p5, q5, r5, v5, x5, x5', x5'', y5⟩) g41 g42 g43 g44 g45) (hG5 : Lind (bnet 5 ⟨b1, n1, p1, q1, r1, v1, x1, x1', x1'', y1⟩) (bnet 5 ⟨b2, n2, p2, q2, r2, v2, x2, x2', x2'', y2⟩) (bnet 5 ⟨b3, n3, p3, q3, r3, v3, x3, x3', x3'', y3⟩) (bnet 5 ⟨b4, n4, p4, q4, r4, v4, x4, x4', x4'', y4⟩) (bnet 5 ⟨b5, n5, p5, q5, r5, v5, x5, x5', x5'', y5⟩) g51 g52 g53 g54 g55) (hG6 : Lind (bnet 6 ⟨b1, n1, p1, q1, r1, v1, x1, x1', x1'', y1⟩) (bnet 6 ⟨b2, n2, p2, q2, r2, v2, x2, x2', x2'', y2⟩) (bnet 6 ⟨b3, n3, p3, q3, r3, v3, x3, x3', x3'', y3⟩) (bnet 6 ⟨b4, n4, p4, q4, r4, v4, x4, x4', x4'', y4⟩) (bnet 6 ⟨b5, n5, p5, q5, r5, v5, x5, x5', x5'', y5⟩) g61 g62 g63 g64 g65) (hG7 : Lind (bnet 7 ⟨b1, n1, p1, q1, r1, v1, x1, x1', x1'', y1⟩) (bnet 7 ⟨b2, n2, p2, q2, r2, v2, x2, x2', x2'', y2⟩) (bnet 7 ⟨b3, n3, p3, q3, r3, v3, x3, x3', x3'', y3⟩) (bnet 7 ⟨b4, n4, p4, q4, r4, v4, x4, x4', x4'', y4⟩) (bnet 7 ⟨b5, n5, p5, q5, r5, v5, x5, x5', x5'', y5⟩) g71 g72 g73 g74 g75) (o1 o2 o3 o4 o5 o6 o7 o8 o9 : Obj) (hd1 : o1.data = .cell (some (.ref I))) (hd2 : o2.data = .cell (some (.ref S))) (hd3 : o3.data = .cell (some (.ref G))) (hd4 : o4.data = .cell none) (hd5 : o5.data = .cell none) (hd6 : o6.data = .cell none) (hd7 : o7.data = .cell none) (hd8 : o8.data = .cell none) (hd9 : o9.data = .cell none) (hLS : @LT.lt Nat _ (L + 1 + 1 + 1 + 1 + 1 + 1 + 1 + 1 + 1) S) (hLI : @LT.lt Nat _ (L + 1 + 1 + 1 + 1 + 1 + 1 + 1 + 1 + 1) I) (hLb1 : @LT.lt Nat _ (L + 1 + 1 + 1 + 1 + 1 + 1 + 1 + 1 + 1) b1) (hLb2 : @LT.lt Nat _ (L + 1 + 1 + 1 + 1 + 1 + 1 + 1 + 1 + 1) b2) (hLb3 : @LT.lt Nat _ (L + 1 + 1 + 1 + 1 + 1 + 1 + 1 + 1 + 1) b3) (hLb4 : @LT.lt Nat _ (L + 1 + 1 + 1 + 1 + 1 + 1 + 1 + 1 + 1) b4) (hLb5 : @LT.lt Nat _ (L + 1 + 1 + 1 + 1 + 1 + 1 + 1 + 1 + 1) b5) (hLG : @LT.lt Nat _ (L + 1 + 1 + 1 + 1 + 1 + 1 + 1 + 1 + 1) G) (hLe0 : @LT.lt Nat _ (L + 1 + 1 + 1 + 1 + 1 + 1 + 1 + 1 + 1) e0) (hLe1 : @LT.lt Nat _ (L + 1 + 1 + 1 + 1 + 1 + 1 + 1 + 1 + 1) e1) (hLe2 : @LT.lt Nat _ (L + 1 + 1 + 1 + 1 + 1 + 1 + 1 + 1 + 1) e2) (hLe3 : @LT.lt Nat _ (L + 1 + 1 + 1 + 1 + 1 + 1 + 1 + 1 + 1) e3) (hLe4 : @LT.lt Nat _ (L + 1 + 1 + 1 + 1 + 1 + 1 + 1 + 1 + 1) e4) (hLe5 : @LT.lt Nat _ (L + 1 + 1 + 1 + 1 + 1 + 1 + 1 + 1 + 1) e5) (hLe6 : @LT.lt Nat _ (L + 1 + 1 + 1 + 1 + 1 + 1 + 1 + 1 + 1) e6) (hLe7 : @LT.lt Nat _ (L + 1 + 1 + 1 + 1 + 1 + 1 + 1 + 1 + 1) e7)
    (B : Below callerA h₀ [] h₀) (F : Fr h₀ L s.heap m) (X : (hd.heap_1 w.params).In h₀) (T : Top p loose mean mg mb h₀) (N : News h₀ L s.heap [(G, W.listOf #[.ref e0, .ref e1, .ref e2, .ref e3, .ref e4, .ref e5, .ref e6, .ref e7] jG), (e7, W.listOf #[.int g71 h71, .int g72 h72, .int g73 h73, .int g74 h74, .int g75 h75] j7), (e6, W.listOf #[.int g61 h61, .int g62 h62, .int g63 h63, .int g64 h64, .int g65 h65] j6), (e5, W.listOf #[.int g51 h51, .int g52 h52, .int g53 h53, .int g54 h54, .int g55 h55] j5), (e4, W.listOf #[.int g41 h41, .int g42 h42, .int g43 h43, .int g44 h44, .int g45 h45] j4), (e3, W.listOf #[.int g31 h31, .int g32 h32, .int g33 h33, .int g34 h34, .int g35 h35] j3), (e2, W.listOf #[.int g21 h21, .int g22 h22, .int g23 h23, .int g24 h24, .int g25 h25] j2), (e1, W.listOf #[.int g11 h11, .int g12 h12, .int g13 h13, .int g14 h14, .int g15 h15] j1), (e0, W.listOf #[.int g01 h01, .int g02 h02, .int g03 h03, .int g04 h04, .int g05 h05] j0), (S, W.listOf #[.int v1 y1, .int v2 y2, .int v3 y3, .int v4 y4, .int v5 y5] ns), (I, W.listOf #[.ref b1, .ref b2, .ref b3, .ref b4, .ref b5] ni), (b5, W.listOf #[.int p5 x5, .int q5 x5', .int r5 x5''] n5), (b4, W.listOf #[.int p4 x4, .int q4 x4', .int r4 x4''] n4), (b3, W.listOf #[.int p3 x3, .int q3 x3', .int r3 x3''] n3), (b2, W.listOf #[.int p2 x2, .int q2 x2', .int r2 x2''] n2), (b1, W.listOf #[.int p1 x1, .int q1 x1', .int r1 x1''] n1), (L + 1 + 1 + 1 + 1 + 1 + 1 + 1 + 1 + 1, o9), (L + 1 + 1 + 1 + 1 + 1 + 1 + 1 + 1, o8), (L + 1 + 1 + 1 + 1 + 1 + 1 + 1, o7), (L + 1 + 1 + 1 + 1 + 1 + 1, o6), (L + 1 + 1 + 1 + 1 + 1, o5), (L + 1 + 1 + 1 + 1, o4), (L + 1 + 1 + 1, o3), (L + 1 + 1, o2), (L + 1, o1)])
    (hQ : ∀ h' tk' m', Fr h₀ L h' m' → Q (.ret (.bool true)) { s with heap := h', toks := tk' }) : wpAny (model Challenge.rw_wo0027_01.row.prog w) (callerA.deeper (envOfC (Str.ofString "law") lawScope L fa cd)) (execs (lawBody.drop 5) (envOfC (Str.ofString "law") lawScope L fa cd)) Q (fun _ _ => False) s :=
  EC.all (w, p, loose, mean, mg, mb, fa, cd, h₀, L, m, s, Q, S, I, ns, ni, b1, b2, b3, b4, b5, p1, q1, r1, v1, p2, q2, r2, v2, p3, q3, r3, v3, p4, q4, r4, v4, p5, q5, r5, v5, n1, n2, n3, n4, n5, x1, x1', x1'', y1, x2, x2', x2'', y2, x3, x3', x3'', y3, x4, x4', x4'', y4, x5, x5', x5'', y5, G, jG, e0, e1, e2, e3, e4, e5, e6, e7, g01, g02, g03, g04, g05, g11, g12, g13, g14, g15, g21, g22, g23, g24, g25, g31, g32, g33, g34, g35, g41, g42, g43, g44, g45, g51, g52, g53, g54, g55, g61, g62, g63, g64, g65, g71, g72, g73, g74, g75, h01, h02, h03, h04, h05, h11, h12, h13, h14, h15, h21, h22, h23, h24, h25, h31, h32, h33, h34, h35, h41, h42, h43, h44, h45, h51, h52, h53, h54, h55, h61, h62, h63, h64, h65, h71, h72, h73, h74, h75, j0, j1, j2, j3, j4, j5, j6, j7, o1, o2, o3, o4, o5, o6, o7, o8, o9) hp1 hq1 hr1 hv1 hp2 hq2 hr2 hv2 hp3 hq3 hr3 hv3 hp4 hq4 hr4 hv4 hp5 hq5 hr5 hv5 hG0 hG1 hG2 hG3 hG4 hG5 hG6 hG7 hd1 hd2 hd3 hd4 hd5 hd6 hd7 hd8 hd9 hLS hLI hLb1 hLb2 hLb3 hLb4 hLb5 hLG hLe0 hLe1 hLe2 hLe3 hLe4 hLe5 hLe6 hLe7 B F X T N hQ
end Mine
end
section
open PySem PySem.W PySem.Calls PyProof.Rows
set_option Elab.async false
set_option maxRecDepth 100000
set_option maxHeartbeats 8000000
set_option pp.deepTerms false
set_option pp.deepTerms.threshold 4
set_option pp.maxSteps 6000
namespace Mine
theorem haltI_T22 {P : Prop} (h : Keep P) : P := h

namespace EB
noncomputable def Pr (w : World) (p : Program) (loose : List Str) (mean : ExcName → Option Value) (mg : Str → Option Value) (mb : Str → Option Value) (fa : Addr) (cd : Value) (h₀ : Heap) (L : Addr) (m : Str → Option Value) (s : Shared) (Q : Flow → Shared → Prop) (S : Addr) (I : Addr) (ns : Nat) (ni : Nat) (b1 : Addr) (b2 : Addr) (b3 : Addr) (b4 : Addr) (b5 : Addr) (p1 : Int) (q1 : Int) (r1 : Int) (v1 : Int) (p2 : Int) (q2 : Int) (r2 : Int) (v2 : Int) (p3 : Int) (q3 : Int) (r3 : Int) (v3 : Int) (p4 : Int) (q4 : Int) (r4 : Int) (v4 : Int) (p5 : Int) (q5 : Int) (r5 : Int) (v5 : Int) (n1 : Nat) (n2 : Nat) (n3 : Nat) (n4 : Nat) (n5 : Nat) (x1 : Tok) (x1' : Tok) (x1'' : Tok) (y1 : Tok) (x2 : Tok) (x2' : Tok) (x2'' : Tok) (y2 : Tok) (x3 : Tok) (x3' : Tok) (x3'' : Tok) (y3 : Tok) (x4 : Tok) (x4' : Tok) (x4'' : Tok) (y4 : Tok) (x5 : Tok) (x5' : Tok) (x5'' : Tok) (y5 : Tok) (o1 : Obj) (o2 : Obj) (o3 : Obj) (o4 : Obj) (o5 : Obj) (o6 : Obj) (o7 : Obj) (o8 : Obj) (o9 : Obj) : Prop := ∀ (hp1 : 0 ≤ p1 ∧ p1 ≤ 2) (hq1 : 0 ≤ q1 ∧ q1 ≤ 2) (hr1 : 0 ≤ r1 ∧ r1 ≤ 2) (hv1 : 0 ≤ v1 ∧ v1 ≤ 5) (hp2 : 0 ≤ p2 ∧ p2 ≤ 2) (hq2 : 0 ≤ q2 ∧ q2 ≤ 2) (hr2 : 0 ≤ r2 ∧ r2 ≤ 2) (hv2 : 0 ≤ v2 ∧ v2 ≤ 5) (hp3 : 0 ≤ p3 ∧ p3 ≤ 2) (hq3 : 0 ≤ q3 ∧ q3 ≤ 2) (hr3 : 0 ≤ r3 ∧ r3 ≤ 2) (hv3 : 0 ≤ v3 ∧ v3 ≤ 5) (hp4 : 0 ≤ p4 ∧ p4 ≤ 2) (hq4 : 0 ≤ q4 ∧ q4 ≤ 2) (hr4 : 0 ≤ r4 ∧ r4 ≤ 2) (hv4 : 0 ≤ v4 ∧ v4 ≤ 5) (hp5 : 0 ≤ p5 ∧ p5 ≤ 2) (hq5 : 0 ≤ q5 ∧ q5 ≤ 2) (hr5 : 0 ≤ r5 ∧ r5 ≤ 2) (hv5 : 0 ≤ v5 ∧ v5 ≤ 5) (hd1 : o1.data = .cell (some (.ref I))) (hd2 : o2.data = .cell (some (.ref S))) (hd3 : o3.data = .cell none) (hd4 : o4.data = .cell none) (hd5 : o5.data = .cell none) (hd6 : o6.data = .cell none) (hd7 : o7.data = .cell none) (hd8 : o8.data = .cell none) (hd9 : o9.data = .cell none) (hLS : @LT.lt Nat _ (L + 1 + 1 + 1 + 1 + 1 + 1 + 1 + 1 + 1) S) (hLI : @LT.lt Nat _ (L + 1 + 1 + 1 + 1 + 1 + 1 + 1 + 1 + 1) I) (hLb1 : @LT.lt Nat _ (L + 1 + 1 + 1 + 1 + 1 + 1 + 1 + 1 + 1) b1) (hLb2 : @LT.lt Nat _ (L + 1 + 1 + 1 + 1 + 1 + 1 + 1 + 1 + 1) b2) (hLb3 : @LT.lt Nat _ (L + 1 + 1 + 1 + 1 + 1 + 1 + 1 + 1 + 1) b3) (hLb4 : @LT.lt Nat _ (L + 1 + 1 + 1 + 1 + 1 + 1 + 1 + 1 + 1) b4) (hLb5 : @LT.lt Nat _ (L + 1 + 1 + 1 + 1 + 1 + 1 + 1 + 1 + 1) b5) (B : Below callerA h₀ [] h₀) (F : Fr h₀ L s.heap m) (X : (hd.heap_1 w.params).In h₀) (T : Top p loose mean mg mb h₀) (N : News h₀ L s.heap [(S, W.listOf #[.int v1 y1, .int v2 y2, .int v3 y3, .int v4 y4, .int v5 y5] ns), (I, W.listOf #[.ref b1, .ref b2, .ref b3, .ref b4, .ref b5] ni), (b5, W.listOf #[.int p5 x5, .int q5 x5', .int r5 x5''] n5), (b4, W.listOf #[.int p4 x4, .int q4 x4', .int r4 x4''] n4), (b3, W.listOf #[.int p3 x3, .int q3 x3', .int r3 x3''] n3), (b2, W.listOf #[.int p2 x2, .int q2 x2', .int r2 x2''] n2), (b1, W.listOf #[.int p1 x1, .int q1 x1', .int r1 x1''] n1), (L + 1 + 1 + 1 + 1 + 1 + 1 + 1 + 1 + 1, o9), (L + 1 + 1 + 1 + 1 + 1 + 1 + 1 + 1, o8), (L + 1 + 1 + 1 + 1 + 1 + 1 + 1, o7), (L + 1 + 1 + 1 + 1 + 1 + 1, o6), (L + 1 + 1 + 1 + 1 + 1, o5), (L + 1 + 1 + 1 + 1, o4), (L + 1 + 1 + 1, o3), (L + 1 + 1, o2), (L + 1, o1)]) (hQ : ∀ h' tk' m', Fr h₀ L h' m' → Q (.ret (.bool true)) { s with heap := h', toks := tk' }), wpAny (model Challenge.rw_wo0027_01.row.prog w) (callerA.deeper (envOfC (Str.ofString "law") lawScope L fa cd)) (execs (lawBody.drop 4) (envOfC (Str.ofString "law") lawScope L fa cd)) Q (fun _ _ => False) s
abbrev Pack : Type := (World) × (Program) × (List Str) × (ExcName → Option Value) × (Str → Option Value) × (Str → Option Value) × (Addr) × (Value) × (Heap) × (Addr) × (Str → Option Value) × (Shared) × (Flow → Shared → Prop) × (Addr) × (Addr) × (Nat) × (Nat) × (Addr) × (Addr) × (Addr) × (Addr) × (Addr) × (Int) × (Int) × (Int) × (Int) × (Int) × (Int) × (Int) × (Int) × (Int) × (Int) × (Int) × (Int) × (Int) × (Int) × (Int) × (Int) × (Int) × (Int) × (Int) × (Int) × (Nat) × (Nat) × (Nat) × (Nat) × (Nat) × (Tok) × (Tok) × (Tok) × (Tok) × (Tok) × (Tok) × (Tok) × (Tok) × (Tok) × (Tok) × (Tok) × (Tok) × (Tok) × (Tok) × (Tok) × (Tok) × (Tok) × (Tok) × (Tok) × (Tok) × (Obj) × (Obj) × (Obj) × (Obj) × (Obj) × (Obj) × (Obj) × (Obj) × (Obj)
noncomputable def PrX (x : Pack) : Prop := Pr (x.1) (x.2.1) (x.2.2.1) (x.2.2.2.1) (x.2.2.2.2.1) (x.2.2.2.2.2.1) (x.2.2.2.2.2.2.1) (x.2.2.2.2.2.2.2.1) (x.2.2.2.2.2.2.2.2.1) (x.2.2.2.2.2.2.2.2.2.1) (x.2.2.2.2.2.2.2.2.2.2.1) (x.2.2.2.2.2.2.2.2.2.2.2.1) (x.2.2.2.2.2.2.2.2.2.2.2.2.1) (x.2.2.2.2.2.2.2.2.2.2.2.2.2.1) (x.2.2.2.2.2.2.2.2.2.2.2.2.2.2.1) (x.2.2.2.2.2.2.2.2.2.2.2.2.2.2.2.1) (x.2.2.2.2.2.2.2.2.2.2.2.2.2.2.2.2.1) (x.2.2.2.2.2.2.2.2.2.2.2.2.2.2.2.2.2.1) (x.2.2.2.2.2.2.2.2.2.2.2.2.2.2.2.2.2.2.1) (x.2.2.2.2.2.2.2.2.2.2.2.2.2.2.2.2.2.2.2.1) (x.2.2.2.2.2.2.2.2.2.2.2.2.2.2.2.2.2.2.2.2.1) (x.2.2.2.2.2.2.2.2.2.2.2.2.2.2.2.2.2.2.2.2.2.1) (x.2.2.2.2.2.2.2.2.2.2.2.2.2.2.2.2.2.2.2.2.2.2.1) (x.2.2.2.2.2.2.2.2.2.2.2.2.2.2.2.2.2.2.2.2.2.2.2.1) (x.2.2.2.2.2.2.2.2.2.2.2.2.2.2.2.2.2.2.2.2.2.2.2.2.1) (x.2.2.2.2.2.2.2.2.2.2.2.2.2.2.2.2.2.2.2.2.2.2.2.2.2.1) (x.2.2.2.2.2.2.2.2.2.2.2.2.2.2.2.2.2.2.2.2.2.2.2.2.2.2.1) (x.2.2.2.2.2.2.2.2.2.2.2.2.2.2.2.2.2.2.2.2.2.2.2.2.2.2.2.1) (x.2.2.2.2.2.2.2.2.2.2.2.2.2.2.2.2.2.2.2.2.2.2.2.2.2.2.2.2.1) (x.2.2.2.2.2.2.2.2.2.2.2.2.2.2.2.2.2.2.2.2.2.2.2.2.2.2.2.2.2.1) (x.2.2.2.2.2.2.2.2.2.2.2.2.2.2.2.2.2.2.2.2.2.2.2.2.2.2.2.2.2.2.1) (x.2.2.2.2.2.2.2.2.2.2.2.2.2.2.2.2.2.2.2.2.2.2.2.2.2.2.2.2.2.2.2.1) (x.2.2.2.2.2.2.2.2.2.2.2.2.2.2.2.2.2.2.2.2.2.2.2.2.2.2.2.2.2.2.2.2.1) (x.2.2.2.2.2.2.2.2.2.2.2.2.2.2.2.2.2.2.2.2.2.2.2.2.2.2.2.2.2.2.2.2.2.1) (x.2.2.2.2.2.2.2.2.2.2.2.2.2.2.2.2.2.2.2.2.2.2.2.2.2.2.2.2.2.2.2.2.2.2.1) (x.2.2.2.2.2.2.2.2.2.2.2.2.2.2.2.2.2.2.2.2.2.2.2.2.2.2.2.2.2.2.2.2.2.2.2.1) (x.2.2.2.2.2.2.2.2.2.2.2.2.2.2.2.2.2.2.2.2.2.2.2.2.2.2.2.2.2.2.2.2.2.2.2.2.1) (x.2.2.2.2.2.2.2.2.2.2.2.2.2.2.2.2.2.2.2.2.2.2.2.2.2.2.2.2.2.2.2.2.2.2.2.2.2.1) (x.2.2.2.2.2.2.2.2.2.2.2.2.2.2.2.2.2.2.2.2.2.2.2.2.2.2.2.2.2.2.2.2.2.2.2.2.2.2.1) (x.2.2.2.2.2.2.2.2.2.2.2.2.2.2.2.2.2.2.2.2.2.2.2.2.2.2.2.2.2.2.2.2.2.2.2.2.2.2.2.1) (x.2.2.2.2.2.2.2.2.2.2.2.2.2.2.2.2.2.2.2.2.2.2.2.2.2.2.2.2.2.2.2.2.2.2.2.2.2.2.2.2.1) (x.2.2.2.2.2.2.2.2.2.2.2.2.2.2.2.2.2.2.2.2.2.2.2.2.2.2.2.2.2.2.2.2.2.2.2.2.2.2.2.2.2.1) (x.2.2.2.2.2.2.2.2.2.2.2.2.2.2.2.2.2.2.2.2.2.2.2.2.2.2.2.2.2.2.2.2.2.2.2.2.2.2.2.2.2.2.1) (x.2.2.2.2.2.2.2.2.2.2.2.2.2.2.2.2.2.2.2.2.2.2.2.2.2.2.2.2.2.2.2.2.2.2.2.2.2.2.2.2.2.2.2.1) (x.2.2.2.2.2.2.2.2.2.2.2.2.2.2.2.2.2.2.2.2.2.2.2.2.2.2.2.2.2.2.2.2.2.2.2.2.2.2.2.2.2.2.2.2.1) (x.2.2.2.2.2.2.2.2.2.2.2.2.2.2.2.2.2.2.2.2.2.2.2.2.2.2.2.2.2.2.2.2.2.2.2.2.2.2.2.2.2.2.2.2.2.1) (x.2.2.2.2.2.2.2.2.2.2.2.2.2.2.2.2.2.2.2.2.2.2.2.2.2.2.2.2.2.2.2.2.2.2.2.2.2.2.2.2.2.2.2.2.2.2.1) (x.2.2.2.2.2.2.2.2.2.2.2.2.2.2.2.2.2.2.2.2.2.2.2.2.2.2.2.2.2.2.2.2.2.2.2.2.2.2.2.2.2.2.2.2.2.2.2.1) (x.2.2.2.2.2.2.2.2.2.2.2.2.2.2.2.2.2.2.2.2.2.2.2.2.2.2.2.2.2.2.2.2.2.2.2.2.2.2.2.2.2.2.2.2.2.2.2.2.1) (x.2.2.2.2.2.2.2.2.2.2.2.2.2.2.2.2.2.2.2.2.2.2.2.2.2.2.2.2.2.2.2.2.2.2.2.2.2.2.2.2.2.2.2.2.2.2.2.2.2.1) (x.2.2.2.2.2.2.2.2.2.2.2.2.2.2.2.2.2.2.2.2.2.2.2.2.2.2.2.2.2.2.2.2.2.2.2.2.2.2.2.2.2.2.2.2.2.2.2.2.2.2.1) (x.2.2.2.2.2.2.2.2.2.2.2.2.2.2.2.2.2.2.2.2.2.2.2.2.2.2.2.2.2.2.2.2.2.2.2.2.2.2.2.2.2.2.2.2.2.2.2.2.2.2.2.1) (x.2.2.2.2.2.2.2.2.2.2.2.2.2.2.2.2.2.2.2.2.2.2.2.2.2.2.2.2.2.2.2.2.2.2.2.2.2.2.2.2.2.2.2.2.2.2.2.2.2.2.2.2.1) (x.2.2.2.2.2.2.2.2.2.2.2.2.2.2.2.2.2.2.2.2.2.2.2.2.2.2.2.2.2.2.2.2.2.2.2.2.2.2.2.2.2.2.2.2.2.2.2.2.2.2.2.2.2.1) (x.2.2.2.2.2.2.2.2.2.2.2.2.2.2.2.2.2.2.2.2.2.2.2.2.2.2.2.2.2.2.2.2.2.2.2.2.2.2.2.2.2.2.2.2.2.2.2.2.2.2.2.2.2.2.1) (x.2.2.2.2.2.2.2.2.2.2.2.2.2.2.2.2.2.2.2.2.2.2.2.2.2.2.2.2.2.2.2.2.2.2.2.2.2.2.2.2.2.2.2.2.2.2.2.2.2.2.2.2.2.2.2.1) (x.2.2.2.2.2.2.2.2.2.2.2.2.2.2.2.2.2.2.2.2.2.2.2.2.2.2.2.2.2.2.2.2.2.2.2.2.2.2.2.2.2.2.2.2.2.2.2.2.2.2.2.2.2.2.2.2.1) (x.2.2.2.2.2.2.2.2.2.2.2.2.2.2.2.2.2.2.2.2.2.2.2.2.2.2.2.2.2.2.2.2.2.2.2.2.2.2.2.2.2.2.2.2.2.2.2.2.2.2.2.2.2.2.2.2.2.1) (x.2.2.2.2.2.2.2.2.2.2.2.2.2.2.2.2.2.2.2.2.2.2.2.2.2.2.2.2.2.2.2.2.2.2.2.2.2.2.2.2.2.2.2.2.2.2.2.2.2.2.2.2.2.2.2.2.2.2.1) (x.2.2.2.2.2.2.2.2.2.2.2.2.2.2.2.2.2.2.2.2.2.2.2.2.2.2.2.2.2.2.2.2.2.2.2.2.2.2.2.2.2.2.2.2.2.2.2.2.2.2.2.2.2.2.2.2.2.2.2.1) (x.2.2.2.2.2.2.2.2.2.2.2.2.2.2.2.2.2.2.2.2.2.2.2.2.2.2.2.2.2.2.2.2.2.2.2.2.2.2.2.2.2.2.2.2.2.2.2.2.2.2.2.2.2.2.2.2.2.2.2.2.1) (x.2.2.2.2.2.2.2.2.2.2.2.2.2.2.2.2.2.2.2.2.2.2.2.2.2.2.2.2.2.2.2.2.2.2.2.2.2.2.2.2.2.2.2.2.2.2.2.2.2.2.2.2.2.2.2.2.2.2.2.2.2.1) (x.2.2.2.2.2.2.2.2.2.2.2.2.2.2.2.2.2.2.2.2.2.2.2.2.2.2.2.2.2.2.2.2.2.2.2.2.2.2.2.2.2.2.2.2.2.2.2.2.2.2.2.2.2.2.2.2.2.2.2.2.2.2.1) (x.2.2.2.2.2.2.2.2.2.2.2.2.2.2.2.2.2.2.2.2.2.2.2.2.2.2.2.2.2.2.2.2.2.2.2.2.2.2.2.2.2.2.2.2.2.2.2.2.2.2.2.2.2.2.2.2.2.2.2.2.2.2.2.1) (x.2.2.2.2.2.2.2.2.2.2.2.2.2.2.2.2.2.2.2.2.2.2.2.2.2.2.2.2.2.2.2.2.2.2.2.2.2.2.2.2.2.2.2.2.2.2.2.2.2.2.2.2.2.2.2.2.2.2.2.2.2.2.2.2.1) (x.2.2.2.2.2.2.2.2.2.2.2.2.2.2.2.2.2.2.2.2.2.2.2.2.2.2.2.2.2.2.2.2.2.2.2.2.2.2.2.2.2.2.2.2.2.2.2.2.2.2.2.2.2.2.2.2.2.2.2.2.2.2.2.2.2.1) (x.2.2.2.2.2.2.2.2.2.2.2.2.2.2.2.2.2.2.2.2.2.2.2.2.2.2.2.2.2.2.2.2.2.2.2.2.2.2.2.2.2.2.2.2.2.2.2.2.2.2.2.2.2.2.2.2.2.2.2.2.2.2.2.2.2.2.1) (x.2.2.2.2.2.2.2.2.2.2.2.2.2.2.2.2.2.2.2.2.2.2.2.2.2.2.2.2.2.2.2.2.2.2.2.2.2.2.2.2.2.2.2.2.2.2.2.2.2.2.2.2.2.2.2.2.2.2.2.2.2.2.2.2.2.2.2.1) (x.2.2.2.2.2.2.2.2.2.2.2.2.2.2.2.2.2.2.2.2.2.2.2.2.2.2.2.2.2.2.2.2.2.2.2.2.2.2.2.2.2.2.2.2.2.2.2.2.2.2.2.2.2.2.2.2.2.2.2.2.2.2.2.2.2.2.2.2.1) (x.2.2.2.2.2.2.2.2.2.2.2.2.2.2.2.2.2.2.2.2.2.2.2.2.2.2.2.2.2.2.2.2.2.2.2.2.2.2.2.2.2.2.2.2.2.2.2.2.2.2.2.2.2.2.2.2.2.2.2.2.2.2.2.2.2.2.2.2.2.1) (x.2.2.2.2.2.2.2.2.2.2.2.2.2.2.2.2.2.2.2.2.2.2.2.2.2.2.2.2.2.2.2.2.2.2.2.2.2.2.2.2.2.2.2.2.2.2.2.2.2.2.2.2.2.2.2.2.2.2.2.2.2.2.2.2.2.2.2.2.2.2.1) (x.2.2.2.2.2.2.2.2.2.2.2.2.2.2.2.2.2.2.2.2.2.2.2.2.2.2.2.2.2.2.2.2.2.2.2.2.2.2.2.2.2.2.2.2.2.2.2.2.2.2.2.2.2.2.2.2.2.2.2.2.2.2.2.2.2.2.2.2.2.2.2.1) (x.2.2.2.2.2.2.2.2.2.2.2.2.2.2.2.2.2.2.2.2.2.2.2.2.2.2.2.2.2.2.2.2.2.2.2.2.2.2.2.2.2.2.2.2.2.2.2.2.2.2.2.2.2.2.2.2.2.2.2.2.2.2.2.2.2.2.2.2.2.2.2.2.1) (x.2.2.2.2.2.2.2.2.2.2.2.2.2.2.2.2.2.2.2.2.2.2.2.2.2.2.2.2.2.2.2.2.2.2.2.2.2.2.2.2.2.2.2.2.2.2.2.2.2.2.2.2.2.2.2.2.2.2.2.2.2.2.2.2.2.2.2.2.2.2.2.2.2.1) (x.2.2.2.2.2.2.2.2.2.2.2.2.2.2.2.2.2.2.2.2.2.2.2.2.2.2.2.2.2.2.2.2.2.2.2.2.2.2.2.2.2.2.2.2.2.2.2.2.2.2.2.2.2.2.2.2.2.2.2.2.2.2.2.2.2.2.2.2.2.2.2.2.2.2.1) (x.2.2.2.2.2.2.2.2.2.2.2.2.2.2.2.2.2.2.2.2.2.2.2.2.2.2.2.2.2.2.2.2.2.2.2.2.2.2.2.2.2.2.2.2.2.2.2.2.2.2.2.2.2.2.2.2.2.2.2.2.2.2.2.2.2.2.2.2.2.2.2.2.2.2.2)
theorem ne : Nonempty Pack := ⟨(aWorld 1, default, default, default, default, default, default, default, default, default, default, (start Mine.view).1, default, default, default, default, default, default, default, default, default, default, default, default, default, default, default, default, default, default, default, default, default, default, default, default, default, default, default, default, default, default, default, default, default, default, default, default, default, default, default, default, default, default, default, default, default, default, default, default, default, default, default, default, default, default, default, default, default, default, default, default, default, default, default, default)⟩
@[irreducible] noncomputable def pk : Pack := bad ne PrX
@[irreducible] noncomputable def w : World := pk.1
@[irreducible] noncomputable def p : Program := pk.2.1
@[irreducible] noncomputable def loose : List Str := pk.2.2.1
@[irreducible] noncomputable def mean : ExcName → Option Value := pk.2.2.2.1
@[irreducible] noncomputable def mg : Str → Option Value := pk.2.2.2.2.1
@[irreducible] noncomputable def mb : Str → Option Value := pk.2.2.2.2.2.1
@[irreducible] noncomputable def fa : Addr := pk.2.2.2.2.2.2.1
@[irreducible] noncomputable def cd : Value := pk.2.2.2.2.2.2.2.1
@[irreducible] noncomputable def h₀ : Heap := pk.2.2.2.2.2.2.2.2.1
@[irreducible] noncomputable def L : Addr := pk.2.2.2.2.2.2.2.2.2.1
@[irreducible] noncomputable def m : Str → Option Value := pk.2.2.2.2.2.2.2.2.2.2.1
@[irreducible] noncomputable def s : Shared := pk.2.2.2.2.2.2.2.2.2.2.2.1
@[irreducible] noncomputable def Q : Flow → Shared → Prop := pk.2.2.2.2.2.2.2.2.2.2.2.2.1
@[irreducible] noncomputable def S : Addr := pk.2.2.2.2.2.2.2.2.2.2.2.2.2.1
@[irreducible] noncomputable def I : Addr := pk.2.2.2.2.2.2.2.2.2.2.2.2.2.2.1
@[irreducible] noncomputable def ns : Nat := pk.2.2.2.2.2.2.2.2.2.2.2.2.2.2.2.1
@[irreducible] noncomputable def ni : Nat := pk.2.2.2.2.2.2.2.2.2.2.2.2.2.2.2.2.1
@[irreducible] noncomputable def b1 : Addr := pk.2.2.2.2.2.2.2.2.2.2.2.2.2.2.2.2.2.1
@[irreducible] noncomputable def b2 : Addr := pk.2.2.2.2.2.2.2.2.2.2.2.2.2.2.2.2.2.2.1
@[irreducible] noncomputable def b3 : Addr := pk.2.2.2.2.2.2.2.2.2.2.2.2.2.2.2.2.2.2.2.1
@[irreducible] noncomputable def b4 : Addr := pk.2.2.2.2.2.2.2.2.2.2.2.2.2.2.2.2.2.2.2.2.1
@[irreducible] noncomputable def b5 : Addr := pk.2.2.2.2.2.2.2.2.2.2.2.2.2.2.2.2.2.2.2.2.2.1
@[irreducible] noncomputable def p1 : Int := pk.2.2.2.2.2.2.2.2.2.2.2.2.2.2.2.2.2.2.2.2.2.2.1
@[irreducible] noncomputable def q1 : Int := pk.2.2.2.2.2.2.2.2.2.2.2.2.2.2.2.2.2.2.2.2.2.2.2.1
@[irreducible] noncomputable def r1 : Int := pk.2.2.2.2.2.2.2.2.2.2.2.2.2.2.2.2.2.2.2.2.2.2.2.2.1
@[irreducible] noncomputable def v1 : Int := pk.2.2.2.2.2.2.2.2.2.2.2.2.2.2.2.2.2.2.2.2.2.2.2.2.2.1
@[irreducible] noncomputable def p2 : Int := pk.2.2.2.2.2.2.2.2.2.2.2.2.2.2.2.2.2.2.2.2.2.2.2.2.2.2.1
@[irreducible] noncomputable def q2 : Int := pk.2.2.2.2.2.2.2.2.2.2.2.2.2.2.2.2.2.2.2.2.2.2.2.2.2.2.2.1
@[irreducible] noncomputable def r2 : Int := pk.2.2.2.2.2.2.2.2.2.2.2.2.2.2.2.2.2.2.2.2.2.2.2.2.2.2.2.2.1
@[irreducible] noncomputable def v2 : Int := pk.2.2.2.2.2.2.2.2.2.2.2.2.2.2.2.2.2.2.2.2.2.2.2.2.2.2.2.2.2.1
@[irreducible] noncomputable def p3 : Int := pk.2.2.2.2.2.2.2.2.2.2.2.2.2.2.2.2.2.2.2.2.2.2.2.2.2.2.2.2.2.2.1
@[irreducible] noncomputable def q3 : Int := pk.2.2.2.2.2.2.2.2.2.2.2.2.2.2.2.2.2.2.2.2.2.2.2.2.2.2.2.2.2.2.2.1
@[irreducible] noncomputable def r3 : Int := pk.2.2.2.2.2.2.2.2.2.2.2.2.2.2.2.2.2.2.2.2.2.2.2.2.2.2.2.2.2.2.2.2.1
@[irreducible] noncomputable def v3 : Int := pk.2.2.2.2.2.2.2.2.2.2.2.2.2.2.2.2.2.2.2.2.2.2.2.2.2.2.2.2.2.2.2.2.2.1
@[irreducible] noncomputable def p4 : Int := pk.2.2.2.2.2.2.2.2.2.2.2.2.2.2.2.2.2.2.2.2.2.2.2.2.2.2.2.2.2.2.2.2.2.2.1
@[irreducible] noncomputable def q4 : Int := pk.2.2.2.2.2.2.2.2.2.2.2.2.2.2.2.2.2.2.2.2.2.2.2.2.2.2.2.2.2.2.2.2.2.2.2.1
@[irreducible] noncomputable def r4 : Int := pk.2.2.2.2.2.2.2.2.2.2.2.2.2.2.2.2.2.2.2.2.2.2.2.2.2.2.2.2.2.2.2.2.2.2.2.2.1
@[irreducible] noncomputable def v4 : Int := pk.2.2.2.2.2.2.2.2.2.2.2.2.2.2.2.2.2.2.2.2.2.2.2.2.2.2.2.2.2.2.2.2.2.2.2.2.2.1
@[irreducible] noncomputable def p5 : Int := pk.2.2.2.2.2.2.2.2.2.2.2.2.2.2.2.2.2.2.2.2.2.2.2.2.2.2.2.2.2.2.2.2.2.2.2.2.2.2.1
@[irreducible] noncomputable def q5 : Int := pk.2.2.2.2.2.2.2.2.2.2.2.2.2.2.2.2.2.2.2.2.2.2.2.2.2.2.2.2.2.2.2.2.2.2.2.2.2.2.2.1
@[irreducible] noncomputable def r5 : Int := pk.2.2.2.2.2.2.2.2.2.2.2.2.2.2.2.2.2.2.2.2.2.2.2.2.2.2.2.2.2.2.2.2.2.2.2.2.2.2.2.2.1
@[irreducible] noncomputable def v5 : Int := pk.2.2.2.2.2.2.2.2.2.2.2.2.2.2.2.2.2.2.2.2.2.2.2.2.2.2.2.2.2.2.2.2.2.2.2.2.2.2.2.2.2.1
@[irreducible] noncomputable def n1 : Nat := pk.2.2.2.2.2.2.2.2.2.2.2.2.2.2.2.2.2.2.2.2.2.2.2.2.2.2.2.2.2.2.2.2.2.2.2.2.2.2.2.2.2.2.1
@[irreducible] noncomputable def n2 : Nat := pk.2.2.2.2.2.2.2.2.2.2.2.2.2.2.2.2.2.2.2.2.2.2.2.2.2.2.2.2.2.2.2.2.2.2.2.2.2.2.2.2.2.2.2.1
@[irreducible] noncomputable def n3 : Nat := pk.2.2.2.2.2.2.2.2.2.2.2.2.2.2.2.2.2.2.2.2.2.2.2.2.2.2.2.2.2.2.2.2.2.2.2.2.2.2.2.2.2.2.2.2.1
@[irreducible] noncomputable def n4 : Nat := pk.2.2.2.2.2.2.2.2.2.2.2.2.2.2.2.2.2.2.2.2.2.2.2.2.2.2.2.2.2.2.2.2.2.2.2.2.2.2.2.2.2.2.2.2.2.1
@[irreducible] noncomputable def n5 : Nat := pk.2.2.2.2.2.2.2.2.2.2.2.2.2.2.2.2.2.2.2.2.2.2.2.2.2.2.2.2.2.2.2.2.2.2.2.2.2.2.2.2.2.2.2.2.2.2.1
@[irreducible] noncomputable def x1 : Tok := pk.2.2.2.2.2.2.2.2.2.2.2.2.2.2.2.2.2.2.2.2.2.2.2.2.2.2.2.2.2.2.2.2.2.2.2.2.2.2.2.2.2.2.2.2.2.2.2.1
@[irreducible] noncomputable def x1' : Tok := pk.2.2.2.2.2.2.2.2.2.2.2.2.2.2.2.2.2.2.2.2.2.2.2.2.2.2.2.2.2.2.2.2.2.2.2.2.2.2.2.2.2.2.2.2.2.2.2.2.1
@[irreducible] noncomputable def x1'' : Tok := pk.2.2.2.2.2.2.2.2.2.2.2.2.2.2.2.2.2.2.2.2.2.2.2.2.2.2.2.2.2.2.2.2.2.2.2.2.2.2.2.2.2.2.2.2.2.2.2.2.2.1
@[irreducible] noncomputable def y1 : Tok := pk.2.2.2.2.2.2.2.2.2.2.2.2.2.2.2.2.2.2.2.2.2.2.2.2.2.2.2.2.2.2.2.2.2.2.2.2.2.2.2.2.2.2.2.2.2.2.2.2.2.2.1
@[irreducible] noncomputable def x2 : Tok := pk.2.2.2.2.2.2.2.2.2.2.2.2.2.2.2.2.2.2.2.2.2.2.2.2.2.2.2.2.2.2.2.2.2.2.2.2.2.2.2.2.2.2.2.2.2.2.2.2.2.2.2.1
@[irreducible] noncomputable def x2' : Tok := pk.2.2.2.2.2.2.2.2.2.2.2.2.2.2.2.2.2.2.2.2.2.2.2.2.2.2.2.2.2.2.2.2.2.2.2.2.2.2.2.2.2.2.2.2.2.2.2.2.2.2.2.2.1
@[irreducible] noncomputable def x2'' : Tok := pk.2.2.2.2.2.2.2.2.2.2.2.2.2.2.2.2.2.2.2.2.2.2.2.2.2.2.2.2.2.2.2.2.2.2.2.2.2.2.2.2.2.2.2.2.2.2.2.2.2.2.2.2.2.1
@[irreducible] noncomputable def y2 : Tok := pk.2.2.2.2.2.2.2.2.2.2.2.2.2.2.2.2.2.2.2.2.2.2.2.2.2.2.2.2.2.2.2.2.2.2.2.2.2.2.2.2.2.2.2.2.2.2.2.2.2.2.2.2.2.2.1
@[irreducible] noncomputable def x3 : Tok := pk.2.2.2.2.2.2.2.2.2.2.2.2.2.2.2.2.2.2.2.2.2.2.2.2.2.2.2.2.2.2.2.2.2.2.2.2.2.2.2.2.2.2.2.2.2.2.2.2.2.2.2.2.2.2.2.1
@[irreducible] noncomputable def x3' : Tok := pk.2.2.2.2.2.2.2.2.2.2.2.2.2.2.2.2.2.2.2.2.2.2.2.2.2.2.2.2.2.2.2.2.2.2.2.2.2.2.2.2.2.2.2.2.2.2.2.2.2.2.2.2.2.2.2.2.1
@[irreducible] noncomputable def x3'' : Tok := pk.2.2.2.2.2.2.2.2.2.2.2.2.2.2.2.2.2.2.2.2.2.2.2.2.2.2.2.2.2.2.2.2.2.2.2.2.2.2.2.2.2.2.2.2.2.2.2.2.2.2.2.2.2.2.2.2.2.1
@[irreducible] noncomputable def y3 : Tok := pk.2.2.2.2.2.2.2.2.2.2.2.2.2.2.2.2.2.2.2.2.2.2.2.2.2.2.2.2.2.2.2.2.2.2.2.2.2.2.2.2.2.2.2.2.2.2.2.2.2.2.2.2.2.2.2.2.2.2.1
@[irreducible] noncomputable def x4 : Tok := pk.2.2.2.2.2.2.2.2.2.2.2.2.2.2.2.2.2.2.2.2.2.2.2.2.2.2.2.2.2.2.2.2.2.2.2.2.2.2.2.2.2.2.2.2.2.2.2.2.2.2.2.2.2.2.2.2.2.2.2.1
@[irreducible] noncomputable def x4' : Tok := pk.2.2.2.2.2.2.2.2.2.2.2.2.2.2.2.2.2.2.2.2.2.2.2.2.2.2.2.2.2.2.2.2.2.2.2.2.2.2.2.2.2.2.2.2.2.2.2.2.2.2.2.2.2.2.2.2.2.2.2.2.1
@[irreducible] noncomputable def x4'' : Tok := pk.2.2.2.2.2.2.2.2.2.2.2.2.2.2.2.2.2.2.2.2.2.2.2.2.2.2.2.2.2.2.2.2.2.2.2.2.2.2.2.2.2.2.2.2.2.2.2.2.2.2.2.2.2.2.2.2.2.2.2.2.2.1
@[irreducible] noncomputable def y4 : Tok := pk.2.2.2.2.2.2.2.2.2.2.2.2.2.2.2.2.2.2.2.2.2.2.2.2.2.2.2.2.2.2.2.2.2.2.2.2.2.2.2.2.2.2.2.2.2.2.2.2.2.2.2.2.2.2.2.2.2.2.2.2.2.2.1
@[irreducible] noncomputable def x5 : Tok := pk.2.2.2.2.2.2.2.2.2.2.2.2.2.2.2.2.2.2.2.2.2.2.2.2.2.2.2.2.2.2.2.2.2.2.2.2.2.2.2.2.2.2.2.2.2.2.2.2.2.2.2.2.2.2.2.2.2.2.2.2.2.2.2.1
@[irreducible] noncomputable def x5' : Tok := pk.2.2.2.2.2.2.2.2.2.2.2.2.2.2.2.2.2.2.2.2.2.2.2.2.2.2.2.2.2.2.2.2.2.2.2.2.2.2.2.2.2.2.2.2.2.2.2.2.2.2.2.2.2.2.2.2.2.2.2.2.2.2.2.2.1
@[irreducible] noncomputable def x5'' : Tok := pk.2.2.2.2.2.2.2.2.2.2.2.2.2.2.2.2.2.2.2.2.2.2.2.2.2.2.2.2.2.2.2.2.2.2.2.2.2.2.2.2.2.2.2.2.2.2.2.2.2.2.2.2.2.2.2.2.2.2.2.2.2.2.2.2.2.1
@[irreducible] noncomputable def y5 : Tok := pk.2.2.2.2.2.2.2.2.2.2.2.2.2.2.2.2.2.2.2.2.2.2.2.2.2.2.2.2.2.2.2.2.2.2.2.2.2.2.2.2.2.2.2.2.2.2.2.2.2.2.2.2.2.2.2.2.2.2.2.2.2.2.2.2.2.2.1
@[irreducible] noncomputable def o1 : Obj := pk.2.2.2.2.2.2.2.2.2.2.2.2.2.2.2.2.2.2.2.2.2.2.2.2.2.2.2.2.2.2.2.2.2.2.2.2.2.2.2.2.2.2.2.2.2.2.2.2.2.2.2.2.2.2.2.2.2.2.2.2.2.2.2.2.2.2.2.1
@[irreducible] noncomputable def o2 : Obj := pk.2.2.2.2.2.2.2.2.2.2.2.2.2.2.2.2.2.2.2.2.2.2.2.2.2.2.2.2.2.2.2.2.2.2.2.2.2.2.2.2.2.2.2.2.2.2.2.2.2.2.2.2.2.2.2.2.2.2.2.2.2.2.2.2.2.2.2.2.1
@[irreducible] noncomputable def o3 : Obj := pk.2.2.2.2.2.2.2.2.2.2.2.2.2.2.2.2.2.2.2.2.2.2.2.2.2.2.2.2.2.2.2.2.2.2.2.2.2.2.2.2.2.2.2.2.2.2.2.2.2.2.2.2.2.2.2.2.2.2.2.2.2.2.2.2.2.2.2.2.2.1
@[irreducible] noncomputable def o4 : Obj := pk.2.2.2.2.2.2.2.2.2.2.2.2.2.2.2.2.2.2.2.2.2.2.2.2.2.2.2.2.2.2.2.2.2.2.2.2.2.2.2.2.2.2.2.2.2.2.2.2.2.2.2.2.2.2.2.2.2.2.2.2.2.2.2.2.2.2.2.2.2.2.1
@[irreducible] noncomputable def o5 : Obj := pk.2.2.2.2.2.2.2.2.2.2.2.2.2.2.2.2.2.2.2.2.2.2.2.2.2.2.2.2.2.2.2.2.2.2.2.2.2.2.2.2.2.2.2.2.2.2.2.2.2.2.2.2.2.2.2.2.2.2.2.2.2.2.2.2.2.2.2.2.2.2.2.1
@[irreducible] noncomputable def o6 : Obj := pk.2.2.2.2.2.2.2.2.2.2.2.2.2.2.2.2.2.2.2.2.2.2.2.2.2.2.2.2.2.2.2.2.2.2.2.2.2.2.2.2.2.2.2.2.2.2.2.2.2.2.2.2.2.2.2.2.2.2.2.2.2.2.2.2.2.2.2.2.2.2.2.2.1
@[irreducible] noncomputable def o7 : Obj := pk.2.2.2.2.2.2.2.2.2.2.2.2.2.2.2.2.2.2.2.2.2.2.2.2.2.2.2.2.2.2.2.2.2.2.2.2.2.2.2.2.2.2.2.2.2.2.2.2.2.2.2.2.2.2.2.2.2.2.2.2.2.2.2.2.2.2.2.2.2.2.2.2.2.1
@[irreducible] noncomputable def o8 : Obj := pk.2.2.2.2.2.2.2.2.2.2.2.2.2.2.2.2.2.2.2.2.2.2.2.2.2.2.2.2.2.2.2.2.2.2.2.2.2.2.2.2.2.2.2.2.2.2.2.2.2.2.2.2.2.2.2.2.2.2.2.2.2.2.2.2.2.2.2.2.2.2.2.2.2.2.1
@[irreducible] noncomputable def o9 : Obj := pk.2.2.2.2.2.2.2.2.2.2.2.2.2.2.2.2.2.2.2.2.2.2.2.2.2.2.2.2.2.2.2.2.2.2.2.2.2.2.2.2.2.2.2.2.2.2.2.2.2.2.2.2.2.2.2.2.2.2.2.2.2.2.2.2.2.2.2.2.2.2.2.2.2.2.2
theorem core : Pr w p loose mean mg mb fa cd h₀ L m s Q S I ns ni b1 b2 b3 b4 b5 p1 q1 r1 v1 p2 q2 r2 v2 p3 q3 r3 v3 p4 q4 r4 v4 p5 q5 r5 v5 n1 n2 n3 n4 n5 x1 x1' x1'' y1 x2 x2' x2'' y2 x3 x3' x3'' y3 x4 x4' x4'' y4 x5 x5' x5'' y5 o1 o2 o3 o4 o5 o6 o7 o8 o9 := by
  intro hp1 hq1 hr1 hv1 hp2 hq2 hr2 hv2 hp3 hq3 hr3 hv3 hp4 hq4 hr4 hv4 hp5 hq5 hr5 hv5 hd1 hd2 hd3 hd4 hd5 hd6 hd7 hd8 hd9 hLS hLI hLb1 hLb2 hLb3 hLb4 hLb5 B F X T N hQ
  w_top off
  k_with_none
  k_with "subscriptTail Name Constant ref int" => (k_here; (with_reducible show wpAny _ _ (subscriptTail _ _ (Value.ref _) (Value.int _ _)) _ _ _); (with_unfolding_all refine' item_litK ?k1x305 ?k2x305 ?k3x305 ?k4x305 ?_ ?k6x305; (case k1x305 => exact News.isList (by k_asm) (by ((with_reducible (repeat (first | exact List.mem_cons_self | exact mem_led (by with_reducible assumption) | refine List.mem_cons_of_mem _ ?_ | refine mem_led_sub (by with_reducible assumption) ?_))); (first | done | with_reducible assumption)))); (case k2x305 => decide); (case k3x305 => decide); (case k4x305 => rfl); (case k6x305 => with_unfolding_all rfl); k_whole))
  k_with "subscriptTail Name Name ref int" => (k_here; (with_reducible show wpAny _ _ (subscriptTail _ _ (Value.ref _) (Value.int _ _)) _ _ _); (with_unfolding_all refine' item_litK ?k1x306 ?k2x306 ?k3x306 ?k4x306 ?_ ?k6x306; (case k1x306 => exact News.isList (by k_asm) (by ((with_reducible (repeat (first | exact List.mem_cons_self | exact mem_led (by with_reducible assumption) | refine List.mem_cons_of_mem _ ?_ | refine mem_led_sub (by with_reducible assumption) ?_))); (first | done | with_reducible assumption)))); (case k2x306 => decide); (case k3x306 => decide); (case k4x306 => rfl); (case k6x306 => with_unfolding_all rfl); k_whole))
  k_with "eval ListComp" => (k_here; k_dflt (first
    | refine comp_exprNH (by k_asm) (by with_unfolding_all rfl) (by rfl) (by decide) (fun _ => by rfl) (fun _ => by rfl) ?_
    | refine comp_exprXH (by k_asm) (by with_unfolding_all rfl) (by rfl) (by decide) (fun _ => by rfl) (fun _ => by rfl) ?_); intro Fin9'ₓ hFin9'ₓ)
  k_with "exec Assign cons ListComp" => (k_here; k_dflt (refine comp_assignNH (by k_asm) (by rfl) (by with_unfolding_all rfl) (by with_unfolding_all rfl) (by rfl) (by decide) (fun _ => by rfl) (fun _ => by rfl) (by rfl) (by rfl) ?_); intro Fin9'ₓ hFin9'ₓ)
  k_with "CSrc" => (k_here; k_dflt (first
    | (refine csrc_listNH rfl (by k_asm) (by k_asm) (by is_list) (by first | size_fits | exact Nat.le_of_ble_eq_true rfl) (by rfl) (by rfl) ?_; intro g1'ₓ g2'ₓ nb'ₓ Fin8'ₓ hFin8'ₓ)
    | (refine csrc_listXH rfl (by k_asm) (by k_asm) (by is_list) (by first | size_fits | exact Nat.le_of_ble_eq_true rfl) (by rfl) (by rfl) (fun _ => by rfl) ?_; intro g1'ₓ g2'ₓ nb'ₓ Fin8'ₓ hFin8'ₓ)
    | (refine csrc_tupleNH rfl (by k_asm) (by k_asm) (News.isTup (by k_asm) (by ((with_reducible (repeat (first | exact List.mem_cons_self | exact mem_led (by with_reducible assumption) | refine List.mem_cons_of_mem _ ?_ | refine mem_led_sub (by with_reducible assumption) ?_))); (first | done | with_reducible assumption)))) (by first | size_fits | exact Nat.le_of_ble_eq_true rfl) (by rfl) (by rfl) ?_; intro g1'ₓ g2'ₓ nb'ₓ Fin8'ₓ hFin8'ₓ)
    | (refine csrc_rangeNH rfl (by k_asm) (by k_asm) (by assumption) (by first | decide | rfl) (by first | rfl | decide) (by first | size_fits | exact Nat.le_of_ble_eq_true rfl) (by rfl) (by rfl) ?_; intro g1'ₓ g2'ₓ nb'ₓ Fin8'ₓ hFin8'ₓ)
    | (refine csrc_rangeXH rfl (by k_asm) (by k_asm) (by assumption) (by first | decide | rfl) (by first | rfl | decide) (by first | size_fits | exact Nat.le_of_ble_eq_true rfl) (by rfl) (by rfl) (fun _ => by rfl) ?_; intro g1'ₓ g2'ₓ nb'ₓ Fin8'ₓ hFin8'ₓ)); refine AllInC.both ?_; intro hsub'ₓ; (try dsimp only [AllInC]); intros; (try (refine AllInC.skip ?_)))
  k_with "call type:zip" => (k_here; (with_reducible show wpAny _ _ (PySem.call _ _) (CSrc _ _ _ _ _ _ _ _ _ _ _ _ _ _ _ _) _ _); k_dflt (refine csrc_zipH rfl (by k_asm) (by k_asm) (by is_list) (by is_list) (by first | size_fits | exact Nat.le_of_ble_eq_true rfl) (by rfl) (by rfl) (by decide) (by rfl) ?_; intro g1'ₓ g2'ₓ nb'ₓ Fin8'ₓ hFin8'ₓ); refine AllInC.both ?_; intro hsub'ₓ; (try dsimp only [AllInC]); intros; (try (refine AllInC.skip ?_)))
  k_with "call type:enumerate" => (k_here; (with_reducible show wpAny _ _ (PySem.call _ _) (CSrc _ _ _ _ _ _ _ _ _ _ _ _ _ _ _ _) _ _); k_dflt (refine csrc_enumH rfl (by k_asm) (by k_asm) (by is_list) (by first | size_fits | exact Nat.le_of_ble_eq_true rfl) (by rfl) (by rfl) (by decide) (by rfl) ?_; intro g1'ₓ g2'ₓ nb'ₓ Fin8'ₓ hFin8'ₓ); refine AllInC.both ?_; intro hsub'ₓ; (try dsimp only [AllInC]); intros; (try (refine AllInC.skip ?_)))
  k_with "RestL" => ((with_unfolding_all (first | refine RestL.l0 (by rfl) ?_ | refine RestL.lx0 (by rfl) ?_ | refine RestL.r0 ?_ | refine RestL.rx0 ?_ | refine RestL.z0 (by rfl) (by rfl) ?_ | refine RestL.e1 (by rfl) ?_)); intros)
  k_with "RestL" => (with_unfolding_all refine RestL.zero (by with_reducible assumption) (by with_reducible assumption) ?_)
  k_with "CFinE" => ((unfold CFinE); intro D'ₓ h'ₓ tk'ₓ l1'ₓ F'ₓ N'ₓ o1'ₓ; (try k_lt l1'ₓ); (try simp only [List.nil_append, List.cons_append, LCg.Off1, and_true] at o1'ₓ); (try simp only [snoc, List.nil_append, List.cons_append] at N'ₓ); (try dsimp only))
  k_with "CFinA" => ((unfold CFinA); intro D'ₓ h'ₓ tk'ₓ l1'ₓ F'ₓ N'ₓ o1'ₓ; (try k_lt l1'ₓ); (try simp only [List.nil_append, List.cons_append, LCg.Off1, and_true] at o1'ₓ); (try simp only [snoc, List.nil_append, List.cons_append] at N'ₓ); (try dsimp only))
  k_with "Hid" => ((with_reducible show Hid _ (Value.ref _) _); (first | (first | refine hid_fact (by with_reducible assumption) (by with_reducible assumption) ?_ | refine hid_fact3 (by with_reducible assumption) (by with_reducible assumption) ?_); intro hX9ₓ; simp only [AllLt, and_true] at hX9ₓ | skip); (refine turn1 (by with_reducible assumption) (by rfl) (by k_asm) (by first | k_asm | exact news_snd (by k_asm) | exact news_snd (news_snd (by k_asm)) | exact news_snd (news_snd (news_snd (by k_asm))) | exact news_snd (news_snd (news_snd (news_snd (by k_asm))))) (by first | assumption | exact And.right (α := _) (by assumption : AllLt _ (_ :: _)) | exact (And.right (And.right (by assumption : AllLt _ (_ :: _ :: _)))) | exact (And.right (And.right (And.right (by assumption : AllLt _ (_ :: _ :: _ :: _)))))) ?_))
  k_with "Hid" => ((with_reducible show Hid _ (Value.int _ _) _); (refine turn0 (by with_reducible assumption) (by rfl) (by k_asm) (by first | k_asm | exact news_tail (by k_asm) | exact news_tail (news_tail (by k_asm)) | exact news_tail (news_tail (news_tail (by k_asm))) | exact news_tail (news_tail (news_tail (news_tail (by k_asm)))) | exact news_tail (news_tail (news_tail (news_tail (news_tail (by k_asm))))) | exact news_tail (news_tail (news_tail (news_tail (news_tail (news_tail (by k_asm))))))) ?_))
  k_with "Hid" => ((with_reducible show Hid _ Value.none _); (refine turnF (by with_reducible assumption) (by rfl) (by k_asm) (by first | k_asm | exact news_tail (by k_asm) | exact news_tail (news_tail (by k_asm)) | exact news_tail (news_tail (news_tail (by k_asm))) | exact news_tail (news_tail (news_tail (news_tail (by k_asm)))) | exact news_tail (news_tail (news_tail (news_tail (news_tail (by k_asm))))) | exact news_tail (news_tail (news_tail (news_tail (news_tail (news_tail (by k_asm))))))) ?_))
  k_with "call builtin:max" => (k_here; (with_reducible show wpAny _ _ (PySem.call (Value.builtin _) [Value.ref _]) _ _ _); (with_unfolding_all refine' kso_max ?k1x319 ?k2x319 ?k3x319 ?k4x319 ?k5x319 ?k6x319 ?_; (case k1x319 => k_asm); (case k2x319 => k_asm); (case k3x319 => kso_list); (case k4x319 => l_ints); (case k5x319 => kso_len); (case k6x319 => with_unfolding_all rfl); k_whole); intro h'ₓ M'ₓ t'ₓ k'ₓ F'ₓ N'ₓ a'ₓ b'ₓ; (try kso_open a'ₓ); (try kso_open b'ₓ); (have kp'ₓ := keep2 a'ₓ b'ₓ); clear a'ₓ b'ₓ; (try k_sweep))
  k_with "exec Assign cons ListComp" => ((first
    | (with_reducible show wpAny _ _ (exec (Stmt.Assign [PySem.Expr.Name (Str.ofString "came") _] _ _) _) _ _ _)
    | (with_reducible show wpAny _ _ (exec (Stmt.Assign [PySem.Expr.Name (Str.ofString "services") _] _ _) _) _ _ _)
    | (with_reducible show wpAny _ _ (exec (Stmt.Assign [PySem.Expr.Name (Str.ofString "lines") _] _ _) _) _ _ _)
    | (with_reducible show wpAny _ _ (exec (Stmt.Assign [PySem.Expr.Name (Str.ofString "spare") _] _ _) _) _ _ _)
    | (with_reducible show wpAny _ _ (exec (Stmt.Assign [PySem.Expr.Name (Str.ofString "idles") _] _ _) _) _ _ _)
    | (with_reducible show wpAny _ _ (exec (Stmt.Assign [PySem.Expr.Name (Str.ofString "order") _] _ _) _) _ _ _)); k_dflt (refine wpAny_Assign_Name ?_))
  k_with "forall" => (intro D'ₓ h'ₓ tk'ₓ l1'ₓ F'ₓ N'ₓ o1'ₓ; (with_reducible have q9ₓ : LCg.Off1 _ _ := o1'ₓ); clear q9ₓ; (try k_lt l1'ₓ); (try simp only [snoc, List.nil_append, List.cons_append] at N'ₓ o1'ₓ); (try simp only [LCg.Off1, and_true] at o1'ₓ); (try dsimp only))
  k_with "call ref" => (k_here; (with_reducible show wpAny _ _ (PySem.call (Value.ref 94) _) _ _ _); k_dflt (refine' Does.use (lines_does _ _ _ _ _ _ _ _ _ _ _ _ _ _ _ _ _ _ _ _ _ _ _ _ _ _ _ _ _ _ _ _ _ _ _ _ _ _ _ _ _ _ _ _ _ _ _ _ _ _ _ _ _ _ _ _ _ _ ?hSx322 ?hIx322 ?h5x322 ?h4x322 ?h3x322 ?h2x322 ?h1x322 ?p1x322 ?q1x322 ?r1x322 ?v1x322 ?p2x322 ?q2x322 ?r2x322 ?v2x322 ?p3x322 ?q3x322 ?r3x322 ?v3x322 ?p4x322 ?q4x322 ?r4x322 ?v4x322 ?p5x322 ?q5x322 ?r5x322 ?v5x322 ?hmx322) ?k1x322 ?k2x322 ?k3x322 ?k4x322 ?k5x322 ?kKx322 ?kdx322 ?kux322 ?_; (case k1x322 => k_asm); (case k2x322 => k_asm); (case k3x322 => k_asm); (case k4x322 => k_asm); (case k5x322 => k_asm); (case kKx322 => first | exact rfl | assumption); (case kdx322 => ktr_room); (case kux322 => ktr_units); (case hSx322 => ((with_reducible (repeat (first | exact List.mem_cons_self | exact mem_led (by with_reducible assumption) | refine List.mem_cons_of_mem _ ?_ | refine mem_led_sub (by with_reducible assumption) ?_))); (first | done | with_reducible assumption))); (case hIx322 => ((with_reducible (repeat (first | exact List.mem_cons_self | exact mem_led (by with_reducible assumption) | refine List.mem_cons_of_mem _ ?_ | refine mem_led_sub (by with_reducible assumption) ?_))); (first | done | with_reducible assumption))); (case h5x322 => ((with_reducible (repeat (first | exact List.mem_cons_self | exact mem_led (by with_reducible assumption) | refine List.mem_cons_of_mem _ ?_ | refine mem_led_sub (by with_reducible assumption) ?_))); (first | done | with_reducible assumption))); (case h4x322 => ((with_reducible (repeat (first | exact List.mem_cons_self | exact mem_led (by with_reducible assumption) | refine List.mem_cons_of_mem _ ?_ | refine mem_led_sub (by with_reducible assumption) ?_))); (first | done | with_reducible assumption))); (case h3x322 => ((with_reducible (repeat (first | exact List.mem_cons_self | exact mem_led (by with_reducible assumption) | refine List.mem_cons_of_mem _ ?_ | refine mem_led_sub (by with_reducible assumption) ?_))); (first | done | with_reducible assumption))); (case h2x322 => ((with_reducible (repeat (first | exact List.mem_cons_self | exact mem_led (by with_reducible assumption) | refine List.mem_cons_of_mem _ ?_ | refine mem_led_sub (by with_reducible assumption) ?_))); (first | done | with_reducible assumption))); (case h1x322 => ((with_reducible (repeat (first | exact List.mem_cons_self | exact mem_led (by with_reducible assumption) | refine List.mem_cons_of_mem _ ?_ | refine mem_led_sub (by with_reducible assumption) ?_))); (first | done | with_reducible assumption))); (case p1x322 => assumption); (case q1x322 => assumption); (case r1x322 => assumption); (case v1x322 => assumption); (case p2x322 => assumption); (case q2x322 => assumption); (case r2x322 => assumption); (case v2x322 => assumption); (case p3x322 => assumption); (case q3x322 => assumption); (case r3x322 => assumption); (case v3x322 => assumption); (case p4x322 => assumption); (case q4x322 => assumption); (case r4x322 => assumption); (case v4x322 => assumption); (case p5x322 => assumption); (case q5x322 => assumption); (case r5x322 => assumption); (case v5x322 => assumption); (case hmx322 => omega); intro r9ₓ tl9ₓ h9ₓ tk9ₓ F9ₓ N9ₓ l9ₓ p9ₓ; obtain ⟨R9ₓ, m1ₓ, m2ₓ, m3ₓ, m4ₓ, m5ₓ, x1ₓ, x2ₓ, x3ₓ, x4ₓ, x5ₓ, k9ₓ, e1ₓ, e2ₓ, q1ₓ⟩ := p9ₓ; subst e1ₓ; subst e2ₓ; (have hAll9ₓ := allLt_of (l9ₓ _ (List.mem_singleton.mpr rfl))); (replace l9ₓ := allLt_of (l9ₓ _ (List.mem_singleton.mpr rfl))); simp only [AllLt, and_true] at l9ₓ; (try simp only [List.cons_append, List.nil_append] at N9ₓ); (try dsimp only); (try k_sweep)))
  k_with "execs cons" => ((with_reducible show wpAny _ _ (execs (Stmt.Assign [PySem.Expr.Name (Str.ofString "spare") _] _ _ :: _) _) _ _ _); refine haltI_T22 ?_)
  k_with "call builtin:sum" => (k_here; (with_reducible show wpAny _ _ (PySem.call (Value.builtin "sum") [Value.ref _]) _ _ _); k_dflt (refine' sumK ?k0x324 ?k1x324 ?k2x324 ?k3x324 ?k4x324 ?_; (case k0x324 => with_unfolding_all rfl); (case k1x324 => k_asm); (case k2x324 => k_asm); (case k3x324 => is_list); (case k4x324 => first | l_ints | l_intsW); k_whole); intro h'ₓ tk'ₓ t'ₓ F'ₓ N'ₓ; (try simp only [List.sum_cons, List.sum_nil]))
  k_with "eval Name" => (k_here; (with_reducible show wpAny _ _ (eval (PySem.Expr.Name _ _) (compEnvC _ _ _ _)) _ _ _); k_dflt (first
    | (refine' LCgL.ld_own ?Nx325 ?hmx325 ?hCx325 ?hxx325 ?_ ?hkx325 ?hlx325 ?hdx325; (case hlx325 => rfl); (case hkx325 => rfl); (case hdx325 => decide); (case Nx325 => k_asm); (case hmx325 => ((with_reducible (repeat (first | exact List.mem_cons_self | exact mem_led (by with_reducible assumption) | refine List.mem_cons_of_mem _ ?_ | refine mem_led_sub (by with_reducible assumption) ?_))); (first | done | with_reducible assumption))); (case hCx325 => with_reducible assumption); (case hxx325 => with_reducible assumption); k_whole)
    | (refine' kcf_cell ?Nx325 ?cx325 ?mx325 ?dx325 ?_ ?ax325 ?bx325 ?hdx325; (case bx325 => rfl); (case ax325 => rfl); (case hdx325 => decide); (case Nx325 => k_asm); (case cx325 => rfl); (case mx325 => ((with_reducible (repeat (first | exact List.mem_cons_self | exact mem_led (by with_reducible assumption) | refine List.mem_cons_of_mem _ ?_ | refine mem_led_sub (by with_reducible assumption) ?_))); (first | done | with_reducible assumption))); (case dx325 => k_asm); k_whole)
    | (refine' LCgL.ld_built ?Fx325 ?Xx325 ?Tx325 ?ex325 ?vx325 ?nx325 ?_ ?gx325 ?bx325 ?hkx325 ?hxx325 ?hdx325; (case hxx325 => rfl); (case hkx325 => rfl); (case gx325 => rfl); (case bx325 => rfl); (case hdx325 => decide); (case Fx325 => k_asm); (case Xx325 => k_asm); (case Tx325 => k_asm); (case ex325 => k_is); (case vx325 => boot_by_name); (case nx325 => decide); k_whole)))
  revert X
  k_fill
  intro X
  dsimp only [lawBody, lawScope, lawParts, List.drop]
  k_steps
  unfold Keep
  (rename News _ _ _ (_ :: _) => N9)
  (rename Fr _ _ _ _ => F9)
  (rename _ = Data.cell (some (Value.ref _)) => d3)
  (rename Lind _ _ _ _ _ _ _ _ _ _ => lq7)
  revert lq7
  (rename Lind _ _ _ _ _ _ _ _ _ _ => lq6)
  revert lq6
  (rename Lind _ _ _ _ _ _ _ _ _ _ => lq5)
  revert lq5
  (rename Lind _ _ _ _ _ _ _ _ _ _ => lq4)
  revert lq4
  (rename Lind _ _ _ _ _ _ _ _ _ _ => lq3)
  revert lq3
  (rename Lind _ _ _ _ _ _ _ _ _ _ => lq2)
  revert lq2
  (rename Lind _ _ _ _ _ _ _ _ _ _ => lq1)
  revert lq1
  (rename Lind _ _ _ _ _ _ _ _ _ _ => lq0)
  revert lq0
  intro lq0 lq1 lq2 lq3 lq4 lq5 lq6 lq7
  exact law_C w S I ns ni b1 b2 b3 b4 b5 p1 q1 r1 v1 p2 q2 r2 v2 p3 q3 r3 v3 p4 q4 r4 v4 p5 q5 r5 v5 n1 n2 n3 n4 n5 x1 x1' x1'' y1 x2 x2' x2'' y2 x3 x3' x3'' y3 x4 x4' x4'' y4 x5 x5' x5'' y5 hp1 hq1 hr1 hv1 hp2 hq2 hr2 hv2 hp3 hq3 hr3 hv3 hp4 hq4 hr4 hv4 hp5 hq5 hr5 hv5 _ _ _ _ _ _ _ _ _ _ _ _ _ _ _ _ _ _ _ _ _ _ _ _ _ _ _ _ _ _ _ _ _ _ _ _ _ _ _ _ _ _ _ _ _ _ _ _ _ _ _ _ _ _ _ _ _ _ _ _ _ _ _ _ _ _ _ _ _ _ _ _ _ _ _ _ _ _ _ _ _ _ _ _ _ _ _ _ _ _ _ _ _ _ _ _ _ _ lq0 lq1 lq2 lq3 lq4 lq5 lq6 lq7 o1 o2 _ o4 o5 o6 o7 o8 o9 hd1 hd2 d3 hd4 hd5 hd6 hd7 hd8 hd9 hLS hLI hLb1 hLb2 hLb3 hLb4 hLb5 (by omega) (by omega) (by omega) (by omega) (by omega) (by omega) (by omega) (by omega) (by omega) B F9 X T N9 hQ

theorem all (x : Pack) : PrX x := all_of_bad ne (by with_unfolding_all exact core) x
end EB
theorem law_B (w : World) {p : Program} {loose : List Str} {mean : ExcName → Option Value} {mg mb : Str → Option Value} {fa : Addr} {cd : Value} {h₀ : Heap} {L : Addr} {m : Str → Option Value} {s : Shared} {Q : Flow → Shared → Prop}
    (S I : Addr) (ns ni : Nat) (b1 b2 b3 b4 b5 : Addr) (p1 q1 r1 v1 p2 q2 r2 v2 p3 q3 r3 v3 p4 q4 r4 v4 p5 q5 r5 v5 : Int) (n1 n2 n3 n4 n5 : Nat) (x1 x1' x1'' y1 x2 x2' x2'' y2 x3 x3' x3'' y3 x4 x4' x4'' y4 x5 x5' x5'' y5 : Tok)  (hp1 : 0 ≤ p1 ∧ p1 ≤ 2) (hq1 : 0 ≤ q1 ∧ q1 ≤ 2) (hr1 : 0 ≤ r1 ∧ r1 ≤ 2) (hv1 : 0 ≤ v1 ∧ v1 ≤ 5) (hp2 : 0 ≤ p2 ∧ p2 ≤ 2) (hq2 : 0 ≤ q2 ∧ q2 ≤ 2) (hr2 : 0 ≤ r2 ∧ r2 ≤ 2) (hv2 : 0 ≤ v2 ∧ v2 ≤ 5) (hp3 : 0 ≤ p3 ∧ p3 ≤ 2) (hq3 : 0 ≤ q3 ∧ q3 ≤ 2) (hr3 : 0 ≤ r3 ∧ r3 ≤ 2) (hv3 : 0 ≤ v3 ∧ v3 ≤ 5) (hp4 : 0 ≤ p4 ∧ p4 ≤ 2) (hq4 : 0 ≤ q4 ∧ q4 ≤ 2) (hr4 : 0 ≤ r4 ∧ r4 ≤ 2) (hv4 : 0 ≤ v4 ∧ v4 ≤ 5) (hp5 : 0 ≤ p5 ∧ p5 ≤ 2) (hq5 : 0 ≤ q5 ∧ q5 ≤ 2) (hr5 : 0 ≤ r5 ∧ r5 ≤ 2) (hv5 : 0 ≤ v5 ∧ v5 ≤ 5) (o1 o2 o3 o4 o5 o6 o7 o8 o9 : Obj) (hd1 : o1.data = .cell (some (.ref I))) (hd2 : o2.data = .cell (some (.ref S))) (hd3 : o3.data = .cell none) (hd4 : o4.data = .cell none) (hd5 : o5.data = .cell none) (hd6 : o6.data = .cell none) (hd7 : o7.data = .cell none) (hd8 : o8.data = .cell none) (hd9 : o9.data = .cell none) (hLS : @LT.lt Nat _ (L + 1 + 1 + 1 + 1 + 1 + 1 + 1 + 1 + 1) S) (hLI : @LT.lt Nat _ (L + 1 + 1 + 1 + 1 + 1 + 1 + 1 + 1 + 1) I) (hLb1 : @LT.lt Nat _ (L + 1 + 1 + 1 + 1 + 1 + 1 + 1 + 1 + 1) b1) (hLb2 : @LT.lt Nat _ (L + 1 + 1 + 1 + 1 + 1 + 1 + 1 + 1 + 1) b2) (hLb3 : @LT.lt Nat _ (L + 1 + 1 + 1 + 1 + 1 + 1 + 1 + 1 + 1) b3) (hLb4 : @LT.lt Nat _ (L + 1 + 1 + 1 + 1 + 1 + 1 + 1 + 1 + 1) b4) (hLb5 : @LT.lt Nat _ (L + 1 + 1 + 1 + 1 + 1 + 1 + 1 + 1 + 1) b5)
    (B : Below callerA h₀ [] h₀) (F : Fr h₀ L s.heap m) (X : (hd.heap_1 w.params).In h₀) (T : Top p loose mean mg mb h₀) (N : News h₀ L s.heap [(S, W.listOf #[.int v1 y1, .int v2 y2, .int v3 y3, .int v4 y4, .int v5 y5] ns), (I, W.listOf #[.ref b1, .ref b2, .ref b3, .ref b4, .ref b5] ni), (b5, W.listOf #[.int p5 x5, .int q5 x5', .int r5 x5''] n5), (b4, W.listOf #[.int p4 x4, .int q4 x4', .int r4 x4''] n4), (b3, W.listOf #[.int p3 x3, .int q3 x3', .int r3 x3''] n3), (b2, W.listOf #[.int p2 x2, .int q2 x2', .int r2 x2''] n2), (b1, W.listOf #[.int p1 x1, .int q1 x1', .int r1 x1''] n1), (L + 1 + 1 + 1 + 1 + 1 + 1 + 1 + 1 + 1, o9), (L + 1 + 1 + 1 + 1 + 1 + 1 + 1 + 1, o8), (L + 1 + 1 + 1 + 1 + 1 + 1 + 1, o7), (L + 1 + 1 + 1 + 1 + 1 + 1, o6), (L + 1 + 1 + 1 + 1 + 1, o5), (L + 1 + 1 + 1 + 1, o4), (L + 1 + 1 + 1, o3), (L + 1 + 1, o2), (L + 1, o1)])
    (hQ : ∀ h' tk' m', Fr h₀ L h' m' → Q (.ret (.bool true)) { s with heap := h', toks := tk' }) : wpAny (model Challenge.rw_wo0027_01.row.prog w) (callerA.deeper (envOfC (Str.ofString "law") lawScope L fa cd)) (execs (lawBody.drop 4) (envOfC (Str.ofString "law") lawScope L fa cd)) Q (fun _ _ => False) s :=
  EB.all (w, p, loose, mean, mg, mb, fa, cd, h₀, L, m, s, Q, S, I, ns, ni, b1, b2, b3, b4, b5, p1, q1, r1, v1, p2, q2, r2, v2, p3, q3, r3, v3, p4, q4, r4, v4, p5, q5, r5, v5, n1, n2, n3, n4, n5, x1, x1', x1'', y1, x2, x2', x2'', y2, x3, x3', x3'', y3, x4, x4', x4'', y4, x5, x5', x5'', y5, o1, o2, o3, o4, o5, o6, o7, o8, o9) hp1 hq1 hr1 hv1 hp2 hq2 hr2 hv2 hp3 hq3 hr3 hv3 hp4 hq4 hr4 hv4 hp5 hq5 hr5 hv5 hd1 hd2 hd3 hd4 hd5 hd6 hd7 hd8 hd9 hLS hLI hLb1 hLb2 hLb3 hLb4 hLb5 B F X T N hQ
end Mine
end
section
open PySem PySem.W PySem.Calls PyProof.Rows
set_option Elab.async false
set_option maxRecDepth 100000
set_option maxHeartbeats 8000000
set_option pp.deepTerms false
set_option pp.deepTerms.threshold 4
set_option pp.maxSteps 6000
namespace Mine

theorem law_Bend (w : World) {p : Program} {loose : List Str} {mean : ExcName → Option Value} {mg mb : Str → Option Value} {fa : Addr} {cd : Value} {h₀ : Heap} {L : Addr} {m : Str → Option Value} {s : Shared} {Q : Flow → Shared → Prop}
    (S I : Addr) (ns ni : Nat) (b1 b2 b3 b4 b5 : Addr) (p1 q1 r1 v1 p2 q2 r2 v2 p3 q3 r3 v3 p4 q4 r4 v4 p5 q5 r5 v5 : Int) (n1 n2 n3 n4 n5 : Nat) (x1 x1' x1'' y1 x2 x2' x2'' y2 x3 x3' x3'' y3 x4 x4' x4'' y4 x5 x5' x5'' y5 : Tok)  (hp1 : 0 ≤ p1 ∧ p1 ≤ 2) (hq1 : 0 ≤ q1 ∧ q1 ≤ 2) (hr1 : 0 ≤ r1 ∧ r1 ≤ 2) (hv1 : 0 ≤ v1 ∧ v1 ≤ 5) (hp2 : 0 ≤ p2 ∧ p2 ≤ 2) (hq2 : 0 ≤ q2 ∧ q2 ≤ 2) (hr2 : 0 ≤ r2 ∧ r2 ≤ 2) (hv2 : 0 ≤ v2 ∧ v2 ≤ 5) (hp3 : 0 ≤ p3 ∧ p3 ≤ 2) (hq3 : 0 ≤ q3 ∧ q3 ≤ 2) (hr3 : 0 ≤ r3 ∧ r3 ≤ 2) (hv3 : 0 ≤ v3 ∧ v3 ≤ 5) (hp4 : 0 ≤ p4 ∧ p4 ≤ 2) (hq4 : 0 ≤ q4 ∧ q4 ≤ 2) (hr4 : 0 ≤ r4 ∧ r4 ≤ 2) (hv4 : 0 ≤ v4 ∧ v4 ≤ 5) (hp5 : 0 ≤ p5 ∧ p5 ≤ 2) (hq5 : 0 ≤ q5 ∧ q5 ≤ 2) (hr5 : 0 ≤ r5 ∧ r5 ≤ 2) (hv5 : 0 ≤ v5 ∧ v5 ≤ 5) (o1 o2 o3 o4 o5 o6 o7 o8 o9 : Obj) (E1 E2 E3 E4 E5 : Addr × Obj) (hd1 : o1.data = .cell (some (.ref I))) (hd2 : o2.data = .cell (some (.ref S))) (hd3 : o3.data = .cell none) (hd4 : o4.data = .cell none) (hd5 : o5.data = .cell none) (hd6 : o6.data = .cell none) (hd7 : o7.data = .cell none) (hd8 : o8.data = .cell none) (hd9 : o9.data = .cell none) (hLS : @LT.lt Nat _ (L + 1 + 1 + 1 + 1 + 1 + 1 + 1 + 1 + 1) S) (hLI : @LT.lt Nat _ (L + 1 + 1 + 1 + 1 + 1 + 1 + 1 + 1 + 1) I) (hLb1 : @LT.lt Nat _ (L + 1 + 1 + 1 + 1 + 1 + 1 + 1 + 1 + 1) b1) (hLb2 : @LT.lt Nat _ (L + 1 + 1 + 1 + 1 + 1 + 1 + 1 + 1 + 1) b2) (hLb3 : @LT.lt Nat _ (L + 1 + 1 + 1 + 1 + 1 + 1 + 1 + 1 + 1) b3) (hLb4 : @LT.lt Nat _ (L + 1 + 1 + 1 + 1 + 1 + 1 + 1 + 1 + 1) b4) (hLb5 : @LT.lt Nat _ (L + 1 + 1 + 1 + 1 + 1 + 1 + 1 + 1 + 1) b5)
    (B : Below callerA h₀ [] h₀) (F : Fr h₀ L s.heap m) (X : (hd.heap_1 w.params).In h₀) (T : Top p loose mean mg mb h₀) (N : News h₀ L s.heap [(S, W.listOf #[.int v1 y1, .int v2 y2, .int v3 y3, .int v4 y4, .int v5 y5] ns), (I, W.listOf #[.ref b1, .ref b2, .ref b3, .ref b4, .ref b5] ni), (b5, W.listOf #[.int p5 x5, .int q5 x5', .int r5 x5''] n5), (b4, W.listOf #[.int p4 x4, .int q4 x4', .int r4 x4''] n4), (b3, W.listOf #[.int p3 x3, .int q3 x3', .int r3 x3''] n3), (b2, W.listOf #[.int p2 x2, .int q2 x2', .int r2 x2''] n2), (b1, W.listOf #[.int p1 x1, .int q1 x1', .int r1 x1''] n1), E1, E2, E3, E4, E5, (L + 1 + 1 + 1 + 1 + 1 + 1 + 1 + 1 + 1, o9), (L + 1 + 1 + 1 + 1 + 1 + 1 + 1 + 1, o8), (L + 1 + 1 + 1 + 1 + 1 + 1 + 1, o7), (L + 1 + 1 + 1 + 1 + 1 + 1, o6), (L + 1 + 1 + 1 + 1 + 1, o5), (L + 1 + 1 + 1 + 1, o4), (L + 1 + 1 + 1, o3), (L + 1 + 1, o2), (L + 1, o1)])
    (hQ : ∀ h' tk' m', Fr h₀ L h' m' → Q (.ret (.bool true)) { s with heap := h', toks := tk' }) :
    wpAny (model Challenge.rw_wo0027_01.row.prog w) (callerA.deeper (envOfC (Str.ofString "law") lawScope L fa cd)) (execs (lawBody.drop 4) (envOfC (Str.ofString "law") lawScope L fa cd)) Q (fun _ _ => False) s := by
  refine law_B w S I ns ni b1 b2 b3 b4 b5 p1 q1 r1 v1 p2 q2 r2 v2 p3 q3 r3 v3 p4 q4 r4 v4 p5 q5 r5 v5 n1 n2 n3 n4 n5 x1 x1' x1'' y1 x2 x2' x2'' y2 x3 x3' x3'' y3 x4 x4' x4'' y4 x5 x5' x5'' y5 hp1 hq1 hr1 hv1 hp2 hq2 hr2 hv2 hp3 hq3 hr3 hv3 hp4 hq4 hr4 hv4 hp5 hq5 hr5 hv5 o1 o2 o3 o4 o5 o6 o7 o8 o9 hd1 hd2 hd3 hd4 hd5 hd6 hd7 hd8 hd9 hLS hLI hLb1 hLb2 hLb3 hLb4 hLb5 B F X T (fun q hq => N q ?_) hQ
  revert q
  refine List.forall_mem_cons.mpr ⟨by k_mem, ?_⟩
  refine List.forall_mem_cons.mpr ⟨by k_mem, ?_⟩
  refine List.forall_mem_cons.mpr ⟨by k_mem, ?_⟩
  refine List.forall_mem_cons.mpr ⟨by k_mem, ?_⟩
  refine List.forall_mem_cons.mpr ⟨by k_mem, ?_⟩
  refine List.forall_mem_cons.mpr ⟨by k_mem, ?_⟩
  refine List.forall_mem_cons.mpr ⟨by k_mem, ?_⟩
  refine List.forall_mem_cons.mpr ⟨by k_mem, ?_⟩
  refine List.forall_mem_cons.mpr ⟨by k_mem, ?_⟩
  refine List.forall_mem_cons.mpr ⟨by k_mem, ?_⟩
  refine List.forall_mem_cons.mpr ⟨by k_mem, ?_⟩
  refine List.forall_mem_cons.mpr ⟨by k_mem, ?_⟩
  refine List.forall_mem_cons.mpr ⟨by k_mem, ?_⟩
  refine List.forall_mem_cons.mpr ⟨by k_mem, ?_⟩
  refine List.forall_mem_cons.mpr ⟨by k_mem, ?_⟩
  refine List.forall_mem_cons.mpr ⟨by k_mem, ?_⟩
  exact fun _ h => nomatch h
end Mine
end
section
open PySem PySem.W PySem.Calls PyProof.Rows
set_option Elab.async false
set_option maxRecDepth 100000
set_option maxHeartbeats 8000000
set_option pp.deepTerms false
set_option pp.deepTerms.threshold 4
set_option pp.maxSteps 200
namespace Mine

theorem fm_bnd (c : Int) {k : Int} (h : 0 < k) : 0 ≤ c.fmod k ∧ c.fmod k ≤ k - 1 := ⟨Int.fmod_nonneg_of_pos c h, by have := Int.fmod_lt_of_pos c h; omega⟩
theorem ex_cons {ws : List Value} {n : Int} {ns : List Int} (h : IntsAre ws (n :: ns)) : ∃ t ws', ws = .int n t :: ws' ∧ IntsAre ws' ns := by
  cases h with | cons n t r => exact ⟨t, _, rfl, r⟩
theorem five_of_len : ∀ {l : List Int}, l.length = 5 → ∃ a b c d e, l = [a, b, c, d, e]
  | [a, b, c, d, e], _ => ⟨a, b, c, d, e, rfl⟩
  | [], h => by simp at h
  | [_], h => by simp at h
  | [_, _], h => by simp at h
  | [_, _, _], h => by simp at h
  | [_, _, _, _], h => by simp at h
  | _ :: _ :: _ :: _ :: _ :: _ :: _, h => by simp at h
theorem five_cells {ws : List Value} {ns ms : List Int} {f : Int → Int} {y : Nat} (hl : y = (ms.map f).length) (hm : ms = ns.take 5) (hf : ∀ k, 0 ≤ f k ∧ f k < 1000000) (h : IntsAre ws (ms.map f ++ List.drop ((y : Int)).toNat [32, 69, 136, 104, 124])) :
    ∃ c1 c2 c3 c4 c5 t1 t2 t3 t4 t5, ws = [.int c1 t1, .int c2 t2, .int c3 t3, .int c4 t4, .int c5 t5] ∧ (0 ≤ c1 ∧ c1 < 1000000) ∧ (0 ≤ c2 ∧ c2 < 1000000) ∧ (0 ≤ c3 ∧ c3 < 1000000) ∧ (0 ≤ c4 ∧ c4 < 1000000) ∧ (0 ≤ c5 ∧ c5 < 1000000) := by
  have hb : ∀ x ∈ ms.map f ++ List.drop ((y : Int)).toNat [32, 69, 136, 104, 124], 0 ≤ x ∧ x < 1000000 := by
    intro x hx
    rcases List.mem_append.mp hx with hx | hx
    · obtain ⟨k, _, rfl⟩ := List.mem_map.mp hx
      exact hf k
    · have := List.mem_of_mem_drop hx
      simp only [List.mem_cons, List.not_mem_nil, or_false] at this
      rcases this with rfl | rfl | rfl | rfl | rfl <;> decide
  have hlen : (ms.map f ++ List.drop ((y : Int)).toNat [32, 69, 136, 104, 124]).length = 5 := by
    rw [List.length_append, List.length_drop, hl, Int.toNat_natCast, List.length_map, hm, List.length_take]
    simp only [List.length_cons, List.length_nil]
    have := Nat.min_le_left 5 ns.length
    omega
  generalize ms.map f ++ List.drop ((y : Int)).toNat [32, 69, 136, 104, 124] = l at *
  obtain ⟨a, b, c, d, e, rfl⟩ := five_of_len hlen
  obtain ⟨t1, _, rfl, g1⟩ := ex_cons h
  obtain ⟨t2, _, rfl, g2⟩ := ex_cons g1
  obtain ⟨t3, _, rfl, g3⟩ := ex_cons g2
  obtain ⟨t4, _, rfl, g4⟩ := ex_cons g3
  obtain ⟨t5, _, rfl, g5⟩ := ex_cons g4
  cases g5
  exact ⟨a, b, c, d, e, t1, t2, t3, t4, t5, rfl, hb a (by simp), hb b (by simp), hb c (by simp), hb d (by simp), hb e (by simp)⟩

theorem haltI_T23 {P : Prop} (h : Keep P) : P := h
local macro_rules | `(tactic| k_cells $Y:ident) => `(tactic| (have hY := kc_nine $Y; obtain ⟨o', o2', o3', o4', o5', o6', o7', o8', o9', hE', d1', d2', d3', d4', d5', d6', d7', d8', d9'⟩ := hY; subst hE'; clear $Y))
local macro_rules | `(tactic| cells_open $x:ident) => `(tactic| (obtain ⟨_, _, _, _, _, _, _, _, _, he, _, _, _, _, _, _, _, _, _⟩ := kc_nine $x; subst he))

theorem t1 : PySem.Challenge.rw_wo0027_01.Holds := by
  w_top off
  k_with_none
  k_with "subscriptTail Name Constant ref int" => (k_here; (with_reducible show wpAny _ _ (subscriptTail _ _ (Value.ref _) (Value.int _ _)) _ _ _); (with_unfolding_all refine' item_litK ?k1x326 ?k2x326 ?k3x326 ?k4x326 ?_ ?k6x326; (case k1x326 => exact News.isList (by k_asm) (by ((with_reducible (repeat (first | exact List.mem_cons_self | exact mem_led (by with_reducible assumption) | refine List.mem_cons_of_mem _ ?_ | refine mem_led_sub (by with_reducible assumption) ?_))); (first | done | with_reducible assumption)))); (case k2x326 => decide); (case k3x326 => decide); (case k4x326 => rfl); (case k6x326 => with_unfolding_all rfl); k_whole))
  k_with "subscriptTail Name Name ref int" => (k_here; (with_reducible show wpAny _ _ (subscriptTail _ _ (Value.ref _) (Value.int _ _)) _ _ _); (with_unfolding_all refine' item_litK ?k1x327 ?k2x327 ?k3x327 ?k4x327 ?_ ?k6x327; (case k1x327 => exact News.isList (by k_asm) (by ((with_reducible (repeat (first | exact List.mem_cons_self | exact mem_led (by with_reducible assumption) | refine List.mem_cons_of_mem _ ?_ | refine mem_led_sub (by with_reducible assumption) ?_))); (first | done | with_reducible assumption)))); (case k2x327 => decide); (case k3x327 => decide); (case k4x327 => rfl); (case k6x327 => with_unfolding_all rfl); k_whole))
  k_with "eval ListComp" => (k_here; k_dflt (first
    | refine comp_exprNH (by k_asm) (by with_unfolding_all rfl) (by rfl) (by decide) (fun _ => by rfl) (fun _ => by rfl) ?_
    | refine comp_exprXH (by k_asm) (by with_unfolding_all rfl) (by rfl) (by decide) (fun _ => by rfl) (fun _ => by rfl) ?_); intro Fin9'ₓ hFin9'ₓ)
  k_with "exec Assign cons ListComp" => ((fail_if_success (with_reducible show wpAny _ _ (exec (Stmt.Assign [PySem.Expr.Name (Str.ofString "drawn") _] _ _) _) _ _ _)); k_here; k_dflt (refine comp_assignNH (by k_asm) (by rfl) (by with_unfolding_all rfl) (by with_unfolding_all rfl) (by rfl) (by decide) (fun _ => by rfl) (fun _ => by rfl) (by rfl) (by rfl) ?_); intro Fin9'ₓ hFin9'ₓ)
  k_with "CSrc" => (k_here; k_dflt (first
    | (refine csrc_listNH rfl (by k_asm) (by k_asm) (by is_list) (by first | size_fits | exact Nat.le_of_ble_eq_true rfl) (by rfl) (by rfl) ?_; intro g1'ₓ g2'ₓ nb'ₓ Fin8'ₓ hFin8'ₓ)
    | (refine csrc_listXH rfl (by k_asm) (by k_asm) (by is_list) (by first | size_fits | exact Nat.le_of_ble_eq_true rfl) (by rfl) (by rfl) (fun _ => by rfl) ?_; intro g1'ₓ g2'ₓ nb'ₓ Fin8'ₓ hFin8'ₓ)
    | (refine csrc_tupleNH rfl (by k_asm) (by k_asm) (News.isTup (by k_asm) (by ((with_reducible (repeat (first | exact List.mem_cons_self | exact mem_led (by with_reducible assumption) | refine List.mem_cons_of_mem _ ?_ | refine mem_led_sub (by with_reducible assumption) ?_))); (first | done | with_reducible assumption)))) (by first | size_fits | exact Nat.le_of_ble_eq_true rfl) (by rfl) (by rfl) ?_; intro g1'ₓ g2'ₓ nb'ₓ Fin8'ₓ hFin8'ₓ)
    | (refine csrc_rangeNH rfl (by k_asm) (by k_asm) (by assumption) (by first | decide | rfl) (by first | rfl | decide) (by first | size_fits | exact Nat.le_of_ble_eq_true rfl) (by rfl) (by rfl) ?_; intro g1'ₓ g2'ₓ nb'ₓ Fin8'ₓ hFin8'ₓ)
    | (refine csrc_rangeXH rfl (by k_asm) (by k_asm) (by assumption) (by first | decide | rfl) (by first | rfl | decide) (by first | size_fits | exact Nat.le_of_ble_eq_true rfl) (by rfl) (by rfl) (fun _ => by rfl) ?_; intro g1'ₓ g2'ₓ nb'ₓ Fin8'ₓ hFin8'ₓ)); refine AllInC.both ?_; intro hsub'ₓ; (try dsimp only [AllInC]); intros; (try (refine AllInC.skip ?_)))
  k_with "call type:zip" => (k_here; (with_reducible show wpAny _ _ (PySem.call _ _) (CSrc _ _ _ _ _ _ _ _ _ _ _ _ _ _ _ _) _ _); k_dflt (refine csrc_zipH rfl (by k_asm) (by k_asm) (by is_list) (by is_list) (by first | size_fits | exact Nat.le_of_ble_eq_true rfl) (by rfl) (by rfl) (by decide) (by rfl) ?_; intro g1'ₓ g2'ₓ nb'ₓ Fin8'ₓ hFin8'ₓ); refine AllInC.both ?_; intro hsub'ₓ; (try dsimp only [AllInC]); intros; (try (refine AllInC.skip ?_)))
  k_with "call type:enumerate" => (k_here; (with_reducible show wpAny _ _ (PySem.call _ _) (CSrc _ _ _ _ _ _ _ _ _ _ _ _ _ _ _ _) _ _); k_dflt (refine csrc_enumH rfl (by k_asm) (by k_asm) (by is_list) (by first | size_fits | exact Nat.le_of_ble_eq_true rfl) (by rfl) (by rfl) (by decide) (by rfl) ?_; intro g1'ₓ g2'ₓ nb'ₓ Fin8'ₓ hFin8'ₓ); refine AllInC.both ?_; intro hsub'ₓ; (try dsimp only [AllInC]); intros; (try (refine AllInC.skip ?_)))
  k_with "RestL" => ((with_unfolding_all (first | refine RestL.l0 (by rfl) ?_ | refine RestL.lx0 (by rfl) ?_ | refine RestL.r0 ?_ | refine RestL.rx0 ?_ | refine RestL.z0 (by rfl) (by rfl) ?_ | refine RestL.e1 (by rfl) ?_)); intros)
  k_with "RestL" => (with_unfolding_all refine RestL.zero (by with_reducible assumption) (by with_reducible assumption) ?_)
  k_with "CFinE" => ((unfold CFinE); intro D'ₓ h'ₓ tk'ₓ l1'ₓ F'ₓ N'ₓ o1'ₓ; (try k_lt l1'ₓ); (try simp only [List.nil_append, List.cons_append, LCg.Off1, and_true] at o1'ₓ); (try simp only [snoc, List.nil_append, List.cons_append] at N'ₓ); (try dsimp only))
  k_with "CFinA" => ((unfold CFinA); intro D'ₓ h'ₓ tk'ₓ l1'ₓ F'ₓ N'ₓ o1'ₓ; (try k_lt l1'ₓ); (try simp only [List.nil_append, List.cons_append, LCg.Off1, and_true] at o1'ₓ); (try simp only [snoc, List.nil_append, List.cons_append] at N'ₓ); (try dsimp only))
  k_with "Hid" => ((with_reducible show Hid _ (Value.ref _) _); (first | (first | refine hid_fact (by with_reducible assumption) (by with_reducible assumption) ?_ | refine hid_fact3 (by with_reducible assumption) (by with_reducible assumption) ?_); intro hX9ₓ; simp only [AllLt, and_true] at hX9ₓ | skip); (refine turn1 (by with_reducible assumption) (by rfl) (by k_asm) (by first | k_asm | exact news_snd (by k_asm) | exact news_snd (news_snd (by k_asm)) | exact news_snd (news_snd (news_snd (by k_asm))) | exact news_snd (news_snd (news_snd (news_snd (by k_asm))))) (by first | assumption | exact And.right (α := _) (by assumption : AllLt _ (_ :: _)) | exact (And.right (And.right (by assumption : AllLt _ (_ :: _ :: _)))) | exact (And.right (And.right (And.right (by assumption : AllLt _ (_ :: _ :: _ :: _)))))) ?_))
  k_with "Hid" => ((with_reducible show Hid _ (Value.int _ _) _); (refine turn0 (by with_reducible assumption) (by rfl) (by k_asm) (by first | k_asm | exact news_tail (by k_asm) | exact news_tail (news_tail (by k_asm)) | exact news_tail (news_tail (news_tail (by k_asm))) | exact news_tail (news_tail (news_tail (news_tail (by k_asm)))) | exact news_tail (news_tail (news_tail (news_tail (news_tail (by k_asm))))) | exact news_tail (news_tail (news_tail (news_tail (news_tail (news_tail (by k_asm))))))) ?_))
  k_with "Hid" => ((with_reducible show Hid _ Value.none _); (refine turnF (by with_reducible assumption) (by rfl) (by k_asm) (by first | k_asm | exact news_tail (by k_asm) | exact news_tail (news_tail (by k_asm)) | exact news_tail (news_tail (news_tail (by k_asm))) | exact news_tail (news_tail (news_tail (news_tail (by k_asm)))) | exact news_tail (news_tail (news_tail (news_tail (news_tail (by k_asm))))) | exact news_tail (news_tail (news_tail (news_tail (news_tail (news_tail (by k_asm))))))) ?_))
  k_with "subscriptTail List cons Slice ref ref" => (k_here; (with_reducible show wpAny _ _ (subscriptTail _ (PySem.Expr.Slice _ _ none _) (Value.ref _) (Value.ref _)) _ _ _); k_dflt (refine' slice_tmp ?Fx340 ?Nx340 ?lx340 ?px340 ?qx340 ?mx340 ?_ ?sx340 ?zx340; (case Fx340 => k_asm); (case Nx340 => k_asm); (case lx340 => kmk_list); (case px340 => kmk_part); (case qx340 => kmk_part); (case mx340 => exact kmk_from (ns := [32, 69, 136, 104, 124]) (.cons _ _ (.cons _ _ (.cons _ _ (.cons _ _ (.cons _ _ .nil))))) (Int.natCast_nonneg _)); (case sx340 => with_unfolding_all rfl); (case zx340 => exact Nat.le_of_ble_eq_true rfl)); intro D'ₓ ws'ₓ h'ₓ F'ₓ N'ₓ l1ₓ hI'ₓ; (try k_lt l1ₓ); (try k_sweep))
  k_with "execs cons" => ((with_reducible show wpAny _ _ (execs (Stmt.Assign [PySem.Expr.Name (Str.ofString "came") _] _ _ :: _) _) _ _ _); refine haltI_T23 ?_)
  k_with "execs cons" => ((with_reducible show wpAny _ _ (execs (Stmt.Assign [PySem.Expr.Name (Str.ofString "lines") _] _ _ :: _) _) _ _ _); refine haltI_T23 ?_)
  k_with "execs cons" => ((with_reducible show wpAny _ _ (execs (Stmt.Assign [PySem.Expr.Name (Str.ofString "spare") _] _ _ :: _) _) _ _ _); refine haltI_T23 ?_)
  k_with "call builtin:sum" => (k_here; (with_reducible show wpAny _ _ (PySem.call (Value.builtin "sum") [Value.ref _]) _ _ _); k_dflt (refine' sumK ?k0x344 ?k1x344 ?k2x344 ?k3x344 ?k4x344 ?_; (case k0x344 => with_unfolding_all rfl); (case k1x344 => k_asm); (case k2x344 => k_asm); (case k3x344 => is_list); (case k4x344 => first | l_ints | l_intsW); k_whole); intro h'ₓ tk'ₓ t'ₓ F'ₓ N'ₓ; (try simp only [List.sum_cons, List.sum_nil]))
  k_with "eval Name" => (k_here; (with_reducible show wpAny _ _ (eval (PySem.Expr.Name _ _) (compEnvC _ _ _ _)) _ _ _); k_dflt (first
    | (refine' LCgL.ld_own ?Nx345 ?hmx345 ?hCx345 ?hxx345 ?_ ?hkx345 ?hlx345 ?hdx345; (case hlx345 => rfl); (case hkx345 => rfl); (case hdx345 => decide); (case Nx345 => k_asm); (case hmx345 => ((with_reducible (repeat (first | exact List.mem_cons_self | exact mem_led (by with_reducible assumption) | refine List.mem_cons_of_mem _ ?_ | refine mem_led_sub (by with_reducible assumption) ?_))); (first | done | with_reducible assumption))); (case hCx345 => with_reducible assumption); (case hxx345 => with_reducible assumption); k_whole)
    | (refine' kcf_cell ?Nx345 ?cx345 ?mx345 ?dx345 ?_ ?ax345 ?bx345 ?hdx345; (case bx345 => rfl); (case ax345 => rfl); (case hdx345 => decide); (case Nx345 => k_asm); (case cx345 => rfl); (case mx345 => ((with_reducible (repeat (first | exact List.mem_cons_self | exact mem_led (by with_reducible assumption) | refine List.mem_cons_of_mem _ ?_ | refine mem_led_sub (by with_reducible assumption) ?_))); (first | done | with_reducible assumption))); (case dx345 => k_asm); k_whole)
    | (refine' LCgL.ld_built ?Fx345 ?Xx345 ?Tx345 ?ex345 ?vx345 ?nx345 ?_ ?gx345 ?bx345 ?hkx345 ?hxx345 ?hdx345; (case hxx345 => rfl); (case hkx345 => rfl); (case gx345 => rfl); (case bx345 => rfl); (case hdx345 => decide); (case Fx345 => k_asm); (case Xx345 => k_asm); (case Tx345 => k_asm); (case ex345 => k_is); (case vx345 => boot_by_name); (case nx345 => decide); k_whole)))
  refine hd (by
   k_go0
   all_goals try k_fold
   k_steps
   unfold Keep
   (rename IntsAre _ (List.map _ (List.take 5 _) ++ _) => hI9)
   obtain ⟨c1, c2, c3, c4, c5, u1, u2, u3, u4, u5, e9, hc1, hc2, hc3, hc4, hc5⟩ := five_cells rfl rfl (fun k => ⟨Int.fmod_nonneg_of_pos k (by decide), Int.fmod_lt_of_pos k (by decide)⟩) hI9
   subst e9
   clear hI9
   refine wpAny_execs_cons ?_
   (try dsimp only)
   k_steps
   all_goals unfold Keep
   (rename News _ _ _ (_ :: _) => N9)
   (rename Fr _ _ _ _ => F9)
   (rename _ = Data.cell (some (Value.ref _)) => dS)
   revert dS
   (rename _ = Data.cell (some (Value.ref _)) => dI)
   intro dS
   refine wpAny_noRaise (law_Bend _ _ _ _ _ _ _ _ _ _ _ _ _ _ _ _ _ _ _ _ _ _ _ _ _ _ _ _ _ _ _ _ _ _ _ _ _ _ _ _ _ _ _ _ _ _ _ _ _ _ _ _ _ _ _ (fm_bnd (k := 3) _ (by decide)) (fm_bnd (k := 3) _ (by decide)) (fm_bnd (k := 3) _ (by decide)) (fm_bnd (k := 6) _ (by decide)) (fm_bnd (k := 3) _ (by decide)) (fm_bnd (k := 3) _ (by decide)) (fm_bnd (k := 3) _ (by decide)) (fm_bnd (k := 6) _ (by decide)) (fm_bnd (k := 3) _ (by decide)) (fm_bnd (k := 3) _ (by decide)) (fm_bnd (k := 3) _ (by decide)) (fm_bnd (k := 6) _ (by decide)) (fm_bnd (k := 3) _ (by decide)) (fm_bnd (k := 3) _ (by decide)) (fm_bnd (k := 3) _ (by decide)) (fm_bnd (k := 6) _ (by decide)) (fm_bnd (k := 3) _ (by decide)) (fm_bnd (k := 3) _ (by decide)) (fm_bnd (k := 3) _ (by decide)) (fm_bnd (k := 6) _ (by decide)) _ _ _ _ _ _ _ _ _ _ _ _ _ _ dI dS (by assumption) (by assumption) (by assumption) (by assumption) (by assumption) (by assumption) (by assumption) (by omega) (by omega) (by omega) (by omega) (by omega) (by omega) (by omega) (by assumption) F9 (by assumption) (by assumption) N9 ?_)
   intro h9 tk9 m9 F10
   k_steps)
end Mine
end
set_option maxRecDepth 100000 in
theorem PySem.Challenge.cw_wo0027_01_holds : PySem.Challenge.rw_wo0027_01.Holds :=
  Mine.t1
