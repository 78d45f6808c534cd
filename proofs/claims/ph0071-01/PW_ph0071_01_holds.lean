import PyProof.Rows.All
import Wide.All
import OpenK.AllK
import Wide.FinOn
import Lean
import PySem.Challenge.RW_ph0071_01
set_option Elab.async false
set_option linter.unusedVariables false
section
open PySem PySem.W PyProof.Rows
set_option maxRecDepth 100000
set_option maxHeartbeats 8000000
namespace Mine
open_top hd71 for PySem.Challenge.rw_ph0071_01
end Mine
end
section
open PySem PySem.W PyProof.Rows PySem.Calls
set_option maxRecDepth 100000
namespace Mine
theorem lk_getitem : typeLookup (.type "str") "__getitem__" = pure (some (.builtin "str.__getitem__")) := by rw [typeLookup_type, builtinLookup_eq_fast]; kernel_rfl
theorem hasattr_entry : entryFor table "hasattr" = some Builtin.«hasattr» := entryFor_of_tree (by kernel_rfl)
theorem args_hasattr (a b : Value) : argsOk "hasattr" ⟨[a, b], []⟩ := by unfold argsOk; kernel_rfl
theorem typeOf_sgi : typeOf (.builtin "str.__getitem__") = pure (.type "wrapper_descriptor") := by kernel_rfl
theorem slot_wd_get : Slot "wrapper_descriptor" "__get__" "wrapper_descriptor.__get__" :=
  .of (owner := "wrapper_descriptor") (n := "__get__") (by rw [typeLookup_type, builtinLookup_eq_fast]; kernel_rfl) (by decide +kernel) (by decide +kernel) (by decide +kernel)
    (by first | exact .inl (by decide +kernel) | exact .inr (by decide +kernel)) (by rw [isSubtype_type]; kernel_rfl)
theorem lk_wd_set : typeLookup (.type "wrapper_descriptor") "__set__" = pure none := by rw [typeLookup_type, builtinLookup_eq_fast]; kernel_rfl
theorem lk_wd_del : typeLookup (.type "wrapper_descriptor") "__delete__" = pure none := by rw [typeLookup_type, builtinLookup_eq_fast]; kernel_rfl
theorem entry_wd_get : entryFor table "wrapper_descriptor.__get__" = some Builtin.«wrapper_descriptor.__get__» := entryFor_of_tree (by kernel_rfl)
theorem args_wd_get (a b c : Value) : argsOk "wrapper_descriptor.__get__" ⟨[a, b, c], []⟩ := by unfold argsOk; kernel_rfl
theorem owner_sgi : (".".intercalate ("str.__getitem__".cutAt '.').dropLast) = "str" := by
  have e0 : "str.__getitem__".cutAt '.' = ["str", "__getitem__"] := by first | rfl | decide +kernel
  rw [e0]; decide +kernel
theorem sub_sgi : isSubtype (.type "str") (.type (".".intercalate ("str.__getitem__".cutAt '.').dropLast)) = pure true := by
  rw [owner_sgi, isSubtype_type]; kernel_rfl

def mwObj (x : Str) (u : Tok) : Obj := { cls := Value.type "method-wrapper", data := Data.fields #[.builtin "str.__getitem__", .str x u] }
section
variable {prog : Program} {w : World} {A : Around} {E : Value → Shared → Prop} {h : Heap} {g : Array GenState} {d : Drawn} {t : Nat} {os : OsState} {x : Str} {u : Tok}
set_option maxHeartbeats 1000000 in
theorem sgi_get {R : Result → Shared → Prop} (hq : R (.ok (.ret (.ref h.objs.size))) ⟨h.push (mwObj x u), g, d, t, os⟩) :
    codeAny (model prog w) A (.call (.builtin "wrapper_descriptor.__get__") ⟨[.builtin "str.__getitem__", .str x u, .type "str"], []⟩) R ⟨h, g, d, t, os⟩ := by
  have hT : (⟨h, g, d, t, os⟩ : Shared).TypeIs (.str x u) "str" := rfl
  have hT5 : (⟨h, g, d, t, os⟩ : Shared).TypeIs (.builtin "str.__getitem__") "wrapper_descriptor" := typeOf_sgi
  have f8 := sub_sgi
  refine codeAny_call_builtin slot_wd_get.plain entry_wd_get (slot_wd_get.check _ _ _ _ _ _ _ _ hT5 (args_wd_get _ _ _) ?_)
  repeat (any_goals (first
    | assumption
    | with_reducible (first | refine wpAny_pure ?_ | refine wpAny_bind ?_ | refine wpAny_holding ?_ | refine wpAny_standAt ?_ | refine wpAny_point ?_ | refine wpAny_rule ?_ | refine wpAny_letGo ?_ | refine wpAny_mkStr' ?_ | refine wpAny_fresh' ?_ | refine wpAny_alloc' ?_ | refine wpAny_attempt ?_ | refine wpAny_throw ?_ | refine wpAny_of_eq (by assumption) ?_ | refine wpAny_typeOf (by assumption) ?_ | refine wpAny_specialOf_val (by assumption) (by assumption) ?_ | refine wpAny_specialOf (by assumption) (by assumption) ?_ | refine wpAny_isInstance_val (by assumption) (by assumption) ?_ | refine wpAny_isInstance (by assumption) (by assumption) ?_ | refine wpAny_call ?_ | refine wpAny_runValue ?_ | refine wpAny_run ?_)
    | wp_delta
    | ((with_reducible refine wpAny_ite_false ?_ ?_); focus (rfl; done))
    | ((with_reducible refine wpAny_ite_true ?_ ?_); focus (rfl; done))
    | wp_step))
set_option maxHeartbeats 1000000 in
theorem sgi_entry {tk : Tok} {Q : Fin → Shared → Prop} (hq : Q (.done (.ret (.ref h.objs.size))) ⟨h.push (mwObj x u), g, d, t, os⟩) :
    wpAny (model prog w) A (Builtin.«object.__getattribute__» ⟨[.str x u, .str "__getitem__" tk], []⟩) Q E ⟨h, g, d, t, os⟩ := by
  have hT : (⟨h, g, d, t, os⟩ : Shared).TypeIs (.str x u) "str" := rfl
  have hT5 : (⟨h, g, d, t, os⟩ : Shared).TypeIs (.builtin "str.__getitem__") "wrapper_descriptor" := typeOf_sgi
  have f4 := lk_getitem
  have f5 := typeOf_sgi
  have f6 := slot_wd_get.lookup
  have f7 := lk_wd_set
  have f8 := lk_wd_del
  repeat (any_goals (first
    | assumption
    | with_reducible (first | refine wpAny_pure ?_ | refine wpAny_bind ?_ | refine wpAny_holding ?_ | refine wpAny_standAt ?_ | refine wpAny_point ?_ | refine wpAny_rule ?_ | refine wpAny_letGo ?_ | refine wpAny_mkStr' ?_ | refine wpAny_fresh' ?_ | refine wpAny_alloc' ?_ | refine wpAny_attempt ?_ | refine wpAny_throw ?_ | refine wpAny_of_eq (by assumption) ?_ | refine wpAny_typeOf (by assumption) ?_ | refine wpAny_specialOf_val (by assumption) (by assumption) ?_ | refine wpAny_specialOf (by assumption) (by assumption) ?_ | refine wpAny_isInstance_val (by assumption) (by assumption) ?_ | refine wpAny_isInstance (by assumption) (by assumption) ?_ | refine wpAny_call ?_ | refine wpAny_runValue ?_ | refine wpAny_run ?_)
    | wp_delta
    | ((with_reducible refine wpAny_ite_false ?_ ?_); focus (rfl; done))
    | ((with_reducible refine wpAny_ite_true ?_ ?_); focus (rfl; done))
    | wp_step))
  refine sgi_get ?_
  repeat (any_goals (first
    | assumption
    | with_reducible (first | refine wpAny_pure ?_ | refine wpAny_bind ?_ | refine wpAny_holding ?_ | refine wpAny_standAt ?_ | refine wpAny_point ?_ | refine wpAny_rule ?_ | refine wpAny_letGo ?_ | refine wpAny_mkStr' ?_ | refine wpAny_fresh' ?_ | refine wpAny_alloc' ?_ | refine wpAny_attempt ?_ | refine wpAny_throw ?_ | refine wpAny_of_eq (by assumption) ?_ | refine wpAny_typeOf (by assumption) ?_ | refine wpAny_specialOf_val (by assumption) (by assumption) ?_ | refine wpAny_specialOf (by assumption) (by assumption) ?_ | refine wpAny_isInstance_val (by assumption) (by assumption) ?_ | refine wpAny_isInstance (by assumption) (by assumption) ?_ | refine wpAny_call ?_ | refine wpAny_runValue ?_ | refine wpAny_run ?_)
    | wp_delta
    | ((with_reducible refine wpAny_ite_false ?_ ?_); focus (rfl; done))
    | ((with_reducible refine wpAny_ite_true ?_ ?_); focus (rfl; done))
    | wp_step))
theorem sgi_call {tk : Tok} {R : Result → Shared → Prop} (hq : R (.ok (.ret (.ref h.objs.size))) ⟨h.push (mwObj x u), g, d, t, os⟩) :
    codeAny (model prog w) A (.call (.builtin "object.__getattribute__") ⟨[.str x u, .str "__getitem__" tk], []⟩) R ⟨h, g, d, t, os⟩ :=
  codeAny_call_builtin F.slot_str_getattribute.plain F.entry_object_getattribute (F.slot_str_getattribute.check _ _ _ _ _ _ _ _ (show (⟨h, g, d, t, os⟩ : Shared).TypeIs (.str x u) "str" from rfl) (F.args_object_getattribute_2 _ _) (sgi_entry hq))
end
section
variable {prog : Program} {w : World} {A : Around} {E : Value → Shared → Prop} {s : Shared}
set_option maxHeartbeats 1000000 in
theorem hasattr_str {x : Str} {u tk : Tok} {Q : Value → Shared → Prop} (h : ∀ t', Q (.bool true) { s with heap := s.heap.push (mwObj x u), toks := t' }) :
    wpAny (model prog w) A (call (.builtin "hasattr") [.str x u, .str (Str.ofString "__getitem__") tk]) Q E s := by
  refine call_function_entry (by decide +kernel) (by decide +kernel) hasattr_entry (args_hasattr _ _) ?_
  obtain ⟨hp, g, d, t, os⟩ := s
  have hT : (⟨hp, g, d, t, os⟩ : Shared).TypeIs (.str x u) "str" := rfl
  have f4 := lk_getitem
  have f2 := F.slot_str_getattribute.lookup
  have f3 := F.slot_str_getattribute.bind (.str x u)
  unfold Builtin.«hasattr»
  repeat (any_goals (first
    | assumption
    | with_reducible (first | refine wpAny_pure ?_ | refine wpAny_bind ?_ | refine wpAny_holding ?_ | refine wpAny_standAt ?_ | refine wpAny_point ?_ | refine wpAny_rule ?_ | refine wpAny_letGo ?_ | refine wpAny_mkStr' ?_ | refine wpAny_fresh' ?_ | refine wpAny_alloc' ?_ | refine wpAny_attempt ?_ | refine wpAny_throw ?_ | refine wpAny_of_eq (by assumption) ?_ | refine wpAny_typeOf (by assumption) ?_ | refine wpAny_specialOf_val (by assumption) (by assumption) ?_ | refine wpAny_specialOf (by assumption) (by assumption) ?_ | refine wpAny_isInstance_val (by assumption) (by assumption) ?_ | refine wpAny_isInstance (by assumption) (by assumption) ?_ | refine wpAny_call ?_ | refine wpAny_runValue ?_ | refine wpAny_run ?_)
    | wp_delta
    | ((with_reducible refine wpAny_ite_false ?_ ?_); focus (rfl; done))
    | ((with_reducible refine wpAny_ite_true ?_ ?_); focus (rfl; done))
    | wp_step))
  refine sgi_call ?_
  repeat (any_goals (first
    | assumption
    | with_reducible (first | refine wpAny_pure ?_ | refine wpAny_bind ?_ | refine wpAny_holding ?_ | refine wpAny_standAt ?_ | refine wpAny_point ?_ | refine wpAny_rule ?_ | refine wpAny_letGo ?_ | refine wpAny_mkStr' ?_ | refine wpAny_fresh' ?_ | refine wpAny_alloc' ?_ | refine wpAny_attempt ?_ | refine wpAny_throw ?_ | refine wpAny_of_eq (by assumption) ?_ | refine wpAny_typeOf (by assumption) ?_ | refine wpAny_specialOf_val (by assumption) (by assumption) ?_ | refine wpAny_specialOf (by assumption) (by assumption) ?_ | refine wpAny_isInstance_val (by assumption) (by assumption) ?_ | refine wpAny_isInstance (by assumption) (by assumption) ?_ | refine wpAny_call ?_ | refine wpAny_runValue ?_ | refine wpAny_run ?_)
    | wp_delta
    | ((with_reducible refine wpAny_ite_false ?_ ?_); focus (rfl; done))
    | ((with_reducible refine wpAny_ite_true ?_ ?_); focus (rfl; done))
    | wp_step))
  exact ⟨_, rfl, h _⟩
end
end Mine
end
section
open PySem PySem.W PyProof.Rows
set_option maxRecDepth 100000
namespace Mine
abbrev prog71 : Program := Challenge.rw_ph0071_01.row.prog

abbrev Call71 (k : Nat) (f : Addr) (vs : List Value) (news : List (Addr × Obj)) (h₀ : Heap) (Post : Value → List (Addr × Obj) → Prop) (w : World) : Prop :=
  ∀ (mean : ExcName → Option Value) (mg mb : Str → Option Value) (dp un : Nat) (gd : Option (List Code)) (cn : Str) (cs : Scope) (a : Addr) (ccd : Value) (cl : List (Str × Addr)) (outer : List Env) (A₀ : Around) (base : Heap) (L : Addr) (m : Str → Option Value) (s : Shared) (Q E : Value → Shared → Prop),
    Below A₀ base outer h₀ → Fr h₀ L s.heap m → (hd71.heap_39 w.params).In h₀ → News h₀ L s.heap news → Top hd71.view_39 (looseW hd71.view_39 []) mean mg mb h₀ → cs.kind = .function →
    dp + k < recursionLimit → un + 8 * k < cLine →
    (∀ r news' h' tk', Post r news' → Fr h₀ L h' m → News h₀ L h' news' → Q r { s with heap := h', toks := tk' }) →
      wpAny (model prog71 w) (ktrTop dp un gd cn cs L a ccd cl outer) (call (.ref f) vs) Q E s
theorem use71 {k : Nat} {f : Addr} {vs : List Value} {news : List (Addr × Obj)} {h₀ : Heap} {Post : Value → List (Addr × Obj) → Prop} {w : World} (c : Call71 k f vs news h₀ Post w)
    {mean : ExcName → Option Value} {mg mb : Str → Option Value} {dp un : Nat} {gd : Option (List Code)} {cn : Str} {cs : Scope} {a : Addr} {ccd : Value} {cl : List (Str × Addr)} {outer : List Env} {A₀ : Around} {base : Heap} {L : Addr} {m : Str → Option Value} {s : Shared} {Q E : Value → Shared → Prop}
    (B : Below A₀ base outer h₀) (F : Fr h₀ L s.heap m) (X : (hd71.heap_39 w.params).In h₀) (N : News h₀ L s.heap news) (T : Top hd71.view_39 (looseW hd71.view_39 []) mean mg mb h₀) (hk : cs.kind = .function)
    (hd : dp + k < recursionLimit) (hu : un + 8 * k < cLine) (ret : ∀ r news' h' tk', Post r news' → Fr h₀ L h' m → News h₀ L h' news' → Q r { s with heap := h', toks := tk' }) :
    wpAny (model prog71 w) (ktrTop dp un gd cn cs L a ccd cl outer) (call (.ref f) vs) Q E s := c _ _ _ _ _ _ _ _ _ _ _ _ _ _ _ _ _ _ _ B F X N T hk hd hu ret
theorem hasattr_strN {prog : Program} {w : World} {A : Around} {E : Value → Shared → Prop} {s : Shared} {h₀ : Heap} {L : Addr} {m : Str → Option Value} {news : List (Addr × Obj)} {x : Str} {u tk : Tok} {Q : Value → Shared → Prop} (F : Fr h₀ L s.heap m) (N : News h₀ L s.heap news)
   (h : ∀ h' t', Fr h₀ L h' m → News h₀ L h' news → Q (.bool true) { s with heap := h', toks := t' }) :
    wpAny (model prog w) A (call (.builtin "hasattr") [.str x u, .str (Str.ofString "__getitem__") tk]) Q E s :=
  hasattr_str fun t' => h _ t' (F.push _) fun p hp => (N.push F (mwObj x u)) p (.tail _ hp)
local macro_rules | `(tactic| walk_at "call builtin:hasattr") => `(tactic| (k_here; (with_reducible refine hasattr_strN (by k_asm) (by k_asm) ?_); intro h' t' F' N'))
set_option maxHeartbeats 8000000 in
theorem concat_ok (w : World) (x y : Str) (tx ty : Tok) (hx : x.length ≤ 1000) (hy : y.length ≤ 1000) (news : List (Addr × Obj)) (h₀ : Heap) :
    Call71 1 35 [.str x tx, .str y ty] news h₀ (fun r news' => news' = news ∧ ∃ t, r = .str (x ++ y) t) w := by
  unfold Call71 prog71
  k_fill
  intro mean mg mb dp un gd cn cs a ccd cl outer A₀ base L m s Q E B F X N T hk hd hu hret
  refine wpAny_call ?_
  k_dflt ktr_enter
  k_steps
  exact hret _ _ _ _ ⟨rfl, _, rfl⟩ (by k_asm) (by k_asm)
set_option maxHeartbeats 8000000 in
theorem add_ok (w : World) (x y : Int) (tx ty : Tok) (news : List (Addr × Obj)) (h₀ : Heap) :
    Call71 1 21 [.int x tx, .int y ty] news h₀ (fun r news' => news' = news ∧ ∃ t, r = .int (x + y) t) w := by
  unfold Call71 prog71
  k_fill
  intro mean mg mb dp un gd cn cs a ccd cl outer A₀ base L m s Q E B F X N T hk hd hu hret
  refine wpAny_call ?_
  k_dflt ktr_enter
  k_steps
  exact hret _ _ _ _ ⟨rfl, _, rfl⟩ (by k_asm) (by k_asm)
set_option maxHeartbeats 8000000 in
theorem sub_ok (w : World) (x y : Int) (tx ty : Tok) (news : List (Addr × Obj)) (h₀ : Heap) :
    Call71 1 28 [.int x tx, .int y ty] news h₀ (fun r news' => news' = news ∧ ∃ t, r = .int (x - y) t) w := by
  unfold Call71 prog71
  k_fill
  intro mean mg mb dp un gd cn cs a ccd cl outer A₀ base L m s Q E B F X N T hk hd hu hret
  refine wpAny_call ?_
  k_dflt ktr_enter
  k_steps
  exact hret _ _ _ _ ⟨rfl, _, rfl⟩ (by k_asm) (by k_asm)
end Mine
end
section
open PySem PySem.W PyProof.Rows PySem.Calls
set_option maxRecDepth 100000
namespace Mine
/-- the text with these code points -/
def tx (l : List Nat) : Str := ⟨l.toArray⟩
theorem tx_cps (l : List Nat) : (tx l).cps.toList = l := rfl
theorem tx_of (x : Str) : tx x.cps.toList = x := rfl
theorem tx_append (a b : List Nat) : tx a ++ tx b = tx (a ++ b) := Str.ext' (by rw [Str.cps_append]; simp [tx])
theorem tx_length (a : List Nat) : (tx a).length = a.length := by simp [tx, Str.length]
theorem tx_inj {a b : List Nat} : tx a = tx b ↔ a = b := ⟨fun h => by have := congrArg (fun x : Str => x.cps.toList) h; simpa [tx] using this, fun h => h ▸ rfl⟩

def rep1 (c : Nat) (r l : List Nat) : List Nat := l.flatMap fun k => if k = c then r else [k]
theorem rep1_free (c : Nat) (r : List Nat) : ∀ l : List Nat, c ∉ l → rep1 c r l = l
  | [], _ => rfl
  | k :: l, h => by
    have h1 : ¬ k = c := fun e => h (e ▸ List.mem_cons_self ..)
    have h2 : c ∉ l := fun m => h (List.mem_cons_of_mem _ m)
    have ih := rep1_free c r l h2
    unfold rep1 at ih ⊢
    rw [List.flatMap_cons, if_neg h1, ih]; rfl
theorem rep1_append (c : Nat) (r a b : List Nat) : rep1 c r (a ++ b) = rep1 c r a ++ rep1 c r b := by
  unfold rep1; rw [List.flatMap_append]
theorem rep1_join (c : Nat) (z : Str) : ∀ parts : List Str, (∀ p ∈ parts, c ∉ p.cps.toList) → rep1 c z.cps.toList (Str.join ⟨#[c]⟩ parts).cps.toList = (Str.join z parts).cps.toList
  | [], _ => rfl
  | [p], h => rep1_free c _ _ (h p (List.mem_singleton.mpr rfl))
  | p :: q :: r, h => by
    have ih := rep1_join c z (q :: r) fun a ha => h a (List.mem_cons_of_mem _ ha)
    show rep1 c z.cps.toList (p ++ ⟨#[c]⟩ ++ Str.join ⟨#[c]⟩ (q :: r)).cps.toList = (p ++ z ++ Str.join z (q :: r)).cps.toList
    simp only [Str.cps_append, Array.toList_append]
    rw [rep1_append, rep1_append, ih, rep1_free c _ _ (h p (List.mem_cons_self ..))]
    show p.cps.toList ++ rep1 c z.cps.toList [c] ++ _ = _
    simp [rep1]
theorem replace_rep1 (l : List Nat) (c : Nat) (r : List Nat) : Txt.replace (tx l) (tx [c]) (tx r) = tx (rep1 c r l) := by
  show Txt.replace (tx l) ⟨#[c]⟩ (tx r) = _
  rw [StrLaws.replace_one]
  have h := rep1_join c (tx r) (Txt.split (tx l) ⟨#[c]⟩) (StrLaws.split_free (tx l) c)
  rw [StrLaws.join_split] at h
  rw [← tx_of (Str.join (tx r) (Txt.split (tx l) ⟨#[c]⟩)), ← h]
  rfl
theorem in_one (l : List Nat) (c : Nat) : (!(Builtin.Str.occurrences (tx l) (tx [c]) 0 (tx l).length 1).isEmpty) = decide (c ∈ l) := StrLaws.found_one (tx l) c

/-- a table: signs and what is written for them -/
abbrev Tab := List (Nat × List Nat)
def tabAt (tab : Tab) (k : Nat) : List Nat := (tab.lookup k).getD [k]
def esc (tab : Tab) (l : List Nat) : List Nat := l.flatMap (tabAt tab)
theorem esc_nil (l : List Nat) : esc [] l = l := by
  unfold esc; show l.flatMap (fun k => [k]) = l; simp
theorem esc_append (tab : Tab) (a b : List Nat) : esc tab (a ++ b) = esc tab a ++ esc tab b := by unfold esc; rw [List.flatMap_append]
def freshIn (tab : Tab) (c : Nat) : Bool := tab.all fun p => p.1 != c && !p.2.contains c
theorem lookup_snoc (tab : Tab) (c k : Nat) (r : List Nat) : (tab ++ [(c, r)]).lookup k = match tab.lookup k with | some v => some v | none => if k = c then some r else none := by
  induction tab with
  | nil =>
             simp only [List.nil_append, List.lookup_cons, List.lookup_nil]
             by_cases h : k = c
             · simp [h]
             · rw [show (k == c) = false from by simpa using h, if_neg h]
  | cons p t ih =>
    obtain ⟨a, b⟩ := p
    simp only [List.cons_append, List.lookup_cons]
    cases h : (k == a) <;> simp [ih]
theorem rep1_tabAt (tab : Tab) (c k : Nat) (r : List Nat) (h : freshIn tab c = true) : rep1 c r (tabAt tab k) = tabAt (tab ++ [(c, r)]) k := by
  unfold tabAt
  rw [lookup_snoc]
  cases hl : tab.lookup k with
  | some v =>
    simp only [Option.getD_some]
    apply rep1_free
    have : (k, v) ∈ tab := by
      clear h
      induction tab with
      | nil => simp at hl
      | cons p t ih =>
        obtain ⟨a, b⟩ := p
        rw [List.lookup_cons] at hl
        cases hk : (k == a) with
        | true => rw [hk] at hl; simp at hl; have := eq_of_beq hk; subst this; subst hl; exact List.mem_cons_self ..
        | false => rw [hk] at hl; exact List.mem_cons_of_mem _ (ih hl)
    have := List.all_eq_true.mp h _ this
    simp at this
    exact this.2
  | none =>
    simp only [Option.getD_none]
    by_cases hk : k = c
    · simp [rep1, hk]
    · simp [rep1, hk]
theorem rep1_esc (tab : Tab) (c : Nat) (r l : List Nat) (h : freshIn tab c = true) : rep1 c r (esc tab l) = esc (tab ++ [(c, r)]) l := by
  unfold esc
  induction l with
  | nil => rfl
  | cons k l ih =>
    rw [List.flatMap_cons, rep1_append, ih, List.flatMap_cons, rep1_tabAt tab c k r h]
theorem esc_length_le (tab : Tab) (h : (tab.all fun p => decide (p.2.length ≤ 6)) = true) (l : List Nat) : (esc tab l).length ≤ 6 * l.length := by
  induction l with
  | nil => simp [esc]
  | cons k l ih =>
    unfold esc at ih ⊢
    rw [List.flatMap_cons, List.length_append, List.length_cons]
    have : (tabAt tab k).length ≤ 6 := by
      unfold tabAt
      cases hl : tab.lookup k with
      | none => simp
      | some v =>
        simp only [Option.getD_some]
        clear ih
        induction tab with
        | nil => simp at hl
        | cons p t ih =>
          obtain ⟨a, b⟩ := p
          rw [List.all_cons, Bool.and_eq_true] at h
          rw [List.lookup_cons] at hl
          cases hk : (k == a) with
          | true => rw [hk] at hl; simp at hl; subst hl; simpa using h.1
          | false => rw [hk] at hl; exact ih h.2 hl
    omega
end Mine
end
section
open PySem PySem.W PyProof.Rows PySem.Calls
set_option maxRecDepth 100000
namespace Mine
local macro_rules | `(tactic| walk_at "no such key") => `(tactic| fail "no such key")
section
variable {prog : Program} {w : World} {A : Around} {E : Value → Shared → Prop} {s : Shared} {name : Str} {scope : Scope} {L a : Addr} {cd : Value} {h₀ : Heap} {m : Str → Option Value} {news : List (Addr × Obj)}
theorem esc_if {p1 p2 p3 p4 p5 p6 p7 p8 p9 pa pb : Pos} {k1 k2 k3 : Nat} {C R : Str} {c : Nat} {r l : List Nat} {tab : Tab} {t : Tok} {Q : Flow → Shared → Prop}
    (F : Fr h₀ L s.heap m) (N : News h₀ L s.heap news) (hm : m (Str.ofString "text") = some (.str (tx (esc tab l)) t)) (hk : scope.kind = .function) (hl : (envOf name scope L a cd).kindOf (Str.ofString "text") = some .local)
    (hC : C = tx [c]) (hR : R = tx r) (hr : r.length ≤ 14) (hne : (tx [c] == tx r) = false) (hf : freshIn tab c = true) {pl : Sem Bool}
    (he : eval (Expr.Call (Expr.Attribute (Expr.Name (Str.ofString "text") p5) (Str.ofString "replace") p6) [Expr.Constant (.str C) k2 p7, Expr.Constant (.str R) k3 p8] [] p9) (envOf name scope L a cd) = (do
      let ov ← eval (Expr.Name (Str.ofString "text") p5) (envOf name scope L a cd)
      standAt p6.atName
      let (f, first) ← holding [ov] (getMethod ov (Str.ofString "replace") pl)
      callWith p9 f first (backTo p9 (starEach [Expr.Constant (.str C) k2 p7, Expr.Constant (.str R) k3 p8] (envOf name scope L a cd))) [])) (hsz : (esc tab l).length ≤ 1048576)
    (k : ∀ h' t' tk', Fr h₀ L h' (fun y => if y = Str.ofString "text" then some (.str (tx (esc (tab ++ [(c, r)]) l)) t') else m y) → News h₀ L h' news → Q .next { s with heap := h', toks := tk' }) :
    wpAny (model prog w) A (exec (Stmt.If (Expr.Compare (Expr.Constant (.str C) k1 p1) [CmpOp.In] [Expr.Name (Str.ofString "text") p2] p3)
      [Stmt.Assign [Expr.Name (Str.ofString "text") p4] (Expr.Call (Expr.Attribute (Expr.Name (Str.ofString "text") p5) (Str.ofString "replace") p6) [Expr.Constant (.str C) k2 p7, Expr.Constant (.str R) k3 p8] [] p9) pa] [] pb) (envOf name scope L a cd)) Q E s := by
  subst hC hR
  refine wpAny_If (wpAny_isTrue_Compare1 (Constant_str (ld F hm ?_ hk hl)))
  refine in_str (wpAny_truthy_bool ?_)
  rw [in_one]
  by_cases hin : c ∈ esc tab l
  · rw [decide_eq_true hin, if_pos rfl]
    refine wpAny_execs_cons (wpAny_Assign_Name ?_)
    refine MethodCall_ (pl := pl) (ld F hm ?_ hk hl) he
    refine GM.replace (callWith_method1 (spliced_more (Constant_str (spliced_more (Constant_str (spliced_none ?_))))))
    refine SC.replaceW (Nat.succ_ne_zero _) (Nat.succ_ne_zero _) (Nat.ne_of_lt (Nat.lt_succ_self _)) hne (by rw [tx_length]; exact hsz) (by rw [tx_length]; exact hr) fun t' kk => ?_
    rw [replace_rep1, rep1_esc tab c r l hf]
    exact stN F N (fun h' F' N' => wpAny_execs_nil (k h' t' _ F' N')) hk hl
  · rw [decide_eq_false hin]
    simp only [Bool.false_eq_true, if_false]
    refine wpAny_execs_nil ?_
    have e : esc (tab ++ [(c, r)]) l = esc tab l := by rw [← rep1_esc tab c r l hf, rep1_free _ _ _ hin]
    refine k s.heap t _ ?_ N
    have em : (fun y => if y = Str.ofString "text" then some (Value.str (tx (esc (tab ++ [(c, r)]) l)) t) else m y) = m := by
      funext y
      by_cases hy : y = Str.ofString "text"
      · rw [if_pos hy, hy, hm, e]
      · rw [if_neg hy]
    rw [em]; exact F
end
def tab0 : Tab := [(38, [38, 97, 109, 112, 59]), (60, [38, 108, 116, 59]), (62, [38, 103, 116, 59])]
def tab1 : Tab := [(38, [38, 97, 109, 112, 59]), (60, [38, 108, 116, 59]), (62, [38, 103, 116, 59]), (34, [38, 113, 117, 111, 116, 59]), (13, [38, 35, 49, 51, 59]), (10, [38, 35, 49, 48, 59]), (9, [38, 35, 48, 57, 59])]
def tab2 : Tab := [(38, [38, 97, 109, 112, 59]), (62, [38, 103, 116, 59]), (34, [38, 113, 117, 111, 116, 59])]
def tab3 : Tab := [(38, [38, 97, 109, 112, 59]), (60, [38, 108, 116, 59]), (62, [38, 103, 116, 59]), (13, [38, 35, 120, 68, 59])]
def tab4 : Tab := [(38, [38, 97, 109, 112, 59]), (60, [38, 108, 116, 59]), (34, [38, 113, 117, 111, 116, 59]), (9, [38, 35, 120, 57, 59]), (10, [38, 35, 120, 65, 59]), (13, [38, 35, 120, 68, 59])]
theorem so_amp : Str.ofString "&" = tx [38] := by decide +kernel
theorem so_lt : Str.ofString "<" = tx [60] := by decide +kernel
theorem so_gt : Str.ofString ">" = tx [62] := by decide +kernel
theorem so_quot : Str.ofString "\"" = tx [34] := by decide +kernel
theorem so_cr : Str.ofString "\x0d" = tx [13] := by decide +kernel
theorem so_lf : Str.ofString "\n" = tx [10] := by decide +kernel
theorem so_tab : Str.ofString "\t" = tx [9] := by decide +kernel
theorem so_Ramp : Str.ofString "&amp;" = tx [38, 97, 109, 112, 59] := by decide +kernel
theorem so_Rlt : Str.ofString "&lt;" = tx [38, 108, 116, 59] := by decide +kernel
theorem so_Rgt : Str.ofString "&gt;" = tx [38, 103, 116, 59] := by decide +kernel
theorem so_Rquot : Str.ofString "&quot;" = tx [38, 113, 117, 111, 116, 59] := by decide +kernel
theorem so_R13 : Str.ofString "&#13;" = tx [38, 35, 49, 51, 59] := by decide +kernel
theorem so_R10 : Str.ofString "&#10;" = tx [38, 35, 49, 48, 59] := by decide +kernel
theorem so_R09 : Str.ofString "&#09;" = tx [38, 35, 48, 57, 59] := by decide +kernel
theorem so_RxD : Str.ofString "&#xD;" = tx [38, 35, 120, 68, 59] := by decide +kernel
theorem so_RxA : Str.ofString "&#xA;" = tx [38, 35, 120, 65, 59] := by decide +kernel
theorem so_Rx9 : Str.ofString "&#x9;" = tx [38, 35, 120, 57, 59] := by decide +kernel
local macro_rules | `(tactic| walk_at "exec If") => `(tactic| (k_here; k_dflt ((rename Fr _ _ _ _ => eF); (rename News _ _ _ _ => eN); (with_unfolding_all refine' esc_if eF eN ?e1 ?e2 ?e3 ?e4 ?e5 ?e6 ?e7 ?e8 ?e10 ?e9 ?_); (case e1 => with_unfolding_all exact rfl); (case e2 => exact rfl); (case e3 => exact rfl); (case e4 => first | exact so_amp | exact so_lt | exact so_gt | exact so_quot | exact so_cr | exact so_lf | exact so_tab); (case e5 => first | exact so_Ramp | exact so_Rlt | exact so_Rgt | exact so_Rquot | exact so_R13 | exact so_R10 | exact so_R09 | exact so_RxD | exact so_RxA | exact so_Rx9); (case e6 => decide); (case e7 => decide); (case e8 => decide); (case e10 => with_unfolding_all exact rfl); (case e9 => exact Nat.le_trans (esc_length_le _ (by decide) _) (by omega)); clear eF eN; intro h' t' tk' F' N')))
set_option maxHeartbeats 8000000 in
theorem esc0_ok (w : World) (l : List Nat) (tt : Tok) (hx : l.length ≤ 1000) (news : List (Addr × Obj)) (h₀ : Heap) :
    Call71 1 49 [.str (tx l) tt] news h₀ (fun r news' => news' = news ∧ ∃ t, r = .str (tx (esc tab0 l)) t) w := by
  unfold Call71 prog71
  k_fill
  intro mean mg mb dp un gd cn cs a ccd cl outer A₀ base L m s Q E B F X N T hk hd hu hret
  refine wpAny_call ?_
  rw [show l = esc [] l from (esc_nil l).symm]
  k_dflt ktr_enter
  k_steps
  exact hret _ _ _ _ ⟨rfl, _, rfl⟩ (by k_asm) (by k_asm)
set_option maxHeartbeats 8000000 in
theorem esc1_ok (w : World) (l : List Nat) (tt : Tok) (hx : l.length ≤ 1000) (news : List (Addr × Obj)) (h₀ : Heap) :
    Call71 1 56 [.str (tx l) tt] news h₀ (fun r news' => news' = news ∧ ∃ t, r = .str (tx (esc tab1 l)) t) w := by
  unfold Call71 prog71
  k_fill
  intro mean mg mb dp un gd cn cs a ccd cl outer A₀ base L m s Q E B F X N T hk hd hu hret
  refine wpAny_call ?_
  rw [show l = esc [] l from (esc_nil l).symm]
  k_dflt ktr_enter
  k_steps
  exact hret _ _ _ _ ⟨rfl, _, rfl⟩ (by k_asm) (by k_asm)
set_option maxHeartbeats 8000000 in
theorem esc2_ok (w : World) (l : List Nat) (tt : Tok) (hx : l.length ≤ 1000) (news : List (Addr × Obj)) (h₀ : Heap) :
    Call71 1 63 [.str (tx l) tt] news h₀ (fun r news' => news' = news ∧ ∃ t, r = .str (tx (esc tab2 l)) t) w := by
  unfold Call71 prog71
  k_fill
  intro mean mg mb dp un gd cn cs a ccd cl outer A₀ base L m s Q E B F X N T hk hd hu hret
  refine wpAny_call ?_
  rw [show l = esc [] l from (esc_nil l).symm]
  k_dflt ktr_enter
  k_steps
  exact hret _ _ _ _ ⟨rfl, _, rfl⟩ (by k_asm) (by k_asm)
set_option maxHeartbeats 8000000 in
theorem esc3_ok (w : World) (l : List Nat) (tt : Tok) (hx : l.length ≤ 1000) (news : List (Addr × Obj)) (h₀ : Heap) :
    Call71 1 70 [.str (tx l) tt] news h₀ (fun r news' => news' = news ∧ ∃ t, r = .str (tx (esc tab3 l)) t) w := by
  unfold Call71 prog71
  k_fill
  intro mean mg mb dp un gd cn cs a ccd cl outer A₀ base L m s Q E B F X N T hk hd hu hret
  refine wpAny_call ?_
  rw [show l = esc [] l from (esc_nil l).symm]
  k_dflt ktr_enter
  k_steps
  exact hret _ _ _ _ ⟨rfl, _, rfl⟩ (by k_asm) (by k_asm)
set_option maxHeartbeats 8000000 in
theorem esc4_ok (w : World) (l : List Nat) (tt : Tok) (hx : l.length ≤ 1000) (news : List (Addr × Obj)) (h₀ : Heap) :
    Call71 1 77 [.str (tx l) tt] news h₀ (fun r news' => news' = news ∧ ∃ t, r = .str (tx (esc tab4 l)) t) w := by
  unfold Call71 prog71
  k_fill
  intro mean mg mb dp un gd cn cs a ccd cl outer A₀ base L m s Q E B F X N T hk hd hu hret
  refine wpAny_call ?_
  rw [show l = esc [] l from (esc_nil l).symm]
  k_dflt ktr_enter
  k_steps
  exact hret _ _ _ _ ⟨rfl, _, rfl⟩ (by k_asm) (by k_asm)
end Mine
end
section
namespace Mine
def occR : List Nat → List Nat → Int
  | [], _ => 1
  | _ :: _, [] => 0
  | a :: p, c :: g => occR (a :: p) g + if a = c then occR p g else 0
/-- how often the signs of p stand in g in this order -/
def occ (p g : List Nat) : Int := occR p.reverse g.reverse
theorem occ_nil (g : List Nat) : occ [] g = 1 := by unfold occ; cases g.reverse <;> rfl
theorem occ_end (p : List Nat) (a : Nat) : occ (p ++ [a]) [] = 0 := by unfold occ; simp [occR]
theorem occ_snoc (p g : List Nat) (a c : Nat) : occ (p ++ [a]) (g ++ [c]) = occ (p ++ [a]) g + if a = c then occ p g else 0 := by
  unfold occ; simp [occR]
theorem snoc_cases (p : List Nat) : p = [] ∨ ∃ q a, p = q ++ [a] := by
  cases h : p.reverse with
  | nil => exact .inl (by simpa using h)
  | cons a r => exact .inr ⟨r.reverse, a, by have := congrArg List.reverse h; simpa using this⟩
theorem snoc_ind {P : List Nat → Prop} (h0 : P []) (h1 : ∀ p a, P p → P (p ++ [a])) : ∀ p, P p := by
  intro p
  have : ∀ r : List Nat, P r.reverse := by
    intro r
    induction r with
    | nil => exact h0
    | cons a r ih => rw [List.reverse_cons]; exact h1 _ _ ih
  simpa using this p.reverse

def conv (F G : List Nat → Int) : List Nat → Int
  | [] => F [] * G []
  | a :: p => F [] * G (a :: p) + conv (fun q => F (a :: q)) G p
theorem conv_snoc (F G : List Nat → Int) (a : Nat) (q : List Nat) : conv F G (q ++ [a]) = F (q ++ [a]) * G [] + conv F (fun r => G (r ++ [a])) q := by
  induction q generalizing F with
  | nil => simp [conv]; omega
  | cons b q ih => simp only [List.cons_append, conv, ih]; omega
theorem conv_add (F G H : List Nat → Int) (p : List Nat) : conv F (fun q => G q + H q) p = conv F G p + conv F H p := by
  induction p generalizing F with
  | nil => simp only [conv]; rw [Int.mul_add]
  | cons a p ih => simp only [conv]; rw [ih, Int.mul_add]; omega
theorem conv_zero (F : List Nat → Int) (p : List Nat) : conv F (fun _ => 0) p = 0 := by
  induction p generalizing F with
  | nil => simp [conv]
  | cons a p ih => simp [conv, ih]
theorem conv_unit (F : List Nat → Int) (p : List Nat) : conv F (fun q => occ q []) p = F p := by
  rcases snoc_cases p with rfl | ⟨q, a, rfl⟩
  · simp [conv, occ_nil]
  · rw [conv_snoc]
    have : (fun r => occ (r ++ [a]) []) = fun _ => (0 : Int) := funext fun r => occ_end r a
    rw [this, conv_zero, occ_nil]; omega
theorem conv_congr {F G G' : List Nat → Int} (h : ∀ q, G q = G' q) (p : List Nat) : conv F G p = conv F G' p := by rw [funext h]
theorem occ_append (p g h : List Nat) : occ p (g ++ h) = conv (fun q => occ q g) (fun q => occ q h) p := by
  induction h using snoc_ind generalizing p with
  | h0 => rw [List.append_nil, conv_unit]
  | h1 h c ih =>
    rcases snoc_cases p with rfl | ⟨q, a, rfl⟩
    · simp [conv, occ_nil]
    · rw [← List.append_assoc, occ_snoc, ih, conv_snoc, conv_snoc, occ_nil, occ_nil]
      by_cases e : a = c
      · subst e
        rw [if_pos rfl, ih, conv_congr (G := fun r => occ (r ++ [a]) (h ++ [a])) (G' := fun r => occ (r ++ [a]) h + occ r h) (fun r => by rw [occ_snoc, if_pos rfl]), conv_add]
        omega
      · rw [if_neg e, conv_congr (G := fun r => occ (r ++ [a]) (h ++ [c])) (G' := fun r => occ (r ++ [a]) h) (fun r => by rw [occ_snoc, if_neg e]; omega)]
        omega

theorem conv_subL (F F' G : List Nat → Int) (p : List Nat) : conv (fun q => F q - F' q) G p = conv F G p - conv F' G p := by
  induction p generalizing F F' with
  | nil => simp only [conv]; rw [Int.sub_mul]
  | cons a p ih => simp only [conv]; rw [ih, Int.sub_mul]; omega
theorem conv_subR (F G G' : List Nat → Int) (p : List Nat) : conv F (fun q => G q - G' q) p = conv F G p - conv F G' p := by
  induction p generalizing F with
  | nil => simp only [conv]; rw [Int.mul_sub]
  | cons a p ih => simp only [conv]; rw [ih, Int.mul_sub]; omega

theorem convR_zero {V D : List Nat → Int} {n : Nat} (hD : ∀ q, q.length < n → D q = 0) (p : List Nat) (hp : p.length < n) : conv V D p = 0 := by
  induction p generalizing V with
  | nil => simp only [conv]; rw [hD _ hp]; simp
  | cons a p ih =>
    simp only [conv]
    rw [hD _ hp, ih (by simp at hp; omega)]; simp
theorem convR_one {V D : List Nat → Int} {n : Nat} (hD : ∀ q, q.length < n → D q = 0) (hV : V [] = 1) (p : List Nat) (hp : p.length = n) : conv V D p = D p := by
  cases p with
  | nil => simp only [conv]; rw [hV]; omega
  | cons a p => simp only [conv]; rw [convR_zero hD p (by simp at hp; omega), hV]; omega
theorem convR_two {V D : List Nat → Int} {n : Nat} (hD : ∀ q, q.length < n → D q = 0) (hV : V [] = 1) (a : Nat) (p : List Nat) (hp : p.length = n) : conv V D (a :: p) = D (a :: p) + V [a] * D p := by
  simp only [conv]
  rw [hV]
  cases p with
  | nil => simp only [conv]; omega
  | cons b p => simp only [conv]; rw [convR_zero hD p (by simp at hp; omega)]; omega
theorem convL_one {V D : List Nat → Int} {n : Nat} (hD : ∀ q, q.length < n → D q = 0) (hV : V [] = 1) (p : List Nat) (hp : p.length = n) : conv D V p = D p := by
  induction p generalizing D n with
  | nil => simp only [conv]; rw [hV]; omega
  | cons a p ih =>
    simp only [conv]
    rw [hD [] (by rw [← hp]; simp), ih (D := fun q => D (a :: q)) (n := n - 1) (fun q hq => hD _ (by simp; omega)) (by simp at hp; omega)]; omega
theorem convL_two {V D : List Nat → Int} {n : Nat} (hD : ∀ q, q.length < n → D q = 0) (hV : V [] = 1) (a : Nat) (p : List Nat) (hp : p.length = n) : conv D V (p ++ [a]) = D (p ++ [a]) + D p * V [a] := by
  induction p generalizing D n with
  | nil => simp only [conv, List.nil_append]; rw [hV]; omega
  | cons b p ih =>
    simp only [conv, List.cons_append]
    rw [hD [] (by rw [← hp]; simp), ih (D := fun q => D (b :: q)) (n := n - 1) (fun q hq => hD _ (by simp; omega)) (by simp at hp; omega)]; omega

def W : Nat → List Nat → List Nat → List Nat
  | 0, u, _ => u
  | k + 1, u, v => W k u v ++ W k v u
theorem occ_comm (p g h : List Nat) : occ p (g ++ h) - occ p (h ++ g) = conv (fun q => occ q g - occ q h) (fun q => occ q h) p - conv (fun q => occ q h) (fun q => occ q g - occ q h) p := by
  rw [conv_subL, conv_subR, ← occ_append, ← occ_append, ← occ_append]; omega
theorem W_same (k : Nat) : ∀ (u v p : List Nat), p.length ≤ k → occ p (W k u v) = occ p (W k v u) := by
  induction k with
  | zero => intro u v p hp; have : p = [] := List.length_eq_zero_iff.mp (by omega); subst this; rw [occ_nil, occ_nil]
  | succ k ih =>
    intro u v p hp
    have hD : ∀ q : List Nat, q.length < k + 1 → (fun q => occ q (W k u v) - occ q (W k v u)) q = 0 := fun q hq => by show occ q _ - occ q _ = 0; rw [ih u v q (by omega)]; omega
    have h := occ_comm p (W k u v) (W k v u)
    show occ p (W k u v ++ W k v u) = occ p (W k v u ++ W k u v)
    by_cases hl : p.length = k + 1
    · rw [convL_one (V := fun q => occ q (W k v u)) hD (occ_nil _) p hl, convR_one (V := fun q => occ q (W k v u)) hD (occ_nil _) p hl] at h; omega
    · have := ih u v p (by omega)
      have e1 : conv (fun q => occ q (W k u v) - occ q (W k v u)) (fun q => occ q (W k v u)) p = 0 := by
        have : (fun q => occ q (W k v u)) = fun q => occ q (W k v u) := rfl
        clear h this
        have gen : ∀ (p : List Nat) (D : List Nat → Int) (n : Nat), (∀ q, q.length < n → D q = 0) → p.length < n → conv D (fun q => occ q (W k v u)) p = 0 := by
          intro p
          induction p with
          | nil => intro D n hD hp; simp only [conv]; rw [hD _ hp]; simp
          | cons a p ih => intro D n hD hp; simp only [conv]; rw [hD [] (by simp at hp ⊢; omega), ih (fun q => D (a :: q)) (n - 1) (fun q hq => hD _ (by simp; omega)) (by simp at hp; omega)]; simp
        exact gen p _ (k + 1) hD (by omega)
      have e2 := convR_zero (V := fun q => occ q (W k v u)) hD p (by omega)
      rw [e1, e2] at h; omega

def cnt (a : Nat) (u : List Nat) : Int := (u.count a : Nat)
theorem occ_one (a : Nat) (g : List Nat) : occ [a] g = cnt a g := by
  induction g using snoc_ind with
  | h0 => exact occ_end [] a
  | h1 g c ih =>
    have := occ_snoc [] g a c
    rw [List.nil_append] at this
    rw [this, ih, occ_nil]
    unfold cnt
    rw [List.count_append, List.count_singleton]
    by_cases e : a = c
    · subst e; simp
    · have e' : ¬ c = a := fun h => e h.symm
      simp [e, e']
theorem cnt_append (a : Nat) (u v : List Nat) : cnt a (u ++ v) = cnt a u + cnt a v := by unfold cnt; rw [List.count_append]; omega
theorem cnt_W (a : Nat) (k : Nat) : ∀ u v, cnt a (W (k + 1) u v) = cnt a (u ++ v) * 2 ^ k := by
  induction k with
  | zero => intro u v; show cnt a (u ++ v) = _; simp
  | succ k ih =>
    intro u v
    show cnt a (W (k + 1) u v ++ W (k + 1) v u) = _
    rw [cnt_append, ih, ih, cnt_append, cnt_append, Int.pow_succ]
    have : cnt a v + cnt a u = cnt a u + cnt a v := by omega
    rw [this, ← Int.mul_assoc]; omega
/-- the number that the law's recursion tells, for a part of k + 2 signs -/
def leadZ : Nat → List Nat → List Nat → List Nat → Int
  | 0, p, u, v => cnt (p.headD 0) u * cnt (p.getLastD 0) v - cnt (p.headD 0) v * cnt (p.getLastD 0) u
  | k + 1, p, u, v => leadZ k p.dropLast u v * (cnt (p.getLastD 0) (u ++ v) * 2 ^ k) - cnt (p.headD 0) (u ++ v) * 2 ^ k * leadZ k p.tail u v
theorem W_lead (k : Nat) : ∀ (u v p : List Nat), p.length = k + 2 → occ p (W (k + 1) u v) - occ p (W (k + 1) v u) = leadZ k p u v := by
  induction k with
  | zero =>
    intro u v p hp
    match p, hp with
    | [a, b], _ =>
      show occ [a, b] (u ++ v) - occ [a, b] (v ++ u) = _
      rw [occ_append, occ_append]
      simp only [conv, occ_nil, occ_one, leadZ, List.headD_cons, List.getLastD_cons, List.getLastD_nil]
      omega
  | succ k ih =>
    intro u v p hp
    have hD : ∀ q : List Nat, q.length < k + 2 → (fun q => occ q (W (k + 1) u v) - occ q (W (k + 1) v u)) q = 0 := fun q hq => by show occ q _ - occ q _ = 0; rw [W_same (k + 1) u v q (by omega)]; omega
    have h := occ_comm p (W (k + 1) u v) (W (k + 1) v u)
    show occ p (W (k + 1) u v ++ W (k + 1) v u) - occ p (W (k + 1) v u ++ W (k + 1) u v) = _
    rw [h]
    have hR : conv (fun q => occ q (W (k + 1) v u)) (fun q => occ q (W (k + 1) u v) - occ q (W (k + 1) v u)) p = (occ p (W (k + 1) u v) - occ p (W (k + 1) v u)) + cnt (p.headD 0) (u ++ v) * 2 ^ k * leadZ k p.tail u v := by
      cases p with
      | nil => simp at hp
      | cons a p =>
        rw [convR_two (V := fun q => occ q (W (k + 1) v u)) hD (occ_nil _) a p (by simp at hp; omega)]
        rw [occ_one, cnt_W, ih u v p (by simp at hp; omega), cnt_append, Int.add_comm (cnt a v), ← cnt_append]
        rfl
    have hL : conv (fun q => occ q (W (k + 1) u v) - occ q (W (k + 1) v u)) (fun q => occ q (W (k + 1) v u)) p = (occ p (W (k + 1) u v) - occ p (W (k + 1) v u)) + leadZ k p.dropLast u v * (cnt (p.getLastD 0) (u ++ v) * 2 ^ k) := by
      rcases snoc_cases p with rfl | ⟨q, a, rfl⟩
      · simp at hp
      · rw [convL_two (V := fun q => occ q (W (k + 1) v u)) hD (occ_nil _) a q (by simp at hp; omega)]
        rw [occ_one, cnt_W, ih u v q (by simp at hp; omega), cnt_append, Int.add_comm (cnt a v), ← cnt_append, List.dropLast_concat, List.getLastD_concat]
    rw [hL, hR]
    show _ = leadZ k p.dropLast u v * (cnt (p.getLastD 0) (u ++ v) * 2 ^ k) - cnt (p.headD 0) (u ++ v) * 2 ^ k * leadZ k p.tail u v
    omega
end Mine
end
section
open PySem PySem.W PyProof.Rows PySem.Calls
set_option maxRecDepth 100000
namespace Mine
theorem StrsAre.len {vs : List Value} {ys : List Str} (h : StrsAre vs ys) : vs.length = ys.length := by
  induction h with
  | nil => rfl
  | cons _ _ _ ih => simp [ih]
theorem StrsAre.at {vs : List Value} {ys : List Str} (h : StrsAre vs ys) : ∀ {i : Nat} {y : Str}, ys[i]? = some y → ∃ t, vs[i]? = some (.str y t) := by
  induction h with
  | nil => intro i y e; simp at e
  | cons y' t _ ih =>
    intro i y e
    cases i with
    | zero => simp at e; subst e; exact ⟨t, rfl⟩
    | succ i => simp at e ⊢; exact ih e
theorem IntsAre.at {vs : List Value} {ys : List Int} (h : IntsAre vs ys) : ∀ {i : Nat} {y : Int}, ys[i]? = some y → ∃ t, vs[i]? = some (.int y t) := by
  induction h with
  | nil => intro i y e; simp at e
  | cons y' t _ ih =>
    intro i y e
    cases i with
    | zero => simp at e; subst e; exact ⟨t, rfl⟩
    | succ i => simp at e ⊢; exact ih e
theorem IntsAre.len {vs : List Value} {ys : List Int} (h : IntsAre vs ys) : vs.length = ys.length := by
  induction h with
  | nil => rfl
  | cons _ _ _ ih => simp [ih]
theorem IntsAre.put {vs : List Value} {ys : List Int} (h : IntsAre vs ys) : ∀ (i : Nat) (y : Int) (t : Tok), IntsAre (vs.set i (.int y t)) (ys.set i y) := by
  induction h with
  | nil => intro i y t; exact .nil
  | cons y' t' h' ih =>
    intro i y t
    cases i with
    | zero => exact .cons _ _ h'
    | succ i => exact .cons _ _ (ih i y t)
theorem IntsAre.rep (n : Nat) (y : Int) (t : Tok) : IntsAre (List.replicate n (.int y t)) (List.replicate n y) := by
  induction n with
  | zero => exact .nil
  | succ n ih => exact .cons _ _ ih
theorem foldl_rep1 (v : Value) : ∀ (n : Nat) (acc : Array Value), List.foldl (fun x1 x2 => x1 ++ x2) acc (List.replicate n #[v]) = acc ++ (List.replicate n v).toArray
  | 0, acc => by simp
  | n + 1, acc => by
    rw [List.replicate_succ, List.foldl_cons, foldl_rep1 v n, List.replicate_succ, Array.append_assoc]
    congr 1
    simp
section
variable {prog : Program} {w : World} {A : Around} {E : Value → Shared → Prop} {s : Shared} {h₀ : Heap} {L : Addr} {m : Str → Option Value} {news : List (Addr × Obj)}
theorem len_strs {l : Addr} {vs : List Value} {n : Nat} {ys : List Str} {Q : Value → Shared → Prop} (N : News h₀ L s.heap news) (hm : (l, listOf vs.toArray n) ∈ news) (hv : StrsAre vs ys) (hb : ys.length ≤ 1048576)
    (h : Q (Value.int ys.length (s.toks + 1)) { s with toks := s.toks + 1 + 1 }) : wpAny (model prog w) A (call (.builtin "len") [.ref l]) Q E s := by
  have e : vs.toArray.size = ys.length := by rw [List.size_toArray, StrsAre.len hv]
  exact call_len_list (N.isList hm) (by rw [e]; omega) (by rw [e]; exact h)
theorem mul_one {l : Addr} {v : Value} {k : Nat} {x : Int} {u : Tok} {Q : Value → Shared → Prop} (F : Fr h₀ L s.heap m) (N : News h₀ L s.heap news) (hm : (l, listOf #[v] k) ∈ news) (hx : 0 ≤ x) (hx' : x ≤ 1048576)
    (h : ∀ d h', Fr h₀ L h' m → News h₀ L h' ((d, listOf (List.replicate x.toNat v).toArray 0) :: news) → (∀ p ∈ news, p.1 < d) → Q (.ref d) { s with heap := h' }) :
    wpAny (model prog w) A (binaryOp .Mult (.ref l) (.int x u)) Q E s := by
  refine mul_list F N (N.get hm) (by omega) (by omega) ?_ fun h' F' N' => ?_
  · show 1 * x.toNat ≤ 2 ^ 24; omega
  · refine h _ h' F' ?_ fun p hp => Heap.lt_size (N p hp).1
    have e : List.foldl (fun x1 x2 => x1 ++ x2) #[] (List.replicate (if (#[v] : Array Value).isEmpty = true then 0 else x.toNat) #[v]) = (List.replicate x.toNat v).toArray := by
      rw [if_neg (by simp), foldl_rep1]; simp
    rw [e] at N'
    exact N'
theorem add_lists {l b : Addr} {xs ys : List Value} {k j : Nat} {Q : Value → Shared → Prop} (F : Fr h₀ L s.heap m) (N : News h₀ L s.heap news) (hl : (l, listOf xs.toArray k) ∈ news) (hb : (b, listOf ys.toArray j) ∈ news) (hs : xs.length + ys.length ≤ 1048576)
    (h : ∀ d h', Fr h₀ L h' m → News h₀ L h' ((d, listOf (xs ++ ys).toArray 0) :: news) → (∀ p ∈ news, p.1 < d) → Q (.ref d) { s with heap := h' }) :
    wpAny (model prog w) A (binaryOp .Add (.ref l) (.ref b)) Q E s := by
  refine add_arrays F N (N.isList hl) (N.isList hb) (fun h' F' N' => h _ h' F' N' fun p hp => Heap.lt_size (N p hp).1) ?_
  rw [List.size_toArray, List.size_toArray, sizeLine_eq]; omega
theorem item_list {value slice : Expr} {l : Addr} {vs : List Value} {n : Nat} {k : Int} {u : Tok} {v : Value} {Q : Value → Shared → Prop}
    (N : News h₀ L s.heap news) (hm : (l, listOf vs.toArray n) ∈ news) (h0 : 0 ≤ k) (hhi : k < 2 ^ 63) (hx : vs[k.toNat]? = some v) (h : Q v s)
    (hs : subscripted slice false (.ref l) (.int k u) = operate [.ref l, .int k u] (getItem (.ref l) (.int k u)) := by with_unfolding_all rfl) :
    wpAny (model prog w) A (subscriptTail value slice (.ref l) (.int k u)) Q E s :=
  item_litK (N.isList hm) h0 hhi hx h hs
end
end Mine
end
section
open PySem PySem.W PyProof.Rows PySem.Calls PyProof.V PySem.Spec
set_option maxRecDepth 100000
namespace Mine
section
variable {prog : Program} {w : World} {A : Around} {E : Value → Shared → Prop} {s : Shared} {env : Env} {h₀ : Heap} {x : Str} {body : List Stmt} {Q : Flow → Shared → Prop} {m₀ : Str → Option Value} {news : List (Addr × Obj)}
theorem text_loop {g : List Nat} {tp : Tok} (J : List Nat → (Str → Option Value) → List (Addr × Obj) → Prop)
    (hh : A.handled = none) (F : Fr h₀ env.locals s.heap m₀) (N : News h₀ env.locals s.heap news) (hj : J [] m₀ news)
    (turn : ∀ pre c post t m₁ news₁ h tk own, g = pre ++ c :: post → news₁.map (·.1) = news.map (·.1) → OwnOff own (news.map (·.1)) → J pre m₁ news₁ → Fr h₀ env.locals h (fun y => if y = x then some (.str (tx [c]) t) else m₁ y) → News h₀ env.locals h (news₁ ++ own) →
      wpAny (model prog w) A (execs body env) (InvPostN h₀ env.locals (J (pre ++ [c])) own (news.map (·.1)) { s with heap := h, toks := tk } Q) E { s with heap := h, toks := tk })
    (done : ∀ m₁ news₁ h tk, J g m₁ news₁ → Fr h₀ env.locals h m₁ → News h₀ env.locals h news₁ → Q .next { s with heap := h, toks := tk }) :
    wpAny (model prog w) A (pyIter (.str (tx g) tp)) (fun it s₂ => LoopAtV prog w A h₀ env x body Q E it s₂) E s := by
  refine wpAny_pyIter_str fun o St hW hst => ?_
  have W := hW A hh
  have hsz : (tx g).cps.size = g.length := by simp [tx]
  rw [hsz] at W
  refine loop_invN (fun i m nx => J (g.take i) m nx) W ?_ ?_ ?_ ?_ hst (F.push _) (fun p hp => ⟨Heap.get?_push_of_some _ (N p hp).1, (N p hp).2⟩) (by simpa using hj) ?_ ?_
  · intro hm
    exact absurd F.ns.lt ((List.mem_singleton.mp hm) ▸ Nat.lt_irrefl _)
  · intro b' hb
    rw [List.mem_singleton.mp hb]
    exact next_is_new F
  · intro p hp hI
    exact absurd (Heap.lt_size (N p hp).1) ((List.mem_singleton.mp hI) ▸ Nat.lt_irrefl _)
  · intro p hp hI
    exact absurd (Heap.lt_size (N p hp).1) ((List.mem_singleton.mp hI) ▸ Nat.lt_irrefl _)
  · rintro i v m₁ nx h tk own hi ⟨n, u, hn, rfl⟩ hadr hoff hJ F₁ N₁
    have hn' : g[i]? = some n := by simpa [tx] using hn
    have hs : g.take (i + 1) = g.take i ++ [n] := by simp [List.take_add_one, hn']
    have e : g = g.take i ++ n :: g.drop (i + 1) := by
      have ht := List.take_append_drop (i + 1) g
      rw [hs, List.append_assoc] at ht
      exact ht.symm
    rw [hs]
    exact turn _ n _ u m₁ nx h tk own e hadr hoff hJ F₁ N₁
  · rintro m₁ nx h tk hJ F₁ N₁
    rw [List.take_length] at hJ
    exact done m₁ nx h tk hJ F₁ N₁
theorem down_loop {r : Addr} {n : Nat} {t₀ u₀ v₀ : Tok} (J : Nat → (Str → Option Value) → List (Addr × Obj) → Prop)
    (hh : A.handled = none) (hr : IsRange s.heap r n 0 (-1) t₀ u₀ v₀) (hn : n ≤ 1048576) (F : Fr h₀ env.locals s.heap m₀) (N : News h₀ env.locals s.heap news) (hj : J 0 m₀ news)
    (turn : ∀ i t m₁ news₁ h tk own, i < n → news₁.map (·.1) = news.map (·.1) → OwnOff own (news.map (·.1)) → J i m₁ news₁ → Fr h₀ env.locals h (fun y => if y = x then some (.int ((n - i : Nat) : Int) t) else m₁ y) → News h₀ env.locals h (news₁ ++ own) →
      wpAny (model prog w) A (execs body env) (InvPostN h₀ env.locals (J (i + 1)) own (news.map (·.1)) { s with heap := h, toks := tk } Q) E { s with heap := h, toks := tk })
    (done : ∀ m₁ news₁ h tk, J n m₁ news₁ → Fr h₀ env.locals h m₁ → News h₀ env.locals h news₁ → Q .next { s with heap := h, toks := tk }) :
    wpAny (model prog w) A (pyIter (.ref r)) (fun it s₂ => LoopAtV prog w A h₀ env x body Q E it s₂) E s := by
  have hsmall : Builtin.Range.small (n : Int) 0 (-1) = true := small_down (by omega) (by omega) (by omega) (by omega)
  have hsz : Builtin.Range.rangeSize (n : Int) 0 (-1) = (n : Int) := by rw [rangeSize_downNat]; omega
  refine wpAny_pyIter_range hr hsmall ?_
  have W : Walks prog w A s.heap.objs.size [s.heap.objs.size] [s.heap.objs.size] n (fun i v => i < n ∧ ∃ t, v = .int ((n : Int) + i * (-1)) t)
      (fun i h => IsRangeIter h s.heap.objs.size ((n : Int) + (i : Nat) * (-1)) ((n : Int) - (i : Nat)) (-1)) := (Walks.range hh _ (n : Int) (-1) n).bound
  refine loop_invN J W ?_ ?_ ?_ ?_ (by show IsRangeIter _ _ _ _ _; rw [hsz]; simpa using Heap.get?_push_size _ rfl) (F.push _) (fun p hp => ⟨Heap.get?_push_of_some _ (N p hp).1, (N p hp).2⟩) hj ?_ done
  · intro hm
    exact absurd F.ns.lt ((List.mem_singleton.mp hm) ▸ Nat.lt_irrefl _)
  · intro b hb
    rw [List.mem_singleton.mp hb]
    exact next_is_new F
  · intro p hp hI
    exact absurd (Heap.lt_size (N p hp).1) ((List.mem_singleton.mp hI) ▸ Nat.lt_irrefl _)
  · intro p hp hI
    exact absurd (Heap.lt_size (N p hp).1) ((List.mem_singleton.mp hI) ▸ Nat.lt_irrefl _)
  · rintro i v m₁ nx h tk own hi ⟨_, t, rfl⟩ hadr hoff hJ F₁ N₁
    have e1 : (n : Int) + (i : Int) * (-1) = ((n - i : Nat) : Int) := by omega
    rw [e1] at F₁
    exact turn i t m₁ nx h tk own hi hadr hoff hJ F₁ N₁
theorem up_loop {r : Addr} {n : Nat} {t₀ u₀ v₀ : Tok} (J : Nat → (Str → Option Value) → List (Addr × Obj) → Prop)
    (hh : A.handled = none) (hr : IsRange s.heap r 0 n 1 t₀ u₀ v₀) (hn : n ≤ 1048576) (F : Fr h₀ env.locals s.heap m₀) (N : News h₀ env.locals s.heap news) (hj : J 0 m₀ news)
    (turn : ∀ i t m₁ news₁ h tk own, i < n → news₁.map (·.1) = news.map (·.1) → OwnOff own (news.map (·.1)) → J i m₁ news₁ → Fr h₀ env.locals h (fun y => if y = x then some (.int (i : Int) t) else m₁ y) → News h₀ env.locals h (news₁ ++ own) →
      wpAny (model prog w) A (execs body env) (InvPostN h₀ env.locals (J (i + 1)) own (news.map (·.1)) { s with heap := h, toks := tk } Q) E { s with heap := h, toks := tk })
    (done : ∀ m₁ news₁ h tk, J n m₁ news₁ → Fr h₀ env.locals h m₁ → News h₀ env.locals h news₁ → Q .next { s with heap := h, toks := tk }) :
    wpAny (model prog w) A (pyIter (.ref r)) (fun it s₂ => LoopAtV prog w A h₀ env x body Q E it s₂) E s := by
  have hsz : Builtin.Range.rangeSize 0 (n : Int) 1 = (n : Int) := by rw [rangeSize_one]; split <;> omega
  have hsmall : Builtin.Range.small 0 (n : Int) 1 = true := small_one (by omega) (by omega) (by omega) (by omega)
  refine wpAny_pyIter_range hr hsmall ?_
  have W : Walks prog w A s.heap.objs.size [s.heap.objs.size] [s.heap.objs.size] n (fun i v => i < n ∧ ∃ t, v = .int (0 + (i : Int) * 1) t)
      (fun i h => IsRangeIter h s.heap.objs.size (0 + (i : Nat) * 1) ((n : Int) - (i : Nat)) 1) := (Walks.range hh _ 0 1 n).bound
  refine loop_invN J W ?_ ?_ ?_ ?_ (by show IsRangeIter _ _ _ _ _; rw [hsz]; simpa using Heap.get?_push_size _ rfl) (F.push _) (fun p hp => ⟨Heap.get?_push_of_some _ (N p hp).1, (N p hp).2⟩) hj ?_ done
  · intro hm
    exact absurd F.ns.lt ((List.mem_singleton.mp hm) ▸ Nat.lt_irrefl _)
  · intro b hb
    rw [List.mem_singleton.mp hb]
    exact next_is_new F
  · intro p hp hI
    exact absurd (Heap.lt_size (N p hp).1) ((List.mem_singleton.mp hI) ▸ Nat.lt_irrefl _)
  · intro p hp hI
    exact absurd (Heap.lt_size (N p hp).1) ((List.mem_singleton.mp hI) ▸ Nat.lt_irrefl _)
  · rintro i v m₁ nx h tk own hi ⟨_, t, rfl⟩ hadr hoff hJ F₁ N₁
    have e1 : (0 : Int) + (i : Int) * 1 = (i : Int) := by omega
    rw [e1] at F₁
    exact turn i t m₁ nx h tk own hi hadr hoff hJ F₁ N₁
end
end Mine
end
section
namespace Mine
def fAt (ps g : List Nat) : List Int := (List.range (ps.length + 1)).map fun j => occ (ps.take j) g
def fMix (ps g : List Nat) (c i : Nat) : List Int := (List.range (ps.length + 1)).map fun j => if ps.length - i < j then occ (ps.take j) (g ++ [c]) else occ (ps.take j) g
theorem fMix_len (ps g : List Nat) (c i : Nat) : (fMix ps g c i).length = ps.length + 1 := by simp [fMix]
theorem fAt_len (ps g : List Nat) : (fAt ps g).length = ps.length + 1 := by simp [fAt]
theorem take_snoc {ps : List Nat} {k b : Nat} (h : ps[k]? = some b) : ps.take (k + 1) = ps.take k ++ [b] := by rw [List.take_add_one, h]; rfl
theorem fAt_nil (ps : List Nat) : fAt ps [] = 1 :: List.replicate ps.length 0 := by
  unfold fAt
  rw [List.range_succ_eq_map, List.map_cons, List.map_map]
  rw [List.take_zero, occ_nil]
  congr 1
  apply List.ext_getElem
  · simp
  · intro i h1 h2
    simp at h1
    simp only [List.getElem_map, List.getElem_range, List.getElem_replicate, Function.comp]
    have : ps[i]? = some ps[i] := by simp [h1]
    rw [Nat.succ_eq_add_one, take_snoc this, occ_end]
theorem fMix_zero (ps g : List Nat) (c : Nat) : fMix ps g c 0 = fAt ps g := by
  unfold fMix fAt
  apply List.map_congr_left
  intro j hj
  have := List.mem_range.mp hj
  rw [if_neg (by omega)]
theorem fMix_full (ps g : List Nat) (c : Nat) : fMix ps g c ps.length = fAt ps (g ++ [c]) := by
  unfold fMix fAt
  apply List.map_congr_left
  intro j hj
  by_cases h : 0 < j
  · rw [if_pos (by omega)]
  · have : j = 0 := by omega
    subst this
    rw [if_neg (by omega)]
    simp [occ_nil]
theorem fMix_succ (ps g : List Nat) (c i : Nat) (hi : i < ps.length) : fMix ps g c (i + 1) = (fMix ps g c i).set (ps.length - i) (occ (ps.take (ps.length - i)) (g ++ [c])) := by
  apply List.ext_getElem
  · simp [fMix]
  · intro j h1 h2
    simp [fMix] at h1
    rw [List.getElem_set]
    simp only [fMix, List.getElem_map, List.getElem_range]
    by_cases e : ps.length - i = j
    · rw [if_pos e, if_pos (by omega), e]
    · rw [if_neg e]
      by_cases h : ps.length - i < j
      · rw [if_pos h, if_pos (by omega)]
      · rw [if_neg h, if_neg (by omega)]
theorem fMix_same (ps g : List Nat) (c i : Nat) (hi : i < ps.length) (h : occ (ps.take (ps.length - i)) (g ++ [c]) = occ (ps.take (ps.length - i)) g) : fMix ps g c (i + 1) = fMix ps g c i := by
  unfold fMix
  apply List.map_congr_left
  intro j hj
  by_cases e : ps.length - i = j
  · rw [if_pos (by omega), if_neg (by omega), ← e, h]
  · by_cases h' : ps.length - i < j
    · rw [if_pos h', if_pos (by omega)]
    · rw [if_neg h', if_neg (by omega)]
theorem fMix_at (ps g : List Nat) (c i k : Nat) (h1 : k ≤ ps.length - i) : (fMix ps g c i)[k]? = some (occ (ps.take k) g) := by
  unfold fMix
  rw [List.getElem?_map, List.getElem?_range (by omega)]
  simp only [Option.map_some]
  rw [if_neg (by omega)]
theorem occ_take (ps g : List Nat) (c k b : Nat) (h : ps[k]? = some b) : occ (ps.take (k + 1)) (g ++ [c]) = occ (ps.take (k + 1)) g + if b = c then occ (ps.take k) g else 0 := by
  rw [take_snoc h, occ_snoc]
theorem fAt_at (ps g : List Nat) (k : Nat) (h : k ≤ ps.length) : (fAt ps g)[k]? = some (occ (ps.take k) g) := by
  unfold fAt
  rw [List.getElem?_map, List.getElem?_range (by omega)]; rfl
end Mine
end
section
open PySem PySem.W PyProof.Rows PySem.Calls PyProof.V PySem.Spec
set_option maxRecDepth 100000
namespace Mine
section
variable {prog : Program} {w : World} {A : Around} {E : Value → Shared → Prop} {s : Shared} {env : Env} {h₀ : Heap} {x : Str} {body : List Stmt} {Q : Flow → Shared → Prop} {m₀ : Str → Option Value} {rest : List (Addr × Obj)} {d : Addr} {vs₀ : List Value} {n₀ : Nat}
theorem map_eq {m₁ m₀ : Str → Option Value} {x y : Str} {v : Option Value} (h : ∀ z, z ≠ x → z ≠ y → m₁ z = m₀ z) : (fun z => if z = x then v else m₁ z) = fun z => if z = x then v else if z = y then m₁ z else m₀ z := by
  funext z
  by_cases h1 : z = x
  · simp [h1]
  · by_cases h2 : z = y
    · simp [h2]
    · simp [h1, h2, h z h1 h2]
theorem map_eq1 {m₁ m₀ : Str → Option Value} {x : Str} {v : Option Value} (h : ∀ z, z ≠ x → m₁ z = m₀ z) : (fun z => if z = x then v else m₁ z) = fun z => if z = x then v else m₀ z := by
  funext z
  by_cases h1 : z = x
  · simp [h1]
  · simp [h1, h z h1]
/-- a loop over a text that turns the ints of one list and, of the frame, the names x and y alone -/
theorem text_ints {g : List Nat} {tp : Tok} {y : Str} (I : List Nat → List Int)
    (hh : A.handled = none) (F : Fr h₀ env.locals s.heap m₀) (N : News h₀ env.locals s.heap ((d, listOf vs₀.toArray n₀) :: rest)) (hj : IntsAre vs₀ (I []))
    (turn : ∀ pre c post t (u : Str → Option Value) vs n h tk own, g = pre ++ c :: post → OwnOff own (d :: rest.map (·.1)) → IntsAre vs (I pre) → Fr h₀ env.locals h (fun z => if z = x then some (.str (tx [c]) t) else if z = y then u z else m₀ z) → News h₀ env.locals h ((d, listOf vs.toArray n) :: (rest ++ own)) →
      wpAny (model prog w) A (execs body env) (InvPostN h₀ env.locals (fun m' nx => ∃ vs' n', nx = (d, listOf vs'.toArray n') :: rest ∧ IntsAre vs' (I (pre ++ [c])) ∧ ∀ z, z ≠ x → z ≠ y → m' z = m₀ z) own (d :: rest.map (·.1)) { s with heap := h, toks := tk } Q) E { s with heap := h, toks := tk })
    (done : ∀ (u : Str → Option Value) vs n h tk, IntsAre vs (I g) → Fr h₀ env.locals h (fun z => if z = x then u z else if z = y then u z else m₀ z) → News h₀ env.locals h ((d, listOf vs.toArray n) :: rest) → Q .next { s with heap := h, toks := tk }) :
    wpAny (model prog w) A (pyIter (.str (tx g) tp)) (fun it s₂ => LoopAtV prog w A h₀ env x body Q E it s₂) E s := by
  refine text_loop (fun pre m' nx => ∃ vs' n', nx = (d, listOf vs'.toArray n') :: rest ∧ IntsAre vs' (I pre) ∧ ∀ z, z ≠ x → z ≠ y → m' z = m₀ z) hh F N ⟨_, _, rfl, hj, fun _ _ _ => rfl⟩ ?_ ?_
  · rintro pre c post t m₁ nx h tk own e _ hoff ⟨vs, n, rfl, hi, hm⟩ F₁ N₁
    rw [map_eq hm] at F₁
    exact turn pre c post t m₁ vs n h tk own e hoff hi F₁ N₁
  · rintro m₁ nx h tk ⟨vs, n, rfl, hi, hm⟩ F₁ N₁
    refine done m₁ vs n h tk hi ?_ N₁
    have em : (fun z => if z = x then m₁ z else if z = y then m₁ z else m₀ z) = m₁ := by
      funext z
      by_cases h1 : z = x
      · simp [h1]
      · by_cases h2 : z = y
        · simp [h2]
        · simp [h1, h2, hm z h1 h2]
    rw [em]; exact F₁
theorem down_ints {r : Addr} {n : Nat} {t₀ u₀ v₀ : Tok} (I : Nat → List Int)
    (hh : A.handled = none) (hr : IsRange s.heap r n 0 (-1) t₀ u₀ v₀) (hn : n ≤ 1048576) (F : Fr h₀ env.locals s.heap m₀) (N : News h₀ env.locals s.heap ((d, listOf vs₀.toArray n₀) :: rest)) (hj : IntsAre vs₀ (I 0))
    (turn : ∀ i t vs k h tk own, i < n → OwnOff own (d :: rest.map (·.1)) → IntsAre vs (I i) → Fr h₀ env.locals h (fun z => if z = x then some (.int ((n - i : Nat) : Int) t) else m₀ z) → News h₀ env.locals h ((d, listOf vs.toArray k) :: (rest ++ own)) →
      wpAny (model prog w) A (execs body env) (InvPostN h₀ env.locals (fun m' nx => ∃ vs' n', nx = (d, listOf vs'.toArray n') :: rest ∧ IntsAre vs' (I (i + 1)) ∧ ∀ z, z ≠ x → m' z = m₀ z) own (d :: rest.map (·.1)) { s with heap := h, toks := tk } Q) E { s with heap := h, toks := tk })
    (done : ∀ (u : Str → Option Value) vs k h tk, IntsAre vs (I n) → Fr h₀ env.locals h (fun z => if z = x then u z else m₀ z) → News h₀ env.locals h ((d, listOf vs.toArray k) :: rest) → Q .next { s with heap := h, toks := tk }) :
    wpAny (model prog w) A (pyIter (.ref r)) (fun it s₂ => LoopAtV prog w A h₀ env x body Q E it s₂) E s := by
  refine down_loop (fun i m' nx => ∃ vs' n', nx = (d, listOf vs'.toArray n') :: rest ∧ IntsAre vs' (I i) ∧ ∀ z, z ≠ x → m' z = m₀ z) hh hr hn F N ⟨_, _, rfl, hj, fun _ _ => rfl⟩ ?_ ?_
  · rintro i t m₁ nx h tk own hi _ hoff ⟨vs, k, rfl, hI, hm⟩ F₁ N₁
    rw [map_eq1 hm] at F₁
    exact turn i t vs k h tk own hi hoff hI F₁ N₁
  · rintro m₁ nx h tk ⟨vs, k, rfl, hI, hm⟩ F₁ N₁
    refine done m₁ vs k h tk hI ?_ N₁
    have em : (fun z => if z = x then m₁ z else m₀ z) = m₁ := by
      funext z
      by_cases h1 : z = x
      · simp [h1]
      · simp [h1, hm z h1]
    rw [em]; exact F₁
end
section
variable {h₀ : Heap} {L d : Addr} {m' m₀ : Str → Option Value} {rest own : List (Addr × Obj)} {vs' : List Value} {n' : Nat} {I' : List Int} {x y : Str} {s₁ : Shared} {h' : Heap} {tk : Nat} {Q : Flow → Shared → Prop}
theorem down_end (F : Fr h₀ L h' m') (N : News h₀ L h' ((d, listOf vs'.toArray n') :: (rest ++ own))) (hi : IntsAre vs' I') (hm : ∀ z, z ≠ x → m' z = m₀ z) :
    InvPostN h₀ L (fun m' nx => ∃ vs' n', nx = (d, listOf vs'.toArray n') :: rest ∧ IntsAre vs' I' ∧ ∀ z, z ≠ x → m' z = m₀ z) own (d :: rest.map (·.1)) s₁ Q .next { s₁ with heap := h', toks := tk } :=
  ⟨h', tk, m', _, _, rfl, F, N, (fun p hp => by rcases List.mem_cons.mp hp with rfl | hp; exact .head _; exact .tail _ (List.mem_append_left _ hp)), (fun p hp => .tail _ (List.mem_append_right _ hp)), rfl, _, _, rfl, hi, hm⟩
theorem text_end (F : Fr h₀ L h' m') (N : News h₀ L h' ((d, listOf vs'.toArray n') :: (rest ++ own))) (hi : IntsAre vs' I') (hm : ∀ z, z ≠ x → z ≠ y → m' z = m₀ z) :
    InvPostN h₀ L (fun m' nx => ∃ vs' n', nx = (d, listOf vs'.toArray n') :: rest ∧ IntsAre vs' I' ∧ ∀ z, z ≠ x → z ≠ y → m' z = m₀ z) own (d :: rest.map (·.1)) s₁ Q .next { s₁ with heap := h', toks := tk } :=
  ⟨h', tk, m', _, _, rfl, F, N, (fun p hp => by rcases List.mem_cons.mp hp with rfl | hp; exact .head _; exact .tail _ (List.mem_append_left _ hp)), (fun p hp => .tail _ (List.mem_append_right _ hp)), rfl, _, _, rfl, hi, hm⟩
end
theorem allLt_to {d : Addr} : ∀ {l : List (Addr × Obj)}, AllLt d l → ∀ p ∈ l, p.1 < d
  | [], _, _, h => nomatch h
  | p :: l, h, q, hq => by
    rcases List.mem_cons.mp hq with rfl | hq
    · exact h.1
    · exact allLt_to h.2 q hq
theorem news_sub {h₀ h : Heap} {L : Addr} {p : Addr × Obj} {rest k : List (Addr × Obj)} (N : News h₀ L h (p :: rest)) (hs : ∀ q ∈ k, q ∈ rest) : News h₀ L h (p :: k) := fun q hq => by
  rcases List.mem_cons.mp hq with rfl | hq
  · exact N _ (.head _)
  · exact N q (.tail _ (hs q hq))
local macro_rules | `(tactic| k_mem) => `(tactic| assumption)
local macro_rules | `(tactic| k_all) => `(tactic| assumption)
local macro_rules | `(tactic| walk_at "call builtin:len") => `(tactic| (k_here; k_dflt (refine' len_strs ?k1 ?k2 ?k3 ?k4 ?_; (case k1 => k_asm); (case k2 => k_mem); (case k3 => with_reducible assumption); (case k4 => (simp only [List.length_map]; omega)); k_whole)))
local macro_rules | `(tactic| walk_at "binaryOp Mult ref int") => `(tactic| (k_here; k_dflt (refine' mul_one ?k1 ?k2 ?k3 ?k4 ?k5 ?_; (case k1 => k_asm); (case k2 => k_asm); (case k3 => k_mem); (case k4 => omega); (case k5 => (simp only [List.length_map]; omega)); k_whole); intro d' h' F' N' l1; (try k_lt l1)))
local macro_rules | `(tactic| walk_at "binaryOp Add ref ref") => `(tactic| (k_here; k_dflt (refine' add_lists ?k1 ?k2 ?k3 ?k4 ?k5 ?_; (case k1 => k_asm); (case k2 => k_asm); (case k3 => k_mem); (case k4 => k_mem); (case k5 => (simp only [List.length_map, List.length_replicate, List.length_cons, List.length_nil]; omega)); k_whole); intro d' h' F' N' l1; (try k_lt l1)))
local macro_rules | `(tactic| walk_at "exec For Name Name") => `(tactic| (k_here; k_dflt ((rename Fr _ _ _ _ => lF'); (with_unfolding_all refine' For_invVF lF' ?k1 ?k2 ?_; (case k1 => exact rfl); (case k2 => exact rfl); k_whole))))
local macro_rules | `(tactic| walk_at "exec For Name Call") => `(tactic| (k_here; k_dflt ((rename Fr _ _ _ _ => lF'); (with_unfolding_all refine' For_invVF lF' ?k1 ?k2 ?_; (case k1 => exact rfl); (case k2 => exact rfl); k_whole))))
local macro_rules | `(tactic| walk_at "subscriptTail") => `(tactic| (k_here; (with_reducible show wpAny _ _ (subscriptTail _ _ (Value.ref _) (Value.int _ _)) _ _ _); k_dflt (refine' item_list ?k1 ?k2 ?k3 ?k4 ?k5 ?_ ?k7; (case k1 => k_asm); (case k2 => k_mem); (case k3 => omega); (case k4 => omega); (case k5 => assumption); (case k7 => with_unfolding_all rfl); k_whole)))
local macro_rules | `(tactic| walk_at "subscriptTail Name Name ref int") => `(tactic| (k_here; k_dflt (refine' item_list ?k1 ?k2 ?k3 ?k4 ?k5 ?_ ?k7; (case k1 => k_asm); (case k2 => k_mem); (case k3 => omega); (case k4 => omega); (case k5 => assumption); (case k7 => with_unfolding_all rfl); k_whole)))
local macro_rules | `(tactic| walk_at "subscriptTail Name BinOp ref int") => `(tactic| (k_here; k_dflt (refine' item_list ?k1 ?k2 ?k3 ?k4 ?k5 ?_ ?k7; (case k1 => k_asm); (case k2 => k_mem); (case k3 => omega); (case k4 => omega); (case k5 => assumption); (case k7 => with_unfolding_all rfl); k_whole)))
local macro_rules | `(tactic| walk_at "call ref") => `(tactic| (k_here; k_dflt (refine' use71 (add_ok _ _ _ _ _ _ _) ?k1 ?k2 ?k3 ?k4 ?k5 ?k6 ?k7 ?k8 ?_; (case k1 => k_asm); (case k2 => k_asm); (case k3 => k_asm); (case k4 => k_asm); (case k5 => k_asm); (case k6 => exact rfl); (case k7 => ktr_room); (case k8 => ktr_units); k_whole); intro r' n' h' tk' hp' F' N'; obtain ⟨e1', t', e2'⟩ := hp'; subst e1'; subst e2'))
local macro_rules | `(tactic| walk_at "setItem ref int") => `(tactic| (k_here; k_dflt (refine' ksa_set ?k1 ?k2 ?k3 ?k4 ?k5 ?k6 ?k7 ?_; (case k1 => k_asm); (case k2 => k_asm); (case k3 => k_upd); (case k4 => with_reducible assumption); (case k5 => omega); (case k6 => omega); (case k7 => omega); k_whole); intro h' F' N' hi' hl' hs'))
set_option maxHeartbeats 8000000 in
theorem found_ok (w : World) (ps g : List Nat) (l : Addr) (vs : List Value) (n : Nat) (tp : Tok) (hvs : StrsAre vs (ps.map fun c => tx [c])) (hp : ps.length ≤ 10) (news : List (Addr × Obj)) (hm : (l, listOf vs.toArray n) ∈ news) (h₀ : Heap) :
    Call71 2 84 [.ref l, .str (tx g) tp] news h₀ (fun r news' => ∃ l' vs' n', r = .ref l' ∧ news' = (l', listOf vs'.toArray n') :: news ∧ IntsAre vs' (fAt ps g)) w := by
  unfold Call71 prog71
  k_fill
  intro mean mg mb dp un gd cn cs a ccd cl outer A₀ base L m s Q E B F X N T hk hd hu hret
  refine wpAny_call ?_
  k_dflt ktr_enter
  repeat' ((fail_if_success (with_reducible show wpAny _ _ (pyIter _) _ _ _)); first | (k_unfold; (try dsimp only)) | walk1 | (dsimp only; walk1))
  rename_i d h1 l1 h2 FF NN
  have hlt : ∀ p ∈ news, p.1 < d := allLt_to (by obtain ⟨_, _, _, q⟩ := l1; exact q)
  clear l1
  replace NN := news_sub NN (k := news) (by intro p hp; (repeat first | exact hp | refine List.mem_cons_of_mem _ ?_))
  refine text_ints (y := Str.ofString "place") (fAt ps) rfl FF NN ?_ ?_ ?_
  · rw [fAt_nil]
    refine .cons _ _ ?_
    simp only [List.length_map, Int.toNat_natCast]
    exact IntsAre.rep _ _ _
  · clear FF NN
    intro pre c post t u vs' n' h tk own hg hoff hi F1 N1
    have hm1 := List.mem_append_left own hm
    try k_fold
    repeat' ((fail_if_success (with_reducible show wpAny _ _ (pyIter _) _ _ _)); first | (k_unfold; (try dsimp only)) | walk1 | (dsimp only; walk1))
    rename_i hr FR NR hkeep
    clear hkeep
    simp only [List.length_map] at hr
    refine down_ints (fMix ps pre c) rfl hr (by omega) FR NR (by rw [fMix_zero]; exact hi) ?_ ?_
    · clear FR NR
      intro i t2 vs2 k2 h3 tk2 own2 hin hoff2 hi2 F2 N2
      have hm2 := List.mem_append_left own2 hm1
      obtain ⟨b, hb⟩ : ∃ b, ps[ps.length - i - 1]? = some b := ⟨ps[ps.length - i - 1], by simp⟩
      obtain ⟨tb, hvb⟩ := StrsAre.at hvs (i := ps.length - i - 1) (y := tx [b]) (by simp [hb])
      have e1 : vs[((((ps.length - i : Nat) : Int)) - 1).toNat]? = some (.str (tx [b]) tb) := by rw [show ((((ps.length - i : Nat) : Int)) - 1).toNat = ps.length - i - 1 by omega]; exact hvb
      obtain ⟨t3, hf3⟩ := IntsAre.at hi2 (i := ps.length - i) (fMix_at ps pre c i _ (Nat.le_refl _))
      have e2 : vs2[(((ps.length - i : Nat) : Int)).toNat]? = some (.int (occ (ps.take (ps.length - i)) pre) t3) := by rw [Int.toNat_natCast]; exact hf3
      obtain ⟨t4, hf4⟩ := IntsAre.at hi2 (i := ps.length - i - 1) (fMix_at ps pre c i _ (by omega))
      have e3 : vs2[((((ps.length - i : Nat) : Int)) - 1).toNat]? = some (.int (occ (ps.take (ps.length - i - 1)) pre) t4) := by rw [show ((((ps.length - i : Nat) : Int)) - 1).toNat = ps.length - i - 1 by omega]; exact hf4
      clear hf3 hf4 hvb
      have hocc := occ_take ps pre c _ b hb
      have hkk : ps.length - i - 1 + 1 = ps.length - i := by omega
      rw [hkk] at hocc
      have hne : ∀ p ∈ news ++ own ++ own2, p.1 ≠ d := by
        intro p hp
        rcases List.mem_append.mp hp with hp | hp
        · rcases List.mem_append.mp hp with hp | hp
          · exact Nat.ne_of_lt (hlt p hp)
          · exact hoff p hp d (.head _)
        · exact hoff2 p hp d (.head _)
      have hsz : (fMix ps pre c i).length = ps.length + 1 := fMix_len ..
      try k_fold
      repeat' ((fail_if_success (with_reducible show InvPostN _ _ _ _ _ _ _ _ _)); first | (k_unfold; (try dsimp only)) | walk1 | (dsimp only; walk1))
      · refine down_end (by k_asm) (by k_asm) ?_ (fun z hz => if_neg hz)
        rename (tx [_] == tx [_]) = true => hbc
        rename IntsAre (List.set _ _ _) _ => hi3
        have hbc' : b = c := by have := tx_inj.mp (eq_of_beq hbc); simpa using this
        rw [if_pos hbc'] at hocc
        rw [fMix_succ ps pre c i hin, hocc]
        rw [Int.toNat_natCast] at hi3
        exact hi3
      · refine down_end (by k_asm) (by k_asm) ?_ (fun z hz => if_neg hz)
        rename_i hbc
        have hbc' : ¬ b = c := by intro e; subst e; simp at hbc
        rw [if_neg hbc', Int.add_zero] at hocc
        rw [fMix_same ps pre c i hin hocc]
        exact hi2
    · clear FR NR
      intro u2 vs2 k2 h3 tk2 hi2 F2 N2
      rw [fMix_full] at hi2
      try k_fold
      repeat' ((fail_if_success (with_reducible show InvPostN _ _ _ _ _ _ _ _ _)); first | (k_unfold; (try dsimp only)) | walk1 | (dsimp only; walk1))
      exact text_end (by k_asm) (by k_asm) hi2 (fun z h1 h2 => by simp only [if_neg h1, if_neg h2])
  · clear FF NN
    intro u vs2 k2 h3 tk2 hi2 F2 N2
    try k_fold
    repeat' (first | (k_unfold; (try dsimp only)) | walk1 | (dsimp only; walk1))
    exact hret _ _ _ _ ⟨_, _, _, rfl, rfl, hi2⟩ (by k_asm) (by k_asm)
end Mine
end
section
open PySem PySem.W PyProof.Rows PySem.Calls
set_option maxRecDepth 100000
namespace Mine
theorem cnt_old (c : Nat) (l : List Nat) : PyProof.Rows.cnt c l = cnt c l := by
  induction l with
  | nil => rfl
  | cons n r ih =>
    rw [PyProof.Rows.cnt_cons, ih]
    unfold cnt
    rw [List.count_cons]
    by_cases h : n = c
    · simp [h]; omega
    · simp [h]
theorem count_tx (l : List Nat) (c : Nat) : Txt.count (tx l) (tx [c]) = cnt c l := (count_cnt (tx l) c).trans (cnt_old c l)
theorem cnt_le (c : Nat) (l : List Nat) : 0 ≤ cnt c l ∧ cnt c l ≤ l.length := by
  unfold cnt
  have := List.count_le_length (a := c) (l := l)
  omega
def rep (n : Nat) (l : List Nat) : List Nat := (List.replicate n l).flatten
theorem cnt_rep (c n : Nat) (l : List Nat) : cnt c (rep n l) = cnt c l * n := by
  induction n with
  | zero => simp [rep, cnt]
  | succ n ih =>
    unfold rep at ih ⊢
    rw [List.replicate_succ, List.flatten_cons, cnt_append, ih]
    rw [Int.natCast_succ, Int.mul_add]; omega
theorem rep_len (n : Nat) (l : List Nat) : (rep n l).length = n * l.length := by
  unfold rep
  induction n with
  | zero => simp
  | succ n ih => rw [List.replicate_succ, List.flatten_cons, List.length_append, ih, Nat.succ_mul]; omega
theorem foldl_rep (l : List Nat) : ∀ (n : Nat) (acc : Array Nat), (List.replicate n l.toArray).foldl (· ++ ·) acc = acc ++ (rep n l).toArray
  | 0, acc => by simp [rep]
  | n + 1, acc => by
    rw [List.replicate_succ, List.foldl_cons, foldl_rep l n]
    simp [rep, List.replicate_succ, Array.append_assoc]
theorem mul_tx (l : List Nat) (n : Nat) : Txt.mul (tx l) n = tx (rep n l) := by
  unfold Txt.mul
  by_cases h1 : (n : Int) < 1
  · rw [if_pos h1]
    have : n = 0 := by omega
    subst this; rfl
  · rw [if_neg h1]
    by_cases h2 : ((n : Int) == 1 || (tx l).length == 0) = true
    · rw [if_pos h2]
      rcases Bool.or_eq_true_iff.mp h2 with h | h
      · have : n = 1 := by have := eq_of_beq h; omega
        subst this; simp [rep]
      · have h' : l.length = 0 := by have := eq_of_beq h; rwa [tx_length] at this
        have : l = [] := List.length_eq_zero_iff.mp h'
        subst this
        have : rep n [] = [] := by
          apply List.length_eq_zero_iff.mp
          rw [rep_len]; simp
        rw [this]
    · rw [if_neg h2]
      show Str.mk ((List.replicate (n : Int).toNat l.toArray).foldl (· ++ ·) #[]) = tx (rep n l)
      rw [Int.toNat_natCast, foldl_rep]
      simp [tx]
theorem StrsAre.drop : ∀ {vs : List Value} {ns : List Str}, StrsAre vs ns → ∀ k : Nat, StrsAre (vs.drop k) (ns.drop k)
  | _, _, h, 0 => h
  | _, _, .nil, _ + 1 => .nil
  | _, _, .cons _ _ h, k + 1 => StrsAre.drop h k
theorem StrsAre.take : ∀ {vs : List Value} {ns : List Str}, StrsAre vs ns → ∀ k : Nat, StrsAre (vs.take k) (ns.take k)
  | _, _, _, 0 => .nil
  | _, _, .nil, _ + 1 => .nil
  | _, _, .cons n t h, k + 1 => .cons n t (StrsAre.take h k)
section
variable {prog : Program} {w : World} {A : Around} {E : Value → Shared → Prop} {s : Shared} {h₀ : Heap} {L : Addr} {m : Str → Option Value} {news : List (Addr × Obj)}
theorem call_count {l : List Nat} {c : Nat} {t u : Tok} {Q : Value → Shared → Prop} (h : 0 ≤ cnt c l → cnt c l ≤ l.length → Q (.int (cnt c l) s.toks) { s with toks := s.toks + 1 }) :
    wpAny (model prog w) A (call (.builtin "str.count") [.str (tx l) t, .str (tx [c]) u]) Q E s :=
  SC.count (by rw [count_tx]; exact h (cnt_le c l).1 (cnt_le c l).2)
theorem mul_text {l : List Nat} {n : Int} {t u : Tok} {Q : Value → Shared → Prop} (hl : l.length ≤ 1000) (h0 : 0 ≤ n) (hn : n ≤ 1000) (h : ∀ t' k, Q (.str (tx (rep n.toNat l)) t') { s with toks := k }) :
    wpAny (model prog w) A (binaryOp .Mult (.str (tx l) t) (.int n u)) Q E s := by
  refine SB.mul (mulOk_of 1000 1000 (by rw [tx_length]; exact hl) (by omega) (by omega) (by decide) (by decide)) fun t' k => ?_
  have e : n = (n.toNat : Int) := by omega
  rw [e, mul_tx]
  exact h t' k
theorem item_back {value slice : Expr} {l : Addr} {vs : List Value} {n : Nat} {u : Tok} {v : Value} {Q : Value → Shared → Prop}
    (N : News h₀ L s.heap news) (hm : (l, listOf vs.toArray n) ∈ news) (hb : vs.length ≤ 1048576) (h1 : 1 ≤ vs.length) (hx : vs[vs.length - 1]? = some v) (h : Q v s)
    (hs : subscripted slice false (.ref l) (.int (-1) u) = operate [.ref l, .int (-1) u] (getItem (.ref l) (.int (-1) u)) := by with_unfolding_all rfl) :
    wpAny (model prog w) A (subscriptTail value slice (.ref l) (.int (-1) u)) Q E s := by
  refine tail_any (N.isList hm).typeIs slot_list_getitem.lookup (wpAny_getItem_list_neg (x := v) (N.isList hm) ?_ ?_ ?_ ?_ h) hs
  · decide
  · rw [List.size_toArray]; omega
  · decide
  · rw [List.size_toArray, show ((-1 : Int) + (vs.length : Int)).toNat = vs.length - 1 by omega]
    simpa using hx
theorem cut_list {value slice : Expr} {l : Addr} {vs : List Value} {n : Nat} {vl vu : Value} {lo hi : Option Int} {Q : Value → Shared → Prop}
    (F : Fr h₀ L s.heap m) (N : News h₀ L s.heap news) (hm : (l, listOf vs.toArray n) ∈ news) (pl : IsPart vl lo) (pu : IsPart vu hi) (hb : vs.length ≤ 1048576)
    (h : ∀ d h', Fr h₀ L h' m → News h₀ L h' ((d, listOf ((vs.drop (lo.elim 0 (clipAt vs.length))).take (hi.elim vs.length (clipAt vs.length) - lo.elim 0 (clipAt vs.length))).toArray 0) :: news) → (∀ p ∈ news, p.1 < d) → Q (.ref d) { s with heap := h' })
    (hs : subscripted slice false (.ref l) (.ref s.heap.objs.size) = operate [.ref s.heap.objs.size, .ref l] (getItem (.ref l) (.ref s.heap.objs.size)) := by with_unfolding_all rfl)
    (ht : ∀ r, letTemporaryGo value (.ref l) r = pure () := by intro _; with_unfolding_all rfl) :
    wpAny (model prog w) A (subscriptTail value slice (.ref l) (.ref s.heap.objs.size)) Q E { s with heap := s.heap.push { cls := .type "slice", data := .fields #[vl, vu, .none] } } := by
  refine slice_list F N (N.isList hm) pl pu (fun h' F' N' => ?_) hs ht (by rw [List.size_toArray, sizeLine_eq]; omega)
  rw [slicePick_plain] at N'
  simp only [List.size_toArray] at N'
  exact h _ h' F' N' fun p hp => Nat.lt_succ_of_lt (Heap.lt_size (N p hp).1)
end
end Mine
end
section
open PySem PySem.W PyProof.Rows PySem.Calls
set_option maxRecDepth 100000
namespace Mine
section
variable {prog : Program} {w : World} {A : Around} {E : Value → Shared → Prop} {s : Shared} {h₀ : Heap} {L : Addr} {m : Str → Option Value} {news : List (Addr × Obj)}
theorem add_tx {u v : List Nat} {t t' : Tok} {Q : Value → Shared → Prop} (hs : u.length + v.length ≤ 1048576) (h : ∀ t' k, Q (.str (tx (u ++ v)) t') { s with toks := k }) :
    wpAny (model prog w) A (binaryOp .Add (.str (tx u) t) (.str (tx v) t')) Q E s := by
  refine SBL.add (fun t' k => ?_) (by simp only [tx_length, sizeLine_eq]; omega)
  rw [tx_append]; exact fun _ => h t' k
theorem cut_back {value slice : Expr} {l : Addr} {vs : List Value} {n : Nat} {u : Tok} {ps : List Nat} {Q : Value → Shared → Prop}
    (F : Fr h₀ L s.heap m) (N : News h₀ L s.heap news) (hm : (l, listOf vs.toArray n) ∈ news) (hv : StrsAre vs (ps.map fun c => tx [c])) (hb : ps.length ≤ 1048576)
    (h : ∀ d h' ws, StrsAre ws (ps.dropLast.map fun c => tx [c]) → Fr h₀ L h' m → News h₀ L h' ((d, listOf ws.toArray 0) :: news) → (∀ p ∈ news, p.1 < d) → Q (.ref d) { s with heap := h' })
    (hs : subscripted slice false (.ref l) (.ref s.heap.objs.size) = operate [.ref s.heap.objs.size, .ref l] (getItem (.ref l) (.ref s.heap.objs.size)) := by with_unfolding_all rfl)
    (ht : ∀ r, letTemporaryGo value (.ref l) r = pure () := by intro _; with_unfolding_all rfl) :
    wpAny (model prog w) A (subscriptTail value slice (.ref l) (.ref s.heap.objs.size)) Q E { s with heap := s.heap.push { cls := .type "slice", data := .fields #[.none, .int (-1) u, .none] } } := by
  have hlen : vs.length = ps.length := by rw [StrsAre.len hv, List.length_map]
  refine cut_list F N hm .none (.int (-1) u) (by omega) (fun d h' F' N' l1 => ?_) hs ht
  refine h d h' _ ?_ F' N' l1
  have := StrsAre.take (StrsAre.drop hv 0) (clipAt vs.length (-1) - 0)
  show StrsAre ((vs.drop 0).take (clipAt vs.length (-1) - 0)) _
  rw [show clipAt vs.length (-1) = vs.length - 1 from clipAt_neg vs.length 1 (Nat.le_refl 1)] at this ⊢
  rw [List.dropLast_eq_take, List.map_take, ← hlen]
  simpa using this
theorem cut_front {value slice : Expr} {l : Addr} {vs : List Value} {n : Nat} {u : Tok} {ps : List Nat} {Q : Value → Shared → Prop}
    (F : Fr h₀ L s.heap m) (N : News h₀ L s.heap news) (hm : (l, listOf vs.toArray n) ∈ news) (hv : StrsAre vs (ps.map fun c => tx [c])) (hb : ps.length ≤ 1048576)
    (h : ∀ d h' ws, StrsAre ws (ps.tail.map fun c => tx [c]) → Fr h₀ L h' m → News h₀ L h' ((d, listOf ws.toArray 0) :: news) → (∀ p ∈ news, p.1 < d) → Q (.ref d) { s with heap := h' })
    (hs : subscripted slice false (.ref l) (.ref s.heap.objs.size) = operate [.ref s.heap.objs.size, .ref l] (getItem (.ref l) (.ref s.heap.objs.size)) := by with_unfolding_all rfl)
    (ht : ∀ r, letTemporaryGo value (.ref l) r = pure () := by intro _; with_unfolding_all rfl) :
    wpAny (model prog w) A (subscriptTail value slice (.ref l) (.ref s.heap.objs.size)) Q E { s with heap := s.heap.push { cls := .type "slice", data := .fields #[.int 1 u, .none, .none] } } := by
  have hlen : vs.length = ps.length := by rw [StrsAre.len hv, List.length_map]
  refine cut_list F N hm (.int 1 u) .none (by omega) (fun d h' F' N' l1 => ?_) hs ht
  refine h d h' _ ?_ F' N' l1
  have := StrsAre.drop hv 1
  have e : (vs.drop (clipAt vs.length 1)).take (vs.length - clipAt vs.length 1) = vs.drop 1 := by
    rw [show clipAt vs.length 1 = min 1 vs.length from clipAt_nat vs.length 1]
    rcases Nat.eq_zero_or_pos vs.length with h0 | h0
    · have : vs = [] := List.length_eq_zero_iff.mp h0
      subst this; rfl
    · rw [Nat.min_eq_left h0]
      exact List.take_of_length_le (by simp)
  show StrsAre ((vs.drop (clipAt vs.length 1)).take (vs.length - clipAt vs.length 1)) _
  rw [e, ← List.drop_one, List.map_drop]
  exact this
end
local macro_rules | `(tactic| k_mem) => `(tactic| assumption)
theorem len_strsZ {prog : Program} {w : World} {A : Around} {E : Value → Shared → Prop} {s : Shared} {h₀ : Heap} {L : Addr} {news : List (Addr × Obj)} {l : Addr} {vs : List Value} {n : Nat} {z : Int} {Q : Value → Shared → Prop} (N : News h₀ L s.heap news) (hm : (l, listOf vs.toArray n) ∈ news) (hz : (vs.length : Int) = z) (hb : z ≤ 1048576)
    (h : Q (Value.int z (s.toks + 1)) { s with toks := s.toks + 1 + 1 }) : wpAny (model prog w) A (call (.builtin "len") [.ref l]) Q E s := by
  have e : (vs.toArray.size : Int) = z := by rw [List.size_toArray, hz]
  exact call_len_list (N.isList hm) (by omega) (by rw [e]; exact h)
local macro_rules | `(tactic| walk_at "call builtin:len") => `(tactic| (k_here; k_dflt (refine' len_strsZ ?k1 ?k2 ?k3 ?k4 ?_; (case k1 => k_asm); (case k2 => k_mem); (case k3 => assumption); (case k4 => omega); k_whole)))
local macro_rules | `(tactic| walk_at "subscriptTail Name Constant ref int") => `(tactic| (k_here; k_dflt (refine' item_list ?k1 ?k2 ?k3 ?k4 ?k5 ?_ ?k7; (case k1 => k_asm); (case k2 => k_mem); (case k3 => decide); (case k4 => decide); (case k5 => first | exact rfl | assumption); (case k7 => with_unfolding_all rfl); k_whole)))
local macro_rules | `(tactic| walk_at "call builtin:str.count") => `(tactic| (k_here; k_dflt (refine' call_count ?_); intro hc0 hc1))
local macro_rules | `(tactic| walk_at "binaryOp Add str str") => `(tactic| (k_here; k_dflt (refine' add_tx ?k1 ?_; (case k1 => omega); k_whole); intro t' k'))
set_option maxHeartbeats 8000000 in
theorem lead_zero (w : World) (ps u v : List Nat) (l : Addr) (vs : List Value) (n : Nat) (tu tv : Tok) (hp : ps.length = 0 + 2) (hvs : StrsAre vs (ps.map fun c => tx [c])) (hu1 : u.length ≤ 100) (hv1 : v.length ≤ 100) (news : List (Addr × Obj)) (hm : (l, listOf vs.toArray n) ∈ news) (h₀ : Heap) :
    Call71 (0 + 1) 91 [.ref l, .str (tx u) tu, .str (tx v) tv] news h₀ (fun r news' => news' = news ∧ ∃ t, r = .int (leadZ 0 ps u v) t) w := by
  match ps, hp with
  | [c0, c1], _ =>
  unfold Call71 prog71
  k_fill
  intro mean mg mb dp un gd cn cs a ccd cl outer A₀ base L m s Q E B F X N T hk hd hu hret
  obtain ⟨t0, t1, rfl⟩ : ∃ t0 t1, vs = [.str (tx [c0]) t0, .str (tx [c1]) t1] := by
    cases hvs with
    | cons _ t0 h => cases h with
      | cons _ t1 h => cases h; exact ⟨_, _, rfl⟩
  have hlen : (([Value.str (tx [c0]) t0, .str (tx [c1]) t1] : List Value).length : Int) = 2 := rfl
  refine wpAny_call ?_
  k_dflt ktr_enter
  k_steps
  exact hret _ _ _ _ ⟨rfl, _, rfl⟩ (by k_asm) (by k_asm)
local macro_rules | `(tactic| walk_at "binaryOp Mult str int") => `(tactic| (k_here; k_dflt (refine' mul_text ?k1 ?k2 ?k3 ?_; (case k1 => (simp only [List.length_append]; omega)); (case k2 => omega); (case k3 => omega); k_whole); intro t' k'))
local macro_rules | `(tactic| walk_at "subscriptTail Name Slice ref ref") => `(tactic| (k_here; k_dflt (first
  | (refine' cut_back (s := ⟨_, _, _, _, _⟩) ?k1 ?k2 ?k3 ?k4 ?k5 ?_ ?k6 ?k7; (case k1 => k_asm); (case k2 => k_asm); (case k3 => k_mem); (case k4 => with_reducible assumption); (case k5 => omega); (case k6 => with_unfolding_all rfl); (case k7 => (intro _; with_unfolding_all rfl)); k_whole)
  | (refine' cut_front (s := ⟨_, _, _, _, _⟩) ?k1 ?k2 ?k3 ?k4 ?k5 ?_ ?k6 ?k7; (case k1 => k_asm); (case k2 => k_asm); (case k3 => k_mem); (case k4 => with_reducible assumption); (case k5 => omega); (case k6 => with_unfolding_all rfl); (case k7 => (intro _; with_unfolding_all rfl)); k_whole)); intro d' h' ws' hS' F' N' l1))
local macro_rules | `(tactic| walk_at "subscriptTail Name UnaryOp ref int") => `(tactic| (k_here; k_dflt (refine' item_back ?k1 ?k2 ?k3 ?k4 ?k5 ?_ ?k7; (case k1 => k_asm); (case k2 => k_mem); (case k3 => omega); (case k4 => omega); (case k5 => assumption); (case k7 => with_unfolding_all rfl); k_whole)))
set_option maxHeartbeats 8000000 in
theorem lead_succ (w : World) (k : Nat) (hk5 : k ≤ 4)
    (ih : ∀ (ps u v : List Nat) (l : Addr) (vs : List Value) (n : Nat) (tu tv : Tok), ps.length = k + 2 → StrsAre vs (ps.map fun c => tx [c]) → u.length ≤ 100 → v.length ≤ 100 → ∀ (news : List (Addr × Obj)), (l, listOf vs.toArray n) ∈ news → ∀ (h₀ : Heap),
      Call71 (k + 1) 91 [.ref l, .str (tx u) tu, .str (tx v) tv] news h₀ (fun r news' => news' = news ∧ ∃ t, r = .int (leadZ k ps u v) t) w)
    (ps u v : List Nat) (l : Addr) (vs : List Value) (n : Nat) (tu tv : Tok) (hp : ps.length = k + 1 + 2) (hvs : StrsAre vs (ps.map fun c => tx [c])) (hu1 : u.length ≤ 100) (hv1 : v.length ≤ 100) (news : List (Addr × Obj)) (hm : (l, listOf vs.toArray n) ∈ news) (h₀ : Heap) :
    Call71 (k + 1 + 1) 91 [.ref l, .str (tx u) tu, .str (tx v) tv] news h₀ (fun r news' => news' = news ∧ ∃ t, r = .int (leadZ (k + 1) ps u v) t) w := by
  unfold Call71 prog71
  k_fill
  intro mean mg mb dp un gd cn cs a ccd cl outer A₀ base L m s Q E B F X N T hk hd hu hret
  have hvl : vs.length = ps.length := by rw [StrsAre.len hvs, List.length_map]
  have hlen : (vs.length : Int) = k + 3 := by omega
  obtain ⟨t0, e0⟩ := StrsAre.at hvs (i := 0) (y := tx [ps.headD 0]) (by cases ps with | nil => simp at hp | cons c ps => rfl)
  have e0' : vs[(0 : Int).toNat]? = some (.str (tx [ps.headD 0]) t0) := e0
  obtain ⟨t1, e1⟩ := StrsAre.at hvs (i := vs.length - 1) (y := tx [ps.getLastD 0]) (by
    rcases snoc_cases ps with h | ⟨q, c, h⟩
    · rw [h] at hp; simp at hp
    · rw [hvl, h]; simp)
  have hpow : (2 : Int) ^ ((k : Int) + 3 - 3).toNat = 2 ^ k := by rw [show ((k : Int) + 3 - 3).toNat = k by omega]
  have hpow2 : (2 : Int) ^ ((k : Int) + 3 - 3).toNat ≤ 16 ∧ 0 ≤ (2 : Int) ^ ((k : Int) + 3 - 3).toNat := by
    rw [hpow]
    match k, hk5 with
    | 0, _ | 1, _ | 2, _ | 3, _ | 4, _ => decide
  have hrl : (rep ((2 : Int) ^ ((k : Int) + 3 - 3).toNat).toNat (u ++ v)).length ≤ 3200 := by
    rw [rep_len, List.length_append]
    have h1 : ((2 : Int) ^ ((k : Int) + 3 - 3).toNat).toNat ≤ 16 := by omega
    have h2 : u.length + v.length ≤ 200 := by omega
    exact Nat.mul_le_mul h1 h2
  refine wpAny_call ?_
  k_dflt ktr_enter
  repeat' ((fail_if_success (with_reducible show wpAny _ _ (call (Value.ref 91) _) _ _ _)); first | (k_unfold; (try dsimp only)) | walk1 | (dsimp only; walk1))
  · exfalso; omega
  · rename_i d1 h1 ws1 hS1 F1 N1 l1
    refine use71 (ih ps.dropLast u v d1 ws1 0 tu tv (by rw [List.length_dropLast]; omega) hS1 hu1 hv1 _ (.head _) _) (by k_asm) F1 (by k_asm) N1 (by k_asm) rfl (by ktr_room) (by ktr_units) ?_
    clear F1 N1
    rintro r n2 h2 tk2 ⟨rfl, t2, rfl⟩ F2 N2
    have hm2 := List.mem_cons_of_mem (d1, listOf ws1.toArray 0) hm
    try k_fold
    repeat' ((fail_if_success (with_reducible show wpAny _ _ (call (Value.ref 91) _) _ _ _)); first | (k_unfold; (try dsimp only)) | walk1 | (dsimp only; walk1))
    rename_i d3 h3 ws3 hS3 F3 N3 l3
    refine use71 (ih ps.tail u v d3 ws3 0 tu tv (by rw [List.length_tail]; omega) hS3 hu1 hv1 _ (.head _) _) (by k_asm) F3 (by k_asm) N3 (by k_asm) rfl (by ktr_room) (by ktr_units) ?_
    clear F3 N3
    rintro r n4 h4 tk4 ⟨rfl, t4, rfl⟩ F4 N4
    try k_fold
    k_steps
    rename_i kF kN _ _
    have he : leadZ k ps.dropLast u v * cnt (ps.getLastD 0) (rep ((2 : Int) ^ ((k : Int) + 3 - 3).toNat).toNat (u ++ v)) - cnt (ps.headD 0) (rep ((2 : Int) ^ ((k : Int) + 3 - 3).toNat).toNat (u ++ v)) * leadZ k ps.tail u v = leadZ (k + 1) ps u v := by
      have h16 : (((2 : Int) ^ ((k : Int) + 3 - 3).toNat).toNat : Int) = 2 ^ k := by rw [hpow]; exact Int.toNat_of_nonneg (by rw [← hpow]; exact hpow2.2)
      rw [cnt_rep, cnt_rep, h16]; rfl
    rw [he]
    exact hret _ _ _ _ ⟨rfl, _, rfl⟩ kF (fun p hp => kN p (.tail _ (.tail _ hp)))
theorem lead_ok (w : World) : ∀ (k : Nat), k ≤ 5 → ∀ (ps u v : List Nat) (l : Addr) (vs : List Value) (n : Nat) (tu tv : Tok), ps.length = k + 2 → StrsAre vs (ps.map fun c => tx [c]) → u.length ≤ 100 → v.length ≤ 100 → ∀ (news : List (Addr × Obj)), (l, listOf vs.toArray n) ∈ news → ∀ (h₀ : Heap),
      Call71 (k + 1) 91 [.ref l, .str (tx u) tu, .str (tx v) tv] news h₀ (fun r news' => news' = news ∧ ∃ t, r = .int (leadZ k ps u v) t) w
  | 0, _ => lead_zero w
  | k + 1, h => lead_succ w k (by omega) (lead_ok w k (by omega))
end Mine
end
section
open PySem PySem.W PyProof.Rows PySem.Calls PyProof.V PySem.Spec
set_option maxRecDepth 100000
namespace Mine
section
variable {prog : Program} {w : World} {A : Around} {E : Value → Shared → Prop} {s : Shared} {env : Env} {h₀ : Heap} {L : Addr} {x : Str} {body : List Stmt} {Q : Flow → Shared → Prop} {m₀ m : Str → Option Value} {news : List (Addr × Obj)}
/-- a loop over range(n) that keeps the ledger and, of the frame, all names but x and those stored -/
theorem up_keep {r : Addr} {n : Nat} {t₀ u₀ v₀ : Tok} (stored : List Str)
    (hh : A.handled = none) (hr : IsRange s.heap r 0 n 1 t₀ u₀ v₀) (hn : n ≤ 1048576) (F : Fr h₀ env.locals s.heap m₀) (N : News h₀ env.locals s.heap news)
    (turn : ∀ i t (u : Str → Option Value) h tk own, i < n → OwnOff own (news.map (·.1)) → Fr h₀ env.locals h (fun y => if y = x then some (.int (i : Int) t) else if stored.contains y then u y else m₀ y) → News h₀ env.locals h (news ++ own) →
      wpAny (model prog w) A (execs body env) (InvPostN h₀ env.locals (fun m' nx => nx = news ∧ ∀ z, z ≠ x → stored.contains z = false → m' z = m₀ z) own (news.map (·.1)) { s with heap := h, toks := tk } Q) E { s with heap := h, toks := tk })
    (done : ∀ (u : Str → Option Value) h tk, Fr h₀ env.locals h (fun y => if y = x then u y else if stored.contains y then u y else m₀ y) → News h₀ env.locals h news → Q .next { s with heap := h, toks := tk }) :
    wpAny (model prog w) A (pyIter (.ref r)) (fun it s₂ => LoopAtV prog w A h₀ env x body Q E it s₂) E s := by
  have eq : ∀ (m₁ : Str → Option Value) (f : Str → Option Value), (∀ z, z ≠ x → stored.contains z = false → m₁ z = m₀ z) → (fun y => if y = x then f y else m₁ y) = fun y => if y = x then f y else if stored.contains y then m₁ y else m₀ y := by
    intro m₁ f h
    funext y
    by_cases h1 : y = x
    · simp [h1]
    · rw [if_neg h1, if_neg h1]
      cases h2 : stored.contains y with
      | true => simp
      | false => simp [h y h1 h2]
  refine up_loop (fun i m' nx => nx = news ∧ ∀ z, z ≠ x → stored.contains z = false → m' z = m₀ z) hh hr hn F N ⟨rfl, fun _ _ _ => rfl⟩ ?_ ?_
  · rintro i t m₁ nx h tk own hi _ hoff ⟨rfl, hm⟩ F₁ N₁
    rw [eq m₁ (fun _ => some (.int (i : Int) t)) hm] at F₁
    exact turn i t m₁ h tk own hi hoff F₁ N₁
  · rintro m₁ nx h tk ⟨rfl, hm⟩ F₁ N₁
    refine done m₁ h tk ?_ N₁
    rw [← eq m₁ m₁ hm]
    have : (fun y => if y = x then m₁ y else m₁ y) = m₁ := by funext y; simp
    rw [this]; exact F₁
theorem keep_end {m' : Str → Option Value} {own news' : List (Addr × Obj)} {stored : List Str} {s₁ : Shared} {h' : Heap} {tk : Nat} (F : Fr h₀ L h' m') (N : News h₀ L h' news') (hn : ∀ p ∈ news, p ∈ news') (ho : ∀ p ∈ own, p ∈ news') (hm : ∀ z, z ≠ x → stored.contains z = false → m' z = m₀ z) :
    InvPostN h₀ L (fun m' nx => nx = news ∧ ∀ z, z ≠ x → stored.contains z = false → m' z = m₀ z) own (news.map (·.1)) s₁ Q .next { s₁ with heap := h', toks := tk } :=
  ⟨h', tk, m', news', news, rfl, F, N, hn, ho, rfl, rfl, hm⟩
/-- a comprehension, told item by item -/
theorem rest_all {elt : Expr} {scope : Scope} {cl : List (Str × Addr)} {S : List (Addr × Obj) → Prop} {P : Nat → Value → Prop} {Fin : List Value → List (Addr × Obj) → Prop} {n : Nat} (G : Nat → Value → Prop)
    (turn : ∀ i v I oI C oC D m₂ ys h tk (E' : Value → Shared → Prop), i < n → P i v → LCg.NsObj oC m₂ → m₂ x = some v → Fr h₀ L h m → News h₀ L h ((I, oI) :: (C, oC) :: (D, LCg.lst ys) :: news) → LCg.Off3 I C D news → ((@Ne Nat I C) ∧ (@Ne Nat I D) ∧ (@Ne Nat C D)) →
      wpAny (model prog w) A (eval elt (compEnvC scope cl C env)) (LCg.CompEnd h₀ L m { s with heap := h, toks := tk } I oI C oC D (LCg.lst ys) S (fun y news' => news' = news ∧ G i y)) E' { s with heap := h, toks := tk })
    (fin : ∀ ys, ys.length = n → (∀ i y, ys[i]? = some y → G i y) → Fin ys news) : LCg.CompRest prog w A h₀ L m env elt x scope cl s S P Fin n 0 [] news := by
  have key : ∀ (j i : Nat) (ys : List Value), i + j = n → ys.length = i → (∀ i y, ys[i]? = some y → G i y) → LCg.CompRest prog w A h₀ L m env elt x scope cl s S P Fin j i ys news := by
    intro j
    induction j with
    | zero => intro i ys hi hl hy; exact LCg.CompRest.zero (fin ys (by omega) hy)
    | succ j ih =>
      intro i ys hi hl hy
      refine LCg.CompRest.succ ?_
      intro v I oI C oC D m₂ h tk E' hv hC hx F N off ne
      refine wpAny_mono (turn i v I oI C oC D m₂ ys h tk E' (by omega) hv hC hx F N off ne) (fun y s₂ hq => ?_) fun _ _ e => e
      obtain ⟨h', tk', nw, e, F', N', off', hS, hn, hG⟩ := hq
      subst hn
      refine ⟨h', tk', nw, e, F', N', off', hS, ih (i + 1) _ (by omega) (by simp [hl]) ?_⟩
      intro k z hz
      by_cases hk : k < ys.length
      · rw [List.getElem?_append_left hk] at hz; exact hy k z hz
      · rw [List.getElem?_append_right (by omega)] at hz
        have : k - ys.length = 0 := by
          cases hkk : k - ys.length with
          | zero => rfl
          | succ q => rw [hkk] at hz; simp at hz
        rw [this] at hz
        simp at hz
        subst hz
        have : k = i := by omega
        subst this
        exact hG
  exact key n 0 [] (by omega) rfl (by intro i y h; simp at h)
theorem strs_of {g : Nat → List Nat} : ∀ {n : Nat} {ys : List Value}, ys.length = n → (∀ i y, ys[i]? = some y → ∃ t, y = Value.str (tx (g i)) t) → StrsAre ys ((List.range n).map fun i => tx (g i)) := by
  intro n
  induction n generalizing g with
  | zero => intro ys hl _; have : ys = [] := List.length_eq_zero_iff.mp hl; subst this; exact .nil
  | succ n ih =>
    intro ys hl h
    match ys, hl with
    | y :: ys, hl =>
      obtain ⟨t, e⟩ := h 0 y rfl
      subst e
      rw [List.range_succ_eq_map, List.map_cons, List.map_map]
      refine .cons _ _ ?_
      exact ih (g := fun i => g (i + 1)) (by simpa using hl) fun i y hy => h (i + 1) y (by simpa using hy)
/-- a comprehension over a text -/
theorem ListComp_T {elt iter : Expr} {px : Pos} {scope : Scope} {cl : List (Str × Addr)} {pos : Pos} {Q : Value → Shared → Prop} {xt : Str} {tt : Tok} (_F₀ : Fr h₀ L s.heap m) (_N₀ : News h₀ L s.heap news)
    (hclos : closureFor scope env = pure cl) (hcell : ∀ y ∈ scope.names, y.2 ≠ .cell) (hkind : scope.kind = .function)
    (hnames : ∀ y ∈ scope.names, y.2 = .local → scope.names.lookup y.1 = some .local) (hx : scope.names.lookup x = some .local) (hh : A.handled = none) (hsz : xt.cps.size ≤ sizeLine)
    (h : wpAny (model prog w) A (eval iter env) (fun xv s₁ => xv = .str xt tt ∧ Fr h₀ L s₁.heap m ∧ News h₀ L s₁.heap news ∧ ∀ g, LCg.CompRest prog w A h₀ L m env elt x scope cl { s₁ with heap := g } (fun _ => True) (SignAt xt) (LCg.FinE h₀ L m { s₁ with heap := g } Q) xt.cps.size 0 [] news) E s)
    (hs : ∀ x, foldedSetIterable iter env x = pure x := by intro _; rfl) :
    wpAny (model prog w) A (eval (.ListComp elt [⟨.Name x px, iter, [], 0⟩] scope pos) env) Q E s := by
  rw [eval_ListComp]
  refine wpAny_comprehension_free (use := none) rfl hs hclos hkind hnames (wpAny_mono h (fun xv s₁ h₁ => ?_) fun _ _ e => e)
  obtain ⟨rfl, F, N, R⟩ := h₁
  have up : ∀ (o' : Obj) b o, s₁.heap.get? b = some o → (s₁.heap.push o').get? b = some o := fun o' b o e => Heap.get?_push_of_some _ e
  cases ha : xt.cps.all (· < 128)
  · refine wpAny_pyIter_wide ha ?_
    refine LCg.block_U (Walks.strWide hh _ xt tt) hsz (fun i h st => by obtain ⟨o, e, _⟩ := st; exact ⟨o, e⟩) (fun i h h' o nw st e e' _ _ _ => by obtain ⟨o2, q, r⟩ := st; rw [e] at q; cases q; exact ⟨o, e', r⟩) hcell hkind hx ⟨_, Heap.get?_push_size _ rfl, rfl, rfl⟩
      (fun b hb => by rw [List.mem_singleton.mp hb]; show _ < (s₁.heap.push _).objs.size; rw [Heap.size_push]; exact Nat.lt_succ_self _)
      (F.keeps (up _)) (N.grown (up _)) (Nat.ne_of_lt F.ns.lt) (next_is_new F) (fun p hp => Nat.ne_of_lt (Heap.lt_size (N p hp).1)) trivial (R _) ?_
    intro D C h tk m' ys news' F' N' o1 hn hC₀ hD₀ hCL hDL hCD offC fin
    refine ⟨m', hn, fun h'' hs'' => fin D h'' tk (F'.change hs'' hCL hC₀) (fun p hp => ?_) o1⟩
    refine ⟨hs''.extBut _ _ ?_ (N' p hp).1, (N' p hp).2⟩
    rcases List.mem_cons.mp hp with rfl | hp
    · exact Ne.symm hCD
    · exact offC p hp
  · refine wpAny_pyIter_ascii ha ?_
    refine LCg.block_U (Walks.strAscii hh _ xt tt) hsz (fun i h st => by obtain ⟨o, e, _⟩ := st; exact ⟨o, e⟩) (fun i h h' o nw st e e' _ _ _ => by obtain ⟨o2, q, r⟩ := st; rw [e] at q; cases q; exact ⟨o, e', r⟩) hcell hkind hx ⟨_, Heap.get?_push_size _ rfl, rfl, rfl⟩
      (fun b hb => by rw [List.mem_singleton.mp hb]; show _ < (s₁.heap.push _).objs.size; rw [Heap.size_push]; exact Nat.lt_succ_self _)
      (F.keeps (up _)) (N.grown (up _)) (Nat.ne_of_lt F.ns.lt) (next_is_new F) (fun p hp => Nat.ne_of_lt (Heap.lt_size (N p hp).1)) trivial (R _) ?_
    intro D C h tk m' ys news' F' N' o1 hn hC₀ hD₀ hCL hDL hCD offC fin
    refine ⟨m', hn, fun h'' hs'' => fin D h'' tk (F'.change hs'' hCL hC₀) (fun p hp => ?_) o1⟩
    refine ⟨hs''.extBut _ _ ?_ (N' p hp).1, (N' p hp).2⟩
    rcases List.mem_cons.mp hp with rfl | hp
    · exact Ne.symm hCD
    · exact offC p hp
end
end Mine
end
section
open PySem PySem.W PyProof.Rows
set_option maxRecDepth 100000
namespace Mine
def lawDef : Stmt := (Challenge.pw_ph0071_01.main.body).getD 14 (.Pass ⟨0, 0, 0, 0⟩)
def bodyOf : Stmt → List Stmt
  | .FunctionDef _ _ b _ _ _ _ _ _ _ => b
  | _ => []
def scopeOf : Stmt → Scope
  | .FunctionDef _ _ _ _ _ _ s _ _ _ => s
  | _ => { kind := .function, names := [], isGenerator := false, isCoroutine := false }
def scX : { s : Scope // scopeOf lawDef = s } := ⟨⟨_, _, _, _, _⟩, rfl⟩
def bodyX (n : Nat) : List Stmt := (bodyOf lawDef).drop n
def b5 : { b : List Stmt // bodyX 5 = b } := ⟨_ :: _, rfl⟩
def b7 : { b : List Stmt // bodyX 7 = b } := ⟨_ :: _, rfl⟩
def b8 : { b : List Stmt // bodyX 8 = b } := ⟨_ :: _, rfl⟩
def b9 : { b : List Stmt // bodyX 9 = b } := ⟨_ :: _, rfl⟩
def b11 : { b : List Stmt // bodyX 11 = b } := ⟨_ :: _, rfl⟩
def b14 : { b : List Stmt // bodyX 14 = b } := ⟨_ :: _, rfl⟩
def b15 : { b : List Stmt // bodyX 15 = b } := ⟨_ :: _, rfl⟩
def b16 : { b : List Stmt // bodyX 16 = b } := ⟨_ :: _, rfl⟩
abbrev lawEnv (L fa : Addr) (cd : Value) : Env := envOfC (Str.ofString "law") scX.1 L fa cd
abbrev Top71 (mean : ExcName → Option Value) (mg mb : Str → Option Value) (h : Heap) : Prop := Top hd71.view_39 (looseW hd71.view_39 []) mean mg mb h
end Mine
end
section
open PySem PySem.W PyProof.Rows PySem.Calls
set_option maxRecDepth 100000
namespace Mine
theorem ints_val {vs : List Value} {ns : List Int} (h : IntsAre vs ns) : ∀ {i : Nat} {v : Value}, vs[i]? = some v → ∃ k t, v = .int k t := by
  induction h with
  | nil => intro i v e; simp at e
  | cons n t _ ih =>
    intro i v e
    cases i with
    | zero => simp at e; exact ⟨n, t, e.symm⟩
    | succ i => exact ih (by simpa using e)
theorem strs_one : ∀ {n : Nat} {ys : List Value}, ys.length = n → (∀ (i : Nat) (y : Value), ys[i]? = some y → ∃ c t, y = Value.str (tx [c]) t) → ∃ ps : List Nat, ps.length = n ∧ StrsAre ys (ps.map fun c => tx [c]) := by
  intro n
  induction n with
  | zero => intro ys hl _; have : ys = [] := List.length_eq_zero_iff.mp hl; subst this; exact ⟨[], rfl, .nil⟩
  | succ n ih =>
    intro ys hl h
    match ys, hl with
    | y :: ys, hl =>
      obtain ⟨c, t, e⟩ := h 0 y rfl
      subst e
      obtain ⟨ps, h1, h2⟩ := ih (ys := ys) (by simpa using hl) fun i y hy => h (i + 1) y (by simpa using hy)
      exact ⟨c :: ps, by simp [h1], .cons _ _ h2⟩
section
variable {prog : Program} {w : World} {A : Around} {E : Value → Shared → Prop} {s : Shared} {h₀ : Heap} {L : Addr} {m : Str → Option Value} {news : List (Addr × Obj)}
theorem len_tx {l : List Nat} {t : Tok} {Q : Value → Shared → Prop} (hb : l.length ≤ 1048576) (h : Q (.int (l.length : Nat) (s.toks + 1)) { s with toks := s.toks + 1 + 1 }) : wpAny (model prog w) A (call (.builtin "len") [.str (tx l) t]) Q E s :=
  P.len_str (by rw [tx_length]; omega) (by rw [tx_length]; exact h)
theorem mod_pos {a b : Int} {t u : Tok} {Q : Value → Shared → Prop} (hb : 0 < b) (h : ∀ k, 0 ≤ k → k < b → Q (.int k s.toks) { s with toks := s.toks + 1 }) : wpAny (model prog w) A (binaryOp .Mod (.int a t) (.int b u)) Q E s :=
  mod_int' (by omega) (h _ (fmod_lo a hb) (fmod_hi a hb))
theorem item_tx {value slice : Expr} {l : List Nat} {t u : Tok} {i : Int} {Q : Value → Shared → Prop} (h0 : 0 ≤ i) (h1 : i < (l.length : Nat)) (hb : l.length ≤ 1048576) (h : ∀ c, Q (.str (tx [c]) s.toks) { s with toks := s.toks + 1 })
    (hs : subscripted slice false (.str (tx l) t) (.int i u) = operate [.str (tx l) t, .int i u] (getItem (.str (tx l) t) (.int i u)) := by with_unfolding_all rfl)
    (ht : ∀ r, letTemporaryGo value (.str (tx l) t) r = pure () := by intro _; with_unfolding_all rfl) :
    wpAny (model prog w) A (subscriptTail value slice (.str (tx l) t) (.int i u)) Q E s :=
  item_str (fitsSsize_of (N := 9223372036854775808) (by omega) (by omega) (Int.le_refl _)) (by rw [tx_length]; omega) (by rw [tx_length]; exact h1) (fun _ => h _) hs ht
end
end Mine
end
section
open PySem PySem.W PyProof.Rows PySem.Calls PyProof.V PySem.Spec PySem.SeqAt
set_option maxRecDepth 100000
namespace Mine
theorem readsAll_of_strs {h : Heap} : ∀ {vs : List Value} {ns : List Str}, StrsAre vs ns → ReadsAll h vs (ns.map PyData.str) []
  | _, _, .nil => .nil
  | _, _, .cons k t r => by
    have := ReadsAll.cons (Reads.str (h := h) k t) (readsAll_of_strs (h := h) r)
    simpa using this
theorem reads_of_strs {h : Heap} {a : Addr} {vs : List Value} {ns : List Str} (hl : h.IsList a vs.toArray) (hi : StrsAre vs ns) : Reads h (.ref a) (.list (ns.map PyData.str)) [a] := by
  obtain ⟨o, ho, hc, n, hd⟩ := hl
  exact Reads.list ho hc hd (by simpa using readsAll_of_strs hi)
theorem canLayAll0_strs (ns : List Str) (h : ns.all PyData.strOk = true) : PyData.canLayAll0 (ns.map PyData.str) = true := by rw [canLayAll_strs']; exact h
theorem depthAll_strs : ∀ ns : List Str, PyData.depthAll (ns.map PyData.str) ≤ 1
  | [] => by simp [PyData.depthAll]
  | n :: r => by
    have := depthAll_strs r
    simp only [List.map_cons, PyData.depthAll, PyData.depth]
    omega
theorem shaped_strs (ns : List Str) (h : ns.all PyData.strOk = true) : shaped (.list (ns.map PyData.str)) = true := by
  have h1 := depthAll_strs ns
  have h2 : PyData.depth (.list (ns.map PyData.str)) ≤ 64 := by simp only [PyData.depth]; omega
  show (PyData.canLay0 (.list (ns.map PyData.str)) && decide (PyData.depth (.list (ns.map PyData.str)) ≤ 64)) = true
  rw [Bool.and_eq_true]
  exact ⟨by simp only [PyData.canLay0]; exact canLayAll0_strs ns h, decide_eq_true h2⟩
theorem noMix_strs : ∀ ns ms : List Str, noMixAll (ns.map PyData.str) (ms.map PyData.str) = true
  | [], [] => by simp [noMixAll]
  | [], _ :: _ => by simp [noMixAll]
  | _ :: _, [] => by simp [noMixAll]
  | _ :: r, _ :: q => by simp [noMixAll, noMix, noMix_strs r q]
theorem same_strs : ∀ ns : List Str, PySem.Spec.sameAll (ns.map PyData.str) (ns.map PyData.str) = true
  | [] => by simp [PySem.Spec.sameAll]
  | n :: r => by simp only [List.map_cons, PySem.Spec.sameAll, PySem.Spec.same, same_strs r]; simp
section
variable {prog : Program} {w : World} {A : Around} {E : Value → Shared → Prop} {s : Shared} {h₀ : Heap} {L : Addr} {m : Str → Option Value} {news : List (Addr × Obj)}
theorem ne_ints {a b : Addr} {vs us : List Value} {i j : Nat} {ns ms : List Int} {Q : Value → Shared → Prop} (N : News h₀ L s.heap news) (ha : (a, listOf vs.toArray i) ∈ news) (hb : (b, listOf us.toArray j) ∈ news) (hi : IntsAre vs ns) (hi' : IntsAre us ms) (e : ns = ms) (hu : A.units + 64 < cLine)
    (h : Q (.bool false) s) : wpAny (model prog w) A (compareOp .NotEq (.ref a) (.ref b)) Q E s :=
  ne_intsK (N.isList ha) hi (N.isList hb) hi' hu (by rw [decide_eq_true e]; exact h)
theorem ne_strs {a b : Addr} {vs us : List Value} {i j : Nat} {ns ms : List Str} {Q : Value → Shared → Prop} (N : News h₀ L s.heap news) (ha : (a, listOf vs.toArray i) ∈ news) (hb : (b, listOf us.toArray j) ∈ news) (hi : StrsAre vs ns) (hi' : StrsAre us ms) (e : ns = ms) (hok : ns.all PyData.strOk = true) (hu : A.units + 64 < cLine)
    (h : Q (.bool false) s) : wpAny (model prog w) A (compareOp .NotEq (.ref a) (.ref b)) Q E s := by
  subst e
  exact ne_dataH_same (reads_of_strs (N.isList ha) hi) (reads_of_strs (N.isList hb) hi') (shaped_strs ns hok) (shaped_strs ns hok) hu (by simp only [noMix]; exact noMix_strs ns ns) (by simp only [PySem.Spec.same]; rw [same_strs]; exact h)
theorem cut_backI {value slice : Expr} {l : Addr} {vs : List Value} {n : Nat} {u : Tok} {ns : List Int} {Q : Value → Shared → Prop}
    (F : Fr h₀ L s.heap m) (N : News h₀ L s.heap news) (hm : (l, listOf vs.toArray n) ∈ news) (hv : IntsAre vs ns) (hb : ns.length ≤ 1048576)
    (h : ∀ d h' ws, IntsAre ws ns.dropLast → Fr h₀ L h' m → News h₀ L h' ((d, listOf ws.toArray 0) :: news) → (∀ p ∈ news, p.1 < d) → Q (.ref d) { s with heap := h' })
    (hs : subscripted slice false (.ref l) (.ref s.heap.objs.size) = operate [.ref s.heap.objs.size, .ref l] (getItem (.ref l) (.ref s.heap.objs.size)) := by with_unfolding_all rfl)
    (ht : ∀ r, letTemporaryGo value (.ref l) r = pure () := by intro _; with_unfolding_all rfl) :
    wpAny (model prog w) A (subscriptTail value slice (.ref l) (.ref s.heap.objs.size)) Q E { s with heap := s.heap.push { cls := .type "slice", data := .fields #[.none, .int (-1) u, .none] } } := by
  have hlen : vs.length = ns.length := IntsAre.len hv
  refine cut_list F N hm .none (.int (-1) u) (by omega) (fun d h' F' N' l1 => ?_) hs ht
  refine h d h' _ ?_ F' N' l1
  have := hv.take (clipAt vs.length (-1) - 0)
  show IntsAre ((vs.drop 0).take (clipAt vs.length (-1) - 0)) _
  rw [show clipAt vs.length (-1) = vs.length - 1 from clipAt_neg vs.length 1 (Nat.le_refl 1)] at this ⊢
  rw [List.dropLast_eq_take, ← hlen]
  simpa using this
end
def okL (l : List Nat) : Bool := l.all (· < 0x110000)
theorem okL_tx {l : List Nat} (h : okL l = true) : PyData.strOk (tx l) = true := by
  unfold PyData.strOk tx
  rw [List.all_toArray]; exact h
theorem okL_append {a b : List Nat} (ha : okL a = true) (hb : okL b = true) : okL (a ++ b) = true := by unfold okL at *; rw [List.all_append, ha, hb]; rfl
theorem okL_esc {tab : Tab} (ht : (tab.all fun p => okL p.2) = true) {l : List Nat} (h : okL l = true) : okL (esc tab l) = true := by
  induction l with
  | nil => rfl
  | cons k l ih =>
    unfold okL at h
    rw [List.all_cons, Bool.and_eq_true] at h
    unfold esc at ih ⊢
    rw [List.flatMap_cons]
    refine okL_append ?_ (ih h.2)
    unfold tabAt
    cases hl : tab.lookup k with
    | none => simp [okL]; simpa using h.1
    | some v =>
      simp only [Option.getD_some]
      clear ih
      induction tab with
      | nil => simp at hl
      | cons p t ih =>
        obtain ⟨a, b⟩ := p
        rw [List.all_cons, Bool.and_eq_true] at ht
        rw [List.lookup_cons] at hl
        cases hk : (k == a) with
        | true => rw [hk] at hl; simp at hl; subst hl; exact ht.1
        | false => rw [hk] at hl; exact ih ht.2 hl
theorem fAt_same {k : Nat} {u v ps : List Nat} (h : ps.length = k + 1) : (fAt ps (W k u v)).dropLast = (fAt ps (W k v u)).dropLast := by
  unfold fAt
  rw [List.range_succ, List.map_append, List.map_append, List.map_singleton, List.map_singleton, List.dropLast_concat, List.dropLast_concat]
  apply List.map_congr_left
  intro j hj
  have := List.mem_range.mp hj
  exact W_same k u v _ (by rw [List.length_take]; omega)
theorem fAt_last {ps g : List Nat} {vs : List Value} (h : IntsAre vs (fAt ps g)) : ∃ t, vs[vs.length - 1]? = some (.int (occ ps g) t) := by
  have hl := IntsAre.len h
  rw [fAt_len] at hl
  refine IntsAre.at h ?_
  rw [show vs.length - 1 = ps.length by omega, fAt_at ps g _ (Nat.le_refl _), List.take_length]
end Mine
end
section
open PySem PySem.W PyProof.Rows
set_option maxRecDepth 100000
namespace Mine
/-- a mark: the walk stands behind the two tables of counts -/
structure FoundHere : Prop where
  here : True
theorem contains4 {a b c d z : Str} (h : [a, b, c, d].contains z = false) : z ≠ a ∧ z ≠ b ∧ z ≠ c ∧ z ≠ d := by
  simp at h
  exact h
local macro_rules | `(tactic| walk_at "exec For Name Call") => `(tactic| (k_here; k_dflt ((rename Fr _ _ _ _ => lF'); (with_unfolding_all refine' For_invVF lF' ?k1 ?k2 ?_ ?k3 ?k4; (case k1 => exact rfl); (case k2 => exact rfl); (case k3 => (intro _; rfl)); (case k4 => first | assumption | passes_own); k_whole))))
local macro_rules | `(tactic| walk_at "exec For Name Call cons nil") => `(tactic| (k_here; k_dflt ((rename Fr _ _ _ _ => lF'); (with_unfolding_all refine' For_invVF lF' ?k1 ?k2 ?_ ?k3 ?k4; (case k1 => exact rfl); (case k2 => exact rfl); (case k3 => (intro _; rfl)); (case k4 => first | assumption | passes_own); k_whole))))
local macro_rules | `(tactic| walk_at "call builtin:len") => `(tactic| (k_here; k_dflt (refine' len_tx ?k1 ?_; (case k1 => (simp only [List.length_append]; omega)); k_whole)))
local macro_rules | `(tactic| walk_at "binaryOp Mod int int") => `(tactic| (k_here; k_dflt (refine' mod_pos ?k1 ?_; (case k1 => (simp only [List.length_append]; omega)); k_whole); intro k' hk0' hk1'))
local macro_rules | `(tactic| walk_at "subscriptTail Name BinOp str int") => `(tactic| (k_here; k_dflt (refine' item_tx ?k1 ?k2 ?k3 ?_ ?k4 ?k5; (case k1 => assumption); (case k2 => assumption); (case k3 => (simp only [List.length_append]; omega)); (case k4 => with_unfolding_all rfl); (case k5 => (intro _; with_unfolding_all rfl)); k_whole); intro c'))
local macro_rules | `(tactic| walk_at "subscriptTail Name Constant ref int") => `(tactic| (k_here; k_dflt (refine' item_list ?k1 ?k2 ?k3 ?k4 ?k5 ?_ ?k7; (case k1 => k_asm); (case k2 => k_mem); (case k3 => decide); (case k4 => decide); (case k5 => exact rfl); (case k7 => with_unfolding_all rfl); k_whole)))
local macro_rules | `(tactic| walk_at "subscriptTail Name UnaryOp ref int") => `(tactic| (k_here; k_dflt (refine' item_back ?k1 ?k2 ?k3 ?k4 ?k5 ?_ ?k7; (case k1 => k_asm); (case k2 => k_mem); (case k3 => omega); (case k4 => omega); (case k5 => assumption); (case k7 => with_unfolding_all rfl); k_whole)))
local macro_rules | `(tactic| walk_at "subscriptTail Name Slice ref ref") => `(tactic| (k_here; (rename FoundHere => fh'); k_dflt (refine' cut_backI (s := ⟨_, _, _, _, _⟩) ?k1 ?k2 ?k3 ?k4 ?k5 ?_ ?k6 ?k7; (case k1 => k_asm); (case k2 => k_asm); (case k3 => k_mem); (case k4 => with_reducible assumption); (case k5 => (simp only [fAt_len]; omega)); (case k6 => with_unfolding_all rfl); (case k7 => (intro _; with_unfolding_all rfl)); k_whole); intro d' h' ws' hS' F' N' l1'))
local macro_rules | `(tactic| walk_at "compareOp NotEq ref ref") => `(tactic| (k_here; (rename FoundHere => fh'); k_dflt (refine' ne_ints ?k1 ?k2 ?k3 ?k4 ?k5 ?k6 ?k7 ?_; (case k1 => k_asm); (case k2 => k_mem); (case k3 => k_mem); (case k4 => with_reducible assumption); (case k5 => with_reducible assumption); (case k6 => assumption); (case k7 => units_room); k_whole)))
local macro_rules | `(tactic| walk_at "call ref") => `(tactic| (k_here; k_dflt (refine' use71 (sub_ok _ _ _ _ _ _ _) ?k1 ?k2 ?k3 ?k4 ?k5 ?k6 ?k7 ?k8 ?_; (case k1 => k_asm); (case k2 => k_asm); (case k3 => k_asm); (case k4 => k_asm); (case k5 => k_asm); (case k6 => exact rfl); (case k7 => ktr_room); (case k8 => ktr_units); k_whole); intro r' n' h' tk' hp' F' N'; obtain ⟨e1', t', e2'⟩ := hp'; subst e1'; subst e2'))
set_option maxHeartbeats 8000000 in
theorem stage16 (w : World) (mean : ExcName → Option Value) (mg mb : Str → Option Value) (h₀ base : Heap) (L fa : Addr) (cd : Value) (s : Shared) (m : Str → Option Value) (Q : Flow → Shared → Prop) (E : Value → Shared → Prop)
    (r : Nat) (u v : List Nat) (D lw : Addr) (dv : List Value) (dr : List Int) (dn wn : Nat) (t1 t2 t3 t4 tr tl : Tok) (oS oG oN oT oL : Obj)
    (hE : PassesOwn (model Challenge.rw_ph0071_01.row.prog w) (callerA.deeper (lawEnv L fa cd)) (lawEnv L fa cd) E)
    (B : Below callerA base [] h₀) (X : (hd71.heap_39 w.params).In h₀) (T : Top71 mean mg mb h₀) (hL : L = h₀.objs.size)
    (F : Fr h₀ L s.heap (fun y => if y = Str.ofString "written" then some (.ref lw) else if y = Str.ofString "first" then some (.str (tx u) t1) else if y = Str.ofString "second" then some (.str (tx v) t2) else if y = Str.ofString "rounds" then some (.int r tr) else if y = Str.ofString "drawn" then some (.ref D) else m y))
    (N : News h₀ L s.heap [(lw, listOf [Value.str (tx (W r u v)) t3, .str (tx (W r v u)) t4].toArray wn), (D, listOf dv.toArray dn), (L + 1 + 1 + 1 + 1 + 1, oL)])
    (hoL : oL.data = Data.cell (some (.str (tx (u ++ v)) tl)))
    (hdr : IntsAre dv dr) (hdl : dr.length = 12) (hr1 : 1 ≤ r) (hr3 : r ≤ 3) (hu : 1 ≤ u.length) (hu1 : u.length ≤ 100) (hv1 : v.length ≤ 100)
    (hend : ∀ h' tk m', Fr h₀ L h' m' → Q (.ret (.bool true)) { s with heap := h', toks := tk }) :
    wpAny (model Challenge.rw_ph0071_01.row.prog w) (callerA.deeper (lawEnv L fa cd)) (execs b16.1 (lawEnv L fa cd)) Q E s := by
  dsimp only [b16, scX, lawEnv]
  revert X
  k_fill
  intro X
  try k_fold
  repeat' ((fail_if_success (with_reducible show wpAny _ _ (pyIter _) _ _ _)); first | (k_unfold; (try dsimp only)) | walk1 | (dsimp only; walk1))
  rename_i hr FR NR hkeep
  clear hkeep
  have hdv : (dv.length : Int) = 12 := by have := IntsAre.len hdr; omega
  refine up_keep (n := 4) [Str.ofString "places", Str.ofString "part", Str.ofString "found", Str.ofString "beside"] rfl hr (by decide) FR NR ?_ ?_
  · clear hr FR NR
    intro i t uu h tk own hi hoff F1 N1
    simp only [List.cons_append, List.nil_append] at N1
    try k_fold
    repeat' ((fail_if_success (with_reducible show wpAny _ _ (exec (Stmt.Assign _ (Expr.ListComp _ _ _ _) _) _) _ _ _)); first | (k_unfold; (try dsimp only)) | walk1 | (dsimp only; walk1))
    k_dflt (refine LCg.Assign_ListComp_U (F₀ := by k_asm) (by rfl) (by with_unfolding_all rfl) (by with_unfolding_all rfl) (by decide) (by rfl) (by decide) (by rfl) (by rfl) (by rfl) ?_)
    repeat' ((fail_if_success (with_reducible show LCg.CompSrc _ _ _ _ _ _ _ _ _ _ _ _ _ _)); first | (k_unfold; (try dsimp only)) | walk1 | (dsimp only; walk1))
    rename_i l1 _ _ _ D1 ws h1 F1 N1 hI _ _ hlt
    have hwl : ws.length = r + 1 := by
      rw [IntsAre.len hI, List.length_take]
      simp; omega
    k_dflt (refine LCg.CompSrc.ledger rfl F1 N1 (.head _) (by rw [List.size_toArray, sizeLine_eq]; omega) ?_)
    intro gg
    refine rest_all (fun _ y => ∃ c t, y = .str (tx [c]) t) ?_ ?_
    · clear F1 N1
      intro j v I oI C oC D2 m2 ys h2 tk2 E2 hj hP hC hx F2 N2 off ne
      obtain ⟨kk, tkk, rfl⟩ : ∃ k t, v = .int k t := by
        exact ints_val hI (i := j) (by simpa using hP)
      repeat' ((fail_if_success (with_reducible show LCg.CompEnd _ _ _ _ _ _ _ _ _ _ _ _ _ _)); first | (k_unfold; (try dsimp only)) | walk1 | (dsimp only; walk1))
      exact LCg.CompEnd.intro F2 N2 _ (fun _ h => h) off (.inr ⟨_, .head _, rfl, _, rfl⟩) ⟨rfl, _, _, rfl⟩
    · intro ys hyl hys
      obtain ⟨ps, hpl, hps⟩ := strs_one hyl hys
      rw [List.size_toArray, hwl] at hpl
      unfold LCg.FinA
      intro D3 h3 tk3 F3 N3 off3
      clear F1 N1
      clear off3
      obtain ⟨k, rfl⟩ : ∃ k, r = k + 1 := ⟨r - 1, by omega⟩
      have hsame := fAt_same (u := u) (v := v) hpl
      have hlead := W_lead k u v ps (by omega)
      try k_fold
      repeat' ((fail_if_success (with_reducible show wpAny _ _ (call (Value.ref 84) _) _ _ _)); first | (k_unfold; (try dsimp only)) | walk1 | (dsimp only; walk1))
      refine use71 (found_ok w ps (W (k + 1) u v) D3 ys ys.length t3 hps (by omega) _ (.head _) _) B F3 X N3 T rfl (by ktr_room) (by ktr_units) ?_
      clear F3 N3
      rintro rr n4 h4 tk4 ⟨l4, vs4, k4, rfl, rfl, hi4⟩ F4 N4
      try k_fold
      repeat' ((fail_if_success (with_reducible show wpAny _ _ (call (Value.ref 84) _) _ _ _)); first | (k_unfold; (try dsimp only)) | walk1 | (dsimp only; walk1))
      rename Fr _ _ _ _ => F5
      rename News _ _ _ _ => N5
      refine use71 (found_ok w ps (W (k + 1) v u) D3 ys ys.length t4 hps (by omega) _ (.tail _ (.head _)) _) B F5 X N5 T rfl (by ktr_room) (by ktr_units) ?_
      clear F5 N5
      rintro rr n6 h6 tk6 ⟨l6, vs6, k6, rfl, rfl, hi6⟩ F6 N6
      have hfl4 : vs4.length = k + 3 := by rw [IntsAre.len hi4, fAt_len]; omega
      have hfl6 : vs6.length = k + 3 := by rw [IntsAre.len hi6, fAt_len]; omega
      obtain ⟨t7, e7⟩ := fAt_last hi4
      obtain ⟨t8, e8⟩ := fAt_last hi6
      have fh : FoundHere := ⟨trivial⟩
      try k_fold
      repeat' ((fail_if_success (with_reducible show wpAny _ _ (call (Value.ref 91) _) _ _ _)); first | (k_unfold; (try dsimp only)) | walk1 | (dsimp only; walk1))
      rename Fr _ _ _ _ => F9
      rename News _ _ _ _ => N9
      refine use71 (lead_ok w k (by omega) ps u v D3 ys ys.length t1 t2 (by omega) hps hu1 hv1 _ (by k_mem) _) B F9 X N9 T rfl (by ktr_room) (by ktr_units) ?_
      clear F9 N9
      rintro rr n10 h10 tk10 ⟨rfl, t10, rfl⟩ F10 N10
      rw [← hlead]
      try k_fold
      repeat' ((fail_if_success (with_reducible show InvPostN _ _ _ _ _ _ _ _ _)); first | (k_unfold; (try dsimp only)) | walk1 | (dsimp only; walk1))
      · rename _ ≠ _ => hne
        exact absurd rfl hne
      · refine keep_end F10 N10 ?_ ?_ ?_
        · intro p hp
          iterate 7 refine List.mem_cons_of_mem _ ?_
          exact List.mem_append_left own hp
        · intro p hp
          iterate 10 refine List.mem_cons_of_mem _ ?_
          exact hp
        · intro z h1 h2
          obtain ⟨q1, q2, q3, q4⟩ := contains4 h2
          simp only [if_neg q1, if_neg q2, if_neg q3, if_neg q4, if_neg h1, h2]
          rfl
  · clear hr FR NR
    intro uu h tk F1 N1
    try k_fold
    repeat' (first | (k_unfold; (try dsimp only)) | walk1 | (dsimp only; walk1))
    exact hend _ _ _ F1
end Mine
end
section
open PySem PySem.W PyProof.Rows PySem.Calls PyProof.V PySem.Spec
set_option maxRecDepth 100000
namespace Mine
theorem fr_put {h₀ h : Heap} {L : Addr} {m : Str → Option Value} {x : Str} {v : Value} (F : Fr h₀ L h m) (e : m x = some v) : Fr h₀ L h (fun y => if y = x then some v else m y) := by
  have : (fun y => if y = x then some v else m y) = m := by
    funext y
    by_cases hy : y = x
    · rw [if_pos hy, hy, e]
    · rw [if_neg hy]
  rw [this]; exact F
section
variable {prog : Program} {w : World} {A : Around} {E : Value → Shared → Prop} {s : Shared} {env : Env} {h₀ : Heap} {x : Str} {body : List Stmt} {Q : Flow → Shared → Prop} {m₀ : Str → Option Value} {news : List (Addr × Obj)}
def GrowEnd (h₀ : Heap) (L : Addr) (J : (Str → Option Value) → List (Addr × Obj) → Prop) (I : Addr) (oI : Obj) (s₁ : Shared) (Q : Flow → Shared → Prop) (f : Flow) (s₂ : Shared) : Prop :=
  match f with
  | .ret v => Q (.ret v) s₂
  | .brk => Q .next s₂
  | _ => ∃ h' tk m' news', s₂ = { s₁ with heap := h', toks := tk } ∧ Fr h₀ L h' m' ∧ News h₀ L h' ((I, oI) :: news') ∧ (∀ p ∈ news', p.1 ≠ I) ∧ J m' news'
/-- a loop over range(n) whose turns may make things that stay -/
theorem up_grow {r : Addr} {n : Nat} {t₀ u₀ v₀ : Tok} (J : Nat → (Str → Option Value) → List (Addr × Obj) → Prop)
    (hh : A.handled = none) (hr : IsRange s.heap r 0 n 1 t₀ u₀ v₀) (hn : n ≤ 1048576) (F : Fr h₀ env.locals s.heap m₀) (N : News h₀ env.locals s.heap news) (hj : J 0 m₀ news)
    (turn : ∀ i t m₁ news₁ h tk I oI, i < n → (∀ p ∈ news₁, p.1 ≠ I) → J i m₁ news₁ → Fr h₀ env.locals h (fun y => if y = x then some (.int (i : Int) t) else m₁ y) → News h₀ env.locals h ((I, oI) :: news₁) →
      wpAny (model prog w) A (execs body env) (GrowEnd h₀ env.locals (J (i + 1)) I oI { s with heap := h, toks := tk } Q) E { s with heap := h, toks := tk })
    (done : ∀ m₁ news₁ h tk, J n m₁ news₁ → Fr h₀ env.locals h m₁ → News h₀ env.locals h news₁ → Q .next { s with heap := h, toks := tk }) :
    wpAny (model prog w) A (pyIter (.ref r)) (fun it s₂ => LoopAtV prog w A h₀ env x body Q E it s₂) E s := by
  have hsz : Builtin.Range.rangeSize 0 (n : Int) 1 = (n : Int) := by rw [rangeSize_one]; split <;> omega
  have hsmall : Builtin.Range.small 0 (n : Int) 1 = true := small_one (by omega) (by omega) (by omega) (by omega)
  refine wpAny_pyIter_range hr hsmall ?_
  have W : Walks prog w A s.heap.objs.size [s.heap.objs.size] [s.heap.objs.size] n (fun i v => i < n ∧ ∃ t, v = .int (0 + (i : Int) * 1) t)
      (fun i h => IsRangeIter h s.heap.objs.size (0 + (i : Nat) * 1) ((n : Int) - (i : Nat)) 1) := (Walks.range hh _ 0 1 n).bound
  refine ⟨_, _, _, n, _, _, m₀, news, J, rfl, W, ?_, ?_, ?_, (by show IsRangeIter _ _ _ _ _; rw [hsz]; simpa using Heap.get?_push_size _ rfl), F.push _, (fun p hp => ⟨Heap.get?_push_of_some _ (N p hp).1, (N p hp).2⟩), hj, ?_, ?_⟩
  · intro hm
    exact absurd F.ns.lt ((List.mem_singleton.mp hm) ▸ Nat.lt_irrefl _)
  · intro b hb
    rw [List.mem_singleton.mp hb]
    exact next_is_new F
  · intro p hp hI
    exact absurd (Heap.lt_size (N p hp).1) ((List.mem_singleton.mp hI) ▸ Nat.lt_irrefl _)
  · rintro i v m₁ news₁ s₁ own ⟨hh', tk', rfl⟩ hin ⟨_, t, rfl⟩ hJ hoff hown hownAt hownAll hst F₁ N₁
    have e1 : (0 : Int) + (i : Int) * 1 = (i : Int) := by omega
    rw [e1] at F₁
    obtain ⟨oI, hI⟩ : ∃ oI, hh'.get? s.heap.objs.size = some oI := ⟨_, hst⟩
    have hIn := hownAll s.heap.objs.size (List.mem_singleton.mpr rfl) (next_is_new F) _ hI
    have hne : ∀ p ∈ news₁, p.1 ≠ s.heap.objs.size := fun p hp e => hoff p hp (List.mem_singleton.mpr e)
    have N₂ : News h₀ env.locals hh' ((s.heap.objs.size, oI) :: news₁) := fun p hp => by
      rcases List.mem_cons.mp hp with rfl | hp
      · exact N₁ _ (List.mem_append_left _ hIn)
      · exact N₁ p (List.mem_append_right _ hp)
    refine wpAny_mono (turn i t m₁ news₁ hh' tk' _ _ hin hne hJ F₁ N₂) (fun f s₂ p => ?_) fun _ _ e => e
    have fin : (∃ h' tk m' news', s₂ = { s with heap := h', toks := tk } ∧ Fr h₀ env.locals h' m' ∧ News h₀ env.locals h' ((s.heap.objs.size, oI) :: news') ∧ (∀ p ∈ news', p.1 ≠ s.heap.objs.size) ∧ J (i + 1) m' news') → LoopStepU h₀ env.locals [s.heap.objs.size] own (J (i + 1)) { s with heap := hh', toks := tk' } .next s₂ := by
      rintro ⟨h', tk, m', news', e, F', N', hne', hm⟩
      refine ⟨rfl, h', tk, m', news', e, F', fun p hp => ?_, fun p hp hq => hne' p hp (List.mem_singleton.mp hq), hm⟩
      rcases List.mem_append.mp hp with hp | hp
      · have h1 : p.1 = s.heap.objs.size := List.mem_singleton.mp (hown p hp)
        have h2 := hownAt p hp
        have h3 : p = (s.heap.objs.size, oI) := by
          obtain ⟨p1, p2⟩ := p
          simp only at h1 h2
          subst h1
          have h4 : hh'.get? s.heap.objs.size = some p2 := h2
          rw [hI] at h4
          rw [Option.some.inj h4]
        rw [h3]
        exact N' _ (.head _)
      · exact N' p (.tail _ hp)
    cases f with
    | ret v => exact .ret p
    | brk => exact .brk p
    | next => exact .next (fin p)
    | cont => exact .cont (fin p)
  · rintro h' tk m' news' F' N' _ hJ
    exact done m' news' h' tk hJ F' N'
end
end Mine
end
section
open PySem PySem.W PyProof.Rows
set_option maxRecDepth 100000
namespace Mine
theorem if_keep {m : Str → Option Value} {g : Str → Option Value} {x : Str} {v : Value} (hg : ∀ y, g y = m y) (e : m x = some v) : ∀ y, (if y = x then some v else g y) = m y := by
  intro y
  by_cases hy : y = x
  · rw [if_pos hy, hy, e]
  · rw [if_neg hy]; exact hg y
theorem fr_put5 {h₀ h : Heap} {L : Addr} {m : Str → Option Value} {x1 x2 x3 x4 x5 : Str} {v1 v2 v3 v4 v5 : Value} (F : Fr h₀ L h m) (e1 : m x1 = some v1) (e2 : m x2 = some v2) (e3 : m x3 = some v3) (e4 : m x4 = some v4) (e5 : m x5 = some v5) :
    Fr h₀ L h (fun y => if y = x1 then some v1 else if y = x2 then some v2 else if y = x3 then some v3 else if y = x4 then some v4 else if y = x5 then some v5 else m y) := by
  rw [funext (if_keep (if_keep (if_keep (if_keep (if_keep (fun _ => rfl) e5) e4) e3) e2) e1)]; exact F
theorem W_len (k : Nat) : ∀ u v, (W k u v).length + (W k v u).length = 2 ^ k * (u.length + v.length) := by
  induction k with
  | zero => intro u v; simp [W]
  | succ k ih =>
    intro u v
    show (W k u v ++ W k v u).length + (W k v u ++ W k u v).length = _
    rw [List.length_append, List.length_append, Nat.pow_succ]
    have := ih u v
    rw [Nat.mul_comm (2 ^ k) 2, Nat.mul_assoc, ← this]; omega
theorem esc_W (tab : Tab) (k : Nat) : ∀ u v, esc tab (W k u v) = W k (esc tab u) (esc tab v) := by
  induction k with
  | zero => intro u v; rfl
  | succ k ih => intro u v; show esc tab (W k u v ++ W k v u) = _; rw [esc_append, ih, ih]; rfl
theorem okL_W (k : Nat) : ∀ {u v : List Nat}, okL u = true → okL v = true → okL (W k u v) = true := by
  induction k with
  | zero => intro u v hu _; exact hu
  | succ k ih => intro u v hu hv; exact okL_append (ih hu hv) (ih hv hu)
/-- the escape at f writes by the table tab -/
structure EscFn (w : World) (f : Addr) (tab : Tab) : Prop where
  keep : keepIn (hd71.heap_39 w.params) (.ref f) = true
  ok : ∀ (l : List Nat) (tt : Tok), l.length ≤ 1000 → ∀ (news : List (Addr × Obj)) (h₀ : Heap), Call71 1 f [.str (tx l) tt] news h₀ (fun r news' => news' = news ∧ ∃ t, r = .str (tx (esc tab l)) t) w
  okc : (tab.all fun p => okL p.2) = true
  len : (tab.all fun p => decide (p.2.length ≤ 6)) = true
  pos : (tab.all fun p => decide (1 ≤ p.2.length)) = true
theorem esc_pos {tab : Tab} (h : (tab.all fun p => decide (1 ≤ p.2.length)) = true) {l : List Nat} (hl : 1 ≤ l.length) : 1 ≤ (esc tab l).length := by
  match l, hl with
  | k :: l, _ =>
    unfold esc
    rw [List.flatMap_cons, List.length_append]
    have : 1 ≤ (tabAt tab k).length := by
      unfold tabAt
      cases hl : tab.lookup k with
      | none => simp
      | some v =>
        simp only [Option.getD_some]
        induction tab with
        | nil => simp at hl
        | cons p t ih =>
          obtain ⟨a, b⟩ := p
          rw [List.all_cons, Bool.and_eq_true] at h
          rw [List.lookup_cons] at hl
          cases hk : (k == a) with
          | true => rw [hk] at hl; simp at hl; subst hl; simpa using h.1
          | false => rw [hk] at hl; exact ih h.2 hl
    omega
theorem concat_tx (w : World) (u v : List Nat) (tu tv : Tok) (hu : u.length ≤ 1000) (hv : v.length ≤ 1000) (news : List (Addr × Obj)) (h₀ : Heap) :
    Call71 1 35 [.str (tx u) tu, .str (tx v) tv] news h₀ (fun r news' => news' = news ∧ ∃ t, r = .str (tx (u ++ v)) t) w := by
  have := concat_ok w (tx u) (tx v) tu tv (by rw [tx_length]; exact hu) (by rw [tx_length]; exact hv) news h₀
  rw [tx_append] at this
  exact this
def RJ (z5 : Nat) (u v o p : List Nat) (rest : List (Addr × Obj)) (mB : Str → Option Value) (i : Nat) (m₁ : Str → Option Value) (nx : List (Addr × Obj)) : Prop :=
  ∃ a b c na nb nc t1 t2 t3 t4 t5 t6, (@LT.lt Nat _ z5 a ∧ @LT.lt Nat _ z5 b ∧ @LT.lt Nat _ z5 c) ∧ m₁ (Str.ofString "texts") = some (.ref a) ∧ m₁ (Str.ofString "pages") = some (.ref b) ∧ m₁ (Str.ofString "written") = some (.ref c) ∧
    (∀ z, z ≠ Str.ofString "_" → z ≠ Str.ofString "texts" → z ≠ Str.ofString "pages" → z ≠ Str.ofString "written" → m₁ z = mB z) ∧
    nx = (c, listOf [Value.str (tx (W i u v)) t1, .str (tx (W i v u)) t2].toArray nc) :: (b, listOf [Value.str (tx (W i u v)) t3, .str (tx (W i v u)) t4].toArray nb) :: (a, listOf [Value.str (tx (W i o p)) t5, .str (tx (W i p o)) t6].toArray na) :: rest
theorem RJ_map {m₁ mB : Str → Option Value} {a b c : Value} {v : Option Value} (h1 : m₁ (Str.ofString "texts") = some a) (h2 : m₁ (Str.ofString "pages") = some b) (h3 : m₁ (Str.ofString "written") = some c)
    (h : ∀ z, z ≠ Str.ofString "_" → z ≠ Str.ofString "texts" → z ≠ Str.ofString "pages" → z ≠ Str.ofString "written" → m₁ z = mB z) :
    (fun z => if z = Str.ofString "_" then v else m₁ z) = fun z => if z = Str.ofString "_" then v else if z = Str.ofString "texts" then some a else if z = Str.ofString "pages" then some b else if z = Str.ofString "written" then some c else mB z := by
  funext z
  by_cases q0 : z = Str.ofString "_"
  · rw [if_pos q0, if_pos q0]
  · rw [if_neg q0, if_neg q0]
    by_cases q1 : z = Str.ofString "texts"
    · rw [if_pos q1, q1, h1]
    · rw [if_neg q1]
      by_cases q2 : z = Str.ofString "pages"
      · rw [if_pos q2, q2, h2]
      · rw [if_neg q2]
        by_cases q3 : z = Str.ofString "written"
        · rw [if_pos q3, q3, h3]
        · rw [if_neg q3]; exact h z q0 q1 q2 q3
local macro_rules | `(tactic| walk_at "exec For Name Call cons nil") => `(tactic| (k_here; k_dflt ((rename Fr _ _ _ _ => lF'); (with_unfolding_all refine' For_invVF lF' ?k1 ?k2 ?_ ?k3 ?k4; (case k1 => exact rfl); (case k2 => exact rfl); (case k3 => (intro _; rfl)); (case k4 => first | assumption | passes_own); k_whole))))
local macro_rules | `(tactic| walk_at "subscriptTail Name Constant ref int") => `(tactic| (k_here; k_dflt (refine' item_list ?k1 ?k2 ?k3 ?k4 ?k5 ?_ ?k7; (case k1 => k_asm); (case k2 => k_mem); (case k3 => decide); (case k4 => decide); (case k5 => exact rfl); (case k7 => with_unfolding_all rfl); k_whole)))
local macro_rules | `(tactic| walk_at "callWith ref") => `(tactic| (k_here; k_dflt (refine' callWith_K ?k1 ?k2 ?_ ?k3 ?k4; (case k1 => k_asm); (case k2 => first | k_is | exact EscFn.keep (by assumption)); (case k3 => exact rfl); (case k4 => exact rfl); k_whole)))
local macro_rules | `(tactic| walk_at "call ref") => `(tactic| (k_here; k_dflt (first
  | (refine' use71 (concat_tx _ _ _ _ _ ?q1 ?q2 _ _) ?k1 ?k2 ?k3 ?k4 ?k5 ?k6 ?k7 ?k8 ?_; (case q1 => omega); (case q2 => omega); (case k1 => k_asm); (case k2 => k_asm); (case k3 => k_asm); (case k4 => k_asm); (case k5 => k_asm); (case k6 => exact rfl); (case k7 => ktr_room); (case k8 => ktr_units); k_whole)
  | (refine' use71 (EscFn.ok (by assumption) _ _ ?q1 _ _) ?k1 ?k2 ?k3 ?k4 ?k5 ?k6 ?k7 ?k8 ?_; (case q1 => (simp only [List.length_append]; omega)); (case k1 => k_asm); (case k2 => k_asm); (case k3 => k_asm); (case k4 => k_asm); (case k5 => k_asm); (case k6 => exact rfl); (case k7 => ktr_room); (case k8 => ktr_units); k_whole)); intro r' n' h' tk' hp' F' N'; obtain ⟨e1', t', e2'⟩ := hp'; subst e1'; subst e2'))
local macro_rules | `(tactic| walk_at "binaryOp Add str str") => `(tactic| (k_here; k_dflt (refine' add_tx ?k1 ?_; (case k1 => omega); k_whole); intro t' k'))
local macro_rules | `(tactic| walk_at "compareOp NotEq ref ref") => `(tactic| (k_here; k_dflt (refine' ne_strs ?k1 ?k2 ?k3 ?k4 ?k5 ?k6 ?k8 ?k7 ?_; (case k1 => k_asm); (case k2 => k_mem); (case k3 => k_mem); (case k4 => exact .cons _ _ (.cons _ _ .nil)); (case k5 => exact .cons _ _ (.cons _ _ .nil)); (case k6 => assumption); (case k8 => assumption); (case k7 => units_room); k_whole)))
set_option maxHeartbeats 8000000 in
theorem stage14 (w : World) (mean : ExcName → Option Value) (mg mb : Str → Option Value) (h₀ base : Heap) (L fa : Addr) (cd : Value) (s : Shared) (m : Str → Option Value) (Q : Flow → Shared → Prop) (E : Value → Shared → Prop)
    (r : Nat) (o p : List Nat) (tab : Tab) (f D la lb : Addr) (dv : List Value) (dr : List Int) (dn na nb : Nat) (t1 t2 t3 t4 t5 t6 tr : Tok) (oL : Obj)
    (hE : PassesOwn (model Challenge.rw_ph0071_01.row.prog w) (callerA.deeper (lawEnv L fa cd)) (lawEnv L fa cd) E)
    (B : Below callerA base [] h₀) (X : (hd71.heap_39 w.params).In h₀) (T : Top71 mean mg mb h₀) (hL : L = h₀.objs.size)
    (F : Fr h₀ L s.heap (fun y => if y = Str.ofString "written" then some (.ref lb) else if y = Str.ofString "pages" then some (.ref lb) else if y = Str.ofString "texts" then some (.ref la) else if y = Str.ofString "first" then some (.str (tx (esc tab o)) t1) else if y = Str.ofString "second" then some (.str (tx (esc tab p)) t2) else if y = Str.ofString "hand" then some (.ref f) else if y = Str.ofString "rounds" then some (.int r tr) else if y = Str.ofString "drawn" then some (.ref D) else m y))
    (N : News h₀ L s.heap [(lb, listOf [Value.str (tx (esc tab o)) t3, .str (tx (esc tab p)) t4].toArray nb), (la, listOf [Value.str (tx o) t5, .str (tx p) t6].toArray na), (D, listOf dv.toArray dn), (L + 1 + 1 + 1 + 1 + 1, oL)])
    (hzD : @Ne Nat D (L + 1 + 1 + 1 + 1 + 1) ∧ @Ne Nat D (L + 1 + 1 + 1 + 1)) (hza : @LT.lt Nat _ (L + 1 + 1 + 1 + 1 + 1) la) (hzb : @LT.lt Nat _ (L + 1 + 1 + 1 + 1 + 1) lb)
    (hoL : oL.data = Data.cell none) (hf : EscFn w f tab)
    (hdr : IntsAre dv dr) (hdl : dr.length = 12) (hr1 : 1 ≤ r) (hr3 : r ≤ 3) (ho : 1 ≤ o.length) (ho4 : o.length ≤ 4) (hp4 : p.length ≤ 4) (hoo : okL o = true) (hpp : okL p = true)
    (hend : ∀ h' tk m', Fr h₀ L h' m' → Q (.ret (.bool true)) { s with heap := h', toks := tk }) :
    wpAny (model Challenge.rw_ph0071_01.row.prog w) (callerA.deeper (lawEnv L fa cd)) (execs b14.1 (lawEnv L fa cd)) Q E s := by
  dsimp only [b14, scX, lawEnv]
  revert X
  k_fill
  intro X
  try k_fold
  repeat' ((fail_if_success (with_reducible show wpAny _ _ (pyIter _) _ _ _)); first | (k_unfold; (try dsimp only)) | walk1 | (dsimp only; walk1))
  rename_i hr FR NR hkeep
  clear hkeep
  refine up_grow (RJ (L + 1 + 1 + 1 + 1 + 1) (esc tab o) (esc tab p) o p [(D, listOf dv.toArray dn), (L + 1 + 1 + 1 + 1 + 1, oL)] (fun y => if y = Str.ofString "first" then some (.str (tx (esc tab o)) t1) else if y = Str.ofString "second" then some (.str (tx (esc tab p)) t2) else if y = Str.ofString "hand" then some (.ref f) else if y = Str.ofString "rounds" then some (.int r tr) else if y = Str.ofString "drawn" then some (.ref D) else m y))
    rfl hr (by omega) FR (news := (lb, listOf [Value.str (tx (esc tab o)) t3, .str (tx (esc tab p)) t4].toArray nb) :: (lb, listOf [Value.str (tx (esc tab o)) t3, .str (tx (esc tab p)) t4].toArray nb) :: (la, listOf [Value.str (tx o) t5, .str (tx p) t6].toArray na) :: [(D, listOf dv.toArray dn), (L + 1 + 1 + 1 + 1 + 1, oL)]) ?_ ?_ ?_ ?_
  · intro q hq
    rcases List.mem_cons.mp hq with rfl | hq
    · exact NR _ (.head _)
    · exact NR q hq
  · exact ⟨la, lb, lb, na, nb, nb, t3, t4, t3, t4, t5, t6, ⟨hza, hzb, hzb⟩, rfl, rfl, rfl, (fun z _ q1 q2 q3 => by simp only [if_neg q1, if_neg q2, if_neg q3]), rfl⟩
  · clear hr FR NR
    rintro i t m₁ news₁ h tk I oI hi hne ⟨a, b, c, xa, xb, xc, x1, x2, x3, x4, x5, x6, hz, e1, e2, e3, e4, rfl⟩ F1 N1
    rw [RJ_map e1 e2 e3 e4] at F1
    have hlen1 := W_len i o p
    have hlen2 := W_len i (esc tab o) (esc tab p)
    have hl1 := esc_length_le tab hf.len o
    have hl2 := esc_length_le tab hf.len p
    have hpow : 2 ^ i ≤ 8 := Nat.le_trans (Nat.pow_le_pow_right (by decide) (by omega)) (show 2 ^ 3 ≤ 8 from Nat.le_refl _)
    have hb1 : 2 ^ i * (o.length + p.length) ≤ 8 * 8 := Nat.mul_le_mul hpow (by omega)
    have hb2 : 2 ^ i * ((esc tab o).length + (esc tab p).length) ≤ 8 * 48 := Nat.mul_le_mul hpow (by omega)
    have heq : [tx (esc tab (W i o p ++ W i p o)), tx (esc tab (W i p o ++ W i o p))] = [tx (W i (esc tab o) (esc tab p) ++ W i (esc tab p) (esc tab o)), tx (W i (esc tab p) (esc tab o) ++ W i (esc tab o) (esc tab p))] := by
      rw [esc_append, esc_append, esc_W, esc_W]
    have hok : [tx (esc tab (W i o p ++ W i p o)), tx (esc tab (W i p o ++ W i o p))].all PyData.strOk = true := by
      rw [List.all_cons, List.all_cons, List.all_nil, okL_tx (okL_esc hf.okc (okL_append (okL_W i hoo hpp) (okL_W i hpp hoo))), okL_tx (okL_esc hf.okc (okL_append (okL_W i hpp hoo) (okL_W i hoo hpp)))]
      rfl
    try k_fold
    repeat' ((fail_if_success (with_reducible show GrowEnd _ _ _ _ _ _ _ _ _)); first | (k_unfold; (try dsimp only)) | walk1 | (dsimp only; walk1))
    rename Fr _ _ _ _ => F2
    rename News _ _ _ _ => N2
    rename_i y1 y2 y3 y4 y5 y6 la2 z01 ll2 z02 z03 z04 z05 z06 z07 lb2 z08 ll1 z09 z10 z11 z12 z13 z14 z15 z16 lc2 z17 ll0 z18
    rw [esc_append, esc_append, esc_W, esc_W] at N2
    refine ⟨_, _, _, (lc2, _) :: (lb2, _) :: (la2, _) :: [(D, listOf dv.toArray dn), (L + 1 + 1 + 1 + 1 + 1, oL)], rfl, F2, fun q hq => ?_, fun q hq => ?_, ⟨la2, lb2, lc2, 0, 0, 0, z13, z16, z04, z06, y3, y6, ⟨ll2.2.2.2.2.2, ll1.2.2.2.2.2.2, ll0.2.2.2.2.2.2.2⟩, rfl, rfl, rfl, fun z q0 q1 q2 q3 => ?_, rfl⟩⟩
    · rcases List.mem_cons.mp hq with rfl | hq
      · exact N2 _ (.tail _ (.tail _ (.tail _ (.head _))))
      · rcases List.mem_cons.mp hq with rfl | hq
        · exact N2 _ (.head _)
        · rcases List.mem_cons.mp hq with rfl | hq
          · exact N2 _ (.tail _ (.head _))
          · rcases List.mem_cons.mp hq with rfl | hq
            · exact N2 _ (.tail _ (.tail _ (.head _)))
            · exact N2 q (.tail _ (.tail _ (.tail _ (.tail _ (.tail _ (.tail _ (.tail _ hq)))))))
    · rcases List.mem_cons.mp hq with rfl | hq
      · exact Nat.ne_of_gt ll0.2.2.1
      · rcases List.mem_cons.mp hq with rfl | hq
        · exact Nat.ne_of_gt ll1.2.1
        · rcases List.mem_cons.mp hq with rfl | hq
          · exact Nat.ne_of_gt ll2.1
          · exact hne q (.tail _ (.tail _ (.tail _ hq)))
    · simp only [if_neg q0, if_neg q1, if_neg q2, if_neg q3]
  · clear hr FR NR
    rintro m₁ news₁ h tk ⟨a, b, c, xa, xb, xc, x1, x2, x3, x4, x5, x6, hz, e1, e2, e3, e4, rfl⟩ F1 N1
    have F2 := fr_put5 F1 e3 ((e4 (Str.ofString "first") (by decide) (by decide) (by decide) (by decide)).trans rfl) ((e4 (Str.ofString "second") (by decide) (by decide) (by decide) (by decide)).trans rfl) ((e4 (Str.ofString "rounds") (by decide) (by decide) (by decide) (by decide)).trans rfl) ((e4 (Str.ofString "drawn") (by decide) (by decide) (by decide) (by decide)).trans rfl)
    obtain ⟨hz1, hz2, hz3⟩ := hz
    clear F1
    have hl1 := esc_length_le tab hf.len o
    have hl2 := esc_length_le tab hf.len p
    have hl3 : 1 ≤ (esc tab o).length := esc_pos hf.pos ho
    try k_fold
    repeat' ((fail_if_success (with_reducible show wpAny _ _ (execs (Stmt.For _ _ _ _ _ :: _) _) _ _ _)); first | (k_unfold; (try dsimp only)) | walk1 | (dsimp only; walk1))
    rename Fr _ _ _ _ => F3
    rename News _ _ _ _ => N3
    rename_i t9 _ _ o9 d9
    refine stage16 w mean mg mb h₀ base L fa cd _ m₁ Q E r (esc tab o) (esc tab p) D c dv dr dn xc t1 t2 x1 x2 tr t9 o9 o9 o9 o9 o9 hE B X T hL F3 (fun q hq => ?_) d9 hdr hdl hr1 hr3 hl3 (by omega) (by omega) (fun h' tk m' F' => hend h' tk m' F')
    rcases List.mem_cons.mp hq with rfl | hq
    · exact N3 _ (.head _)
    · exact N3 q (.tail _ (.tail _ (.tail _ hq)))
end Mine
end
section
open PySem PySem.W PyProof.Rows PySem.Calls PyProof.V PySem.Spec
set_option maxRecDepth 100000
namespace Mine
def tabD (tab : Tab) : List (PyData × PyData) := tab.map fun p => (PyData.str (tx [p.1]), PyData.str (tx p.2))
/-- the object oD at d is a dict that holds the table tab -/
structure TabObj (w : World) (d : Addr) (oD : Obj) (tab : Tab) : Prop where
  lo : (d == sysModules) = false
  at_ : ∃ kvs, oD.IsDictOf (PySem.strKind Challenge.rw_ph0071_01.row.prog w) kvs ∧ FlatPairs PyData.str kvs (tabD tab)
theorem lookup_tabD (tab : Tab) (c : Nat) : PySem.Spec.lookup (.str (tx [c])) (tabD tab) = (tab.lookup c).map fun r => PyData.str (tx r) := by
  induction tab with
  | nil => rfl
  | cons p t ih =>
    obtain ⟨a, b⟩ := p
    show (if PySem.Spec.same (PyData.str (tx [a])) (.str (tx [c])) = true then some (PyData.str (tx b)) else PySem.Spec.lookup (.str (tx [c])) (tabD t)) = _
    rw [List.lookup_cons, same_str]
    by_cases h : c = a
    · subst h; simp
    · have h1 : ¬ tx [a] = tx [c] := fun e => h (by have := tx_inj.mp e; simp at this; exact this.symm)
      have h2 : (c == a) = false := by simpa using h
      rw [h2, ih]
      simp [h1]
theorem join_flat (l : List (List Nat)) : Txt.join (Str.ofString "") (l.map tx) = tx l.flatten := by
  show Builtin.Str.glued (Str.ofString "") (l.map tx) = _
  rw [StrLaws.glued_eq_join]
  have he : Str.ofString "" = Str.empty := by decide +kernel
  induction l with
  | nil => rfl
  | cons a l ih =>
    cases l with
    | nil => show tx a = tx ([a].flatten); simp
    | cons b l =>
      show tx a ++ Str.ofString "" ++ Str.join (Str.ofString "") (List.map tx (b :: l)) = _
      rw [ih, he, Str.append_empty, tx_append]; rfl
section
variable {w : World} {A : Around} {E : Value → Shared → Prop} {s : Shared} {h₀ : Heap} {L : Addr} {m : Str → Option Value} {news : List (Addr × Obj)}
theorem get_method {d : Addr} {oD : Obj} {tab : Tab} {pl : Sem Bool} {Q : Value × List Value → Shared → Prop} (N : News h₀ L s.heap news) (hm : (d, oD) ∈ news) (T : TabObj w d oD tab) (h : Q (.builtin "dict.get", [.ref d]) s) :
    wpAny (model Challenge.rw_ph0071_01.row.prog w) A (getMethod (.ref d) (Str.ofString "get") pl) Q E s := by
  obtain ⟨kvs, hd, _⟩ := T.at_
  exact kdg_method N hm hd h
theorem get_tab {d : Addr} {oD : Obj} {tab : Tab} {c : Nat} {t t' : Tok} {Q : Value → Shared → Prop} (N : News h₀ L s.heap news) (hm : (d, oD) ∈ news) (T : TabObj w d oD tab) (h : ∀ t'', Q (.str (tx (tabAt tab c)) t'') { s with toks := s.toks + 1 }) :
    wpAny (model Challenge.rw_ph0071_01.row.prog w) A (call (.builtin "dict.get") [.ref d, .str (tx [c]) t, .str (tx [c]) t']) Q E s := by
  obtain ⟨kvs, hd, hf⟩ := T.at_
  have ST : StrTab Challenge.rw_ph0071_01.row.prog w s.heap d (tabD tab) := ⟨T.lo, kvs, Heap.dictOf_iff.mpr ⟨oD, (N _ hm).1, hd⟩, hf⟩
  have hl := lookup_tabD tab c
  unfold tabAt at h
  cases hc : tab.lookup c with
  | none =>
    rw [hc] at hl h
    refine kt_get2_noneS ST hl (.str _ _) fun v hv => ?_
    have hv' := hv s.heap
    cases hv'
    exact h _
  | some r =>
    rw [hc] at hl h
    refine kt_get2_thereS ST hl (.str _ _) fun v hv => ?_
    have hv' := hv s.heap
    cases hv'
    exact h _
theorem join_tx {D : Addr} {ys : List Value} {n : Nat} {ls : List (List Nat)} {t : Tok} {Q : Value → Shared → Prop} (N : News h₀ L s.heap news) (hm : (D, listOf ys.toArray n) ∈ news) (hv : StrsAre ys (ls.map tx)) (hB : ∀ a ∈ ls, a.length ≤ 16) (hn : ls.length ≤ 1048576)
    (h : ∀ t' k, Q (.str (tx ls.flatten) t') { s with toks := k }) : wpAny (model Challenge.rw_ph0071_01.row.prog w) A (call (.builtin "str.join") [.str (Str.ofString "") t, .ref D]) Q E s := by
  refine KT.join_B 16 (N.isList hm) (l := ls) (g := tx) ?_ (fun a ha => by rw [tx_length]; exact hB a ha) hn (by decide) fun t' k => ?_
  · have := hv.carried
    rw [List.map_map] at this
    exact this
  · rw [join_flat]; exact h t' k
end
end Mine
end
section
open PySem PySem.W PyProof.Rows
set_option maxRecDepth 100000
namespace Mine
theorem fr_put8 {h₀ h : Heap} {L : Addr} {m : Str → Option Value} {x1 x2 x3 x4 x5 x6 x7 x8 : Str} {v1 v2 v3 v4 v5 v6 v7 v8 : Value} (F : Fr h₀ L h m) (e1 : m x1 = some v1) (e2 : m x2 = some v2) (e3 : m x3 = some v3) (e4 : m x4 = some v4) (e5 : m x5 = some v5) (e6 : m x6 = some v6) (e7 : m x7 = some v7) (e8 : m x8 = some v8) :
    Fr h₀ L h (fun y => if y = x1 then some v1 else if y = x2 then some v2 else if y = x3 then some v3 else if y = x4 then some v4 else if y = x5 then some v5 else if y = x6 then some v6 else if y = x7 then some v7 else if y = x8 then some v8 else m y) := by
  rw [funext (if_keep (if_keep (if_keep (if_keep (if_keep (if_keep (if_keep (if_keep (fun _ => rfl) e8) e7) e6) e5) e4) e3) e2) e1)]; exact F
theorem tab_strs {tab : Tab} {o : List Nat} {ys : List Value} (hl : ys.length = o.length) (h : ∀ (i : Nat) (y : Value), ys[i]? = some y → ∃ t, y = Value.str (tx (tabAt tab (o.getD i 0))) t) : StrsAre ys ((o.map (tabAt tab)).map tx) := by
  have := strs_of (g := fun i => tabAt tab (o.getD i 0)) hl h
  have e : (List.range o.length).map (fun i => tx (tabAt tab (o.getD i 0))) = (o.map (tabAt tab)).map tx := by
    rw [List.map_map]
    apply List.ext_getElem
    · simp
    · intro i h1 h2
      simp at h1
      simp [h1]
  rw [e] at this
  exact this
theorem tab_len {tab : Tab} (h : (tab.all fun p => decide (p.2.length ≤ 6)) = true) (o : List Nat) : ∀ a ∈ o.map (tabAt tab), a.length ≤ 16 := by
  intro a ha
  obtain ⟨k, _, rfl⟩ := List.mem_map.mp ha
  have := esc_length_le tab h [k]
  unfold esc at this
  simp at this
  omega
local macro_rules | `(tactic| walk_at "getMethod ref") => `(tactic| (k_here; k_dflt (refine' get_method ?k1 ?k2 ?k3 ?_; (case k1 => k_asm); (case k2 => k_mem); (case k3 => assumption); k_whole)))
local macro_rules | `(tactic| walk_at "call builtin:dict.get") => `(tactic| (k_here; k_dflt (refine' get_tab ?k1 ?k2 ?k3 ?_; (case k1 => k_asm); (case k2 => k_mem); (case k3 => assumption); k_whole); intro t'))
local macro_rules | `(tactic| walk_at "call builtin:str.join") => `(tactic| (k_here; k_dflt (refine' join_tx ?k1 ?k2 ?k3 ?k4 ?k5 ?_; (case k1 => k_asm); (case k2 => k_mem); (case k3 => assumption); (case k4 => assumption); (case k5 => (simp only [List.length_map]; omega)); k_whole); intro t' k'))
set_option maxHeartbeats 8000000 in
theorem stage9 (w : World) (mean : ExcName → Option Value) (mg mb : Str → Option Value) (h₀ base : Heap) (L fa : Addr) (cd : Value) (s : Shared) (m : Str → Option Value) (Q : Flow → Shared → Prop) (E : Value → Shared → Prop)
    (r : Nat) (o p : List Nat) (tab : Tab) (f D dt : Addr) (dv : List Value) (dr : List Int) (dn : Nat) (t1 t2 tr : Tok) (oL oT oD : Obj)
    (hE : PassesOwn (model Challenge.rw_ph0071_01.row.prog w) (callerA.deeper (lawEnv L fa cd)) (lawEnv L fa cd) E)
    (B : Below callerA base [] h₀) (X : (hd71.heap_39 w.params).In h₀) (T : Top71 mean mg mb h₀) (hL : L = h₀.objs.size)
    (F : Fr h₀ L s.heap (fun y => if y = Str.ofString "one" then some (.str (tx o) t1) else if y = Str.ofString "other" then some (.str (tx p) t2) else if y = Str.ofString "hand" then some (.ref f) else if y = Str.ofString "rounds" then some (.int r tr) else if y = Str.ofString "drawn" then some (.ref D) else m y))
    (N : News h₀ L s.heap [(dt, oD), (D, listOf dv.toArray dn), (L + 1 + 1 + 1 + 1 + 1, oL), (L + 1 + 1 + 1 + 1, oT)])
    (hzD : @Ne Nat D (L + 1 + 1 + 1 + 1 + 1) ∧ @Ne Nat D (L + 1 + 1 + 1 + 1))
    (hoL : oL.data = Data.cell none) (hoT : oT.data = Data.cell (some (.ref dt))) (hTab : TabObj w dt oD tab) (hf : EscFn w f tab)
    (hdr : IntsAre dv dr) (hdl : dr.length = 12) (hr1 : 1 ≤ r) (hr3 : r ≤ 3) (ho : 1 ≤ o.length) (ho4 : o.length ≤ 4) (hp4 : p.length ≤ 4) (hoo : okL o = true) (hpp : okL p = true)
    (hend : ∀ h' tk m', Fr h₀ L h' m' → Q (.ret (.bool true)) { s with heap := h', toks := tk }) :
    wpAny (model Challenge.rw_ph0071_01.row.prog w) (callerA.deeper (lawEnv L fa cd)) (execs b9.1 (lawEnv L fa cd)) Q E s := by
  dsimp only [b9, scX, lawEnv]
  revert X
  k_fill
  intro X
  try k_fold
  repeat' ((fail_if_success (with_reducible show wpAny _ _ (eval (Expr.ListComp _ _ _ _) _) _ _ _)); first | (k_unfold; (try dsimp only)) | walk1 | (dsimp only; walk1))
  rename Fr _ _ _ _ => F1
  rename News _ _ _ _ => N1
  refine ListComp_T (xt := tx o) (tt := t1) F1 N1 (by with_unfolding_all rfl) (by decide) (by rfl) (by decide) (by rfl) rfl (by show (tx o).length ≤ sizeLine; rw [tx_length, sizeLine_eq]; omega) ?_
  walk1
  refine ⟨rfl, F1, N1, fun gg => ?_⟩
  refine rest_all (fun i y => ∃ t, y = .str (tx (tabAt tab (o.getD i 0))) t) ?_ ?_
  · clear F1 N1
    intro j v I oI C oC D2 m2 ys h2 tk2 E2 hj hP hC hx F2 N2 off ne
    obtain ⟨c, tc, hc, rfl⟩ := hP
    have hcj : o.getD j 0 = c := by
      have : o[j]? = some c := by simpa [tx] using hc
      simp [List.getD, this]
    repeat' ((fail_if_success (with_reducible show LCg.CompEnd _ _ _ _ _ _ _ _ _ _ _ _ _ _)); first | (k_unfold; (try dsimp only)) | walk1 | (dsimp only; walk1))
    exact LCg.CompEnd.intro F2 N2 _ (fun _ h => h) off trivial ⟨rfl, _, by rw [hcj]⟩
  intro ys hyl hys
  have hSo : StrsAre ys ((o.map (tabAt tab)).map tx) := tab_strs (by rw [hyl]; simp [tx]) hys
  unfold LCg.FinE
  intro D3 h3 tk3 F3 N3 off3
  have hBo := tab_len hf.len o
  clear F1 N1 off3
  try k_fold
  repeat' ((fail_if_success (with_reducible show wpAny _ _ (eval (Expr.ListComp _ _ _ _) _) _ _ _)); first | (k_unfold; (try dsimp only)) | walk1 | (dsimp only; walk1))
  rename Fr _ _ _ _ => F1
  rename News _ _ _ _ => N1
  rename_i tf kf hf1
  refine ListComp_T (xt := tx p) (tt := t2) F1 N1 (by with_unfolding_all rfl) (by decide) (by rfl) (by decide) (by rfl) rfl (by show (tx p).length ≤ sizeLine; rw [tx_length, sizeLine_eq]; omega) ?_
  walk1
  refine ⟨rfl, F1, N1, fun gg => ?_⟩
  refine rest_all (fun i y => ∃ t, y = .str (tx (tabAt tab (p.getD i 0))) t) ?_ ?_
  · clear F1 N1
    intro j v I oI C oC D2 m2 ys h2 tk2 E2 hj hP hC hx F2 N2 off ne
    obtain ⟨c, tc, hc, rfl⟩ := hP
    have hcj : p.getD j 0 = c := by
      have : p[j]? = some c := by simpa [tx] using hc
      simp [List.getD, this]
    repeat' ((fail_if_success (with_reducible show LCg.CompEnd _ _ _ _ _ _ _ _ _ _ _ _ _ _)); first | (k_unfold; (try dsimp only)) | walk1 | (dsimp only; walk1))
    exact LCg.CompEnd.intro F2 N2 _ (fun _ h => h) off trivial ⟨rfl, _, by rw [hcj]⟩
  intro ys hyl hys
  have hSp : StrsAre ys ((p.map (tabAt tab)).map tx) := tab_strs (by rw [hyl]; simp [tx]) hys
  unfold LCg.FinE
  intro D3 h3 tk3 F3 N3 off3
  have hBp := tab_len hf.len p
  clear F1 N1 off3
  try k_fold
  repeat' ((fail_if_success (with_reducible show wpAny _ _ (execs (Stmt.For _ _ _ _ _ :: _) _) _ _ _)); first | (k_unfold; (try dsimp only)) | walk1 | (dsimp only; walk1))
  rename Fr _ _ _ _ => F9
  rename News _ _ _ _ => N9
  rename_i tg _ _ _ la _ l1 _ _ lb _ l2 _ _
  refine stage14 w mean mg mb h₀ base L fa cd _ _ Q E r o p tab f D la lb dv dr dn 0 0 tf tg tf tg t1 t2 tr oL hE B X T hL (fr_put8 F9 rfl rfl rfl rfl rfl rfl rfl rfl) (fun q hq => ?_) hzD l1.2.2.2.2.1 l2.2.2.2.2.2.1 hoL hf hdr hdl hr1 hr3 ho ho4 hp4 hoo hpp (fun h' tk m' F' => hend h' tk m' F')
  rcases List.mem_cons.mp hq with rfl | hq
  · exact N9 _ (.head _)
  · rcases List.mem_cons.mp hq with rfl | hq
    · exact N9 _ (.tail _ (.head _))
    · refine N9 q (.tail _ (.tail _ (.tail _ (.tail _ (.tail _ ?_)))))
      rcases List.mem_cons.mp hq with rfl | hq
      · exact .head _
      · exact .tail _ (List.mem_append_left [(L + 1 + 1 + 1 + 1, oT)] hq)
end Mine
end
section
open PySem PySem.W PyProof.Rows
set_option maxRecDepth 100000
namespace Mine
local macro_rules | `(tactic| walk_at "no such key") => `(tactic| fail "no such key")
theorem mod_is {prog : Program} {w : World} {A : Around} {E : Value → Shared → Prop} {s : Shared} {a b k : Int} {t u : Tok} {Q : Value → Shared → Prop} (he : a.fmod b = k) (hb : b ≠ 0) (h : Q (.int k s.toks) { s with toks := s.toks + 1 }) : wpAny (model prog w) A (binaryOp .Mod (.int a t) (.int b u)) Q E s :=
  mod_int' hb (by rw [he]; exact h)
local macro_rules | `(tactic| walk_at "subscriptTail Name Constant ref int") => `(tactic| (k_here; k_dflt (refine' item_list ?k1 ?k2 ?k3 ?k4 ?k5 ?_ ?k7; (case k1 => k_asm); (case k2 => k_mem); (case k3 => decide); (case k4 => decide); (case k5 => assumption); (case k7 => with_unfolding_all rfl); k_whole)))
local macro_rules | `(tactic| walk_at "binaryOp Mod int int") => `(tactic| (k_here; k_dflt (refine' mod_is ?k1 ?k2 ?_; (case k1 => assumption); (case k2 => decide); k_whole)))
local macro_rules | `(tactic| walk_at "subscriptTail List") => `(tactic| (k_here; k_dflt (refine' item_list ?k1 ?k2 ?k3 ?k4 ?k5 ?_ ?k7; (case k1 => k_asm); (case k2 => k_mem); (case k3 => assumption); (case k4 => omega); (case k5 => assumption); (case k7 => with_unfolding_all rfl); k_whole)))
set_option maxHeartbeats 8000000 in
theorem stage8 (w : World) (mean : ExcName → Option Value) (mg mb : Str → Option Value) (h₀ base : Heap) (L fa : Addr) (cd : Value) (s : Shared) (m : Str → Option Value) (Q : Flow → Shared → Prop) (E : Value → Shared → Prop)
    (r : Nat) (o p : List Nat) (tab : Tab) (f D dt : Addr) (dv : List Value) (dr : List Int) (dn : Nat) (t1 t2 tr td : Tok) (d1 k : Int) (oL oT oD : Obj)
    (hE : PassesOwn (model Challenge.rw_ph0071_01.row.prog w) (callerA.deeper (lawEnv L fa cd)) (lawEnv L fa cd) E)
    (B : Below callerA base [] h₀) (X : (hd71.heap_39 w.params).In h₀) (T : Top71 mean mg mb h₀) (hL : L = h₀.objs.size)
    (F : Fr h₀ L s.heap (fun y => if y = Str.ofString "one" then some (.str (tx o) t1) else if y = Str.ofString "other" then some (.str (tx p) t2) else if y = Str.ofString "rounds" then some (.int r tr) else if y = Str.ofString "drawn" then some (.ref D) else m y))
    (N : News h₀ L s.heap [(dt, oD), (D, listOf dv.toArray dn), (L + 1 + 1 + 1 + 1 + 1, oL), (L + 1 + 1 + 1 + 1, oT)])
    (hzD : @Ne Nat D (L + 1 + 1 + 1 + 1 + 1) ∧ @Ne Nat D (L + 1 + 1 + 1 + 1))
    (hoL : oL.data = Data.cell none) (hoT : oT.data = Data.cell (some (.ref dt))) (hTab : TabObj w dt oD tab) (hf : EscFn w f tab)
    (hd1 : dv[(1 : Int).toNat]? = some (.int d1 td)) (hk : d1.fmod 5 = k) (hk0 : 0 ≤ k) (hk5 : k < 5) (hfk : [Value.ref 49, .ref 56, .ref 63, .ref 70, .ref 77][k.toNat]? = some (.ref f))
    (hdr : IntsAre dv dr) (hdl : dr.length = 12) (hr1 : 1 ≤ r) (hr3 : r ≤ 3) (ho : 1 ≤ o.length) (ho4 : o.length ≤ 4) (hp4 : p.length ≤ 4) (hoo : okL o = true) (hpp : okL p = true)
    (hend : ∀ h' tk m', Fr h₀ L h' m' → Q (.ret (.bool true)) { s with heap := h', toks := tk }) :
    wpAny (model Challenge.rw_ph0071_01.row.prog w) (callerA.deeper (lawEnv L fa cd)) (execs b8.1 (lawEnv L fa cd)) Q E s := by
  dsimp only [b8, scX, lawEnv]
  revert X
  k_fill
  intro X
  try k_fold
  repeat' ((fail_if_success (with_reducible show wpAny _ _ (execs (Stmt.Assign [Expr.Name (Str.ofString "first") _] _ _ :: _) _) _ _ _)); first | (k_unfold; (try dsimp only)) | walk1 | (dsimp only; walk1))
  rename Fr _ _ _ _ => F9
  rename News _ _ _ _ => N9
  exact stage9 w mean mg mb h₀ base L fa cd _ _ Q E r o p tab f D dt dv dr dn t1 t2 tr oL oT oD hE B X T hL (fr_put5 F9 rfl rfl rfl rfl rfl) (fun q hq => N9 q (.tail _ hq)) hzD hoL hoT hTab hf hdr hdl hr1 hr3 ho ho4 hp4 hoo hpp (fun h' tk m' F' => hend h' tk m' F')
end Mine
end
section
open PySem PySem.W PyProof.Rows
set_option maxRecDepth 100000
namespace Mine
theorem esc_fn0 (w : World) : EscFn w 49 tab0 := ⟨by kernel_rfl, fun l tt h news h₀ => esc0_ok w l tt h news h₀, by decide, by decide, by decide⟩
theorem esc_fn1 (w : World) : EscFn w 56 tab1 := ⟨by kernel_rfl, fun l tt h news h₀ => esc1_ok w l tt h news h₀, by decide, by decide, by decide⟩
theorem esc_fn2 (w : World) : EscFn w 63 tab2 := ⟨by kernel_rfl, fun l tt h news h₀ => esc2_ok w l tt h news h₀, by decide, by decide, by decide⟩
theorem esc_fn3 (w : World) : EscFn w 70 tab3 := ⟨by kernel_rfl, fun l tt h news h₀ => esc3_ok w l tt h news h₀, by decide, by decide, by decide⟩
def tab5 : Tab := [(38, [38, 97, 109, 112, 59]), (60, [38, 108, 116, 59]), (34, [38, 113, 117, 111, 116, 59]), (13, [38, 35, 120, 68, 59]), (10, [38, 35, 120, 65, 59]), (9, [38, 35, 120, 57, 59])]
theorem tab54 (k : Nat) : tabAt tab4 k = tabAt tab5 k := by
  by_cases h1 : k = 9
  · subst h1; decide
  · by_cases h2 : k = 10
    · subst h2; decide
    · by_cases h3 : k = 13
      · subst h3; decide
      · have q1 : (k == 9) = false := by simpa using h1
        have q2 : (k == 10) = false := by simpa using h2
        have q3 : (k == 13) = false := by simpa using h3
        simp only [tabAt, tab4, tab5, List.lookup_cons, q1, q2, q3]
theorem esc54 (l : List Nat) : esc tab4 l = esc tab5 l := by unfold esc; rw [funext tab54]
theorem esc_fn4 (w : World) : EscFn w 77 tab5 := ⟨by kernel_rfl, fun l tt h news h₀ => by rw [← esc54]; exact esc4_ok w l tt h news h₀, by decide, by decide, by decide⟩
theorem led_sub {h₀ h : Heap} {L : Addr} {rest k : List (Addr × Obj)} (N : News h₀ L h rest) (hs : ∀ q ∈ k, q ∈ rest) : News h₀ L h k := fun q hq => N q (hs q hq)
theorem tab_of {w : World} {d : Addr} {oD : Obj} {kvs : List (Str × Value)} {Dt : List (PyData × PyData)} {tab : Tab} (lo : (d == sysModules) = false) (hd : oD.IsDictOf (PySem.strKind Challenge.rw_ph0071_01.row.prog w) kvs) (hf : PyProof.V.FlatPairs PyData.str kvs Dt) (e : Dt = tabD tab) : TabObj w d oD tab := ⟨lo, kvs, hd, e ▸ hf⟩
theorem pick5 {w : World} {k : Int} {a0 a1 a2 a3 a4 : Addr} {o0 o1 o2 o3 o4 : Obj} {P : Prop} (h0 : 0 ≤ k) (h5 : k < 5) (T0 : TabObj w a0 o0 tab0) (T1 : TabObj w a1 o1 tab1) (T2 : TabObj w a2 o2 tab2) (T3 : TabObj w a3 o3 tab3) (T4 : TabObj w a4 o4 tab5) {z : Nat} (z0 : @LT.lt Nat _ z a0) (z1 : @LT.lt Nat _ z a1) (z2 : @LT.lt Nat _ z a2) (z3 : @LT.lt Nat _ z a3) (z4 : @LT.lt Nat _ z a4)
    (fin : ∀ d oD tab f, @LT.lt Nat _ z d → TabObj w d oD tab → EscFn w f tab → [Value.ref a0, .ref a1, .ref a2, .ref a3, .ref a4][k.toNat]? = some (.ref d) → (d, oD) ∈ [(a4, o4), (a3, o3), (a2, o2), (a1, o1), (a0, o0)] → [Value.ref 49, .ref 56, .ref 63, .ref 70, .ref 77][k.toNat]? = some (.ref f) → P) : P := by
  have : k = 0 ∨ k = 1 ∨ k = 2 ∨ k = 3 ∨ k = 4 := by omega
  rcases this with rfl | rfl | rfl | rfl | rfl
  · exact fin _ _ _ _ z0 T0 (esc_fn0 w) rfl (.tail _ (.tail _ (.tail _ (.tail _ (.head _))))) rfl
  · exact fin _ _ _ _ z1 T1 (esc_fn1 w) rfl (.tail _ (.tail _ (.tail _ (.head _)))) rfl
  · exact fin _ _ _ _ z2 T2 (esc_fn2 w) rfl (.tail _ (.tail _ (.head _))) rfl
  · exact fin _ _ _ _ z3 T3 (esc_fn3 w) rfl (.tail _ (.head _)) rfl
  · exact fin _ _ _ _ z4 T4 (esc_fn4 w) rfl (.head _) rfl
local macro_rules | `(tactic| walk_at "subscriptTail Name Constant ref int") => `(tactic| (k_here; k_dflt (refine' item_list ?k1 ?k2 ?k3 ?k4 ?k5 ?_ ?k7; (case k1 => k_asm); (case k2 => k_mem); (case k3 => decide); (case k4 => decide); (case k5 => assumption); (case k7 => with_unfolding_all rfl); k_whole)))
local macro_rules | `(tactic| walk_at "binaryOp Mod int int") => `(tactic| (k_here; k_dflt (refine' mod_is ?k1 ?k2 ?_; (case k1 => assumption); (case k2 => decide); k_whole)))
set_option maxHeartbeats 8000000 in
theorem stage7 (w : World) (mean : ExcName → Option Value) (mg mb : Str → Option Value) (h₀ base : Heap) (L fa : Addr) (cd : Value) (s : Shared) (m : Str → Option Value) (Q : Flow → Shared → Prop) (E : Value → Shared → Prop)
    (r : Nat) (o p : List Nat) (D : Addr) (dv : List Value) (dr : List Int) (dn : Nat) (t1 t2 tr : Tok) (oT oL : Obj)
    (hE : PassesOwn (model Challenge.rw_ph0071_01.row.prog w) (callerA.deeper (lawEnv L fa cd)) (lawEnv L fa cd) E)
    (B : Below callerA base [] h₀) (X : (hd71.heap_39 w.params).In h₀) (T : Top71 mean mg mb h₀) (hL : L = h₀.objs.size)
    (F : Fr h₀ L s.heap (fun y => if y = Str.ofString "one" then some (.str (tx o) t1) else if y = Str.ofString "other" then some (.str (tx p) t2) else if y = Str.ofString "rounds" then some (.int r tr) else if y = Str.ofString "drawn" then some (.ref D) else m y))
    (N : News h₀ L s.heap [(D, listOf dv.toArray dn), (L + 1 + 1 + 1 + 1 + 1, oL), (L + 1 + 1 + 1 + 1, oT)])
    (hzD : @Ne Nat D (L + 1 + 1 + 1 + 1 + 1) ∧ @Ne Nat D (L + 1 + 1 + 1 + 1))
    (hoL : oL.data = Data.cell none) (hoT : oT.data = Data.cell none)
    (hdr : IntsAre dv dr) (hdl : dr.length = 12) (hr1 : 1 ≤ r) (hr3 : r ≤ 3) (ho : 1 ≤ o.length) (ho4 : o.length ≤ 4) (hp4 : p.length ≤ 4) (hoo : okL o = true) (hpp : okL p = true)
    (hend : ∀ h' tk m', Fr h₀ L h' m' → Q (.ret (.bool true)) { s with heap := h', toks := tk }) :
    wpAny (model Challenge.rw_ph0071_01.row.prog w) (callerA.deeper (lawEnv L fa cd)) (execs b7.1 (lawEnv L fa cd)) Q E s := by
  obtain ⟨d1, td, hd1⟩ : ∃ d1 td, dv[(1 : Int).toNat]? = some (.int d1 td) := by
    have hl := IntsAre.len hdr
    obtain ⟨t, e⟩ := IntsAre.at hdr (i := 1) (y := dr[1]) (by simp)
    exact ⟨_, t, e⟩
  obtain ⟨k, hk⟩ : ∃ k, d1.fmod 5 = k := ⟨_, rfl⟩
  have hk0 : 0 ≤ k := hk ▸ fmod_lo d1 (by decide)
  have hk5 : k < 5 := hk ▸ fmod_hi d1 (by decide)
  dsimp only [b7, scX, lawEnv]
  revert X
  k_fill
  intro X
  try k_fold
  repeat' ((fail_if_success (with_reducible show wpAny _ _ (subscriptTail (Expr.List _ _) _ _ _) _ _ _)); first | (k_unfold; (try dsimp only)) | walk1 | (dsimp only; walk1))
  rename Fr _ _ _ _ => F1
  rename News _ _ _ _ => N1
  rename_i g0 o0 lo0 hd0 hf0 ap0 l0 g1 o1 lo1 hd1' hf1 ap1 l1 g2 o2 lo2 hd2 hf2 ap2 l2 g3 o3 lo3 hd3 hf3 ap3 l3 g4 o4 lo4 hd4 hf4 ap4 l4 ll gg ll1
  refine pick5 hk0 hk5 (tab_of lo0 hd0 hf0 (by kernel_rfl)) (tab_of lo1 hd1' hf1 (by kernel_rfl)) (tab_of lo2 hd2 hf2 (by kernel_rfl)) (tab_of lo3 hd3 hf3 (by kernel_rfl)) (tab_of lo4 hd4 hf4 (by kernel_rfl)) (z := L + 1 + 1 + 1 + 1 + 1) l0.2.1 l1.2.2.1 l2.2.2.2.1 l3.2.2.2.2.1 l4.2.2.2.2.2.1 ?_
  intro d oD tab f hzd hT hf hdk hdm hfk
  refine item_list N1 (.head _) hk0 (by omega) hdk ?_
  have N2 := led_sub N1 (k := [(d, oD), (D, listOf dv.toArray dn), (L + 1 + 1 + 1 + 1 + 1, oL), (L + 1 + 1 + 1 + 1, oT)]) (fun q hq => by
    refine .tail _ ?_
    rcases List.mem_cons.mp hq with rfl | hq
    · exact List.mem_append_left [(D, listOf dv.toArray dn), (L + 1 + 1 + 1 + 1 + 1, oL), (L + 1 + 1 + 1 + 1, oT)] hdm
    · exact .tail _ (.tail _ (.tail _ (.tail _ (.tail _ hq)))))
  clear N1 l0 l1 l2 l3 l4 ap0 ap1 ap2 ap3 ap4 ll1 hdk hdm
  repeat' ((fail_if_success (with_reducible show wpAny _ _ (execs _ _) _ _ _)); first | (k_unfold; (try dsimp only)) | walk1 | (dsimp only; walk1))
  rename Fr _ _ _ _ => F9
  rename News _ _ _ _ => N9
  rename_i o9 d9
  exact stage8 w mean mg mb h₀ base L fa cd _ _ Q E r o p tab f D d dv dr dn t1 t2 tr td d1 k oL o9 oD hE B X T hL F9 N9 hzD hoL d9 hT hf hd1 hk hk0 hk5 hfk hdr hdl hr1 hr3 ho ho4 hp4 hoo hpp (fun h' tk m' F' => hend h' tk m' F')
end Mine
end
section
open PySem PySem.W PyProof.Rows PySem.Calls
set_option maxRecDepth 100000
namespace Mine
def signsL : List Nat := [38, 60, 62, 34, 13, 10, 9, 97, 109, 116]
theorem so_signs : Str.ofString "&<>\"\x0d\n\tamt" = tx signsL := by decide +kernel
theorem charAt_mem {l : List Nat} {i : Int} (h0 : 0 ≤ i) (h1 : i < (l.length : Nat)) : (Txt.charAt (tx l) i).getD 0 ∈ l := by
  have e : seqIndex? i (tx l).length = some i.toNat := by
    unfold seqIndex?
    rw [tx_length]
    have h2 : ¬ i < 0 := by omega
    simp only [h2, if_false]
    rw [if_pos (by simp only [Bool.and_eq_true, decide_eq_true_eq]; omega)]
  have hlt : i.toNat < l.length := by omega
  unfold Txt.charAt
  rw [e]
  show ((tx l).cps[i.toNat]?).getD 0 ∈ l
  have : (tx l).cps[i.toNat]? = some l[i.toNat] := by simp [tx, hlt]
  rw [this]
  exact List.getElem_mem hlt
theorem strs_onP {P : Nat → Prop} : ∀ {n : Nat} {ys : List Value}, ys.length = n → (∀ (i : Nat) (y : Value), ys[i]? = some y → ∃ c t, P c ∧ y = Value.str (tx [c]) t) → ∃ ps : List Nat, ps.length = n ∧ (∀ c ∈ ps, P c) ∧ StrsAre ys ((ps.map fun c => [c]).map tx) := by
  intro n
  induction n with
  | zero => intro ys hl _; have : ys = [] := List.length_eq_zero_iff.mp hl; subst this; exact ⟨[], rfl, (fun _ h => nomatch h), .nil⟩
  | succ n ih =>
    intro ys hl h
    match ys, hl with
    | y :: ys, hl =>
      obtain ⟨c, t, hP, e⟩ := h 0 y rfl
      subst e
      obtain ⟨ps, h1, h2, h3⟩ := ih (ys := ys) (by simpa using hl) fun i y hy => h (i + 1) y (by simpa using hy)
      exact ⟨c :: ps, by simp [h1], by intro q hq; rcases List.mem_cons.mp hq with rfl | hq; exact hP; exact h2 q hq, .cons _ _ h3⟩
theorem fr_put4 {h₀ h : Heap} {L : Addr} {m : Str → Option Value} {x1 x2 x3 x4 : Str} {v1 v2 v3 v4 : Value} (F : Fr h₀ L h m) (e1 : m x1 = some v1) (e2 : m x2 = some v2) (e3 : m x3 = some v3) (e4 : m x4 = some v4) :
    Fr h₀ L h (fun y => if y = x1 then some v1 else if y = x2 then some v2 else if y = x3 then some v3 else if y = x4 then some v4 else m y) := by
  rw [funext (if_keep (if_keep (if_keep (if_keep (fun _ => rfl) e4) e3) e2) e1)]; exact F
theorem ones_len (ps : List Nat) : ∀ a ∈ ps.map (fun c => [c]), a.length ≤ 16 := by
  intro a ha
  obtain ⟨c, _, rfl⟩ := List.mem_map.mp ha
  show 1 ≤ 16
  decide
theorem flat_ones (ps : List Nat) : (ps.map fun c => [c]).flatten = ps := by induction ps with
  | nil => rfl
  | cons c ps ih => rw [List.map_cons, List.flatten_cons, ih]; rfl
theorem ok_signs {ps : List Nat} (h : ∀ c ∈ ps, c ∈ signsL) : okL ps = true := by
  unfold okL
  rw [List.all_eq_true]
  intro c hc
  have := h c hc
  unfold signsL at this
  simp only [List.mem_cons, List.not_mem_nil, or_false] at this
  rcases this with rfl | rfl | rfl | rfl | rfl | rfl | rfl | rfl | rfl | rfl <;> decide
section
variable {prog : Program} {w : World} {A : Around} {E : Value → Shared → Prop} {s : Shared} {h₀ : Heap} {L : Addr} {m : Str → Option Value} {news : List (Addr × Obj)}
theorem item_txm {value slice : Expr} {l : List Nat} {t u : Tok} {i : Int} {Q : Value → Shared → Prop} (h0 : 0 ≤ i) (h1 : i < (l.length : Nat)) (hb : l.length ≤ 1048576) (h : ∀ c, c ∈ l → Q (.str (tx [c]) s.toks) { s with toks := s.toks + 1 })
    (hs : subscripted slice false (.str (tx l) t) (.int i u) = operate [.str (tx l) t, .int i u] (getItem (.str (tx l) t) (.int i u)) := by with_unfolding_all rfl)
    (ht : ∀ r, letTemporaryGo value (.str (tx l) t) r = pure () := by intro _; with_unfolding_all rfl) :
    wpAny (model prog w) A (subscriptTail value slice (.str (tx l) t) (.int i u)) Q E s :=
  item_str (fitsSsize_of (N := 9223372036854775808) (by omega) (by omega) (Int.le_refl _)) (by rw [tx_length]; omega) (by rw [tx_length]; exact h1) (fun _ => h _ (charAt_mem h0 h1)) hs ht
theorem cut_mid {value slice : Expr} {l : Addr} {vs : List Value} {n : Nat} {lo hi : Int} {ul uh : Tok} {ns : List Int} {Q : Value → Shared → Prop}
    (F : Fr h₀ L s.heap m) (N : News h₀ L s.heap news) (hm : (l, listOf vs.toArray n) ∈ news) (hv : IntsAre vs ns) (hb : ns.length ≤ 1048576) (h0 : 0 ≤ lo) (h1 : lo ≤ hi) (h2 : hi ≤ ns.length)
    (h : ∀ d h' ws, IntsAre ws ((ns.drop lo.toNat).take (hi - lo).toNat) → ws.length = (hi - lo).toNat → Fr h₀ L h' m → News h₀ L h' ((d, listOf ws.toArray 0) :: news) → (∀ p ∈ news, p.1 < d) → Q (.ref d) { s with heap := h' })
    (hs : subscripted slice false (.ref l) (.ref s.heap.objs.size) = operate [.ref s.heap.objs.size, .ref l] (getItem (.ref l) (.ref s.heap.objs.size)) := by with_unfolding_all rfl)
    (ht : ∀ r, letTemporaryGo value (.ref l) r = pure () := by intro _; with_unfolding_all rfl) :
    wpAny (model prog w) A (subscriptTail value slice (.ref l) (.ref s.heap.objs.size)) Q E { s with heap := s.heap.push { cls := .type "slice", data := .fields #[.int lo ul, .int hi uh, .none] } } := by
  have hlen : vs.length = ns.length := IntsAre.len hv
  refine cut_list F N hm (.int lo ul) (.int hi uh) (by omega) (fun d h' F' N' l1 => ?_) hs ht
  have e1 : clipAt vs.length lo = lo.toNat := by
    have := clipAt_nat vs.length lo.toNat
    rw [show ((lo.toNat : Nat) : Int) = lo by omega] at this
    rw [this]; omega
  have e2 : clipAt vs.length hi = hi.toNat := by
    have := clipAt_nat vs.length hi.toNat
    rw [show ((hi.toNat : Nat) : Int) = hi by omega] at this
    rw [this]; omega
  have N2 : News h₀ L h' ((d, listOf ((vs.drop lo.toNat).take (hi - lo).toNat).toArray 0) :: news) := by
    have e3 : ((vs.drop lo.toNat).take (hi - lo).toNat) = (vs.drop ((some lo).elim 0 (clipAt vs.length))).take ((some hi).elim vs.length (clipAt vs.length) - (some lo).elim 0 (clipAt vs.length)) := by
      show _ = (vs.drop (clipAt vs.length lo)).take (clipAt vs.length hi - clipAt vs.length lo)
      rw [e1, e2, show (hi - lo).toNat = hi.toNat - lo.toNat by omega]
    rw [e3]; exact N'
  refine h d h' _ ((hv.drop lo.toNat).take (hi - lo).toNat) ?_ F' N2 l1
  rw [List.length_take, List.length_drop]; omega
end
local macro_rules | `(tactic| walk_at "subscriptTail Name Slice ref ref") => `(tactic| (k_here; k_dflt (refine' cut_mid (s := ⟨_, _, _, _, _⟩) ?k1 ?k2 ?k3 ?k4 ?k5 ?k8 ?k9 ?k10 ?_ ?k6 ?k7; (case k1 => k_asm); (case k2 => k_asm); (case k3 => k_mem); (case k4 => with_reducible assumption); (case k5 => omega); (case k8 => omega); (case k9 => omega); (case k10 => omega); (case k6 => with_unfolding_all rfl); (case k7 => (intro _; with_unfolding_all rfl)); k_whole); intro d' h' ws' hS' hL' F' N' l1'))
local macro_rules | `(tactic| walk_at "binaryOp Mod int int") => `(tactic| (k_here; k_dflt (refine' mod_pos ?k1 ?_; (case k1 => decide); k_whole); intro k' hk0' hk1'))
local macro_rules | `(tactic| walk_at "subscriptTail Name BinOp str int") => `(tactic| (k_here; k_dflt (refine' item_txm ?k1 ?k2 ?k3 ?_ ?k4 ?k5; (case k1 => assumption); (case k2 => assumption); (case k3 => decide); (case k4 => with_unfolding_all rfl); (case k5 => (intro _; with_unfolding_all rfl)); k_whole); intro c' hc'))
local macro_rules | `(tactic| walk_at "call builtin:str.join") => `(tactic| (k_here; k_dflt (refine' join_tx ?k1 ?k2 ?k3 ?k4 ?k5 ?_; (case k1 => k_asm); (case k2 => k_mem); (case k3 => assumption); (case k4 => assumption); (case k5 => (simp only [List.length_map]; omega)); k_whole); intro t' k'))
set_option maxHeartbeats 8000000 in
theorem stage5 (w : World) (mean : ExcName → Option Value) (mg mb : Str → Option Value) (h₀ base : Heap) (L fa : Addr) (cd : Value) (s : Shared) (m : Str → Option Value) (Q : Flow → Shared → Prop) (E : Value → Shared → Prop)
    (r : Nat) (wd : Int) (D : Addr) (dv : List Value) (dr : List Int) (dn : Nat) (tr tw ts : Tok) (oS oT oL : Obj)
    (hE : PassesOwn (model Challenge.rw_ph0071_01.row.prog w) (callerA.deeper (lawEnv L fa cd)) (lawEnv L fa cd) E)
    (B : Below callerA base [] h₀) (X : (hd71.heap_39 w.params).In h₀) (T : Top71 mean mg mb h₀) (hL : L = h₀.objs.size)
    (F : Fr h₀ L s.heap (fun y => if y = Str.ofString "width" then some (.int wd tw) else if y = Str.ofString "rounds" then some (.int r tr) else if y = Str.ofString "drawn" then some (.ref D) else m y))
    (N : News h₀ L s.heap [(D, listOf dv.toArray dn), (L + 1 + 1 + 1 + 1 + 1, oL), (L + 1 + 1 + 1 + 1, oT), (L + 1 + 1 + 1, oS)])
    (hzD : @Ne Nat D (L + 1 + 1 + 1 + 1 + 1) ∧ @Ne Nat D (L + 1 + 1 + 1 + 1))
    (hoL : oL.data = Data.cell none) (hoT : oT.data = Data.cell none) (hoS : oS.data = Data.cell (some (.str (tx signsL) ts)))
    (hdr : IntsAre dv dr) (hdl : dr.length = 12) (hr1 : 1 ≤ r) (hr3 : r ≤ 3) (hw1 : 1 ≤ wd) (hw4 : wd ≤ 4)
    (hend : ∀ h' tk m', Fr h₀ L h' m' → Q (.ret (.bool true)) { s with heap := h', toks := tk }) :
    wpAny (model Challenge.rw_ph0071_01.row.prog w) (callerA.deeper (lawEnv L fa cd)) (execs b5.1 (lawEnv L fa cd)) Q E s := by
  dsimp only [b5, scX, lawEnv]
  revert X
  k_fill
  intro X
  try k_fold
  repeat' ((fail_if_success (with_reducible show wpAny _ _ (eval (Expr.ListComp _ _ _ _) _) _ _ _)); first | (k_unfold; (try dsimp only)) | walk1 | (dsimp only; walk1))
  rename Fr _ _ _ _ => F1
  rename News _ _ _ _ => N1
  k_dflt (refine LCg.ListComp_U F1 (by with_unfolding_all rfl) (by decide) (by rfl) (by decide) (by rfl) ?_)
  repeat' ((fail_if_success (with_reducible show LCg.CompSrc _ _ _ _ _ _ _ _ _ _ _ _ _ _)); first | (k_unfold; (try dsimp only)) | walk1 | (dsimp only; walk1))
  rename Fr _ _ _ _ => F2
  rename News _ _ _ _ => N2
  rename_i d2 _ ws2 hS2 hL2 l2
  k_dflt (refine LCg.CompSrc.ledger rfl F2 N2 (.head _) (by rw [List.size_toArray, sizeLine_eq]; omega) ?_)
  intro gg
  refine rest_all (fun _ y => ∃ c t, c ∈ signsL ∧ y = .str (tx [c]) t) ?_ ?_
  · clear F1 N1 F2 N2
    intro j v I oI C oC D2 m2 ys h2 tk2 E2 hj hP hC hx F3 N3 off ne
    obtain ⟨kk, tkk, rfl⟩ : ∃ k t, v = .int k t := by
      exact ints_val hS2 (i := j) (by simpa using hP)
    repeat' ((fail_if_success (with_reducible show LCg.CompEnd _ _ _ _ _ _ _ _ _ _ _ _ _ _)); first | (k_unfold; (try dsimp only)) | walk1 | (dsimp only; walk1))
    exact LCg.CompEnd.intro F3 N3 _ (fun _ h => h) off (.inr ⟨_, .head _, rfl, _, rfl⟩) ⟨rfl, _, _, by assumption, rfl⟩
  intro ys hyl hys
  obtain ⟨o, hol, homem, hos⟩ := strs_onP hyl hys
  rw [List.size_toArray, hL2] at hol
  unfold LCg.FinE
  intro D3 h3 tk3 F3 N3 off3
  clear F1 N1 F2 N2 off3
  have hBo := ones_len o
  replace N3 := led_sub N3 (k := [(D3, listOf ys.toArray ys.length), (D, listOf dv.toArray dn), (L + 1 + 1 + 1 + 1 + 1, oL), (L + 1 + 1 + 1 + 1, oT), (L + 1 + 1 + 1, oS)]) (fun q hq => by
    rcases List.mem_cons.mp hq with rfl | hq
    · exact .head _
    · exact .tail _ (.tail _ hq))
  try k_fold
  repeat' ((fail_if_success (with_reducible show wpAny _ _ (eval (Expr.ListComp _ _ _ _) _) _ _ _)); first | (k_unfold; (try dsimp only)) | walk1 | (dsimp only; walk1))
  rename Fr _ _ _ _ => F1
  rename News _ _ _ _ => N1
  rename_i to ko ho1
  rw [flat_ones] at F1
  k_dflt (refine LCg.ListComp_U F1 (by with_unfolding_all rfl) (by decide) (by rfl) (by decide) (by rfl) ?_)
  repeat' ((fail_if_success (with_reducible show LCg.CompSrc _ _ _ _ _ _ _ _ _ _ _ _ _ _)); first | (k_unfold; (try dsimp only)) | walk1 | (dsimp only; walk1))
  rename Fr _ _ _ _ => F2
  rename News _ _ _ _ => N2
  rename_i d2 _ ws2 hS2 hL2 l2
  k_dflt (refine LCg.CompSrc.ledger rfl F2 N2 (.head _) (by rw [List.size_toArray, sizeLine_eq]; omega) ?_)
  intro gg
  refine rest_all (fun _ y => ∃ c t, c ∈ signsL ∧ y = .str (tx [c]) t) ?_ ?_
  · clear F1 N1 F2 N2
    intro j v I oI C oC D2 m2 ys h2 tk2 E2 hj hP hC hx F3 N3 off ne
    obtain ⟨kk, tkk, rfl⟩ : ∃ k t, v = .int k t := by
      exact ints_val hS2 (i := j) (by simpa using hP)
    repeat' ((fail_if_success (with_reducible show LCg.CompEnd _ _ _ _ _ _ _ _ _ _ _ _ _ _)); first | (k_unfold; (try dsimp only)) | walk1 | (dsimp only; walk1))
    exact LCg.CompEnd.intro F3 N3 _ (fun _ h => h) off (.inr ⟨_, .head _, rfl, _, rfl⟩) ⟨rfl, _, _, by assumption, rfl⟩
  intro ys hyl hys
  obtain ⟨p, hpl, hpmem, hps⟩ := strs_onP hyl hys
  rw [List.size_toArray, hL2] at hpl
  unfold LCg.FinE
  intro D3 h3 tk3 F3 N3 off3
  clear F1 N1 F2 N2 off3
  have hBp := ones_len p
  replace N3 := led_sub N3 (k := [(D3, listOf ys.toArray ys.length), (D, listOf dv.toArray dn), (L + 1 + 1 + 1 + 1 + 1, oL), (L + 1 + 1 + 1 + 1, oT), (L + 1 + 1 + 1, oS)]) (fun q hq => by
    rcases List.mem_cons.mp hq with rfl | hq
    · exact .head _
    · exact .tail _ (.tail _ (.tail _ hq)))
  try k_fold
  repeat' ((fail_if_success (with_reducible show wpAny _ _ (execs (Stmt.Assign [Expr.Name (Str.ofString "table") _] _ _ :: _) _) _ _ _)); first | (k_unfold; (try dsimp only)) | walk1 | (dsimp only; walk1))
  rename Fr _ _ _ _ => F9
  rename News _ _ _ _ => N9
  rename_i tp kp hp1
  rw [flat_ones] at F9
  exact @stage7 w mean mg mb h₀ base L fa cd _ _ Q E r o p D dv dr dn to tp tr oT oL hE B X T hL (fr_put4 F9 rfl rfl rfl rfl) (led_sub N9 (fun q hq => by
    refine .tail _ ?_
    rcases List.mem_cons.mp hq with rfl | hq
    · exact .head _
    · rcases List.mem_cons.mp hq with rfl | hq
      · exact .tail _ (.head _)
      · rw [List.mem_singleton.mp hq]; exact .tail _ (.tail _ (.head _)))) hzD hoL hoT hdr hdl hr1 hr3 (by omega) (by omega) (by omega) (ok_signs homem) (ok_signs hpmem) (fun h' tk m' F' => hend h' tk m' F')
end Mine
end
section
open PySem PySem.W PyProof.Rows
set_option maxRecDepth 100000
namespace Mine
theorem stage5x (w : World) (mean : ExcName → Option Value) (mg mb : Str → Option Value) (h₀ base : Heap) (L fa : Addr) (cd : Value) (s : Shared) (m : Str → Option Value) (Q : Flow → Shared → Prop) (E : Value → Shared → Prop)
    (x : Int) (D : Addr) (dv : List Value) (dr : List Int) (dn : Nat) (tr tw ts : Tok) (oS oT oL : Obj)
    (hE : PassesOwn (model Challenge.rw_ph0071_01.row.prog w) (callerA.deeper (lawEnv L fa cd)) (lawEnv L fa cd) E)
    (B : Below callerA base [] h₀) (X : (hd71.heap_39 w.params).In h₀) (T : Top71 mean mg mb h₀) (hL : L = h₀.objs.size)
    (F : Fr h₀ L s.heap (fun y => if y = Str.ofString "width" then some (.int ([4, 2, 1].getD (1 + x.fmod 3 - 1).toNat 0) tw) else if y = Str.ofString "rounds" then some (.int (1 + x.fmod 3) tr) else if y = Str.ofString "drawn" then some (.ref D) else m y))
    {p1 p2 p3 p4 : Addr × Obj} (N₀ : News h₀ L s.heap [p1, (D, listOf dv.toArray dn), p2, (L + 1 + 1 + 1 + 1 + 1, oL), (L + 1 + 1 + 1 + 1, oT), (L + 1 + 1 + 1, oS), p3, p4])
    (hzD : @Ne Nat D (L + 1 + 1 + 1 + 1 + 1) ∧ @Ne Nat D (L + 1 + 1 + 1 + 1))
    (hoL : oL.data = Data.cell none) (hoT : oT.data = Data.cell none) (hoS : oS.data = Data.cell (some (.str (Str.ofString "&<>\"\x0d\n\tamt") ts)))
    (hdr : IntsAre dv dr) (hdl : dr.length = 12)
    (hend : ∀ h' tk m', Fr h₀ L h' m' → Q (.ret (.bool true)) { s with heap := h', toks := tk }) :
    wpAny (model Challenge.rw_ph0071_01.row.prog w) (callerA.deeper (lawEnv L fa cd)) (execs b5.1 (lawEnv L fa cd)) Q E s := by
  have N : News h₀ L s.heap [(D, listOf dv.toArray dn), (L + 1 + 1 + 1 + 1 + 1, oL), (L + 1 + 1 + 1 + 1, oT), (L + 1 + 1 + 1, oS)] := led_sub N₀ (fun q hq => by
    refine .tail _ ?_
    rcases List.mem_cons.mp hq with rfl | hq
    · exact .head _
    · exact .tail _ (.tail _ (List.mem_append_left [p3, p4] hq)))
  have h0 := fmod_lo x (n := 3) (by decide)
  have h3 := fmod_hi x (n := 3) (by decide)
  rw [so_signs] at hoS
  generalize x.fmod 3 = k at F h0 h3
  have : k = 0 ∨ k = 1 ∨ k = 2 := by omega
  rcases this with rfl | rfl | rfl
  · exact stage5 w mean mg mb h₀ base L fa cd s m Q E 1 4 D dv dr dn tr tw ts oS oT oL hE B X T hL F N hzD hoL hoT hoS hdr hdl (by decide) (by decide) (by decide) (by decide) hend
  · exact stage5 w mean mg mb h₀ base L fa cd s m Q E 2 2 D dv dr dn tr tw ts oS oT oL hE B X T hL F N hzD hoL hoT hoS hdr hdl (by decide) (by decide) (by decide) (by decide) hend
  · exact stage5 w mean mg mb h₀ base L fa cd s m Q E 3 1 D dv dr dn tr tw ts oS oT oL hE B X T hL F N hzD hoL hoT hoS hdr hdl (by decide) (by decide) (by decide) (by decide) hend
end Mine
open Mine in
set_option maxHeartbeats 8000000 in
theorem PySem.Challenge.cw_ph0071_01_holds : PySem.Challenge.rw_ph0071_01.Holds := by
  refine Mine.hd71 ?_
  k_go0
  (all_goals try k_fold)
  repeat' ((fail_if_success (with_reducible show wpAny _ _ (execs (Stmt.Assign [Expr.Name (Str.ofString "one") _] _ _ :: _) _) _ _ _)); first | (k_unfold; (try dsimp only)) | walk1 | (dsimp only; walk1))
  rename Fr _ _ _ _ => F9
  rename News _ _ _ _ => N9
  rename Top _ _ _ _ _ _ => T9
  rename Below _ _ _ _ => B9
  rename Frag.In _ _ => X9
  rename IntsAre _ (List.map _ _) => I9
  refine' stage5x _ _ _ _ _ _ _ _ _ _ _ _ _ _ _ _ _ _ _ _ _ _ _ _ ?hE B9 X9 T9 rfl F9 N9 ?hz ?hL ?hT ?hS I9 ?hl ?hend
  (case hz => (constructor <;> omega))
  (case hL => assumption)
  (case hT => assumption)
  (case hS => assumption)
  (case hl => (rw [List.length_map]; rfl))
  (case hE => passes_own)
  (case hend => (intro h' tk m' F'; k_unfold; (try dsimp only); wrow_close))
end
