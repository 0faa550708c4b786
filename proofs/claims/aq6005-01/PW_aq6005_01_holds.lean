import PyProof.Rows.All
import Wide.All
import OpenK.AllK
import Wide.FinOn
import OpenK.XSeg
import Lean
import PySem.Challenge.RW_aq6005_01
open PySem PySem.W PySem.Spec PySem.Calls PyProof.Rows
open PySem.W.X (SegX s_call s_again s_pop s_yield)
set_option Elab.async false
set_option maxRecDepth 100000
set_option maxHeartbeats 8000000
namespace Mine
open_top hd for PySem.Challenge.rw_aq6005_01
/-- open_top leaves the walk's switch for a top on: off again, the walks below are of functions -/
theorem switch_off : PySem.Challenge.rw_aq6005_01.foot = 9 := by
  w_top off
  rfl

abbrev prog : Program := PySem.Challenge.pw_aq6005_01
def p0 : Program := { PySem.Challenge.pw_aq6005_01 with main := { PySem.Challenge.pw_aq6005_01.main with body := [] } }

/-- what is known of a heap that holds the text's own objects -/
structure Gd (w : World) (loose : List Str) (mean : ExcName → Option Value) (mg mb : Str → Option Value) (h : Heap) : Prop where
  X : (hd.heap_39 w.params).In h
  T : Top p0 loose mean mg mb h
theorem Gd.keeps {w : World} {loose : List Str} {mean : ExcName → Option Value} {mg mb : Str → Option Value} {h h' : Heap} (G : Gd w loose mean mg mb h) (hk : ∀ b o, h.get? b = some o → h'.get? b = some o) : Gd w loose mean mg mb h' :=
  ⟨G.X.keeps hk, G.T.keeps hk⟩

section
variable {w : World} {A : Around} {R : Result → Shared → Prop} {s : Shared} {h₀ : Heap} {news : List (Addr × Obj)} {K : Frag} {name qual : Str} {params : Arguments} {body : List Stmt} {scope : Scope} {dV kV doc pm cdv ct oc : Value} {an od : Option Addr} {osl : Array (Option Value)} {f : Addr} {args : Args} (binds : List (Str × Value))

/-- entering a def of the text, whatever stands below -/
theorem enter_nf (hk : ∀ b o, h₀.get? b = some o → s.heap.get? b = some o) (hsz : h₀.objs.size ≤ s.heap.objs.size) (X₀ : K.In h₀) (hlim : h₀.NoLimit)
    (hn : ∀ p ∈ news, s.heap.get? p.1 = some p.2 ∧ h₀.get? p.1 = none)
    (ho : K.lookup f = some ⟨oc, od, .func (fnOf name qual params body scope dV kV doc pm an cdv ct), osl⟩) (hcd : codeIn K cdv qual = true) (hroom : A.depth < recursionLimit)
    (hbind : BindsTo s (fnOf name qual params body scope dV kV doc pm an cdv ct) args binds) (hloc : ∀ y ∈ binds, scope.names.lookup y.1 = some .local)
    (h : ∀ h₁, Fr h₀ s.heap.objs.size h₁ (fun y => binds.reverse.lookup y) → News h₀ s.heap.objs.size h₁ news → (∀ b o, s.heap.get? b = some o → h₁.get? b = some o) →
      wpAny (model prog w) (A.deeper (envOf qual scope s.heap.objs.size f cdv)) (execs body (envOf qual scope s.heap.objs.size f cdv))
        (fun fl s' => R (.ok (.ret (match fl with | .ret v => v | _ => .none))) s') (fun _ _ => False)
        { s with heap := h₁, toks := s.toks + binds.length })
    (hcell : ∀ x ∈ scope.names, x.2 ≠ .cell) (hco : scope.isCoroutine = false := by rfl) (hgen : scope.isGenerator = false := by rfl) (hkk : scope.kind = .function := by rfl) : codeAny (model prog w) A (.call (.ref f) args) R s := by
  refine codeAny_call_def (fd := fnOf name qual params body scope dV kV doc pm an cdv ct) (body := body) (binds := binds) hroom (hk _ _ (X₀ _ _ ho)) rfl (hlim.keeps hk) ((codeRec_of X₀ hcd).keeps hk) rfl hbind hcell hloc (fun h₁ hns hk₁ => ?_) hco hgen hkk
  exact wpAny_mono (h h₁ ⟨hns, fun b o e => hk₁ b o (hk b o e), hsz⟩ (fun p hp => ⟨hk₁ _ _ (hn p hp).1, Nat.ne_of_lt (Heap.lt_size (hn p hp).1), (hn p hp).2⟩) hk₁) (fun _ _ x => x) fun _ _ x => x.elim
end

/-- h' bears all that h bore -/
def Ext (h h' : Heap) : Prop := (∀ b o, h.get? b = some o → h'.get? b = some o) ∧ h.objs.size ≤ h'.objs.size
theorem Ext.refl (h : Heap) : Ext h h := ⟨fun _ _ e => e, Nat.le_refl _⟩
theorem Ext.trans {a b c : Heap} (x : Ext a b) (y : Ext b c) : Ext a c := ⟨fun p o e => y.1 p o (x.1 p o e), Nat.le_trans x.2 y.2⟩
theorem Ext.of_fr {h₀ h' : Heap} {m : Str → Option Value} (F : Fr h₀ h₀.objs.size h' m) : Ext h₀ h' := ⟨F.keep, Nat.le_of_lt F.ns.lt⟩
theorem Fr.ext {h₀ h h' : Heap} {L : Addr} {m : Str → Option Value} (F : Fr h₀ L h m) (x : Ext h h') : Fr h₀ L h' m := ⟨F.ns.keeps x.1, fun b o e => x.1 b o (F.keep b o e), F.above⟩
theorem News.ext {h₀ h h' : Heap} {L : Addr} {news : List (Addr × Obj)} (N : News h₀ L h news) (x : Ext h h') : News h₀ L h' news := fun p hp => ⟨x.1 _ _ (N p hp).1, (N p hp).2⟩
theorem hk_self (h : Heap) : ∀ b o, h.get? b = some o → h.get? b = some o := fun _ _ e => e
theorem hn_nil (h h₀ : Heap) : ∀ p ∈ ([] : List (Addr × Obj)), h.get? p.1 = some p.2 ∧ h₀.get? p.1 = none := fun _ hp => nomatch hp

-- MACROS
local macro_rules | `(tactic| walk_at "nf room") => `(tactic| ((try dsimp only [Around.deeper, Around.in1] at *); (try simp only [recursionLimit, cLine] at *); omega))
local macro_rules | `(tactic| walk_at "nf enter") => `(tactic| ((case k1 => assumption); (case k2 => assumption); (case k3 => assumption); (case k4 => assumption); (case k5 => assumption); (case k6 => k_is); (case k7 => k_is); (case k8 => walk_at "nf room"); (case k9 => exact BindsTo.of_eq rfl); (case c2 => decide); (case kB => exact locs rfl); (case c3 => exact rfl); (case c4 => exact rfl); (case c5 => exact rfl); k_whole))
local macro_rules | `(tactic| walk_at "eval Call") => `(tactic| (k_here; (with_reducible show wpAny _ _ (eval (Expr.Call _ _ [] _) _) _ _ _); k_dflt (refine Call_ ?_)))
-- END MACROS

def amodV (a b : Int) : Int := if Int.fmod a b = 0 then b else Int.fmod a b

section
variable {w : World} {loose : List Str} {mean : ExcName → Option Value} {mg mb : Str → Option Value} {A : Around} {s : Shared} {h₀ : Heap} {L : Addr} {m : Str → Option Value} {news : List (Addr × Obj)} {Q E : Value → Shared → Prop}

theorem amod_nf (G : Gd w loose mean mg mb s.heap) (hh : A.handled = none) (hd : A.depth + 30 < recursionLimit) (hu : A.units + 60 < cLine)
    {a : Int} {ta : Tok} {b : Int} {tb : Tok} (hb : b = 13 ∨ b = 20)
    (ret : ∀ h' tk' t, Ext s.heap h' → Q (.int (amodV a b) t) { s with heap := h', toks := tk' }) :
    wpAny (model prog w) A (call (.ref 28) [.int a ta, .int b tb]) Q E s := by
  obtain ⟨X, T⟩ := G
  obtain ⟨hd', dp, fr, gd, un⟩ := A
  subst hh
  have hk := hk_self s.heap
  have hsz := Nat.le_refl s.heap.objs.size
  have hlim := T.nolimit
  have hn := hn_nil s.heap s.heap
  refine wpAny_call ?_
  k_dflt (refine' enter_nf [(Str.ofString "a", .int a ta), (Str.ofString "b", .int b tb)] ?k1 ?k2 ?k3 ?k4 ?k5 ?k6 ?k7 ?k8 ?k9 ?kB ?_ ?c2 ?c3 ?c4 ?c5; walk_at "nf enter")
  intro h' F' N' hall'
  try dsimp only
  clear hall'
  k_steps
  all_goals (rename Fr _ _ _ _ => F9; have e9 := Ext.of_fr F9; dsimp only)
  · exact Eq.mp (congrArg (fun x => Q (Value.int x _) _) (show amodV a b = b from if_pos (by assumption))) (ret _ _ _ e9)
  · exact Eq.mp (congrArg (fun x => Q (Value.int x _) _) (show amodV a b = Int.fmod a b from if_neg (by assumption))) (ret _ _ _ e9)

theorem amod_K {a : Int} {ta : Tok} {b : Int} {tb : Tok} (F : Fr h₀ L s.heap m) (N : News h₀ L s.heap news) (X : (hd.heap_39 w.params).In h₀) (T : Top p0 loose mean mg mb h₀) (hh : A.handled = none) (hd : A.depth + 30 < recursionLimit) (hu : A.units + 60 < cLine) (hb : b = 13 ∨ b = 20)
    (ret : ∀ h' tk' t, Fr h₀ L h' m → News h₀ L h' news → Q (.int (amodV a b) t) { s with heap := h', toks := tk' }) :
    wpAny (model prog w) A (call (.ref 28) [.int a ta, .int b tb]) Q E s :=
  amod_nf (Gd.keeps ⟨X, T⟩ F.keep) hh hd hu hb fun h' tk' t x => ret h' tk' t (Fr.ext F x) (News.ext N x)
end
-- MACROS
local macro_rules | `(tactic| walk_at "call ref") => `(tactic| ((with_reducible show wpAny _ _ (call (Value.ref 28) [Value.int _ _, Value.int _ _]) _ _ _); (rename Fr _ _ _ _ => F8); (rename News _ _ _ _ => N8); k_dflt ((refine amod_K F8 N8 (by assumption) (by assumption) rfl ?k1 ?k2 (by decide) ?_; (case k1 => walk_at "nf room"); (case k2 => walk_at "nf room"))); clear F8 N8; intro h' tk' t' F' N'; (try dsimp only)))
-- END MACROS

/-- the items of the text's own list and of the law's own tuple -/
def par0 : Params := { strHash := fun _ => 0, shareClass := fun _ => 0, mergeTok := id, idOf := fun _ => 0, idOfShared := fun _ _ => 0, followText := fun _ => false, idOfImm := fun _ => 0 }
noncomputable def itemsAt (a : Addr) : List Value := match (hd.heap_39 par0).lookup a with
  | some ⟨_, _, .seq xs _, _⟩ => xs.toList
  | _ => []
def tokOf : Value → Tok
  | .str _ t => t
  | _ => 0
def strOf : Value → Str
  | .str x _ => x
  | _ => Str.empty
noncomputable def nameAt (k : Nat) : Str := strOf ((itemsAt 29).getD k .none)
theorem items29 : ∀ k, k < 20 → (itemsAt 29)[k]? = some (.str (nameAt k) (tokOf ((itemsAt 29).getD k .none))) := by decide +kernel
theorem items59 : ∀ k, k < 20 → (itemsAt 59)[k]? = some (.str (nameAt k) (tokOf ((itemsAt 59).getD k .none))) := by decide +kernel
theorem name_inj : ∀ j, j < 20 → ∀ k, k < 20 → nameAt j = nameAt k → j = k := by decide +kernel
/-- the place of a written index -/
def plc (j : Int) : Nat := (if j < 0 then j + 20 else j).toNat

section
variable {w : World} {loose : List Str} {mean : ExcName → Option Value} {mg mb : Str → Option Value} {A : Around} {s : Shared} {h₀ : Heap} {L : Addr} {m : Str → Option Value} {news : List (Addr × Obj)} {Q E : Value → Shared → Prop}

theorem list29 {h : Heap} (X : (hd.heap_39 w.params).In h) : h.IsList 29 (itemsAt 29).toArray := by
  refine lstK (n := 0) (dd := none) (sl := #[]) X ?_
  kernel_rfl
theorem tup59 {h : Heap} (X : (hd.heap_39 w.params).In h) : IsTup h 59 (itemsAt 59).toArray := by
  refine tupK (n := 0) (dd := none) (sl := #[]) X ?_
  kernel_rfl
theorem len29 : (itemsAt 29).length = 20 := by decide +kernel
theorem len59 : (itemsAt 59).length = 20 := by decide +kernel

theorem item29_K {value slice : Expr} {j : Int} {u : Tok} (F : Fr h₀ L s.heap m) (X : (hd.heap_39 w.params).In h₀) (h1 : -20 ≤ j) (h2 : j < 20)
    (h : ∀ t, Q (.str (nameAt (plc j)) t) s)
    (hs : subscripted slice false (.ref 29) (.int j u) = operate [.ref 29, .int j u] (getItem (.ref 29) (.int j u))) :
    wpAny (model prog w) A (subscriptTail value slice (.ref 29) (.int j u)) Q E s := by
  have hL := list29 (X.keeps F.keep)
  have hlen : (itemsAt 29).toArray.size = 20 := by rw [List.size_toArray]; exact len29
  refine tail_any hL.typeIs slot_list_getitem.lookup ?_ hs
  have hp : plc j < 20 := by unfold plc; split <;> omega
  by_cases hj : j < 0
  · refine wpAny_getItem_list_neg hL hj (by rw [hlen]; omega) (by omega) ?_ (h (tokOf ((itemsAt 29).getD (plc j) .none)))
    rw [hlen, List.getElem?_toArray]
    have e : (j + (20 : Nat)).toNat = plc j := by unfold plc; rw [if_pos hj]; rfl
    rw [e]; exact items29 _ hp
  · refine wpAny_getItem_list hL (by omega) (by omega) ?_ (h (tokOf ((itemsAt 29).getD (plc j) .none)))
    rw [List.getElem?_toArray]
    have e : j.toNat = plc j := by unfold plc; rw [if_neg hj]
    rw [e]; exact items29 _ hp

theorem item59_K {value slice : Expr} {j : Int} {u : Tok} (F : Fr h₀ L s.heap m) (X : (hd.heap_39 w.params).In h₀) (h1 : 0 ≤ j) (h2 : j < 20)
    (h : ∀ t, Q (.str (nameAt j.toNat) t) s)
    (hs : subscripted slice false (.ref 59) (.int j u) = operate [.ref 59, .int j u] (getItem (.ref 59) (.int j u))) :
    wpAny (model prog w) A (subscriptTail value slice (.ref 59) (.int j u)) Q E s := by
  have hT := tup59 (X.keeps F.keep)
  refine item_tupleT hT (by omega) (by omega) (j := j.toNat) ?_ (items59 _ (by omega)) (h _) hs
  rw [len59]
  exact seqIndex_of h1 (by omega)
end
-- MACROS
local macro_rules | `(tactic| walk_at "nf idx") => `(tactic| first | omega | ((try k_fmods); omega) | ((simp only [decide_eq_true_eq, decide_eq_false_iff_not, Bool.and_eq_true] at *); omega) | ((try k_fmods); (simp only [decide_eq_true_eq, decide_eq_false_iff_not, Bool.and_eq_true] at *); omega))
local macro_rules | `(tactic| walk_at "subscriptTail") => `(tactic| ((with_reducible show wpAny _ _ (subscriptTail _ _ (Value.ref 29) (Value.int _ _)) _ _ _); (rename Fr _ _ _ _ => F8); (refine item29_K F8 (by assumption) ?k1 ?k2 ?_ (by with_unfolding_all rfl); (case k1 => walk_at "nf idx"); (case k2 => walk_at "nf idx")); intro t'))
local macro_rules | `(tactic| walk_at "subscriptTail") => `(tactic| ((with_reducible show wpAny _ _ (subscriptTail _ _ (Value.ref 59) (Value.int _ _)) _ _ _); (rename Fr _ _ _ _ => F8); (refine item59_K F8 (by assumption) ?k1 ?k2 ?_ (by with_unfolding_all rfl); (case k1 => walk_at "nf idx"); (case k2 => walk_at "nf idx")); intro t'))
-- END MACROS

/-- the date that count i stands for -/
def dayNum (i : Int) : Int := amodV i 13
def dayPlace (i : Int) : Nat := plc (Int.fmod i 20 - 1)

section
variable {w : World} {loose : List Str} {mean : ExcName → Option Value} {mg mb : Str → Option Value} {A : Around} {s : Shared} {h₀ : Heap} {L : Addr} {m : Str → Option Value} {news : List (Addr × Obj)} {Q E : Value → Shared → Prop}
theorem from_count_nf (G : Gd w loose mean mg mb s.heap) (hh : A.handled = none) (hd : A.depth + 40 < recursionLimit) (hu : A.units + 80 < cLine)
    {i : Int} {ti : Tok}
    (ret : ∀ h' tk' t₁ t₂ a, Ext s.heap h' → s.heap.get? a = none → h'.get? a = some { cls := .type "tuple", data := .seq #[.int (dayNum i) t₁, .str (nameAt (dayPlace i)) t₂] } → Q (.ref a) { s with heap := h', toks := tk' }) :
    wpAny (model prog w) A (call (.ref 43) [.int i ti]) Q E s := by
  obtain ⟨X, T⟩ := G
  obtain ⟨hd', dp, fr, gd, un⟩ := A
  subst hh
  have hk := hk_self s.heap
  have hsz := Nat.le_refl s.heap.objs.size
  have hlim := T.nolimit
  have hn := hn_nil s.heap s.heap
  refine wpAny_call ?_
  k_dflt (refine' enter_nf [(Str.ofString "count", .int i ti)] ?k1 ?k2 ?k3 ?k4 ?k5 ?k6 ?k7 ?k8 ?k9 ?kB ?_ ?c2 ?c3 ?c4 ?c5; walk_at "nf enter")
  intro h' F' N' hall'
  try dsimp only
  clear hall'
  k_steps
  rename Fr _ _ _ _ => F9
  rename News _ _ _ _ => N9
  exact ret _ _ _ _ _ (Ext.of_fr F9) (N9 _ (List.mem_cons_self ..)).2.2 (N9 _ (List.mem_cons_self ..)).1
theorem from_count_K {i : Int} {ti : Tok} (F : Fr h₀ L s.heap m) (N : News h₀ L s.heap news) (X : (hd.heap_39 w.params).In h₀) (T : Top p0 loose mean mg mb h₀) (hh : A.handled = none) (hd : A.depth + 40 < recursionLimit) (hu : A.units + 80 < cLine)
    (ret : ∀ h' tk' t₁ t₂ a, Ext s.heap h' → s.heap.get? a = none → h'.get? a = some { cls := .type "tuple", data := .seq #[.int (dayNum i) t₁, .str (nameAt (dayPlace i)) t₂] } → Fr h₀ L h' m → News h₀ L h' news → Q (.ref a) { s with heap := h', toks := tk' }) :
    wpAny (model prog w) A (call (.ref 43) [.int i ti]) Q E s :=
  from_count_nf (Gd.keeps ⟨X, T⟩ F.keep) hh hd hu fun h' tk' t₁ t₂ a x y z => ret h' tk' t₁ t₂ a x y z (Fr.ext F x) (News.ext N x)
end

/-- the def of the generator, as the text's own objects bear it -/
noncomputable def tzP : {f : FuncData // (hd.heap_39 par0).lookup 58 = some ⟨.type "function", none, .func f, #[]⟩} := ⟨_, by k_is⟩
noncomputable def tzScope : Scope := tzP.1.scope
noncomputable def tzBody : List Stmt := match tzP.1.body with
  | .stmts b => b
  | _ => []
noncomputable def envTz (Lg : Addr) : Env := envOf (Str.ofString "tzolkin_generator") tzScope Lg 58 (.ref 57)
noncomputable def tzFor : Stmt := tzBody.getD 6 default
noncomputable def forTarget : Stmt → Expr
  | .For t _ _ _ _ => t
  | _ => default
noncomputable def forBody : Stmt → List Stmt
  | .For _ _ b _ _ => b
  | _ => []
noncomputable def yieldOf : List Stmt → Expr × Pos × Pos
  | [.Expr (.Yield (some e) yp) p] => (e, yp, p)
  | _ => (default, default, default)
noncomputable def tzElt : Expr := (yieldOf (forBody tzFor)).1

-- MACROS
local macro_rules | `(tactic| walk_at "call ref") => `(tactic| ((with_reducible show wpAny _ _ (call (Value.ref 43) [Value.int _ _]) _ _ _); (rename Fr _ _ _ _ => F8); (rename News _ _ _ _ => N8); k_dflt ((refine from_count_K F8 N8 (by assumption) (by assumption) ?k0 ?k1 ?k2 ?_; (case k0 => first | assumption | exact rfl); (case k1 => walk_at "nf room"); (case k2 => walk_at "nf room"))); intro h' tk' t1' t2' a' e' f' g' F' N'; (try dsimp only)))
-- END MACROS
section
variable {w : World} {loose : List Str} {mean : ExcName → Option Value} {mg mb : Str → Option Value} {A : Around} {s : Shared} {hb : Heap} {Lg : Addr} {m : Str → Option Value} {Q E : Value → Shared → Prop}
theorem eval_elt {i : Int} {ti : Tok} (G : Gd w loose mean mg mb hb) (F : Fr hb Lg s.heap (fun y => if y = Str.ofString "i" then some (.int i ti) else m y)) (hh : A.handled = none) (hd : A.depth + 40 < recursionLimit) (hu : A.units + 80 < cLine)
    (ret : ∀ h' tk' t₁ t₂ a, Ext s.heap h' → s.heap.get? a = none → h'.get? a = some { cls := .type "tuple", data := .seq #[.int (dayNum i) t₁, .str (nameAt (dayPlace i)) t₂] } → Q (.ref a) { s with heap := h', toks := tk' }) :
    wpAny (model prog w) A (eval tzElt (envTz Lg)) Q E s := by
  obtain ⟨X, T⟩ := G
  have N : News hb Lg s.heap [] := News.nil
  conv in tzElt => whnf
  conv in envTz _ => unfold envTz; arg 2; whnf
  k_steps
  exact ret _ _ _ _ _ (by assumption) (by assumption) (by assumption)
end

section
variable {M : Model} {A : Around} {c : Code} {fs : List Frame} {s : Shared} {P : End → Shared → Prop}
theorem s_wrap {α : Type} {m : Sem α} {K : α → Sem Fin} {H : Value → Sem Fin} {gd : Bool → Bool} {lv : List Value → List Value}
    (h : wpAny M (A.over c fs) m (fun a s' => SegX M A c (K a) fs s' P) (fun x s' => SegX M A c (H x) fs s' P) s) : SegX M A c (m.wrap K H gd lv) fs s P := by
  rintro Γ p rfl hΓ
  exact runs_wrap_of_wp (Φ := fun e s' => e.quiet = true ∧ P e s') K H gd lv m (h (Γ.over fs) p (hΓ.over fs)) (fun a p' s' h' => h' Γ p' rfl hΓ) (fun x p' s' h' => h' Γ p' rfl hΓ)
theorem s_bind_wrap {α β : Type} {m : Sem α} {K : α → Sem β} {K' : β → Sem Fin} {H' : Value → Sem Fin} {gd : Bool → Bool} {lv : List Value → List Value}
    (h : wpAny M (A.over c fs) m (fun a s' => SegX M A c ((K a).wrap K' H' gd lv) fs s' P) (fun x s' => SegX M A c (H' x) fs s' P) s) : SegX M A c ((m >>= K).wrap K' H' gd lv) fs s P := by
  rw [Sem.bind_eq_wrap', Sem.wrap_wrap]; exact s_wrap h
end

/-- how the generator's own things lie, j items of its list taken -/
structure TzHeap (Lg it rg : Addr) (items : Array Value) (j : Nat) (h : Heap) : Prop where
  fr : ∃ m, h.Ns Lg m
  it : h.IsListIter it rg j
  ls : h.IsList rg items
theorem TzHeap.keeps {Lg it rg : Addr} {items : Array Value} {j : Nat} {h h' : Heap} (x : TzHeap Lg it rg items j h) (hk : ∀ b o, b = Lg ∨ b = it ∨ b = rg → h.get? b = some o → h'.get? b = some o) : TzHeap Lg it rg items j h' :=
  ⟨let ⟨m, o, es, ep, ho, r⟩ := x.fr; ⟨m, o, es, ep, hk _ _ (.inl rfl) ho, r⟩, let ⟨o, ho, r⟩ := x.it; ⟨o, hk _ _ (.inr (.inl rfl)) ho, r⟩, let ⟨o, ho, r⟩ := x.ls; ⟨o, hk _ _ (.inr (.inr rfl)) ho, r⟩⟩

structure okA (A : Around) : Prop where
  hh : A.handled = none
  hd : A.depth + 100 < recursionLimit
  hu : A.units + 200 < cLine

noncomputable def dateTup (i : Int) (t₁ t₂ : Tok) : Obj := { cls := .type "tuple", data := .seq #[.int (dayNum i) t₁, .str (nameAt (dayPlace i)) t₂] }

def TzOut (Lg it rg : Addr) (items : Array Value) (j : Nat) (i : Int) (next : GenState → Prop) (s : Shared) (e : End) (s' : Shared) : Prop :=
  ∃ a t₁ t₂ h' tk', e.result = .yielded (.ref a) ∧ s' = { s with heap := h', toks := tk' } ∧ (∀ b o, b ≠ Lg → b ≠ it → s.heap.get? b = some o → h'.get? b = some o) ∧
    s.heap.get? a = none ∧ h'.get? a = some (dateTup i t₁ t₂) ∧ TzHeap Lg it rg items (j + 1) h' ∧ next e.genState

noncomputable def TzSusp (w : World) (hb : Heap) (Lg it rg : Addr) (items : Array Value) : Nat → GenState → Prop
  | 0, gs => gs.bare = true
  | n + 1, gs => gs.bare = true ∧ ∃ k l c p fs cl, gs = .suspended k l c p fs cl ∧ ∀ (A : Around) (j : Nat) (i : Int) (t : Tok) (s : Shared), okA A → (∀ b o, hb.get? b = some o → s.heap.get? b = some o) →
      TzHeap Lg it rg items j s.heap → items[j]? = some (.int i t) → SegX (model prog w) A c (k (.send .none)) fs s (TzOut Lg it rg items j i (TzSusp w hb Lg it rg items n) s)

theorem TzSusp.bare {w : World} {hb : Heap} {Lg it rg : Addr} {items : Array Value} : ∀ {n : Nat} {gs : GenState}, TzSusp w hb Lg it rg items n gs → gs.bare = true
  | 0, _, h => h
  | _ + 1, _, h => h.1

theorem over_ok {A : Around} {c : Code} {fs : List Frame} (ok : okA A) (hfs : (marksOver fs (none, none)).1 = none) (hdp : frameCount (fs.map Frame.where_) + c.weight ≤ 3) (hun : unitsOf (fs.map Frame.where_) + c.cUnits ≤ 10) :
    (A.over c fs).handled = none ∧ (A.over c fs).depth + 90 < recursionLimit ∧ (A.over c fs).units + 180 < cLine := by
  obtain ⟨hh, hd, hu⟩ := ok
  refine ⟨?_, ?_, ?_⟩
  · show (marksOver fs (A.handled, A.handled)).1 = none
    rw [hh]; exact hfs
  · show A.depth + frameCount (fs.map Frame.where_) + c.weight + 90 < recursionLimit
    omega
  · show A.units + unitsOf (fs.map Frame.where_) + c.cUnits + 180 < cLine
    omega

section
variable {w : World} {hb : Heap} {Lg it rg : Addr} {items : Array Value} {env : Env} {x : Str} {px : Pos} {elt : Expr} {ypos ep : Pos} {fs : List Frame}
/-- one turn of the generator's loop, from its head to its yield -/
theorem tz_loop (hloc : env.locals = Lg) (hx : env.kindOf x = some .local) (hp : (env.scope.kind == .class || (env.scope.kind == .module && env.locals != env.globals)) = false) (hco : env.scope.isCoroutine = false) (hi : interactive env = false)
    (hsz : hb.objs.size ≤ Lg) (hit : hb.objs.size ≤ it) (d1 : Lg ≠ it) (d2 : Lg ≠ rg) (d3 : it ≠ rg)
    (hfs : splitAtGen fs = none) (hfg : fs.any Frame.guarded = false) (hm : (marksOver fs (none, none)).1 = none)
    (hdp : frameCount (fs.map Frame.where_) + (Code.forLoop (.Name x px) (.ref it) [.Expr (.Yield (some elt) ypos) ep] [] env).weight ≤ 3)
    (hun : unitsOf (fs.map Frame.where_) + (Code.forLoop (.Name x px) (.ref it) [.Expr (.Yield (some elt) ypos) ep] [] env).cUnits ≤ 10)
    (helt : ∀ (A : Around) (s : Shared) (m : Str → Option Value) (i : Int) (t : Tok) (Q E : Value → Shared → Prop), A.handled = none → A.depth + 40 < recursionLimit → A.units + 80 < cLine →
      Fr hb env.locals s.heap (fun y => if y = x then some (.int i t) else m y) →
      (∀ h' tk' t₁ t₂ a, Ext s.heap h' → s.heap.get? a = none → h'.get? a = some (dateTup i t₁ t₂) → Q (.ref a) { s with heap := h', toks := tk' }) → wpAny (model prog w) A (eval elt env) Q E s) :
    ∀ (n : Nat) (A : Around) (j : Nat) (i : Int) (t : Tok) (s : Shared), okA A → (∀ b o, hb.get? b = some o → s.heap.get? b = some o) → TzHeap Lg it rg items j s.heap → items[j]? = some (.int i t) →
      SegX (model prog w) A (.forLoop (.Name x px) (.ref it) [.Expr (.Yield (some elt) ypos) ep] [] env) ((model prog w).den (.forLoop (.Name x px) (.ref it) [.Expr (.Yield (some elt) ypos) ep] [] env)) fs s
        (TzOut Lg it rg items j i (TzSusp w hb Lg it rg items n) s) := by
  subst hloc
  intro n
  induction n using Nat.strongRecOn with
  | ind n ih =>
    intro A j i t s ok hk hT hj
    obtain ⟨o1, o2, o3⟩ := over_ok ok hm hdp hun
    show SegX _ A _ ((forTurn (.Name x px) (.ref it) [.Expr (.Yield (some elt) ypos) ep] [] env).onRaise (fun x => do noteFrame x env; theTreesLotGoes x)) fs s _
    unfold forTurn
    rw [Sem.onRaise_eq_wrap]
    refine s_bind_wrap (wpAny_standAt ?_)
    refine s_bind_wrap (wpAny_onRaise (wpAny_pyNext_list_item hT.it hT.ls hj fun h₁ hit₁ hs₁ => ?_))
    refine s_bind_wrap (wpAny_of_eq (rfl : letOwnedTupleGo (.Name x px) (.ref it) _ = pure ()) ?_)
    obtain ⟨m, hm₀⟩ := hT.fr
    refine s_bind_wrap (wpAny_assign_Name (wpAny_storeName_local hx (hm₀.sameBut hs₁ d1) (fun h₂ hn₂ hs₂ => ?_) hp))
    rw [Sem.bind_eq_wrap', Sem.wrap_wrap, execs_cons_wrap, exec_Expr env _ ep hi rfl]
    have hy : ∀ v, yieldOut env v = yieldValue v := fun v => by simp only [yieldOut, hco, Bool.false_eq_true, if_false]
    refine s_bind_wrap (wpAny_standAt ?_)
    show SegX _ A _ (Sem.wrap _ _ _ _ ((eval elt env >>= fun v => (standAt ypos >>= fun _ => yieldOut env v)) >>= fun x => dropValue (.Yield (some elt) ypos) ep x)) fs _ _
    simp only [hy]
    have keep₂ : ∀ b o, b ≠ env.locals → b ≠ it → s.heap.get? b = some o → h₂.get? b = some o := fun b o n1 n2 e => (hs₂.2 b n1).trans ((hs₁.2 b n2).trans e)
    have sz₂ : h₂.objs.size = s.heap.objs.size := hs₂.1.trans hs₁.1
    have F₂ : Fr hb env.locals h₂ (fun y => if y = x then some (.int i t) else m y) := ⟨hn₂, fun b o e => keep₂ b o (Nat.ne_of_lt (Nat.lt_of_lt_of_le (Heap.lt_size e) hsz)) (Nat.ne_of_lt (Nat.lt_of_lt_of_le (Heap.lt_size e) hit)) (hk b o e), hsz⟩
    rw [Sem.bind_eq_wrap', Sem.bind_eq_wrap', Sem.wrap_wrap, Sem.wrap_wrap]
    refine s_wrap (helt _ _ m i t _ _ o1 (Nat.lt_of_le_of_lt (by omega) o2) (Nat.lt_of_le_of_lt (by omega) o3) F₂ fun h₃ tk₃ t₁ t₂ a x₃ f₃ g₃ => ?_)
    have hT₃ : TzHeap env.locals it rg items (j + 1) h₃ := by
      refine ⟨⟨_, hn₂.keeps x₃.1⟩, ?_, ?_⟩
      · obtain ⟨o, ho, r⟩ := hit₁
        exact ⟨o, x₃.1 _ _ ((hs₂.2 _ (Ne.symm d1)).trans ho), r⟩
      · obtain ⟨o, ho, r⟩ := hT.ls
        exact ⟨o, x₃.1 _ _ (keep₂ _ _ (Ne.symm d2) (Ne.symm d3) ho), r⟩
    have fresh : s.heap.get? a = none := by
      cases q : s.heap.get? a with
      | none => rfl
      | some o =>
        exfalso
        by_cases n1 : a = env.locals
        · obtain ⟨o', _, _, ho', _⟩ := hn₂
          rw [n1] at f₃
          exact absurd (ho'.symm.trans f₃) (by simp)
        · by_cases n2 : a = it
          · obtain ⟨o', ho', _⟩ := hit₁
            have := (hs₂.2 a n1).trans (n2 ▸ ho')
            exact absurd (this.symm.trans f₃) (by simp)
          · exact absurd ((keep₂ a o n1 n2 q).symm.trans f₃) (by simp)
    refine s_bind_wrap (wpAny_standAt ?_)
    refine s_yield _ _ _ _ _ _ _ _ _ _ hfs hfg fun p => ?_
    refine ⟨a, t₁, t₂, h₃, tk₃, rfl, rfl, fun b o n1 n2 e => x₃.1 b o (keep₂ b o n1 n2 e), fresh, g₃, hT₃, ?_⟩
    have bare : (!(false || fs.any Frame.guarded)) = true := by rw [hfg]; rfl
    cases n with
    | zero => exact bare
    | succ n =>
      refine ⟨bare, _, _, _, _, _, _, rfl, fun A' j' i' t' s' ok' hk' hT' hj' => ?_⟩
      exact s_again prog w A' _ fs _ s' _ rfl (ih n (Nat.lt_succ_self n) A' j' i' t' s' ok' hk' hT' hj')
end

section
variable {M : Model} {A : Around} {s : Shared} {E : Value → Shared → Prop}
/-- a generator's state, woken by a plain next, goes as P says -/
def GoesX (M : Model) (A : Around) (gs : GenState) (s : Shared) (P : End → Shared → Prop) : Prop := match gs with
  | .fresh c => SegX M A c (M.den c) [] s P
  | .suspended k _ c _ fs _ => SegX M A c (k (.send .none)) fs s P
  | _ => False

theorem wpAny_resumeX {g : Nat} {gs : GenState} {l : List Value} {α : Type} {k : GenResult → Sem α} {Q : α → Shared → Prop} {P : End → Shared → Prop} (hg : s.gens[g]? = some gs)
    (hgo : GoesX M A gs (s.setGen g .running) P) (hP : ∀ e s₁, e.quiet = true → P e s₁ → wpAny M A (k e.result) Q E (s₁.setGen g e.genState)) : wpAny M A (.resume g (.send .none) l k) Q E s := by
  intro Γ p hΓ
  rw [Sem.wp_resume]
  have hB : ∀ c, (Γ.wake c p).Woken A := fun c => hΓ.wake c p
  cases gs with
  | fresh c =>
    obtain ⟨e₁, s₁, hr, hq, he⟩ := hgo (Γ.wake c p) p rfl (hB c)
    exact ⟨_, _, by unfold Wakes; rw [hg]; exact ⟨e₁, s₁, hr, hq, rfl, rfl⟩, hP e₁ s₁ hq he Γ p hΓ⟩
  | suspended k₀ l₀ c₀ p₀ fs₀ cl =>
    obtain ⟨e₁, s₁, hr, hq, he⟩ := hgo (Γ.wake c₀ p) p₀ rfl (hB c₀)
    exact ⟨_, _, by unfold Wakes; rw [hg]; exact ⟨e₁, s₁, hr, hq, rfl, rfl⟩, hP e₁ s₁ hq he Γ p hΓ⟩
  | running => exact hgo.elim
  | finished => exact hgo.elim
end

section
variable {w : World} {A : Around} {s : Shared} {Q E : Value → Shared → Prop}
/-- next of a generator -/
theorem call_next {a : Addr} {g : Nat} {gs : GenState} {P : End → Shared → Prop} (hg : s.heap.IsGen a g) (hl : s.heap.NoLimit) (hroom : A.depth < recursionLimit) (hgs : s.gens[g]? = some gs)
    (hgo : GoesX (model prog w) A.in1.in1 gs (s.setGen g .running) P)
    (hP : ∀ e s₁, e.quiet = true → P e s₁ → (∃ v, e.result = .yielded v ∧ Q v (s₁.setGen g e.genState)) ∨
      (∃ x, e.result = .raised x ∧ wpAny (model prog w) A.in1.in1 (Builtin.Generator.genLeft (α := PySem.Fin) (.ref a) x) (fun _ _ => False) E (s₁.setGen g e.genState))) :
    wpAny (model prog w) A (call (.builtin "next") [.ref a]) Q E s := by
  refine call_function_entry (by decide +kernel) (by decide +kernel) kdk_entry_next (kdk_args_next _) ?_
  unfold Builtin.«next»
  refine wpAny_bind (m := someArgs "next" 1 2 _) (wpAny_of_eq (a := [Value.ref a]) (by first | rfl | kernel_rfl!) ?_)
  dsimp only
  refine wpAny_bind (wpAny_specialOf (name := Str.ofString "__next__") hg.typeIs slot_gen_next.lookup ?_)
  refine wpAny_ite_split (fun hab => absurd hab (by decide)) (fun _ => ?_)
  refine wpAny_bind (wpAny_callSpecial?_slot (name := Str.ofString "__next__") hg.typeIs slot_gen_next
    (wpAny_call_entry slot_gen_next hg.typeIs entry_gen_next ?_ (args_gen_next _)))
  show wpAny _ _ (Builtin.Generator.genWake (.ref a) (.send .none)) _ _ s
  unfold Builtin.Generator.genWake
  refine wpAny_bind (wpAny_holding (wpAny_genNumber hg (wpAny_bind (wpAny_genState hgs ?_))))
  cases gs with
  | running => exact hgo.elim
  | finished => exact hgo.elim
  | _ =>
    refine wpAny_bind (wpAny_roomToWake hl hroom ?_)
    show wpAny _ A.in1.in1 (.resume g (.send .none) [] _) _ _ s
    refine wpAny_resumeX hgs hgo fun e s₁ hq he => ?_
    rcases hP e s₁ hq he with ⟨v, hv, hQ⟩ | ⟨x, hx, hE⟩
    · rw [hv]
      exact wpAny_pure ⟨v, rfl, wpAny_pure ⟨_, rfl, hQ⟩⟩
    · rw [hx]
      exact wpAny_mono hE (fun _ _ h => h.elim) fun _ _ h => h
end

/-- the table of places of the code object 49 -/
def CTo (o : Obj) : Prop := ∃ ps : Array Value, o = { cls := .none, data := .fields ps } ∧ TriplesOk ps.toList
def GExt (G G' : Array GenState) : Prop := G.size ≤ G'.size ∧ (∀ k, k < G.size → G'[k]? = G[k]?) ∧ (AllBare G → AllBare G')
theorem GExt.refl (G : Array GenState) : GExt G G := ⟨Nat.le_refl _, fun _ _ => rfl, id⟩
theorem GExt.trans {a b c : Array GenState} (x : GExt a b) (y : GExt b c) : GExt a c := ⟨Nat.le_trans x.1 y.1, fun k hk => (y.2.1 k (Nat.lt_of_lt_of_le hk x.1)).trans (x.2.1 k hk), fun h => y.2.2 (x.2.2 h)⟩

/-- iterating I hands on val 0 .. val (n - 1); it writes at places not below B alone -/
def SetGen (w : World) (A : Around) (I : Addr) (B : Nat) (G₀ : Array GenState) (n : Nat) (val : Nat → Int) (s : Shared) : Prop :=
  ∃ (fp wr : List Addr) (G : Array GenState → Array GenState → Prop) (P : Nat → Value → Prop) (St : Nat → Shared → Prop), WalksS prog w A.in4 I fp wr G n P St ∧ St 0 s ∧ (∀ b ∈ wr, B ≤ b) ∧ (∀ b ∈ fp, b < s.heap.objs.size) ∧
    (∀ i v, P i v → ∃ t, v = .int (val i) t) ∧ (∀ G', G s.gens G' → GExt G₀ G') ∧ s.TypeIs (.ref I) "generator" ∧ B ≤ s.heap.objs.size

theorem passing_all (n : Nat) : passing (fun _ => true) n 0 = List.range n := by
  unfold passing; simp

section
variable {w : World} {loose : List Str} {mean : ExcName → Option Value} {mg mb : Str → Option Value} {A : Around} {s : Shared} {h₀ : Heap} {L : Addr} {m : Str → Option Value} {news : List (Addr × Obj)} {Q E : Value → Shared → Prop}

theorem code49 {h : Heap} (X : (hd.heap_39 w.params).In h) : ∃ o vs file tf flags tg inF text tt, h.get? 49 = some o ∧ o.data = .fields vs ∧ vs.getD 11 .none = .ref 45 ∧ vs.getD 18 .none = .str file tf ∧
    vs.getD 7 .none = .int flags tg ∧ vs.getD 9 .none = .bool inF ∧ vs.getD 10 .none = .int text tt ∧ o.cls = .type "code" ∧ vs[11]? = some (.ref 45) :=
  ⟨_, _, _, _, _, _, _, _, _, X 49 _ (by k_is), rfl, rfl, rfl, rfl, rfl, rfl, rfl, rfl⟩
theorem isCode49 {h : Heap} (X : (hd.heap_39 w.params).In h) {ps : Array Value} (e : h.get? 45 = some { cls := .none, data := .fields ps }) (ht : TriplesOk ps.toList) : h.IsCode 49 45 ps ∧ h.TableAt 49 45 ps := by
  obtain ⟨o, vs, file, tf, flags, tg, inF, text, tt, e1, e2, e3, e4, e5, e6, e7, e8, e9⟩ := code49 X
  exact ⟨⟨o, vs, file, tf, flags, tg, inF, text, tt, _, e1, e2, e3, e4, e5, e6, e7, e, rfl, ht, by decide⟩, ⟨⟨o, vs, e1, e8, e2, e9⟩, e⟩⟩

theorem ct_code {env : Env} {pos : Pos} {q : Str} {sc : Scope} (X : (hd.heap_39 w.params).In (hideAll s.heap [45])) (hc : env.code = .ref 49) {o : Obj} (ho : s.heap.get? 45 = some o) (hct : CTo o)
    (h : ∀ c h' tk o', (∀ b x, b ≠ 45 → s.heap.get? b = some x → h'.get? b = some x) → h'.get? 45 = some o' → CTo o' → s.heap.objs.size ≤ h'.objs.size → Q c { s with heap := h', toks := tk }) :
    wpAny (model prog w) A (genexprCode env pos q sc) Q E s := by
  obtain ⟨ps, rfl, ht⟩ := hct
  have X' : (hd.heap_39 w.params).In s.heap := X.keeps fun b o e => of_hideAll _ e
  obtain ⟨hok, htab⟩ := isCode49 X' ho ht
  cases hf : codeAmong pos ps.toList with
  | some c' => exact wpAny_genexprCode_hit hc hok hf (h c' s.heap s.toks _ (fun _ _ _ e => e) ho ⟨ps, rfl, ht⟩ (Nat.le_refl _))
  | none =>
    refine wpAny_genexprCodeX hc hok htab hf fun c' h' tk hx hge hlt hcode hrec htab' _ => ?_
    obtain ⟨_, _, _, _, _, _, _, _, _, op, _, _, _, _, _, _, _, hop, hpd, htr, _⟩ := hcode
    refine h _ h' tk _ (fun b x n e => hx b x n e) htab'.2 ⟨_, rfl, ?_⟩ (by omega)
    have := htab'.2
    rw [hop] at this
    cases this
    cases hpd
    exact htr

/-- a generator expression «x + y» over a range, y the def's own cell -/
theorem genexp_K {cn : Str} {cs : Scope} {La fa : Addr} {cl : List (Str × Addr)} {x y : Str} {px pa pb pc pos : Pos} {iter : Expr} {scope : Scope} {cl' : List (Str × Addr)} {cy : Addr} {oy tb : Obj} {kv : Int} {tkv : Tok} {g : Obj → List (Addr × Obj)} {st : Int} {n : Nat}
    (F : Fr h₀ L s.heap m) (N : News h₀ L s.heap news) (X : (hd.heap_39 w.params).In h₀) (T : Top p0 loose mean mg mb h₀) (hh : A.handled = none) (hd : A.depth + 10 < recursionLimit)
    (U : UpdF 45 tb news g) (hct : CTo tb) (h45 : h₀.get? 45 = none) (hcy : (cy, oy) ∈ news) (hoy : oy.data = .cell (some (.int kv tkv))) (hne : cy ≠ 45)
    (hclos : closureFor scope (envX cn cs La fa (.ref 49) cl) = pure cl') (hlk : cl'.lookup y = some cy)
    (hst : 0 < st) (hsmall : Builtin.Range.small 0 260 st = true) (hn : Builtin.Range.rangeSize 0 260 st = (n : Int))
    (hco : scope.isCoroutine = false) (hcell : ∀ z ∈ scope.names, z.2 ≠ .cell) (h0 : scope.names.lookup (".0" : Str) = some NameKind.local) (hx : scope.names.lookup x = some .local) (hyk : scope.names.lookup y = some .free) (hkind : scope.kind = .function)
    (hxd : (x == ("__debug__" : Str)) = false) (hyd : (y == ("__debug__" : Str)) = false) (hyc : (y == ("__classdict__" : Str)) = false)
    (hs : ∀ z, genFold iter (envX cn cs La fa (.ref 49) cl) z = pure z)
    (hiter : ∀ (Q' E' : Value → Shared → Prop), (∀ h' tk r t₁ u₁ v₁, Fr h₀ L h' m → News h₀ L h' news → s.heap.objs.size ≤ h'.objs.size → IsRange h' r 0 260 st t₁ u₁ v₁ → Q' (.ref r) { s with heap := h', toks := tk }) → wpAny (model prog w) A (eval iter (envX cn cs La fa (.ref 49) cl)) Q' E' s)
    (ret : ∀ h' tk' G' I tb' B, Fr h₀ L h' m → News h₀ L h' (g tb') → CTo tb' → (∀ p ∈ g tb', p.1 < B) → L < B → h₀.objs.size ≤ B → SetGen w A I B s.gens n (fun i => (i : Int) * st + kv) ⟨h', G', s.drawn, tk', s.os⟩ → Q (.ref I) ⟨h', G', s.drawn, tk', s.os⟩) :
    wpAny (model prog w) A (eval (.GeneratorExp (.BinOp (.Name x pa) .Add (.Name y pb) pc) [⟨.Name x px, iter, [], 0⟩] scope pos) (envX cn cs La fa (.ref 49) cl)) Q E s := by
  obtain ⟨own, rest, rfl, hgr, u1, u2⟩ := U.split
  have B0 : ∀ p ∈ own ++ (45, tb) :: rest, p.1 < s.heap.objs.size := fun p hp => Heap.lt_size (N p hp).1
  have LB := F.ns.lt
  have B1 : ∀ o', ∀ p ∈ g o', p.1 < s.heap.objs.size := fun o' p hp => by
    rw [hgr] at hp
    rcases List.mem_append.mp hp with hp | hp
    · exact B0 p (List.mem_append_left _ hp)
    · rcases List.mem_cons.mp hp with rfl | hp
      · exact B0 (45, tb) (List.mem_append_right _ (.head _))
      · exact B0 p (List.mem_append_right _ (.tail _ hp))
  refine wpAny_GeneratorExp_walksQ hh hco hclos hcell h0 hx hkind (by omega) ?_ hs
  refine hiter _ _ fun h₁ tk₁ r t₁ u₁ v₁ F₁ N₁ hsz₁ hr => ?_
  refine wpAny_pyIter_range hr hsmall ?_
  have m45 := (N₁ (45, tb) (List.mem_append_right _ (.head _))).1
  have lt45 : 45 < h₁.objs.size := Heap.lt_size m45
  have ne45 : ∀ b o, h₀.get? b = some o → b ≠ 45 := fun b o e q => by rw [q, h45] at e; cases e
  have nI : h₁.objs.size ≠ 45 := Nat.ne_of_gt lt45
  refine ⟨(T.nolimit.keeps F₁.keep).push _, ?_⟩
  refine ct_code (o := tb) ?_ rfl (Heap.get?_push_of_some _ m45) hct fun c h₃ tk₃ o' hk₃ ho₃ hct₃ hsz₃ => ?_
  · intro b o e
    exact hideAll_get _ (Heap.get?_push_of_some _ (F₁.keep b o (X b o e))) (by simp only [List.mem_singleton]; exact ne45 b o (X b o e))
  have up₃ : ∀ b o, b ≠ 45 → h₁.get? b = some o → h₃.get? b = some o := fun b o nb e => hk₃ b o nb (Heap.get?_push_of_some _ e)
  have base₃ : ∀ b o, h₀.get? b = some o → h₃.get? b = some o := fun b o e => up₃ b o (ne45 b o e) (F₁.keep b o e)
  obtain ⟨bm, ob, b1, b2, b3, b4, b5, b6⟩ := T.bmain
  refine wpAny_builtinsFor (T.g.keeps base₃) b1 b2 (base₃ _ _ b3) b4 b5 b6 ?_
  have szI : (h₁.push { cls := .type "range_iterator", data := .fields #[rawInt 0, rawInt (Builtin.Range.rangeSize 0 260 st), rawInt st] }).objs.size = h₁.objs.size + 1 := Heap.size_push _ _
  have hC : h₁.objs.size < h₃.objs.size := by
    have h9 : (h₁.push { cls := .type "range_iterator", data := .fields #[rawInt 0, rawInt (Builtin.Range.rangeSize 0 260 st), rawInt st] }).objs.size ≤ h₃.objs.size := hsz₃
    omega
  have hlim₃ := T.nolimit.keeps base₃
  have cyS : h₁.get? cy = some oy := (N₁ (cy, oy) hcy).1
  have cyI : cy ≠ h₁.objs.size := Nat.ne_of_lt (Heap.lt_size cyS)
  refine ⟨h₁.objs.size, [h₁.objs.size], [h₁.objs.size], n, _, _, fun _ => true, fun i v => ∃ t, v = .int ((i : Int) * st + kv) t, rfl, fun A' hA => Walks.range hA h₁.objs.size 0 st n, ?_, ?_, hlim₃, ?_, ?_, ?_⟩
  · show h₃.get? _ = _
    refine hk₃ _ _ nI ?_
    have := Heap.get?_push_size h₁ (o := { cls := .type "range_iterator", data := .fields #[rawInt 0, rawInt (Builtin.Range.rangeSize 0 260 st), rawInt st] }) rfl
    rw [hn] at this ⊢
    simpa using this
  · intro b hb
    rw [List.mem_singleton.mp hb]; exact hC
  · intro hm
    have := List.mem_singleton.mp hm
    have : h₁.objs.size = cStatics := this.symm
    have h9 : (cStatics : Nat) < 45 := by decide
    have h8 : (h₁.objs.size : Nat) = cStatics := this
    rw [← h8] at h9
    exact absurd (Nat.lt_trans lt45 h9) (Nat.lt_irrefl _)
  · intro href hkh
    refine ⟨fun A' E' i v s₅ m₂ hA hP hns hm hkp => ?_, fun A' E' i v s₅ m₂ hA hP hpz hns hm hkp => ?_⟩
    · exact wpAny_pure ⟨rfl, s₅.heap, s₅.toks, rfl, fun _ _ e => e⟩
    · obtain ⟨t, rfl⟩ := hP
      have hcell5 : s₅.heap.IsCell cy (some (.int kv tkv)) := ⟨oy, hkp cy (List.mem_range.mpr (Heap.lt_size (up₃ _ _ hne cyS))) (fun q => cyI (List.mem_singleton.mp q)) _ (hkh _ _ (up₃ _ _ hne cyS)), hoy⟩
      refine wpAny_BinOp (wpAny_Name (wpAny_loadName_local hkind hx hns hm (wpAny_Name (wpAny_loadName_free hkind hyk hlk hcell5 ?_ hyc) hyd)) hxd)
      refine PyProof.Rows.add_int ⟨⟨s₅.toks, ?_⟩, s₅.heap, _, rfl, fun _ _ e => e⟩
      congr 1; omega
  · intro a h₅ tk₅ gs hbare ha hsz₅ hk₅ W st₅
    rw [passing_all, List.length_range] at W
    have hsz₅' : h₅.objs.size = a + 1 := hsz₅
    have ha' := ltN ha
    dsimp only at ha'
    have F₅ : Fr h₀ L h₅ m := ⟨?_, fun b o e => hk₅ b o (base₃ b o e), F.above⟩
    refine ret h₅ tk₅ _ a o' s.heap.objs.size F₅ ?_ hct₃ (B1 o') LB (Nat.le_of_lt (Nat.lt_of_le_of_lt F.above LB)) ?_
    · rw [hgr]
      intro p hp
      have inold : p ∈ own ++ (45, tb) :: rest → p.1 ≠ 45 → h₅.get? p.1 = some p.2 ∧ p.1 ≠ L ∧ h₀.get? p.1 = none := fun hm hn' => ⟨hk₅ _ _ (up₃ _ _ hn' (N₁ p hm).1), (N p hm).2.1, (N p hm).2.2⟩
      rcases List.mem_append.mp hp with hp | hp
      · exact inold (List.mem_append_left _ hp) (u1 p hp)
      · rcases List.mem_cons.mp hp with rfl | hp
        · exact ⟨hk₅ _ _ ho₃, (N (45, tb) (List.mem_append_right _ (.head _))).2⟩
        · exact inold (List.mem_append_right _ (.tail _ hp)) (u2 p hp)
    · refine ⟨_, _, _, _, _, W, st₅, ?_, ?_, ?_, ?_, st₅.1.typeIs, ?_⟩
      · intro b hb
        rcases List.mem_cons.mp hb with rfl | hb
        · exact Nat.le_of_lt (Nat.lt_of_le_of_lt hsz₁ hC)
        · rw [List.mem_singleton.mp hb]; exact hsz₁
      · intro b hb
        rw [show (({ heap := h₅, gens := s.gens.push gs, drawn := s.drawn, toks := tk₅, os := s.os } : Shared).heap.objs.size) = a + 1 from hsz₅']
        rcases List.mem_cons.mp hb with rfl | hb
        · exact Nat.lt_succ_self _
        · rcases List.mem_cons.mp hb with rfl | hb
          · exact Nat.lt_succ_of_lt ha'
          · exact Nat.lt_succ_of_lt (Nat.lt_trans (List.mem_range.mp hb) ha')
      · rintro i v ⟨j, hj, hv⟩
        have : j = i := by
          have hlt : i < n := by
            rcases Nat.lt_or_ge i n with h9 | h9
            · exact h9
            · rw [List.getElem?_eq_none (by simpa using h9)] at hj; cases hj
          rw [List.getElem?_range hlt] at hj
          exact (Option.some.inj hj).symm
        rw [this] at hv; exact hv
      · intro G' hG
        have hG' : GenOnlyQ s.gens.size (s.gens.push gs) G' := hG
        have hb9 : AllBare s.gens → ∀ y ∈ s.gens.push gs, y.bare = true := fun hb y hy => by
          rcases Array.mem_push.mp hy with hy | rfl
          · exact hb y hy
          · exact hbare
        refine ⟨?_, fun k hk => ?_, fun hb => hG'.bare (hb9 hb)⟩
        · rcases hG' with rfl | ⟨⟨h8, _⟩, _⟩
          · simp
          · rw [h8]; simp
        · rcases hG' with rfl | ⟨⟨_, h8⟩, _⟩
          · rw [Array.getElem?_push]; simp [Nat.ne_of_lt hk]
          · rw [h8 k (Nat.ne_of_lt hk), Array.getElem?_push]; simp [Nat.ne_of_lt hk]
      · show s.heap.objs.size ≤ h₅.objs.size
        rw [hsz₅']
        exact Nat.le_of_lt (Nat.lt_succ_of_lt (Nat.lt_of_le_of_lt hsz₁ (Nat.lt_trans hC ha')))
    · obtain ⟨oL, es, ep, hL, r9⟩ := F₁.ns
      have nL : L ≠ 45 := fun q => (N (45, tb) (List.mem_append_right _ (.head _))).2.1 q.symm
      exact ⟨oL, es, ep, hk₅ _ _ (up₃ _ _ nL hL), r9⟩
end

theorem sub_gen_set : isSubtype (.type "generator") (.type "set") = pure false := by rw [isSubtype_type]; kernel_rfl
theorem sub_gen_frozenset : isSubtype (.type "generator") (.type "frozenset") = pure false := by rw [isSubtype_type]; kernel_rfl

section
variable {w : World} {A : Around} {E : Value → Shared → Prop} {s : Shared} {Q : Value → Shared → Prop}
/-- set(g) of a generator that hands on n ints -/
theorem call_set_gen {I : Addr} {B n : Nat} {G₀ : Array GenState} {val : Nat → Int} (hh : A.handled = none) (hS : SetGen w A I B G₀ n val s) (hb : n + 1 < scanBound)
    (ret : ∀ (h' : Heap) (tk : Nat) (G' : Array GenState), h'.SetOf (intKind prog w) s.heap.objs.size (fun k' => (firstMet val n).any (· == k')) (firstMet val n).length →
      (∀ b o, b < B → s.heap.get? b = some o → h'.get? b = some o) → GExt G₀ G' → Q (.ref s.heap.objs.size) { s with heap := h', toks := tk, gens := G' }) :
    wpAny (model prog w) A (call (.type "set") [.ref I]) Q E s := by
  obtain ⟨fp, wr, G, P, St, W, hst, hwr, hfp, hval, hG, hTI, hB⟩ := hS
  obtain ⟨c, tl, hmro⟩ := F.called_set.mro
  have hmade := F.called_set.made
  have hsub := F.called_set.sub
  refine wpAny_call (codeAny_of_tree ?_)
  show wpAny _ _ (callAny (.type "set") _) _ _ _
  refine wpAny_pure ⟨Code.quiet_builtin _ (by decide +kernel), codeAny_builtin F.entry_type_call ?_⟩
  rw [Around.under_plain (weight_type_call_type "set" [.ref I] []) rfl]
  have h1 := F.called_set.notType
  have h2 := F.called_set.canCreate
  have hct := F.typeCall_set_1 (.ref I)
  repeat (any_goals (first | assumption | wp_step))
  refine codeAny_mono (code_set_new_1 (.ref I) (E := E) (Q₁ := fun obj s₁ => ∃ led : Bool, obj = .ref s.heap.objs.size ∧ s₁ = { s with heap := s.heap.push { cls := .type "set", dict := none, data := .set #[] 0 (.fresh 0 0 led) } }) fun led => ⟨led, rfl, rfl⟩) fun r s₁ hr => ?_
  cases r with
  | error e => exact hr
  | ok fl =>
    cases fl with
    | ret obj =>
      obtain ⟨led, rfl, rfl⟩ := hr
      have hSo : (s.heap.push { cls := .type "set", dict := none, data := .set #[] 0 (.fresh 0 0 led) }).get? s.heap.objs.size = some { cls := .type "set", dict := none, data := .set #[] 0 (.fresh 0 0 led) } := Heap.get?_push_size _ rfl
      have hT : Shared.TypeIs { s with heap := s.heap.push { cls := .type "set", dict := none, data := .set #[] 0 (.fresh 0 0 led) } } (.ref s.heap.objs.size) "set" := ⟨_, hSo, rfl⟩
      have hli := F.called_set.init.lookup
      have hbi := F.called_set.init.bind (.ref s.heap.objs.size)
      repeat (any_goals (first | assumption | wp_step))
      refine codeAny_mono (codeAny_call_builtin (R := wants (fun r s₂ => r = .none ∧ ∃ h' tk G', s₂ = { s with heap := h', toks := tk, gens := G' } ∧ GExt G₀ G' ∧
          h'.SetOf (intKind prog w) s.heap.objs.size (fun k' => (firstMet val n).any (· == k')) (firstMet val n).length ∧
          (∀ b o, b < B → s.heap.get? b = some o → h'.get? b = some o)) E) F.called_set.init.plain F.entry_set_init (check_set_init_1 hT ?_)) fun r₂ s₂ hr₂ => ?_
      · obtain ⟨oI, hoI, hcI⟩ := hTI
        have hoI' : (s.heap.push { cls := .type "set", dict := none, data := .set #[] 0 (.fresh 0 0 led) }).get? I = some oI := Heap.get?_push_of_some _ hoI
        have hTI' : Shared.TypeIs { s with heap := s.heap.push { cls := .type "set", dict := none, data := .set #[] 0 (.fresh 0 0 led) } } (.ref I) "generator" := ⟨oI, hoI', hcI⟩
        have hsls := sub_gen_set
        have hslf := sub_gen_frozenset
        have hne : (Value.type "generator" == Value.type "dict") = false := by decide
        have hst' : St 0 { s with heap := s.heap.push { cls := .type "set", dict := none, data := .set #[] 0 (.fresh 0 0 led) } } := W.frame 0 s _ s.toks hst (Nat.le_refl _) fun b _ o e => Heap.get?_push_of_some _ e
        unfold Builtin.«set.__init__» noKeywords Builtin.Frozenset.updateFrom
        generalize hPI : pyIter = PI
        wp_walk
        subst hPI
        refine W.in4_2.self 0 _ _ _ hst' ?_
        refine wpAny_bind (wpAny_runValue ?_)
        have W3 : WalksS prog w A.in1.in1.in1 I fp wr G n P St := W.of_in1
        have hSf : s.heap.objs.size ∉ fp := fun hm => Nat.lt_irrefl _ (hfp _ hm)
        refine PyProof.Rows.codeAny_set_update_loopS (A := A.in1.in1) W3 s.heap.objs.size hSf val hval hb (n - 0) 0 _ (by omega) (Nat.zero_le _) hst' ?hS0 ?hR
        case hS0 =>
          exact PyProof.Rows.SetOf_congr ((PyProof.Rows.setObjOf_fresh (knd := intKind prog w) led).setOf hSo (by unfold scanBound; omega)) (fun _ => rfl) rfl
        case hR =>
          intro s' hm hS'
          obtain ⟨h', g', d', tk', os'⟩ := s'
          have ed : d' = s.drawn := hm.drawn
          have eo : os' = s.os := hm.os
          subst ed; subst eo
          show wpAny _ _ _ _ _ _
          refine wpAny_pure ?_
          show wpAny _ _ (PySem.ret Value.none) _ _ _
          refine wpAny_pure ⟨rfl, h', tk', g', rfl, hG g' hm.gens, hS', fun b o hb' e => ?_⟩
          refine hm.heap b o (fun hmem => ?_) (Heap.get?_push_of_some _ e)
          rcases List.mem_cons.mp hmem with rfl | hmem
          · exact Nat.lt_irrefl _ (Nat.lt_of_lt_of_le hb' hB)
          · exact Nat.lt_irrefl _ (Nat.lt_of_lt_of_le hb' (hwr b hmem))
      · cases r₂ with
        | error e => exact hr₂
        | ok fl₂ =>
          cases fl₂ with
          | ret r =>
            obtain ⟨rfl, h', tk, G', rfl, hG', hS', hk'⟩ := hr₂
            repeat (any_goals (first | assumption | wp_step))
            exact ret _ _ _ hS' hk' hG'
          | _ => exact hr₂.elim
    | _ => exact hr.elim
end

theorem pick_perm {α : Type} (next : Nat → Nat) : ∀ (fuel k : Nat) (left : List α) (out : Array α), left.length ≤ fuel → (pickOrder.go next fuel k left out).toList.Perm (out.toList ++ left)
  | 0, _, left, out, h => by
    have : left = [] := List.length_eq_zero_iff.mp (Nat.le_zero.mp h)
    subst this
    simp [pickOrder.go]
  | fuel + 1, k, left, out, h => by
    unfold pickOrder.go
    cases e : left[next k % left.length]? with
    | none =>
      have hl : left = [] := by
        rcases Nat.eq_zero_or_pos left.length with q | q
        · exact List.length_eq_zero_iff.mp q
        · have := Nat.mod_lt (next k) q
          rw [List.getElem?_eq_none_iff] at e; omega
      subst hl
      simp
    | some x =>
      obtain ⟨hlt, hx⟩ := List.getElem?_eq_some_iff.mp e
      have hle : (left.eraseIdx (next k % left.length)).length ≤ fuel := by rw [List.length_eraseIdx_of_lt hlt]; omega
      refine (pick_perm next fuel (k + 1) _ (out.push x) hle).trans ?_
      rw [Array.toList_push, List.append_assoc]
      refine List.Perm.append_left _ ?_
      generalize next k % left.length = i at hlt hx
      rw [List.eraseIdx_eq_take_drop_succ]
      have e9 : left = left.take i ++ x :: left.drop (i + 1) := by
        rw [← hx, List.getElem_cons_drop, List.take_append_drop]
      show (x :: (left.take i ++ left.drop (i + 1))).Perm left
      have p9 := List.perm_middle (a := x) (l₁ := left.take i) (l₂ := left.drop (i + 1))
      rw [← e9] at p9
      exact p9.symm
theorem pickOrder_perm {α : Type} (next : Nat → Nat) (xs : Array α) : (pickOrder next xs).toList.Perm xs.toList := by
  have := pick_perm next xs.size 0 xs.toList #[] (by simp)
  simpa [pickOrder] using this

section
variable {w : World} {A : Around} {E : Value → Shared → Prop} {s : Shared}

abbrev IK (w : World) := intKind prog w

theorem elems_quiet {es : List (Int × Value)} (h : ElemsOf (IK w) es) : ∀ e ∈ es, ∃ k t, e.2 = .int k t := fun e he => by
  obtain ⟨⟨k, hk, _⟩, _⟩ := h e he
  obtain ⟨t, ht⟩ := PySem.Value.isInt_shape hk
  exact ⟨k, t, ht⟩

/-- walking a set of ints: all its items, in some order -/
theorem wp_setWalk {a : Addr} {o : Obj} {es : Array (Int × Value)} {ep : Nat} {t : SetTable} {Q : Array (Int × Value) → Shared → Prop} (ho : s.heap.get? a = some o) (hd : o.data = .set es ep t) (hf : t.fits es.size = true)
    (hq : w.params.followText "set-order" = true ∨ (t.led && t.plain) = true ∨ es.size ≤ 1) (h : ∀ xs : Array (Int × Value), xs.toList.Perm es.toList → Q xs s) : wpAny (model prog w) A (setWalk a) Q E s := by
  unfold setWalk
  refine wpAny_bind (wpAny_setState_of ho hd hf ?_)
  dsimp only
  unfold setsByText
  refine wpAny_bind (wpAny_bind (wpAny_askSetting (wpAny_pure ?_)))
  cases hb : (model prog w).w.params.followText "set-order" with
  | true =>
    simp only [↓reduceIte]
    exact wpAny_bind (wpAny_askSetting (wpAny_pure (h _ (pickOrder_perm _ _))))
  | false =>
    have hq' : (t.led && t.plain) = true ∨ es.size ≤ 1 := by
      rcases hq with q | q
      · have : w.params.followText "set-order" = false := hb
        rw [this] at q; cases q
      · exact q
    simp only [Bool.false_eq_true, ↓reduceIte]
    show wpAny _ _ (if (!t.plain && decide (es.size > 1)) = true then _ else _) _ _ _
    have n1 : (!t.plain && decide (es.size > 1)) = false := by
      rcases hq' with q | q
      · simp only [Bool.and_eq_true] at q; simp [q.2]
      · have : ¬ es.size > 1 := by omega
        simp [this]
    rw [if_neg (by rw [n1]; exact Bool.false_ne_true)]
    refine wpAny_bind ?_
    show wpAny _ _ (if (!t.led && decide (es.size > 1)) = true then _ else _) _ _ _
    have n2 : (!t.led && decide (es.size > 1)) = false := by
      rcases hq' with q | q
      · simp only [Bool.and_eq_true] at q; simp [q.1]
      · have : ¬ es.size > 1 := by omega
        simp [this]
    rw [if_neg (by rw [n2]; exact Bool.false_ne_true)]
    exact wpAny_pure (wpAny_pure (h _ (List.Perm.refl _)))

theorem forIn_quiet {α β : Type} (b : β) (f : α → β → Sem (ForInStep β)) : ∀ l : List α, (∀ e ∈ l, f e b = pure (ForInStep.yield b)) → (forIn l b f : Sem β) = pure b
  | [], _ => rfl
  | e :: l, h => by
    rw [List.forIn_cons, h e (.head _)]
    exact forIn_quiet b f l fun e' he => h e' (.tail _ he)
theorem forIn_quietA {α β : Type} (b : β) (f : α → β → Sem (ForInStep β)) (xs : Array α) (h : ∀ e ∈ xs.toList, f e b = pure (ForInStep.yield b)) : (forIn xs b f : Sem β) = pure b := by
  rw [← Array.forIn_toList]; exact forIn_quiet b f xs.toList h

theorem wp_setsQuiet {a b r : Addr} {S₁ S₂ S₃ : Int → Bool} {n₁ n₂ n₃ : Nat} {Q : Bool → Shared → Prop} (h₁ : s.heap.SetOf (IK w) a S₁ n₁) (h₂ : s.heap.SetOf (IK w) b S₂ n₂) (hr : s.heap.SetOf (IK w) r S₃ n₃)
    (h : Q true s) : wpAny (model prog w) A (setsQuiet [a, b, r]) Q E s := by
  obtain ⟨o1, es1, ep1, t1, ho1, hex1, hd1, hel1, _, _, hf1, _⟩ := h₁
  obtain ⟨o2, es2, ep2, t2, ho2, hex2, hd2, hel2, _, _, hf2, _⟩ := h₂
  obtain ⟨o3, es3, ep3, t3, ho3, hex3, hd3, hel3, _, _, hf3, _⟩ := hr
  unfold setsQuiet
  refine wpAny_bind ?_
  simp only [List.forIn_cons, List.forIn_nil]
  refine wpAny_bind (wpAny_bind (wpAny_setEntries_of ho1 hd1 hf1 (wpAny_bind ?_)))
  rw [forIn_quietA (none, ()) _ es1 fun e he => by obtain ⟨k, t, q⟩ := elems_quiet hel1 e he; obtain ⟨e1, e2⟩ := e; dsimp only at q; subst q; rfl]
  refine wpAny_pure (wpAny_pure ?_)
  refine wpAny_bind (wpAny_bind (wpAny_setEntries_of ho2 hd2 hf2 (wpAny_bind ?_)))
  rw [forIn_quietA (none, ()) _ es2 fun e he => by obtain ⟨k, t, q⟩ := elems_quiet hel2 e he; obtain ⟨e1, e2⟩ := e; dsimp only at q; subst q; rfl]
  refine wpAny_pure (wpAny_pure ?_)
  refine wpAny_bind (wpAny_bind (wpAny_setEntries_of ho3 hd3 hf3 (wpAny_bind ?_)))
  rw [forIn_quietA (none, ()) _ es3 fun e he => by obtain ⟨k, t, q⟩ := elems_quiet hel3 e he; obtain ⟨e1, e2⟩ := e; dsimp only at q; subst q; rfl]
  exact wpAny_pure (wpAny_pure (wpAny_pure (wpAny_pure h)))

/-- the walk of a set of ints that nobody sees: it may mark the set that is filled -/
theorem wp_setWalkUnseen {a b r : Addr} {S₁ S₂ : Int → Bool} {n₁ n₂ : Nat} {Q : Array (Int × Value) → Shared → Prop} (h₁ : s.heap.SetOf (IK w) a S₁ n₁) (h₂ : s.heap.SetOf (IK w) b S₂ n₂) (hr : s.heap.SetOf (IK w) r (fun _ => false) 0)
    (hra : r ≠ a) (hrb : r ≠ b)
    (h : ∀ (xs : Array (Int × Value)) h', ElemsOf (IK w) xs.toList → (∀ k, S₁ k = true ↔ ∃ e ∈ xs.toList, (IK w).is k e.2 = true) → xs.size < scanBound → Heap.SameBut r s.heap h' → h'.SetOf (IK w) r (fun _ => false) 0 → Q xs { s with heap := h' }) :
    wpAny (model prog w) A (setWalkUnseen a [b, r] (some r)) Q E s := by
  obtain ⟨o, es, ep, t, ho, hex, hd, hel, hmem, hb, hf, hn⟩ := h₁
  have fin : ∀ (xs : Array (Int × Value)) h', xs.toList.Perm es.toList → Heap.SameBut r s.heap h' → h'.SetOf (IK w) r (fun _ => false) 0 → Q xs { s with heap := h' } := fun xs h' hp hs hr' => by
    refine h xs h' (hel.perm hp) (fun k => (hmem k).trans ⟨fun ⟨e, he, hk⟩ => ⟨e, hp.mem_iff.mpr he, hk⟩, fun ⟨e, he, hk⟩ => ⟨e, hp.mem_iff.mp he, hk⟩⟩) ?_ hs hr'
    have := hp.length_eq
    simp only [Array.length_toList] at this
    omega
  unfold setWalkUnseen
  refine wpAny_bind (wpAny_setState_of ho hd hf ?_)
  dsimp only
  unfold setsByText
  refine wpAny_bind (wpAny_bind (wpAny_askSetting (wpAny_pure ?_)))
  split
  · rename_i hc
    refine wp_setWalk ho hd hf ?_ fun xs hp => fin xs s.heap hp ⟨rfl, fun _ _ => rfl⟩ hr
    simp only [Bool.or_eq_true, decide_eq_true_eq] at hc
    rcases hc with (hc | hc) | hc
    · exact .inl hc
    · exact .inr (.inl hc)
    · exact .inr (.inr hc)
  · refine wpAny_bind (wp_setsQuiet ⟨o, es, ep, t, ho, hex, hd, hel, hmem, hb, hf, hn⟩ h₂ hr ?_)
    simp only [Bool.not_true, Bool.false_eq_true, if_false]
    refine wpAny_bind (wpAny_rule ?_)
    obtain ⟨o3, es3, ep3, t3, ho3, hex3, hd3, hel3, hmem3, hb3, hf3, hn3⟩ := hr
    refine wpAny_bind (wpAny_setState_of ho3 hd3 hf3 ?_)
    dsimp only
    split
    · refine wpAny_bind (wpAny_storeSet_of ho3 hd3 (wpAny_pure (fin es _ (List.Perm.refl _) (Heap.SameBut.update ..) ?_)) (fits_of_scanBound hb3))
      have z := (SetOf_store (t' := { mask := t3.mask, place := t3.place, dummies := t3.dummies, finger := t3.finger, led := t3.led && t.led, moves := t3.moves, plain := t3.plain && t.plain }) ho3 hex3 hd3 hel3 hmem3 hb3 hf3).2
      rw [hn3] at z
      exact z
    · exact wpAny_pure (fin es s.heap (List.Perm.refl _) ⟨rfl, fun _ _ => rfl⟩ ⟨o3, es3, ep3, t3, ho3, hex3, hd3, hel3, hmem3, hb3, hf3, hn3⟩)
end

theorem entry_set_inter : entryFor table "set.intersection" = some Builtin.«frozenset.intersection» :=
  entryFor_alias (id' := "frozenset.intersection") (by kernel_rfl) rfl (by decide +kernel) (by kernel_rfl)
theorem sub_set_set : isSubtype (.type "set") (.type "set") = pure true := sub_set_self

section
variable {w : World} {A : Around} {E : Value → Shared → Prop} {s : Shared}
theorem wp_isAnySet {a : Addr} {Q : Bool → Shared → Prop} (hT : s.TypeIs (.ref a) "set") (h : Q true s) : wpAny (model prog w) A (Builtin.Frozenset.isAnySet (.ref a)) Q E s := by
  unfold Builtin.Frozenset.isAnySet
  refine wpAny_bind (wpAny_isInstance hT sub_set_self ?_)
  exact wpAny_pure h

theorem wp_sizeOf {a : Addr} {S : Int → Bool} {n : Nat} {Q : Nat → Shared → Prop} (hS : s.heap.SetOf (IK w) a S n) (h : Q n s) : wpAny (model prog w) A (Builtin.Frozenset.sizeOf a) Q E s := by
  obtain ⟨o, es, ep, t, ho, _, hd, _, _, _, hf, hn⟩ := hS
  unfold Builtin.Frozenset.sizeOf
  exact wpAny_bind (wpAny_setEntries_of ho hd hf (wpAny_pure (hn ▸ h)))

set_option maxHeartbeats 400000 in
theorem inter_loop {a b r : Addr} {was : Nat} {S₁ : Int → Bool} {n₁ : Nat} {c : Int} (hra : r ≠ a) (hrb : r ≠ b) {Q : PUnit → Shared → Prop} :
    ∀ (l : List (Int × Value)) (s : Shared) (Sr : Int → Bool) (nr : Nat), ElemsOf (IK w) l → s.heap.SetOf (IK w) a S₁ n₁ → (∃ o es t, s.heap.get? b = some o ∧ o.data = .set es was t ∧ t.fits es.size = true) → s.heap.SetOf (IK w) r Sr nr →
      (∀ k, Sr k = true → k = c) → nr = (if Sr c then 1 else 0) → S₁ c = true → (∀ e ∈ l, ∀ k, (IK w).is k e.2 = true → S₁ k = true → k = c) →
      (∀ h' Sr', (∀ x o, x ≠ r → s.heap.get? x = some o → h'.get? x = some o) → h'.SetOf (IK w) r Sr' (if Sr' c then 1 else 0) → (∀ k, Sr' k = true → k = c) → (Sr' c = true ↔ Sr c = true ∨ ∃ e ∈ l, (IK w).is c e.2 = true) → Q PUnit.unit { s with heap := h' }) →
      wpAny (model prog w) A (forIn l PUnit.unit (fun x (__s : PUnit) => do
        holding [x.2] do
          let d ← setFind a x.2 x.1
          if d.isSome = true then do
            let _ ← setAddHashed r x.2 x.1
            pure ()
          else pure ()
        Builtin.Frozenset.unchanged "frozenset.intersection" b was
        pure (ForInStep.yield PUnit.unit))) Q E s := by
  intro l
  induction l with
  | nil =>
    intro s Sr nr hel ha hb hr hsr hnr hS1 hl h
    rw [List.forIn_nil]
    exact wpAny_pure (h s.heap Sr (fun _ _ _ e => e) (hnr ▸ hr) hsr ⟨.inl, fun q => q.elim id fun ⟨_, he, _⟩ => nomatch he⟩)
  | cons e l ih =>
    intro s Sr nr hel ha hb hr hsr hnr hS1 hl h
    obtain ⟨⟨k, hk, hhash⟩, hsc⟩ := hel.head
    obtain ⟨hsh, x⟩ := e
    dsimp only at hk hhash hsc
    subst hhash
    rw [List.forIn_cons]
    dsimp only
    refine wpAny_bind (wpAny_bind (wpAny_holding (wpAny_bind ?_)))
    refine wpAny_setFind_of (knd := IK w) hk hsc ha fun d hd => ?_
    have rest : ∀ (K : ForInStep PUnit → Sem PUnit) (h₂ : Heap) (Sr₂ : Int → Bool) (nr₂ : Nat), K (ForInStep.yield PUnit.unit) = forIn l PUnit.unit (fun x (__s : PUnit) => do
            holding [x.2] do
              let d ← setFind a x.2 x.1
              if d.isSome = true then do
                let _ ← setAddHashed r x.2 x.1
                pure ()
              else pure ()
            Builtin.Frozenset.unchanged "frozenset.intersection" b was
            pure (ForInStep.yield PUnit.unit)) → (∀ y o, y ≠ r → s.heap.get? y = some o → h₂.get? y = some o) → h₂.SetOf (IK w) r Sr₂ nr₂ → (∀ k, Sr₂ k = true → k = c) → nr₂ = (if Sr₂ c then 1 else 0) →
        (Sr₂ c = true ↔ Sr c = true ∨ (IK w).is c x = true) →
        wpAny (model prog w) A (do Builtin.Frozenset.unchanged "frozenset.intersection" b was; pure (ForInStep.yield PUnit.unit))
          (fun z s' => wpAny (model prog w) A (K z) Q E s') E { s with heap := h₂ } := by
      intro K h₂ Sr₂ nr₂ hK k2 hr2 hsr2 hnr2 hc2
      obtain ⟨o, es, t, ho, hd', hf⟩ := hb
      have ho2 : h₂.get? b = some o := k2 _ _ (Ne.symm hrb) ho
      have ha2 : h₂.SetOf (IK w) a S₁ n₁ := let ⟨o, es, ep, t, ho, q⟩ := ha; ⟨o, es, ep, t, k2 _ _ (Ne.symm hra) ho, q⟩
      unfold Builtin.Frozenset.unchanged
      refine wpAny_bind (wpAny_bind (wpAny_setEpoch_of (s := { s with heap := h₂ }) ho2 hd' hf ?_))
      rw [if_neg (by simp)]
      refine wpAny_pure (wpAny_pure ?_)
      rw [hK]
      refine ih { s with heap := h₂ } Sr₂ nr₂ hel.tail ha2 ⟨o, es, t, ho2, hd', hf⟩ hr2 hsr2 hnr2 hS1 (fun e he => hl e (.tail _ he)) fun h' Sr' k3 hr3 hsr3 hc3 => ?_
      refine h h' Sr' (fun y o n e => k3 y o n (k2 y o n e)) hr3 hsr3 (hc3.trans ?_)
      rw [hc2]
      constructor
      · rintro ((q | q) | ⟨e, he, q⟩)
        · exact .inl q
        · exact .inr ⟨_, .head _, q⟩
        · exact .inr ⟨e, .tail _ he, q⟩
      · rintro (q | ⟨e, he, q⟩)
        · exact .inl (.inl q)
        · rcases List.mem_cons.mp he with rfl | he
          · exact .inl (.inr q)
          · exact .inr ⟨e, he, q⟩
    have uniq : ∀ k', (IK w).is k' x = true → k' = k := fun k' h' => by
      obtain ⟨t, q⟩ := PySem.Value.isInt_shape hk
      obtain ⟨t', q'⟩ := PySem.Value.isInt_shape h'
      rw [q] at q'; injection q' with q1 q2; exact q1.symm
    cases hSk : S₁ k with
    | false =>
      rw [hSk] at hd
      rw [if_neg (by rw [hd]; exact Bool.false_ne_true)]
      refine wpAny_pure ?_
      refine rest _ s.heap Sr nr rfl (fun _ _ _ e => e) hr hsr hnr ⟨.inl, fun q => q.elim id fun q => ?_⟩
      have := uniq c q
      rw [← this, hS1] at hSk; cases hSk
    | true =>
      rw [hSk] at hd
      rw [if_pos hd]
      have hkc : k = c := hl _ (.head _) k hk hSk
      refine wpAny_bind (wpAny_setAddHashed_of (knd := IK w) hk hsc hr (by rw [hnr]; unfold scanBound; split <;> omega) fun h₂ hs₂ hr₂ => wpAny_pure ?_)
      refine rest _ h₂ _ _ rfl (fun y o n e => (hs₂.2 y n).trans e) hr₂ (fun k' h' => ?_) ?_ ?_
      · simp only [Bool.or_eq_true, decide_eq_true_eq] at h'
        exact h'.elim (hsr k') fun q => q.trans hkc
      · subst hkc
        simp only [decide_true, Bool.or_true, ↓reduceIte]
        rw [hnr]; split <;> rfl
      · subst hkc
        simp [hk]

theorem call_inter {a b : Addr} {S₁ S₂ : Int → Bool} {n₁ n₂ : Nat} {c : Int} {Q : Value → Shared → Prop} (h₁ : s.heap.SetOf (IK w) a S₁ n₁) (h₂ : s.heap.SetOf (IK w) b S₂ n₂) (hab : a ≠ b)
    (hle : n₂ ≤ n₁) (hc : ∀ k, (S₁ k = true ∧ S₂ k = true) ↔ k = c)
    (ret : ∀ h' r, s.heap.get? r = none → (∀ x o, s.heap.get? x = some o → h'.get? x = some o) → h'.SetOf (IK w) r (fun k => decide (k = c)) 1 → Q (.ref r) { s with heap := h' }) :
    wpAny (model prog w) A (call (.builtin "set.intersection") [.ref a, .ref b]) Q E s := by
  refine wpAny_call_entry F.slot_set_intersection h₁.typeIs entry_set_inter ?_ (F.args_set_intersection_2 _ _)
  unfold Builtin.«frozenset.intersection» Builtin.Frozenset.manyOthers
  simp only [List.isEmpty_nil, Bool.not_true, Bool.false_eq_true, ↓reduceIte, bind_assoc]
  unfold Builtin.Frozenset.addrOf
  refine wpAny_bind (wpAny_pure ?_)
  try dsimp only
  refine wpAny_bind (wpAny_pure ?_)
  simp only [List.isEmpty_cons, Bool.false_eq_true, ↓reduceIte, List.forIn_cons, List.forIn_nil]
  refine wpAny_bind (wpAny_bind (wpAny_bind (wpAny_holding (wpAny_bind (wpAny_pure ?_)))))
  unfold Builtin.Frozenset.intersection
  have hne : (Value.ref b == Value.ref a) = false := by simp [Ne.symm hab]
  rw [if_neg (by rw [hne]; exact Bool.false_ne_true)]
  refine wpAny_bind ?_
  unfold Builtin.Frozenset.baseOf
  refine wpAny_bind (wpAny_isInstance h₁.typeIs sub_set_self (wpAny_pure ?_))
  simp only [↓reduceIte]
  refine wpAny_bind (wpAny_newSet_of (knd := IK w) fun led hr => ?_)
  generalize hr0 : s.heap.objs.size = r at hr ⊢
  generalize hpush : s.heap.push { cls := .type "set", dict := none, data := .set #[] 0 (.fresh 0 0 led) } = hp at hr ⊢
  have keep : ∀ x o, s.heap.get? x = some o → hp.get? x = some o := fun x o e => hpush ▸ Heap.get?_push_of_some _ e
  have h₁' : hp.SetOf (IK w) a S₁ n₁ := let ⟨o, es, ep, t, ho, q⟩ := h₁; ⟨o, es, ep, t, keep _ _ ho, q⟩
  have h₂' : hp.SetOf (IK w) b S₂ n₂ := let ⟨o, es, ep, t, ho, q⟩ := h₂; ⟨o, es, ep, t, keep _ _ ho, q⟩
  have nrb : r ≠ b := by
    obtain ⟨o, _, _, _, ho, _⟩ := h₂
    exact fun q => absurd (Heap.lt_size ho) (by rw [← q, hr0]; exact Nat.lt_irrefl _)
  have nra : r ≠ a := by
    obtain ⟨o, _, _, _, ho, _⟩ := h₁
    exact fun q => absurd (Heap.lt_size ho) (by rw [← q, hr0]; exact Nat.lt_irrefl _)
  unfold Builtin.Frozenset.addrOf
  refine wpAny_bind (wpAny_pure ?_)
  try dsimp only
  refine wpAny_bind (wpAny_holding (wpAny_bind (wp_isAnySet h₂'.typeIs ?_)))
  simp only [↓reduceIte]
  refine wpAny_bind (wpAny_pure ?_)
  refine wpAny_bind (wp_sizeOf h₂' ?_)
  refine wpAny_bind (wp_sizeOf h₁' ?_)
  rw [if_neg (by omega)]
  dsimp only
  obtain ⟨o2, es2, ep2, t2, ho2, hex2, hd2, hel2, hmem2, hb2, hf2, hn2⟩ := id h₂'
  refine wpAny_bind (wpAny_setEpoch_of ho2 hd2 hf2 ?_)
  refine wpAny_bind ?_
  refine wp_setWalkUnseen (w := w) (S₁ := S₂) (S₂ := S₁) h₂' h₁' hr ?n1 ?n2 fun xs h₃ helx hmemx hsx hs₃ hr₃ => ?_
  case n1 => exact nrb
  case n2 => exact nra
  obtain ⟨cS1, cS2⟩ := (hc c).mpr rfl
  have h₁₃ : h₃.SetOf (IK w) a S₁ n₁ := let ⟨o, es, ep, t, ho, q⟩ := h₁'; ⟨o, es, ep, t, (hs₃.2 _ (Ne.symm nra)).trans ho, q⟩
  rw [← Array.forIn_toList]
  refine wpAny_bind ?_
  refine inter_loop (w := w) (n₁ := n₁) (S₁ := S₁) (c := c) nra nrb xs.toList _ (fun _ => false) 0 helx h₁₃ ⟨o2, es2, t2, (hs₃.2 _ (Ne.symm nrb)).trans ho2, hd2, hf2⟩ hr₃ (fun _ q => by cases q) (by simp) cS1
    (fun e he k hk h1 => (hc k).mp ⟨h1, (hmemx k).mpr ⟨e, he, hk⟩⟩) fun h₄ Sr k₄ hr₄ hsr₄ hc₄ => ?_
  refine wpAny_pure (wpAny_pure (wpAny_pure (wpAny_pure (wpAny_pure ⟨_, rfl, ?_⟩))))
  have c1 : Sr c = true := hc₄.mpr (.inr ((hmemx c).mp cS2))
  refine ret h₄ r (by rw [← hr0]; exact Heap.get?_none_of_le (Nat.le_refl _)) (fun x o e => ?_) ?_
  · have nx : x ≠ r := fun q => absurd (Heap.lt_size e) (by rw [q, ← hr0]; exact Nat.lt_irrefl _)
    exact k₄ x o nx ((hs₃.2 x nx).trans (keep x o e))
  · refine PyProof.Rows.SetOf_congr hr₄ (fun k => ?_) (by rw [if_pos c1])
    cases q : Sr k with
    | true => rw [hsr₄ k q]; simp
    | false =>
      have : k ≠ c := fun e => by rw [e, c1] at q; cases q
      simp [this]
end

section
variable {w : World} {A : Around} {E : Value → Shared → Prop} {s : Shared}
theorem wp_choose {M : Model} {src : Source} {n : Nat} {Q : Nat → Shared → Prop} (hn : n ≠ 0) (h : ∀ k d, k < n → Q k { s with drawn := d }) : wpAny M A (choose src n) Q E s := fun Γ p _ => by
  show Sem.wp M Γ (.choose src n .pure) _ _ p s
  rw [Sem.wp_choose]
  exact ⟨hn, h _ _ (Nat.mod_lt _ (Nat.pos_of_ne_zero hn))⟩

theorem call_pop {r : Addr} {c : Int} {Q : Value → Shared → Prop} (hr : s.heap.SetOf (IK w) r (fun k => decide (k = c)) 1)
    (ret : ∀ h' d t, Heap.SameBut r s.heap h' → Q (.int c t) { s with heap := h', drawn := d }) :
    wpAny (model prog w) A (call (.builtin "set.pop") [.ref r]) Q E s := by
  obtain ⟨o, es, ep, t, ho, hex, hd, hel, hmem, hb, hf, hn⟩ := id hr
  refine wpAny_call_entry F.slot_set_pop hr.typeIs F.entry_set_pop ?_ (F.args_set_pop_1 _)
  unfold Builtin.«set.pop» Builtin.Frozenset.noArgs
  simp only [List.isEmpty_nil, bind_assoc]
  unfold Builtin.Frozenset.addrOf
  refine wpAny_bind (wpAny_pure ?_)
  try dsimp only
  unfold setPop
  refine wpAny_bind (wpAny_bind (wpAny_setState_of ho hd hf ?_))
  dsimp only
  have hpl : t.place.size = 1 := by
    simp only [SetTable.fits, Bool.and_eq_true, beq_iff_eq] at hf
    omega
  have hpop : t.popPlace = some 0 := by
    unfold SetTable.popPlace
    rw [if_neg (by rw [Array.isEmpty_iff_size_eq_zero, hpl]; decide), hpl]
    dsimp only
    congr 1
    split <;> omega
  rw [hpop]
  dsimp only
  have hx : ∃ tk, es[0]? = some ((IK w).hash c, .int c tk) := by
    have h0 : 0 < es.size := by omega
    obtain ⟨⟨k, hk, hh⟩, _⟩ := hel es[0] (Array.getElem_mem_toList h0)
    have hkc : k = c := by
      have := (hmem k).mpr ⟨es[0], Array.getElem_mem_toList h0, hk⟩
      exact of_decide_eq_true this
    subst hkc
    obtain ⟨t', q⟩ := PySem.Value.isInt_shape hk
    refine ⟨t', ?_⟩
    rw [Array.getElem?_eq_getElem h0]
    congr 1
    exact Prod.ext hh q
  obtain ⟨tk, hx⟩ := hx
  have hsz : (SetTable.eraseAt es 0).size ≤ sizeLine := by
    have h9 : (SetTable.eraseAt es 0).size ≤ es.size + es.size := by
      unfold SetTable.eraseAt; simp only [Array.size_append, Array.size_extract]; omega
    rw [hn] at h9
    exact Nat.le_trans h9 (by decide)
  unfold setsByText
  refine wpAny_bind (wpAny_bind (wpAny_askSetting (wpAny_pure ?_)))
  split
  · refine wpAny_bind (wp_choose (by omega) fun k d hk => ?_)
    have hk0 : k = 0 := by omega
    subst hk0
    rw [hx]
    dsimp only
    refine wpAny_bind (wpAny_storeSet_of (s := { s with drawn := d }) ho hd (wpAny_pure ?_) hsz)
    exact wpAny_pure ⟨_, rfl, ret _ d tk (Heap.SameBut.update ..)⟩
  · refine wpAny_bind ?_
    show wpAny _ _ (if (!t.led && decide (es.size > 1)) = true then _ else _) _ _ _
    have n2 : (!t.led && decide (es.size > 1)) = false := by
      have : ¬ es.size > 1 := by omega
      simp [this]
    rw [if_neg (by rw [n2]; exact Bool.false_ne_true)]
    refine wpAny_pure ?_
    refine wpAny_bind (wpAny_pure ?_)
    rw [hx]
    dsimp only
    refine wpAny_bind (wpAny_storeSet_of ho hd (wpAny_pure ?_) hsz)
    exact wpAny_pure ⟨_, rfl, ret _ s.drawn tk (Heap.SameBut.update ..)⟩
end

/-- the values i * st + kv below n -/
def linVal (st kv : Int) : Nat → Int := fun i => (i : Int) * st + kv
def linS (st kv : Int) (n : Nat) : Int → Bool := fun k => ((List.range n).map (linVal st kv)).any (· == k)
theorem linS_iff {st kv : Int} {n : Nat} {k : Int} : linS st kv n k = true ↔ ∃ i : Nat, i < n ∧ (i : Int) * st + kv = k := by
  unfold linS linVal
  simp only [List.any_map, List.any_eq_true, List.mem_range, Function.comp_apply, beq_iff_eq]
theorem firstMet_lin {st kv : Int} (h : 0 < st) : ∀ n, (firstMet (linVal st kv) n).length = n
  | 0 => rfl
  | n + 1 => by
    rw [firstMet_succ, step_length, firstMet_any]
    have hno : ((List.range n).map (linVal st kv)).any (· == linVal st kv n) = false := by
      rw [Bool.eq_false_iff]
      intro hc
      have := linS_iff.mp hc
      obtain ⟨i, hi, e⟩ := this
      unfold linVal at e
      have : (i : Int) * st = n * st := by omega
      have := Int.eq_of_mul_eq_mul_right (by omega) this
      omega
    rw [hno]
    simp only [Bool.false_eq_true, ↓reduceIte]
    rw [firstMet_lin h n]

section
variable {w : World} {loose : List Str} {mean : ExcName → Option Value} {mg mb : Str → Option Value} {A : Around} {s : Shared} {h₀ : Heap} {L : Addr} {m : Str → Option Value} {news : List (Addr × Obj)} {Q E : Value → Shared → Prop}

theorem call_set_K {I : Addr} {B n : Nat} {G₀ : Array GenState} {st kv : Int} (hh : A.handled = none) (F : Fr h₀ L s.heap m) (N : News h₀ L s.heap news) (hB : ∀ p ∈ news, p.1 < B) (LB : L < B) (hsB : h₀.objs.size ≤ B)
    (hS : SetGen w A I B G₀ n (fun i => (i : Int) * st + kv) s) (hst : 0 < st) (hb : n + 1 < scanBound)
    (ret : ∀ (h' : Heap) (tk : Nat) (G' : Array GenState) S o, Fr h₀ L h' m → News h₀ L h' ((S, o) :: news) → o.SetObjOf (IK w) (linS st kv n) n → (∀ p ∈ news, p.1 < S) → L < S → GExt G₀ G' → Q (.ref S) ⟨h', G', s.drawn, tk, s.os⟩) :
    wpAny (model prog w) A (call (.type "set") [.ref I]) Q E s := by
  have hBs : B ≤ s.heap.objs.size := by obtain ⟨_, _, _, _, _, _, _, _, _, _, _, _, h⟩ := hS; exact h
  refine call_set_gen hh hS hb fun h' tk G' hS' hk hG => ?_
  obtain ⟨o, ho, hso⟩ := hS'.objOf
  have e1 : (fun k' => (firstMet (fun i => (i : Int) * st + kv) n).any (· == k')) = linS st kv n := by
    funext k; exact firstMet_any _ n k
  have e2 : (firstMet (fun i => (i : Int) * st + kv) n).length = n := firstMet_lin hst n
  rw [e1, e2] at hso
  refine ret h' tk G' _ o ⟨F.ns.at' fun o' e => hk L o' LB e, fun b o' e => hk b o' (Nat.lt_of_lt_of_le (Heap.lt_size e) hsB) (F.keep b o' e), F.above⟩ (fun p hp => ?_) hso (fun p hp => Nat.lt_of_lt_of_le (hB p hp) hBs) (Nat.lt_of_lt_of_le LB hBs) hG
  rcases List.mem_cons.mp hp with rfl | hp
  · refine ⟨ho, Nat.ne_of_gt (Nat.lt_of_lt_of_le LB hBs), ?_⟩
    cases hq : h₀.get? s.heap.objs.size with
    | none => rfl
    | some o' => exact absurd (Heap.lt_size hq) (Nat.not_lt_of_le (Nat.le_trans hsB hBs))
  · exact ⟨hk _ _ (hB p hp) (N p hp).1, (N p hp).2.1, (N p hp).2.2⟩

theorem inter_K {a b : Addr} {oa ob : Obj} {n₁ n₂ : Nat} {st₁ st₂ kv₁ kv₂ c : Int} (F : Fr h₀ L s.heap m) (N : News h₀ L s.heap news) (ha : (a, oa) ∈ news) (hb : (b, ob) ∈ news)
    (sa : oa.SetObjOf (IK w) (linS st₁ kv₁ n₁) n₁) (sb : ob.SetObjOf (IK w) (linS st₂ kv₂ n₂) n₂) (hab : a ≠ b) (hle : n₂ ≤ n₁) (hs₁ : n₁ < scanBound)
    (hc : ∀ k, ((∃ i : Nat, i < n₁ ∧ (i : Int) * st₁ + kv₁ = k) ∧ (∃ j : Nat, j < n₂ ∧ (j : Int) * st₂ + kv₂ = k)) ↔ k = c)
    (ret : ∀ h' r o, Fr h₀ L h' m → News h₀ L h' ((r, o) :: news) → o.SetObjOf (IK w) (fun k => decide (k = c)) 1 → (∀ p ∈ news, p.1 ≠ r) → Q (.ref r) { s with heap := h' }) :
    wpAny (model prog w) A (call (.builtin "set.intersection") [.ref a, .ref b]) Q E s := by
  have ga := N.get ha
  have gb := N.get hb
  refine call_inter (c := c) (sa.setOf ga hs₁) (sb.setOf gb (Nat.lt_of_le_of_lt hle hs₁)) hab hle (fun k => ?_) fun h' r hr hk hS => ?_
  · rw [linS_iff, linS_iff]; exact hc k
  · obtain ⟨o, ho, hso⟩ := hS.objOf
    have nr : ∀ x ox, s.heap.get? x = some ox → x ≠ r := fun x ox e q => by rw [q, hr] at e; cases e
    obtain ⟨oL, es, ep, hL, r9⟩ := id F.ns
    refine ret h' r o ⟨F.ns.keeps hk, fun b o' e => hk b o' (F.keep b o' e), F.above⟩ (fun p hp => ?_) hso fun p hp => nr _ _ (N p hp).1
    rcases List.mem_cons.mp hp with rfl | hp
    · refine ⟨ho, fun q => nr _ _ hL q.symm, ?_⟩
      cases hq : h₀.get? r with
      | none => rfl
      | some o' => exact absurd rfl (nr _ _ (F.keep _ _ hq))
    · exact ⟨hk _ _ (N p hp).1, (N p hp).2⟩

theorem pop_K {r : Addr} {o : Obj} {c : Int} (F : Fr h₀ L s.heap m) (N : News h₀ L s.heap ((r, o) :: news)) (hr : o.SetObjOf (IK w) (fun k => decide (k = c)) 1) (hap : ∀ p ∈ news, p.1 ≠ r)
    (ret : ∀ h' d t, Fr h₀ L h' m → News h₀ L h' news → Q (.int c t) { s with heap := h', drawn := d }) :
    wpAny (model prog w) A (call (.builtin "set.pop") [.ref r]) Q E s := by
  refine call_pop (hr.setOf (N.get (.head _)) (by decide)) fun h' d t hsb => ?_
  exact ret h' d t (F.change hsb (N _ (.head _)).2.1 (N _ (.head _)).2.2) fun p hp => ⟨by rw [hsb.2 _ (hap p hp)]; exact (N p (.tail _ hp)).1, (N p (.tail _ hp)).2⟩

theorem setMethod_K {r : Addr} {o : Obj} {S : Int → Bool} {n : Nat} {name : Str} {idn : String} {pl : Sem Bool} {Q : Value × List Value → Shared → Prop} (N : News h₀ L s.heap news) (hm : (r, o) ∈ news) (hr : o.SetObjOf (IK w) S n)
    (slot : Slot "set" name idn) (hty : typeOf (.builtin idn) = pure (.type "method_descriptor")) (h : Q (.builtin idn, [.ref r]) s) :
    wpAny (model prog w) A (getMethod (.ref r) name pl) Q E s := by
  have g := N.get hm
  obtain ⟨⟨hc, hd, _⟩, _⟩ := hr
  exact getMethod_builtin ⟨o, g, hc⟩ PySem.F.plainAttrs_set slot hty (fun a e => by cases e; exact ⟨o, g, hd⟩) h

theorem index29_K {p : Nat} {t : Tok} (F : Fr h₀ L s.heap m) (X : (hd.heap_39 w.params).In h₀) (hp : p < 20)
    (h : ∀ t tk, Q (.int (p : Nat) t) { s with toks := tk }) :
    wpAny (model prog w) A (call (.builtin "list.index") [.ref 29, .str (nameAt p) t]) Q E s := by
  have hL := list29 (X.keeps F.keep)
  obtain ⟨⟨cls, dd, data, sl⟩, ho, hc, n, hd⟩ := id hL
  simp only at hc hd
  subst hc hd
  have hlen : (itemsAt 29).toArray.size = 20 := by rw [List.size_toArray]; exact len29
  have key : ∀ j (hj : j < 20), ∃ u, ∀ (h9 : j < (itemsAt 29).toArray.size), (itemsAt 29).toArray[j] = .str (nameAt j) u := fun j hj => ⟨_, fun h9 => by
    have := items29 j hj
    rw [List.getElem_toArray]
    have e := List.getElem?_eq_getElem (l := itemsAt 29) (i := j) (by rw [len29]; exact hj)
    rw [e] at this
    exact Option.some.inj this⟩
  refine call_meets PySem.F.slot_list_index ⟨_, ho, rfl⟩ PySem.F.entry_list_index (PySem.F.args_list_index_2 _ _)
    (SeqAt.list_indexAt 29 (itemsAt 29).toArray n dd sl (.str (nameAt p) t) (fun y => match y with | .str x _ => x == nameAt p | _ => false) p (by rw [hlen]; exact hp) (by omega) ?_ ?_) ⟨ho, fun y hy => ?_, h _ _⟩
  · obtain ⟨u, e⟩ := key p hp
    rw [e]; exact beq_self_eq_true _
  · intro j hj hlt
    obtain ⟨u, e⟩ := key j (by omega)
    rw [e]
    show (nameAt j == nameAt p) = false
    rw [beq_eq_false_iff_ne]
    intro q
    have := name_inj j (by omega) p hp q
    omega
  · obtain ⟨j, hj, rfl⟩ := Array.mem_iff_getElem.mp hy
    obtain ⟨u, e⟩ := key j (by rw [← hlen]; exact hj)
    rw [e]
    exact (eqGives_str (nameAt j) (nameAt p) u t).at _ _
theorem obj29 {h : Heap} (X : (hd.heap_39 w.params).In h) : ∃ o, h.get? 29 = some o ∧ o.dict = none ∧ o.cls = .type "list" := by
  refine ⟨_, X 29 _ (by k_is), rfl, rfl⟩
theorem indexMethod29_K {pl : Sem Bool} {Q : Value × List Value → Shared → Prop} (F : Fr h₀ L s.heap m) (X : (hd.heap_39 w.params).In h₀)
    (h : Q (.builtin "list.index", [.ref 29]) s) : wpAny (model prog w) A (getMethod (.ref 29) (Str.ofString "index") pl) Q E s := by
  obtain ⟨o, ho, hd, hc⟩ := obj29 (X.keeps F.keep)
  exact getMethod_builtin ⟨o, ho, hc⟩ PySem.F.plainAttrs_list PySem.F.slot_list_index PySem.F.type_list_index (fun a e => by cases e; exact ⟨o, ho, hd⟩) h
end

section
variable {w : World} {A : Around} {R : Result → Shared → Prop} {s : Shared} {h₀ : Heap} {news : List (Addr × Obj)} {K : Frag} {name qual : Str} {params : Arguments} {body : List Stmt} {scope : Scope} {dV kV doc pm cdv ct oc : Value} {an od : Option Addr} {osl : Array (Option Value)} {f : Addr} {args : Args} (binds : List (Str × Value))
/-- entering a def of the text that has cells -/
theorem enter_nfC (hk : ∀ b o, h₀.get? b = some o → s.heap.get? b = some o) (hsz : h₀.objs.size ≤ s.heap.objs.size) (X₀ : K.In h₀) (hlim : h₀.NoLimit)
    (hn : ∀ p ∈ news, s.heap.get? p.1 = some p.2 ∧ h₀.get? p.1 = none)
    (ho : K.lookup f = some ⟨oc, od, .func (fnOf name qual params body scope dV kV doc pm an cdv ct), osl⟩) (hcd : codeIn K cdv qual = true) (hroom : A.depth < recursionLimit)
    (hbind : BindsTo s (fnOf name qual params body scope dV kV doc pm an cdv ct) args binds) (hkind : (binds.all fun y => scope.names.lookup y.1 == some .local || scope.names.lookup y.1 == some .cell) = true)
    (hnd : ((cellsFrom 0 scope.names []).map (·.1)).Nodup)
    (h : ∀ h₁ tk cells, Fr h₀ s.heap.objs.size h₁ (bindL (envOfC qual scope s.heap.objs.size f cdv).kindOf binds fun _ => none) → News h₀ s.heap.objs.size h₁ (cells ++ news) →
      CellsAre (bindC (envOfC qual scope s.heap.objs.size f cdv).kindOf binds fun _ => none) (cellsFrom (s.heap.objs.size + 1) scope.names []) cells → (∀ p ∈ news, p.1 < s.heap.objs.size) → 
      wpAny (model prog w) (A.deeper (envOfC qual scope s.heap.objs.size f cdv)) (execs body (envOfC qual scope s.heap.objs.size f cdv))
        (fun fl s' => R (.ok (.ret (match fl with | .ret v => v | _ => .none))) s') (fun _ _ => False)
        { s with heap := h₁, toks := tk })
    (hco : scope.isCoroutine = false := by rfl) (hgen : scope.isGenerator = false := by rfl) (hkk : scope.kind = .function := by rfl) : codeAny (model prog w) A (.call (.ref f) args) R s := by
  refine codeAny_call_function hroom (hk _ _ (X₀ _ _ ho)) rfl hco hgen rfl ((codeRec_of X₀ hcd).keeps hk) (hbind _ _ _ _ ?_)
  refine wpAny_newFunctionEnv_cells hkk (kindsX hkind _) fun env' he s' x => ?_
  subst he
  refine ⟨(hlim.keeps hk).keeps x.toInCall.keep, codeAny_func ?_⟩
  obtain ⟨h₁, tk, rfl, _⟩ := x.done
  have hk₁ := x.toInCall.keep
  obtain ⟨cells, NC, Y⟩ := Cl.news (h₀ := s.heap) (Nat.le_refl _) fun n c hm => ⟨x.cell n c (lookup_of_mem_nodup (cellsFrom_names scope.names 0 (s.heap.objs.size + 1) [] [] rfl ▸ hnd) hm), x.above n c hm⟩
  refine wpAny_mono (h h₁ tk cells ⟨x.toInCall.ns, fun b o e => hk₁ b o (hk b o e), hsz⟩ (fun p hp => ?_) Y fun p hp => Heap.lt_size (hn p hp).1) (fun _ _ z => z) fun _ _ z => z.elim
  rcases List.mem_append.mp hp with hp | hp
  · refine ⟨(NC p hp).1, (NC p hp).2.1, ?_⟩
    cases q : h₀.get? p.1 with
    | none => rfl
    | some o => have := hk _ _ q; rw [(NC p hp).2.2] at this; cases this
  · exact ⟨hk₁ _ _ (hn p hp).1, Nat.ne_of_lt (Heap.lt_size (hn p hp).1), (hn p hp).2⟩
end

/-- the count of a date: the number 1 .. 260 with that day number and that name -/
def cnt (d p : Int) : Int := (40 * d + 221 * (p + 1) - 1) % 260 + 1
theorem cnt_iff {d p k : Int} (h1 : 1 ≤ d) (h2 : d ≤ 13) (h3 : 0 ≤ p) (h4 : p < 20) : ((∃ i : Nat, i < 20 ∧ (i : Int) * 13 + d = k) ∧ (∃ j : Nat, j < 13 ∧ (j : Int) * 20 + (1 + p) = k)) ↔ k = cnt d p := by
  unfold cnt
  constructor
  · rintro ⟨⟨i, hi, e1⟩, j, hj, e2⟩
    omega
  · intro e
    refine ⟨⟨((k - d) / 13).toNat, ?_, ?_⟩, ((k - 1 - p) / 20).toNat, ?_, ?_⟩ <;> omega

-- the steps of this def
local macro_rules | `(tactic| walk_at "exec Try") => `(tactic| (k_dflt (refine wpAny_Try_except ?_)))
local macro_rules | `(tactic| walk_at "getMethod ref") => `(tactic| ((with_reducible show wpAny _ _ (getMethod (Value.ref 29) _ _) _ _ _); (rename Fr _ _ _ _ => F8); k_dflt (refine indexMethod29_K F8 (by assumption) ?_)))
local macro_rules | `(tactic| walk_at "call builtin:list.index") => `(tactic| ((rename Fr _ _ _ _ => F8); k_dflt (refine index29_K F8 (by assumption) (by assumption) ?_); intro t8 tk8))
local macro_rules | `(tactic| walk_at "getMethod ref") => `(tactic| ((with_reducible first | show wpAny _ _ (getMethod _ (Str.ofString "intersection") _) _ _ _ | show wpAny _ _ (getMethod _ (Str.ofString "pop") _) _ _ _); (rename News _ _ _ _ => N8); k_dflt (first | refine' setMethod_K N8 ?m ?so PySem.F.slot_set_intersection PySem.F.type_set_intersection ?_; (case m => k_mem); (case so => assumption); k_whole | refine' setMethod_K N8 ?m ?so PySem.F.slot_set_pop PySem.F.type_set_pop ?_; (case m => k_mem); (case so => assumption); k_whole)))
section
variable {w : World} {loose : List Str} {mean : ExcName → Option Value} {mg mb : Str → Option Value} {A : Around} {s : Shared} {Q E : Value → Shared → Prop}
theorem count_nf (G : Gd w loose mean mg mb (hideAll s.heap [45])) {tb : Obj} (htb : s.heap.get? 45 = some tb) (hct : CTo tb) (hh : A.handled = none) (hd : A.depth + 40 < recursionLimit) (hu : A.units + 80 < cLine)
    {d : Int} {td tn : Tok} {p : Nat} (h1 : 1 ≤ d) (h2 : d ≤ 13) (hp : p < 20)
    (ret : ∀ h' tk' d' G' t tb', (∀ b o, b ≠ 45 → s.heap.get? b = some o → h'.get? b = some o) → s.heap.objs.size ≤ h'.objs.size → h'.get? 45 = some tb' → CTo tb' → GExt s.gens G' → Q (.int (cnt d p) t) ⟨h', G', d', tk', s.os⟩) :
    wpAny (model prog w) A (call (.ref 50) [.int d td, .str (nameAt p) tn]) Q E s := by
  obtain ⟨X, T⟩ := G
  obtain ⟨hd', dp, fr, gd, un⟩ := A
  subst hh
  have hk : ∀ b o, (hideAll s.heap [45]).get? b = some o → s.heap.get? b = some o := fun b o e => of_hideAll _ e
  have hsz : (hideAll s.heap [45]).objs.size ≤ s.heap.objs.size := Nat.le_of_eq (hideAll_size _ _)
  have hlim := T.nolimit
  have h45 : (hideAll s.heap [45]).get? 45 = none := hideAll_none _ (.head _)
  have hn : ∀ p ∈ [(45, tb)], s.heap.get? p.1 = some p.2 ∧ (hideAll s.heap [45]).get? p.1 = none := fun p hp => by
    rw [List.mem_singleton.mp hp]; exact ⟨htb, h45⟩
  have hoff : ∀ b o, b ≠ 45 → s.heap.get? b = some o → (hideAll s.heap [45]).get? b = some o := fun b o n e => hideAll_get _ e (by simpa using n)
  generalize hideAll s.heap [45] = h₀ at *
  refine wpAny_call ?_
  k_dflt (refine' enter_nfC [(Str.ofString "day", .int d td), (Str.ofString "name", .str (nameAt p) tn)] ?k1 ?k2 ?k3 ?k4 ?k5 ?k6 ?k7 ?k8 ?k9 ?kB ?kD ?_ ?c3 ?c4 ?c5; (case k1 => assumption); (case k2 => assumption); (case k3 => assumption); (case k4 => assumption); (case k5 => assumption); (case k6 => k_is); (case k7 => k_is); (case k8 => walk_at "nf room"); (case k9 => exact BindsTo.of_eq rfl); (case kB => exact rfl); (case kD => decide +kernel); (case c3 => exact rfl); (case c4 => exact rfl); (case c5 => exact rfl); k_whole)
  intro h' tk' cells' F' N' Y' l1
  try k_lt l1
  k_cells Y'
  try simp only [List.cons_append, List.nil_append] at N'
  try dsimp only
  k_steps
  rename Fr _ _ _ _ => F1
  rename News _ _ _ _ => N1
  refine' genexp_K (st := 13) (n := 20) F1 N1 X T rfl ?k1 ?U hct h45 ?cy ?oy ?ne rfl ?lk (by decide) (by decide) (by decide) ?c1 ?c2 ?c3 ?c4 ?c5 ?c6 ?c7 ?c8 ?c9 ?cA ?hi ?_
  case k1 => walk_at "nf room"
  case U => k_updF
  case lk => with_unfolding_all rfl
  case cy => k_mem
  case oy => with_unfolding_all assumption
  case ne => exact Nat.ne_of_gt (Nat.lt_succ_of_lt l1)
  case c1 => rfl
  case c2 => decide
  case c3 => decide
  case c4 => decide
  case c5 => decide
  case c6 => rfl
  case c7 => decide
  case c8 => decide
  case c9 => decide
  case cA => intro z; with_unfolding_all rfl
  case hi => 
    intro Q' E' hq
    k_steps
    rename IsRange _ _ _ _ _ _ _ _ => R1
    exact hq _ _ _ _ _ _ (by assumption) (by assumption) (Nat.le_of_lt (Heap.lt_size R1)) R1
  intro g2 tk2 G2 I tb2 B F2 N2 ct2 B2 LB2 sB2 S2
  k_steps
  clear F1 N1
  refine' call_set_K rfl F2 N2 B2 LB2 sB2 S2 (by decide) (by decide) ?_
  intro g3 tk3 G3 S o3 F3 N3 so3 l3 ls3 x3
  k_lt l3
  clear F2 N2 S2 B2
  k_steps
  rename Fr _ _ _ _ => F4
  rename News _ _ _ _ => N4
  refine' genexp_K (st := 20) (n := 13) F4 N4 X T rfl ?k1 ?U ct2 h45 ?cy ?oy ?ne rfl ?lk (by decide) (by decide) (by decide) ?c1 ?c2 ?c3 ?c4 ?c5 ?c6 ?c7 ?c8 ?c9 ?cA ?hi ?_
  case k1 => walk_at "nf room"
  case U => k_updF
  case lk => with_unfolding_all rfl
  case cy => k_mem
  case oy => with_unfolding_all assumption
  case ne => exact Nat.ne_of_gt (Nat.lt_succ_of_lt (Nat.lt_succ_of_lt l1))
  case c1 => rfl
  case c2 => decide
  case c3 => decide
  case c4 => decide
  case c5 => decide
  case c6 => rfl
  case c7 => decide
  case c8 => decide
  case c9 => decide
  case cA => intro z; with_unfolding_all rfl
  case hi => 
    intro Q' E' hq
    k_steps
    rename IsRange _ _ _ _ _ _ _ _ => R1
    exact hq _ _ _ _ _ _ (by assumption) (by assumption) (Nat.le_of_lt (Heap.lt_size R1)) R1
  intro g5 tk5 G5 I5 tb5 B5 F5 N5 ct5 B5' LB5 sB5 S5
  clear F4 N4
  k_steps
  refine' call_set_K rfl F5 N5 B5' LB5 sB5 S5 (by decide) (by decide) ?_
  intro g6 tk6 G6 S6 o6 F6 N6 so6 l6 ls6 x6
  k_lt l6
  clear F5 N5 S5 B5'
  k_steps
  rename Fr _ _ _ _ => F7
  rename News _ _ _ _ => N7
  refine' inter_K F7 N7 (.tail _ (.head _)) (.head _) so3 so6 (Nat.ne_of_lt l6.1) (by decide) (by decide) (c := cnt d p) (fun k => cnt_iff h1 h2 (by omega) (by omega)) ?_
  intro g8 r o8 FX NX so8 l8
  clear F7 N7
  k_steps
  rename News _ _ _ _ => NX2
  refine' pop_K FX NX2 so8 l8 ?_
  intro g9 d9 t9 F9 N9
  k_steps
  exact ret g9 _ d9 G6 t9 tb5 (fun b o nb e => F9.keep b o (hoff b o nb e)) (Nat.le_of_lt F9.ns.lt) (N9 _ (.tail _ (.tail _ (.tail _ (.tail _ (.head _)))))).1 ct5 (x3.trans x6)
end

theorem fn58 {h : Heap} {w : World} (X : (hd.heap_39 w.params).In h) : h.get? 58 = some ⟨.type "function", none, .func tzP.1, #[]⟩ :=
  X 58 _ (show (hd.heap_39 w.params).lookup 58 = _ by kernel_rfl)
theorem bind58 {s : Shared} {w : World} (X : (hd.heap_39 w.params).In s.heap) (v₁ v₂ : Value) : BindsTo s tzP.1 ⟨[v₁, v₂], []⟩ [(Str.ofString "number", v₁), (Str.ofString "name", v₂)] :=
  kp_binds X fun S => by kernel_rfl
theorem cell58 : ∀ x ∈ tzP.1.scope.names, x.2 ≠ .cell := by decide +kernel
theorem code58 {h : Heap} {w : World} (X : (hd.heap_39 w.params).In h) : h.CodeRec tzP.1.code tzP.1.qualname :=
  codeRec_of (cd := .ref 57) (q := Str.ofString "tzolkin_generator") X (by with_unfolding_all rfl)

section
variable {w : World} {loose : List Str} {mean : ExcName → Option Value} {mg mb : Str → Option Value} {A : Around} {s : Shared} {hb : Heap} {Q E : Value → Shared → Prop}
theorem make_gen (G : Gd w loose mean mg mb hb) (hk : ∀ b o, hb.get? b = some o → s.heap.get? b = some o) (hroom : A.depth < recursionLimit) {v₁ v₂ : Value}
    (ret : ∀ h' tk' a Lg, (∀ b o, s.heap.get? b = some o → h'.get? b = some o) → s.heap.objs.size ≤ Lg → Lg < a → a < h'.objs.size → h'.Ns Lg (fun y => [(Str.ofString "number", v₁), (Str.ofString "name", v₂)].reverse.lookup y) → h'.IsGen a s.gens.size →
      Q (.ref a) ⟨h', s.gens.push (.fresh (.func tzBody (envTz Lg))), s.drawn, tk', s.os⟩) :
    wpAny (model prog w) A (call (.ref 58) [v₁, v₂]) Q E s := by
  obtain ⟨X, T⟩ := G
  have X' := X.keeps hk
  have hlim := T.nolimit.keeps hk
  refine wpAny_call (codeAny_call_generator (fd := tzP.1) (body := tzBody) hroom (fn58 X') rfl (by kernel_rfl) (by kernel_rfl) (by kernel_rfl) (code58 X') ?_)
  refine bind58 X' v₁ v₂ _ _ _ _ (wpAny_newFunctionEnv cell58 (by intro x hx; rcases List.mem_cons.mp hx with rfl | hx; (· kernel_rfl); rcases List.mem_cons.mp hx with rfl | hx; (· kernel_rfl); (· cases hx)) (fun h₁ hns hsb => ?_) (by kernel_rfl))
  have hsz : h₁.objs.size = s.heap.objs.size + 1 := by rw [hsb.1, Heap.size_push]
  have hk₁ : ∀ b o, s.heap.get? b = some o → h₁.get? b = some o := fun b o e => (hsb.2 b (Nat.ne_of_lt (Heap.lt_size e))).trans (Heap.get?_push_of_some _ e)
  refine ⟨hlim.keeps hk₁, ?_⟩
  refine ret _ _ h₁.objs.size s.heap.objs.size (fun b o e => Heap.get?_push_of_some _ (hk₁ b o e)) (Nat.le_refl _) ?_ ?_ (hns.keeps fun b o e => Heap.get?_push_of_some _ e) ⟨_, _, _, Heap.get?_push_size _ rfl, rfl, rfl, rfl⟩
  · omega
  · show h₁.objs.size < (h₁.push _).objs.size
    rw [Heap.size_push]; exact Nat.lt_succ_self _
end

theorem execs_app (post : List Stmt) (env : Env) : ∀ pre : List Stmt, execs (pre ++ post) env = execs pre env >>= (fun f => match f with
    | .next => execs post env
    | f => pure f)
  | [] => rfl
  | st :: pre => by
    show execs (st :: (pre ++ post)) env = _
    rw [execs_cons, execs_cons, execs_app post env pre]
    show Sem.bind _ _ = Sem.bind (Sem.bind _ _) _
    rw [Sem.bind_assoc]
    congr 1
    funext f
    cases f <;> rfl
section
variable {M : Model} {A : Around} {c : Code} {fs : List Frame} {s : Shared} {P : End → Shared → Prop} {env : Env} {K : Flow → Sem Fin} {H : Value → Sem Fin} {gd : Bool → Bool} {lv : List Value → List Value}
theorem s_execs_app {pre post : List Stmt} (h : wpAny M (A.over c fs) (execs pre env) (fun f s' => match f with
    | .next => SegX M A c ((execs post env).wrap K H gd lv) fs s' P
    | f => SegX M A c (K f) fs s' P) (fun x s' => SegX M A c (H x) fs s' P) s) : SegX M A c ((execs (pre ++ post) env).wrap K H gd lv) fs s P := by
  rw [execs_app]
  refine s_bind_wrap (wpAny_mono h (fun f s' hq => ?_) fun _ _ x => x)
  cases f <;> exact hq
theorem s_point {l : List Value} {k : Unit → Sem Fin} {prog : Program} {w : World} (h : SegX (model prog w) A c (k ()) fs s P) : SegX (model prog w) A c (.point l k) fs s P := by
  rintro Γ p rfl hΓ
  exact runs_wrap_of_wp (Φ := fun e s' => e.quiet = true ∧ P e s') k .raise id (fun _ => l) point (wpAny_point (M := model prog w) (A := A.over Γ.code fs) (E := fun x s' => SegX (model prog w) A Γ.code (.raise x) fs s' P) (Q := fun a s' => SegX (model prog w) A Γ.code (k a) fs s' P) h (Γ.over fs) p (hΓ.over fs)) (fun a p' s' h' => h' Γ p' rfl hΓ) (fun x p' s' h' => h' Γ p' rfl hΓ)
theorem s_func {prog : Program} {w : World} {body : List Stmt}
    (h : SegX (model prog w) A (.func body env) ((execs body env).wrap (fun f => .pure (.done (.ret (match f with | .ret v => v | _ => .none))))
      (fun e => (leaving env e).wrap (fun _ => .raise e) .raise id id) id id) fs s P) :
    SegX (model prog w) A (.func body env) ((model prog w).den (.func body env)) fs s P := by
  show SegX _ A _ (.point [] fun _ => ((execs body env).onRaise (leaving env)) >>= _) fs s P
  refine s_point ?_
  rw [Sem.onRaise_eq_wrap, Sem.bind_eq_wrap', Sem.wrap_wrap]
  rw [Sem.wrap_congr (execs body env) _ _ (K' := fun f => .pure (.done (.ret (match f with | .ret v => v | _ => .none))))
    (H' := fun e => (leaving env e).wrap (fun _ => .raise e) .raise id id) (fun f => by cases f <;> rfl)
    (fun e => by rw [Sem.bind_eq_wrap, Sem.wrap_wrap]; rfl)]
  exact h
end

noncomputable def tzS (k : Nat) : Stmt := tzBody.getD k default
theorem tzBody_eq : tzBody = [tzS 0, tzS 1] ++ ([tzS 2, tzS 3, tzS 4, tzS 5] ++ [tzFor]) := by kernel_rfl

section
variable {w : World} {loose : List Str} {mean : ExcName → Option Value} {mg mb : Str → Option Value} {A : Around} {s : Shared} {h₀ : Heap} {L : Addr} {m : Str → Option Value} {own : List (Addr × Obj)} {tb : Obj} {news : List (Addr × Obj)}
theorem count_K {Q E : Value → Shared → Prop} (F : Fr h₀ L s.heap m) (N : News h₀ L s.heap ((45, tb) :: own)) (hown : ∀ p ∈ own, p.1 ≠ 45) (X : (hd.heap_39 w.params).In h₀) (T : Top p0 loose mean mg mb h₀) (hct : CTo tb) (hh : A.handled = none) (hd : A.depth + 40 < recursionLimit) (hu : A.units + 80 < cLine)
    {d : Int} {td tn : Tok} {p : Nat} (h1 : 1 ≤ d) (h2 : d ≤ 13) (hp : p < 20)
    (ret : ∀ h' tk' d' G' t tb', Fr h₀ L h' m → News h₀ L h' ((45, tb') :: own) → CTo tb' → GExt s.gens G' → Q (.int (cnt d p) t) ⟨h', G', d', tk', s.os⟩) :
    wpAny (model prog w) A (call (.ref 50) [.int d td, .str (nameAt p) tn]) Q E s := by
  have m45 := (N (45, tb) (.head _)).1
  have h45 := (N (45, tb) (.head _)).2.2
  have n45 : (45 : Addr) ≠ L := (N (45, tb) (.head _)).2.1
  have ne45 : ∀ b o, h₀.get? b = some o → b ≠ 45 := fun b o e q => by rw [q, h45] at e; cases e
  have hk : ∀ b o, h₀.get? b = some o → (hideAll s.heap [45]).get? b = some o := fun b o e => hideAll_get _ (F.keep b o e) (by simp only [List.mem_singleton]; exact ne45 b o e)
  refine count_nf (Gd.keeps ⟨X, T⟩ hk) m45 hct hh hd hu h1 h2 hp fun h' tk' d' G' t tb' k' sz' e' c' x' => ret h' tk' d' G' t tb' ?_ ?_ c' x'
  · exact ⟨F.ns.at' fun o e => k' L o n45.symm e, fun b o e => k' b o (ne45 b o e) (F.keep b o e), F.above⟩
  · intro q hq
    rcases List.mem_cons.mp hq with rfl | hq
    · exact ⟨e', (N (45, tb) (.head _)).2⟩
    · exact ⟨k' _ _ (hown q hq) (N q (.tail _ hq)).1, (N q (.tail _ hq)).2⟩

theorem list_range_K {Q E : Value → Shared → Prop} {r : Addr} {a b : Int} {t u v : Tok} {n : Nat} (hh : A.handled = none) (F : Fr h₀ L s.heap m) (N : News h₀ L s.heap news) (hr : IsRange s.heap r a b 1 t u v) (hsmall : Builtin.Range.small a b 1 = true) (hn : Builtin.Range.rangeSize a b 1 = (n : Int)) (hlen : n ≤ 2 ^ 24)
    (hQ : ∀ h' tk D (its : List Value) c, Fr h₀ L h' m → News h₀ L h' ((D, { cls := .type "list", data := .seq its.toArray c }) :: news) → its.length = n → (∀ j, j < n → ∃ t, its[j]? = some (.int (a + j) t)) → Q (.ref D) { s with heap := h', toks := tk }) :
    wpAny (model prog w) A (call (.type "list") [.ref r]) Q E s := by
  refine call_list_range hh hr hsmall hn hlen fun h' tk acc' c' hk hS' hacc => ?_
  refine hQ h' tk _ acc'.toList c' (F.keeps hk) (news_pushed F N hk (by simpa using hS') rfl) (by simpa using hacc.1) fun j hj => ?_
  have hj' : j < acc'.size := by rw [hacc.1]; exact hj
  obtain ⟨t, e⟩ := hacc.2 j _ (Array.getElem?_eq_getElem hj')
  refine ⟨t, ?_⟩
  rw [Array.getElem?_toList, Array.getElem?_eq_getElem hj', e]
  simp
end

section
variable {w : World} {loose : List Str} {mean : ExcName → Option Value} {mg mb : Str → Option Value} {A : Around} {s : Shared} {h₀ : Heap} {L : Addr} {m : Str → Option Value} {own : List (Addr × Obj)} {tb : Obj} {news : List (Addr × Obj)}
theorem tz_pre2 {Q : Flow → Shared → Prop} {E : Value → Shared → Prop} {n : Int} {tn tx : Tok} {p : Nat} (F : Fr h₀ L s.heap (fun y => if y = Str.ofString "name" then some (.str (nameAt p) tx) else if y = Str.ofString "number" then some (.int n tn) else m y)) (N : News h₀ L s.heap ((45, tb) :: own)) (hown : ∀ p ∈ own, p.1 ≠ 45)
    (X : (hd.heap_39 w.params).In h₀) (T : Top p0 loose mean mg mb h₀) (hct : CTo tb) (hh : A.handled = none) (hd : A.depth + 60 < recursionLimit) (hu : A.units + 120 < cLine) (h1 : 1 ≤ n) (h2 : n ≤ 13) (hp : p < 20)
    (ret : ∀ h' tk' d' G' D (its : List Value) tb' m', Fr h₀ L h' m' → m' (Str.ofString "ranged") = some (.ref D) → News h₀ L h' ((D, { cls := .type "list", data := .seq its.toArray }) :: (45, tb') :: own) → (∀ p ∈ (45, tb') :: own, p.1 ≠ D) → CTo tb' → GExt s.gens G' →
      its.length = 259 → (∀ j : Nat, cnt n p + j < 260 → ∃ t, its[j]? = some (.int (cnt n p + j) t)) → Q .next ⟨h', G', d', tk', s.os⟩) :
    wpAny (model prog w) A (execs [tzS 2, tzS 3, tzS 4, tzS 5] (envTz L)) Q E s := by
  conv in tzS 2 => whnf
  conv in tzS 3 => whnf
  conv in tzS 4 => whnf
  conv in tzS 5 => whnf
  conv in envTz _ => unfold envTz; arg 2; whnf
  k_steps
  rotate_left
  · exfalso
    rename (_ || _) = _ => hbad
    rcases (by omega : p = 0 ∨ p = 1 ∨ p = 2 ∨ p = 3 ∨ p = 4 ∨ p = 5 ∨ p = 6 ∨ p = 7 ∨ p = 8 ∨ p = 9 ∨ p = 10 ∨ p = 11 ∨ p = 12 ∨ p = 13 ∨ p = 14 ∨ p = 15 ∨ p = 16 ∨ p = 17 ∨ p = 18 ∨ p = 19) with rfl | rfl | rfl | rfl | rfl | rfl | rfl | rfl | rfl | rfl | rfl | rfl | rfl | rfl | rfl | rfl | rfl | rfl | rfl | rfl <;> exact absurd hbad (by decide +kernel)
  rename Fr _ _ _ _ => F1
  rename News _ _ _ _ => N1
  refine' count_K ?f ?n hown X T hct hh (by omega) (by omega) h1 h2 hp ?_
  case f => exact F1
  case n => exact N1
  intro g2 tk2 d2 G2 t2 tb2 F2 N2 ct2 x2
  have c1 : 1 ≤ cnt n p := by unfold cnt; omega
  have c2 : cnt n p ≤ 260 := by unfold cnt; omega
  k_steps
  rename IsRange _ _ _ _ _ _ _ _ => R3
  rename Fr _ _ _ _ => F3
  rename News _ _ _ _ => N3
  refine' list_range_K (n := (260 - cnt n p).toNat) hh F3 N3 R3 (small_one (by omega) (by omega) (by omega) (by omega)) (rangeSize_nat _ _) (by omega) ?_
  intro g4 tk4 D4 i4 q4 F4 N4 l4 v4
  clear F3 N3 R3
  k_steps
  rename IsRange _ _ _ _ _ _ _ _ => R5
  rename Fr _ _ _ _ => F5
  rename News _ _ _ _ => N5
  refine' list_range_K (n := (cnt n p - 1).toNat) hh F5 N5 R5 (small_one (by omega) (by omega) (by omega) (by omega)) (rangeSize_nat _ _) (by omega) ?_
  intro g6 tk6 D6 i6 q6 F6 N6 l6 v6
  clear F5 N5 R5
  have lt6 : ∀ q ∈ (45, tb2) :: own, q.1 < g6.objs.size := fun q hq => Heap.lt_size (N6 q (.tail _ (.tail _ hq))).1
  k_steps
  rename Fr _ _ _ _ => F7
  rename News _ _ _ _ => N7
  refine ret _ _ _ _ g6.objs.size (i4 ++ i6) tb2 _ F7 ?_ ?_ ?_ ct2 x2 ?_ ?_
  · exact if_pos rfl
  · intro q hq
    refine N7 q ?_
    rcases List.mem_cons.mp hq with rfl | hq
    · exact .head _
    · exact .tail _ (.tail _ (.tail _ hq))
  · exact fun q hq => Nat.ne_of_lt (lt6 q hq)
  · rw [List.length_append, l4, l6]; omega
  · intro j hj
    have hj' : j < (260 - cnt n p).toNat := by omega
    rw [List.getElem?_append_left (by rw [l4]; exact hj')]
    exact v4 j hj'
end

/-- what the two arguments come to -/
inductive OrN : Value → Int → Prop
  | num (n t) : n ≠ 0 → OrN (.int n t) n
  | zero (t) : OrN (.int 0 t) 13
  | non : OrN .none 13
inductive OrX : Value → Str → Prop
  | word (x t) : 0 < x.length → (x.length : Int) < 2 ^ 62 → OrX (.str x t) x
  | empty (t) : OrX (.str (Str.ofString "") t) (Str.ofString "Ajaw")
  | non : OrX .none (Str.ofString "Ajaw")
theorem Fr.congr {h₀ h : Heap} {L : Addr} {m m' : Str → Option Value} (F : Fr h₀ L h m) (e : ∀ y, m y = m' y) : Fr h₀ L h m' := by
  have e' := funext e
  subst e'
  exact F
theorem ajaw : nameAt 19 = Str.ofString "Ajaw" := by decide +kernel
theorem name_len (p : Nat) (hp : p < 20) : 0 < (nameAt p).length ∧ ((nameAt p).length : Int) < 2 ^ 62 := by
  have h : ∀ p, p < 20 → 0 < (nameAt p).length ∧ ((nameAt p).length : Int) < 2 ^ 62 := by decide +kernel
  exact h p hp
section
variable {w : World} {loose : List Str} {mean : ExcName → Option Value} {mg mb : Str → Option Value} {A : Around} {s : Shared} {h₀ : Heap} {L : Addr} {m : Str → Option Value} {news : List (Addr × Obj)}
theorem tz_pre0 {Q : Flow → Shared → Prop} {E : Value → Shared → Prop} {v : Value} {n : Int} (F : Fr h₀ L s.heap m) (N : News h₀ L s.heap news) (hm : m (Str.ofString "number") = some v) (hv : OrN v n)
    (X : (hd.heap_39 w.params).In h₀) (T : Top p0 loose mean mg mb h₀) (hh : A.handled = none)
    (ret : ∀ h' tk' t, Fr h₀ L h' (fun y => if y = Str.ofString "number" then some (.int n t) else m y) → News h₀ L h' news → Q .next { s with heap := h', toks := tk' }) :
    wpAny (model prog w) A (exec (tzS 0) (envTz L)) Q E s := by
  conv in tzS 0 => whnf
  conv in envTz _ => unfold envTz; arg 2; whnf
  have F' : Fr h₀ L s.heap (fun y => if y = Str.ofString "number" then some v else m y) := Fr.congr F fun y => by
    by_cases e : y = Str.ofString "number"
    · rw [if_pos e, e, hm]
    · rw [if_neg e]
  clear F
  cases hv
  all_goals k_steps
  all_goals (rename Fr _ _ _ _ => F9; rename News _ _ _ _ => N9)
  all_goals first
    | (exfalso; omega)
    | (exfalso; rename _ ≠ (0 : Int) => h1; rename _ = (0 : Int) => h2; exact h1 h2)
    | (refine' ret _ _ _ (Fr.congr F9 ?e) N9
       case e =>
         intro y
         by_cases e : y = Str.ofString "number"
         · simp only [if_pos e]; rfl
         · simp only [if_neg e])
theorem tz_pre1 {Q : Flow → Shared → Prop} {E : Value → Shared → Prop} {v : Value} {x : Str} (F : Fr h₀ L s.heap m) (N : News h₀ L s.heap news) (hm : m (Str.ofString "name") = some v) (hv : OrX v x)
    (X : (hd.heap_39 w.params).In h₀) (T : Top p0 loose mean mg mb h₀) (hh : A.handled = none)
    (ret : ∀ h' tk' t, Fr h₀ L h' (fun y => if y = Str.ofString "name" then some (.str x t) else m y) → News h₀ L h' news → Q .next { s with heap := h', toks := tk' }) :
    wpAny (model prog w) A (exec (tzS 1) (envTz L)) Q E s := by
  conv in tzS 1 => whnf
  conv in envTz _ => unfold envTz; arg 2; whnf
  have F' : Fr h₀ L s.heap (fun y => if y = Str.ofString "name" then some v else m y) := Fr.congr F fun y => by
    by_cases e : y = Str.ofString "name"
    · rw [if_pos e, e, hm]
    · rw [if_neg e]
  clear F
  cases hv
  all_goals k_steps
  all_goals (rename Fr _ _ _ _ => F9; rename News _ _ _ _ => N9)
  all_goals first
    | (exfalso; omega)
    | (exfalso; rename _ ≠ (0 : Int) => h1; rename _ = (0 : Int) => h2; exact h1 h2)
    | (refine' ret _ _ _ (Fr.congr F9 ?e) N9
       case e =>
         intro y
         by_cases e : y = Str.ofString "name"
         · simp only [if_pos e]; rfl
         · simp only [if_neg e])
end

theorem SegX.mono {M : Model} {A : Around} {c : Code} {t : Sem PySem.Fin} {fs : List Frame} {s : Shared} {P P' : End → Shared → Prop} (h : SegX M A c t fs s P) (hp : ∀ e s', P e s' → P' e s') : SegX M A c t fs s P' := by
  intro Γ p hc hΓ
  obtain ⟨e, s', h1, h2, h3⟩ := h Γ p hc hΓ
  exact ⟨e, s', h1, h2, hp e s' h3⟩

/-- all that lies in h beside hb, L and the table -/
def ownOf (hb h : Heap) (L : Addr) : List (Addr × Obj) := (List.range h.objs.size).filterMap fun b => if b = 45 ∨ b = L ∨ (hb.get? b).isSome = true then none else (h.get? b).map fun o => (b, o)
theorem mem_ownOf {hb h : Heap} {L b : Addr} {o : Obj} : (b, o) ∈ ownOf hb h L ↔ h.get? b = some o ∧ b ≠ 45 ∧ b ≠ L ∧ hb.get? b = none := by
  unfold ownOf
  rw [List.mem_filterMap]
  constructor
  · rintro ⟨a, ha, e⟩
    split at e
    · cases e
    · rename_i hn
      cases ho : h.get? a with
      | none => rw [ho] at e; cases e
      | some o' =>
        rw [ho] at e
        cases e
        refine ⟨ho, fun q => hn (.inl q), fun q => hn (.inr (.inl q)), ?_⟩
        cases q : hb.get? b with
        | none => rfl
        | some x => exact absurd (.inr (.inr (by rw [q]; rfl))) hn
  · rintro ⟨ho, n1, n2, n3⟩
    refine ⟨b, List.mem_range.mpr (Heap.lt_size ho), ?_⟩
    rw [if_neg, ho]; rfl
    rintro (q | q | q)
    · exact n1 q
    · exact n2 q
    · rw [n3] at q; cases q

/-- the place of the generator's loop -/
theorem tzFor_eq : ∃ px pr yp ep pos, tzFor = .For (.Name (Str.ofString "i") px) (.Name (Str.ofString "ranged") pr) [.Expr (.Yield (some tzElt) yp) ep] [] pos := ⟨_, _, _, _, _, by with_unfolding_all rfl⟩

structure Items (c : Int) (items : Array Value) : Prop where
  at' : ∀ j : Nat, c + j < 260 → ∃ t, items[j]? = some (.int (c + j) t)

/-- what the first turn leaves -/
def TzFirst (w : World) (hb : Heap) (Lg : Addr) (c : Int) (N : Nat) (s : Shared) (e : End) (s' : Shared) : Prop :=
  ∃ it rg items a t₁ t₂ h' G' d' tk' tb', e.result = .yielded (.ref a) ∧ s' = ⟨h', G', d', tk', s.os⟩ ∧ (∀ b o, b ≠ Lg → b ≠ 45 → s.heap.get? b = some o → h'.get? b = some o) ∧
    s.heap.get? a = none ∧ h'.get? a = some (dateTup c t₁ t₂) ∧ TzHeap Lg it rg items 1 h' ∧ s.heap.get? it = none ∧ s.heap.get? rg = none ∧ h'.get? 45 = some tb' ∧ CTo tb' ∧ GExt s.gens G' ∧ Items c items ∧ TzSusp w hb Lg it rg items N e.genState ∧ Lg < it

section
variable {w : World} {loose : List Str} {mean : ExcName → Option Value} {mg mb : Str → Option Value} {A : Around} {s : Shared} {hb : Heap} {Lg : Addr} {m : Str → Option Value} {tb : Obj}
theorem tz_first (G : Gd w loose mean mg mb hb) (h45 : hb.get? 45 = none) (hk : ∀ b o, hb.get? b = some o → s.heap.get? b = some o) (hsz : hb.objs.size ≤ Lg) (hns : s.heap.Ns Lg m) {v₁ v₂ : Value} {n : Int} {p : Nat}
    (m1 : m (Str.ofString "number") = some v₁) (m2 : m (Str.ofString "name") = some v₂) (o1 : OrN v₁ n) (o2 : OrX v₂ (nameAt p)) (h1 : 1 ≤ n) (h2 : n ≤ 13) (hp : p < 20) (hc : cnt n p < 260)
    (htb : s.heap.get? 45 = some tb) (hct : CTo tb) (ok : okA A) (N : Nat) :
    SegX (model prog w) A (.func tzBody (envTz Lg)) ((model prog w).den (.func tzBody (envTz Lg))) [] s (TzFirst w hb Lg (cnt n p) N s) := by
  obtain ⟨X, T⟩ := id G
  have hLs : Lg < s.heap.objs.size := by obtain ⟨o, _, _, ho, _⟩ := hns; exact Heap.lt_size ho
  have n45 : (45 : Addr) ≠ Lg := fun q => by
    obtain ⟨o, es, ep, ho, hd, _⟩ := hns
    obtain ⟨ps, e, _⟩ := hct
    rw [← q, htb] at ho
    cases ho
    rw [e] at hd
    cases hd
  have F : Fr hb Lg s.heap m := ⟨hns, hk, hsz⟩
  have N0 : News hb Lg s.heap ((45, tb) :: ownOf hb s.heap Lg) := fun q hq => by
    rcases List.mem_cons.mp hq with rfl | hq
    · exact ⟨htb, n45, h45⟩
    · obtain ⟨b, o⟩ := q
      obtain ⟨z1, z2, z3, z4⟩ := mem_ownOf.mp hq
      exact ⟨z1, z3, z4⟩
  have hown : ∀ q ∈ ownOf hb s.heap Lg, q.1 ≠ 45 := fun q hq => by
    obtain ⟨b, o⟩ := q
    exact (mem_ownOf.mp hq).2.1
  obtain ⟨a1, a2, a3⟩ := over_ok (c := .func tzBody (envTz Lg)) (fs := []) ok rfl (Nat.le_of_ble_eq_true (by rfl)) (Nat.le_of_ble_eq_true (by rfl))
  refine s_func ?_
  rw [show execs tzBody (envTz Lg) = execs ([tzS 0, tzS 1] ++ ([tzS 2, tzS 3, tzS 4, tzS 5] ++ [tzFor])) (envTz Lg) from congrArg (fun b => execs b (envTz Lg)) tzBody_eq]
  refine s_execs_app (wpAny_execs_cons ?_)
  refine tz_pre0 F N0 m1 o1 X T a1 fun g1 tk1 t1 F1 N1 => wpAny_execs_cons ?_
  have m2' : (fun y => if y = Str.ofString "number" then some (Value.int n t1) else m y) (Str.ofString "name") = some v₂ := by dsimp only; rw [if_neg (by decide)]; exact m2
  refine' tz_pre1 (m := fun y => if y = Str.ofString "number" then some (Value.int n t1) else m y) ?f ?n m2' o2 X T a1 ?_
  case f => exact F1
  case n => exact N1
  intro g2 tk2 t2 F2 N2
  refine wpAny_pure ?_
  show SegX _ _ _ _ _ _ _
  refine s_execs_app ?_
  refine' tz_pre2 (m := m) (tx := t2) (tn := t1) ?f ?n hown X T hct a1 ?d ?u h1 h2 hp ?_
  case f => exact F2
  case n => exact N2
  case d => exact Nat.lt_of_le_of_lt (by omega) a2
  case u => exact Nat.lt_of_le_of_lt (by omega) a3
  intro h' tk' d' G' D its tb' m' F' D1 N' nD ct' x' len' v'
  show SegX _ _ _ _ _ _ _
  rw [execs_cons_wrap]
  obtain ⟨px, pr, yp, ep, pos, e⟩ := tzFor_eq
  rw [e, arm_exec_For]
  refine s_bind_wrap (wpAny_standAt ?_)
  have hD : h'.get? D = some { cls := .type "list", data := .seq its.toArray } := (N' _ (.head _)).1
  have hL : h'.IsList D its.toArray := ⟨_, hD, rfl, _, rfl⟩
  refine s_bind_wrap (wpAny_Name (wpAny_loadName_local (by rfl) (by with_unfolding_all rfl) F'.ns D1 ?_) (by decide))
  refine s_bind_wrap (wpAny_of_eq (a := .ref D) rfl ?_)
  refine s_bind_wrap (wpAny_standAt ?_)
  refine s_bind_wrap (wpAny_holding (wpAny_pyIter_list hL ?_))
  refine s_call prog w A _ [] _ _ _ _ _ _ _ fun pp => ?_
  have eD := (N' _ (.head _)).2
  have LgD : Lg ≠ D := fun q => eD.1 q.symm
  have lD : D < h'.objs.size := Heap.lt_size hD
  have lLg : Lg < h'.objs.size := F'.ns.lt
  have m45 := (N' (45, tb') (.tail _ (.head _))).1
  have l45 : 45 < h'.objs.size := Heap.lt_size m45
  have up : ∀ b o, h'.get? b = some o → (h'.push { cls := .type "list_iterator", data := .fields #[.ref D, .int (0 : Nat) 0] }).get? b = some o := fun b o e => Heap.get?_push_of_some _ e
  have keep₁ : ∀ b o, b ≠ Lg → b ≠ 45 → s.heap.get? b = some o → h'.get? b = some o := fun b o n1 n2 e => by
    cases q : hb.get? b with
    | some x =>
      have := hk b x q
      rw [e] at this; cases this
      exact F'.keep b _ q
    | none => exact (N' (b, o) (.tail _ (.tail _ (mem_ownOf.mpr ⟨e, n2, n1, q⟩)))).1
  have fit : s.heap.get? h'.objs.size = none := by
    cases q : s.heap.get? h'.objs.size with
    | none => rfl
    | some o => exact absurd (Heap.lt_size (keep₁ _ o (Nat.ne_of_gt lLg) (Nat.ne_of_gt l45) q)) (Nat.lt_irrefl _)
  have fD : s.heap.get? D = none := by
    cases q : s.heap.get? D with
    | none => rfl
    | some o =>
      have z : D ≠ 45 := fun z => nD (45, tb') (.head _) z.symm
      exact absurd rfl (nD (D, o) (.tail _ (mem_ownOf.mpr ⟨q, z, LgD.symm, eD.2⟩)))
  obtain ⟨t0, i0⟩ := v' 0 (by omega)
  refine SegX.mono (tz_loop (w := w) (hb := hb) (Lg := Lg) (it := h'.objs.size) (rg := D) (items := its.toArray) (env := envTz Lg) (x := Str.ofString "i") (px := px) (elt := tzElt) (ypos := yp) (ep := ep) rfl (by with_unfolding_all rfl) (by rfl) (by rfl) (by rfl)
    hsz (Nat.le_of_lt (Nat.lt_of_le_of_lt hsz lLg)) (Nat.ne_of_lt lLg) LgD (Nat.ne_of_gt lD) (by rfl) (by rfl) (by rfl) (Nat.le_of_ble_eq_true (by rfl)) (Nat.le_of_ble_eq_true (by rfl))
    (fun A s m i t Q E hh hd hu F ret => eval_elt G F hh hd hu ret) N A 0 (cnt n p) t0 _ ok (fun b o e => up _ _ (F'.keep b o e)) ⟨⟨m', F'.ns.keeps up⟩, ⟨_, Heap.get?_push_size _ rfl, rfl, rfl⟩, ⟨_, up _ _ hD, rfl, _, rfl⟩⟩ (by simpa using i0)) fun e s' hO => ?_
  obtain ⟨a, u₁, u₂, h2, tk3, r1, r2, r3, r4, r5, r6, r7⟩ := hO
  refine ⟨h'.objs.size, D, its.toArray, a, u₁, u₂, h2, G', d', tk3, tb', r1, r2, fun b o n1 n2 e => ?_, ?_, r5, r6, fit, fD, r3 45 _ n45 (Nat.ne_of_lt l45) (up _ _ m45), ct', x', ⟨fun j hj => ?_⟩, r7, lLg⟩
  · have z := keep₁ b o n1 n2 e
    exact r3 b o n1 (Nat.ne_of_lt (Heap.lt_size z)) (up _ _ z)
  · cases q : s.heap.get? a with
    | none => rfl
    | some o =>
      exfalso
      by_cases z1 : a = Lg
      · obtain ⟨oL, _, _, hL', _⟩ := F'.ns
        have := up _ _ hL'
        rw [z1] at r4
        exact absurd (r4.symm.trans this) (by simp)
      · by_cases z2 : a = 45
        · rw [z2] at r4
          exact absurd (r4.symm.trans (up _ _ m45)) (by simp)
        · exact absurd (r4.symm.trans (up _ _ (keep₁ a o z1 z2 q))) (by simp)
  · obtain ⟨t, z⟩ := v' j hj
    exact ⟨t, by simpa using z⟩
end

/-- the walker a, ready to tell of count c -/
inductive Walker (w : World) (hb : Heap) (a : Addr) (g : Nat) (c : Int) (h : Heap) : List Addr → List Addr → GenState → Prop
  | fresh (Lg : Addr) (m : Str → Option Value) (v₁ v₂ : Value) (n : Int) (p : Nat) : h.IsGen a g → hb.objs.size ≤ Lg → h.Ns Lg m → m (Str.ofString "number") = some v₁ → m (Str.ofString "name") = some v₂ → OrN v₁ n → OrX v₂ (nameAt p) → 1 ≤ n → n ≤ 13 → p < 20 → cnt n p = c →
      Walker w hb a g c h [Lg] [a, Lg] (.fresh (.func tzBody (envTz Lg)))
  | going (Lg it rg : Addr) (items : Array Value) (j N : Nat) (c0 : Int) (gs : GenState) : h.IsGen a g → hb.objs.size ≤ Lg → hb.objs.size ≤ it → TzHeap Lg it rg items j h → Items c0 items → c0 + j = c → 260 ≤ c + N → TzSusp w hb Lg it rg items N gs →
      Walker w hb a g c h [Lg, it] [a, Lg, it, rg] gs

theorem Walker.keeps {w : World} {hb : Heap} {a : Addr} {g : Nat} {c : Int} {h h' : Heap} {wr fp : List Addr} {gs : GenState} (x : Walker w hb a g c h wr fp gs) (hk : ∀ b o, b ∈ fp → h.get? b = some o → h'.get? b = some o) : Walker w hb a g c h' wr fp gs := by
  cases x with
  | fresh Lg m v₁ v₂ n p h1 h2 h3 h4 h5 h6 h7 h8 h9 h10 h11 =>
    obtain ⟨o, nm, qn, ho, r⟩ := h1
    obtain ⟨o', es, ep, ho', r'⟩ := h3
    exact .fresh Lg m v₁ v₂ n p ⟨o, nm, qn, hk _ _ (by simp) ho, r⟩ h2 ⟨o', es, ep, hk _ _ (by simp) ho', r'⟩ h4 h5 h6 h7 h8 h9 h10 h11
  | going Lg it rg items j N c0 gs h1 h2 h3 h4 h5 h6 h7 h8 =>
    obtain ⟨o, nm, qn, ho, r⟩ := h1
    exact .going Lg it rg items j N c0 gs ⟨o, nm, qn, hk _ _ (by simp) ho, r⟩ h2 h3 (h4.keeps fun b o hb e => hk b o (by rcases hb with rfl | rfl | rfl <;> simp) e) h5 h6 h7 h8
theorem Walker.bare {w : World} {hb : Heap} {a : Addr} {g : Nat} {c : Int} {h : Heap} {wr fp : List Addr} {gs : GenState} (x : Walker w hb a g c h wr fp gs) : gs.bare = true := by
  cases x with
  | fresh => rfl
  | going Lg it rg items j N c0 gs h1 h2 h3 h4 h5 h6 h7 h8 => exact h8.bare
theorem Walker.lt {w : World} {hb : Heap} {a : Addr} {g : Nat} {c : Int} {h : Heap} {wr fp : List Addr} {gs : GenState} (x : Walker w hb a g c h wr fp gs) : ∀ b ∈ fp, ∃ o, h.get? b = some o := by
  cases x with
  | fresh Lg m v₁ v₂ n p h1 h2 h3 =>
    obtain ⟨o, nm, qn, ho, r⟩ := h1
    obtain ⟨o', es, ep, ho', r'⟩ := h3
    intro b hb
    simp only [List.mem_cons, List.not_mem_nil, or_false] at hb
    rcases hb with rfl | rfl
    · exact ⟨_, ho⟩
    · exact ⟨_, ho'⟩
  | going Lg it rg items j N c0 gs h1 h2 h3 h4 =>
    obtain ⟨o, nm, qn, ho, r⟩ := h1
    obtain ⟨m, o', es, ep, ho', r'⟩ := h4.fr
    obtain ⟨o2, ho2, _⟩ := h4.it
    obtain ⟨o3, ho3, _⟩ := h4.ls
    intro b hb
    simp only [List.mem_cons, List.not_mem_nil, or_false] at hb
    rcases hb with rfl | rfl | rfl | rfl
    · exact ⟨_, ho⟩
    · exact ⟨_, ho'⟩
    · exact ⟨_, ho2⟩
    · exact ⟨_, ho3⟩
theorem Walker.sub {w : World} {hb : Heap} {a : Addr} {g : Nat} {c : Int} {h : Heap} {wr fp : List Addr} {gs : GenState} (x : Walker w hb a g c h wr fp gs) : ∀ b ∈ wr, b ∈ fp := by
  cases x with
  | fresh Lg =>
    intro b hb
    simp only [List.mem_cons, List.not_mem_nil, or_false] at hb ⊢
    exact .inr hb
  | going Lg it rg =>
    intro b hb
    simp only [List.mem_cons, List.not_mem_nil, or_false] at hb ⊢
    rcases hb with hb | hb
    · exact .inr (.inl hb)
    · exact .inr (.inr (.inl hb))

section
variable {w : World} {loose : List Str} {mean : ExcName → Option Value} {mg mb : Str → Option Value} {A : Around} {s : Shared} {hb : Heap} {tb : Obj} {a : Addr} {g : Nat} {c : Int} {wr fp : List Addr} {gs : GenState}
/-- what one next leaves -/
def NextOut (w : World) (hb : Heap) (a : Addr) (g : Nat) (c : Int) (wr fp : List Addr) (s : Shared) (v : Value) (s' : Shared) : Prop :=
  ∃ r t₁ t₂ wr' fp' gs' tb' h' G' d' tk', v = .ref r ∧ s' = ⟨h', G', d', tk', s.os⟩ ∧ (∀ b o, b ∉ wr → b ≠ 45 → s.heap.get? b = some o → h'.get? b = some o) ∧
    s.heap.get? r = none ∧ h'.get? r = some (dateTup c t₁ t₂) ∧ Walker w hb a g (c + 1) h' wr' fp' gs' ∧ G'[g]? = some gs' ∧ (∀ k, k ≠ g → k < s.gens.size → G'[k]? = s.gens[k]?) ∧ s.gens.size ≤ G'.size ∧ (AllBare s.gens → AllBare G') ∧
    h'.get? 45 = some tb' ∧ CTo tb' ∧ (∀ b ∈ fp', b ∈ fp ∨ s.heap.get? b = none) ∧ (∀ b ∈ fp, b ∈ fp')

theorem set_size {G : Array GenState} {g : Nat} {x : GenState} : (G.setIfInBounds g x).size = G.size := by simp
theorem set_ne {G : Array GenState} {g k : Nat} {x : GenState} (h : k ≠ g) : (G.setIfInBounds g x)[k]? = G[k]? := by
  rw [Array.getElem?_setIfInBounds, if_neg (fun q => h q.symm)]
theorem set_eq {G : Array GenState} {g : Nat} {x : GenState} (h : g < G.size) : (G.setIfInBounds g x)[g]? = some x := by
  rw [Array.getElem?_setIfInBounds, if_pos rfl, if_pos h]
theorem set_bare {G : Array GenState} {g : Nat} {x : GenState} (h : AllBare G) (hx : x.bare = true) : AllBare (G.setIfInBounds g x) := by
  intro y hy
  obtain ⟨i, hi, e⟩ := Array.mem_iff_getElem?.mp hy |>.elim fun i e => (⟨i, (Array.getElem?_eq_some_iff.mp e).1, e⟩ : ∃ i, i < (G.setIfInBounds g x).size ∧ (G.setIfInBounds g x)[i]? = some y)
  by_cases q : i = g
  · subst q
    rw [set_eq (by simpa using hi)] at e
    cases e; exact hx
  · rw [set_ne q] at e
    exact h y (Array.mem_of_getElem? e)

theorem next_walker {Q E : Value → Shared → Prop} (G : Gd w loose mean mg mb hb) (h45 : hb.get? 45 = none) (hk : ∀ b o, hb.get? b = some o → s.heap.get? b = some o) (W : Walker w hb a g c s.heap wr fp gs) (hgs : s.gens[g]? = some gs)
    (htb : s.heap.get? 45 = some tb) (hct : CTo tb) (hh : A.handled = none) (hd : A.depth + 120 < recursionLimit) (hu : A.units + 240 < cLine) (hc : c < 260)
    (ret : ∀ v s', NextOut w hb a g c wr fp s v s' → Q v s') :
    wpAny (model prog w) A (call (.builtin "next") [.ref a]) Q E s := by
  have hlim := G.T.nolimit.keeps hk
  have ok : okA A.in1.in1 := ⟨hh, Nat.lt_of_le_of_lt (by walk_at "nf room") hd, Nat.lt_of_le_of_lt (by walk_at "nf room") hu⟩
  have hg : g < s.gens.size := (Array.getElem?_eq_some_iff.mp hgs).1
  have kind45 : ∀ b o, s.heap.get? b = some o → o.cls ≠ .none → b ≠ 45 := fun b o e hcl q => by
    obtain ⟨ps, e', _⟩ := hct
    rw [q, htb] at e
    cases e
    exact hcl (by rw [e'])
  cases W with
  | fresh Lg m v₁ v₂ n p h1 h2 h3 h4 h5 h6 h7 h8 h9 h10 h11 =>
    refine call_next h1 hlim (by omega) hgs (P := TzFirst w hb Lg c 300 (s.setGen g .running)) (h11 ▸ tz_first (s := s.setGen g .running) G h45 hk h2 h3 h4 h5 h6 h7 h8 h9 h10 (h11 ▸ hc) htb hct ok 300) fun e s₁ hq hO => .inl ?_
    obtain ⟨it, rg, items, r, t₁, t₂, h', G', d', tk', tb', r1, r2, r3, r4, r5, r6, r7, r8, r9, r10, r11, r12, r13, r14⟩ := hO
    subst r2
    obtain ⟨o, nm, qn, ho, hoc, hod, hos⟩ := id h1
    have aL : a ≠ Lg := fun q => by
      obtain ⟨o', es, ep, ho', hd', _⟩ := h3
      rw [← q, ho] at ho'
      cases ho'
      rw [hod] at hd'
      cases hd'
    have a45 : a ≠ 45 := kind45 a o ho (by rw [hoc]; simp)
    have hc1 : 260 ≤ c + 1 + ((300 : Nat) : Int) := by
      have : 1 ≤ c := by rw [← h11]; unfold cnt; omega
      omega
    refine ⟨.ref r, r1, ret _ _ ⟨r, t₁, t₂, _, _, e.genState, tb', h', G'.setIfInBounds g e.genState, d', tk', rfl, rfl, fun b o n1 n2 e => r3 b o (by simpa using n1) n2 e, r4, r5,
      .going Lg it rg items 1 300 c _ ⟨o, nm, qn, r3 a o aL a45 ho, hoc, hod, hos⟩ h2 (Nat.le_of_lt (Nat.lt_of_le_of_lt h2 r14)) r6 r12 rfl hc1 r13, ?_, ?_, ?_, ?_, r9, r10, ?_, ?_⟩⟩
    · exact set_eq (Nat.lt_of_lt_of_le hg (by have := r11.1; simpa [Shared.setGen] using this))
    · intro k hk hks
      rw [set_ne hk, r11.2.1 k (by simpa [Shared.setGen] using hks)]
      exact set_ne hk
    · rw [set_size]; have := r11.1; simpa [Shared.setGen] using this
    · intro hb'
      refine set_bare (r11.2.2 (set_bare hb' rfl)) r13.bare
    · intro b hb'
      simp only [List.mem_cons, List.not_mem_nil, or_false] at hb' ⊢
      rcases hb' with rfl | rfl | rfl | rfl
      · exact .inl (.inl rfl)
      · exact .inl (.inr rfl)
      · exact .inr r7
      · exact .inr r8
    · intro b hb'
      simp only [List.mem_cons, List.not_mem_nil, or_false] at hb' ⊢
      rcases hb' with rfl | rfl
      · exact .inl rfl
      · exact .inr (.inl rfl)
  | going Lg it rg items j N c0 gs h1 h2 h3 h4 h5 h6 h7 h8 =>
    obtain ⟨N', rfl⟩ : ∃ N', N = N' + 1 := ⟨N - 1, by omega⟩
    obtain ⟨b0, k, l, cc, pp, fs, cl, rfl, go⟩ := h8
    obtain ⟨t, hit⟩ := h5.at' j (by omega)
    refine call_next h1 hlim (by omega) hgs (P := TzOut Lg it rg items j (c0 + j) (TzSusp w hb Lg it rg items N') (s.setGen g .running)) (go A.in1.in1 j (c0 + j) t (s.setGen g .running) ok hk h4 hit) fun e s₁ hq hO => .inl ?_
    obtain ⟨r, t₁, t₂, h', tk', r1, r2, r3, r4, r5, r6, r7⟩ := hO
    subst r2
    obtain ⟨o, nm, qn, ho, hoc, hod, hos⟩ := id h1
    have aL : a ≠ Lg := fun q => by
      obtain ⟨m, o', es, ep, ho', hd', _⟩ := h4.fr
      rw [← q, ho] at ho'
      cases ho'
      rw [hod] at hd'
      cases hd'
    have aI : a ≠ it := fun q => by
      obtain ⟨o', ho', hc', _⟩ := h4.it
      rw [← q, ho] at ho'
      cases ho'
      rw [hoc] at hc'
      exact absurd hc' (by decide)
    have L45 : Lg ≠ 45 := fun q => by
      obtain ⟨m, o', es, ep, ho', hd', _⟩ := h4.fr
      obtain ⟨ps, e', _⟩ := hct
      rw [q, htb] at ho'
      cases ho'
      rw [e'] at hd'
      cases hd'
    have I45 : it ≠ 45 := by
      obtain ⟨o', ho', hc', _⟩ := h4.it
      exact kind45 it o' ho' (by rw [hc']; simp)
    refine ⟨.ref r, r1, ret _ _ ⟨r, t₁, t₂, _, _, e.genState, tb, h', (s.gens.setIfInBounds g .running).setIfInBounds g e.genState, s.drawn, tk', rfl, rfl, fun b o n1 n2 e => r3 b o (fun q => n1 (by simp [q])) (fun q => n1 (by simp [q])) e, r4, by rw [← h6]; exact r5,
      .going Lg it rg items (j + 1) N' c0 _ ⟨o, nm, qn, r3 a o aL aI ho, hoc, hod, hos⟩ h2 h3 r6 h5 (by omega) (by omega) r7, ?_, ?_, ?_, ?_, r3 45 tb L45.symm I45.symm htb, hct, fun b hb' => .inl hb', fun b hb' => hb'⟩⟩
    · exact set_eq (by rw [set_size]; exact hg)
    · intro k hk hks
      rw [set_ne hk, set_ne hk]
    · rw [set_size, set_size]; exact Nat.le_refl _
    · intro hb'
      exact set_bare (set_bare hb' rfl) r7.bare
end

/-- the day number and the place that to_tzolkin tells for a Julian day -/
def tzNum (jd : Int) : Int := (jd - 584283 + 3) % 13 + 1
def tzPlace (jd : Int) : Nat := ((jd - 584283 + 19) % 20).toNat
theorem tzNum_eq {jd : Int} : amodV (jd - 584283 + 4) 13 = tzNum jd := by
  unfold amodV tzNum
  simp only [Int.fmod_eq_emod_of_nonneg _ (by decide : (0 : Int) ≤ 13)]
  split <;> omega
theorem tzPlace_eq {jd : Int} : plc (amodV (jd - 584283 + 20) 20 - 1) = tzPlace jd := by
  unfold amodV tzPlace plc
  simp only [Int.fmod_eq_emod_of_nonneg _ (by decide : (0 : Int) ≤ 20)]
  split <;> split <;> omega

theorem amodV_bounds (a : Int) : 1 ≤ amodV a 20 ∧ amodV a 20 ≤ 20 := by
  unfold amodV
  simp only [Int.fmod_eq_emod_of_nonneg _ (by decide : (0 : Int) ≤ 20)]
  split <;> omega
section
variable {w : World} {loose : List Str} {mean : ExcName → Option Value} {mg mb : Str → Option Value} {A : Around} {s : Shared} {h₀ : Heap} {L : Addr} {m : Str → Option Value} {news : List (Addr × Obj)} {Q E : Value → Shared → Prop}
theorem midnight_nf (G : Gd w loose mean mg mb s.heap) (hh : A.handled = none) (hd : A.depth + 20 < recursionLimit) (hu : A.units + 40 < cLine)
    {jd : Int} {tj : Tok} (hj : 0 < jd)
    (ret : ∀ h' tk', Ext s.heap h' → Q (.int jd tj) { s with heap := h', toks := tk' }) :
    wpAny (model prog w) A (call (.ref 21) [.int jd tj]) Q E s := by
  obtain ⟨X, T⟩ := G
  obtain ⟨hd', dp, fr, gd, un⟩ := A
  subst hh
  have hk := hk_self s.heap
  have hsz := Nat.le_refl s.heap.objs.size
  have hlim := T.nolimit
  have hn := hn_nil s.heap s.heap
  refine wpAny_call ?_
  k_dflt (refine' enter_nf [(Str.ofString "jd", .int jd tj)] ?k1 ?k2 ?k3 ?k4 ?k5 ?k6 ?k7 ?k8 ?k9 ?kB ?_ ?c2 ?c3 ?c4 ?c5; walk_at "nf enter")
  intro h' F' N' hall'
  try dsimp only
  clear hall'
  k_steps
  rename Fr _ _ _ _ => F9
  exact ret _ _ (Ext.of_fr F9)
theorem midnight_K {jd : Int} {tj : Tok} (F : Fr h₀ L s.heap m) (N : News h₀ L s.heap news) (X : (hd.heap_39 w.params).In h₀) (T : Top p0 loose mean mg mb h₀) (hh : A.handled = none) (hd : A.depth + 20 < recursionLimit) (hu : A.units + 40 < cLine) (hj : 0 < jd)
    (ret : ∀ h' tk', Fr h₀ L h' m → News h₀ L h' news → Q (.int jd tj) { s with heap := h', toks := tk' }) :
    wpAny (model prog w) A (call (.ref 21) [.int jd tj]) Q E s :=
  midnight_nf (Gd.keeps ⟨X, T⟩ F.keep) hh hd hu hj fun h' tk' x => ret h' tk' (Fr.ext F x) (News.ext N x)
local macro_rules | `(tactic| walk_at "call ref") => `(tactic| ((with_reducible show wpAny _ _ (call (Value.ref 21) [Value.int _ _]) _ _ _); (rename Fr _ _ _ _ => F8); (rename News _ _ _ _ => N8); k_dflt ((refine midnight_K F8 N8 (by assumption) (by assumption) rfl ?k1 ?k2 ?k3 ?_; (case k1 => walk_at "nf room"); (case k2 => walk_at "nf room"); (case k3 => first | assumption | omega))); clear F8 N8; intro h' tk' F' N'; (try dsimp only)))
theorem totz_nf (G : Gd w loose mean mg mb s.heap) (hh : A.handled = none) (hd : A.depth + 40 < recursionLimit) (hu : A.units + 80 < cLine)
    {jd : Int} {tj : Tok} (hj : 0 < jd)
    (ret : ∀ h' tk' t₁ t₂ a, Ext s.heap h' → s.heap.get? a = none → h'.get? a = some { cls := .type "tuple", data := .seq #[.int (tzNum jd) t₁, .str (nameAt (tzPlace jd)) t₂] } → Q (.ref a) { s with heap := h', toks := tk' }) :
    wpAny (model prog w) A (call (.ref 36) [.int jd tj]) Q E s := by
  obtain ⟨X, T⟩ := G
  obtain ⟨hd', dp, fr, gd, un⟩ := A
  subst hh
  have hk := hk_self s.heap
  have hsz := Nat.le_refl s.heap.objs.size
  have hlim := T.nolimit
  have hn := hn_nil s.heap s.heap
  refine wpAny_call ?_
  k_dflt (refine' enter_nf [(Str.ofString "jd", .int jd tj)] ?k1 ?k2 ?k3 ?k4 ?k5 ?k6 ?k7 ?k8 ?k9 ?kB ?_ ?c2 ?c3 ?c4 ?c5; walk_at "nf enter")
  intro h' F' N' hall'
  try dsimp only
  clear hall'
  obtain ⟨q1, q2⟩ := amodV_bounds (jd - 584283 + 20)
  k_steps
  rename Fr _ _ _ _ => F9
  rename News _ _ _ _ => N9
  rw [tzNum_eq, tzPlace_eq] at N9
  exact ret _ _ _ _ _ (Ext.of_fr F9) (N9 _ (List.mem_cons_self ..)).2.2 (N9 _ (List.mem_cons_self ..)).1
theorem totz_K {jd : Int} {tj : Tok} (F : Fr h₀ L s.heap m) (N : News h₀ L s.heap news) (X : (hd.heap_39 w.params).In h₀) (T : Top p0 loose mean mg mb h₀) (hh : A.handled = none) (hd : A.depth + 40 < recursionLimit) (hu : A.units + 80 < cLine) (hj : 0 < jd)
    (ret : ∀ h' tk' a t₁ t₂, Fr h₀ L h' m → News h₀ L h' ((a, { cls := .type "tuple", data := .seq #[.int (tzNum jd) t₁, .str (nameAt (tzPlace jd)) t₂] }) :: news) → Ext s.heap h' → (∀ p ∈ news, p.1 ≠ a) → Q (.ref a) { s with heap := h', toks := tk' }) :
    wpAny (model prog w) A (call (.ref 36) [.int jd tj]) Q E s :=
  totz_nf (Gd.keeps ⟨X, T⟩ F.keep) hh hd hu hj fun h' tk' t₁ t₂ a x f g => ret h' tk' a t₁ t₂ (Fr.ext F x) (fun p hp => by
    rcases List.mem_cons.mp hp with rfl | hp
    · refine ⟨g, fun q => ?_, ?_⟩
      · obtain ⟨o, _, _, ho, _⟩ := F.ns
        rw [show (a, _).1 = a from rfl] at q
        rw [← q, f] at ho; cases ho
      · cases q : h₀.get? a with
        | none => rfl
        | some o => have := F.keep _ _ q; rw [f] at this; cases this
    · exact News.ext N x p hp) x fun p hp q => by
      have := (N p hp).1
      rw [q, f] at this; cases this
end

/-- a slot's numbers: the walker stands at count c -/
structure SlotOk (c num place start : Int) : Prop where
  c1 : 1 ≤ c
  c2 : c ≤ 260
  n : num = (c - 1) % 13 + 1
  p : place = (c - 1) % 20
  n' : tzNum start = num
  p' : (tzPlace start : Int) = place
  s : 0 < start
def slotObj (a : Addr) (num place start : Int) (t₁ t₂ t₃ : Tok) (k : Nat) : Obj := { cls := .type "list", data := .seq #[.ref a, .int num t₁, .int place t₂, .int start t₃] k }

section
variable {w : World} {loose : List Str} {mean : ExcName → Option Value} {mg mb : Str → Option Value} {A : Around} {s : Shared} {h₀ hb : Heap} {L : Addr} {m : Str → Option Value} {news : List (Addr × Obj)} {Q E : Value → Shared → Prop}
def IsFr (m : Str → Option Value) (o : Obj) : Prop := ∀ h : Heap, ∀ L, h.get? L = some o → h.Ns L m
def IsGn (g : Nat) (o : Obj) : Prop := ∀ h : Heap, ∀ a, h.get? a = some o → h.IsGen a g

theorem make_gen_K (F : Fr h₀ L s.heap m) (N : News h₀ L s.heap news) (X : (hd.heap_39 w.params).In h₀) (T : Top p0 loose mean mg mb h₀) (hroom : A.depth < recursionLimit) {v₁ v₂ : Value}
    (ret : ∀ h' tk' a Lg oa oL, Fr h₀ L h' m → News h₀ L h' ((a, oa) :: (Lg, oL) :: news) → IsGn s.gens.size oa → IsFr (fun y => [(Str.ofString "number", v₁), (Str.ofString "name", v₂)].reverse.lookup y) oL → L < Lg → Lg < a → (∀ p ∈ (Lg, oL) :: news, p.1 < a) →
      Q (.ref a) ⟨h', s.gens.push (.fresh (.func tzBody (envTz Lg))), s.drawn, tk', s.os⟩) :
    wpAny (model prog w) A (call (.ref 58) [v₁, v₂]) Q E s := by
  have LB := F.ns.lt
  refine make_gen ⟨X, T⟩ F.keep hroom fun h' tk' a Lg hk hs hl ha hns hg => ?_
  obtain ⟨oa, nm, qn, e1, r1⟩ := id hg
  obtain ⟨oL, es, ep, e2, r2⟩ := id hns
  have nh : ∀ b, s.heap.objs.size ≤ b → h₀.get? b = none := fun b hb => by
    cases q : h₀.get? b with
    | none => rfl
    | some o => exact absurd (Heap.lt_size (F.keep _ _ q)) (Nat.not_lt_of_le hb)
  refine ret h' tk' a Lg oa oL ⟨F.ns.keeps hk, fun b o e => hk b o (F.keep b o e), F.above⟩ (fun p hp => ?_) (fun h b e => ⟨oa, nm, qn, e, r1⟩) (fun h b e => ⟨oL, es, ep, e, r2⟩) (Nat.lt_of_lt_of_le LB hs) hl fun p hp => ?_
  · rcases List.mem_cons.mp hp with rfl | hp
    · exact ⟨e1, Nat.ne_of_gt (Nat.lt_of_lt_of_le LB (Nat.le_trans hs (Nat.le_of_lt hl))), nh _ (Nat.le_trans hs (Nat.le_of_lt hl))⟩
    rcases List.mem_cons.mp hp with rfl | hp
    · exact ⟨e2, Nat.ne_of_gt (Nat.lt_of_lt_of_le LB hs), nh _ hs⟩
    · exact ⟨hk _ _ (N p hp).1, (N p hp).2⟩
  · rcases List.mem_cons.mp hp with rfl | hp
    · exact hl
    · exact Nat.lt_trans (Nat.lt_of_lt_of_le (Heap.lt_size (N p hp).1) hs) hl
end
-- MACROS
local macro_rules | `(tactic| walk_at "call ref") => `(tactic| ((with_reducible show wpAny _ _ (call (Value.ref 58) [_, _]) _ _ _); (rename Fr _ _ _ _ => F8); (rename News _ _ _ _ => N8); k_dflt ((refine make_gen_K F8 N8 (by assumption) (by assumption) ?k1 ?_; (case k1 => walk_at "nf room"))); clear F8 N8; intro h' tk' a' Lg' oa' oL' F' N' g' f' s' lt' l1; (try k_lt l1); (try dsimp only)))
local macro_rules | `(tactic| walk_at "call ref") => `(tactic| ((with_reducible show wpAny _ _ (call (Value.ref 36) [Value.int _ _]) _ _ _); (rename Fr _ _ _ _ => F8); (rename News _ _ _ _ => N8); k_dflt ((refine totz_K F8 N8 (by assumption) (by assumption) rfl ?k1 ?k2 ?k3 ?_; (case k1 => walk_at "nf room"); (case k2 => walk_at "nf room"); (case k3 => first | assumption | omega))); clear F8 N8; intro h' tk' a' t₁' t₂' F' N' e' n'; (try dsimp only)))
-- END MACROS
section
variable {w : World} {loose : List Str} {mean : ExcName → Option Value} {mg mb : Str → Option Value} {A : Around} {s : Shared} {h₀ hb : Heap} {L : Addr} {m : Str → Option Value} {news : List (Addr × Obj)} {Q E : Value → Shared → Prop}
theorem tz_bounds (st : Int) : 1 ≤ tzNum st ∧ tzNum st ≤ 13 ∧ tzPlace st < 20 := by
  unfold tzNum tzPlace; omega
theorem slot_mk {st : Int} (h : 0 < st) : SlotOk (cnt (tzNum st) (tzPlace st)) (tzNum st) (tzPlace st) st := by
  constructor <;> first | rfl | assumption | (unfold cnt tzNum tzPlace; omega)
theorem cnt_lt {n p : Int} (h1 : 1 ≤ n) (h2 : n ≤ 13) (h3 : 0 ≤ p) (h4 : p < 20) (h : ¬ (n = 13 ∧ p = 19)) : cnt n p < 260 := by
  unfold cnt; omega
def MakeRet (w : World) (hb : Heap) (s : Shared) (Q : Value → Shared → Prop) : Prop :=
  ∀ h' tk' S a num place start Lg t₁ t₂ t₃ k c gs, Ext s.heap h' → s.heap.get? S = none → h'.get? S = some (slotObj a num place start t₁ t₂ t₃ k) → SlotOk c num place start → c < 260 → Walker w hb a s.gens.size c h' [Lg] [a, Lg] gs →
      s.heap.get? a = none → s.heap.get? Lg = none → S ≠ a → S ≠ Lg → Q (.ref S) ⟨h', s.gens.push gs, s.drawn, tk', s.os⟩
theorem make_fin {h' : Heap} {S a Lg : Addr} {oa oL : Obj} {rest : List (Addr × Obj)} {num place st : Int} {t₁ t₂ t₃ u₁ u₂ : Tok} {k tk' : Nat} (F : Fr s.heap s.heap.objs.size h' m) (N : News s.heap s.heap.objs.size h' ((S, slotObj a num place st t₁ t₂ t₃ k) :: (a, oa) :: (Lg, oL) :: rest))
    (hbs : hb.objs.size ≤ s.heap.objs.size) (g : IsGn s.gens.size oa) (f : IsFr (fun y => [(Str.ofString "number", .int (tzNum st) u₁), (Str.ofString "name", .str (nameAt (tzPlace st)) u₂)].reverse.lookup y) oL) (hs : s.heap.objs.size ≤ Lg) (l1 : a < S ∧ Lg < S)
    (hst : 0 < st) (hn : num = tzNum st) (hp : place = (tzPlace st : Int)) (hno : ¬ (num = 13 ∧ place = 19)) (ret : MakeRet w hb s Q) : Q (.ref S) ⟨h', s.gens.push (.fresh (.func tzBody (envTz Lg))), s.drawn, tk', s.os⟩ := by
  subst hn hp
  obtain ⟨b1, b2, b3⟩ := tz_bounds st
  refine ret h' tk' S a _ _ st Lg _ _ _ _ (cnt (tzNum st) (tzPlace st)) _ (Ext.of_fr F) (N _ (.head _)).2.2 (N _ (.head _)).1 (slot_mk hst) (cnt_lt b1 b2 (by omega) (by omega) hno)
    (.fresh Lg _ _ _ (tzNum st) (tzPlace st) (g _ _ (N _ (.tail _ (.head _))).1) (Nat.le_trans hbs hs) (f _ _ (N _ (.tail _ (.tail _ (.head _)))).1) (by rfl) (by rfl) (.num _ _ (by omega)) (.word _ _ (name_len _ b3).1 (name_len _ b3).2) b1 b2 b3 rfl)
    (N _ (.tail _ (.head _))).2.2 (N _ (.tail _ (.tail _ (.head _)))).2.2 (Nat.ne_of_gt l1.1) (Nat.ne_of_gt l1.2)

theorem make_nf (G : Gd w loose mean mg mb s.heap) (hh : A.handled = none) (hd : A.depth + 60 < recursionLimit) (hu : A.units + 120 < cLine)
    {st : Int} {tj : Tok} (hj : 584283 ≤ st) (hbs : hb.objs.size ≤ s.heap.objs.size) (ret : MakeRet w hb s Q) :
    wpAny (model prog w) A (call (.ref 73) [.int st tj]) Q E s := by
  obtain ⟨X, T⟩ := G
  obtain ⟨hd', dp, fr, gd, un⟩ := A
  subst hh
  have hk := hk_self s.heap
  have hsz := Nat.le_refl s.heap.objs.size
  have hlim := T.nolimit
  have hn := hn_nil s.heap s.heap
  refine wpAny_call ?_
  k_dflt (refine' enter_nf [(Str.ofString "start", .int st tj)] ?k1 ?k2 ?k3 ?k4 ?k5 ?k6 ?k7 ?k8 ?k9 ?kB ?_ ?c2 ?c3 ?c4 ?c5; walk_at "nf enter")
  intro h' F' N' hall'
  try dsimp only
  clear hall'
  k_steps
  all_goals (rename Fr _ _ _ _ => F9; rename News _ _ _ _ => N9; rename IsGn _ _ => g9; rename IsFr _ _ => f9)
  all_goals (try simp only [Int.fmod_eq_emod_of_nonneg _ (by decide : (0 : Int) ≤ 13), Int.fmod_eq_emod_of_nonneg _ (by decide : (0 : Int) ≤ 20)] at *)
  all_goals refine make_fin F9 N9 hbs g9 f9 (Nat.le_of_lt (by assumption)) ?_ ?_ ?_ ?_ ?_ ret
  all_goals (try simp only [Bool.and_eq_true, decide_eq_true_eq, decide_eq_false_iff_not, Bool.not_eq_true'] at *)
  all_goals first
    | (constructor <;> simp_all only [and_true, true_and] <;> fail "no")
    | (simp only [tzNum, tzPlace]; omega)
    | omega
    | (unfold tzNum; omega)
    | (unfold tzPlace; omega)
end

/-- the objects at the places fp -/
def fpOf (h : Heap) (fp : List Addr) : List (Addr × Obj) := fp.filterMap fun b => (h.get? b).map fun o => (b, o)
theorem mem_fpOf {h : Heap} {fp : List Addr} {b : Addr} {o : Obj} : (b, o) ∈ fpOf h fp ↔ b ∈ fp ∧ h.get? b = some o := by
  unfold fpOf
  rw [List.mem_filterMap]
  constructor
  · rintro ⟨a, ha, e⟩
    cases ho : h.get? a with
    | none => rw [ho] at e; cases e
    | some o' => rw [ho] at e; cases e; exact ⟨ha, ho⟩
  · rintro ⟨hb, ho⟩
    exact ⟨b, hb, by rw [ho]; rfl⟩
/-- a walker told by its own objects alone -/
structure WOwn (w : World) (hb : Heap) (a : Addr) (g : Nat) (c : Int) (wr fp : List Addr) (gs : GenState) (own : List (Addr × Obj)) : Prop where
  w : ∀ h : Heap, (∀ p ∈ own, h.get? p.1 = some p.2) → Walker w hb a g c h wr fp gs
  f1 : ∀ b ∈ fp, ∃ o, (b, o) ∈ own
  f2 : ∀ p ∈ own, p.1 ∈ fp
theorem WOwn.of {w : World} {hb h : Heap} {a : Addr} {g : Nat} {c : Int} {wr fp : List Addr} {gs : GenState} (x : Walker w hb a g c h wr fp gs) : WOwn w hb a g c wr fp gs (fpOf h fp) :=
  ⟨fun h' hk => x.keeps fun b o hb e => hk _ (mem_fpOf.mpr ⟨hb, e⟩), fun b hb => let ⟨o, ho⟩ := x.lt b hb; ⟨o, mem_fpOf.mpr ⟨hb, ho⟩⟩, fun ⟨b, o⟩ hp => (mem_fpOf.mp hp).1⟩

/-- of the states of the generators g alone has changed, and new ones have come -/
structure GCh (g : Nat) (G G' : Array GenState) : Prop where
  e : ∀ k, k ≠ g → k < G.size → G'[k]? = G[k]?
  s : G.size ≤ G'.size
  b : AllBare G → AllBare G'
theorem GCh.refl (g : Nat) (G : Array GenState) : GCh g G G := ⟨fun _ _ _ => rfl, Nat.le_refl _, id⟩
theorem GCh.trans {g : Nat} {a b c : Array GenState} (x : GCh g a b) (y : GCh g b c) : GCh g a c := ⟨fun k h1 h2 => (y.e k h1 (Nat.lt_of_lt_of_le h2 x.s)).trans (x.e k h1 h2), Nat.le_trans x.s y.s, fun h => y.b (x.b h)⟩

section
variable {w : World} {loose : List Str} {mean : ExcName → Option Value} {mg mb : Str → Option Value} {A : Around} {s : Shared} {h₀ hb : Heap} {L : Addr} {m : Str → Option Value} {pre own : List (Addr × Obj)} {Q E : Value → Shared → Prop} {tb : Obj} {a : Addr} {g : Nat} {c : Int} {wr fp : List Addr} {gs : GenState}
theorem next_K (F : Fr h₀ L s.heap m) (N : News h₀ L s.heap (pre ++ (45, tb) :: own)) (W : WOwn w hb a g c wr fp gs own) (hoff : ∀ p ∈ pre, p.1 ≠ 45 ∧ p.1 ∉ fp) (hsub : ∀ b o, hb.get? b = some o → h₀.get? b = some o) (h45 : hb.get? 45 = none)
    (G : Gd w loose mean mg mb hb) (hct : CTo tb) (hgs : s.gens[g]? = some gs) (hh : A.handled = none) (hd : A.depth + 120 < recursionLimit) (hu : A.units + 240 < cLine) (hc : c < 260)
    (ret : ∀ h' G' d' tk' r t₁ t₂ wr' fp' gs' tb' own', Fr h₀ L h' m → News h₀ L h' ((r, dateTup c t₁ t₂) :: (pre ++ (45, tb') :: own')) → WOwn w hb a g (c + 1) wr' fp' gs' own' → (∀ p ∈ pre, p.1 ≠ 45 ∧ p.1 ∉ fp') → (∀ p ∈ pre, p.1 ≠ r) → CTo tb' → G'[g]? = some gs' → GCh g s.gens G' →
      Q (.ref r) ⟨h', G', d', tk', s.os⟩) :
    wpAny (model prog w) A (call (.builtin "next") [.ref a]) Q E s := by
  have m45 := N (45, tb) (List.mem_append_right _ (.head _))
  have hown : ∀ p ∈ own, s.heap.get? p.1 = some p.2 := fun p hp => (N p (List.mem_append_right _ (.tail _ hp))).1
  have W₁ := W.w s.heap hown
  have wfp : ∀ b ∈ wr, b ∈ fp := W₁.sub
  have fpN : ∀ b ∈ fp, b ≠ L ∧ h₀.get? b = none := fun b hb => let ⟨o, ho⟩ := W.f1 b hb; (N _ (List.mem_append_right _ (.tail _ ho))).2
  refine next_walker G h45 (fun b o e => F.keep _ _ (hsub _ _ e)) W₁ hgs m45.1 hct hh hd hu hc fun v s' hO => ?_
  obtain ⟨r, t₁, t₂, wr', fp', gs', tb', h', G', d', tk', rfl, rfl, k1, k2, k3, W', g1, g2, g3, g4, k4, ct', ff, fs⟩ := hO
  have alive : ∀ b o, s.heap.get? b = some o → b ≠ r := fun b o e q => by rw [q, k2] at e; cases e
  have frN : ∀ b, s.heap.get? b = none → b ≠ L ∧ h₀.get? b = none := fun b e => by
    constructor
    · intro q
      obtain ⟨o, _, _, ho, _⟩ := F.ns
      rw [← q, e] at ho; cases ho
    · cases q : h₀.get? b with
      | none => rfl
      | some o => have := F.keep _ _ q; rw [e] at this; cases this
  have pk : ∀ p ∈ pre, h'.get? p.1 = some p.2 := fun p hp => k1 _ _ (fun q => (hoff p hp).2 (wfp _ q)) (hoff p hp).1 (N p (List.mem_append_left _ hp)).1
  refine ret h' G' d' tk' r t₁ t₂ wr' fp' gs' tb' (fpOf h' fp') ⟨F.ns.at' fun o e => k1 L o (fun q => (fpN L (wfp _ q)).1 rfl) (fun q => m45.2.1 q.symm) e, fun b o e => k1 b o (fun q => by rw [(fpN b (wfp _ q)).2] at e; cases e) (fun q => by rw [q, m45.2.2] at e; cases e) (F.keep b o e), F.above⟩
    (fun p hp => ?_) (WOwn.of W') (fun p hp => ⟨(hoff p hp).1, fun q => ?_⟩) (fun p hp => ?_) ct' g1 ⟨g2, g3, g4⟩
  · rcases List.mem_cons.mp hp with rfl | hp
    · exact ⟨k3, frN r k2⟩
    rcases List.mem_append.mp hp with hp | hp
    · exact ⟨pk p hp, (N p (List.mem_append_left _ hp)).2⟩
    rcases List.mem_cons.mp hp with rfl | hp
    · exact ⟨k4, m45.2⟩
    · obtain ⟨b, o⟩ := p
      obtain ⟨z1, z2⟩ := mem_fpOf.mp hp
      refine ⟨z2, ?_⟩
      rcases ff b z1 with z | z
      · exact fpN b z
      · exact frN b z
  · rcases ff _ q with z | z
    · exact (hoff p hp).2 z
    · rw [(N p (List.mem_append_left _ hp)).1] at z; cases z
  · exact alive _ _ (N p (List.mem_append_left _ hp)).1
end

/-- a pair of a number and a name -/
def pairObj (x : Int) (y : Str) (t₁ t₂ : Tok) : Obj := { cls := .type "tuple", data := .seq #[.int x t₁, .str y t₂] }
section
variable {w : World} {A : Around} {s : Shared} {Q E : Value → Shared → Prop} {r q : Addr} {x : Int} {y : Str} {t₁ t₂ t₃ t₄ : Tok}
theorem reads_pair {h : Heap} (hr : h.get? r = some (pairObj x y t₁ t₂)) : Reads h (.ref r) (.tuple [.int x, .str y]) [] :=
  reads_tuple_at hr rfl rfl (ReadsAll.cons (Reads.int _ _) (ReadsAll.cons (Reads.str _ _) ReadsAll.nil))
theorem name_ok (p : Nat) (hp : p < 20) : PyData.strOk (nameAt p) = true := by
  have h : ∀ p, p < 20 → PyData.strOk (nameAt p) = true := by decide +kernel
  exact h p hp
theorem shaped_pair (x : Int) {p : Nat} (hp : p < 20) : SeqAt.shaped (.tuple [.int x, .str (nameAt p)]) = true := by
  simp [SeqAt.shaped, PyData.canLay0, PyData.canLayAll0, PyData.depth, PyData.depthAll, name_ok p hp]
theorem pair_ne {p : Nat} (h1 : s.heap.get? r = some (pairObj x (nameAt p) t₁ t₂)) (h2 : s.heap.get? q = some (pairObj x (nameAt p) t₃ t₄)) (hp : p < 20) (hu : A.units + 64 < cLine) (h : Q (.bool false) s) : wpAny (model prog w) A (compareOp .NotEq (.ref r) (.ref q)) Q E s := by
  refine ne_dataH (reads_pair h1) (reads_pair h2) (shaped_pair _ hp) (shaped_pair _ hp) hu ?_
  simpa [PyData.eqv, PyData.eqvAll] using h
theorem pair_eq {p : Nat} (h1 : s.heap.get? r = some (pairObj x (nameAt p) t₁ t₂)) (h2 : s.heap.get? q = some (pairObj x (nameAt p) t₃ t₄)) (hp : p < 20) (hu : A.units + 64 < cLine) (h : Q (.bool true) s) : wpAny (model prog w) A (compareOp .Eq (.ref r) (.ref q)) Q E s := by
  refine eq_dataH (reads_pair h1) (reads_pair h2) (shaped_pair _ hp) (shaped_pair _ hp) hu ?_
  simpa [PyData.eqv, PyData.eqvAll] using h
end

noncomputable def goP : {f : FuncData // (hd.heap_39 par0).lookup 80 = some ⟨.type "function", none, .func f, #[]⟩} := ⟨_, by k_is⟩
noncomputable def goBody : List Stmt := match goP.1.body with
  | .stmts b => b
  | _ => []
noncomputable def goScope : Scope := goP.1.scope
noncomputable def goFor : Stmt := goBody.getD 0 default
noncomputable def goTurn : List Stmt := forBody goFor
noncomputable def envGo (L : Addr) : Env := envOf (Str.ofString "_law_go") goScope L 80 goP.1.code
theorem pure_next {c num place start : Int} (h : SlotOk c num place start) (hc : c < 260) : dayNum c = num ∧ (dayPlace c : Int) = place ∧ SlotOk (c + 1) (num % 13 + 1) ((place + 1) % 20) (start + 1) := by
  obtain ⟨h1, h2, h3, h4, h5, h6, h7⟩ := h
  have e1 : dayNum c = (c - 1) % 13 + 1 := by
    unfold dayNum amodV
    simp only [Int.fmod_eq_emod_of_nonneg _ (by decide : (0 : Int) ≤ 13)]
    split <;> omega
  have e2 : (dayPlace c : Int) = (c - 1) % 20 := by
    unfold dayPlace plc
    simp only [Int.fmod_eq_emod_of_nonneg _ (by decide : (0 : Int) ≤ 20)]
    split <;> omega
  refine ⟨by omega, by omega, ?_⟩
  unfold tzNum at h5
  unfold tzPlace at h6
  constructor <;> first | omega | (unfold tzNum; omega) | (unfold tzPlace; omega)

def OffOf (S : Addr) (rest : List (Addr × Obj)) : Prop := ∀ p ∈ rest, p.1 ≠ S
section
variable {w : World} {A : Around} {s : Shared} {h₀ : Heap} {L : Addr} {m : Str → Option Value} {rest : List (Addr × Obj)} {Q : Unit → Shared → Prop} {E : Value → Shared → Prop} {S a : Addr} {num place start x : Int} {t₁ t₂ t₃ t u : Tok} {k : Nat}
theorem slot_set1 (F : Fr h₀ L s.heap m) (N : News h₀ L s.heap ((S, slotObj a num place start t₁ t₂ t₃ k) :: rest)) (hoff : OffOf S rest)
    (h : ∀ h', Fr h₀ L h' m → News h₀ L h' ((S, slotObj a x place start u t₂ t₃ k) :: rest) → Q () { s with heap := h' }) : wpAny (model prog w) A (setItem (.ref S) (.int 1 t) (.int x u)) Q E s :=
  ki_set F N (its := #[.ref a, .int num t₁, .int place t₂, .int start t₃]) (q := [.ref a, .int x u, .int place t₂, .int start t₃]) (by decide) (by decide) rfl (.head hoff) h
theorem slot_set2 (F : Fr h₀ L s.heap m) (N : News h₀ L s.heap ((S, slotObj a num place start t₁ t₂ t₃ k) :: rest)) (hoff : OffOf S rest)
    (h : ∀ h', Fr h₀ L h' m → News h₀ L h' ((S, slotObj a num x start t₁ u t₃ k) :: rest) → Q () { s with heap := h' }) : wpAny (model prog w) A (setItem (.ref S) (.int 2 t) (.int x u)) Q E s :=
  ki_set F N (its := #[.ref a, .int num t₁, .int place t₂, .int start t₃]) (q := [.ref a, .int num t₁, .int x u, .int start t₃]) (by decide) (by decide) rfl (.head hoff) h
theorem slot_set3 (F : Fr h₀ L s.heap m) (N : News h₀ L s.heap ((S, slotObj a num place start t₁ t₂ t₃ k) :: rest)) (hoff : OffOf S rest)
    (h : ∀ h', Fr h₀ L h' m → News h₀ L h' ((S, slotObj a num place x t₁ t₂ u k) :: rest) → Q () { s with heap := h' }) : wpAny (model prog w) A (setItem (.ref S) (.int 3 t) (.int x u)) Q E s :=
  ki_set F N (its := #[.ref a, .int num t₁, .int place t₂, .int start t₃]) (q := [.ref a, .int num t₁, .int place t₂, .int x u]) (by decide) (by decide) rfl (.head hoff) h
end
local macro_rules | `(tactic| walk_at "setItem ref int") => `(tactic| ((with_reducible show wpAny _ _ (setItem (Value.ref _) (Value.int 1 _) (Value.int _ _)) _ _ _); (rename Fr _ _ _ _ => F8); (rename News _ _ _ _ => N8); (rename OffOf _ _ => O8); k_dflt (refine slot_set1 F8 N8 O8 ?_); clear F8 N8; intro h' F' N'; (try dsimp only)))
local macro_rules | `(tactic| walk_at "setItem ref int") => `(tactic| ((with_reducible show wpAny _ _ (setItem (Value.ref _) (Value.int 2 _) (Value.int _ _)) _ _ _); (rename Fr _ _ _ _ => F8); (rename News _ _ _ _ => N8); (rename OffOf _ _ => O8); k_dflt (refine slot_set2 F8 N8 O8 ?_); clear F8 N8; intro h' F' N'; (try dsimp only)))
local macro_rules | `(tactic| walk_at "setItem ref int") => `(tactic| ((with_reducible show wpAny _ _ (setItem (Value.ref _) (Value.int 3 _) (Value.int _ _)) _ _ _); (rename Fr _ _ _ _ => F8); (rename News _ _ _ _ => N8); (rename OffOf _ _ => O8); k_dflt (refine slot_set3 F8 N8 O8 ?_); clear F8 N8; intro h' F' N'; (try dsimp only)))
theorem News.drop2 {h₀ h : Heap} {L : Addr} {x y : Addr × Obj} {r : List (Addr × Obj)} (N : News h₀ L h (x :: y :: r)) : News h₀ L h r := fun q hq => N q (.tail _ (.tail _ hq))
theorem offOf_of {w : World} {hb : Heap} {a : Addr} {g : Nat} {c : Int} {wr fp : List Addr} {gs : GenState} {h₀ h : Heap} {L S I : Addr} {x y : Addr × Obj} {o oI tb : Obj} {own : List (Addr × Obj)} (_ : News h₀ L h (x :: y :: (S, o) :: (I, oI) :: (45, tb) :: own)) (W : WOwn w hb a g c wr fp gs own)
    (SI : S ≠ I) (S45 : S ≠ 45) (Sf : S ∉ fp) : OffOf S ((I, oI) :: (45, tb) :: own) := fun q hq => by
  rcases List.mem_cons.mp hq with rfl | hq
  · exact SI.symm
  rcases List.mem_cons.mp hq with rfl | hq
  · exact S45.symm
  · intro z
    exact Sf (z ▸ W.f2 q hq)
def OffPre (S I : Addr) (fp : List Addr) : Prop := ∀ (o₁ o₂ : Obj), ∀ p ∈ [(S, o₁), (I, o₂)], p.1 ≠ 45 ∧ p.1 ∉ fp
local macro_rules | `(tactic| walk_at "call builtin:next") => `(tactic| ((rename Fr _ _ _ _ => F8); (rename News _ _ _ _ => N8); (rename WOwn _ _ _ _ _ _ _ _ _ => W8); k_dflt (refine' next_K (pre := [_, _]) F8 N8 W8 ?off ?sub ?p45 ?G ?ct ?gs ?hh ?d ?u ?c ?_; (case off => (rename OffPre _ _ _ => hoff8; exact hoff8 _ _)); (case sub => assumption); (case p45 => assumption); (case G => assumption); (case ct => assumption); (case gs => assumption); (case hh => assumption); (case d => omega); (case u => omega); (case c => omega); k_whole); clear F8 N8 W8; intro h' G' d' tk' r' t₁' t₂' wr' fp' gs' tb' own' F' N' W' off' ner' ct' gs'' gch'; (try simp only [List.cons_append, List.nil_append] at N'); (try dsimp only)))
section
variable {w : World} {loose : List Str} {mean : ExcName → Option Value} {mg mb : Str → Option Value} {A : Around} {s : Shared} {h₀ hb : Heap} {L : Addr} {m : Str → Option Value} {own : List (Addr × Obj)} {tb oI : Obj} {S a I : Addr} {g : Nat} {c num place start : Int} {wr fp : List Addr} {gs : GenState} {t₁ t₂ t₃ ti : Tok} {k : Nat} {i : Int}
set_option maxHeartbeats 400000 in
theorem go_turn {Q : Flow → Shared → Prop} {E : Value → Shared → Prop} (F : Fr h₀ L s.heap (fun y => if y = Str.ofString "k" then some (.int i ti) else if y = Str.ofString "slot" then some (.ref S) else m y))
    (N : News h₀ L s.heap ((S, slotObj a num place start t₁ t₂ t₃ k) :: (I, oI) :: (45, tb) :: own)) (W : WOwn w hb a g c wr fp gs own) (S45 : S ≠ 45) (SI : S ≠ I) (I45 : I ≠ 45) (Sf : S ∉ fp) (If : I ∉ fp)
    (hsub : ∀ b o, hb.get? b = some o → h₀.get? b = some o) (h45 : hb.get? 45 = none) (G : Gd w loose mean mg mb hb) (hct : CTo tb) (hgs : s.gens[g]? = some gs) (hh : A.handled = none) (hd : A.depth + 150 < recursionLimit) (hu : A.units + 300 < cLine) (ok : SlotOk c num place start)
    (stop : ∀ h' tk', Fr h₀ L h' (fun y => if y = Str.ofString "k" then some (.int i ti) else if y = Str.ofString "slot" then some (.ref S) else m y) → News h₀ L h' ((S, slotObj a num place start t₁ t₂ t₃ k) :: (I, oI) :: (45, tb) :: own) → Q (.ret (.bool true)) { s with heap := h', toks := tk' })
    (next : ∀ h' G' d' tk' u₁ u₂ u₃ wr' fp' gs' tb' own', Fr h₀ L h' (fun y => if y = Str.ofString "k" then some (.int i ti) else if y = Str.ofString "slot" then some (.ref S) else m y) →
      News h₀ L h' ((S, slotObj a (num % 13 + 1) ((place + 1) % 20) (start + 1) u₁ u₂ u₃ k) :: (I, oI) :: (45, tb') :: own') → WOwn w hb a g (c + 1) wr' fp' gs' own' → S ∉ fp' → I ∉ fp' → CTo tb' → G'[g]? = some gs' → GCh g s.gens G' →
      SlotOk (c + 1) (num % 13 + 1) ((place + 1) % 20) (start + 1) → Q .next ⟨h', G', d', tk', s.os⟩) :
    wpAny (model prog w) A (execs goTurn (envGo L)) Q E s := by
  have G₀ := Gd.keeps G hsub
  obtain ⟨X, T⟩ := id G₀
  conv in goTurn => whnf
  conv in envGo _ => unfold envGo; arg 2; whnf
  conv in goP.1.code => whnf
  have hoff : OffPre S I fp := fun o₁ o₂ p hp => by
    rcases List.mem_cons.mp hp with rfl | hp
    · exact ⟨S45, Sf⟩
    rcases List.mem_cons.mp hp with rfl | hp
    · exact ⟨I45, If⟩
    · cases hp
  have okc := ok.c1
  have okc2 := ok.c2
  have okn := ok.n
  have okp := ok.p
  k_steps
  · rename Fr _ _ _ _ => F8
    rename News _ _ _ _ => N8
    exact stop _ _ F8 N8
  all_goals (rename Fr _ _ _ _ => F8; rename News _ _ _ _ => N8)
  all_goals
    obtain ⟨e1, e2, e3⟩ := pure_next ok (by omega)
    have e4 : dayPlace c = place.toNat := by omega
    refine' pair_ne (x := num) (p := place.toNat) ?h1 ?h2 (by omega) (by omega) ?_
    case h1 =>
      have z := (N8 _ (.tail _ (.head _))).1
      unfold dateTup at z
      rw [e1, e4] at z
      exact z
    case h2 => exact (N8 _ (.head _)).1
    rename ∀ p ∈ [_, _], _ ∧ _ => off9
    rename WOwn _ _ _ _ _ _ _ _ _ => W9
    have O9 := offOf_of N8 W9 SI S45 (off9 _ (.head _)).2
    have N9 := News.drop2 N8
    clear N8
    k_steps
  all_goals
    rename Fr _ _ _ _ => F7
    rename News _ _ _ _ => N7
    simp only [Int.fmod_eq_emod_of_nonneg _ (by decide : (0 : Int) ≤ 13), Int.fmod_eq_emod_of_nonneg _ (by decide : (0 : Int) ≤ 20)] at N7
    exact next _ _ _ _ _ _ _ _ _ _ _ _ F7 N7 W9 (off9 _ (.head _)).2 (off9 _ (.tail _ (.head _))).2 (by assumption) (by assumption) (by assumption) e3
end

def riObj (x left : Int) : Obj := { cls := .type "range_iterator", data := .fields #[rawInt x, rawInt left, rawInt 1] }
def GoInv (w : World) (hb h₀ : Heap) (L S I : Addr) (g : Nat) (G₀ : Array GenState) (os : OsState) (left : Int) (s : Shared) : Prop :=
  ∃ m' a num place start t₁ t₂ t₃ k c wr fp gs tb own x, Fr h₀ L s.heap m' ∧ m' (Str.ofString "slot") = some (.ref S) ∧ News h₀ L s.heap ((S, slotObj a num place start t₁ t₂ t₃ k) :: (I, riObj x left) :: (45, tb) :: own) ∧
    WOwn w hb a g c wr fp gs own ∧ S ∉ fp ∧ I ∉ fp ∧ CTo tb ∧ s.gens[g]? = some gs ∧ GCh g G₀ s.gens ∧ SlotOk c num place start ∧ s.os = os
def GoEnd (w : World) (hb h₀ : Heap) (L S : Addr) (g : Nat) (G₀ : Array GenState) (os : OsState) (s : Shared) : Prop :=
  ∃ m' a num place start t₁ t₂ t₃ k c wr fp gs tb own, Fr h₀ L s.heap m' ∧ News h₀ L s.heap ((S, slotObj a num place start t₁ t₂ t₃ k) :: (45, tb) :: own) ∧
    WOwn w hb a g c wr fp gs own ∧ S ∉ fp ∧ CTo tb ∧ s.gens[g]? = some gs ∧ GCh g G₀ s.gens ∧ SlotOk c num place start ∧ s.os = os
theorem News.chgAt {h₀ h h' : Heap} {L d : Addr} {news : List (Addr × Obj)} (N : News h₀ L h news) (hs : Heap.SameBut d h h') (hoff : ∀ p ∈ news, p.1 ≠ d) : News h₀ L h' news := fun p hp => ⟨(hs.2 p.1 (hoff p hp)).trans (N p hp).1, (N p hp).2⟩

section
variable {w : World} {loose : List Str} {mean : ExcName → Option Value} {mg mb : Str → Option Value} {A : Around} {s : Shared} {h₀ hb : Heap} {L S I : Addr} {g : Nat} {G₀ : Array GenState} {os : OsState} {px : Pos}
theorem go_loop {R : Result → Shared → Prop} (S45 : S ≠ 45) (SI : S ≠ I) (I45 : I ≠ 45) (hsub : ∀ b o, hb.get? b = some o → h₀.get? b = some o) (h45 : hb.get? 45 = none) (G : Gd w loose mean mg mb hb) (hh : A.handled = none) (hd : A.depth + 150 < recursionLimit) (hu : A.units + 300 < cLine)
    (left : Int) (hI : GoInv w hb h₀ L S I g G₀ os left s)
    (fin : ∀ f s', (f = .next ∨ f = .ret (.bool true)) → GoEnd w hb h₀ L S g G₀ os s' → R (.ok f) s') :
    codeAny (model prog w) A (.forLoop (.Name (Str.ofString "k") px) (.ref I) goTurn [] (envGo L)) R s := by
  refine codeAny_forLoop (I := fun n s' => ∃ left, n = left.toNat ∧ GoInv w hb h₀ L S I g G₀ os left s') (fun n s₁ hI₁ => ?_) left.toNat ⟨left, rfl, hI⟩
  obtain ⟨left, rfl, m', a, num, place, start, t₁, t₂, t₃, k, c, wr, fp, gs, tb, own, x, F, hm, N, W, Sf, If, hct, hgs, gch, ok, hos⟩ := hI₁
  have nI := N (I, riObj x left) (.tail _ (.head _))
  have offI : ∀ p ∈ (45, tb) :: own, p.1 ≠ I := fun p hp => by
    rcases List.mem_cons.mp hp with rfl | hp
    · exact I45.symm
    · intro z; exact If (z ▸ W.f2 p hp)
  by_cases hl : left ≤ 0
  · refine wpAny_pyNext_range_end hh nI.1 hl fun h' hext => ?_
    have hx : ∀ p ∈ (S, slotObj a num place start t₁ t₂ t₃ k) :: (45, tb) :: own, h'.get? p.1 = some p.2 ∧ p.1 ≠ L ∧ h₀.get? p.1 = none := fun p hp => by
      rcases List.mem_cons.mp hp with rfl | hp
      · exact ⟨hext _ _ SI (N _ (.head _)).1, (N _ (.head _)).2⟩
      · exact ⟨hext _ _ (offI p hp) (N p (.tail _ (.tail _ hp))).1, (N p (.tail _ (.tail _ hp))).2⟩
    have iL : L ≠ I := nI.2.1.symm
    exact wpAny_pure (fin .next _ (.inl rfl) ⟨m', a, num, place, start, t₁, t₂, t₃, k, c, wr, fp, gs, tb, own, ⟨F.ns.extBut hext iL, fun b o e => hext b o (fun q => by rw [q, nI.2.2] at e; cases e) (F.keep b o e), F.above⟩, hx, W, Sf, hct, hgs, gch, ok, hos⟩)
  · refine wpAny_pyNext_range_item nI.1 (by omega) fun h₁ hit₁ hs₁ => ?_
    have F₁ : Fr h₀ L h₁ m' := F.change hs₁ nI.2.1 nI.2.2
    have N₁ : News h₀ L h₁ ((S, slotObj a num place start t₁ t₂ t₃ k) :: (I, riObj (x + 1) (left - 1)) :: (45, tb) :: own) := fun p hp => by
      rcases List.mem_cons.mp hp with rfl | hp
      · exact ⟨(hs₁.2 S SI).trans (N _ (.head _)).1, (N _ (.head _)).2⟩
      rcases List.mem_cons.mp hp with rfl | hp
      · exact ⟨hit₁, nI.2⟩
      · exact ⟨(hs₁.2 _ (offI p hp)).trans (N p (.tail _ (.tail _ hp))).1, (N p (.tail _ (.tail _ hp))).2⟩
    refine wpAny_assign_Name (wpAny_storeName_local (by with_unfolding_all rfl) F₁.ns (fun h₂ hn₂ hs₂ => ?_) (by rfl))
    have N₂ := News.chgAt N₁ hs₂ fun p hp => (N₁ p hp).2.1
    have F₂ : Fr h₀ L h₂ (fun y => if y = Str.ofString "k" then some (.int x s₁.toks) else if y = Str.ofString "slot" then some (.ref S) else m' y) := by
      refine Fr.congr (m := fun y => if y = Str.ofString "k" then some (.int x s₁.toks) else m' y) ⟨hn₂, fun b o e => ?_, F₁.above⟩ fun y => ?_
      · have hbL : b ≠ L := Nat.ne_of_lt (Nat.lt_of_lt_of_le (Heap.lt_size e) F₁.above)
        exact (hs₂.2 b hbL).trans (F₁.keep b o e)
      · by_cases q : y = Str.ofString "slot"
        · subst q; rw [if_neg (by decide), if_neg (by decide), if_pos rfl, hm]
        · by_cases q2 : y = Str.ofString "k" <;> simp [q, q2]
    refine go_turn (s := { s₁ with heap := h₂, toks := s₁.toks + 1 + 1 }) (m := m') F₂ N₂ W S45 SI I45 Sf If hsub h45 G hct hgs hh hd hu ok (fun h' tk' F' N' => ?_) fun h' G' d' tk' u₁ u₂ u₃ wr' fp' gs' tb' own' F' N' W' Sf' If' ct' gs'' gch' ok' => ?_
    · exact fin _ _ (.inr rfl) ⟨_, a, num, place, start, t₁, t₂, t₃, k, c, wr, fp, gs, tb, own, F', fun p hp => N' p (by
        rcases List.mem_cons.mp hp with rfl | hp
        · exact .head _
        · exact .tail _ (.tail _ hp)), W, Sf, hct, hgs, gch, ok, hos⟩
    · exact ⟨(left - 1).toNat, by omega, left - 1, rfl, _, a, _, _, _, u₁, u₂, u₃, k, c + 1, wr', fp', gs', tb', own', x + 1, F', (if_neg (by decide)).trans (if_pos rfl), N', W', Sf', If', ct', gs'', gch.trans gch', ok', hos⟩
end

/-- a slot of the law: its list S, its walker's number g, all that it stands on fp -/
def SlotAt (w : World) (hb : Heap) (S : Addr) (g : Nat) (fp : List Addr) (s : Shared) : Prop :=
  ∃ a num place start t₁ t₂ t₃ k c wr gs, s.heap.get? S = some (slotObj a num place start t₁ t₂ t₃ k) ∧ SlotOk c num place start ∧ Walker w hb a g c s.heap wr fp gs ∧ s.gens[g]? = some gs ∧ S ∉ fp ∧ (∀ b ∈ S :: fp, hb.get? b = none)
/-- what stands all through the law -/
structure St (hb : Heap) (s : Shared) : Prop where
  k : ∀ b o, hb.get? b = some o → s.heap.get? b = some o
  z : hb.objs.size ≤ s.heap.objs.size
  t : ∃ tb, s.heap.get? 45 = some tb ∧ CTo tb
def Step (w : World) (hb : Heap) (S : Addr) (g : Nat) (fp : List Addr) (s s' : Shared) : Prop :=
  (∀ b o, b ∉ S :: fp → b ≠ 45 → s.heap.get? b = some o → s'.heap.get? b = some o) ∧ GCh g s.gens s'.gens ∧ s'.os = s.os ∧ St hb s' ∧ ∃ fp', SlotAt w hb S g fp' s' ∧ (∀ b ∈ fp', b ∈ fp ∨ s.heap.get? b = none)

theorem slot_ne45 {w : World} {hb : Heap} {S : Addr} {g : Nat} {fp : List Addr} {s : Shared} {tb : Obj} (x : SlotAt w hb S g fp s) (ht : s.heap.get? 45 = some tb) (ct : CTo tb) : ∀ b ∈ S :: fp, b ≠ 45 := by
  obtain ⟨a, num, place, start, t₁, t₂, t₃, k, c, wr, gs, hS, ok, W, _⟩ := x
  obtain ⟨ps, e, _⟩ := ct
  have key : ∀ b o, s.heap.get? b = some o → o.cls ≠ .none ∨ (∀ vs, o.data ≠ .fields vs) → b ≠ 45 := fun b o ho h q => by
    rw [q, ht] at ho
    cases ho
    rw [e] at h
    rcases h with h | h
    · exact h rfl
    · exact h _ rfl
  intro b hb'
  rcases List.mem_cons.mp hb' with rfl | hb'
  · exact key _ _ hS (.inl (by simp [slotObj]))
  · cases W with
    | fresh Lg m v₁ v₂ n p h1 h2 h3 =>
      obtain ⟨o, nm, qn, ho, hc, r⟩ := h1
      obtain ⟨o', es, ep, ho', hd', r'⟩ := h3
      simp only [List.mem_cons, List.not_mem_nil, or_false] at hb'
      rcases hb' with rfl | rfl
      · exact key _ _ ho (.inl (by rw [hc]; simp))
      · exact key _ _ ho' (.inr fun vs => by rw [hd']; simp)
    | going Lg it rg items j N c0 gs h1 h2 h3 h4 =>
      obtain ⟨o, nm, qn, ho, hc, r⟩ := h1
      obtain ⟨m, o', es, ep, ho', hd', r'⟩ := h4.fr
      obtain ⟨o2, ho2, hc2, _⟩ := h4.it
      obtain ⟨o3, ho3, hc3, _⟩ := h4.ls
      simp only [List.mem_cons, List.not_mem_nil, or_false] at hb'
      rcases hb' with rfl | rfl | rfl | rfl
      · exact key _ _ ho (.inl (by rw [hc]; simp))
      · exact key _ _ ho' (.inr fun vs => by rw [hd']; simp)
      · exact key _ _ ho2 (.inl (by rw [hc2]; simp))
      · exact key _ _ ho3 (.inl (by rw [hc3]; simp))
theorem none_of_keep {h₀ h : Heap} (hk : ∀ b o, h₀.get? b = some o → h.get? b = some o) {b : Addr} (hb : h.objs.size ≤ b) : h₀.get? b = none := by
  cases q : h₀.get? b with
  | none => rfl
  | some o => exact absurd (Heap.lt_size (hk _ _ q)) (Nat.not_lt_of_le hb)
theorem goBody_eq : ∃ px iter pos rest, goBody = .For (.Name (Str.ofString "k") px) iter goTurn [] pos :: rest := ⟨_, _, _, _, by with_unfolding_all rfl⟩

theorem go_end {w : World} {hb h₀ : Heap} {L S : Addr} {g : Nat} {fp : List Addr} {s s' : Shared} (hE : GoEnd w hb h₀ L S g s.gens s.os s') (hsub : ∀ b o, hb.get? b = some o → h₀.get? b = some o) (hL : hb.objs.size ≤ L)
    (hoff : ∀ b o, b ∉ S :: fp → b ≠ 45 → s.heap.get? b = some o → h₀.get? b = some o) (hGn : ∀ b, h₀.get? b = none → b ≠ 45 → b ≠ S → b ∈ fp ∨ s.heap.get? b = none) (hbS : hb.get? S = none) : Step w hb S g fp s s' := by
  obtain ⟨m', a, num, place, start, t₁, t₂, t₃, k, c, wr, fp', gs, tb, own, F, N, W, Sf, hct, hgs, gch, ok, hos⟩ := hE
  have n45 := (N (45, tb) (.tail _ (.head _)))
  have hx : SlotAt w hb S g fp' s' := by
    refine ⟨a, num, place, start, t₁, t₂, t₃, k, c, wr, gs, (N _ (.head _)).1, ok, W.w _ fun p hp => (N p (.tail _ (.tail _ hp))).1, hgs, Sf, fun b hb' => ?_⟩
    rcases List.mem_cons.mp hb' with rfl | hb'
    · exact hbS
    · obtain ⟨o, ho⟩ := W.f1 b hb'
      have z := (N (b, o) (.tail _ (.tail _ ho))).2.2
      cases q : hb.get? b with
      | none => rfl
      | some o' => rw [hsub _ _ q] at z; cases z
  refine ⟨fun b o n1 n2 e => F.keep b o (hoff b o n1 n2 e), gch, hos, ⟨fun b o e => F.keep b o (hsub b o e), Nat.le_trans hL (Nat.le_of_lt F.ns.lt), tb, n45.1, hct⟩, fp', hx, fun b hb' => ?_⟩
  obtain ⟨o, ho⟩ := W.f1 b hb'
  exact hGn b (N (b, o) (.tail _ (.tail _ ho))).2.2 (slot_ne45 hx n45.1 hct b (.tail _ hb')) (fun q => Sf (q ▸ hb'))
section
variable {w : World} {loose : List Str} {mean : ExcName → Option Value} {mg mb : Str → Option Value} {A : Around} {s : Shared} {hb : Heap} {S : Addr} {g : Nat} {fp : List Addr} {Q E : Value → Shared → Prop}
theorem go_nf (G : Gd w loose mean mg mb hb) (h45 : hb.get? 45 = none) (st : St hb s) (x : SlotAt w hb S g fp s) (hh : A.handled = none) (hd : A.depth + 200 < recursionLimit) (hu : A.units + 400 < cLine) {n : Int} {tn : Tok} (hn0 : 0 ≤ n) (hn1 : n ≤ 20)
    (ret : ∀ s', Step w hb S g fp s s' → Q (.bool true) s') :
    wpAny (model prog w) A (call (.ref 80) [.ref S, .int n tn]) Q E s := by
  obtain ⟨hkb, hzb, tb, htb, hct⟩ := st
  have ne45 := slot_ne45 x htb hct
  obtain ⟨a, num, place, start, t₁, t₂, t₃, k, c, wr, gs, hS, ok, W, hgs, Sf, hbn⟩ := x
  obtain ⟨hd', dp, fr, gd, un⟩ := A
  subst hh
  have hsub : ∀ b o, hb.get? b = some o → (hideAll s.heap (45 :: S :: fp)).get? b = some o := fun b o e => hideAll_get _ (hkb b o e) (fun q => by
    rcases List.mem_cons.mp q with q | q
    · rw [q, h45] at e; cases e
    · rw [hbn b q] at e; cases e)
  have G₀ := Gd.keeps G hsub
  obtain ⟨X, T⟩ := id G₀
  have hk : ∀ b o, (hideAll s.heap (45 :: S :: fp)).get? b = some o → s.heap.get? b = some o := fun b o e => of_hideAll _ e
  have hsz : (hideAll s.heap (45 :: S :: fp)).objs.size ≤ s.heap.objs.size := Nat.le_of_eq (hideAll_size _ _)
  have hlim := T.nolimit
  have hno : ∀ b ∈ 45 :: S :: fp, (hideAll s.heap (45 :: S :: fp)).get? b = none := fun b hb => hideAll_none _ hb
  have hn : ∀ p ∈ (S, slotObj a num place start t₁ t₂ t₃ k) :: (45, tb) :: fpOf s.heap fp, s.heap.get? p.1 = some p.2 ∧ (hideAll s.heap (45 :: S :: fp)).get? p.1 = none := fun p hp => by
    rcases List.mem_cons.mp hp with rfl | hp
    · exact ⟨hS, hno _ (.tail _ (.head _))⟩
    rcases List.mem_cons.mp hp with rfl | hp
    · exact ⟨htb, hno _ (.head _)⟩
    · obtain ⟨b, o⟩ := p
      obtain ⟨z1, z2⟩ := mem_fpOf.mp hp
      exact ⟨z2, hno _ (.tail _ (.tail _ z1))⟩
  have hoff : ∀ b o, b ∉ S :: fp → b ≠ 45 → s.heap.get? b = some o → (hideAll s.heap (45 :: S :: fp)).get? b = some o := fun b o n1 n2 e => hideAll_get _ e (fun q => by
    rcases List.mem_cons.mp q with q | q
    · exact n2 q
    · exact n1 q)
  have hW := WOwn.of W
  have hGn : ∀ b, (hideAll s.heap (45 :: S :: fp)).get? b = none → b ≠ 45 → b ≠ S → b ∈ fp ∨ s.heap.get? b = none := fun b e n1 n2 => by
    cases q : s.heap.get? b with
    | none => exact .inr rfl
    | some o =>
      by_cases z : b ∈ fp
      · exact .inl z
      · rw [hoff b o (fun y => by rcases List.mem_cons.mp y with y | y; exact n2 y; exact z y) n1 q] at e; cases e
  generalize hideAll s.heap (45 :: S :: fp) = h₀ at *
  refine wpAny_call ?_
  k_dflt (refine' enter_nf [(Str.ofString "slot", .ref S), (Str.ofString "times", .int n tn)] ?k1 ?k2 ?k3 ?k4 ?k5 ?k6 ?k7 ?k8 ?k9 ?kB ?_ ?c2 ?c3 ?c4 ?c5; walk_at "nf enter")
  intro h' F' N' hall'
  try dsimp only
  clear hall'
  refine wpAny_execs_cons (wpAny_For ?_)
  k_steps
  rename IsRange _ _ _ _ _ _ _ _ => R1
  rename Fr _ _ _ _ => F1
  rename News _ _ _ _ => N1
  refine wpAny_pyIter_range R1 (small_one (by omega) (by omega) (by omega) (by omega)) ?_
  have lS := Heap.lt_size (N1 _ (.head _)).1
  have l45 := Heap.lt_size (N1 _ (.tail _ (.head _))).1
  have lfp : ∀ b ∈ fp, b < _ := fun b hb => let ⟨o, ho⟩ := hW.f1 b hb; Heap.lt_size (N1 _ (.tail _ (.tail _ ho))).1
  refine go_loop (w := w) (hb := hb) (h₀ := h₀) (L := s.heap.objs.size) (S := S) (g := g) (G₀ := s.gens) (os := s.os) (ne45 S (.head _)) (Nat.ne_of_lt lS) (Nat.ne_of_gt l45) hsub h45 G rfl ?d ?u (Builtin.Range.rangeSize 0 n 1) ?inv fun f s' hf hE => ?_
  case d => walk_at "nf room"
  case u => walk_at "nf room"
  case inv =>
    refine ⟨_, a, num, place, start, t₁, t₂, t₃, k, c, wr, fp, gs, tb, fpOf s.heap fp, 0, F1.push _, by rfl, fun p hp => ?_, hW, Sf, fun q => Nat.lt_irrefl _ (lfp _ q), hct, hgs, GCh.refl _ _, ok, rfl⟩
    rcases List.mem_cons.mp hp with rfl | hp
    · exact ⟨Heap.get?_push_of_some _ (N1 _ (.head _)).1, (N1 _ (.head _)).2⟩
    rcases List.mem_cons.mp hp with rfl | hp
    · refine ⟨Heap.get?_push_size _ rfl, Nat.ne_of_gt F1.ns.lt, ?_⟩
      exact none_of_keep F1.keep (Nat.le_refl _)
    · exact ⟨Heap.get?_push_of_some _ (N1 p (.tail _ hp)).1, (N1 p (.tail _ hp)).2⟩
  have fin : Step w hb S g fp s s' := go_end hE hsub hzb hoff hGn (hbn S (.head _))
  rcases hf with rfl | rfl
  · obtain ⟨m', a, num, place, start, t₁, t₂, t₃, k, c, wr, fp', gs, tb, own, F, N, _⟩ := hE
    clear F1 N1
    show wpAny _ _ (execs _ _) _ _ s'
    k_steps
    exact ret s' fin
  · exact ret s' fin
end

theorem SlotAt.ext {w : World} {hb : Heap} {S : Addr} {g : Nat} {fp : List Addr} {s s' : Shared} (x : SlotAt w hb S g fp s) (hk : ∀ b ∈ S :: fp, ∀ o, s.heap.get? b = some o → s'.heap.get? b = some o) (hg : ∀ y, s.gens[g]? = some y → s'.gens[g]? = some y) : SlotAt w hb S g fp s' := by
  obtain ⟨a, num, place, start, t₁, t₂, t₃, k, c, wr, gs, hS, ok, W, hgs, r⟩ := x
  exact ⟨a, num, place, start, t₁, t₂, t₃, k, c, wr, gs, hk _ (.head _) _ hS, ok, W.keeps fun b o hb e => hk b (.tail _ hb) o e, hg _ hgs, r⟩
section
variable {w : World} {loose : List Str} {mean : ExcName → Option Value} {mg mb : Str → Option Value} {A : Around} {s : Shared} {hb : Heap} {S : Addr} {g : Nat} {fp : List Addr} {Q E : Value → Shared → Prop}
theorem asked_nf (G : Gd w loose mean mg mb hb) (hkb : ∀ b o, hb.get? b = some o → s.heap.get? b = some o) (x : SlotAt w hb S g fp s) (hh : A.handled = none) (hd : A.depth + 200 < recursionLimit) (hu : A.units + 400 < cLine)
    (ret : ∀ h' tk', Ext s.heap h' → Q (.bool true) { s with heap := h', toks := tk' }) :
    wpAny (model prog w) A (call (.ref 87) [.ref S]) Q E s := by
  obtain ⟨a, num, place, start, t₁, t₂, t₃, k, c, wr, gs, hS, ok, W, hgs, Sf, hbn⟩ := x
  obtain ⟨hd', dp, fr, gd, un⟩ := A
  subst hh
  have hbS := hbn S (.head _)
  have hsub : ∀ b o, hb.get? b = some o → (hideAll s.heap [S]).get? b = some o := fun b o e => hideAll_get _ (hkb b o e) (fun q => by
    rw [List.mem_singleton.mp q, hbS] at e; cases e)
  have G₀ := Gd.keeps G hsub
  obtain ⟨X, T⟩ := id G₀
  have hk : ∀ b o, (hideAll s.heap [S]).get? b = some o → s.heap.get? b = some o := fun b o e => of_hideAll _ e
  have hsz : (hideAll s.heap [S]).objs.size ≤ s.heap.objs.size := Nat.le_of_eq (hideAll_size _ _)
  have hlim := T.nolimit
  have hn : ∀ p ∈ [(S, slotObj a num place start t₁ t₂ t₃ k)], s.heap.get? p.1 = some p.2 ∧ (hideAll s.heap [S]).get? p.1 = none := fun p hp => by
    rw [List.mem_singleton.mp hp]
    exact ⟨hS, hideAll_none _ (.head _)⟩
  have hoff : ∀ b o, b ≠ S → s.heap.get? b = some o → (hideAll s.heap [S]).get? b = some o := fun b o n1 e => hideAll_get _ e (fun q => n1 (List.mem_singleton.mp q))
  generalize hideAll s.heap [S] = h₀ at *
  refine wpAny_call ?_
  k_dflt (refine' enter_nf [(Str.ofString "slot", .ref S)] ?k1 ?k2 ?k3 ?k4 ?k5 ?k6 ?k7 ?k8 ?k9 ?kB ?_ ?c2 ?c3 ?c4 ?c5; walk_at "nf enter")
  intro h' F' N' hall'
  try dsimp only
  clear hall'
  have okn := ok.n
  have okp := ok.p
  have okc1 := ok.c1
  have okc2 := ok.c2
  have oks := ok.s
  k_steps
  rename Fr _ _ _ _ => F9
  rename News _ _ _ _ => N9
  have e1 := ok.n'
  have e2 : tzPlace start = place.toNat := by have := ok.p'; omega
  rw [e1, e2] at N9
  refine pair_eq (x := num) (p := place.toNat) (N9 _ (.tail _ (.head _))).1 (N9 _ (.head _)).1 (by omega) ?_ ?_
  · walk_at "nf room"
  · exact ret _ _ ⟨fun b o e => by
      by_cases q : b = S
      · subst q
        rw [hS] at e; cases e
        exact (N9 _ (.tail _ (.tail _ (.head _)))).1
      · exact F9.keep b o (hoff b o q e), Nat.le_of_lt F9.ns.lt⟩
end

theorem pure_cnt {n : Int} {p : Nat} (h1 : 1 ≤ n) (h2 : n ≤ 13) (h3 : p < 20) : dayNum (cnt n p) = n ∧ dayPlace (cnt n p) = p ∧ 1 ≤ cnt n p := by
  have e1 : dayNum (cnt n p) = (cnt n p - 1) % 13 + 1 := by
    unfold dayNum amodV
    simp only [Int.fmod_eq_emod_of_nonneg _ (by decide : (0 : Int) ≤ 13)]
    split <;> omega
  have e2 : (dayPlace (cnt n p) : Int) = (cnt n p - 1) % 20 := by
    unfold dayPlace plc
    simp only [Int.fmod_eq_emod_of_nonneg _ (by decide : (0 : Int) ≤ 20)]
    split <;> omega
  unfold cnt at *
  omega
theorem pure_cnt1 {n : Int} {p : Nat} (h1 : 1 ≤ n) (h2 : n ≤ 13) (h3 : p < 20) : dayNum (cnt n p + 1) = n % 13 + 1 ∧ dayPlace (cnt n p + 1) = (p + 1) % 20 := by
  have e1 : dayNum (cnt n p + 1) = (cnt n p) % 13 + 1 := by
    unfold dayNum amodV
    simp only [Int.fmod_eq_emod_of_nonneg _ (by decide : (0 : Int) ≤ 13)]
    split <;> omega
  have e2 : (dayPlace (cnt n p + 1) : Int) = (cnt n p) % 20 := by
    unfold dayPlace plc
    simp only [Int.fmod_eq_emod_of_nonneg _ (by decide : (0 : Int) ≤ 20)]
    split <;> omega
  unfold cnt at *
  omega
theorem imix : nameAt 0 = Str.ofString "Imix'" := by decide +kernel
section
variable {w : World} {loose : List Str} {mean : ExcName → Option Value} {mg mb : Str → Option Value} {A : Around} {s : Shared} {h₀ hb : Heap} {L : Addr} {m mm : Str → Option Value} {news : List (Addr × Obj)} {Q E : Value → Shared → Prop} {tb oa oL : Obj} {a Lg : Addr} {g : Nat} {n : Int} {p : Nat} {v₁ v₂ : Value}
theorem first_next (F : Fr h₀ L s.heap m) (N : News h₀ L s.heap news) (ma : (a, oa) ∈ news) (mL : (Lg, oL) ∈ news) (m45 : (45, tb) ∈ news) (hg : IsGn g oa) (hf : IsFr mm oL) (m1 : mm (Str.ofString "number") = some v₁) (m2 : mm (Str.ofString "name") = some v₂)
    (o1 : OrN v₁ n) (o2 : OrX v₂ (nameAt p)) (h1 : 1 ≤ n) (h2 : n ≤ 13) (hp : p < 20) (hc : cnt n p < 260) (hgs : s.gens[g]? = some (.fresh (.func tzBody (envTz Lg)))) (hLg : hb.objs.size ≤ Lg)
    (hsub : ∀ b o, hb.get? b = some o → h₀.get? b = some o) (h45 : hb.get? 45 = none) (G : Gd w loose mean mg mb hb) (hct : CTo tb) (hh : A.handled = none) (hd : A.depth + 120 < recursionLimit) (hu : A.units + 240 < cLine)
    (ret : ∀ h' G' d' tk' r t₁ t₂ wr' fp' gs' tb' own', Fr h₀ L h' m → News h₀ L h' ((r, pairObj n (nameAt p) t₁ t₂) :: (45, tb') :: own') → WOwn w hb a g (cnt n p + 1) wr' fp' gs' own' → CTo tb' → G'[g]? = some gs' → GCh g s.gens G' → Q (.ref r) ⟨h', G', d', tk', s.os⟩) :
    wpAny (model prog w) A (call (.builtin "next") [.ref a]) Q E s := by
  obtain ⟨e1, e2, e3⟩ := pure_cnt h1 h2 hp
  have N' : News h₀ L s.heap ([] ++ (45, tb) :: [(a, oa), (Lg, oL)]) := fun q hq => by
    simp only [List.nil_append, List.mem_cons, List.not_mem_nil, or_false] at hq
    rcases hq with rfl | rfl | rfl
    · exact N _ m45
    · exact N _ ma
    · exact N _ mL
  have W : WOwn w hb a g (cnt n p) [Lg] [a, Lg] (.fresh (.func tzBody (envTz Lg))) [(a, oa), (Lg, oL)] := by
    refine ⟨fun h hk => .fresh Lg mm v₁ v₂ n p (hg h a (hk _ (.head _))) hLg (hf h Lg (hk _ (.tail _ (.head _)))) m1 m2 o1 o2 h1 h2 hp rfl, fun b hb' => ?_, fun q hq => ?_⟩
    · simp only [List.mem_cons, List.not_mem_nil, or_false] at hb'
      rcases hb' with rfl | rfl
      · exact ⟨_, .head _⟩
      · exact ⟨_, .tail _ (.head _)⟩
    · simp only [List.mem_cons, List.not_mem_nil, or_false] at hq
      rcases hq with rfl | rfl
      · exact .head _
      · exact .tail _ (.head _)
  refine next_K F N' W (fun q hq => nomatch hq) hsub h45 G hct hgs hh hd hu hc fun h' G' d' tk' r t₁ t₂ wr' fp' gs' tb' own' F' N' W' _ _ ct' g1 g2 => ?_
  unfold dateTup at N'
  rw [e1, e2] at N'
  exact ret h' G' d' tk' r t₁ t₂ wr' fp' gs' tb' own' F' N' W' ct' g1 g2
end
section
variable {w : World} {loose : List Str} {mean : ExcName → Option Value} {mg mb : Str → Option Value} {A : Around} {s : Shared} {hb : Heap} {Q E : Value → Shared → Prop}
/-- nothing that was there has changed, but the table -/
structure Quiet (hb : Heap) (s s' : Shared) : Prop where
  k : ∀ b o, b ≠ 45 → s.heap.get? b = some o → s'.heap.get? b = some o
  g : GExt s.gens s'.gens
  o : s'.os = s.os
  st : St hb s'
theorem left_fin {h₀ : Heap} {L : Addr} {m : Str → Option Value} {s s' : Shared} {tb : Obj} {G' : Array GenState} (hoff : ∀ b o, b ≠ 45 → s.heap.get? b = some o → h₀.get? b = some o) (hsub : ∀ b o, hb.get? b = some o → h₀.get? b = some o) (hzb : hb.objs.size ≤ L)
    (F : Fr h₀ L s'.heap m) (e45 : s'.heap.get? 45 = some tb) (ct : CTo tb) {x : GenState} (g1 : GCh s.gens.size (s.gens.push x) G') (hx : x.bare = true) (g2 : GCh s.gens.size G' s'.gens) (ho : s'.os = s.os) : Quiet hb s s' := by
  have g := g1.trans g2
  refine ⟨fun b o n e => F.keep b o (hoff b o n e), ⟨?_, fun k hk => ?_, fun hb' => ?_⟩, ho, ⟨fun b o e => F.keep b o (hsub b o e), Nat.le_trans hzb (Nat.le_of_lt F.ns.lt), tb, e45, ct⟩⟩
  · have := g.s
    rw [Array.size_push] at this
    omega
  · rw [g.e k (Nat.ne_of_lt hk) (by rw [Array.size_push]; omega), Array.getElem?_push, if_neg (Nat.ne_of_lt hk)]
  · exact g.b (AllBare.push hb' hx)
theorem left_nf (G : Gd w loose mean mg mb hb) (h45 : hb.get? 45 = none) (st : St hb s) (hh : A.handled = none) (hd : A.depth + 200 < recursionLimit) (hu : A.units + 400 < cLine) {n : Int} {tn : Tok} (hn0 : 0 ≤ n)
    (ret : ∀ s', Quiet hb s s' → Q (.bool true) s') :
    wpAny (model prog w) A (call (.ref 108) [.int n tn]) Q E s := by
  obtain ⟨hkb, hzb, tb, htb, hct⟩ := st
  obtain ⟨hd', dp, fr, gd, un⟩ := A
  subst hh
  have hsub : ∀ b o, hb.get? b = some o → (hideAll s.heap [45]).get? b = some o := fun b o e => hideAll_get _ (hkb b o e) (fun q => by
    rw [List.mem_singleton.mp q, h45] at e; cases e)
  have G₀ := Gd.keeps G hsub
  obtain ⟨X, T⟩ := id G₀
  have hk : ∀ b o, (hideAll s.heap [45]).get? b = some o → s.heap.get? b = some o := fun b o e => of_hideAll _ e
  have hsz : (hideAll s.heap [45]).objs.size ≤ s.heap.objs.size := Nat.le_of_eq (hideAll_size _ _)
  have hlim := T.nolimit
  have hn : ∀ p ∈ [(45, tb)], s.heap.get? p.1 = some p.2 ∧ (hideAll s.heap [45]).get? p.1 = none := fun p hp => by
    rw [List.mem_singleton.mp hp]
    exact ⟨htb, hideAll_none _ (.head _)⟩
  have hoff : ∀ b o, b ≠ 45 → s.heap.get? b = some o → (hideAll s.heap [45]).get? b = some o := fun b o n1 e => hideAll_get _ e (fun q => n1 (List.mem_singleton.mp q))
  generalize hideAll s.heap [45] = h₀ at *
  refine wpAny_call ?_
  k_dflt (refine' enter_nf [(Str.ofString "rest", .int n tn)] ?k1 ?k2 ?k3 ?k4 ?k5 ?k6 ?k7 ?k8 ?k9 ?kB ?_ ?c2 ?c3 ?c4 ?c5; walk_at "nf enter")
  intro h' F' N' hall'
  try dsimp only
  clear hall'
  k_steps
  all_goals (rename Fr _ _ _ _ => F1; rename News _ _ _ _ => N1; rename IsGn _ _ => g1; rename IsFr _ _ => f1)
  · have hpp : (n.fmod 19).toNat < 20 := by (try k_fmods); omega
    have hnn : 1 ≤ (13 : Int) ∧ (13 : Int) ≤ 13 := by (try k_fmods); omega
    have hcc : cnt 13 ((n.fmod 19).toNat : Nat) + 1 < 260 := by unfold cnt; (try k_fmods); omega
    refine' first_next (n := 13) (p := (n.fmod 19).toNat) (hb := hb) F1 N1 (.head _) (.tail _ (.head _)) (by simp) g1 f1 rfl rfl .non (.word _ _ (name_len _ hpp).1 (name_len _ hpp).2) hnn.1 hnn.2 hpp (by omega) ?gs ?lg hsub h45 G hct rfl ?d ?u ?_
    case gs => simp
    case lg => exact Nat.le_of_lt (Nat.lt_of_le_of_lt hzb (by assumption))
    case d => walk_at "nf room"
    case u => walk_at "nf room"
    intro h' G' d' tk' r t₁ t₂ wr' fp' gs' tb' own' F' N' W' ct' gs'' gch'
    clear F1 N1
    try dsimp only
    k_steps
    rename Fr _ _ _ _ => F2
    rename News _ _ _ _ => N2
    refine pair_eq (x := 13) (p := (n.fmod 19).toNat) (N2 _ (.tail _ (.head _))).1 (N2 _ (.head _)).1 hpp ?_ ?_
    · walk_at "nf room"
    k_steps
    obtain ⟨e1, e2⟩ := pure_cnt1 hnn.1 hnn.2 hpp
    rename Fr _ _ _ _ => F3
    rename News _ _ _ _ => N3
    refine' next_K (pre := []) (hb := hb) F3 (News.drop2 N3) W' (fun q hq => nomatch hq) hsub h45 G ct' gs'' rfl ?d2 ?u2 hcc ?_
    case d2 => walk_at "nf room"
    case u2 => walk_at "nf room"
    clear F3 N3
    intro h' G2 d2 tk2 r2 t₃ t₄ wr2 fp2 gs2 tb2 own2 F' N' W2 _ _ ct2 gs3 gch2
    unfold dateTup at N'
    rw [e1, e2] at N'
    simp only [List.nil_append] at N'
    try dsimp only
    k_steps
    rename Fr _ _ _ _ => F4
    rename News _ _ _ _ => N4
    have q1 : (13 : Int) % 13 + 1 = 1 := by (try k_fmods); omega
    have q2 : ((n.fmod 19).toNat + 1) % 20 = (n.fmod 19 + 1).toNat := by (try k_fmods); omega
    rw [q1, q2] at N4
    refine pair_eq (x := 1) (p := (n.fmod 19 + 1).toNat) (N4 _ (.tail _ (.head _))).1 (N4 _ (.head _)).1 (by (try k_fmods); omega) ?_ ?_
    · walk_at "nf room"
    k_steps
    exact ret _ (left_fin hoff hsub hzb F4 (N4 _ (.tail _ (.tail _ (.head _)))).1 ct2 gch' rfl gch2 rfl)
  · have hpp : (n.fmod 19).toNat < 20 := by (try k_fmods); omega
    have hnn : 1 ≤ (13 : Int) ∧ (13 : Int) ≤ 13 := by (try k_fmods); omega
    have hcc : cnt 13 ((n.fmod 19).toNat : Nat) + 1 < 260 := by unfold cnt; (try k_fmods); omega
    refine' first_next (n := 13) (p := (n.fmod 19).toNat) (hb := hb) F1 N1 (.head _) (.tail _ (.head _)) (by simp) g1 f1 rfl rfl (.zero _) (.word _ _ (name_len _ hpp).1 (name_len _ hpp).2) hnn.1 hnn.2 hpp (by omega) ?gs ?lg hsub h45 G hct rfl ?d ?u ?_
    case gs => simp
    case lg => exact Nat.le_of_lt (Nat.lt_of_le_of_lt hzb (by assumption))
    case d => walk_at "nf room"
    case u => walk_at "nf room"
    intro h' G' d' tk' r t₁ t₂ wr' fp' gs' tb' own' F' N' W' ct' gs'' gch'
    clear F1 N1
    try dsimp only
    k_steps
    rename Fr _ _ _ _ => F2
    rename News _ _ _ _ => N2
    refine pair_eq (x := 13) (p := (n.fmod 19).toNat) (N2 _ (.tail _ (.head _))).1 (N2 _ (.head _)).1 hpp ?_ ?_
    · walk_at "nf room"
    k_steps
    obtain ⟨e1, e2⟩ := pure_cnt1 hnn.1 hnn.2 hpp
    rename Fr _ _ _ _ => F3
    rename News _ _ _ _ => N3
    refine' next_K (pre := []) (hb := hb) F3 (News.drop2 N3) W' (fun q hq => nomatch hq) hsub h45 G ct' gs'' rfl ?d2 ?u2 hcc ?_
    case d2 => walk_at "nf room"
    case u2 => walk_at "nf room"
    clear F3 N3
    intro h' G2 d2 tk2 r2 t₃ t₄ wr2 fp2 gs2 tb2 own2 F' N' W2 _ _ ct2 gs3 gch2
    unfold dateTup at N'
    rw [e1, e2] at N'
    simp only [List.nil_append] at N'
    try dsimp only
    k_steps
    rename Fr _ _ _ _ => F4
    rename News _ _ _ _ => N4
    have q1 : (13 : Int) % 13 + 1 = 1 := by (try k_fmods); omega
    have q2 : ((n.fmod 19).toNat + 1) % 20 = (n.fmod 19 + 1).toNat := by (try k_fmods); omega
    rw [q1, q2] at N4
    refine pair_eq (x := 1) (p := (n.fmod 19 + 1).toNat) (N4 _ (.tail _ (.head _))).1 (N4 _ (.head _)).1 (by (try k_fmods); omega) ?_ ?_
    · walk_at "nf room"
    k_steps
    exact ret _ (left_fin hoff hsub hzb F4 (N4 _ (.tail _ (.tail _ (.head _)))).1 ct2 gch' rfl gch2 rfl)
  · have hpp : 19 < 20 := by (try k_fmods); omega
    have hnn : 1 ≤ ((1 + n.fmod 12) : Int) ∧ ((1 + n.fmod 12) : Int) ≤ 13 := by (try k_fmods); omega
    have hcc : cnt (1 + n.fmod 12) (19 : Nat) + 1 < 260 := by unfold cnt; (try k_fmods); omega
    refine' first_next (n := (1 + n.fmod 12)) (p := 19) (hb := hb) F1 N1 (.head _) (.tail _ (.head _)) (by simp) g1 f1 rfl rfl (.num _ _ (by (try k_fmods); omega)) (ajaw ▸ .non) hnn.1 hnn.2 hpp (by omega) ?gs ?lg hsub h45 G hct rfl ?d ?u ?_
    case gs => simp
    case lg => exact Nat.le_of_lt (Nat.lt_of_le_of_lt hzb (by assumption))
    case d => walk_at "nf room"
    case u => walk_at "nf room"
    intro h' G' d' tk' r t₁ t₂ wr' fp' gs' tb' own' F' N' W' ct' gs'' gch'
    clear F1 N1
    try dsimp only
    k_steps
    rename Fr _ _ _ _ => F2
    rename News _ _ _ _ => N2
    refine pair_eq (x := (1 + n.fmod 12)) (p := 19) (N2 _ (.tail _ (.head _))).1 (by unfold pairObj; rw [ajaw]; exact (N2 _ (.head _)).1) hpp ?_ ?_
    · walk_at "nf room"
    k_steps
    obtain ⟨e1, e2⟩ := pure_cnt1 hnn.1 hnn.2 hpp
    rename Fr _ _ _ _ => F3
    rename News _ _ _ _ => N3
    refine' next_K (pre := []) (hb := hb) F3 (News.drop2 N3) W' (fun q hq => nomatch hq) hsub h45 G ct' gs'' rfl ?d2 ?u2 hcc ?_
    case d2 => walk_at "nf room"
    case u2 => walk_at "nf room"
    clear F3 N3
    intro h' G2 d2 tk2 r2 t₃ t₄ wr2 fp2 gs2 tb2 own2 F' N' W2 _ _ ct2 gs3 gch2
    unfold dateTup at N'
    rw [e1, e2] at N'
    simp only [List.nil_append] at N'
    try dsimp only
    k_steps
    rename Fr _ _ _ _ => F4
    rename News _ _ _ _ => N4
    have q1 : ((1 + n.fmod 12) : Int) % 13 + 1 = (1 + n.fmod 12 + 1) := by (try k_fmods); omega
    have q2 : (19 + 1) % 20 = 0 := by (try k_fmods); omega
    rw [q1, q2] at N4
    refine pair_eq (x := (1 + n.fmod 12 + 1)) (p := 0) (N4 _ (.tail _ (.head _))).1 (by unfold pairObj; rw [imix]; exact (N4 _ (.head _)).1) (by (try k_fmods); omega) ?_ ?_
    · walk_at "nf room"
    k_steps
    exact ret _ (left_fin hoff hsub hzb F4 (N4 _ (.tail _ (.tail _ (.head _)))).1 ct2 gch' rfl gch2 rfl)
  · have hpp : 19 < 20 := by (try k_fmods); omega
    have hnn : 1 ≤ ((1 + n.fmod 12) : Int) ∧ ((1 + n.fmod 12) : Int) ≤ 13 := by (try k_fmods); omega
    have hcc : cnt (1 + n.fmod 12) (19 : Nat) + 1 < 260 := by unfold cnt; (try k_fmods); omega
    refine' first_next (n := (1 + n.fmod 12)) (p := 19) (hb := hb) F1 N1 (.head _) (.tail _ (.head _)) (by simp) g1 f1 rfl rfl (.num _ _ (by (try k_fmods); omega)) (ajaw ▸ .empty _) hnn.1 hnn.2 hpp (by omega) ?gs ?lg hsub h45 G hct rfl ?d ?u ?_
    case gs => simp
    case lg => exact Nat.le_of_lt (Nat.lt_of_le_of_lt hzb (by assumption))
    case d => walk_at "nf room"
    case u => walk_at "nf room"
    intro h' G' d' tk' r t₁ t₂ wr' fp' gs' tb' own' F' N' W' ct' gs'' gch'
    clear F1 N1
    try dsimp only
    k_steps
    rename Fr _ _ _ _ => F2
    rename News _ _ _ _ => N2
    refine pair_eq (x := (1 + n.fmod 12)) (p := 19) (N2 _ (.tail _ (.head _))).1 (by unfold pairObj; rw [ajaw]; exact (N2 _ (.head _)).1) hpp ?_ ?_
    · walk_at "nf room"
    k_steps
    obtain ⟨e1, e2⟩ := pure_cnt1 hnn.1 hnn.2 hpp
    rename Fr _ _ _ _ => F3
    rename News _ _ _ _ => N3
    refine' next_K (pre := []) (hb := hb) F3 (News.drop2 N3) W' (fun q hq => nomatch hq) hsub h45 G ct' gs'' rfl ?d2 ?u2 hcc ?_
    case d2 => walk_at "nf room"
    case u2 => walk_at "nf room"
    clear F3 N3
    intro h' G2 d2 tk2 r2 t₃ t₄ wr2 fp2 gs2 tb2 own2 F' N' W2 _ _ ct2 gs3 gch2
    unfold dateTup at N'
    rw [e1, e2] at N'
    simp only [List.nil_append] at N'
    try dsimp only
    k_steps
    rename Fr _ _ _ _ => F4
    rename News _ _ _ _ => N4
    have q1 : ((1 + n.fmod 12) : Int) % 13 + 1 = (1 + n.fmod 12 + 1) := by (try k_fmods); omega
    have q2 : (19 + 1) % 20 = 0 := by (try k_fmods); omega
    rw [q1, q2] at N4
    refine pair_eq (x := (1 + n.fmod 12 + 1)) (p := 0) (N4 _ (.tail _ (.head _))).1 (by unfold pairObj; rw [imix]; exact (N4 _ (.head _)).1) (by (try k_fmods); omega) ?_ ?_
    · walk_at "nf room"
    k_steps
    exact ret _ (left_fin hoff hsub hzb F4 (N4 _ (.tail _ (.tail _ (.head _)))).1 ct2 gch' rfl gch2 rfl)
end

-- MACROS
local macro_rules | `(tactic| walk_at "exec Raise some none") => `(tactic| ((with_reducible show wpAny _ _ (exec (Stmt.Raise (some (Expr.Call (Expr.Name ("ValueError" : Str) _) _ [] _)) none _) _) _ _ _); k_dflt (refine' PyProof.Rows.Raise_madeB PySem.F.excCall_ValueError PySem.F.excRaise_ValueError ?hh ?_ ?he ?pl; (case hh => first | assumption | rfl); (case he => rfl); (case pl => rfl); k_whole)))
local macro_rules | `(tactic| walk_at "exec Raise some none") => `(tactic| ((with_reducible show wpAny _ _ (exec (Stmt.Raise (some (Expr.Call (Expr.Name ("IndexError" : Str) _) _ [] _)) none _) _) _ _ _); k_dflt (refine' PyProof.Rows.Raise_madeB PySem.F.excCall_IndexError PySem.F.excRaise_IndexError ?hh ?_ ?he ?pl; (case hh => first | assumption | rfl); (case he => rfl); (case pl => rfl); k_whole)))
-- END MACROS
section
variable {w : World} {loose : List Str} {mean : ExcName → Option Value} {mg mb : Str → Option Value} {A : Around} {s : Shared} {h₀ : Heap} {L : Addr} {m : Str → Option Value} {news : List (Addr × Obj)}
/-- an exception of the class cls has just been made in the frame L -/
def Made (h₀ : Heap) (L : Addr) (news : List (Addr × Obj)) (cls : String) (E : Value → Shared → Prop) (s : Shared) : Prop :=
  ∀ h h' e m' args tk', Fr h₀ L h m' → News h₀ L h news → h.MadeExc h' e cls args → E (.ref e) { s with heap := h', toks := tk' }
theorem tz_high {Q : Flow → Shared → Prop} {E : Value → Shared → Prop} {n : Int} {tn tx : Tok} {x : Str} (F : Fr h₀ L s.heap (fun y => if y = Str.ofString "name" then some (.str x tx) else if y = Str.ofString "number" then some (.int n tn) else m y)) (N : News h₀ L s.heap news)
    (X : (hd.heap_39 w.params).In h₀) (T : Top p0 loose mean mg mb h₀) (hh : A.handled = none) (hd : A.depth + 60 < recursionLimit) (hu : A.units + 120 < cLine) (h1 : 13 < n) (ret : Made h₀ L news "ValueError" E s) :
    wpAny (model prog w) A (execs [tzS 2, tzS 3, tzS 4, tzS 5] (envTz L)) Q E s := by
  conv in tzS 2 => whnf
  conv in tzS 3 => whnf
  conv in tzS 4 => whnf
  conv in tzS 5 => whnf
  conv in envTz _ => unfold envTz; arg 2; whnf
  k_steps
  rename Heap.MadeExc _ _ _ _ _ => x9
  exact ret _ _ _ _ _ _ F N x9
theorem tz_word {Q : Flow → Shared → Prop} {E : Value → Shared → Prop} {n : Int} {tn tx : Tok} {x : Str} (F : Fr h₀ L s.heap (fun y => if y = Str.ofString "name" then some (.str x tx) else if y = Str.ofString "number" then some (.int n tn) else m y)) (N : News h₀ L s.heap news)
    (X : (hd.heap_39 w.params).In h₀) (T : Top p0 loose mean mg mb h₀) (hh : A.handled = none) (hd : A.depth + 60 < recursionLimit) (hu : A.units + 120 < cLine) (h1 : n ≤ 13) (hx : x = Str.ofString "Pop" ∨ x = Str.ofString "ajaw" ∨ x = Str.ofString "Ajaw " ∨ x = Str.ofString "Nobody") (ret : Made h₀ L news "ValueError" E s) :
    wpAny (model prog w) A (execs [tzS 2, tzS 3, tzS 4, tzS 5] (envTz L)) Q E s := by
  conv in tzS 2 => whnf
  conv in tzS 3 => whnf
  conv in tzS 4 => whnf
  conv in tzS 5 => whnf
  conv in envTz _ => unfold envTz; arg 2; whnf
  k_steps
  rotate_left
  · rename Heap.MadeExc _ _ _ _ _ => x9
    exact ret _ _ _ _ _ _ F N x9
  · exfalso
    rename (_ || _) = _ => hbad
    rcases hx with rfl | rfl | rfl | rfl <;> exact absurd hbad (by decide +kernel)
end

section
variable {w : World} {A : Around} {R : Result → Shared → Prop} {s : Shared} {h₀ : Heap} {news : List (Addr × Obj)} {K : Frag} {name qual : Str} {params : Arguments} {body : List Stmt} {scope : Scope} {dV kV doc pm cdv ct oc : Value} {an od : Option Addr} {osl : Array (Option Value)} {f : Addr} {args : Args} (binds : List (Str × Value))
/-- entering a def of the text that has cells; it may raise -/
theorem enter_nfCE (hk : ∀ b o, h₀.get? b = some o → s.heap.get? b = some o) (hsz : h₀.objs.size ≤ s.heap.objs.size) (X₀ : K.In h₀) (hlim : h₀.NoLimit)
    (ho : K.lookup f = some ⟨oc, od, .func (fnOf name qual params body scope dV kV doc pm an cdv ct), osl⟩) (hcd : codeIn K cdv qual = true) (hroom : A.depth < recursionLimit)
    (hbind : BindsTo s (fnOf name qual params body scope dV kV doc pm an cdv ct) args binds) (hkind : (binds.all fun y => scope.names.lookup y.1 == some .local || scope.names.lookup y.1 == some .cell) = true)
    (hnd : ((cellsFrom 0 scope.names []).map (·.1)).Nodup)
    (h : ∀ h₁ tk cells, Fr h₀ s.heap.objs.size h₁ (bindL (envOfC qual scope s.heap.objs.size f cdv).kindOf binds fun _ => none) → (∀ b o, s.heap.get? b = some o → h₁.get? b = some o) → News h₀ s.heap.objs.size h₁ cells →
      CellsAre (bindC (envOfC qual scope s.heap.objs.size f cdv).kindOf binds fun _ => none) (cellsFrom (s.heap.objs.size + 1) scope.names []) cells →
      wpAny (model prog w) (A.deeper (envOfC qual scope s.heap.objs.size f cdv)) (execs body (envOfC qual scope s.heap.objs.size f cdv))
        (fun fl s' => R (.ok (.ret (match fl with | .ret v => v | _ => .none))) s')
        (fun e s' => wpAny (model prog w) (A.deeper (envOfC qual scope s.heap.objs.size f cdv)) (leaving (envOfC qual scope s.heap.objs.size f cdv) e) (fun _ s'' => R (.error e) s'') (fun e' s'' => R (.error e') s'') s')
        { s with heap := h₁, toks := tk })
    (hco : scope.isCoroutine = false := by rfl) (hgen : scope.isGenerator = false := by rfl) (hkk : scope.kind = .function := by rfl) : codeAny (model prog w) A (.call (.ref f) args) R s := by
  refine codeAny_call_function hroom (hk _ _ (X₀ _ _ ho)) rfl hco hgen rfl ((codeRec_of X₀ hcd).keeps hk) (hbind _ _ _ _ ?_)
  refine wpAny_newFunctionEnv_cells hkk (kindsX hkind _) fun env' he s' x => ?_
  subst he
  refine ⟨(hlim.keeps hk).keeps x.toInCall.keep, codeAny_func ?_⟩
  obtain ⟨h₁, tk, rfl, _⟩ := x.done
  have hk₁ := x.toInCall.keep
  obtain ⟨cells, NC, Y⟩ := Cl.news (h₀ := s.heap) (Nat.le_refl _) fun n c hm => ⟨x.cell n c (lookup_of_mem_nodup (cellsFrom_names scope.names 0 (s.heap.objs.size + 1) [] [] rfl ▸ hnd) hm), x.above n c hm⟩
  refine h h₁ tk cells ⟨x.toInCall.ns, fun b o e => hk₁ b o (hk b o e), hsz⟩ hk₁ (fun p hp => ?_) Y
  refine ⟨(NC p hp).1, (NC p hp).2.1, ?_⟩
  cases q : h₀.get? p.1 with
  | none => rfl
  | some o => have := hk _ _ q; rw [(NC p hp).2.2] at this; cases this
end

section
variable {w : World} {loose : List Str} {mean : ExcName → Option Value} {mg mb : Str → Option Value} {A : Around} {s : Shared} {Q E : Value → Shared → Prop}
theorem frame_fields {h : Heap} {L : Addr} {m : Str → Option Value} (hn : h.Ns L m) : ∃ o, h.get? L = some o ∧ ∀ vs, o.data ≠ .fields vs := by
  obtain ⟨o, es, ep, ho, hd, _⟩ := hn
  exact ⟨o, ho, fun vs q => by rw [hd] at q; cases q⟩
theorem count_low (G : Gd w loose mean mg mb s.heap) {l : List Env} {B : Heap} (hfr : A.frames = some l) (hl : s.heap.FunFrames B l) (hB : B.StaysIn s.heap) (hh : A.handled = none) (hd : A.depth + 40 < recursionLimit) (hu : A.units + 80 < cLine)
    {d : Int} {td tn : Tok} {x : Str} (h1 : d < 1)
    (ret : ∀ h' tk' e a0, Heap.FlyingW B l e (.type "IndexError") a0 h' → s.heap.UpToSlots h' → E (.ref e) { s with heap := h', toks := tk' }) :
    wpAny (model prog w) A (call (.ref 50) [.int d td, .str x tn]) Q E s := by
  obtain ⟨X, T⟩ := G
  obtain ⟨hd', dp, fr, gd, un⟩ := A
  subst hh
  have hk := hk_self s.heap
  have hsz := Nat.le_refl s.heap.objs.size
  have hlim := T.nolimit
  refine wpAny_call ?_
  k_dflt (refine' enter_nfCE [(Str.ofString "day", .int d td), (Str.ofString "name", .str x tn)] ?k1 ?k2 ?k3 ?k4 ?k6 ?k7 ?k8 ?k9 ?kB ?kD ?_ ?c3 ?c4 ?c5; (case k1 => assumption); (case k2 => assumption); (case k3 => assumption); (case k4 => assumption); (case k6 => k_is); (case k7 => k_is); (case k8 => walk_at "nf room"); (case k9 => exact BindsTo.of_eq rfl); (case kB => exact rfl); (case kD => decide +kernel); (case c3 => exact rfl); (case c4 => exact rfl); (case c5 => exact rfl); k_whole)
  intro h' tk' cells' F' hall N' Y'
  k_cells Y'
  try simp only [List.cons_append, List.nil_append] at N'
  try dsimp only
  k_steps
  rename Heap.MadeExc _ _ _ _ _ => x9
  obtain ⟨oF, hoF, nfF⟩ := frame_fields F'.ns
  refine wpAny_leaves_madeW (base := B) (outer := l) (Around.frames_deeper hfr) rfl (fun b o e => hall b o (hB b o e)) ⟨(fun q => by cases q), ⟨_, oF, rfl, hB.fresh, hoF, nfF⟩, hl.of_keeps fun b o e _ => ⟨o, hall b o e, rfl⟩⟩ (Heap.MadeExc.of x9) fun h2 t x1 x2 x3 x4 => ?_
  exact ret _ _ _ _ x1 ((Heap.UpToSlots.of_keeps fun b o e => x9.keeps b o (hall b o e)).trans x4)
end
section
variable {w : World} {loose : List Str} {mean : ExcName → Option Value} {mg mb : Str → Option Value} {A : Around} {s : Shared} {h₀ : Heap} {L : Addr} {m : Str → Option Value} {news : List (Addr × Obj)}
theorem tz_low {Q : Flow → Shared → Prop} {E : Value → Shared → Prop} {n : Int} {tn tx : Tok} {p : Nat} (F : Fr h₀ L s.heap (fun y => if y = Str.ofString "name" then some (.str (nameAt p) tx) else if y = Str.ofString "number" then some (.int n tn) else m y)) (N : News h₀ L s.heap news)
    (X : (hd.heap_39 w.params).In h₀) (T : Top p0 loose mean mg mb h₀) (hh : A.handled = none) (hd : A.depth + 60 < recursionLimit) (hu : A.units + 120 < cLine) (h1 : n < 1) (hp : p < 20)
    {l : List Env} {B : Heap} (hfr : A.frames = some l) (hBn : ∀ h m, Fr h₀ L h m → News h₀ L h news → B.StaysIn h ∧ h.FunFrames B l)
    (ret : ∀ hc h' tk' e a0 m', Fr h₀ L hc m' → News h₀ L hc news → Heap.FlyingW B l e (.type "IndexError") a0 h' → hc.UpToSlots h' → E (.ref e) { s with heap := h', toks := tk' }) :
    wpAny (model prog w) A (execs [tzS 2, tzS 3, tzS 4, tzS 5] (envTz L)) Q E s := by
  conv in tzS 2 => whnf
  conv in tzS 3 => whnf
  conv in tzS 4 => whnf
  conv in tzS 5 => whnf
  conv in envTz _ => unfold envTz; arg 2; whnf
  k_steps
  rotate_left
  · exfalso
    rename (_ || _) = _ => hbad
    rcases (by omega : p = 0 ∨ p = 1 ∨ p = 2 ∨ p = 3 ∨ p = 4 ∨ p = 5 ∨ p = 6 ∨ p = 7 ∨ p = 8 ∨ p = 9 ∨ p = 10 ∨ p = 11 ∨ p = 12 ∨ p = 13 ∨ p = 14 ∨ p = 15 ∨ p = 16 ∨ p = 17 ∨ p = 18 ∨ p = 19) with rfl | rfl | rfl | rfl | rfl | rfl | rfl | rfl | rfl | rfl | rfl | rfl | rfl | rfl | rfl | rfl | rfl | rfl | rfl | rfl <;> exact absurd hbad (by decide +kernel)
  rename Fr _ _ _ _ => F1
  rename News _ _ _ _ => N1
  obtain ⟨b1, b2⟩ := hBn _ _ F1 N1
  refine' count_low (loose := loose) (mean := mean) (mg := mg) (mb := mb) ?g hfr ?b2 ?b1 hh (by omega) (by omega) h1 ?_
  case g => exact Gd.keeps ⟨X, T⟩ F1.keep
  case b2 => exact b2
  case b1 => exact b1
  intro h' tk' e a0 x1 x2
  exact ret _ _ _ _ _ _ F1 N1 x1 x2
end

/-- arguments that the generator refuses, with the class of the refusal -/
inductive Bad : Int → Str → String → Prop
  | high (n x) : 13 < n → Bad n x "ValueError"
  | word (n x) : 1 ≤ n → n ≤ 13 → (x = Str.ofString "Pop" ∨ x = Str.ofString "ajaw" ∨ x = Str.ofString "Ajaw " ∨ x = Str.ofString "Nobody") → Bad n x "ValueError"
  | low (n p) : n < 0 → p < 20 → Bad n (nameAt p) "IndexError"
theorem Bad.ne {n : Int} {x : Str} {c : String} (h : Bad n x c) : n ≠ 0 := by
  cases h <;> omega
theorem funFrames_at {h h' B : Heap} : ∀ {l : List Env}, h.FunFrames B l → (∀ b ∈ l.filterMap (·.frame), ∀ o, h.get? b = some o → h'.get? b = some o) → h'.FunFrames B l
  | [], _, _ => trivial
  | env :: l, ⟨k, ⟨L, o, hf, hn, ho, nf⟩, r⟩, hk => by
    refine ⟨k, ⟨L, o, hf, hn, hk L (List.mem_filterMap.mpr ⟨env, .head _, hf⟩) o ho, nf⟩, funFrames_at r fun b hb o e => hk b ?_ o e⟩
    obtain ⟨env', he, hf'⟩ := List.mem_filterMap.mp hb
    exact List.mem_filterMap.mpr ⟨env', .tail _ he, hf'⟩
def TzFail (B : Heap) (l : List Env) (cls : String) (Lg : Addr) (s : Shared) (e : End) (s' : Shared) : Prop :=
  ∃ x a0 h' tk', e.result = .raised (.ref x) ∧ e.genState = .finished ∧ s' = { s with heap := h', toks := tk' } ∧ Heap.FlyingW B l x (.type cls) a0 h' ∧ (∀ b o, b ≠ Lg → s.heap.get? b = some o → (∀ vs, o.data ≠ .fields vs) → ∃ sl, h'.get? b = some { o with slots := sl })

section
variable {w : World} {loose : List Str} {mean : ExcName → Option Value} {mg mb : Str → Option Value} {A : Around} {s : Shared} {hb B : Heap} {Lg : Addr} {m : Str → Option Value} {tb : Obj} {l : List Env}
theorem tz_fails (G : Gd w loose mean mg mb hb) (h45 : hb.get? 45 = none) (hk : ∀ b o, hb.get? b = some o → s.heap.get? b = some o) (hsz : hb.objs.size ≤ Lg) (hns : s.heap.Ns Lg m) {n : Int} {x : Str} {t₁ t₂ : Tok} {cls : String}
    (m1 : m (Str.ofString "number") = some (.int n t₁)) (m2 : m (Str.ofString "name") = some (.str x t₂)) (bad : Bad n x cls) (hx : 0 < x.length) (hx' : (x.length : Int) < 2 ^ 62)
    (htb : s.heap.get? 45 = some tb) (hct : CTo tb) (ok : okA A) (hfr : A.frames = some l) (hB : B.StaysIn s.heap) (hBL : B.get? Lg = none) (hl : s.heap.FunFrames B l) (hLl : Lg ∉ l.filterMap (·.frame)) :
    SegX (model prog w) A (.func tzBody (envTz Lg)) ((model prog w).den (.func tzBody (envTz Lg))) [] s (TzFail B l cls Lg s) := by
  obtain ⟨X, T⟩ := id G
  have n45 : (45 : Addr) ≠ Lg := fun q => by
    obtain ⟨o, es, ep, ho, hd, _⟩ := hns
    obtain ⟨ps, e, _⟩ := hct
    rw [← q, htb] at ho
    cases ho
    rw [e] at hd
    cases hd
  have F : Fr hb Lg s.heap m := ⟨hns, hk, hsz⟩
  have N0 : News hb Lg s.heap ((45, tb) :: ownOf hb s.heap Lg) := fun q hq => by
    rcases List.mem_cons.mp hq with rfl | hq
    · exact ⟨htb, n45, h45⟩
    · obtain ⟨b, o⟩ := q
      obtain ⟨z1, z2, z3, z4⟩ := mem_ownOf.mp hq
      exact ⟨z1, z3, z4⟩
  have keep : ∀ h m', Fr hb Lg h m' → News hb Lg h ((45, tb) :: ownOf hb s.heap Lg) → ∀ b o, b ≠ Lg → s.heap.get? b = some o → h.get? b = some o := fun h m' F' N' b o nb e => by
    cases q : hb.get? b with
    | some y =>
      have := hk b y q
      rw [e] at this; cases this
      exact F'.keep b _ q
    | none =>
      by_cases z : b = 45
      · subst z
        rw [htb] at e; cases e
        exact (N' _ (.head _)).1
      · exact (N' (b, o) (.tail _ (mem_ownOf.mpr ⟨e, z, nb, q⟩))).1
  have hBn : ∀ h m', Fr hb Lg h m' → News hb Lg h ((45, tb) :: ownOf hb s.heap Lg) → B.StaysIn h ∧ h.FunFrames B (envTz Lg :: l) := fun h m' F' N' => by
    have kk := keep h m' F' N'
    obtain ⟨oF, hoF, nfF⟩ := frame_fields F'.ns
    exact ⟨fun b o e => kk b o (fun q => by rw [q, hBL] at e; cases e) (hB b o e), (fun q => by cases q), ⟨Lg, oF, rfl, hBL, hoF, nfF⟩, funFrames_at hl fun b hb o e => kk b o (fun q => hLl (q ▸ hb)) e⟩
  have upS : ∀ h m' h', Fr hb Lg h m' → News hb Lg h ((45, tb) :: ownOf hb s.heap Lg) → h.UpToSlots h' → ∀ b o, b ≠ Lg → s.heap.get? b = some o → (∀ vs, o.data ≠ .fields vs) → ∃ sl, h'.get? b = some { o with slots := sl } :=
    fun h m' h' F' N' u b o nb e nf => u b o (keep h m' F' N' b o nb e) nf
  obtain ⟨a1, a2, a3⟩ := over_ok (c := .func tzBody (envTz Lg)) (fs := []) ok rfl (Nat.le_of_ble_eq_true (by rfl)) (Nat.le_of_ble_eq_true (by rfl))
  have fr1 : (A.over (.func tzBody (envTz Lg)) []).frames = some (envTz Lg :: l) := by
    simp only [Around.over, hfr]; rfl
  refine s_func ?_
  rw [show execs tzBody (envTz Lg) = execs ([tzS 0, tzS 1] ++ ([tzS 2, tzS 3, tzS 4, tzS 5] ++ [tzFor])) (envTz Lg) from congrArg (fun b => execs b (envTz Lg)) tzBody_eq]
  refine s_execs_app (wpAny_execs_cons ?_)
  refine tz_pre0 F N0 m1 (.num n t₁ bad.ne) X T a1 fun g1 tk1 t1 F1 N1 => wpAny_execs_cons ?_
  have m2' : (fun y => if y = Str.ofString "number" then some (Value.int n t1) else m y) (Str.ofString "name") = some (.str x t₂) := by dsimp only; rw [if_neg (by decide)]; exact m2
  refine' tz_pre1 (m := fun y => if y = Str.ofString "number" then some (Value.int n t1) else m y) ?f ?n m2' (.word x t₂ hx hx') X T a1 ?_
  case f => exact F1
  case n => exact N1
  intro g2 tk2 t2 F2 N2
  refine wpAny_pure ?_
  show SegX _ _ _ _ _ _ _
  have made : ∀ (c : String), c = cls → Made hb Lg ((45, tb) :: ownOf hb s.heap Lg) c (fun x s' => SegX (model prog w) A (.func tzBody (envTz Lg)) ((leaving (envTz Lg) x).wrap (fun _ => .raise x) .raise id id) [] s' (TzFail B l cls Lg s)) { s with heap := g2, toks := tk2 } := by
    rintro c rfl h h' e m' args tk' F' N' x9
    obtain ⟨b1, b2⟩ := hBn h m' F' N'
    refine s_wrap (wpAny_leaves_madeW (base := B) (outer := l) fr1 rfl b1 b2 (Heap.MadeExc.of x9) fun h2 t y1 y2 y3 y4 => ?_)
    exact PySem.W.X.s_end prog w A _ _ _ (.error (.ref e)) _ rfl ⟨e, _, h2, tk', rfl, rfl, rfl, y1, upS h m' h2 F' N' ((Heap.UpToSlots.of_keeps x9.keeps).trans y4)⟩
  refine s_execs_app ?_
  cases bad with
  | high _ h1 =>
    refine' tz_high (m := m) (tx := t2) (tn := t1) ?f ?n X T a1 ?d ?u h1 (made _ rfl)
    case f => exact F2
    case n => exact N2
    case d => exact Nat.lt_of_le_of_lt (by omega) a2
    case u => exact Nat.lt_of_le_of_lt (by omega) a3
  | word _ h1 h2 h3 =>
    refine' tz_word (m := m) (tx := t2) (tn := t1) ?f ?n X T a1 ?d ?u h2 h3 (made _ rfl)
    case f => exact F2
    case n => exact N2
    case d => exact Nat.lt_of_le_of_lt (by omega) a2
    case u => exact Nat.lt_of_le_of_lt (by omega) a3
  | low p h1 h2 =>
    refine' tz_low (m := m) (tx := t2) (tn := t1) (p := p) (n := n) ?f ?n X T a1 ?d ?u (by omega) h2 fr1 hBn ?_
    case f => exact F2
    case n => exact N2
    case d => exact Nat.lt_of_le_of_lt (by omega) a2
    case u => exact Nat.lt_of_le_of_lt (by omega) a3
    intro hc h' tk' e a0 m' F' N' y1 y2
    refine s_wrap (wpAny_leaves_onW fr1 rfl y1 fun h2 y3 y4 => ?_)
    exact PySem.W.X.s_end prog w A _ _ _ (.error (.ref e)) _ rfl ⟨e, _, h2, tk', rfl, rfl, rfl, y3, upS hc m' h2 F' N' (y2.trans y4)⟩
end

theorem sub_VE_SI : isSubtype (.type "ValueError") (.type "StopIteration") = pure false := by rw [isSubtype_type]; kernel_rfl
theorem sub_IE_SI : isSubtype (.type "IndexError") (.type "StopIteration") = pure false := by rw [isSubtype_type]; kernel_rfl
theorem Bad.stop {n : Int} {x : Str} {c : String} (h : Bad n x c) : isSubtype (.type c) (.type "StopIteration") = pure false := by
  cases h
  · exact sub_VE_SI
  · exact sub_VE_SI
  · exact sub_IE_SI
section
variable {w : World} {loose : List Str} {mean : ExcName → Option Value} {mg mb : Str → Option Value} {A : Around} {s : Shared} {hb B : Heap} {Lg a : Addr} {m : Str → Option Value} {tb : Obj} {l : List Env} {Q E : Value → Shared → Prop} {g : Nat}
theorem next_raises (G : Gd w loose mean mg mb hb) (h45 : hb.get? 45 = none) (hk : ∀ b o, hb.get? b = some o → s.heap.get? b = some o) (hsz : hb.objs.size ≤ Lg) (hns : s.heap.Ns Lg m) {n : Int} {x : Str} {t₁ t₂ : Tok} {cls : String}
    (m1 : m (Str.ofString "number") = some (.int n t₁)) (m2 : m (Str.ofString "name") = some (.str x t₂)) (bad : Bad n x cls) (hx : 0 < x.length) (hx' : (x.length : Int) < 2 ^ 62)
    (htb : s.heap.get? 45 = some tb) (hct : CTo tb) (hh : A.handled = none) (hd : A.depth + 120 < recursionLimit) (hu : A.units + 240 < cLine) (hfr : A.frames = some l) (hB : B.StaysIn s.heap) (hBL : B.get? Lg = none) (hl : s.heap.FunFrames B l) (hLl : Lg ∉ l.filterMap (·.frame))
    (hg : B.IsGen a g) (hgs : s.gens[g]? = some (.fresh (.func tzBody (envTz Lg))))
    (ret : ∀ e a0 h' tk', Heap.FlyingW B l e (.type cls) a0 h' → (∀ b o, b ≠ Lg → s.heap.get? b = some o → (∀ vs, o.data ≠ .fields vs) → ∃ sl, h'.get? b = some { o with slots := sl }) →
      E (.ref e) ⟨h', (s.gens.setIfInBounds g .running).setIfInBounds g .finished, s.drawn, tk', s.os⟩) :
    wpAny (model prog w) A (call (.builtin "next") [.ref a]) Q E s := by
  have hlim := G.T.nolimit.keeps hk
  have ok : okA A.in1.in1 := ⟨hh, Nat.lt_of_le_of_lt (by walk_at "nf room") hd, Nat.lt_of_le_of_lt (by walk_at "nf room") hu⟩
  obtain ⟨oa, nm, qn, ea, ec, ed, es⟩ := id hg
  have hgS : s.heap.IsGen a g := ⟨oa, nm, qn, hB a oa ea, ec, ed, es⟩
  refine call_next hgS hlim (by omega) hgs (P := TzFail B l cls Lg (s.setGen g .running)) (tz_fails (s := s.setGen g .running) G h45 hk hsz hns m1 m2 bad hx hx' htb hct ok hfr hB hBL hl hLl) fun e s₁ hq hO => .inr ?_
  obtain ⟨y, a0, h', tk', r1, r2, r3, r4, r5⟩ := hO
  subst r3
  refine ⟨.ref y, r1, ?_⟩
  rw [r2]
  have ea' : h'.get? a = some oa := r4.1 a oa ea
  obtain ⟨oy, ey, ecy⟩ : ∃ ob, h'.get? y = some ob ∧ ob.cls = .type cls := by
    obtain ⟨_, _, _, oe, vs, T, oT, ts, q1, q2, _⟩ := r4
    exact ⟨oe, q1, q2.1⟩
  unfold Builtin.Generator.genLeft Builtin.Generator.madeByALambda
  refine wpAny_bind (wpAny_bind (wpAny_load ea' (wpAny_pure ?_)))
  refine wpAny_bind (wpAny_isInstance (T := cls) (b := false) ⟨_, ey, ecy⟩ bad.stop ?_)
  simp only [Bool.and_false, Bool.false_eq_true, ↓reduceIte]
  unfold Builtin.Generator.genEscaped
  refine wpAny_bind (wpAny_isInstance (T := cls) (b := false) ⟨_, ey, ecy⟩ bad.stop ?_)
  exact wpAny_throw (ret y a0 h' tk' r4 r5)
end

theorem exc_VE : isSubtype (.type "ValueError") (.type "BaseException") = pure true := by rw [isSubtype_type]; kernel_rfl
theorem exc_IE : isSubtype (.type "IndexError") (.type "BaseException") = pure true := by rw [isSubtype_type]; kernel_rfl
theorem nt_VE : isSubtype (.type ((Manifest.find? "ValueError").elim "type" fun x => x.metatype)) (.type "tuple") = pure false := by
  rw [show ((Manifest.find? "ValueError").elim "type" fun x => x.metatype) = "type" from by kernel_rfl, isSubtype_type]; kernel_rfl
theorem nt_IE : isSubtype (.type ((Manifest.find? "IndexError").elim "type" fun x => x.metatype)) (.type "tuple") = pure false := by
  rw [show ((Manifest.find? "IndexError").elim "type" fun x => x.metatype) = "type" from by kernel_rfl, isSubtype_type]; kernel_rfl
theorem sub_VV : isSubtype (.type "ValueError") (.type "ValueError") = pure true := by rw [isSubtype_type]; kernel_rfl
theorem sub_II : isSubtype (.type "IndexError") (.type "IndexError") = pure true := by rw [isSubtype_type]; kernel_rfl
theorem sub_IV : isSubtype (.type "IndexError") (.type "ValueError") = pure false := by rw [isSubtype_type]; kernel_rfl
theorem Bad.cls {n : Int} {x : Str} {c : String} (h : Bad n x c) : c = "ValueError" ∨ c = "IndexError" := by
  cases h
  · exact .inl rfl
  · exact .inl rfl
  · exact .inr rfl
def word (cls : String) : Str := if cls = "ValueError" then Str.ofString "value" else Str.ofString "index"
theorem ns_upto {h h' : Heap} {L : Addr} {m : Str → Option Value} (hn : h.Ns L m) (u : ∀ o, h.get? L = some o → (∀ vs, o.data ≠ .fields vs) → ∃ sl, h'.get? L = some { o with slots := sl }) : h'.Ns L m := by
  obtain ⟨o, es, ep, ho, hd, r⟩ := hn
  obtain ⟨sl, hs⟩ := u o ho fun vs q => by rw [hd] at q; cases q
  exact ⟨_, es, ep, hs, hd, r⟩
theorem funFrames_move {h h' B B' : Heap} : ∀ {l : List Env}, h.FunFrames B l → (∀ b ∈ l.filterMap (·.frame), B'.get? b = none) → (∀ b ∈ l.filterMap (·.frame), ∀ o, h.get? b = some o → h'.get? b = some o) → h'.FunFrames B' l
  | [], _, _, _ => trivial
  | env :: l, ⟨k, ⟨L, o, hf, hn, ho, nf⟩, r⟩, hn', hk => by
    have up : ∀ b, b ∈ l.filterMap (·.frame) → b ∈ (env :: l).filterMap (·.frame) := fun b hb => by
      obtain ⟨env', he, hf'⟩ := List.mem_filterMap.mp hb
      exact List.mem_filterMap.mpr ⟨env', .tail _ he, hf'⟩
    have hL : L ∈ (env :: l).filterMap (·.frame) := List.mem_filterMap.mpr ⟨env, .head _, hf⟩
    exact ⟨k, ⟨L, o, hf, hn' L hL, hk L hL o ho, nf⟩, funFrames_move r (fun b hb => hn' b (up b hb)) fun b hb o e => hk b (up b hb) o e⟩
/-- nothing has changed but the slots of the frames that stand -/
structure Calm (l : List Env) (s s' : Shared) : Prop where
  k : ∀ b o, b ∉ l.filterMap (·.frame) → s.heap.get? b = some o → s'.heap.get? b = some o
  u : s.heap.UpToSlots s'.heap
  g : GExt s.gens s'.gens
  o : s'.os = s.os
  z : s.heap.objs.size ≤ s'.heap.objs.size

theorem calm_of {l : List Env} {h₀ : Heap} {s s' : Shared} {m : Str → Option Value} {y : GenState} (hfl : ∀ b ∈ l.filterMap (·.frame), ∃ o, s.heap.get? b = some o ∧ ∀ vs, o.data ≠ .fields vs) (hoff : ∀ b o, b ∉ l.filterMap (·.frame) → s.heap.get? b = some o → h₀.get? b = some o)
    (F : Fr h₀ s.heap.objs.size s'.heap m) (up : ∀ b ∈ l.filterMap (·.frame), ∀ o, s.heap.get? b = some o → (∀ vs, o.data ≠ .fields vs) → ∃ sl, s'.heap.get? b = some { o with slots := sl }) (hg : s'.gens = ((s.gens.push y).setIfInBounds s.gens.size .running).setIfInBounds s.gens.size .finished) (ho : s'.os = s.os) : Calm l s s' := by
  refine ⟨fun b o n e => F.keep b o (hoff b o n e), fun b o e nf => ?_, ?_, ho, Nat.le_of_lt F.ns.lt⟩
  · by_cases hb : b ∈ l.filterMap (·.frame)
    · exact up b hb o e nf
    · exact ⟨o.slots, F.keep b o (hoff b o hb e)⟩
  · rw [hg]
    refine ⟨by simp, fun k hk => ?_, fun hb => ?_⟩
    · rw [set_ne (Nat.ne_of_lt hk), set_ne (Nat.ne_of_lt hk), Array.getElem?_push, if_neg (Nat.ne_of_lt hk)]
    · intro z hz
      obtain ⟨i, e⟩ := Array.mem_iff_getElem?.mp hz
      by_cases q : i = s.gens.size
      · subst q
        rw [set_eq (by simp)] at e
        cases e; rfl
      · rw [set_ne q, set_ne q, Array.getElem?_push, if_neg q] at e
        exact hb z (Array.mem_of_getElem? e)
section
variable {w : World} {loose : List Str} {mean : ExcName → Option Value} {mg mb : Str → Option Value} {A : Around} {s : Shared} {hb : Heap} {tb : Obj} {l : List Env} {Q E : Value → Shared → Prop}
theorem refusal_next (G : Gd w loose mean mg mb hb) (h45 : hb.get? 45 = none) {h₀ sh : Heap} {L a Lg : Addr} {oa oL : Obj} {m mm : Str → Option Value} {g : Nat} {env : Env} (F : Fr h₀ L s.heap m) (N : News h₀ L s.heap ((a, oa) :: (Lg, oL) :: fpOf sh (l.filterMap (·.frame))))
    (hg : IsGn g oa) (hf : IsFr mm oL) (hLL : L < Lg) (hLa : Lg < a) (hsub : ∀ b o, hb.get? b = some o → h₀.get? b = some o) (hLs : L = sh.objs.size) (hzb : hb.objs.size ≤ L) (hl : sh.FunFrames h₀ l) (h₀45 : h₀.get? 45 = some tb)
    {n : Int} {x : Str} {t₁ t₂ : Tok} {cls : String} (m1 : mm (Str.ofString "number") = some (.int n t₁)) (m2 : mm (Str.ofString "name") = some (.str x t₂)) (bad : Bad n x cls) (hx : 0 < x.length) (hx' : (x.length : Int) < 2 ^ 62)
    (hct : CTo tb) (hh : A.handled = none) (hd : A.depth + 120 < recursionLimit) (hu : A.units + 240 < cLine) (hfr : A.frames = some (env :: l)) (hfe : env.frame = some L) (hke : env.scope.kind ≠ .module) (hgs : s.gens[g]? = some (.fresh (.func tzBody (envTz Lg))))
    (ret : ∀ e a0 h' tk' B, h₀.StaysIn B → Heap.FlyingW B (env :: l) e (.type cls) a0 h' → Fr h₀ L h' m → (∀ b ∈ l.filterMap (·.frame), ∀ o, sh.get? b = some o → (∀ vs, o.data ≠ .fields vs) → ∃ sl, h'.get? b = some { o with slots := sl }) →
      E (.ref e) ⟨h', (s.gens.setIfInBounds g .running).setIfInBounds g .finished, s.drawn, tk', s.os⟩) :
    wpAny (model prog w) A (call (.builtin "next") [.ref a]) Q E s := by
  have ha := N _ (.head _)
  have hL := N _ (.tail _ (.head _))
  have hfrm : ∀ b ∈ l.filterMap (·.frame), ∀ o, sh.get? b = some o → s.heap.get? b = some o := fun b hb o e => (N (b, o) (.tail _ (.tail _ (mem_fpOf.mpr ⟨hb, e⟩)))).1
  have hlt : ∀ b ∈ l.filterMap (·.frame), b < L := fun b hb => by
    obtain ⟨o, e, _⟩ := (hl.mem hb).2
    rw [hLs]; exact Heap.lt_size e
  have hb₀ : ∀ b ∈ l.filterMap (·.frame), h₀.get? b = none := fun b hb => (hl.mem hb).1
  have hL0 : h₀.get? L = none := by
    cases q : h₀.get? L with
    | none => rfl
    | some o => exact absurd (Nat.lt_of_lt_of_le (Heap.lt_size q) F.above) (Nat.lt_irrefl _)
  obtain ⟨oF, hoF, nfF⟩ := frame_fields F.ns
  have hS : ∀ b o, b ≠ Lg → b ≠ L → b ∉ l.filterMap (·.frame) → s.heap.get? b = some o → (hideAll s.heap (Lg :: L :: l.filterMap (·.frame))).get? b = some o := fun b o n1 n2 n3 e => hideAll_get _ e fun q => by
    rcases List.mem_cons.mp q with q | q
    · exact n1 q
    rcases List.mem_cons.mp q with q | q
    · exact n2 q
    · exact n3 q
  have hB0 : h₀.StaysIn (hideAll s.heap (Lg :: L :: l.filterMap (·.frame))) := fun b o e => hS b o (fun q => by rw [q, hL.2.2] at e; cases e) (fun q => by rw [q, hL0] at e; cases e) (fun q => by rw [hb₀ b q] at e; cases e) (F.keep b o e)
  have hN : ∀ b ∈ Lg :: L :: l.filterMap (·.frame), (hideAll s.heap (Lg :: L :: l.filterMap (·.frame))).get? b = none := fun b hb => hideAll_none _ hb
  refine next_raises (B := hideAll s.heap (Lg :: L :: l.filterMap (·.frame))) (l := env :: l) G h45 (fun b o e => F.keep b o (hsub b o e)) (Nat.le_trans hzb (Nat.le_of_lt hLL)) (hf _ _ hL.1) m1 m2 bad hx hx' (F.keep _ _ h₀45) hct hh hd hu hfr (fun b o e => of_hideAll _ e) (hN Lg (.head _))
    ⟨hke, ⟨L, oF, hfe, hN L (.tail _ (.head _)), hoF, nfF⟩, funFrames_move hl (fun b hb => hN b (.tail _ (.tail _ hb))) hfrm⟩ ?_ (hg _ _ (hS a oa (Nat.ne_of_gt hLa) (Nat.ne_of_gt (Nat.lt_trans hLL hLa)) (fun q => Nat.lt_irrefl _ (Nat.lt_trans (hlt a q) (Nat.lt_trans hLL hLa))) ha.1)) hgs fun e a0 h' tk' y1 y2 => ?_
  · intro q
    rw [List.filterMap_cons, hfe] at q
    rcases List.mem_cons.mp q with q | q
    · exact absurd hLL (by rw [q]; exact Nat.lt_irrefl _)
    · exact Nat.lt_irrefl _ (Nat.lt_trans (hlt Lg q) hLL)
  · refine ret e a0 h' tk' _ hB0 y1 ⟨ns_upto F.ns fun o eo nf => y2 L o (Nat.ne_of_lt hLL) eo nf, fun b o e => y1.1 b o (hB0 b o e), F.above⟩ fun b hb o eo nf => y2 b o (fun q => Nat.lt_irrefl _ (Nat.lt_trans (hlt b hb) (q ▸ hLL))) (hfrm b hb o eo) nf
local macro_rules | `(tactic| walk_at "exec Try") => `(tactic| (k_dflt (refine wpAny_Try_except ?_)))
theorem refusal_nf (G : Gd w loose mean mg mb hb) (h45 : hb.get? 45 = none) (st : St hb s) {n : Int} {x : Str} {t₁ t₂ : Tok} {cls : String} (bad : Bad n x cls) (hx : 0 < x.length) (hx' : (x.length : Int) < 2 ^ 62)
    (hh : A.handled = none) (hd : A.depth + 200 < recursionLimit) (hu : A.units + 400 < cLine) (hfr : A.frames = some l) (hl : s.heap.FunFrames (hideAll s.heap (l.filterMap (·.frame))) l) (hbl : ∀ b ∈ l.filterMap (·.frame), hb.get? b = none)
    (ret : ∀ s' t, Calm l s s' → Q (.str (word cls) t) s') :
    wpAny (model prog w) A (call (.ref 94) [.int n t₁, .str x t₂]) Q E s := by
  obtain ⟨hkb, hzb, tb, htb, hct⟩ := st
  obtain ⟨hd', dp, fr, gd, un⟩ := A
  subst hh
  have hfl : ∀ b ∈ l.filterMap (·.frame), ∃ o, s.heap.get? b = some o ∧ ∀ vs, o.data ≠ .fields vs := fun b hb => (hl.mem hb).2
  have hsub : ∀ b o, hb.get? b = some o → (hideAll s.heap (l.filterMap (·.frame))).get? b = some o := fun b o e => hideAll_get _ (hkb b o e) (fun q => by
    rw [hbl b q] at e; cases e)
  have G₀ := Gd.keeps G hsub
  obtain ⟨X, T⟩ := id G₀
  have hk : ∀ b o, (hideAll s.heap (l.filterMap (·.frame))).get? b = some o → s.heap.get? b = some o := fun b o e => of_hideAll _ e
  have hsz : (hideAll s.heap (l.filterMap (·.frame))).objs.size ≤ s.heap.objs.size := Nat.le_of_eq (hideAll_size _ _)
  have hlim := T.nolimit
  have hhid : ∀ b ∈ l.filterMap (·.frame), (hideAll s.heap (l.filterMap (·.frame))).get? b = none := fun b hb => hideAll_none _ hb
  have hn : ∀ p ∈ fpOf s.heap (l.filterMap (·.frame)), s.heap.get? p.1 = some p.2 ∧ (hideAll s.heap (l.filterMap (·.frame))).get? p.1 = none := fun p hp => by
    obtain ⟨b, o⟩ := p
    obtain ⟨z1, z2⟩ := mem_fpOf.mp hp
    exact ⟨z2, hhid b z1⟩
  have hoff : ∀ b o, b ∉ l.filterMap (·.frame) → s.heap.get? b = some o → (hideAll s.heap (l.filterMap (·.frame))).get? b = some o := fun b o n1 e => hideAll_get _ e n1
  generalize hideAll s.heap (l.filterMap (·.frame)) = h₀ at *
  refine wpAny_call ?_
  k_dflt (refine' enter_nf [(Str.ofString "number", .int n t₁), (Str.ofString "word", .str x t₂)] ?k1 ?k2 ?k3 ?k4 ?k5 ?k6 ?k7 ?k8 ?k9 ?kB ?_ ?c2 ?c3 ?c4 ?c5; walk_at "nf enter")
  intro h' F' N' hall'
  try dsimp only
  clear hall'
  have l45 : 45 ∉ l.filterMap (·.frame) := fun q => by
    obtain ⟨o, eo, nf⟩ := hfl 45 q
    obtain ⟨ps, e, _⟩ := hct
    rw [htb] at eo
    cases eo
    exact nf _ (by rw [e])
  k_steps
  rename Fr _ _ _ _ => F2
  rename News _ _ _ _ => N2
  rename IsGn _ _ => g2
  rename IsFr _ _ => f2

  refine' refusal_next (sh := s.heap) (l := l) (tb := tb) (x := x) (n := n) (cls := cls) G h45 F2 N2 g2 f2 (by assumption) (by assumption) hsub rfl hzb hl (hoff 45 tb l45 htb) rfl rfl bad hx hx' hct rfl ?d ?u (Around.frames_deeper hfr) rfl (fun q => by cases q) ?gs ?_
  case d => walk_at "nf room"
  case u => walk_at "nf room"
  case gs => simp
  intro e a0 h3 tk3 B hB0 y1 F3 up3
  refine wpAny_looks_onW (Around.frames_deeper hfr) rfl y1 fun h4 held4 sm4 => ?_
  refine wpAny_landsW held4 fun h5 fl5 sm5 => ?_
  have F5 := F3.of_stays (fun b o q => fl5.1 b o (hB0 b o q)) (sm4.trans sm5)
  have N5 : News h₀ s.heap.objs.size h5 [] := News.nil
  obtain ⟨oy, ey, ecy⟩ : ∃ ob, h5.get? e = some ob ∧ ob.cls = .type cls := by
    obtain ⟨_, _, _, oe, vs, T, oT, ts, q1, q2, _⟩ := fl5
    exact ⟨oe, q1, q2.1⟩
  clear F2 N2 F3
  rcases bad.cls with rfl | rfl
  · refine wpAny_handleBy_builtin (X := "ValueError") (T := "ValueError") (b := true) exc_VE nt_VE sub_VV ?_
    k_steps
    · exact ⟨oy, ey, ecy⟩
    refine PyProof.Rows.lands_againW fl5 fun h6 fl6 sm6 => ?_
    have F6 := F5.of_stays (fun b o q => fl6.1 b o (hB0 b o q)) sm6
    have N6 : News h₀ s.heap.objs.size h6 [] := News.nil
    clear F5 N5
    k_steps
    refine ret _ _ (calm_of hfl hoff F6 (fun b hb o eo nf => ?_) rfl rfl)
    obtain ⟨sl, e3⟩ := up3 b hb o eo nf
    obtain ⟨sl', e6⟩ := (sm4.trans (sm5.trans sm6)) b _ e3 nf
    exact ⟨sl', e6⟩
  · refine wpAny_handleBy_builtin (X := "IndexError") (T := "ValueError") (b := false) exc_VE nt_VE sub_IV ?_
    k_steps
    · exact ⟨oy, ey, ecy⟩
    refine wpAny_handleBy_builtin (X := "IndexError") (T := "IndexError") (b := true) exc_IE nt_IE sub_II ?_
    k_steps
    · exact ⟨oy, ey, ecy⟩
    refine PyProof.Rows.lands_againW fl5 fun h6 fl6 sm6 => ?_
    have F6 := F5.of_stays (fun b o q => fl6.1 b o (hB0 b o q)) sm6
    have N6 : News h₀ s.heap.objs.size h6 [] := News.nil
    clear F5 N5
    k_steps
    refine ret _ _ (calm_of hfl hoff F6 (fun b hb o eo nf => ?_) rfl rfl)
    obtain ⟨sl, e3⟩ := up3 b hb o eo nf
    obtain ⟨sl', e6⟩ := (sm4.trans (sm5.trans sm6)) b _ e3 nf
    exact ⟨sl', e6⟩
end

section
variable {w : World} {loose : List Str} {mean : ExcName → Option Value} {mg mb : Str → Option Value} {A : Around} {s : Shared} {hb : Heap} {tb : Obj} {l : List Env} {Q E : Value → Shared → Prop}
theorem refusal_K (G : Gd w loose mean mg mb hb) (h45 : hb.get? 45 = none) {h₀ sh : Heap} {L : Addr} {m : Str → Option Value} {news : List (Addr × Obj)} {env : Env} (F : Fr h₀ L s.heap m) (N : News h₀ L s.heap news) (hN : ∀ p ∈ fpOf sh (l.filterMap (·.frame)), p ∈ news)
    (hsub : ∀ b o, hb.get? b = some o → h₀.get? b = some o) (hLs : L = sh.objs.size) (hzb : hb.objs.size ≤ L) (hl : sh.FunFrames h₀ l) (h₀45 : h₀.get? 45 = some tb) (hct : CTo tb)
    {n : Int} {x : Str} {t₁ t₂ : Tok} {cls : String} (bad : Bad n x cls) (hx : 0 < x.length) (hx' : (x.length : Int) < 2 ^ 62)
    (hh : A.handled = none) (hd : A.depth + 200 < recursionLimit) (hu : A.units + 400 < cLine) (hfr : A.frames = some (env :: l)) (hfe : env.frame = some L) (hke : env.scope.kind ≠ .module)
    (ret : ∀ h' G' d' tk' t, Fr h₀ L h' m → News h₀ L h' (fpOf h' (l.filterMap (·.frame))) → (∀ b ∈ l.filterMap (·.frame), ∀ o, sh.get? b = some o → (∀ vs, o.data ≠ .fields vs) → ∃ sl, h'.get? b = some { o with slots := sl }) → GExt s.gens G' →
      Q (.str (word cls) t) ⟨h', G', d', tk', s.os⟩) :
    wpAny (model prog w) A (call (.ref 94) [.int n t₁, .str x t₂]) Q E s := by
  have hfrm : ∀ b ∈ l.filterMap (·.frame), ∀ o, sh.get? b = some o → s.heap.get? b = some o := fun b hb o e => (N (b, o) (hN _ (mem_fpOf.mpr ⟨hb, e⟩))).1
  have hlt : ∀ b ∈ l.filterMap (·.frame), b < L := fun b hb => by
    obtain ⟨o, e, _⟩ := (hl.mem hb).2
    rw [hLs]; exact Heap.lt_size e
  have hb₀ : ∀ b ∈ l.filterMap (·.frame), h₀.get? b = none := fun b hb => (hl.mem hb).1
  have hL0 : h₀.get? L = none := by
    cases q : h₀.get? L with
    | none => rfl
    | some o => exact absurd (Nat.lt_of_lt_of_le (Heap.lt_size q) F.above) (Nat.lt_irrefl _)
  obtain ⟨oF, hoF, nfF⟩ := frame_fields F.ns
  have hfm : (env :: l).filterMap (·.frame) = L :: l.filterMap (·.frame) := by rw [List.filterMap_cons, hfe]
  have none_hb : ∀ b, h₀.get? b = none → hb.get? b = none := fun b e => by
    cases q : hb.get? b with
    | none => rfl
    | some o => rw [hsub _ _ q] at e; cases e
  have mem0 : ∀ b, b ∈ L :: l.filterMap (·.frame) → h₀.get? b = none := fun b hb => by
    rcases List.mem_cons.mp hb with rfl | hb
    · exact hL0
    · exact hb₀ b hb
  refine refusal_nf (l := env :: l) G h45 ⟨fun b o e => F.keep b o (hsub b o e), Nat.le_trans hzb (Nat.le_of_lt F.ns.lt), tb, F.keep _ _ h₀45, hct⟩ bad hx hx' hh hd hu hfr ?_ (fun b hb => none_hb b (mem0 b (hfm ▸ hb))) fun s' t c => ?_
  · rw [hfm]
    exact ⟨hke, ⟨L, oF, hfe, hideAll_none _ (.head _), hoF, nfF⟩, funFrames_move hl (fun b hb => hideAll_none _ (.tail _ hb)) hfrm⟩
  · obtain ⟨h', G', d', tk', os'⟩ := s'
    obtain ⟨c1, c2, c3, c4, c5⟩ := c
    have e4 : os' = s.os := c4
    subst e4
    have k0 : ∀ b o, h₀.get? b = some o → h'.get? b = some o := fun b o e => c1 b o (fun q => by rw [mem0 b (hfm ▸ q)] at e; cases e) (F.keep b o e)
    refine ret h' G' d' tk' t ⟨ns_upto F.ns fun o eo nf => c2 L o eo nf, k0, F.above⟩ (fun p hp => ?_) (fun b hb o eo nf => c2 b o (hfrm b hb o eo) nf) c3
    obtain ⟨b, o⟩ := p
    obtain ⟨z1, z2⟩ := mem_fpOf.mp hp
    exact ⟨z2, Nat.ne_of_lt (hlt b z1), hb₀ b z1⟩
theorem calm_fin {h₀ : Heap} {s' : Shared} {m : Str → Option Value} (hfl : ∀ b ∈ l.filterMap (·.frame), ∃ o, s.heap.get? b = some o ∧ ∀ vs, o.data ≠ .fields vs) (hoff : ∀ b o, b ∉ l.filterMap (·.frame) → s.heap.get? b = some o → h₀.get? b = some o)
    (F : Fr h₀ s.heap.objs.size s'.heap m) (up : ∀ b ∈ l.filterMap (·.frame), ∀ o, s.heap.get? b = some o → (∀ vs, o.data ≠ .fields vs) → ∃ sl, s'.heap.get? b = some { o with slots := sl }) (hg : GExt s.gens s'.gens) (ho : s'.os = s.os) : Calm l s s' := by
  refine ⟨fun b o n e => F.keep b o (hoff b o n e), fun b o e nf => ?_, hg, ho, Nat.le_of_lt F.ns.lt⟩
  by_cases hb : b ∈ l.filterMap (·.frame)
  · exact up b hb o e nf
  · exact ⟨o.slots, F.keep b o (hoff b o hb e)⟩
theorem refused_nf (G : Gd w loose mean mg mb hb) (h45 : hb.get? 45 = none) (st : St hb s) {n : Int} {t₁ : Tok} (hn0 : 0 ≤ n)
    (hh : A.handled = none) (hd : A.depth + 300 < recursionLimit) (hu : A.units + 600 < cLine) (hfr : A.frames = some l) (hl : s.heap.FunFrames (hideAll s.heap (l.filterMap (·.frame))) l) (hbl : ∀ b ∈ l.filterMap (·.frame), hb.get? b = none)
    (ret : ∀ s', Calm l s s' → Q (.bool true) s') :
    wpAny (model prog w) A (call (.ref 101) [.int n t₁]) Q E s := by
  obtain ⟨hkb, hzb, tb, htb, hct⟩ := st
  obtain ⟨hd', dp, fr, gd, un⟩ := A
  subst hh
  have hfl : ∀ b ∈ l.filterMap (·.frame), ∃ o, s.heap.get? b = some o ∧ ∀ vs, o.data ≠ .fields vs := fun b hb => (hl.mem hb).2
  have hsub : ∀ b o, hb.get? b = some o → (hideAll s.heap (l.filterMap (·.frame))).get? b = some o := fun b o e => hideAll_get _ (hkb b o e) (fun q => by
    rw [hbl b q] at e; cases e)
  have G₀ := Gd.keeps G hsub
  obtain ⟨X, T⟩ := id G₀
  have hk : ∀ b o, (hideAll s.heap (l.filterMap (·.frame))).get? b = some o → s.heap.get? b = some o := fun b o e => of_hideAll _ e
  have hsz : (hideAll s.heap (l.filterMap (·.frame))).objs.size ≤ s.heap.objs.size := Nat.le_of_eq (hideAll_size _ _)
  have hlim := T.nolimit
  have hhid : ∀ b ∈ l.filterMap (·.frame), (hideAll s.heap (l.filterMap (·.frame))).get? b = none := fun b hb => hideAll_none _ hb
  have hn : ∀ p ∈ fpOf s.heap (l.filterMap (·.frame)), s.heap.get? p.1 = some p.2 ∧ (hideAll s.heap (l.filterMap (·.frame))).get? p.1 = none := fun p hp => by
    obtain ⟨b, o⟩ := p
    obtain ⟨z1, z2⟩ := mem_fpOf.mp hp
    exact ⟨z2, hhid b z1⟩
  have hoff : ∀ b o, b ∉ l.filterMap (·.frame) → s.heap.get? b = some o → (hideAll s.heap (l.filterMap (·.frame))).get? b = some o := fun b o n1 e => hideAll_get _ e n1
  have l45 : 45 ∉ l.filterMap (·.frame) := fun q => by
    obtain ⟨o, eo, nf⟩ := hfl 45 q
    obtain ⟨ps, e, _⟩ := hct
    rw [htb] at eo
    cases eo
    exact nf _ (by rw [e])
  generalize hideAll s.heap (l.filterMap (·.frame)) = h₀ at *
  refine wpAny_call ?_
  k_dflt (refine' enter_nf [(Str.ofString "rest", .int n t₁)] ?k1 ?k2 ?k3 ?k4 ?k5 ?k6 ?k7 ?k8 ?k9 ?kB ?_ ?c2 ?c3 ?c4 ?c5; walk_at "nf enter")
  intro h' F' N' hall'
  try dsimp only
  clear hall'
  -- ENDINGS
  k_steps
  · rename Fr _ _ _ _ => F2
    rename News _ _ _ _ => N2
    refine' refusal_K (sh := s.heap) (l := l) (tb := tb) (cls := "ValueError") G h45 F2 N2 ?mem hsub rfl hzb hl (hoff 45 tb l45 htb) hct (.high _ _ (by (try k_fmods); omega)) (name_len _ (by (try k_fmods); omega)).1 (name_len _ (by (try k_fmods); omega)).2 rfl ?d ?u (Around.frames_deeper hfr) rfl (fun q => by cases q) ?_
    case mem => exact fun p hp => by first | exact hp | exact .tail _ hp
    case d => walk_at "nf room"
    case u => walk_at "nf room"
    intro h3 G3 d3 tk3 t3 F3 N3 u3 x3
    clear F2 N2
    k_steps
    rename Fr _ _ _ _ => F4
    rename News _ _ _ _ => N4
    exact ret _ (calm_fin hfl hoff F4 (fun b hb o eo nf => by
      obtain ⟨sl, e3⟩ := u3 b hb o eo nf
      exact ⟨sl, (N4 _ (mem_fpOf.mpr ⟨hb, e3⟩)).1⟩) x3 rfl)
  · rcases (by (try k_fmods); omega : n.fmod 4 = 0 ∨ n.fmod 4 = 1 ∨ n.fmod 4 = 2 ∨ n.fmod 4 = 3) with e4 | e4 | e4 | e4
    · rw [e4]
      k_steps
      rename Fr _ _ _ _ => F2
      rename News _ _ _ _ => N2
      refine' refusal_K (sh := s.heap) (l := l) (tb := tb) (cls := "ValueError") G h45 F2 N2 ?mem hsub rfl hzb hl (hoff 45 tb l45 htb) hct (.word _ _ (by (try k_fmods); omega) (by (try k_fmods); omega) (.inl rfl)) (by decide +kernel) (by decide +kernel) rfl ?d ?u (Around.frames_deeper hfr) rfl (fun q => by cases q) ?_
      case mem => exact fun p hp => by first | exact hp | exact .tail _ hp
      case d => walk_at "nf room"
      case u => walk_at "nf room"
      intro h3 G3 d3 tk3 t3 F3 N3 u3 x3
      clear F2 N2
      k_steps
      rename Fr _ _ _ _ => F4
      rename News _ _ _ _ => N4
      exact ret _ (calm_fin hfl hoff F4 (fun b hb o eo nf => by
        obtain ⟨sl, e3⟩ := u3 b hb o eo nf
        exact ⟨sl, (N4 _ (mem_fpOf.mpr ⟨hb, e3⟩)).1⟩) x3 rfl)
    · rw [e4]
      k_steps
      rename Fr _ _ _ _ => F2
      rename News _ _ _ _ => N2
      refine' refusal_K (sh := s.heap) (l := l) (tb := tb) (cls := "ValueError") G h45 F2 N2 ?mem hsub rfl hzb hl (hoff 45 tb l45 htb) hct (.word _ _ (by (try k_fmods); omega) (by (try k_fmods); omega) (.inr (.inl rfl))) (by decide +kernel) (by decide +kernel) rfl ?d ?u (Around.frames_deeper hfr) rfl (fun q => by cases q) ?_
      case mem => exact fun p hp => by first | exact hp | exact .tail _ hp
      case d => walk_at "nf room"
      case u => walk_at "nf room"
      intro h3 G3 d3 tk3 t3 F3 N3 u3 x3
      clear F2 N2
      k_steps
      rename Fr _ _ _ _ => F4
      rename News _ _ _ _ => N4
      exact ret _ (calm_fin hfl hoff F4 (fun b hb o eo nf => by
        obtain ⟨sl, e3⟩ := u3 b hb o eo nf
        exact ⟨sl, (N4 _ (mem_fpOf.mpr ⟨hb, e3⟩)).1⟩) x3 rfl)
    · rw [e4]
      k_steps
      rename Fr _ _ _ _ => F2
      rename News _ _ _ _ => N2
      refine' refusal_K (sh := s.heap) (l := l) (tb := tb) (cls := "ValueError") G h45 F2 N2 ?mem hsub rfl hzb hl (hoff 45 tb l45 htb) hct (.word _ _ (by (try k_fmods); omega) (by (try k_fmods); omega) (.inr (.inr (.inl rfl)))) (by decide +kernel) (by decide +kernel) rfl ?d ?u (Around.frames_deeper hfr) rfl (fun q => by cases q) ?_
      case mem => exact fun p hp => by first | exact hp | exact .tail _ hp
      case d => walk_at "nf room"
      case u => walk_at "nf room"
      intro h3 G3 d3 tk3 t3 F3 N3 u3 x3
      clear F2 N2
      k_steps
      rename Fr _ _ _ _ => F4
      rename News _ _ _ _ => N4
      exact ret _ (calm_fin hfl hoff F4 (fun b hb o eo nf => by
        obtain ⟨sl, e3⟩ := u3 b hb o eo nf
        exact ⟨sl, (N4 _ (mem_fpOf.mpr ⟨hb, e3⟩)).1⟩) x3 rfl)
    · rw [e4]
      k_steps
      rename Fr _ _ _ _ => F2
      rename News _ _ _ _ => N2
      refine' refusal_K (sh := s.heap) (l := l) (tb := tb) (cls := "ValueError") G h45 F2 N2 ?mem hsub rfl hzb hl (hoff 45 tb l45 htb) hct (.word _ _ (by (try k_fmods); omega) (by (try k_fmods); omega) (.inr (.inr (.inr rfl)))) (by decide +kernel) (by decide +kernel) rfl ?d ?u (Around.frames_deeper hfr) rfl (fun q => by cases q) ?_
      case mem => exact fun p hp => by first | exact hp | exact .tail _ hp
      case d => walk_at "nf room"
      case u => walk_at "nf room"
      intro h3 G3 d3 tk3 t3 F3 N3 u3 x3
      clear F2 N2
      k_steps
      rename Fr _ _ _ _ => F4
      rename News _ _ _ _ => N4
      exact ret _ (calm_fin hfl hoff F4 (fun b hb o eo nf => by
        obtain ⟨sl, e3⟩ := u3 b hb o eo nf
        exact ⟨sl, (N4 _ (mem_fpOf.mpr ⟨hb, e3⟩)).1⟩) x3 rfl)
  · rename Fr _ _ _ _ => F2
    rename News _ _ _ _ => N2
    refine' refusal_K (sh := s.heap) (l := l) (tb := tb) (cls := "IndexError") G h45 F2 N2 ?mem hsub rfl hzb hl (hoff 45 tb l45 htb) hct (.low _ _ (by (try k_fmods); omega) (by (try k_fmods); omega)) (name_len _ (by (try k_fmods); omega)).1 (name_len _ (by (try k_fmods); omega)).2 rfl ?d ?u (Around.frames_deeper hfr) rfl (fun q => by cases q) ?_
    case mem => exact fun p hp => by first | exact hp | exact .tail _ hp
    case d => walk_at "nf room"
    case u => walk_at "nf room"
    intro h3 G3 d3 tk3 t3 F3 N3 u3 x3
    clear F2 N2
    k_steps
    rename Fr _ _ _ _ => F4
    rename News _ _ _ _ => N4
    exact ret _ (calm_fin hfl hoff F4 (fun b hb o eo nf => by
      obtain ⟨sl, e3⟩ := u3 b hb o eo nf
      exact ⟨sl, (N4 _ (mem_fpOf.mpr ⟨hb, e3⟩)).1⟩) x3 rfl)
end

theorem ns_hide {h : Heap} {a : Addr} {m : Str → Option Value} (x : h.Ns a m) (n : a ≠ 45) : (hideAll h [45]).Ns a m := by
  obtain ⟨o, es, ep, e, r⟩ := x
  exact ⟨o, es, ep, hideAll_get _ e (by simpa using n), r⟩
def loose0 (p : Program) (loose : List Str) : List Str := loose ++ (recsOf p).map (·.name) ++ (litsOf p).map (·.1) ++ (clssOf p loose).map (·.name)
theorem top_hide {p : Program} {loose : List Str} {mean : ExcName → Option Value} {mg mb : Str → Option Value} {h : Heap} {tb : Obj} (T : Top p loose mean mg mb h) (hs : importsNone p = true) (e45 : h.get? 45 = some tb) (ct : CTo tb) : Top p0 (loose0 p loose) mean mg mb (hideAll h [45]) where
  g := ns_hide T.g (by decide)
  b := ns_hide T.b (by decide)
  nolimit := let ⟨mc, h1, h2⟩ := T.nolimit; ⟨mc, ns_hide h1 (by decide), h2⟩
  nodigits := let ⟨mc, h1, h2⟩ := T.nodigits; ⟨mc, ns_hide h1 (by decide), h2⟩
  fn := fun d hd => nomatch (show d ∈ [] from hd)
  own := fun o ho => nomatch (show o ∈ [] from ho)
  const := fun x d e => by cases e
  free := fun x h1 h2 _ _ _ => by
    unfold loose0 at h2
    simp only [List.mem_append, not_or] at h2
    exact T.free x h1 h2.1.1.1 h2.1.1.2 h2.1.2 h2.2
  builtins := T.builtins
  tab := fun d hd => nomatch (show d ∈ [] from hd)
  bmain := let ⟨bm, ob, h1, h2, h3, h4, r⟩ := T.bmain
    ⟨bm, ob, h1, h2, hideAll_get _ h3 (fun q => by
      rw [List.mem_singleton.mp q, e45] at h3
      cases h3
      obtain ⟨ps, e, _⟩ := ct
      rw [e] at h4
      cases h4), h4, r⟩
  seer := fun _ => let x := T.seer hs
    ⟨let ⟨mc, a, b⟩ := x.statics; ⟨mc, ns_hide a (by decide), b⟩, let ⟨mc, a, b⟩ := x.mods; ⟨mc, ns_hide a (by decide), b⟩, let ⟨mc, a, b⟩ := x.imp; ⟨mc, ns_hide a (by decide), b⟩,
      let ⟨mg, bm, ob, a, b, c, d, e⟩ := x.main; ⟨mg, bm, ob, ns_hide a (by decide), b, hideAll_get _ c (fun q => by
        rw [List.mem_singleton.mp q, e45] at c
        cases c
        obtain ⟨ps, e', _⟩ := ct
        rw [e'] at d
        cases d), d, e⟩⟩
theorem tab45 {h : Heap} {w : World} {loose : List Str} {mean : ExcName → Option Value} {mg mb : Str → Option Value} (KX : (hd.heap_39 w.params).In h) (T : Top hd.view_39 loose mean mg mb h) : h.get? 45 = some { cls := .none, data := .fields #[] } := by
  have hm : (recsOf hd.view_39).any (·.name == Str.ofString "_tzolkin_count") = true := by kernel_rfl
  obtain ⟨d, hd1, hd2⟩ := List.any_eq_true.mp hm
  have hn : d.name = Str.ofString "_tzolkin_count" := eq_of_beq hd2
  obtain ⟨a, o, fd, c, P, h1, h2, h3, h4, h5, h6⟩ := T.tab d hd1
  have hmg : mg (Str.ofString "_tzolkin_count") = some (.ref 50) := mg_of KX T.g (by with_unfolding_all rfl)
  rw [hn, hmg] at h1
  cases h1
  obtain ⟨o', e1, fd', e2, e3⟩ : ∃ o', h.get? 50 = some o' ∧ ∃ fd', o'.data = .func fd' ∧ fd'.code = .ref 49 := ⟨_, KX 50 _ (by k_is), _, rfl, rfl⟩
  rw [h2] at e1
  cases e1
  rw [h3] at e2
  cases e2
  rw [h4] at e3
  cases e3
  obtain ⟨⟨oc, vs, c1, c2, c3, c4⟩, c5⟩ := h6
  obtain ⟨oc', vs', _, _, _, _, _, _, _, d1, d2, _, _, _, _, _, _, d3⟩ := code49 KX
  rw [c1] at d1
  cases d1
  rw [c3] at d2
  cases d2
  rw [c4] at d3
  cases d3
  exact c5
theorem cto_nil : CTo { cls := .none, data := .fields #[] } := ⟨#[], rfl, by trivial⟩
theorem gd_hide {h : Heap} {w : World} {loose : List Str} {mean : ExcName → Option Value} {mg mb : Str → Option Value} (KX : (hd.heap_39 w.params).In h) (T : Top hd.view_39 loose mean mg mb h) : Gd w (loose0 hd.view_39 loose) mean mg mb (hideAll h [45]) := by
  refine ⟨fun b o e => hideAll_get _ (KX b o e) (fun q => ?_), top_hide T (by kernel_rfl) (tab45 KX T) cto_nil⟩
  rw [List.mem_singleton.mp q] at e
  have hno : (hd.heap_39 w.params).lookup 45 = none := by kernel_rfl
  rw [hno] at e
  cases e

structure SlotD where
  S : Addr
  g : Nat
  fp : List Addr
def SlotD.all (x : SlotD) : List Addr := x.S :: x.fp
def adrs (xs : List SlotD) : List Addr := 45 :: xs.flatMap SlotD.all
def Apart (x y : SlotD) : Prop := x.g ≠ y.g ∧ ∀ b ∈ x.all, b ∉ y.all
structure Core (w : World) (hb : Heap) (L : Addr) (xs : List SlotD) (s : Shared) : Prop where
  st : St hb s
  at' : ∀ x ∈ xs, SlotAt w hb x.S x.g x.fp s
  pw : xs.Pairwise Apart
  gl : ∀ x ∈ xs, x.g < s.gens.size
  b : AllBare s.gens
  offL : ∀ x ∈ xs, L ∉ x.all
structure Own (w : World) (hb : Heap) (L : Addr) (xs : List SlotD) (G : Array GenState) (own : List (Addr × Obj)) : Prop where
  i : ∀ s : Shared, (∀ p ∈ own, s.heap.get? p.1 = some p.2) → (∀ b o, hb.get? b = some o → s.heap.get? b = some o) → hb.objs.size ≤ s.heap.objs.size → s.gens = G → Core w hb L xs s
  a : ∀ p ∈ own, p.1 ∈ adrs xs
  c : ∀ b ∈ adrs xs, ∃ o, (b, o) ∈ own
def OffP (xs : List SlotD) (pre : List (Addr × Obj)) : Prop := ∀ p ∈ pre, p.1 ∉ adrs xs

theorem mem_adrs {xs : List SlotD} {b : Addr} : b ∈ adrs xs ↔ b = 45 ∨ ∃ x ∈ xs, b ∈ x.all := by
  unfold adrs
  rw [List.mem_cons, List.mem_flatMap]
theorem SlotAt.live {w : World} {hb : Heap} {S : Addr} {g : Nat} {fp : List Addr} {s : Shared} (x : SlotAt w hb S g fp s) : ∀ b ∈ S :: fp, (∃ o, s.heap.get? b = some o) ∧ hb.get? b = none := by
  obtain ⟨a, num, place, start, t₁, t₂, t₃, k, c, wr, gs, hS, ok, W, hgs, Sf, hbn⟩ := x
  intro b hb'
  refine ⟨?_, hbn b hb'⟩
  rcases List.mem_cons.mp hb' with rfl | hb'
  · exact ⟨_, hS⟩
  · exact W.lt b hb'
theorem pw_ne {xs : List SlotD} (h : xs.Pairwise Apart) {x y : SlotD} (hx : x ∈ xs) (hy : y ∈ xs) (n : x ≠ y) : x.g ≠ y.g ∧ ∀ b ∈ x.all, b ∉ y.all := by
  induction xs with
  | nil => cases hx
  | cons z zs ih =>
    obtain ⟨h1, h2⟩ := List.pairwise_cons.mp h
    rcases List.mem_cons.mp hx with e1 | hx'
    · rcases List.mem_cons.mp hy with e2 | hy'
      · exact absurd (e1.trans e2.symm) n
      · rw [e1]; exact h1 y hy'
    · rcases List.mem_cons.mp hy with e2 | hy'
      · have z := h1 x hx'
        rw [e2]
        exact ⟨z.1.symm, fun b hb hb' => z.2 b hb' hb⟩
      · exact ih h2 hx' hy'

section
variable {w : World} {hb : Heap} {L : Addr} {xs : List SlotD} {s s' : Shared} {m : Str → Option Value} {pre own : List (Addr × Obj)} {G : Array GenState}
theorem Core.live (c : Core w hb L xs s) {b : Addr} (h : b ∈ adrs xs) (h45 : hb.get? 45 = none) : (∃ o, s.heap.get? b = some o) ∧ hb.get? b = none := by
  rcases mem_adrs.mp h with rfl | ⟨x, hx, hb'⟩
  · obtain ⟨tb, e, _⟩ := c.st.t
    exact ⟨⟨tb, e⟩, h45⟩
  · exact (c.at' x hx).live b hb'
theorem Core.move (c : Core w hb L xs s) (hk : ∀ b ∈ adrs xs, ∀ o, s.heap.get? b = some o → s'.heap.get? b = some o) (hs : ∀ b o, hb.get? b = some o → s'.heap.get? b = some o) (hz : hb.objs.size ≤ s'.heap.objs.size) (hg : ∀ k, k < s.gens.size → s'.gens[k]? = s.gens[k]?) (hn : s.gens.size ≤ s'.gens.size) (hbr : AllBare s'.gens) : Core w hb L xs s' := by
  refine ⟨⟨hs, hz, ?_⟩, fun x hx => (c.at' x hx).ext (fun b hb o e => hk b (mem_adrs.mpr (.inr ⟨x, hx, hb⟩)) o e) (fun y e => by rw [hg _ (c.gl x hx)]; exact e), c.pw, fun x hx => Nat.lt_of_lt_of_le (c.gl x hx) hn, hbr, c.offL⟩
  obtain ⟨tb, e, ct⟩ := c.st.t
  exact ⟨tb, hk 45 (.head _) tb e, ct⟩
theorem own_mk (c : Core w hb L xs s) (h45 : hb.get? 45 = none) : Own w hb L xs s.gens (fpOf s.heap (adrs xs)) := by
  refine ⟨fun s' h1 h2 h3 h4 => c.move (fun b hb o e => h1 _ (mem_fpOf.mpr ⟨hb, e⟩)) h2 h3 (fun k _ => by rw [h4]) (by rw [h4]; exact Nat.le_refl _) (by rw [h4]; exact c.b), fun p hp => ?_, fun b hb => ?_⟩
  · obtain ⟨b, o⟩ := p
    exact (mem_fpOf.mp hp).1
  · obtain ⟨⟨o, e⟩, _⟩ := c.live hb h45
    exact ⟨o, mem_fpOf.mpr ⟨hb, e⟩⟩
theorem news_mk (c : Core w hb L xs s) (h45 : hb.get? 45 = none) (F : Fr hb L s.heap m) (hp : ∀ p ∈ pre, s.heap.get? p.1 = some p.2 ∧ p.1 ≠ L ∧ hb.get? p.1 = none) : News hb L s.heap (pre ++ fpOf s.heap (adrs xs)) := fun p hp' => by
  rcases List.mem_append.mp hp' with h | h
  · exact hp p h
  · obtain ⟨b, o⟩ := p
    obtain ⟨z1, z2⟩ := mem_fpOf.mp h
    refine ⟨z2, fun q => ?_, (c.live z1 h45).2⟩
    have q' : b = L := q
    rcases mem_adrs.mp z1 with rfl | ⟨x, hx, hb'⟩
    · obtain ⟨tb, e, ps, e', _⟩ := c.st.t
      obtain ⟨oL, es, ep, eL, eD, _⟩ := F.ns
      rw [← q', e] at eL
      cases eL
      rw [e'] at eD
      cases eD
    · exact c.offL x hx (q' ▸ hb')
theorem Own.core (O : Own w hb L xs s.gens own) (F : Fr hb L s.heap m) (N : News hb L s.heap (pre ++ own)) : Core w hb L xs s :=
  O.i s (fun p hp => (N p (List.mem_append_right _ hp)).1) F.keep (Nat.le_of_lt (Nat.lt_of_le_of_lt F.above F.ns.lt)) rfl
end

theorem Apart.symm {x y : SlotD} (h : Apart x y) : Apart y x := ⟨h.1.symm, fun b hb hb' => h.2 b hb' hb⟩
theorem pw_at {xs : List SlotD} (h : xs.Pairwise Apart) {i j : Nat} {a b : SlotD} (n : i ≠ j) (hi : xs[i]? = some a) (hj : xs[j]? = some b) : Apart a b := by
  obtain ⟨li, ei⟩ := List.getElem?_eq_some_iff.mp hi
  obtain ⟨lj, ej⟩ := List.getElem?_eq_some_iff.mp hj
  rw [List.pairwise_iff_getElem] at h
  rcases Nat.lt_or_gt_of_ne n with q | q
  · rw [← ei, ← ej]; exact h i j li lj q
  · rw [← ei, ← ej]; exact (h j i lj li q).symm
theorem mem_set' {xs : List SlotD} {j : Nat} {v y : SlotD} (h : y ∈ xs.set j v) : y = v ∨ ∃ i, i ≠ j ∧ xs[i]? = some y := by
  obtain ⟨i, hi, e⟩ := List.mem_iff_getElem.mp h
  rw [List.getElem_set] at e
  split at e
  · exact .inl e.symm
  · rename_i n
    exact .inr ⟨i, fun q => n q.symm, by rw [← e]; exact List.getElem?_eq_getElem _⟩
theorem pw_set {xs : List SlotD} (h : xs.Pairwise Apart) {j : Nat} {v : SlotD} (hv : ∀ i, i ≠ j → ∀ a, xs[i]? = some a → Apart a v) : (xs.set j v).Pairwise Apart := by
  rw [List.pairwise_iff_getElem]
  intro i k hi hk hik
  rw [List.length_set] at hi hk
  rw [List.getElem_set, List.getElem_set]
  by_cases q1 : j = i
  · rw [if_pos q1, if_neg (by omega)]
    exact (hv k (by omega) _ (List.getElem?_eq_getElem hk)).symm
  · rw [if_neg q1]
    by_cases q2 : j = k
    · rw [if_pos q2]
      exact hv i (by omega) _ (List.getElem?_eq_getElem hi)
    · rw [if_neg q2]
      exact pw_at h (by omega) (List.getElem?_eq_getElem hi) (List.getElem?_eq_getElem hk)
theorem AllBareG {G G' : Array GenState} (h : GExt G G') (b : AllBare G) : AllBare G' := h.2.2 b
section
variable {w : World} {loose : List Str} {mean : ExcName → Option Value} {mg mb : Str → Option Value} {A : Around} {hb : Heap} {L : Addr} {xs : List SlotD} {s : Shared} {m : Str → Option Value} {pre own : List (Addr × Obj)} {Q E : Value → Shared → Prop}
/-- what a call leaves -/
def Back (w : World) (hb : Heap) (L : Addr) (m : Str → Option Value) (pre : List (Addr × Obj)) (os : OsState) (xs' : List SlotD) (P : Shared → Prop) : Prop :=
  ∀ h' G' d' tk' own', Fr hb L h' m → News hb L h' (pre ++ own') → Own w hb L xs' G' own' → OffP xs' pre → P ⟨h', G', d', tk', os⟩

theorem back_of {P : Shared → Prop} {os : OsState} {s' : Shared} (c : Core w hb L xs s') (h45 : hb.get? 45 = none) (F : Fr hb L s'.heap m) (hp : ∀ p ∈ pre, s'.heap.get? p.1 = some p.2 ∧ p.1 ≠ L ∧ hb.get? p.1 = none) (ho : s'.os = os) (off : OffP xs pre) (r : Back w hb L m pre os xs P) : P s' := by
  obtain ⟨h', G', d', tk', os'⟩ := s'
  have e : os' = os := ho
  subst e
  exact r h' G' d' tk' _ F (news_mk c h45 F hp) (own_mk c h45) off

theorem go_K (G : Gd w loose mean mg mb hb) (h45 : hb.get? 45 = none) (F : Fr hb L s.heap m) (N : News hb L s.heap (pre ++ own)) (O : Own w hb L xs s.gens own) (off : OffP xs pre) {j : Nat} {x : SlotD} (hj : xs[j]? = some x) (hh : A.handled = none) (hd : A.depth + 200 < recursionLimit) (hu : A.units + 400 < cLine) {n : Int} {tn : Tok} (hn0 : 0 ≤ n) (hn1 : n ≤ 20)
    (ret : ∀ fp', Back w hb L m pre s.os (xs.set j ⟨x.S, x.g, fp'⟩) (Q (.bool true))) :
    wpAny (model prog w) A (call (.ref 80) [.ref x.S, .int n tn]) Q E s := by
  have c := O.core F N
  have hx : x ∈ xs := List.mem_of_getElem? hj
  have hjl : j < xs.length := (List.getElem?_eq_some_iff.mp hj).1
  refine go_nf G h45 c.st (c.at' x hx) hh hd hu hn0 hn1 fun s' stp => ?_
  obtain ⟨k1, gch, ho, st', fp', sl, ff⟩ := stp
  have fresh : ∀ b o, s.heap.get? b = some o → b ∉ x.all → b ∉ x.S :: fp' := fun b o e n q => by
    rcases List.mem_cons.mp q with q | q
    · exact n (q ▸ .head _)
    · rcases ff b q with z | z
      · exact n (.tail _ z)
      · rw [e] at z; cases z
  have hLx := c.offL x hx
  obtain ⟨oL, es, ep, eL, r9⟩ := id F.ns
  obtain ⟨tb, e45, ct⟩ := c.st.t
  have hL45 : L ≠ 45 := fun q => by
    obtain ⟨ps, e', _⟩ := ct
    rw [q, e45] at eL
    cases eL
    rw [e'] at r9
    exact absurd r9.1 (by simp)
  have F' : Fr hb L s'.heap m := ⟨F.ns.at' fun o e => k1 L o hLx hL45 e, st'.k, F.above⟩
  have mem' : ∀ y ∈ xs.set j ⟨x.S, x.g, fp'⟩, y = ⟨x.S, x.g, fp'⟩ ∨ (y ∈ xs ∧ Apart y x) := fun y hy => by
    rcases mem_set' hy with rfl | ⟨i, n, e⟩
    · exact .inl rfl
    · exact .inr ⟨List.mem_of_getElem? e, pw_at c.pw n e hj⟩
  have cc : Core w hb L (xs.set j ⟨x.S, x.g, fp'⟩) s' := by
    refine ⟨st', fun y hy => ?_, ?_, fun y hy => ?_, gch.b c.b, fun y hy => ?_⟩
    · rcases mem' y hy with rfl | ⟨hy', ap⟩
      · exact sl
      · refine (c.at' y hy').ext (fun b hb o e => k1 b o (ap.2 b hb) (slot_ne45 (c.at' y hy') e45 ct b hb) e) fun z e => ?_
        rw [gch.e y.g ap.1 (c.gl y hy')]; exact e
    · refine pw_set c.pw fun i n a ea => ?_
      have ap := pw_at c.pw n ea hj
      refine ⟨ap.1, fun b hb q => ?_⟩
      obtain ⟨⟨o, eo⟩, _⟩ := (c.at' a (List.mem_of_getElem? ea)).live b hb
      exact fresh b o eo (ap.2 b hb) q
    · rcases mem' y hy with rfl | ⟨hy', ap⟩
      · exact Nat.lt_of_lt_of_le (c.gl x hx) gch.s
      · exact Nat.lt_of_lt_of_le (c.gl y hy') gch.s
    · rcases mem' y hy with rfl | ⟨hy', ap⟩
      · exact fresh L oL eL hLx
      · exact c.offL y hy'
  refine back_of cc h45 F' (fun p hp => ?_) ho (fun p hp q => ?_) (ret fp')
  · have z := N p (List.mem_append_left _ hp)
    exact ⟨k1 _ _ (fun q => off p hp (mem_adrs.mpr (.inr ⟨x, hx, q⟩))) (fun q => off p hp (mem_adrs.mpr (.inl q))) z.1, z.2⟩
  · rcases mem_adrs.mp q with q | ⟨y, hy, q⟩
    · exact off p hp (mem_adrs.mpr (.inl q))
    · rcases mem' y hy with rfl | ⟨hy', _⟩
      · exact fresh p.1 p.2 (N p (List.mem_append_left _ hp)).1 (fun z => off p hp (mem_adrs.mpr (.inr ⟨x, hx, z⟩))) q
      · exact off p hp (mem_adrs.mpr (.inr ⟨y, hy', q⟩))

theorem asked_K (G : Gd w loose mean mg mb hb) (h45 : hb.get? 45 = none) (F : Fr hb L s.heap m) (N : News hb L s.heap (pre ++ own)) (O : Own w hb L xs s.gens own) (off : OffP xs pre) {x : SlotD} (hx : x ∈ xs) (hh : A.handled = none) (hd : A.depth + 200 < recursionLimit) (hu : A.units + 400 < cLine)
    (ret : Back w hb L m pre s.os xs (Q (.bool true))) :
    wpAny (model prog w) A (call (.ref 87) [.ref x.S]) Q E s := by
  have c := O.core F N
  refine asked_nf G F.keep (c.at' x hx) hh hd hu fun h' tk' e => ?_
  have F' := Fr.ext F e
  have cc : Core w hb L xs { s with heap := h', toks := tk' } := c.move (fun b _ o q => e.1 b o q) F'.keep (Nat.le_of_lt (Nat.lt_of_le_of_lt F'.above F'.ns.lt)) (fun _ _ => rfl) (Nat.le_refl _) c.b
  exact back_of cc h45 F' (fun p hp => ⟨e.1 _ _ (N p (List.mem_append_left _ hp)).1, (N p (List.mem_append_left _ hp)).2⟩) rfl off ret
theorem left_K (G : Gd w loose mean mg mb hb) (h45 : hb.get? 45 = none) (F : Fr hb L s.heap m) (N : News hb L s.heap (pre ++ own)) (O : Own w hb L xs s.gens own) (off : OffP xs pre) (hh : A.handled = none) (hd : A.depth + 200 < recursionLimit) (hu : A.units + 400 < cLine) {n : Int} {tn : Tok} (hn0 : 0 ≤ n)
    (ret : Back w hb L m pre s.os xs (Q (.bool true))) :
    wpAny (model prog w) A (call (.ref 108) [.int n tn]) Q E s := by
  have c := O.core F N
  obtain ⟨tb, e45, ct⟩ := c.st.t
  refine left_nf G h45 c.st hh hd hu hn0 fun s' q => ?_
  have hL45 : L ≠ 45 := fun z => by
    obtain ⟨oL, es, ep, eL, r9⟩ := id F.ns
    obtain ⟨ps, e', _⟩ := ct
    rw [z, e45] at eL
    cases eL
    rw [e'] at r9
    exact absurd r9.1 (by simp)
  have F' : Fr hb L s'.heap m := ⟨F.ns.at' fun o e => q.k L o hL45 e, q.st.k, F.above⟩
  have cc : Core w hb L xs s' := by
    refine ⟨q.st, fun x hx => (c.at' x hx).ext (fun b hb o e => q.k b o (slot_ne45 (c.at' x hx) e45 ct b hb) e) (fun y e => by rw [q.g.2.1 _ (c.gl x hx)]; exact e), c.pw, fun x hx => Nat.lt_of_lt_of_le (c.gl x hx) q.g.1, q.g.2.2 c.b, c.offL⟩
  exact back_of cc h45 F' (fun p hp => ⟨q.k _ _ (fun z => off p hp (mem_adrs.mpr (.inl z))) (N p (List.mem_append_left _ hp)).1, (N p (List.mem_append_left _ hp)).2⟩) q.o off ret
theorem refused_K (G : Gd w loose mean mg mb hb) (h45 : hb.get? 45 = none) (F : Fr hb L s.heap m) (N : News hb L s.heap (pre ++ own)) (O : Own w hb L xs s.gens own) (off : OffP xs pre) (hh : A.handled = none) (hd : A.depth + 300 < recursionLimit) (hu : A.units + 600 < cLine) {env : Env} (hfr : A.frames = some [env]) (hfe : env.frame = some L) (hke : env.scope.kind ≠ .module) {n : Int} {tn : Tok} (hn0 : 0 ≤ n)
    (ret : Back w hb L m pre s.os xs (Q (.bool true))) :
    wpAny (model prog w) A (call (.ref 101) [.int n tn]) Q E s := by
  have c := O.core F N
  have hfm : [env].filterMap (·.frame) = [L] := by rw [List.filterMap_cons, hfe]; rfl
  have hL0 : hb.get? L = none := by
    cases q : hb.get? L with
    | none => rfl
    | some o => exact absurd (Nat.lt_of_lt_of_le (Heap.lt_size q) F.above) (Nat.lt_irrefl _)
  obtain ⟨oF, hoF, nfF⟩ := frame_fields F.ns
  refine refused_nf G h45 c.st hn0 hh hd hu hfr ?_ (fun b hb => ?_) fun s' q => ?_
  · rw [hfm]
    exact ⟨hke, ⟨L, oF, hfe, hideAll_none _ (.head _), hoF, nfF⟩, trivial⟩
  · rw [hfm] at hb
    rw [List.mem_singleton.mp hb]; exact hL0
  · have k1 : ∀ b o, b ≠ L → s.heap.get? b = some o → s'.heap.get? b = some o := fun b o n e => q.k b o (fun z => by rw [hfm] at z; exact n (List.mem_singleton.mp z)) e
    have F' : Fr hb L s'.heap m := ⟨ns_upto F.ns fun o eo nf => q.u L o eo nf, fun b o e => k1 b o (fun z => by rw [z, hL0] at e; cases e) (F.keep b o e), F.above⟩
    have nL : ∀ b ∈ adrs xs, b ≠ L := fun b hb z => by
      rcases mem_adrs.mp hb with z' | ⟨x, hx, hb'⟩
      · obtain ⟨tb, e45, ps, e', _⟩ := c.st.t
        rw [← z', z, hoF] at e45
        cases e45
        exact nfF _ (by rw [e'])
      · exact c.offL x hx (z ▸ hb')
    have cc : Core w hb L xs s' := c.move (fun b hb o e => k1 b o (nL b hb) e) F'.keep (Nat.le_of_lt (Nat.lt_of_le_of_lt F'.above F'.ns.lt)) (fun k hk => q.g.2.1 k hk) q.g.1 (q.g.2.2 c.b)
    exact back_of cc h45 F' (fun p hp => ⟨k1 _ _ (N p (List.mem_append_left _ hp)).2.1 (N p (List.mem_append_left _ hp)).1, (N p (List.mem_append_left _ hp)).2⟩) q.o off ret
theorem make_K (G : Gd w loose mean mg mb hb) (h45 : hb.get? 45 = none) (F : Fr hb L s.heap m) (N : News hb L s.heap (pre ++ own)) (O : Own w hb L xs s.gens own) (off : OffP xs pre) (hh : A.handled = none) (hd : A.depth + 60 < recursionLimit) (hu : A.units + 120 < cLine) {st : Int} {tn : Tok} (hst : 584283 ≤ st)
    (ret : ∀ x : SlotD, Back w hb L m pre s.os (xs ++ [x]) (Q (.ref x.S))) :
    wpAny (model prog w) A (call (.ref 73) [.int st tn]) Q E s := by
  have c := O.core F N
  refine make_nf (hb := hb) (Gd.keeps G F.keep) hh hd hu hst c.st.z fun h' tk' S a num place start Lg t₁ t₂ t₃ k cn gs e1 e2 e3 e4 e5 e6 e7 e8 e9 e10 => ?_
  have F' := Fr.ext F e1
  have dead : ∀ b o, s.heap.get? b = some o → b ∉ [S, a, Lg] := fun b o e q => by
    simp only [List.mem_cons, List.not_mem_nil, or_false] at q
    rcases q with rfl | rfl | rfl
    · rw [e2] at e; cases e
    · rw [e7] at e; cases e
    · rw [e8] at e; cases e
  have hbn : ∀ b, s.heap.get? b = none → hb.get? b = none := fun b e => by
    cases q : hb.get? b with
    | none => rfl
    | some o => have := F.keep _ _ q; rw [e] at this; cases this
  have c0 : Core w hb L xs (⟨h', s.gens.push gs, s.drawn, tk', s.os⟩ : Shared) := by
    refine c.move (fun b _ o q => e1.1 b o q) F'.keep (Nat.le_of_lt (Nat.lt_of_le_of_lt F'.above F'.ns.lt)) (fun k hk => ?_) (by simp) (AllBare.push c.b e6.bare)
    show (s.gens.push gs)[k]? = _
    rw [Array.getElem?_push, if_neg (Nat.ne_of_lt hk)]
  have hnew : SlotAt w hb S s.gens.size [a, Lg] (⟨h', s.gens.push gs, s.drawn, tk', s.os⟩ : Shared) := by
    refine ⟨a, num, place, start, t₁, t₂, t₃, k, cn, [Lg], gs, e3, e4, e6, by simp, by simp [e9, e10], fun b hb' => ?_⟩
    simp only [List.mem_cons, List.not_mem_nil, or_false] at hb'
    rcases hb' with rfl | rfl | rfl
    · exact hbn _ e2
    · exact hbn _ e7
    · exact hbn _ e8
  obtain ⟨oL, es, ep, eL, r9⟩ := id F.ns
  have cc : Core w hb L (xs ++ [⟨S, s.gens.size, [a, Lg]⟩]) (⟨h', s.gens.push gs, s.drawn, tk', s.os⟩ : Shared) := by
    refine ⟨c0.st, fun y hy => ?_, ?_, fun y hy => ?_, c0.b, fun y hy => ?_⟩
    · rcases List.mem_append.mp hy with hy | hy
      · exact c0.at' y hy
      · rw [List.mem_singleton.mp hy]; exact hnew
    · rw [List.pairwise_append]
      refine ⟨c.pw, List.pairwise_singleton _ _, fun y hy z hz => ?_⟩
      rw [List.mem_singleton.mp hz]
      refine ⟨Nat.ne_of_lt (c.gl y hy), fun b hb' q => ?_⟩
      obtain ⟨⟨o, eo⟩, _⟩ := (c.at' y hy).live b hb'
      exact dead b o eo q
    · rcases List.mem_append.mp hy with hy | hy
      · exact c0.gl y hy
      · rw [List.mem_singleton.mp hy]; simp
    · rcases List.mem_append.mp hy with hy | hy
      · exact c0.offL y hy
      · rw [List.mem_singleton.mp hy]; exact dead L oL eL
  refine back_of cc h45 F' (fun p hp => ⟨e1.1 _ _ (N p (List.mem_append_left _ hp)).1, (N p (List.mem_append_left _ hp)).2⟩) rfl (fun p hp q => ?_) (ret ⟨S, s.gens.size, [a, Lg]⟩)
  rcases mem_adrs.mp q with q | ⟨y, hy, q⟩
  · exact off p hp (mem_adrs.mpr (.inl q))
  · rcases List.mem_append.mp hy with hy | hy
    · exact off p hp (mem_adrs.mpr (.inr ⟨y, hy, q⟩))
    · rw [List.mem_singleton.mp hy] at q
      exact dead p.1 p.2 (N p (List.mem_append_left _ hp)).1 q
end

def IsSl (xs : List SlotD) (o : Obj) : Prop := o.cls = .type "list" ∧ o.dict = none ∧ ∃ n, o.data = .seq (xs.map fun x => Value.ref x.S).toArray n
section
variable {w : World} {loose : List Str} {mean : ExcName → Option Value} {mg mb : Str → Option Value} {A : Around} {h₀ : Heap} {L D : Addr} {xs : List SlotD} {s : Shared} {m : Str → Option Value} {news rest : List (Addr × Obj)} {oD : Obj} {Q E : Value → Shared → Prop}
theorem IsSl.list {h : Heap} (x : IsSl xs oD) (e : h.get? D = some oD) : h.IsList D (xs.map fun x => Value.ref x.S).toArray := ⟨oD, e, x.1, x.2.2⟩
theorem slots_len (N : News h₀ L s.heap news) (hm : (D, oD) ∈ news) (hx : IsSl xs oD) (h3 : xs.length ≤ 3) (h : ∀ t tk, Q (.int (xs.length : Nat) t) { s with toks := tk }) : wpAny (model prog w) A (call (.builtin "len") [.ref D]) Q E s := by
  refine call_len_list (hx.list (N.get hm)) (by simp; omega) ?_
  have e : (xs.map fun x => Value.ref x.S).toArray.size = xs.length := by simp
  rw [e]
  exact h _ _
theorem slots_item {value slice : Expr} {j : Int} {u : Tok} (N : News h₀ L s.heap news) (hm : (D, oD) ∈ news) (hx : IsSl xs oD) (h0 : 0 ≤ j) (h1 : j < xs.length) (h3 : xs.length ≤ 3) (h : ∀ x, xs[j.toNat]? = some x → Q (.ref x.S) s)
    (hs : subscripted slice false (.ref D) (.int j u) = operate [.ref D, .int j u] (getItem (.ref D) (.int j u))) : wpAny (model prog w) A (subscriptTail value slice (.ref D) (.int j u)) Q E s := by
  have hL := hx.list (N.get hm)
  refine tail_any hL.typeIs slot_list_getitem.lookup ?_ hs
  have hj : j.toNat < xs.length := by omega
  refine wpAny_getItem_list hL h0 (by omega) (x := .ref (xs[j.toNat]'hj).S) ?_ (h _ (List.getElem?_eq_getElem hj))
  simp [List.getElem?_eq_getElem hj]
theorem slots_method {pl : Sem Bool} {Q : Value × List Value → Shared → Prop} (N : News h₀ L s.heap news) (hm : (D, oD) ∈ news) (hx : IsSl xs oD) (h : Q (.builtin "list.append", [.ref D]) s) : wpAny (model prog w) A (getMethod (.ref D) (Str.ofString "append") pl) Q E s :=
  getMethod_builtin ⟨_, N.get hm, hx.1⟩ PySem.F.plainAttrs_list PySem.F.slot_list_append PySem.F.type_list_append (fun a e => by cases e; exact ⟨_, N.get hm, hx.2.1⟩) h
theorem slots_append {x : SlotD} (F : Fr h₀ L s.heap m) (N : News h₀ L s.heap ((D, oD) :: rest)) (hoff : ∀ p ∈ rest, p.1 ≠ D) (hx : IsSl xs oD) (h3 : xs.length ≤ 3)
    (h : ∀ h' o', Fr h₀ L h' m → News h₀ L h' ((D, o') :: rest) → IsSl (xs ++ [x]) o' → Q .none { s with heap := h' }) : wpAny (model prog w) A (call (.builtin "list.append") [.ref D, .ref x.S]) Q E s := by
  obtain ⟨x1, x2, n, x3⟩ := hx
  have e := N _ (.head _)
  refine list_append_plainL (its := (xs.map fun x => Value.ref x.S).toArray) ⟨oD, n, e.1, x1, x2, x3⟩ (fun h' hp hs => ?_) (by simp; unfold sizeLine; omega)
  obtain ⟨o', n', e', c', d', dt⟩ := hp
  refine h h' o' (F.change hs e.2.1 e.2.2) (N.setHead hoff hs e') ⟨c', d', n', ?_⟩
  rw [dt]; simp
end
/-- some int of a list of ints, or nought -/
theorem cell_nf {w : World} {loose : List Str} {mean : ExcName → Option Value} {mg mb : Str → Option Value} {A : Around} {s : Shared} {Q E : Value → Shared → Prop} (G : Gd w loose mean mg mb s.heap) (hh : A.handled = none) (hd : A.depth + 40 < recursionLimit) (hu : A.units + 80 < cLine)
    {sc : Addr} {vs : List Value} {ns : List Int} (hl : s.heap.IsList sc vs.toArray) (hi : IntsAre vs ns) (h63 : ns.length ≤ 63) {t : Tok}
    (ret : ∀ h' tk' v t, Ext s.heap h' → Q (.int v t) { s with heap := h', toks := tk' }) :
    wpAny (model prog w) A (call (.ref 66) [.ref sc, .int 0 t]) Q E s := by
  obtain ⟨X, T⟩ := G
  obtain ⟨hd', dp, fr, gd, un⟩ := A
  subst hh
  have hk := hk_self s.heap
  have hsz := Nat.le_refl s.heap.objs.size
  have hlim := T.nolimit
  have hn := hn_nil s.heap s.heap
  have hlen := hi.length
  refine wpAny_call ?_
  k_dflt (refine' enter_nf [(Str.ofString "script", .ref sc), (Str.ofString "k", .int 0 t)] ?k1 ?k2 ?k3 ?k4 ?k5 ?k6 ?k7 ?k8 ?k9 ?kB ?_ ?c2 ?c3 ?c4 ?c5; walk_at "nf enter")
  intro h' F' N' hall'
  try dsimp only
  clear hall'
  k_steps
  all_goals (rename Fr _ _ _ _ => F9; exact ret _ _ _ _ (Ext.of_fr F9))

theorem cell_K {w : World} {loose : List Str} {mean : ExcName → Option Value} {mg mb : Str → Option Value} {A : Around} {s : Shared} {Q E : Value → Shared → Prop} {h₀ : Heap} {L : Addr} {m : Str → Option Value} {news : List (Addr × Obj)} (F : Fr h₀ L s.heap m) (N : News h₀ L s.heap news) (X : (hd.heap_39 w.params).In h₀) (T : Top p0 loose mean mg mb h₀)
    (hh : A.handled = none) (hd : A.depth + 40 < recursionLimit) (hu : A.units + 80 < cLine) {sc : Addr} {vs : List Value} {ns : List Int} (hl : h₀.IsList sc vs.toArray) (hi : IntsAre vs ns) (h63 : ns.length ≤ 63) {t : Tok}
    (ret : ∀ h' tk' v t, Fr h₀ L h' m → News h₀ L h' news → Q (.int v t) { s with heap := h', toks := tk' }) :
    wpAny (model prog w) A (call (.ref 66) [.ref sc, .int 0 t]) Q E s :=
  cell_nf (Gd.keeps ⟨X, T⟩ F.keep) hh hd hu (F.lst hl) hi h63 fun h' tk' v t x => ret h' tk' v t (Fr.ext F x) (News.ext N x)
theorem IsSl.set {xs : List SlotD} {o : Obj} {j : Nat} {x : SlotD} {fp : List Addr} (h : IsSl xs o) (hj : xs[j]? = some x) : IsSl (xs.set j ⟨x.S, x.g, fp⟩) o := by
  obtain ⟨h1, h2, n, h3⟩ := h
  refine ⟨h1, h2, n, ?_⟩
  rw [h3]
  congr 2
  apply List.ext_getElem?
  intro i
  rw [List.getElem?_map, List.getElem?_map, List.getElem?_set]
  by_cases q : j = i
  · subst q
    obtain ⟨hl, e⟩ := List.getElem?_eq_some_iff.mp hj
    rw [if_pos rfl, if_pos hl, hj]; rfl
  · rw [if_neg q]
theorem OffP.repl {xs : List SlotD} {D : Addr} {o o' : Obj} {r : List (Addr × Obj)} (h : OffP xs ((D, o) :: r)) : OffP xs ((D, o') :: r) := fun p hp => by
  rcases List.mem_cons.mp hp with rfl | hp
  · exact h (D, o) (.head _)
  · exact h p (.tail _ hp)
def DOff (D : Addr) (pre : List (Addr × Obj)) : Prop := ∀ p ∈ pre, p.1 ≠ D
theorem doff_own {w : World} {hb : Heap} {L D : Addr} {xs : List SlotD} {G : Array GenState} {own pre : List (Addr × Obj)} {oD : Obj} (hd : DOff D pre) (O : Own w hb L xs G own) (off : OffP xs ((D, oD) :: pre)) : ∀ p ∈ pre ++ own, p.1 ≠ D := fun p hp => by
  rcases List.mem_append.mp hp with hp | hp
  · exact hd p hp
  · intro q
    exact off (D, oD) (.head _) (q ▸ O.a p hp)
theorem set_len {xs : List SlotD} {j : Nat} {v : SlotD} : (xs.set j v).length = xs.length := List.length_set
-- MACROS
local macro_rules | `(tactic| walk_at "law len") => `(tactic| first | omega | (simp only [set_len, List.length_append, List.length_cons, List.length_nil] at *; omega))
local macro_rules | `(tactic| walk_at "law pre") => `(tactic| ((rename Fr _ _ _ _ => F8); (rename News _ _ _ _ => N8); (rename Own _ _ _ _ _ _ => O8); (rename OffP _ _ => P8)))
local macro_rules | `(tactic| walk_at "call ref") => `(tactic| ((with_reducible show wpAny _ _ (call (Value.ref 66) [Value.ref _, Value.int _ _]) _ _ _); (rename Fr _ _ _ _ => F8); (rename News _ _ _ _ => N8); k_dflt ((refine' cell_K F8 N8 (by assumption) (by assumption) rfl ?k1 ?k2 ?k3 ?k4 ?k5 ?_; (case k1 => walk_at "nf room"); (case k2 => walk_at "nf room"); (case k3 => assumption); (case k4 => assumption); (case k5 => assumption); k_whole)); clear F8 N8; intro h' tk' v' t' F' N'; (try dsimp only)))
local macro_rules | `(tactic| walk_at "call ref") => `(tactic| ((with_reducible show wpAny _ _ (call (Value.ref 73) [Value.int _ _]) _ _ _); (rename Fr _ _ _ _ => F8); (rename News _ _ _ _ => N8); (rename Own _ _ _ _ _ _ => O8); (rename OffP _ _ => P8); k_dflt (first | refine' make_K (pre := [_, _, _]) ?G ?p ?F ?N ?O ?P ?hh ?k1 ?k2 ?k3 ?_; (case G => assumption); (case F => exact F8); (case N => exact N8); (case O => exact O8); (case P => exact P8); (case p => assumption); (case hh => rfl); (case k1 => walk_at "nf room"); (case k2 => walk_at "nf room"); (case k3 => first | ((try k_fmods); omega) | exact Int.le_add_of_nonneg_right (Int.fmod_nonneg_of_pos _ (by decide))); k_whole | refine' make_K (pre := []) ?G ?p ?F ?N ?O ?P ?hh ?k1 ?k2 ?k3 ?_; (case G => assumption); (case F => exact F8); (case N => exact N8); (case O => exact O8); (case P => exact P8); (case p => assumption); (case hh => rfl); (case k1 => walk_at "nf room"); (case k2 => walk_at "nf room"); (case k3 => first | ((try k_fmods); omega) | exact Int.le_add_of_nonneg_right (Int.fmod_nonneg_of_pos _ (by decide))); k_whole); clear F8 N8 O8 P8; intro x' h' G' d' tk' own' F' N' O' P'; (try simp only [List.cons_append, List.nil_append] at N'); (try dsimp only)))
local macro_rules | `(tactic| walk_at "call ref") => `(tactic| ((with_reducible show wpAny _ _ (call (Value.ref 80) [Value.ref _, Value.int _ _]) _ _ _); (rename Fr _ _ _ _ => F8); (rename News _ _ _ _ => N8); (rename Own _ _ _ _ _ _ => O8); (rename OffP _ _ => P8); (rename IsSl _ _ => S8); k_dflt (refine' go_K (pre := [_, _, _]) ?G ?p ?F ?N ?O ?P ?j ?hh ?k1 ?k2 ?n0 ?n1 ?_; (case G => assumption); (case F => exact F8); (case N => exact N8); (case O => exact O8); (case P => exact P8); (case p => assumption); (case hh => rfl); (case j => assumption); (case k1 => walk_at "nf room"); (case k2 => walk_at "nf room"); (case n0 => first | assumption | ((try k_fmods); omega)); (case n1 => (try k_fmods); omega); k_whole); clear F8 N8 O8 P8; intro f' h' G' d' tk' own' F' N' O' P'; (have S' := IsSl.set (fp := f') S8 (by assumption)); clear S8; (try simp only [List.cons_append, List.nil_append] at N'); (try dsimp only)))
local macro_rules | `(tactic| walk_at "call ref") => `(tactic| ((with_reducible show wpAny _ _ (call (Value.ref 87) [Value.ref _]) _ _ _); (rename Fr _ _ _ _ => F8); (rename News _ _ _ _ => N8); (rename Own _ _ _ _ _ _ => O8); (rename OffP _ _ => P8); k_dflt (refine' asked_K (pre := [_, _, _]) ?G ?p ?F ?N ?O ?P (List.mem_of_getElem? ?j) ?hh ?k1 ?k2 ?_; (case G => assumption); (case F => exact F8); (case N => exact N8); (case O => exact O8); (case P => exact P8); (case p => assumption); (case hh => rfl); (case j => assumption); (case k1 => walk_at "nf room"); (case k2 => walk_at "nf room"); k_whole); clear F8 N8 O8 P8; intro h' G' d' tk' own' F' N' O' P'; (try simp only [List.cons_append, List.nil_append] at N'); (try dsimp only)))
local macro_rules | `(tactic| walk_at "call ref") => `(tactic| ((with_reducible show wpAny _ _ (call (Value.ref 101) [Value.int _ _]) _ _ _); (rename Fr _ _ _ _ => F8); (rename News _ _ _ _ => N8); (rename Own _ _ _ _ _ _ => O8); (rename OffP _ _ => P8); k_dflt (refine' refused_K (pre := [_, _, _]) ?G ?p ?F ?N ?O ?P ?hh ?k1 ?k2 ?fr ?fe ?ke ?n0 ?_; (case G => assumption); (case F => exact F8); (case N => exact N8); (case O => exact O8); (case P => exact P8); (case p => assumption); (case hh => rfl); (case k1 => walk_at "nf room"); (case k2 => walk_at "nf room"); (case fr => first | assumption | rfl); (case fe => rfl); (case ke => (intro q; cases q)); (case n0 => first | assumption | ((try k_fmods); omega)); k_whole); clear F8 N8 O8 P8; intro h' G' d' tk' own' F' N' O' P'; (try simp only [List.cons_append, List.nil_append] at N'); (try dsimp only)))
local macro_rules | `(tactic| walk_at "call ref") => `(tactic| ((with_reducible show wpAny _ _ (call (Value.ref 108) [Value.int _ _]) _ _ _); (rename Fr _ _ _ _ => F8); (rename News _ _ _ _ => N8); (rename Own _ _ _ _ _ _ => O8); (rename OffP _ _ => P8); k_dflt (refine' left_K (pre := [_, _, _]) ?G ?p ?F ?N ?O ?P ?hh ?k1 ?k2 ?n0 ?_; (case G => assumption); (case F => exact F8); (case N => exact N8); (case O => exact O8); (case P => exact P8); (case p => assumption); (case hh => rfl); (case k1 => walk_at "nf room"); (case k2 => walk_at "nf room"); (case n0 => first | assumption | ((try k_fmods); omega)); k_whole); clear F8 N8 O8 P8; intro h' G' d' tk' own' F' N' O' P'; (try simp only [List.cons_append, List.nil_append] at N'); (try dsimp only)))
local macro_rules | `(tactic| walk_at "call builtin:len") => `(tactic| ((with_reducible show wpAny _ _ (call (Value.builtin "len") [Value.ref _]) _ _ _); (rename News _ _ _ _ => N8); (rename IsSl _ _ => S8); k_dflt (refine' slots_len N8 (.head _) S8 ?l ?_; (case l => walk_at "law len"); k_whole); intro t' tk'))
local macro_rules | `(tactic| walk_at "subscriptTail") => `(tactic| ((with_reducible show wpAny _ _ (subscriptTail _ _ (Value.ref _) (Value.int _ _)) _ _ _); (rename News _ _ _ _ => N8); (rename IsSl _ _ => S8); k_dflt (refine' slots_item N8 (.head _) S8 ?a ?b ?l ?_ (by with_unfolding_all rfl); (case a => first | omega | exact Int.fmod_nonneg_of_pos _ (by walk_at "law len") | ((try k_fmods); omega)); (case b => first | walk_at "law len" | exact Int.fmod_lt_of_pos _ (by walk_at "law len") | ((try k_fmods); walk_at "law len")); (case l => walk_at "law len"); k_whole); intro x' hx'))
local macro_rules | `(tactic| walk_at "getMethod ref") => `(tactic| ((with_reducible show wpAny _ _ (getMethod (Value.ref _) (Str.ofString "append") _) _ _ _); (rename News _ _ _ _ => N8); (rename IsSl _ _ => S8); k_dflt (refine slots_method N8 (.head _) S8 ?_)))
local macro_rules | `(tactic| walk_at "call builtin:list.append") => `(tactic| ((with_reducible show wpAny _ _ (call (Value.builtin "list.append") [Value.ref _, Value.ref _]) _ _ _); (rename Fr _ _ _ _ => F8); (rename News _ _ _ _ => N8); (rename Own _ _ _ _ _ _ => O8); (rename OffP _ _ => P8); (rename IsSl _ _ => S8); (rename DOff _ _ => D8); k_dflt (refine' slots_append F8 N8 (doff_own D8 O8 P8) S8 ?l ?_; (case l => walk_at "law len"); k_whole); clear F8 N8 S8; intro h' o' F' N' S'; (have P9 := OffP.repl (o' := o') P8); clear P8))
-- END MACROS

noncomputable def lawP : {f : FuncData // (hd.heap_39 par0).lookup 115 = some ⟨.type "function", none, .func f, #[]⟩} := ⟨_, by k_is⟩
noncomputable def lawBody : List Stmt := match lawP.1.body with
  | .stmts b => b
  | _ => []
noncomputable def lawScope : Scope := lawP.1.scope
noncomputable def lawTurn : List Stmt := forBody (lawBody.getD 2 default)
noncomputable def envLaw (L : Addr) : Env := envOf (Str.ofString "law") lawScope L 115 lawP.1.code
section
variable {w : World} {loose : List Str} {mean : ExcName → Option Value} {mg mb : Str → Option Value} {A : Around} {s : Shared} {hb : Heap} {L D : Addr} {xs : List SlotD} {m : Str → Option Value} {own : List (Addr × Obj)} {oD : Obj} {p₁ p₂ : Addr × Obj} {v left : Int} {tv tl : Tok}
structure Mid0 (s : Shared) (f : Flow) (P : Heap → Nat → Tok → Prop) (s' : Shared) : Prop where
  f : f = .next
  e : ∃ h' tk' t, s' = { s with heap := h', toks := tk' } ∧ P h' tk' t
theorem law_turn {Q : Flow → Shared → Prop} {E : Value → Shared → Prop} (G : Gd w loose mean mg mb hb) (h45 : hb.get? 45 = none) (F : Fr hb L s.heap (fun y => if y = Str.ofString "x" then some (.int v tv) else if y = Str.ofString "left" then some (.int left tl) else if y = Str.ofString "slots" then some (.ref D) else m y))
    (N : News hb L s.heap ((D, oD) :: p₁ :: p₂ :: own)) (O : Own w hb L xs s.gens own) (off : OffP xs [(D, oD), p₁, p₂]) (sl : IsSl xs oD) (dof : DOff D [p₁, p₂]) (hfr : A.frames = some [envLaw L]) (hh : A.handled = none) (hd : A.depth + 400 < recursionLimit) (hu : A.units + 700 < cLine)
    (l1 : 1 ≤ xs.length) (l3 : xs.length ≤ 3) (f0 : 0 ≤ left) (f3 : left ≤ 3)
    (ret : ∀ h' G' d' tk' xs' own' o' left' m' tl', Fr hb L h' m' → m' (Str.ofString "left") = some (.int left' tl') → m' (Str.ofString "slots") = some (.ref D) → News hb L h' ((D, o') :: p₁ :: p₂ :: own') → Own w hb L xs' G' own' → OffP xs' [(D, o'), p₁, p₂] → IsSl xs' o' →
      1 ≤ xs'.length → xs'.length ≤ 3 → 0 ≤ left' → left' ≤ 3 → Q .next ⟨h', G', d', tk', s.os⟩) :
    wpAny (model prog w) A (execs lawTurn (envLaw L)) Q E s := by
  obtain ⟨X, T⟩ := id G
  conv in lawTurn => whnf
  conv at hfr in envLaw _ => unfold envLaw; arg 2; whnf
  conv at hfr in lawP.1.code => whnf
  conv in envLaw _ => unfold envLaw; arg 2; whnf
  conv in lawP.1.code => whnf
  obtain ⟨hd', dp, fr, gd, un⟩ := A
  subst hh
  refine wpAny_execs_cons (wpAny_mono (Q := fun f s' => Mid0 s f (fun h' _ t => Fr hb L h' (fun y => if y = Str.ofString "kind" then some (.int (v.fmod 6) t) else if y = Str.ofString "x" then some (.int v tv) else if y = Str.ofString "left" then some (.int left tl) else if y = Str.ofString "slots" then some (.ref D) else m y) ∧ News hb L h' ((D, oD) :: p₁ :: p₂ :: own)) s') (E := E) ?_ ?_ fun _ _ x => x)
  · k_steps
    rename Fr _ _ _ _ => F9
    rename News _ _ _ _ => N9
    exact ⟨rfl, _, _, _, rfl, F9, N9⟩
  rintro f s' ⟨rfl, h0, tk0, t0, rfl, F0, N0⟩
  have hrest : 0 ≤ (if v < 0 then -v else v).fdiv 6 := by
    rw [Int.fdiv_eq_ediv_of_nonneg _ (by decide : (0 : Int) ≤ 6)]; split <;> omega
  show wpAny _ _ (execs _ _) _ _ _
  clear F N
  have hk : v.fmod 6 = 0 ∨ v.fmod 6 = 1 ∨ v.fmod 6 = 2 ∨ v.fmod 6 = 3 ∨ v.fmod 6 = 4 ∨ v.fmod 6 = 5 := by
    rw [Int.fmod_eq_emod_of_nonneg _ (by decide : (0 : Int) ≤ 6)]; omega
  rcases hk with e | e | e | e | e | e
  all_goals rw [e] at F0
  all_goals clear e
  all_goals k_steps
  all_goals (rename Fr _ _ _ _ => F9; rename News _ _ _ _ => N9; rename Own _ _ _ _ _ _ => O9; rename OffP _ _ => P9; rename IsSl _ _ => S9)
  all_goals refine' ret _ _ _ _ _ _ _ _ _ _ F9 (by with_unfolding_all rfl) (by with_unfolding_all rfl) N9 O9 P9 S9 ?_ ?_ ?_ ?_
  all_goals walk_at "law len"
end

def IsLi (C : Addr) (j : Nat) (o : Obj) : Prop := o.cls = .type "list_iterator" ∧ o.data = .fields #[.ref C, .int j 0]
def LawEnd (w : World) (hb : Heap) (L D : Addr) (os : OsState) (s : Shared) : Prop :=
  ∃ m' xs own oD p₁ p₂, Fr hb L s.heap m' ∧ m' (Str.ofString "slots") = some (.ref D) ∧ News hb L s.heap ((D, oD) :: p₁ :: p₂ :: own) ∧ Own w hb L xs s.gens own ∧ OffP xs [(D, oD), p₁, p₂] ∧ IsSl xs oD ∧ 1 ≤ xs.length ∧ xs.length ≤ 3 ∧ s.os = os
def LawInv (w : World) (hb : Heap) (L D I C : Addr) (oC : Obj) (os : OsState) (j : Nat) (s : Shared) : Prop :=
  ∃ m' xs own oD oI left tl, Fr hb L s.heap m' ∧ m' (Str.ofString "slots") = some (.ref D) ∧ m' (Str.ofString "left") = some (.int left tl) ∧ News hb L s.heap ((D, oD) :: (I, oI) :: (C, oC) :: own) ∧ Own w hb L xs s.gens own ∧ OffP xs [(D, oD), (I, oI), (C, oC)] ∧ IsSl xs oD ∧ IsLi C j oI ∧
    1 ≤ xs.length ∧ xs.length ≤ 3 ∧ 0 ≤ left ∧ left ≤ 3 ∧ s.os = os

section
variable {w : World} {loose : List Str} {mean : ExcName → Option Value} {mg mb : Str → Option Value} {A : Around} {s : Shared} {hb : Heap} {L D I C : Addr} {oC : Obj} {os : OsState} {px : Pos} {items : Array Value}
theorem law_loop {R : Result → Shared → Prop} (G : Gd w loose mean mg mb hb) (h45 : hb.get? 45 = none) (hfr : A.frames = some [envLaw L]) (hh : A.handled = none) (hd : A.depth + 400 < recursionLimit) (hu : A.units + 700 < cLine) (hC : oC.cls = .type "list" ∧ ∃ n, oC.data = .seq items n)
    (hit : ∀ (j : Nat) (v : Value), items[j]? = some v → ∃ n t, v = .int n t) (DI : D ≠ I) (DC : D ≠ C) (IC : I ≠ C) (j : Nat) (hI : LawInv w hb L D I C oC os j s)
    (fin : ∀ s', LawEnd w hb L D os s' → R (.ok .next) s') :
    codeAny (model prog w) A (.forLoop (.Name (Str.ofString "x") px) (.ref I) lawTurn [] (envLaw L)) R s := by
  refine codeAny_forLoop (I := fun n s' => ∃ j, n = items.size - j ∧ LawInv w hb L D I C oC os j s') (fun n s₁ hI₁ => ?_) (items.size - j) ⟨j, rfl, hI⟩
  obtain ⟨j, rfl, m', xs, own, oD, oI, left, tl, F, hm, hl, N, O, off, sl, li, l1, l3, f0, f3, hos⟩ := hI₁
  have nD := N _ (.head _)
  have nI := N _ (.tail _ (.head _))
  have nC := N _ (.tail _ (.tail _ (.head _)))
  have itI : s₁.heap.IsListIter I C j := ⟨oI, nI.1, li⟩
  have lsC : s₁.heap.IsList C items := ⟨oC, nC.1, hC⟩
  have offI : ∀ p ∈ own, p.1 ≠ I := fun p hp q => off (I, oI) (.tail _ (.head _)) (q ▸ O.a p hp)
  cases hx : items[j]? with
  | none =>
    refine wpAny_pyNext_list_end hh itI lsC hx fun h' hext => ?_
    refine wpAny_pure (fin _ ⟨m', xs, own, oD, (C, oC), (C, oC), ⟨F.ns.extBut hext nI.2.1.symm, fun b o e => hext b o (fun q => by rw [q, nI.2.2] at e; cases e) (F.keep b o e), F.above⟩, hm, fun p hp => ?_, O, fun p hp => ?_, sl, l1, l3, hos⟩)
    · rcases List.mem_cons.mp hp with rfl | hp
      · exact ⟨hext _ _ DI nD.1, nD.2⟩
      rcases List.mem_cons.mp hp with rfl | hp
      · exact ⟨hext _ _ IC.symm nC.1, nC.2⟩
      rcases List.mem_cons.mp hp with rfl | hp
      · exact ⟨hext _ _ IC.symm nC.1, nC.2⟩
      · have z := N p (.tail _ (.tail _ (.tail _ hp)))
        exact ⟨hext _ _ (offI p hp) z.1, z.2⟩
    · rcases List.mem_cons.mp hp with rfl | hp
      · exact off _ (.head _)
      rcases List.mem_cons.mp hp with rfl | hp
      · exact off (C, oC) (.tail _ (.tail _ (.head _)))
      · rw [List.mem_singleton.mp hp]
        exact off (C, oC) (.tail _ (.tail _ (.head _)))
  | some v =>
    obtain ⟨n, t, rfl⟩ := hit j v hx
    refine wpAny_pyNext_list_item itI lsC hx fun h₁ hit₁ hs₁ => ?_
    obtain ⟨oI', eI', li'⟩ := hit₁
    have F₁ : Fr hb L h₁ m' := F.change hs₁ nI.2.1 nI.2.2
    have N₁ : News hb L h₁ ((D, oD) :: (I, oI') :: (C, oC) :: own) := fun p hp => by
      rcases List.mem_cons.mp hp with rfl | hp
      · exact ⟨(hs₁.2 _ DI).trans nD.1, nD.2⟩
      rcases List.mem_cons.mp hp with rfl | hp
      · exact ⟨eI', nI.2⟩
      rcases List.mem_cons.mp hp with rfl | hp
      · exact ⟨(hs₁.2 _ IC.symm).trans nC.1, nC.2⟩
      · have z := N p (.tail _ (.tail _ (.tail _ hp)))
        exact ⟨(hs₁.2 _ (offI p hp)).trans z.1, z.2⟩
    refine wpAny_assign_Name (wpAny_storeName_local (by with_unfolding_all rfl) F₁.ns (fun h₂ hn₂ hs₂ => ?_) (by rfl))
    have N₂ := News.chgAt N₁ hs₂ fun p hp => (N₁ p hp).2.1
    have F₂ : Fr hb L h₂ (fun y => if y = Str.ofString "x" then some (.int n t) else if y = Str.ofString "left" then some (.int left tl) else if y = Str.ofString "slots" then some (.ref D) else m' y) := by
      refine Fr.congr (m := fun y => if y = Str.ofString "x" then some (.int n t) else m' y) ⟨hn₂, fun b o e => ?_, F₁.above⟩ fun y => ?_
      · have hbL : b ≠ L := Nat.ne_of_lt (Nat.lt_of_lt_of_le (Heap.lt_size e) F₁.above)
        exact (hs₂.2 b hbL).trans (F₁.keep b o e)
      · by_cases q0 : y = Str.ofString "x"
        · rw [if_pos q0, if_pos q0]
        · rw [if_neg q0, if_neg q0]
          by_cases q1 : y = Str.ofString "left"
          · rw [if_pos q1, q1, hl]
          · rw [if_neg q1]
            by_cases q2 : y = Str.ofString "slots"
            · rw [if_pos q2, q2, hm]
            · rw [if_neg q2]
    have off' : OffP xs [(D, oD), (I, oI'), (C, oC)] := fun p hp => by
      rcases List.mem_cons.mp hp with rfl | hp
      · exact off _ (.head _)
      rcases List.mem_cons.mp hp with rfl | hp
      · exact off (I, oI) (.tail _ (.head _))
      · exact off p (.tail _ (.tail _ hp))
    have dof : DOff D [(I, oI'), (C, oC)] := fun p hp => by
      rcases List.mem_cons.mp hp with rfl | hp
      · exact DI.symm
      · rw [List.mem_singleton.mp hp]; exact DC.symm
    refine law_turn (s := { s₁ with heap := h₂, toks := s₁.toks + 1 }) (m := m') G h45 F₂ N₂ O off' sl dof hfr hh hd hu l1 l3 f0 f3 fun h' G' d' tk' xs' own' o' left' m2 tl' F' hl' hm' N' O' off2 sl' l1' l3' f0' f3' => ?_
    have jl : j < items.size := (Array.getElem?_eq_some_iff.mp hx).1
    exact ⟨items.size - (j + 1), by omega, j + 1, rfl, m2, xs', own', o', oI', left', tl', F', hm', hl', N', O', off2, sl', li', l1', l3', f0', f3', hos⟩
end

theorem allLt_mem {d : Nat} {l : List (Addr × Obj)} (h : AllLt d l) : ∀ p ∈ l, (p.1 : Nat) < d := by
  induction l with
  | nil => intro p hp; cases hp
  | cons q r ih =>
    intro p hp
    rcases List.mem_cons.mp hp with e | hp
    · rw [e]; exact h.1
    · exact ih h.2 p hp
theorem ints_at : ∀ {vs : List Value} {ns : List Int}, IntsAre vs ns → ∀ (j : Nat) (v : Value), vs[j]? = some v → ∃ n t, v = .int n t
  | _, _, .nil, j, v, h => by cases h
  | _, _, .cons n t r, 0, v, h => ⟨n, t, (Option.some.inj h).symm⟩
  | _, _, .cons n t r, j + 1, v, h => ints_at r j v (by simpa using h)
theorem law_loop_list {w : World} {loose : List Str} {mean : ExcName → Option Value} {mg mb : Str → Option Value} {A : Around} {s : Shared} {hb : Heap} {L D I C : Addr} {os : OsState} {px : Pos} {R : Result → Shared → Prop} {ws : List Value} {ns' : List Int} (hi : IntsAre ws ns') (G : Gd w loose mean mg mb hb) (h45 : hb.get? 45 = none) (hfr : A.frames = some [envLaw L]) (hh : A.handled = none) (hd : A.depth + 400 < recursionLimit) (hu : A.units + 700 < cLine)
    (DI : D ≠ I) (DC : D ≠ C) (IC : I ≠ C) (hI : LawInv w hb L D I C (W.listOf ws.toArray 0) os 0 s) (fin : ∀ s', LawEnd w hb L D os s' → R (.ok .next) s') :
    codeAny (model prog w) A (.forLoop (.Name (Str.ofString "x") px) (.ref I) lawTurn [] (envLaw L)) R s :=
  law_loop (items := ws.toArray) G h45 hfr hh hd hu ⟨rfl, 0, rfl⟩ (fun j v e => ints_at hi j v (by simpa using e)) DI DC IC 0 hI fin
structure Mid1 (w : World) (hb : Heap) (L : Addr) (m : Str → Option Value) (os : OsState) (f : Flow) (s' : Shared) : Prop where
  f : f = .next
  e : ∃ D oD own x, Fr hb L s'.heap (fun y => if y = Str.ofString "slots" then some (.ref D) else m y) ∧ News hb L s'.heap ((D, oD) :: own) ∧ Own w hb L [x] s'.gens own ∧ OffP [x] [(D, oD)] ∧ IsSl [x] oD ∧ s'.os = os
section
variable {w : World} {loose : List Str} {mean : ExcName → Option Value} {mg mb : Str → Option Value} {A : Around} {s : Shared} {hb : Heap} {Q E : Value → Shared → Prop}
theorem law_last {L : Addr} {h : Heap} {m : Str → Option Value} {p₁ p₂ p₃ : Addr × Obj} {own : List (Addr × Obj)} {xs : List SlotD} {G' : Array GenState} (d : Drawn) (os : OsState) (F : Fr hb L h m) (N : News hb L h (p₁ :: p₂ :: p₃ :: own)) (O : Own w hb L xs G' own) :
    ∃ tb, (∀ b o, hb.get? b = some o → h.get? b = some o) ∧ h.get? 45 = some tb ∧ CTo tb ∧ AllBare G' := by
  have c9 := O.i (⟨h, G', d, 0, os⟩ : Shared) (fun p hp => (N p (.tail _ (.tail _ (.tail _ hp)))).1) F.keep (Nat.le_of_lt (Nat.lt_of_le_of_lt F.above F.ns.lt)) rfl
  obtain ⟨tb9, e9, ct9⟩ := c9.st.t
  exact ⟨tb9, F.keep, e9, ct9, c9.b⟩
set_option maxHeartbeats 1000000 in
theorem law_nf (G : Gd w loose mean mg mb hb) (h45 : hb.get? 45 = none) (st : St hb s) (bare : AllBare s.gens) (hh : A.handled = none) (hfr : A.frames = some []) (hd : A.depth + 420 < recursionLimit) (hu : A.units + 800 < cLine)
    {sc : Addr} {vs : List Value} {ns : List Int} (hl : hb.IsList sc vs.toArray) (hi : IntsAre vs ns) (h63 : ns.length ≤ 63)
    (ret : ∀ h' G' d' tk' tb', (∀ b o, hb.get? b = some o → h'.get? b = some o) → h'.get? 45 = some tb' → CTo tb' → AllBare G' → Q (.bool true) ⟨h', G', d', tk', s.os⟩) :
    wpAny (model prog w) A (call (.ref 115) [.ref sc]) Q E s := by
  obtain ⟨X, T⟩ := id G
  have hk := st.k
  have hsz := st.z
  have hlim := T.nolimit
  obtain ⟨hd', dp, fr, gd, un⟩ := A
  subst hh
  have hn : ∀ p ∈ fpOf s.heap (adrs []), s.heap.get? p.1 = some p.2 ∧ hb.get? p.1 = none := fun p hp => by
    obtain ⟨b, o⟩ := p
    obtain ⟨z1, z2⟩ := mem_fpOf.mp hp
    rcases mem_adrs.mp z1 with rfl | ⟨x, hx, _⟩
    · exact ⟨z2, h45⟩
    · cases hx
  have O0 : Own w hb s.heap.objs.size [] s.gens (fpOf s.heap (adrs [])) := own_mk ⟨st, (fun _ h => by cases h), List.Pairwise.nil, (fun _ h => by cases h), bare, (fun _ h => by cases h)⟩ h45
  have P0 : OffP [] [] := fun _ h => by cases h
  refine wpAny_call ?_
  k_dflt (refine' enter_nf [(Str.ofString "script", .ref sc)] ?k1 ?k2 ?k3 ?k4 ?k5 ?k6 ?k7 ?k8 ?k9 ?kB ?_ ?c2 ?c3 ?c4 ?c5; walk_at "nf enter")
  intro h' F' N' hall'
  try dsimp only
  clear hall'
  refine wpAny_execs_cons (wpAny_mono (Q := Mid1 w hb s.heap.objs.size (fun y => [(Str.ofString "script", Value.ref sc)].reverse.lookup y) s.os) ?_ ?_ fun _ _ x => x)
  · k_steps
    rename Own _ _ _ _ _ _ => O9
    rename_i lq hq1 lt9 hq2 F9 N9
    refine ⟨rfl, lq, _, _, _, F9, N9, O9, fun p hp => ?_, ⟨rfl, rfl, 0, rfl⟩, rfl⟩
    rw [List.mem_singleton.mp hp]
    intro q
    obtain ⟨o, ho⟩ := O9.c _ q
    exact Nat.lt_irrefl _ (lt9 _ ho)
  rintro f s' ⟨rfl, D, oD, own, x, F1, N1, O1, P1, S1, os1⟩
  obtain ⟨h1, G1, d1, tk1, os2⟩ := s'
  show wpAny _ _ (execs _ _) _ _ _
  obtain rfl : os2 = s.os := os1
  refine wpAny_execs_cons (wpAny_mono (Q := fun f s' => Mid0 ⟨h1, G1, d1, tk1, s.os⟩ f (fun h' _ t => Fr hb s.heap.objs.size h' (fun y => if y = Str.ofString "left" then some (.int 3 t) else if y = Str.ofString "slots" then some (.ref D) else [(Str.ofString "script", Value.ref sc)].reverse.lookup y) ∧ News hb s.heap.objs.size h' ((D, oD) :: own)) s') ?_ ?_ fun _ _ x => x)
  · k_steps
    rename Fr _ _ _ _ => F9
    rename News _ _ _ _ => N9
    exact ⟨rfl, _, _, _, rfl, F9, N9⟩
  rintro f s' ⟨rfl, h2, tk2, t2, rfl, F2, N2⟩
  show wpAny _ _ (execs _ _) _ _ _
  clear F1 N1 F' N'
  refine wpAny_execs_cons (wpAny_For ?_)
  k_steps
  rename_i l13
  rename Fr _ _ _ _ => F3
  rename News _ _ _ _ => N3
  rename IntsAre _ (List.take _ _) => hI3
  have nC := N3 _ (.head _)
  have nD := N3 _ (.tail _ (.head _))
  refine wpAny_pyIter_list ⟨_, nC.1, rfl, 0, rfl⟩ ?_
  refine law_loop_list (w := w) (hb := hb) (L := s.heap.objs.size) (D := D) (os := s.os) hI3 G h45 ?fr ?hh ?d ?u (Nat.ne_of_lt (Heap.lt_size nD.1)) (Nat.ne_of_lt l13.1) (Nat.ne_of_gt (Heap.lt_size nC.1)) ?inv fun s' hE => ?_
  case fr => exact Around.frames_deeper hfr
  case hh => rfl
  case d => walk_at "nf room"
  case u => walk_at "nf room"
  case inv =>
    refine ⟨_, [x], own, oD, { cls := .type "list_iterator", data := .fields #[.ref _, .int (0 : Nat) 0] }, 3, t2, F3.push _, by rfl, by rfl, fun p hp => ?_, O1, fun p hp => ?_, S1, ⟨rfl, rfl⟩, Nat.le_refl 1, by simp, by decide, by decide, rfl⟩
    · rcases List.mem_cons.mp hp with rfl | hp
      · exact ⟨Heap.get?_push_of_some _ nD.1, nD.2⟩
      rcases List.mem_cons.mp hp with rfl | hp
      · exact ⟨Heap.get?_push_size _ rfl, Nat.ne_of_gt F3.ns.lt, none_of_keep F3.keep (Nat.le_refl _)⟩
      rcases List.mem_cons.mp hp with rfl | hp
      · exact ⟨Heap.get?_push_of_some _ nC.1, nC.2⟩
      · have z := N3 p (.tail _ (.tail _ hp))
        exact ⟨Heap.get?_push_of_some _ z.1, z.2⟩
    · rcases List.mem_cons.mp hp with rfl | hp
      · exact P1 _ (.head _)
      rcases List.mem_cons.mp hp with rfl | hp
      · intro q
        obtain ⟨o, ho⟩ := O1.c _ q
        exact Nat.lt_irrefl _ (Heap.lt_size (N3 _ (.tail _ (.tail _ ho))).1)
      · rw [List.mem_singleton.mp hp]
        intro q
        obtain ⟨o, ho⟩ := O1.c _ q
        exact Nat.lt_irrefl _ (allLt_mem l13.2 _ ho)
  obtain ⟨m', xs, own', oD', p₁, p₂, F4, hm, N4, O4, P4, S4, l4, l34, hos⟩ := hE
  obtain ⟨h4, G4, d4, tk4, os4⟩ := s'
  obtain rfl : os4 = s.os := hos
  show wpAny _ _ (execs _ _) _ _ _
  clear F3 N3 O1 P1 S1
  have F5 : Fr hb s.heap.objs.size h4 (fun y => if y = Str.ofString "slots" then some (.ref D) else m' y) := Fr.congr F4 fun y => by
    by_cases q : y = Str.ofString "slots"
    · rw [if_pos q, q, hm]
    · rw [if_neg q]
  clear F4
  k_steps
  rename Fr _ _ _ _ => F9
  rename News _ _ _ _ => N9
  rename Own _ _ _ _ _ _ => O9
  obtain ⟨tb9, k9, e9, ct9, b9⟩ := law_last s.drawn s.os F9 N9 O9
  exact ret _ _ _ _ tb9 k9 e9 ct9 b9
end

theorem law_holds : PySem.Challenge.rw_aq6005_01.Holds := by
  refine hd ?_
  intro w s₀ s₁ mg mb G Y fa o pm cd doc dV kV ho hd' hcd hD hmg hg args vals as hpre hlay hrd hwl hlo
  have KX := kIn_of Y
  refine Ground.open G ?_
  intro T B D TE TW
  wrow_args hpre hlay hrd hwl hlo
  x_fa T KX hmg
  have e45 := tab45 KX T
  have GG := gd_hide KX T
  rename Heap.IsList _ _ _ => hL
  rename IntsAre _ _ => hI
  rename ¬ (_ < _) => hlen
  show wpAny (model prog w) callerA (call (.ref 115) [.ref _]) _ _ s₁
  refine law_nf (hb := hideAll s₁.heap [45]) GG (hideAll_none _ (.head _)) ⟨fun b o e => of_hideAll _ e, Nat.le_of_eq (hideAll_size _ _), _, e45, cto_nil⟩ (AllBare.of_eq hg) rfl rfl (by decide) (by decide) ?hl hI ?h63 fun h' G' d' tk' tb' k1 e1 ct1 b1 => ?_
  case hl =>
    obtain ⟨ol, el, hc, r⟩ := hL
    exact ⟨ol, hideAll_get _ el (fun q => by rw [List.mem_singleton.mp q, e45] at el; cases el; exact absurd hc (by simp)), hc, r⟩
  case h63 => omega
  refine ⟨.inl ⟨_, .bool true, [], rfl, ?_, ?_, ?_, ?_⟩, ?_, rfl, b1⟩
  · intro cls; rfl
  · exact ReadsW.bool _
  · first | kernel_rfl | (with_unfolding_all rfl) | (simp [PySem.Challenge.rw_aq6005_01]; done) | fin_arith
  · intro _; exact ⟨List.nodup_nil, fun a ha => by cases ha⟩
  · have ki : ∀ b o, b ≠ 45 → s₁.heap.get? b = some o → h'.get? b = some o := fun b o n e => k1 b o (hideAll_get _ e (by simpa using n))
    obtain ⟨ps, e2, _⟩ := ct1
    refine ⟨fun b o e => ?_, fun b o e => ?_⟩
    · by_cases q : b = 45
      · subst q
        rw [e45] at e
        cases e
        refine .inr (.inl ⟨?_, rfl, #[], ps, rfl, ?_⟩)
        · obtain ⟨oc, vs, _, _, _, _, _, _, _, c1, c2, _, _, _, _, _, c3, c4⟩ := code49 KX
          exact ⟨49, oc, vs, c1, c3, c2, c4⟩
        · rw [e1, e2]; simp
      · exact .inl (ki b o q e)
    · by_cases q : b = 45
      · subst q; exact ⟨_, e1⟩
      · exact ⟨o, ki b o q e⟩

end Mine
theorem PySem.Challenge.cw_aq6005_01_holds : PySem.Challenge.rw_aq6005_01.Holds := by
  exact Mine.law_holds

