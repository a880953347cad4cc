import PyProof.Rows.All
import Wide.All
import OpenK.AllK
import Wide.FinOn
import Lean
import PySem.Challenge.RW_pd0085_01
set_option Elab.async false
-- HD0
section
open PySem PySem.W PyProof.Rows
set_option Elab.async false
set_option maxRecDepth 100000
set_option maxHeartbeats 8000000
namespace Mine
/-- the head has been entered once -/
structure Entered : Prop where
  yes : True
theorem two_goals {P Q : Prop} (hl : P) (main : Q) : Q := (fun _ => main) hl
theorem three_goals {P R Q : Prop} (hl : P) (hc : R) (main : Q) : Q := (fun _ _ => main) hl hc
/-- the head with its two halves left open: it lays the view and the written part -/
theorem pre : ∃ P T : Prop, P → T → PySem.Challenge.rw_pd0085_01.Holds := by
  apply Exists.intro
  apply Exists.intro
  case h.h =>
    intro hP hT
    w_on
    o_law
    apply three_goals
    rotate_left 2
    focus (k_head)
    case hw => w_witness2
    case hl => exact hP
    case hc => exact hT
/-- the addresses of the written part -/
def written : List Addr := [2, 3, 15, 17, 18, 20, 21, 22, 24, 25, 27, 28, 29, 36, 38, 39, 41, 42, 43, 44, 45, 48, 55, 57, 58, 60, 61, 62, 64, 65, 67, 68, 69, 71, 72, 74, 75, 76, 77, 78, 81, 83, 84, 86, 87, 88, 90, 91, 93, 94, 95, 97, 98, 100, 101, 102, 104, 105, 107, 108, 109, 111, 112, 114, 115, 116, 118, 119, 121, 122, 123, 125, 126, 128, 129, 130, 133, 134, 145, 147, 148, 150, 151, 152, 154, 155, 157, 158, 159, 161, 162, 164, 165, 166, 168, 169, 171, 172, 173, 175, 176, 178, 179, 180, 182, 183, 185, 186, 187, 189, 190, 192, 193, 194, 195, 196, 197, 198, 201, 203, 204, 206, 207, 208, 211, 212, 213, 216, 217]
/-- the top run in a world whose row says b: what is seen behind it -/
abbrev HalfO (p q : Program) (loose : List Str) (Xt : Shared → Bool) {α : Type} (Yf : Shared → α) (Ya : World → α) (N : Nat) (row : String) (b : Bool) : Prop :=
  ∀ w : World, (fencedOpening treeTable p w N).map (fun s₀ => (topFrom treeTable p (w.withFollow row b) N s₀).map (fun s => (openSeen q loose (importedModules p.main.body) Xt true s, Yf s))) = some (some (openGood q loose, Ya (w.withFollow row b)))
theorem written_is : ∀ P, written = (Mine.pre.heap_39 P).map (·.1) := fun _ => by kernel_rfl
theorem top_false : HalfO PySem.Challenge.rw_pd0085_01.row.toRowW.prog Mine.pre.view_39 [Str.ofString "Whitespace"] (fun s => xlAt Mine.pre.view_39 [] s && recOk (RowW.records PySem.Challenge.rw_pd0085_01.row.toRowW) s)
    (kHook Mine.pre.heap_39 written written_is).obs (kHook Mine.pre.heap_39 written written_is).val 3078 "special-get-raises" false := fun w => by kernel_rfl
theorem top_true : HalfO PySem.Challenge.rw_pd0085_01.row.toRowW.prog Mine.pre.view_39 [Str.ofString "Whitespace"] (fun s => xlAt Mine.pre.view_39 [] s && recOk (RowW.records PySem.Challenge.rw_pd0085_01.row.toRowW) s)
    (kHook Mine.pre.heap_39 written written_is).obs (kHook Mine.pre.heap_39 written written_is).val 3078 "special-get-raises" true := fun w => by kernel_rfl
theorem left_two {p q : Program} {loose : List Str} {Xt : Shared → Bool} {α : Type} {Yf : Shared → α} {Ya : World → α} {N : Nat} {g0 : Bool} (row : String)
    (hf : ∀ w : World, (fencedOpening treeTable p w N).map (fun s₀ => (topFrom treeTable p (w.withFollow row false) N s₀).map (fun s => (openSeen q loose (importedModules p.main.body) Xt g0 s, Yf s))) = some (some (openGood q loose, Ya (w.withFollow row false))))
    (ht : ∀ w : World, (fencedOpening treeTable p w N).map (fun s₀ => (topFrom treeTable p (w.withFollow row true) N s₀).map (fun s => (openSeen q loose (importedModules p.main.body) Xt g0 s, Yf s))) = some (some (openGood q loose, Ya (w.withFollow row true)))) : LeftO p q loose Xt Yf Ya N g0 := by
  refine LeftO.of_split row fun w => ?_
  obtain ⟨s₀, a, b⟩ := Option.map_eq_some_iff.mp (hf w)
  obtain ⟨s₁, a', b'⟩ := Option.map_eq_some_iff.mp (ht w)
  rw [a] at a' ⊢
  obtain rfl := Option.some.inj a'
  rw [Option.map_some, b, b']
/- the head's own check: the whole top at once, in the place of the pieces (their certificates alone fill 20 MB) -/
local macro_rules | `(tactic| k_head) => `(tactic| (
    (fail_if_success (have h : Entered := by assumption));
    apply two_goals;
    rotate_left;
    focus (have once : Entered := ⟨trivial⟩; k_head);
    (case' hl => apply left_two "special-get-raises");
    (case hf => exact top_false);
    (case ht => exact top_true)))
open_top hd for PySem.Challenge.rw_pd0085_01
end Mine
end
-- Base
section
open PySem PySem.W PySem.Calls PyProof.Rows
set_option Elab.async false
set_option maxRecDepth 100000
set_option maxHeartbeats 8000000
namespace Mine


abbrev TR (mg mb : Str → Option Value) (h : Heap) : Prop := TopRead Mine.hd.view_39 (looseW Mine.hd.view_39 [Str.ofString "Whitespace"]) mg mb h

/-- a plain def of the written part is called: its body is run on a new frame -/
theorem call_raw {w : World} {A : Around} {s : Shared} {Q E : Value → Shared → Prop} {mg mb : Str → Option Value}
    {name qual : Str} {params : Arguments} {body : List Stmt} {scope : Scope} {dV kV doc pm cdv ct oc : Value} {an od : Option Addr} {osl : Array (Option Value)} {f : Addr} {pos : List Value} {binds : List (Str × Value)}
    (X : (Mine.hd.heap_39 w.params).In s.heap) (T : TR mg mb s.heap)
    (ho : (Mine.hd.heap_39 w.params).lookup f = some ⟨oc, od, .func (fnOf name qual params body scope dV kV doc pm an cdv ct), osl⟩) (hcd : codeIn (Mine.hd.heap_39 w.params) cdv qual = true) (hroom : A.depth < recursionLimit)
    (hbind : BindsTo s (fnOf name qual params body scope dV kV doc pm an cdv ct) ⟨pos, []⟩ binds) (hloc : ∀ y ∈ binds, scope.names.lookup y.1 = some .local)
    (h : ∀ h₁, Fr s.heap s.heap.objs.size h₁ (fun y => binds.reverse.lookup y) →
      wpAny (model Challenge.rw_pd0085_01.row.prog w) (A.deeper (envOf qual scope s.heap.objs.size f cdv)) (execs body (envOf qual scope s.heap.objs.size f cdv))
        (fun fl s' => Q (match fl with | .ret v => v | _ => .none) s') (fun _ _ => False)
        { s with heap := h₁, toks := s.toks + binds.length })
    (hcell : ∀ x ∈ scope.names, x.2 ≠ .cell) (hco : scope.isCoroutine = false) (hgen : scope.isGenerator = false) (hk : scope.kind = .function) :
    wpAny (model Challenge.rw_pd0085_01.row.prog w) A (call (.ref f) pos) Q E s := by
  refine wpAny_call ?_
  refine codeAny_call_def (fd := fnOf name qual params body scope dV kV doc pm an cdv ct) (body := body) (binds := binds) hroom (X _ _ ho) rfl T.nolimit (codeRec_of X hcd) rfl hbind hcell hloc (fun h₁ hns hk₁ => ?_) hco hgen hk
  exact wpAny_mono (h h₁ ⟨hns, hk₁, Nat.le_refl _⟩) (fun fl s' hl => hl) fun _ _ y => y.elim
end Mine
end
-- R1
section
open PySem PySem.W PySem.Calls PyProof.Rows
set_option Elab.async false
set_option maxRecDepth 100000
set_option maxHeartbeats 8000000
namespace Mine
section
variable {prog : Program} {w : World} {A : Around} {E : Value → Shared → Prop} {s : Shared}

theorem nested_str {k : Value} {dep : Int} {tk : Tok} {Q : Fin → Shared → Prop} (hk : k = .int dep tk) (hq : Q (.done (.ret (.bool true))) s) :
    wpAny (model prog w) A (Builtin.«issubclass.nested» ⟨[.type "str", .type "str", k], []⟩) Q E s := by
  subst hk
  have hself : isSubtype (.type "str") (.type "str") = pure true := by rw [isSubtype_type]; kernel_rfl
  wp_walk
  exact hq
theorem plain_nested : plainId "issubclass.nested" = true := by decide +kernel
theorem check_nested (a b c : Value) : checkBuiltinCall "issubclass.nested" ⟨[a, b, c], []⟩ = pure () := by kernel_rfl
theorem nested_tup {D : Addr} {k : Value} {tk : Tok} {Q : Fin → Shared → Prop} (hk : k = .int 0 tk) (hD : s.heap.get? D = some { cls := .type "tuple", data := .seq #[.type "str", .type "bytes"] }) (hq : Q (.done (.ret (.bool true))) s) :
    wpAny (model prog w) A (Builtin.«issubclass.nested» ⟨[.type "str", .ref D, k], []⟩) Q E s := by
  subst hk
  have hself2 : isSubtype (.type "tuple") (.type "tuple") = pure true := by rw [isSubtype_type]; kernel_rfl
  wp_walk
  refine codeAny_call_builtin plain_nested F.entry_issubclass_nested ?_
  rw [check_nested]
  refine wpAny_pure (nested_str rfl ?_)
  dsimp only
  wp_walk
  exact hq
theorem issub_str {D : Addr} {Q : Value → Shared → Prop} (hD : s.heap.get? D = some { cls := .type "tuple", data := .seq #[.type "str", .type "bytes"] }) (hq : Q (.bool true) s) :
    wpAny (model prog w) A (call (.builtin "issubclass") [.type "str", .ref D]) Q E s :=
  call_issubclass (S := fun _ R s => s.heap.get? D = some { cls := .type "tuple", data := .seq #[.type "str", .type "bytes"] } ∧ R (.ok (.ret (.bool true))) s)
    (fun _ _ _ _ _ hs => issubclass_outer (nested_tup rfl hs.1 hs.2)) ⟨hD, hq⟩
end
end Mine
end
-- R2
section
open PySem PySem.W PySem.Calls PyProof.Rows
set_option Elab.async false
set_option maxRecDepth 100000
set_option maxHeartbeats 8000000
namespace Mine
section
variable {h₀ h h' : Heap} {L r : Addr} {m : Str → Option Value} {news : List (Addr × Obj)} {o : Obj}
theorem fr_stays (F : Fr h₀ L h m) (k : h.StaysIn h') : Fr h₀ L h' m := ⟨F.ns.keeps k, fun b o e => k b o (F.keep b o e), F.above⟩
theorem news_stays (N : News h₀ L h news) (k : h.StaysIn h') : News h₀ L h' news := fun p hp => ⟨k _ _ (N p hp).1, (N p hp).2⟩
theorem news_fresh (F : Fr h₀ L h m) (N : News h₀ L h news) (k : h.StaysIn h') (hr : h.get? r = none) (ho : h'.get? r = some o) : News h₀ L h' ((r, o) :: news) := by
  intro p hp
  rcases List.mem_cons.mp hp with rfl | hp
  · refine ⟨ho, fun q => ?_, ?_⟩
    · obtain ⟨oL, _, _, hL, _⟩ := F.ns
      have q' : r = L := q
      subst q'; rw [hr] at hL; cases hL
    · cases hq : h₀.get? r with
      | none => rfl
      | some o' => have := F.keep _ _ hq; rw [hr] at this; cases this
  · exact news_stays N k p hp
theorem news_ne (N : News h₀ L h news) (hr : h.get? r = none) : ∀ p ∈ news, p.1 ≠ r := fun p hp q => by
  have := (N p hp).1
  rw [q, hr] at this; cases this
end
def AllNe (d : Nat) : List (Addr × Obj) → Prop
  | [] => True
  | p :: r => @Ne Nat p.1 d ∧ AllNe d r
theorem allNe_of {d : Addr} : ∀ {l : List (Addr × Obj)}, (∀ p ∈ l, p.1 ≠ d) → AllNe d l
  | [], _ => trivial
  | _ :: _, h => ⟨h _ (.head _), allNe_of fun q hq => h q (.tail _ hq)⟩
end Mine
end
-- R3
section
open PySem PySem.W PySem.Calls PyProof.Rows
set_option Elab.async false
set_option maxRecDepth 100000
set_option maxHeartbeats 8000000
namespace Mine
theorem raw_peek1 {α : Type} {K : Frag} {M : Model} {A : Around} {E : Value → Shared → Prop} {Q : α → Shared → Prop} {s : Shared} {o : Obj} {r : Addr → α}
    (X : K.In s.heap) (q : Q (r s.heap.objs.size) { s with heap := s.heap.push o }) :
    ∀ (t : Sem α) (g : Addr → Option α), peek1 K ⟨M.prog, M.w.params⟩ t = some (o, g) → (∀ D, g D = some (r D)) → wpAny M A t Q E s := by
  intro t
  induction t with
  | rule _ k ih => intro g e hg Γ p hΓ; exact ih () g e hg Γ p hΓ
  | point _ k ih => intro g e hg Γ p hΓ; exact ih () g e hg Γ p hΓ
  | ask k ih => intro g e hg Γ p hΓ; exact ih _ g e hg Γ p hΓ
  | load a _ k ih =>
    intro g e hg Γ p hΓ
    simp only [peek1] at e
    split at e
    · rename_i ob ho; exact ⟨ob, X _ _ ho, ih ob g e hg Γ p hΓ⟩
    · cases e
  | alloc ob k _ =>
    intro g e hg
    have e : some (ob, fun D => peek K ⟨M.prog, M.w.params⟩ (k D)) = some (o, g) := e
    obtain ⟨e1, e2⟩ := Prod.mk.inj (Option.some.inj e)
    subst e1
    subst e2
    have X' : K.In (s.heap.push ob) := X.keeps fun b x hb => Heap.get?_push_of_some _ hb
    show wpAny M A (alloc ob >>= k) Q E s
    refine wpAny_bind (wpAny_alloc ?_)
    exact (Looks.of_peek (M := M) (h := s.heap.push ob) X' (hg s.heap.objs.size)).here (s := { s with heap := s.heap.push ob }) q
  | _ => intro g e; cases e

/-- a def with a rest parameter -/
theorem call_rest {w : World} {A : Around} {s : Shared} {Q E : Value → Shared → Prop} {mg mb : Str → Option Value}
    {name qual : Str} {params : Arguments} {body : List Stmt} {scope : Scope} {dV kV doc pm cdv ct oc : Value} {an od : Option Addr} {osl : Array (Option Value)} {f : Addr} {pos vs : List Value}
    {g₁ : Addr → Option (List (Str × Value))} {binds : Addr → List (Str × Value)}
    (X : (Mine.hd.heap_39 w.params).In s.heap) (T : TR mg mb s.heap)
    (ho : (Mine.hd.heap_39 w.params).lookup f = some ⟨oc, od, .func (fnOf name qual params body scope dV kV doc pm an cdv ct), osl⟩) (hcd : codeIn (Mine.hd.heap_39 w.params) cdv qual = true) (hroom : A.depth < recursionLimit)
    (hp : peek1 (Mine.hd.heap_39 w.params) ⟨Challenge.rw_pd0085_01.row.prog, w.params⟩ (bindArgs (fnOf name qual params body scope dV kV doc pm an cdv ct) ⟨pos, []⟩) = some (({ cls := .type "tuple", data := .seq vs.toArray } : Obj), g₁))
    (hg : ∀ D, g₁ D = some (binds D)) (hloc : ∀ D, ∀ y ∈ binds D, scope.names.lookup y.1 = some .local)
    (h : ∀ h₁ L D, Fr s.heap L h₁ (fun y => (binds D).reverse.lookup y) → News s.heap L h₁ [(D, ({ cls := .type "tuple", data := .seq vs.toArray } : Obj))] →
      wpAny (model Challenge.rw_pd0085_01.row.prog w) (A.deeper (envOf qual scope L f cdv)) (execs body (envOf qual scope L f cdv))
        (fun fl s' => Q (match fl with | .ret v => v | _ => .none) s') (fun _ _ => False)
        { s with heap := h₁, toks := s.toks + (binds D).length })
    (hcell : ∀ x ∈ scope.names, x.2 ≠ .cell) (hco : scope.isCoroutine = false) (hgen : scope.isGenerator = false) (hk : scope.kind = .function) :
    wpAny (model Challenge.rw_pd0085_01.row.prog w) A (call (.ref f) pos) Q E s := by
  refine wpAny_call ?_
  refine codeAny_call_function (fd := fnOf name qual params body scope dV kV doc pm an cdv ct) (body := body) hroom (X _ _ ho) rfl hco hgen rfl (codeRec_of X hcd) ?_
  refine raw_peek1 (o := { cls := .type "tuple", data := .seq vs.toArray }) (r := binds) X ?_ _ g₁ hp hg
  have hlim : (s.heap.push ({ cls := .type "tuple", data := .seq vs.toArray } : Obj)).NoLimit := T.nolimit.keeps fun b x hb => Heap.get?_push_of_some _ hb
  refine wpAny_newFunctionEnv hcell (hloc _) (fun h₁ hns hsb => ⟨hlim.fresh _ hsb, codeAny_func ?_⟩) hk
  have hk₁ : ∀ b o, (s.heap.push ({ cls := .type "tuple", data := .seq vs.toArray } : Obj)).get? b = some o → h₁.get? b = some o := fun b o e => hsb.extBut b o (Nat.ne_of_lt (Heap.lt_size e)) (Heap.get?_push_of_some _ e)
  refine wpAny_mono (h h₁ _ s.heap.objs.size ⟨hns, fun b o e => hk₁ b o (Heap.get?_push_of_some _ e), by rw [Heap.size_push]; exact Nat.le_succ _⟩ ?_) (fun fl s' hl => hl) fun _ _ y => y.elim
  intro p hp
  have := List.mem_singleton.mp hp
  subst this
  refine ⟨hk₁ _ _ (Heap.get?_push_size _ rfl), ?_, Heap.get?_none_of_le (Nat.le_refl _)⟩
  show s.heap.objs.size ≠ (s.heap.push _).objs.size
  rw [Heap.size_push]; exact Nat.ne_of_lt (Nat.lt_succ_self _)
end Mine
end
-- F1
section
open PySem PySem.W PySem.Calls PyProof.Rows
set_option Elab.async false
set_option maxRecDepth 100000
set_option maxHeartbeats 8000000
namespace Mine
local macro_rules | `(tactic| walk_at $s:str) => `(tactic| k_extra $s)
theorem fspath_spec {w : World} {A : Around} {s : Shared} {Q E : Value → Shared → Prop} {mg mb : Str → Option Value} {x : Str} {t : Tok}
    (X : (Mine.hd.heap_39 w.params).In s.heap) (T : TR mg mb s.heap) (hroom : A.depth < recursionLimit)
    (h : ∀ h' tk', s.heap.StaysIn h' → Q (.str x t) { s with heap := h', toks := tk' }) :
    wpAny (model Challenge.rw_pd0085_01.row.prog w) A (call (.ref 94) [.str x t]) Q E s := by
  k_with_none
  (k_with "call builtin:issubclass" => (refine' issub_str ?kwk1 ?_; (case kwk1 => exact News.get (by k_asm) (by k_mem))))
  revert X T
  w_on
  k_fill
  intro X T
  refine' call_raw X T ?ho ?hcd hroom ?hb ?hl ?_ ?hc ?c1 ?c2 ?c3
  case ho => k_is
  case hcd => k_is
  case hb => exact BindsTo.of_eq rfl
  case hl => exact locs rfl
  case hc => decide
  case c1 => rfl
  case c2 => rfl
  case c3 => rfl
  · intro h₁ F
    have N : News s.heap s.heap.objs.size h₁ [] := News.nil
    dsimp only
    k_steps
    exact h _ _ (Fr.keep (by assumption))
theorem getsep_spec {w : World} {A : Around} {s : Shared} {Q E : Value → Shared → Prop} {mg mb : Str → Option Value} {x : Str} {t : Tok}
    (X : (Mine.hd.heap_39 w.params).In s.heap) (T : TR mg mb s.heap) (hroom : A.depth < recursionLimit)
    (h : ∀ h' t' tk', s.heap.StaysIn h' → Q (.str (Str.ofString "/") t') { s with heap := h', toks := tk' }) :
    wpAny (model Challenge.rw_pd0085_01.row.prog w) A (call (.ref 108) [.str x t]) Q E s := by
  k_with_none
  (k_with "call builtin:issubclass" => (refine' issub_str ?kwk1 ?_; (case kwk1 => exact News.get (by k_asm) (by k_mem))))
  revert X T
  w_on
  k_fill
  intro X T
  refine' call_raw X T ?ho ?hcd hroom ?hb ?hl ?_ ?hc ?c1 ?c2 ?c3
  case ho => k_is
  case hcd => k_is
  case hb => exact BindsTo.of_eq rfl
  case hl => exact locs rfl
  case hc => decide
  case c1 => rfl
  case c2 => rfl
  case c3 => rfl
  · intro h₁ F
    have N : News s.heap s.heap.objs.size h₁ [] := News.nil
    dsimp only
    k_steps
    exact h _ _ _ (Fr.keep (by assumption))

section
variable {w : World} {A : Around} {s : Shared} {Q E : Value → Shared → Prop} {mg mb m : Str → Option Value} {h₀ : Heap} {L : Addr} {news : List (Addr × Obj)} {x : Str} {t : Tok}
theorem fspath_K (F : Fr h₀ L s.heap m) (N : News h₀ L s.heap news) (X : (Mine.hd.heap_39 w.params).In h₀) (T : TR mg mb h₀) (hroom : A.depth < recursionLimit)
    (h : ∀ h' tk', Fr h₀ L h' m → News h₀ L h' news → Q (.str x t) { s with heap := h', toks := tk' }) :
    wpAny (model Challenge.rw_pd0085_01.row.prog w) A (call (.ref 94) [.str x t]) Q E s :=
  fspath_spec (X.keeps F.keep) (T.keeps F.keep) hroom fun h' tk' k => h h' tk' (fr_stays F k) (news_stays N k)
theorem getsep_K (F : Fr h₀ L s.heap m) (N : News h₀ L s.heap news) (X : (Mine.hd.heap_39 w.params).In h₀) (T : TR mg mb h₀) (hroom : A.depth < recursionLimit)
    (h : ∀ h' t' tk', Fr h₀ L h' m → News h₀ L h' news → Q (.str (Str.ofString "/") t') { s with heap := h', toks := tk' }) :
    wpAny (model Challenge.rw_pd0085_01.row.prog w) A (call (.ref 108) [.str x t]) Q E s :=
  getsep_spec (X.keeps F.keep) (T.keeps F.keep) hroom fun h' t' tk' k => h h' t' tk' (fr_stays F k) (news_stays N k)
end
end Mine
end
-- F2
section
open PySem PySem.W PySem.Calls PyProof.Rows
set_option Elab.async false
set_option maxRecDepth 100000
set_option maxHeartbeats 8000000
namespace Mine
def joinS (a b : Str) : Str := if Txt.startswith b (Str.ofString "/") || a.length == 0 then b else if Txt.endswith a (Str.ofString "/") then a ++ b else a ++ ((Str.ofString "/") ++ b)
local macro_rules | `(tactic| walk_at $s:str) => `(tactic| k_extra $s)
theorem join_spec {w : World} {dp un : Nat} {fr : Option (List Env)} {gd : Option (List Code)} {s : Shared} {Q E : Value → Shared → Prop} {mg mb : Str → Option Value} {a b : Str} {t u : Tok}
    (X : (Mine.hd.heap_39 w.params).In s.heap) (T : TR mg mb s.heap) (hd : dp < 900)
    (ha : a.length ≤ 1000) (hb : b.length ≤ 1000)
    (h : ∀ r h' t' tk', r = joinS a b → s.heap.StaysIn h' → Q (.str r t') { s with heap := h', toks := tk' }) :
    wpAny (model Challenge.rw_pd0085_01.row.prog w) { handled := none, depth := dp, frames := fr, guards := gd, units := un } (call (.ref 115) [.str a t, .str b u]) Q E s := by
  k_with_none
  (k_with "call ref" => ((with_reducible show wpAny _ _ (call (Value.ref 94) [Value.str _ _]) _ _ _); (refine' fspath_K ?kwF ?kwN ?kwX ?kwT ?kwr ?_; (case kwF => k_asm); (case kwN => k_asm); (case kwX => k_asm); (case kwT => k_asm); (case kwr => ((show _ < 1000); (try simp only [depth_deeper]); omega)); intro kw_h' kw_tk' kw_F' kw_N'; (try k_sweep))))
  (k_with "call ref" => ((with_reducible show wpAny _ _ (call (Value.ref 108) [Value.str _ _]) _ _ _); (refine' getsep_K ?kwF ?kwN ?kwX ?kwT ?kwr ?_; (case kwF => k_asm); (case kwN => k_asm); (case kwX => k_asm); (case kwT => k_asm); (case kwr => ((show _ < 1000); (try simp only [depth_deeper]); omega)); intro kw_h' kw_t' kw_tk' kw_F' kw_N'; (try k_sweep))))
  revert X T
  w_on
  k_fill
  intro X T
  refine' call_rest (vs := [Value.str b u]) (binds := fun D => [(Str.ofString "a", Value.str a t), (Str.ofString "p", Value.ref D)]) X T ?ho ?hcd ?hr ?hp ?hg ?hl ?_ ?hc ?c1 ?c2 ?c3
  case ho => k_is
  case hcd => k_is
  case hr => (show dp < 1000); omega
  case hp => exact rfl
  case hg => exact fun _ => rfl
  case hl => exact fun _ => locs rfl
  case hc => decide
  case c1 => rfl
  case c2 => rfl
  case c3 => rfl
  · intro h₁ L D F N
    try dsimp only
    k_steps
    all_goals refine h _ _ _ _ ?_ (Fr.keep (by assumption))
    all_goals unfold joinS
    all_goals simp [*]
    all_goals first | omega | (intro hz; exfalso; omega) | skip

section
variable {w : World} {dp un : Nat} {fr : Option (List Env)} {gd : Option (List Code)} {s : Shared} {Q E : Value → Shared → Prop} {mg mb m : Str → Option Value} {h₀ : Heap} {L : Addr} {news : List (Addr × Obj)} {a b : Str} {t u : Tok}
theorem join_K (F : Fr h₀ L s.heap m) (N : News h₀ L s.heap news) (X : (Mine.hd.heap_39 w.params).In h₀) (T : TR mg mb h₀) (hd : dp < 900) (ha : a.length ≤ 1000) (hb : b.length ≤ 1000)
    (h : ∀ r h' t' tk', r = joinS a b → Fr h₀ L h' m → News h₀ L h' news → Q (.str r t') { s with heap := h', toks := tk' }) :
    wpAny (model Challenge.rw_pd0085_01.row.prog w) { handled := none, depth := dp, frames := fr, guards := gd, units := un } (call (.ref 115) [.str a t, .str b u]) Q E s :=
  join_spec (X.keeps F.keep) (T.keeps F.keep) hd ha hb fun r h' t' tk' e k => h r h' t' tk' e (fr_stays F k) (news_stays N k)
end
end Mine
end
-- R4
section
open PySem PySem.W PySem.Calls PyProof.Rows
set_option Elab.async false
set_option maxRecDepth 100000
set_option maxHeartbeats 400000
namespace Mine
section
variable {prog : Program} {w : World} {A : Around} {E : Value → Shared → Prop} {s : Shared} {env : Env} {h₀ : Heap} {x : Str} {body : List Stmt} {Q : Flow → Shared → Prop}

/-- what a turn must end in -/
def TurnEnd (h₀ : Heap) (L I : Addr) (oI : Obj) (held : List (Addr × Obj)) (J : (Str → Option Value) → List (Addr × Obj) → Prop) (s : Shared) (Q : Flow → Shared → Prop) (f : Flow) (s₂ : Shared) : Prop :=
  match f with
  | .ret v => Q (.ret v) s₂
  | .brk => Q .next s₂
  | _ => ∃ h' tk m' nx, s₂ = { s with heap := h', toks := tk } ∧ Fr h₀ L h' m' ∧ News h₀ L h' ((I, oI) :: (held ++ nx)) ∧ AllNe I nx ∧ J m' nx
theorem TurnEnd.go {L I : Addr} {oI : Obj} {held news' nx : List (Addr × Obj)} {J : (Str → Option Value) → List (Addr × Obj) → Prop} {h' : Heap} {tk : Nat} {m' : Str → Option Value}
    (F : Fr h₀ L h' m') (N : News h₀ L h' news') (hsub : ∀ p ∈ (I, oI) :: (held ++ nx), p ∈ news') (ha : AllNe I nx) (hj : J m' nx) :
    TurnEnd h₀ L I oI held J s Q .next { s with heap := h', toks := tk } := ⟨h', tk, m', nx, rfl, F, fun p hp => N p (hsub p hp), ha, hj⟩
theorem TurnEnd.goC {L I : Addr} {oI : Obj} {held news' nx : List (Addr × Obj)} {J : (Str → Option Value) → List (Addr × Obj) → Prop} {h' : Heap} {tk : Nat} {m' : Str → Option Value}
    (F : Fr h₀ L h' m') (N : News h₀ L h' news') (hsub : ∀ p ∈ (I, oI) :: (held ++ nx), p ∈ news') (ha : AllNe I nx) (hj : J m' nx) :
    TurnEnd h₀ L I oI held J s Q .cont { s with heap := h', toks := tk } := ⟨h', tk, m', nx, rfl, F, fun p hp => N p (hsub p hp), ha, hj⟩

theorem allNe_mem {d : Addr} {l : List (Addr × Obj)} (h : AllNe d l) : ∀ p ∈ l, p.1 ≠ d := by
  induction l with
  | nil => intro p hp; cases hp
  | cons q r ih =>
    intro p hp
    have h' : q.1 ≠ d ∧ AllNe d r := h
    rcases List.mem_cons.mp hp with e | hp
    · rw [e]; exact h'.1
    · exact ih h'.2 p hp

theorem loop_gen {I : Addr} {fp : List Addr} {n : Nat} {P : Nat → Value → Prop} {St : Nat → Heap → Prop} (W : Walks prog w A I fp [I] n P St) {m₀ : Str → Option Value} {held news₀ : List (Addr × Obj)}
    (J : Nat → (Str → Option Value) → List (Addr × Obj) → Prop)
    (F : Fr h₀ env.locals s.heap m₀) (N : News h₀ env.locals s.heap (held ++ news₀)) (hst : St 0 s.heap) (hI0 : h₀.get? I = none) (hIL : I ≠ env.locals)
    (hfp : ∀ b ∈ fp, b = I ∨ b ∈ held.map (·.1) ∨ ∃ o, h₀.get? b = some o) (hne : AllNe I news₀) (hneh : AllNe I held) (hal : ∀ i h, St i h → ∃ o, h.get? I = some o)
    (hj : J 0 m₀ news₀)
    (turn : ∀ i v oI m₁ nx h tk, i < n → P i v → J i m₁ nx → AllNe I nx → Fr h₀ env.locals h (fun y => if y = x then some v else m₁ y) → News h₀ env.locals h ((I, oI) :: (held ++ nx)) →
      wpAny (model prog w) A (execs body env) (TurnEnd h₀ env.locals I oI held (J (i + 1)) s Q) E { s with heap := h, toks := tk })
    (done : ∀ m₁ nx h tk, J n m₁ nx → AllNe I nx → Fr h₀ env.locals h m₁ → News h₀ env.locals h (held ++ nx) → Q .next { s with heap := h, toks := tk }) :
    LoopAtV prog w A h₀ env x body Q E (.ref I) s := by
  have hLfp : env.locals ∉ fp := fun hm => by
    rcases hfp _ hm with e | e | ⟨o, e⟩
    · exact hIL e.symm
    · obtain ⟨p, hp, e⟩ := List.mem_map.mp e
      exact (N p (List.mem_append_left _ hp)).2.1 e
    · exact absurd (Heap.lt_size e) (Nat.not_lt.mpr F.above)
  let J' : Nat → (Str → Option Value) → List (Addr × Obj) → Prop := fun i m₁ nw => ∃ nx, nw = held ++ nx ∧ AllNe I nx ∧ J i m₁ nx
  refine ⟨I, fp, [I], n, P, St, m₀, held ++ news₀, J', rfl, W, hLfp, ?_, ?_, hst, F, N, ⟨news₀, rfl, hne, hj⟩, ?_, ?_⟩
  · intro b hb; rw [List.mem_singleton.mp hb]; exact hI0
  · intro p hp hI
    have e := List.mem_singleton.mp hI
    rcases List.mem_append.mp hp with h1 | h1
    · exact allNe_mem hneh p h1 e
    · exact allNe_mem hne p h1 e
  · rintro i v m₁ nw s₁ own ⟨hh', tk', rfl⟩ hin hP ⟨nx, rfl, hax, hJ⟩ hoff hown hval hall hst₁ F₁ N₁
    have hIfp : I ∈ fp := W.sub I (List.mem_singleton.mpr rfl)
    obtain ⟨oI, hoI⟩ := hal _ _ hst₁
    have hIown : (I, oI) ∈ own := hall I hIfp hI0 oI hoI
    have hown' : ∀ p ∈ own, p ∈ (I, oI) :: (held ++ nx) := by
      intro p hp
      rcases hfp _ (hown p hp) with e | e | ⟨o, e⟩
      · have e2 := hval p hp
        rw [e] at e2
        have e3 : hh'.get? I = some p.2 := e2
        rw [hoI] at e3
        have : p = (I, oI) := by
          obtain ⟨p1, p2⟩ := p
          have e4 : oI = p2 := Option.some.inj e3
          have e5 : p1 = I := e
          rw [e4, e5]
        rw [this]; exact List.mem_cons_self
      · obtain ⟨q, hq, e⟩ := List.mem_map.mp e
        have e2 := (N₁ p (List.mem_append_left _ hp)).1
        have e3 := (N₁ q (List.mem_append_right _ (List.mem_append_left _ hq))).1
        rw [← e, e3] at e2
        have : p = q := by
          obtain ⟨p1, p2⟩ := p
          obtain ⟨q1, q2⟩ := q
          have e4 : q2 = p2 := Option.some.inj e2
          have e5 : q1 = p1 := e
          rw [e4, e5]
        rw [this]; exact List.mem_cons_of_mem _ (List.mem_append_left _ hq)
      · have := (N₁ p (List.mem_append_left _ hp)).2.2
        rw [e] at this; cases this
    have N₂ : News h₀ env.locals hh' ((I, oI) :: (held ++ nx)) := by
      intro p hp
      rcases List.mem_cons.mp hp with rfl | hp
      · exact N₁ _ (List.mem_append_left _ hIown)
      · exact N₁ p (List.mem_append_right _ hp)
    refine wpAny_mono (turn i v oI m₁ nx hh' tk' hin hP hJ hax F₁ N₂) (fun f s₂ p => ?_) fun _ _ e => e
    have fin : (∃ h' tk m' nx, s₂ = { s with heap := h', toks := tk } ∧ Fr h₀ env.locals h' m' ∧ News h₀ env.locals h' ((I, oI) :: (held ++ nx)) ∧ AllNe I nx ∧ J (i + 1) m' nx) →
        LoopStepU h₀ env.locals [I] own (J' (i + 1)) { s with heap := hh', toks := tk' } .next s₂ := by
      rintro ⟨h', tk, m', nx', e, F', N', ha', hJ'⟩
      refine ⟨rfl, h', tk, m', held ++ nx', e, F', fun p hp => ?_, ?_, nx', rfl, ha', hJ'⟩
      · rcases List.mem_append.mp hp with h1 | h1
        · rcases List.mem_cons.mp (hown' p h1) with rfl | h2
          · exact N' _ List.mem_cons_self
          · rcases List.mem_append.mp h2 with h3 | h3
            · exact N' p (List.mem_cons_of_mem _ (List.mem_append_left _ h3))
            · -- an own object that is in nx as well
              rcases hfp _ (hown p h1) with e | e | ⟨o, e⟩
              · exact absurd e (allNe_mem hax p h3)
              · obtain ⟨q, hq, e⟩ := List.mem_map.mp e
                have e2 := (N₁ p (List.mem_append_left _ h1)).1
                have e3 := (N₁ q (List.mem_append_right _ (List.mem_append_left _ hq))).1
                rw [← e, e3] at e2
                have : p = q := by
                  obtain ⟨p1, p2⟩ := p
                  obtain ⟨q1, q2⟩ := q
                  have e4 : q2 = p2 := Option.some.inj e2
                  have e5 : q1 = p1 := e
                  rw [e4, e5]
                rw [this]; exact N' q (List.mem_cons_of_mem _ (List.mem_append_left _ hq))
              · have := (N₁ p (List.mem_append_left _ h1)).2.2
                rw [e] at this; cases this
        · exact N' p (List.mem_cons_of_mem _ h1)
      · intro p hp hI
        have e := List.mem_singleton.mp hI
        rcases List.mem_append.mp hp with h1 | h1
        · exact allNe_mem hneh p h1 e
        · exact allNe_mem ha' p h1 e
    cases f with
    | ret v => exact .ret p
    | brk => exact .brk p
    | next => exact .next (fin p)
    | cont => exact .cont (fin p)
  · rintro h' tk m' nw F' N' _ ⟨nx, rfl, hax, hJ⟩
    exact done m' nx h' tk hJ hax F' N'

/-- a list of the ledger's is walked -/
theorem iter_list {l : Addr} {vs : List Value} {nn : Nat} {m₀ : Str → Option Value} {held news news₀ : List (Addr × Obj)} (J : Nat → (Str → Option Value) → List (Addr × Obj) → Prop)
    (hh : A.handled = none) (F : Fr h₀ env.locals s.heap m₀) (N : News h₀ env.locals s.heap news) (hl : (l, ({ cls := .type "list", data := .seq vs.toArray nn } : Obj)) ∈ held) (hsub : ∀ p ∈ held ++ news₀, p ∈ news)
    (hj : J 0 m₀ news₀)
    (turn : ∀ i v I oI m₁ nx h tk, vs[i]? = some v → J i m₁ nx → AllNe I held → AllNe I nx → Fr h₀ env.locals h (fun y => if y = x then some v else m₁ y) → News h₀ env.locals h ((I, oI) :: (held ++ nx)) →
      wpAny (model prog w) A (execs body env) (TurnEnd h₀ env.locals I oI held (J (i + 1)) s Q) E { s with heap := h, toks := tk })
    (done : ∀ m₁ nx h tk, J vs.length m₁ nx → Fr h₀ env.locals h m₁ → News h₀ env.locals h (held ++ nx) → Q .next { s with heap := h, toks := tk }) :
    wpAny (model prog w) A (pyIter (.ref l)) (fun it s₂ => LoopAtV prog w A h₀ env x body Q E it s₂) E s := by
  have hlg := (N _ (hsub _ (List.mem_append_left _ hl))).1
  have hls : s.heap.IsList l vs.toArray := ⟨_, hlg, rfl, nn, rfl⟩
  have N₀ : News h₀ env.locals s.heap (held ++ news₀) := fun p hp => N p (hsub p hp)
  have hne : l ≠ s.heap.objs.size := Nat.ne_of_lt (Heap.lt_size hlg)
  refine wpAny_pyIter_list hls ?_
  have W := Walks.list (prog := prog) (w := w) hh s.heap.objs.size l hne vs.toArray
  have hsz : vs.toArray.size = vs.length := by simp
  rw [hsz] at W
  have big : ∀ p ∈ held ++ news₀, p.1 ≠ s.heap.objs.size := fun p hp => Nat.ne_of_lt (Heap.lt_size (N₀ p hp).1)
  refine loop_gen W J (F.push _) (fun p hp => ⟨Heap.get?_push_of_some _ (N₀ p hp).1, (N₀ p hp).2⟩) ⟨⟨_, Heap.get?_push_size _ rfl, rfl, rfl⟩, hls.at fun o e => Heap.get?_push_of_some _ e⟩ (next_is_new F) ?_ ?_ ?_ ?_ ?_ hj ?_ ?_
  · intro e; exact absurd F.ns.lt (e ▸ Nat.lt_irrefl _)
  · intro b hb
    rcases List.mem_cons.mp hb with e | hb
    · exact .inl e
    · rw [List.mem_singleton.mp hb]; exact .inr (.inl (List.mem_map.mpr ⟨_, hl, rfl⟩))
  · exact allNe_of fun p hp => big p (List.mem_append_right _ hp)
  · exact allNe_of fun p hp => big p (List.mem_append_left _ hp)
  · rintro i h ⟨⟨o, ho, _⟩, _⟩; exact ⟨o, ho⟩
  · intro i v oI m₁ nx h tk hi hP hJ hax F₁ N₁
    exact turn i v _ oI m₁ nx h tk (by simpa using hP) hJ (allNe_of fun p hp => big p (List.mem_append_left _ hp)) hax F₁ N₁
  · intro m₁ nx h tk hJ _ F₁ N₁
    exact done m₁ nx h tk hJ F₁ N₁
end
end Mine
end
-- R5
section
open PySem PySem.W PySem.Calls PyProof.Rows
set_option Elab.async false
set_option maxRecDepth 100000
set_option maxHeartbeats 400000
namespace Mine
section
variable {prog : Program} {w : World} {A : Around} {E : Value → Shared → Prop} {s : Shared} {h₀ : Heap} {L D : Addr} {m : Str → Option Value} {news news' : List (Addr × Obj)} {vs : List Value} {n : Nat}
theorem madeL (N : News h₀ L s.heap news) (hm : (D, listOf vs.toArray n) ∈ news) : s.heap.IsList D vs.toArray := ⟨_, (N _ hm).1, rfl, n, rfl⟩
theorem truthyL {b : Bool} {Q : Bool → Shared → Prop} (N : News h₀ L s.heap news) (hm : (D, listOf vs.toArray n) ∈ news) (hb : (!vs.isEmpty) = b) (hz : vs.length ≤ 100000) (h : ∀ k, Q b { s with toks := k }) : wpAny (model prog w) A (truthy (.ref D)) Q E s := by
  refine wpAny_truthy_list (madeL N hm) (by simp; omega) ?_
  have e : (!(vs.toArray).isEmpty) = b := by rw [← hb]; simp
  rw [e]
  exact h _
theorem item_last {value slice : Expr} {us : List Value} {y : Value} {u : Tok} {Q : Value → Shared → Prop} (N : News h₀ L s.heap news) (hm : (D, listOf (us ++ [y]).toArray n) ∈ news) (hz : us.length ≤ 100000) (h : Q y s)
    (hs : subscripted slice false (.ref D) (.int (-1) u) = operate [.ref D, .int (-1) u] (getItem (.ref D) (.int (-1) u)) := by with_unfolding_all rfl) :
    wpAny (model prog w) A (subscriptTail value slice (.ref D) (.int (-1) u)) Q E s :=
  tail_any (madeL N hm).typeIs slot_list_getitem.lookup (wpAny_getItem_list_neg (k := -1) (x := y) (madeL N hm) (by decide) (by simp; omega) (by decide) (by
    have e : ((-1 : Int) + ((us ++ [y]).toArray.size : Nat)).toNat = us.length := by simp; omega
    rw [e]; simp) h) hs
theorem appendL {x : Value} {Q : Value → Shared → Prop} (F : Fr h₀ L s.heap m) (N : News h₀ L s.heap news) (U : Upd D (listOf vs.toArray n) (listOf (vs ++ [x]).toArray (n + 1)) news news') (hz : vs.length ≤ 100000)
    (h : ∀ h', Fr h₀ L h' m → News h₀ L h' news' → Q .none { s with heap := h' }) : wpAny (model prog w) A (call (.builtin "list.append") [.ref D, x]) Q E s := by
  refine append_K F N (its := vs.toArray) (x := x) (n := n) ?_ h (by rw [sizeLine_eq]; simp; omega)
  have e : vs.toArray.push x = (vs ++ [x]).toArray := by simp
  rw [e]; exact U
theorem popL {us : List Value} {y : Value} {Q : Value → Shared → Prop} (F : Fr h₀ L s.heap m) (N : News h₀ L s.heap news) (U : Upd D (listOf (us ++ [y]).toArray n) (listOf us.toArray (n + 1)) news news') (hz : us.length ≤ 100000)
    (h : ∀ h', Fr h₀ L h' m → News h₀ L h' news' → Q y { s with heap := h' }) : wpAny (model prog w) A (call (.builtin "list.pop") [.ref D]) Q E s := by
  refine kl_pop F N (its := (us ++ [y]).toArray) (p := us) (y := y) (n := n) ?_ U (by rw [sizeLine_eq]; simp; omega) h
  exact kpa_last y us
theorem sum_le {B : Nat} : ∀ {ys : List Str}, (∀ y ∈ ys, y.length ≤ B) → (ys.map (·.length)).sum ≤ ys.length * B
  | [], _ => by simp
  | y :: r, h => by
    have h1 := h y (.head _)
    have h2 := sum_le (ys := r) fun z hz => h z (.tail _ hz)
    simp only [List.map_cons, List.sum_cons, List.length_cons]
    rw [Nat.succ_mul]; omega
theorem joinL {x : Str} {t : Tok} {ys : List Str} {Q : Value → Shared → Prop} (N : News h₀ L s.heap news) (hm : (D, listOf vs.toArray n) ∈ news) (hi : StrsAre vs ys) (hsep : x.length ≤ 16) (hb : ∀ y ∈ ys, y.length ≤ 500) (hl : ys.length ≤ 1000)
    (h : ∀ t' k, (Txt.join x ys).length ≤ 600000 → Q (.str (Txt.join x ys) t') { s with toks := k }) : wpAny (model prog w) A (call (.builtin "str.join") [.str x t, .ref D]) Q E s := by
  have := sum_le hb
  have h2 : ys.length * 500 ≤ 1000 * 500 := Nat.mul_le_mul_right _ hl
  have h3 : (Txt.join x ys).length ≤ (ys.map (·.length)).sum + ys.length * x.length := by
    show (Builtin.Str.glued x ys).length ≤ _
    rw [StrLaws.glued_eq_join]; exact StrLaws.join_length_le x ys
  have h4 : ys.length * x.length ≤ 1000 * 16 := Nat.mul_le_mul hl hsep
  exact join_listW (madeL N hm) (by simpa using hi) hsep (by omega) fun t' k => h t' k (by omega)
end
end Mine
end
-- R6
section
open PySem PySem.W PySem.Spec PySem.Calls PyProof.Rows
set_option Elab.async false
set_option maxRecDepth 100000
set_option maxHeartbeats 400000
namespace Mine
/-- a def that keeps names in cells -/
theorem call_cells {w : World} {A : Around} {s : Shared} {Q E : Value → Shared → Prop} {mg mb : Str → Option Value}
    {name qual : Str} {params : Arguments} {body : List Stmt} {scope : Scope} {dV kV doc pm cdv ct oc : Value} {an od : Option Addr} {osl : Array (Option Value)} {f : Addr} {pos : List Value} {binds : List (Str × Value)}
    (X : (Mine.hd.heap_39 w.params).In s.heap) (T : TR mg mb s.heap)
    (ho : (Mine.hd.heap_39 w.params).lookup f = some ⟨oc, od, .func (fnOf name qual params body scope dV kV doc pm an cdv ct), osl⟩) (hcd : codeIn (Mine.hd.heap_39 w.params) cdv qual = true) (hroom : A.depth < recursionLimit)
    (hbind : BindsTo s (fnOf name qual params body scope dV kV doc pm an cdv ct) ⟨pos, []⟩ binds)
    (hkind : (binds.all fun y => scope.names.lookup y.1 == some .local || scope.names.lookup y.1 == some .cell) = true)
    (hnd : ((cellsFrom 0 scope.names []).map (·.1)).Nodup)
    (h : ∀ L h₁ tk cells, s.heap.objs.size ≤ L → Fr s.heap L h₁ (bindL (envOfC qual scope L f cdv).kindOf binds fun _ => none) → News s.heap L h₁ cells →
      CellsAre (bindC (envOfC qual scope L f cdv).kindOf binds fun _ => none) (cellsFrom (L + 1) scope.names []) cells →
      wpAny (model Challenge.rw_pd0085_01.row.prog w) (A.deeper (envOfC qual scope L f cdv)) (execs body (envOfC qual scope L f cdv))
        (fun fl s' => Q (match fl with | .ret v => v | _ => .none) s') (fun _ _ => False)
        { s with heap := h₁, toks := tk })
    (hco : scope.isCoroutine = false) (hgen : scope.isGenerator = false) (hk : scope.kind = .function) :
    wpAny (model Challenge.rw_pd0085_01.row.prog w) A (call (.ref f) pos) Q E s := by
  refine wpAny_call ?_
  refine codeAny_call_function (fd := fnOf name qual params body scope dV kV doc pm an cdv ct) (body := body) hroom (X _ _ ho) rfl hco hgen rfl (codeRec_of X hcd) (hbind _ _ _ _ ?_)
  refine wpAny_newFunctionEnv_cells hk (kindsX hkind _) fun env' he s' x => ?_
  subst he
  refine ⟨T.nolimit.keeps x.toInCall.keep, codeAny_func ?_⟩
  obtain ⟨h₁, tk, rfl, _⟩ := x.done
  have hk₁ := x.toInCall.keep
  obtain ⟨cells, NC, Y⟩ := Cl.news (h₀ := s.heap) (Nat.le_refl _) fun n c hm => ⟨x.cell n c (lookup_of_mem_nodup (cellsFrom_names scope.names 0 (s.heap.objs.size + 1) [] [] rfl ▸ hnd) hm), x.above n c hm⟩
  exact wpAny_mono (h s.heap.objs.size h₁ tk cells (Nat.le_refl _) ⟨x.toInCall.ns, hk₁, Nat.le_refl _⟩ NC Y) (fun fl s' hl => hl) fun _ _ y => y.elim
end Mine
end
-- L1
section
open PySem PySem.W PySem.Calls PyProof.Rows
set_option Elab.async false
set_option maxRecDepth 100000
set_option maxHeartbeats 400000
namespace Mine
def normStep (ys : List Str) (c : Str) : List Str := if c = Str.ofString "" ∨ c = Str.ofString "." then ys else if c = Str.ofString ".." then ys.dropLast else ys ++ [c]
theorem strsAre_get : ∀ {vs : List Value} {ys : List Str}, StrsAre vs ys → ∀ {i : Nat} {v : Value}, vs[i]? = some v → ∃ y t, ys[i]? = some y ∧ v = .str y t
  | _, _, .nil, i, v, h => by simp at h
  | _, _, .cons y t r, 0, v, h => ⟨y, t, rfl, by simpa using h.symm⟩
  | _, _, .cons y t r, i + 1, v, h => by
    obtain ⟨z, u, h1, h2⟩ := strsAre_get r (i := i) (v := v) (by simpa using h)
    exact ⟨z, u, by simpa using h1, h2⟩
theorem strsAre_length : ∀ {vs : List Value} {ys : List Str}, StrsAre vs ys → vs.length = ys.length
  | _, _, .nil => rfl
  | _, _, .cons _ _ r => by simp [strsAre_length r]
theorem strsAre_append : ∀ {vs : List Value} {ys : List Str} {vs' : List Value} {ys' : List Str}, StrsAre vs ys → StrsAre vs' ys' → StrsAre (vs ++ vs') (ys ++ ys')
  | _, _, _, _, .nil, h => h
  | _, _, _, _, .cons y t r, h => .cons y t (strsAre_append r h)
theorem strsAre_push {vs : List Value} {ys : List Str} (h : StrsAre vs ys) (y : Str) (t : Tok) : StrsAre (vs ++ [.str y t]) (ys ++ [y]) := strsAre_append h (.cons y t .nil)
theorem strsAre_last : ∀ {vs : List Value} {ys : List Str}, StrsAre vs ys → vs = [] ∧ ys = [] ∨ ∃ us zs y t, vs = us ++ [.str y t] ∧ ys = zs ++ [y] ∧ StrsAre us zs
  | _, _, .nil => .inl ⟨rfl, rfl⟩
  | _, _, .cons y t r => by
    rcases strsAre_last r with ⟨rfl, rfl⟩ | ⟨us, zs, z, u, rfl, rfl, h⟩
    · exact .inr ⟨[], [], y, t, rfl, rfl, .nil⟩
    · exact .inr ⟨.str y t :: us, y :: zs, z, u, rfl, rfl, .cons y t h⟩
theorem take_succ_foldl {α β : Type} (f : β → α → β) (b : β) {l : List α} {i : Nat} {a : α} (h : l[i]? = some a) : (l.take (i + 1)).foldl f b = f ((l.take i).foldl f b) a := by
  rw [List.take_add_one, h]; simp

theorem normStep_sub (ys : List Str) (c : Str) : ∀ y ∈ normStep ys c, y ∈ ys ∨ y = c := by
  intro y hy
  unfold normStep at hy
  split at hy
  · exact .inl hy
  · split at hy
    · exact .inl ((List.dropLast_sublist _).subset hy)
    · rcases List.mem_append.mp hy with h | h
      · exact .inl h
      · exact .inr (List.mem_singleton.mp h)
theorem normStep_len (ys : List Str) (c : Str) : (normStep ys c).length ≤ ys.length + 1 := by
  unfold normStep
  split
  · omega
  · split
    · rw [List.length_dropLast]; omega
    · rw [List.length_append, List.length_singleton]; omega
theorem normFold_sub : ∀ (cs ys : List Str), ∀ y ∈ cs.foldl normStep ys, y ∈ ys ∨ y ∈ cs
  | [], _, _, h => .inl h
  | c :: r, ys, y, h => by
    rcases normFold_sub r (normStep ys c) y h with h1 | h1
    · rcases normStep_sub ys c y h1 with h2 | h2
      · exact .inl h2
      · exact .inr (h2 ▸ List.mem_cons_self)
    · exact .inr (List.mem_cons_of_mem _ h1)
theorem normFold_len : ∀ (cs ys : List Str), (cs.foldl normStep ys).length ≤ ys.length + cs.length
  | [], _ => by simp
  | c :: r, ys => by
    have h1 := normFold_len r (normStep ys c)
    have h2 := normStep_len ys c
    simp only [List.foldl_cons, List.length_cons]; omega
section
variable {prog : Program} {w : World} {A : Around} {E : Value → Shared → Prop} {s : Shared} {env : Env} {h₀ : Heap} {x : Str} {body : List Stmt} {Q : Flow → Shared → Prop}
structure NormIn (a : Addr) (m : Str → Option Value) : Prop where
  nc : m (Str.ofString "new_comps") = some (.ref a)
  dot : ∃ t, m (Str.ofString "dot") = some (.str (Str.ofString ".") t)
  dotdot : ∃ t, m (Str.ofString "dotdot") = some (.str (Str.ofString "..") t)
  sep : ∃ t, m (Str.ofString "sep") = some (.str (Str.ofString "/") t)
  ini : ∃ t, m (Str.ofString "initial_slashes") = some (.str (Str.ofString "/") t)
def NormEnd (h₀ : Heap) (L a lc I : Addr) (oI oc : Obj) (ys : List Str) (c : Str) (s : Shared) (f : Flow) (s' : Shared) : Prop :=
  (f = .next ∨ f = .cont) ∧ ∃ h' tk' m' vs' kk', s' = { s with heap := h', toks := tk' } ∧ Fr h₀ L h' m' ∧ News h₀ L h' [(I, oI), (lc, oc), (a, listOf vs'.toArray kk')] ∧ StrsAre vs' (normStep ys c) ∧ NormIn a m'
theorem NormEnd.mk' {L a lc I : Addr} {oI oc : Obj} {ys ys' : List Str} {c : Str} {f : Flow} {h' : Heap} {tk' : Nat} {m' : Str → Option Value} {vs' : List Value} {kk' : Nat} (hf : f = .next ∨ f = .cont) (F : Fr h₀ L h' m') (N : News h₀ L h' [(I, oI), (lc, oc), (a, listOf vs'.toArray kk')])
    (hvs : StrsAre vs' ys') (e : normStep ys c = ys') (hm : NormIn a m') : NormEnd h₀ L a lc I oI oc ys c s f { s with heap := h', toks := tk' } := ⟨hf, h', tk', m', vs', kk', rfl, F, N, e ▸ hvs, hm⟩
theorem NormIn.comp {a : Addr} {m : Str → Option Value} {v : Option Value} (h : NormIn a m) : NormIn a (fun y => if y = Str.ofString "comp" then v else m y) := by
  obtain ⟨m1, ⟨t2, m2⟩, ⟨t3, m3⟩, ⟨t4, m4⟩, ⟨t5, m5⟩⟩ := h
  exact ⟨(if_neg (by decide)).trans m1, ⟨t2, (if_neg (by decide)).trans m2⟩, ⟨t3, (if_neg (by decide)).trans m3⟩, ⟨t4, (if_neg (by decide)).trans m4⟩, ⟨t5, (if_neg (by decide)).trans m5⟩⟩
theorem str_nil {c : Str} (h : (c.length : Int) = 0) : c = Str.ofString "" := by
  have h' : c.cps.size = 0 := by have : c.length = c.cps.size := rfl; omega
  have : c.cps = #[] := Array.eq_empty_of_size_eq_zero h'
  cases c; simp_all; rfl
theorem ns_empty {ys : List Str} {c : Str} (h : (c.length : Int) = 0) : normStep ys c = ys := if_pos (.inl (str_nil h))
theorem ns_dot {ys : List Str} {c : Str} (h : (c == Str.ofString ".") = true) : normStep ys c = ys := if_pos (.inr (beq_iff_eq.mp h))
theorem ns_not {ys : List Str} {c : Str} (h0 : (c.length : Int) ≠ 0) (h : (c == Str.ofString ".") = false) : normStep ys c = if c = Str.ofString ".." then ys.dropLast else ys ++ [c] := by
  refine if_neg ?_
  rintro (e | e)
  · exact h0 (by rw [e]; rfl)
  · rw [e] at h; exact absurd h (by simp)
theorem ns_dd {ys : List Str} {c : Str} (h0 : (c.length : Int) ≠ 0) (h : (c == Str.ofString ".") = false) (h2 : (c != Str.ofString "..") = false) : normStep ys c = ys.dropLast := by
  rw [ns_not h0 h, if_pos (by simpa using h2)]
theorem ns_app {ys : List Str} {c : Str} (h0 : (c.length : Int) ≠ 0) (h : (c == Str.ofString ".") = false) (h2 : (c != Str.ofString "..") = true) : normStep ys c = ys ++ [c] := by
  rw [ns_not h0 h, if_neg (by simpa using h2)]
theorem norm_rule {comps : List Str} {lv : List Value} {a lc : Addr} {nn : Nat} {m₀ : Str → Option Value} {news : List (Addr × Obj)}
    (hh : A.handled = none) (F : Fr h₀ env.locals s.heap m₀) (N : News h₀ env.locals s.heap news) (hl : (lc, listOf lv.toArray nn) ∈ news) (ha : (a, listOf #[] 0) ∈ news) (hlv : StrsAre lv comps) (hb : ∀ c ∈ comps, c.length ≤ 500) (hcl : comps.length ≤ 1000)
    (hm : NormIn a m₀)
    (turn : ∀ m c t vs ys kk I oI h tk, c.length ≤ 500 → StrsAre vs ys → Str.ofString ".." ∉ ys → vs.length ≤ 2000 → @Ne Nat a I → @Ne Nat lc I → NormIn a m → Fr h₀ env.locals h (fun y => if y = x then some (.str c t) else m y) → News h₀ env.locals h [(I, oI), (lc, listOf lv.toArray nn), (a, listOf vs.toArray kk)] →
      wpAny (model prog w) A (execs body env) (NormEnd h₀ env.locals a lc I oI (listOf lv.toArray nn) ys c s) E { s with heap := h, toks := tk })
    (done : ∀ m vs ys kk h tk, NormIn a m → StrsAre vs ys → ys = comps.foldl normStep [] → (∀ y ∈ ys, y.length ≤ 500) → ys.length ≤ 1000 → Fr h₀ env.locals h m → News h₀ env.locals h [(a, listOf vs.toArray kk)] → Q .next { s with heap := h, toks := tk }) :
    wpAny (model prog w) A (pyIter (.ref lc)) (fun it s₂ => LoopAtV prog w A h₀ env x body Q E it s₂) E s := by
  have hlen := strsAre_length hlv
  refine iter_list (held := [(lc, listOf lv.toArray nn)]) (news₀ := [(a, listOf #[] 0)])
    (fun i m nx => ∃ vs ys kk, nx = [(a, listOf vs.toArray kk)] ∧ StrsAre vs ys ∧ ys = (comps.take i).foldl normStep [] ∧ Str.ofString ".." ∉ ys ∧ ys.length ≤ i ∧ NormIn a m) hh F N (List.mem_singleton.mpr rfl) ?_ ⟨[], [], 0, rfl, .nil, by simp, by simp, by simp, hm⟩ ?_ ?_
  · intro p hp
    rcases List.mem_cons.mp hp with rfl | hp
    · exact hl
    · rw [List.mem_singleton.mp hp]; exact ha
  · rintro i v I oI m₁ nx h tk hv ⟨vs, ys, kk, rfl, hvs, hys, hdd, hle, hm₁⟩ hI1 hI2 F₁ N₁
    obtain ⟨c, t, hc, rfl⟩ := strsAre_get hlv hv
    have hi : i < comps.length := by
      have := (List.getElem?_eq_some_iff.mp hc).1
      exact this
    refine wpAny_mono (turn m₁ c t vs ys kk I oI h tk (hb _ (List.mem_of_getElem? hc)) hvs hdd (by rw [strsAre_length hvs]; omega) hI2.1 hI1.1 hm₁ F₁ N₁) (fun f s' hs => ?_) fun _ _ e => e
    obtain ⟨hf, h', tk', m', vs', kk', rfl, F', N', hvs', hm'⟩ := hs
    have fin : ∃ h'' tk'' m'' nx'', ({ s with heap := h', toks := tk' } : Shared) = { s with heap := h'', toks := tk'' } ∧ Fr h₀ env.locals h'' m'' ∧ News h₀ env.locals h'' ((I, oI) :: ([(lc, listOf lv.toArray nn)] ++ nx'')) ∧ AllNe I nx'' ∧
        ∃ vs ys kk, nx'' = [(a, listOf vs.toArray kk)] ∧ StrsAre vs ys ∧ ys = (comps.take (i + 1)).foldl normStep [] ∧ Str.ofString ".." ∉ ys ∧ ys.length ≤ i + 1 ∧ NormIn a m'' := by
      refine ⟨h', tk', m', [(a, listOf vs'.toArray kk')], rfl, F', N', ⟨hI2.1, trivial⟩, vs', _, kk', rfl, hvs', ?_, ?_, ?_, hm'⟩
      · rw [take_succ_foldl _ _ hc, ← hys]
      · unfold normStep
        split
        · exact hdd
        · split
          · exact fun q => hdd ((List.dropLast_sublist _).subset q)
          · rename_i hn
            intro q
            rcases List.mem_append.mp q with q | q
            · exact hdd q
            · exact hn (List.mem_singleton.mp q).symm
      · unfold normStep
        split
        · omega
        · split
          · rw [List.length_dropLast]; omega
          · rw [List.length_append, List.length_singleton]; omega
    rcases hf with rfl | rfl
    · exact fin
    · exact fin
  · rintro m₁ nx h tk ⟨vs, ys, kk, rfl, hvs, hys, _, _, hm₁⟩ F₁ N₁
    have e : ys = comps.foldl normStep [] := by rw [hys, hlen, List.take_length]
    refine done m₁ vs ys kk h tk hm₁ hvs e ?_ ?_ F₁ fun p hp => N₁ p (List.mem_append_right _ hp)
    · intro y hy
      rw [e] at hy
      rcases normFold_sub comps [] y hy with h1 | h1
      · cases h1
      · exact hb y h1
    · have := normFold_len comps []
      rw [e]; simp only [List.length_nil] at this; omega
end
end Mine
end
-- R7
section
open PySem PySem.W PySem.Calls PyProof.Rows
set_option Elab.async false
set_option maxRecDepth 100000
set_option maxHeartbeats 1000000
namespace Mine
theorem mro_map : mroOf (.type "map") = pure [.type "map", .type "object"] := by rw [mroOf_type]; kernel_rfl
theorem lookup_map_new : typeLookup (.type "map") "__new__" = pure (some (.builtin "map.__new__")) := by rw [typeLookup_type, builtinLookup_eq_fast]; kernel_rfl
theorem slot_map_init : Slot "map" "__init__" "object.__init__" :=
  .of (owner := "object") (n := "__init__") (by rw [typeLookup_type, builtinLookup_eq_fast]; kernel_rfl) (by decide +kernel) (by decide +kernel) (by decide +kernel)
    (by first | exact .inl (by decide +kernel) | exact .inr (by decide +kernel)) (by rw [isSubtype_type]; kernel_rfl)
theorem called_map : TypeCalled "map" "map.__new__" "object.__init__" :=
  ⟨by decide +kernel, by decide +kernel, ⟨_, _, mro_map⟩, madeBy_type mro_map lookup_map_new (by decide +kernel), by decide +kernel, by rw [isSubtype_type]; kernel_rfl, slot_map_init⟩
theorem typeCall_map_2 (a b : Value) : checkTypeCall "map" ⟨[a, b], []⟩ = pure () := by kernel_rfl
theorem newCall_map_2 (a b : Value) : checkBuiltinCall "map.__new__" ⟨[.type "map", a, b], []⟩ = pure () := by kernel_rfl
theorem entry_map_new : entryFor table "map.__new__" = some Builtin.«map.__new__» := entryFor_of_tree (by kernel_rfl)
theorem sub_map : isSubtype (.type "map") (.type "map") = pure true := by rw [isSubtype_type]; kernel_rfl
theorem slot_map_next : Slot "map" "__next__" "map.__next__" :=
  .of (owner := "map") (n := "__next__") (by rw [typeLookup_type, builtinLookup_eq_fast]; kernel_rfl) (by decide +kernel) (by decide +kernel) (by decide +kernel)
    (by first | exact .inl (by decide +kernel) | exact .inr (by decide +kernel)) (by rw [isSubtype_type]; kernel_rfl)
theorem entry_map_next : entryFor table "map.__next__" = some Builtin.«map.__next__» := entryFor_of_tree (by kernel_rfl)
theorem args_map_next (a : Value) : argsOk "map.__next__" ⟨[a], []⟩ := by unfold argsOk; kernel_rfl
theorem slot_map_iter : Slot "map" "__iter__" "map.__iter__" :=
  .of (owner := "map") (n := "__iter__") (by rw [typeLookup_type, builtinLookup_eq_fast]; kernel_rfl) (by decide +kernel) (by decide +kernel) (by decide +kernel)
    (by first | exact .inl (by decide +kernel) | exact .inr (by decide +kernel)) (by rw [isSubtype_type]; kernel_rfl)
theorem args_map_iter (a : Value) : argsOk "map.__iter__" ⟨[a], []⟩ := by unfold argsOk; kernel_rfl
theorem entry_map_iter : entryFor table "map.__iter__" = some Builtin.«dict_keyiterator.__iter__» :=
  entryFor_alias (id' := "dict_keyiterator.__iter__") (by kernel_rfl) (by first | rfl | decide +kernel | (unfold String.splitOn; simp +decide [String.splitOnAux])) (by decide +kernel) (by kernel_rfl)
theorem map_no_len : typeLookup (.type "map") "__len__" = pure none := by rw [typeLookup_type, builtinLookup_eq_fast]; kernel_rfl
theorem map_no_hint : typeLookup (.type "map") "__length_hint__" = pure none := by rw [typeLookup_type, builtinLookup_eq_fast]; kernel_rfl

abbrev mapH1 (h : Heap) (l : Addr) : Heap := h.push { cls := .type "list_iterator", data := .fields #[.ref l, .int 0 0] }
abbrev mapH2 (h : Heap) (l : Addr) : Heap := (mapH1 h l).push { cls := .type "tuple", data := .seq #[.ref h.objs.size] }
abbrev mapH3 (h : Heap) (l : Addr) (f : Value) : Heap := (mapH2 h l).push { cls := .type "map", data := .fields #[.ref (mapH1 h l).objs.size, f] }
theorem meets_map_new (f : Value) (l : Addr) (xs : Array Value) :
    Meets (Builtin.«map.__new__» ⟨[.type "map", f, .ref l], []⟩) (fun _ R s => s.heap.IsList l xs ∧ R (.ok (.ret (.ref (mapH2 s.heap l).objs.size))) { s with heap := mapH3 s.heap l f }) :=
  .of_wp fun prog w A R s h => by
    obtain ⟨hp, g, d, tk, os⟩ := s; obtain ⟨hl, h⟩ := h
    have hsub := sub_map
    have hL : Heap.IsList (Shared.heap ⟨hp, g, d, tk, os⟩) l xs := hl
    wp_walk using wpAny_pyIter_list hL
    exact ⟨_, rfl, h⟩
section
variable {prog : Program} {w : World} {A : Around} {E : Value → Shared → Prop} {s : Shared}
theorem call_map_1 {f : Value} {l : Addr} {xs : Array Value} {Q : Value → Shared → Prop} (hl : s.heap.IsList l xs)
    (h : ∀ h' M T I, M = T + 1 → T = I + 1 → I = s.heap.objs.size → h'.objs.size = M + 1 → h'.get? M = some { cls := .type "map", data := .fields #[.ref T, f] } → h'.get? T = some { cls := .type "tuple", data := .seq #[.ref I] } →
      h'.IsListIter I l 0 → (∀ c o, s.heap.get? c = some o → h'.get? c = some o) → Q (.ref M) { s with heap := h' }) :
    wpAny (model prog w) A (call (.type "map") [f, .ref l]) Q E s := by
  refine callType_new called_map (by decide) (typeCall_map_2 _ _) (newCall_map_2 _ _) (fun obj => F.args_object_init_3 obj _ _) entry_map_new
    (meets_map_new f l xs) ⟨hl, ?_⟩
  have z1 : (mapH1 s.heap l).objs.size = s.heap.objs.size + 1 := Heap.size_push ..
  have z2 : (mapH2 s.heap l).objs.size = s.heap.objs.size + 2 := by rw [Heap.size_push, z1]
  have z3 : (mapH3 s.heap l f).objs.size = s.heap.objs.size + 3 := by rw [Heap.size_push, z2]
  have g3 : (mapH3 s.heap l f).get? (mapH2 s.heap l).objs.size = some _ := Heap.get?_push_size _ rfl
  have g2 : (mapH3 s.heap l f).get? (mapH1 s.heap l).objs.size = some _ := Heap.get?_push_of_some _ (Heap.get?_push_size _ rfl)
  have g1 : (mapH3 s.heap l f).get? s.heap.objs.size = some _ := Heap.get?_push_of_some _ (Heap.get?_push_of_some _ (Heap.get?_push_size _ rfl))
  show _ ∧ _
  refine ⟨⟨_, g3, rfl⟩, h _ _ _ _ ?_ ?_ rfl ?_ g3 g2 ⟨_, g1, rfl, rfl⟩ fun c o x => Heap.get?_push_of_some _ (Heap.get?_push_of_some _ (Heap.get?_push_of_some _ x))⟩
  · rw [z2, z1]
  · rw [z1]
  · rw [z3, z2]
theorem map_next_item {M T I l : Addr} {k : Nat} {xs : Array Value} {x f : Value} {Q : Value → Shared → Prop} (hM : s.heap.get? M = some { cls := .type "map", data := .fields #[.ref T, f] }) (hT : s.heap.get? T = some { cls := .type "tuple", data := .seq #[.ref I] })
    (hI : s.heap.IsListIter I l k) (hl : s.heap.IsList l xs) (hx : xs[k]? = some x) (hMI : M ≠ I)
    (hQ : ∀ h', h'.IsListIter I l (k + 1) → Heap.SameBut I s.heap h' → wpAny (model prog w) A (call f [x]) Q E { s with heap := h' }) :
    wpAny (model prog w) A (Builtin.«map.__next__» ⟨[.ref M], []⟩) (fun fin s' => ∃ v, fin = .done (.ret v) ∧ Q v s') E s := by
  show wpAny _ _ (field (.ref M) 0 >>= _) _ _ _
  refine wpAny_bind (wpAny_field hM rfl (x := .ref T) rfl ?_)
  refine wpAny_bind (wpAny_seqItems hT rfl ?_)
  have hone : ∀ (body : Value → Array Value → Sem (ForInStep (Array Value))), (forIn (#[Value.ref I] : Array Value) (#[] : Array Value) body : Sem (Array Value)) = (do match ← body (.ref I) #[] with | .done b => pure b | .yield b => pure b) := by
    intro body
    rw [← Array.forIn_toList]
    simp only [List.forIn_cons, List.forIn_nil]
    congr 1; funext r; cases r <;> rfl
  show wpAny _ _ ((forIn (#[Value.ref I] : Array Value) (#[] : Array Value) _ : Sem (Array Value)) >>= _) _ _ _
  rw [hone]
  refine wpAny_bind (wpAny_bind (wpAny_bind (wpAny_holding (wpAny_nextOf_list_item hI hl hx fun h₁ hI₁ hs₁ => wpAny_pure (wpAny_pure ?_)))))
  have hM₁ : h₁.get? M = some { cls := .type "map", data := .fields #[.ref T, f] } := (hs₁.2 M hMI).trans hM
  refine wpAny_bind (wpAny_field hM₁ rfl (x := f) rfl ?_)
  refine wpAny_bind (wpAny_holding (wpAny_mono (hQ h₁ hI₁ hs₁) (fun v s' hv => ?_) fun _ _ e => e))
  exact wpAny_bind (wpAny_letGo (wpAny_pure ⟨v, rfl, hv⟩))
theorem map_next_end {M T I l : Addr} {k : Nat} {xs : Array Value} {f : Value} {Q : Fin → Shared → Prop} (hh : A.handled = none) (hM : s.heap.get? M = some { cls := .type "map", data := .fields #[.ref T, f] }) (hT : s.heap.get? T = some { cls := .type "tuple", data := .seq #[.ref I] })
    (hI : s.heap.IsListIter I l k) (hl : s.heap.IsList l xs) (hx : xs[k]? = none)
    (hE : ∀ h' e, Heap.ExtBut I s.heap h' → (∃ o, h'.get? e = some o ∧ o.cls = .type "StopIteration") → E (.ref e) { s with heap := h' }) :
    wpAny (model prog w) A (Builtin.«map.__next__» ⟨[.ref M], []⟩) Q E s := by
  show wpAny _ _ (field (.ref M) 0 >>= _) _ _ _
  refine wpAny_bind (wpAny_field hM rfl (x := .ref T) rfl ?_)
  refine wpAny_bind (wpAny_seqItems hT rfl ?_)
  have hone : ∀ (body : Value → Array Value → Sem (ForInStep (Array Value))), (forIn (#[Value.ref I] : Array Value) (#[] : Array Value) body : Sem (Array Value)) = (do match ← body (.ref I) #[] with | .done b => pure b | .yield b => pure b) := by
    intro body
    rw [← Array.forIn_toList]
    simp only [List.forIn_cons, List.forIn_nil]
    congr 1; funext r; cases r <;> rfl
  show wpAny _ _ ((forIn (#[Value.ref I] : Array Value) (#[] : Array Value) _ : Sem (Array Value)) >>= _) _ _ _
  rw [hone]
  exact wpAny_bind (wpAny_bind (wpAny_bind (wpAny_holding (wpAny_nextOf_list_end hh hI hl hx hE))))

theorem pyNext_map_item {M T I l : Addr} {k : Nat} {xs : Array Value} {x f : Value} {Q : Option Value → Shared → Prop} (hM : s.heap.get? M = some { cls := .type "map", data := .fields #[.ref T, f] }) (hT : s.heap.get? T = some { cls := .type "tuple", data := .seq #[.ref I] })
    (hI : s.heap.IsListIter I l k) (hl : s.heap.IsList l xs) (hx : xs[k]? = some x) (hMI : M ≠ I)
    (hQ : ∀ h', h'.IsListIter I l (k + 1) → Heap.SameBut I s.heap h' → wpAny (model prog w) A.in1 (call f [x]) (fun v s' => Q (some v) s') (fun _ _ => False) { s with heap := h' }) :
    wpAny (model prog w) A (pyNext (.ref M)) Q E s := by
  have hTy : s.TypeIs (.ref M) "map" := ⟨_, hM, rfl⟩
  unfold pyNext
  exact wpAny_bind (wpAny_attempt (wpAny_callSpecial?_slot (name := Str.ofString "__next__") hTy slot_map_next
    (wpAny_call_entry slot_map_next hTy entry_map_next
      (map_next_item hM hT hI hl hx hMI fun h' a1 a2 => wpAny_mono (hQ h' a1 a2) (fun v s' h => wpAny_pure h) fun _ _ e => e.elim) (args_map_next _))))
theorem pyNext_map_end {M T I l : Addr} {k : Nat} {xs : Array Value} {f : Value} {Q : Option Value → Shared → Prop} (hh : A.handled = none) (hM : s.heap.get? M = some { cls := .type "map", data := .fields #[.ref T, f] }) (hT : s.heap.get? T = some { cls := .type "tuple", data := .seq #[.ref I] })
    (hI : s.heap.IsListIter I l k) (hl : s.heap.IsList l xs) (hx : xs[k]? = none)
    (hQ : ∀ h', Heap.ExtBut I s.heap h' → Q none { s with heap := h' }) : wpAny (model prog w) A (pyNext (.ref M)) Q E s := by
  have hTy : s.TypeIs (.ref M) "map" := ⟨_, hM, rfl⟩
  unfold pyNext
  refine wpAny_bind (wpAny_attempt (wpAny_callSpecial?_slot (name := Str.ofString "__next__") hTy slot_map_next
    (wpAny_call_entry slot_map_next hTy entry_map_next (map_next_end hh hM hT hI hl hx fun h' e hk he => ?_) (args_map_next _))))
  obtain ⟨o, ho, hc⟩ := he
  refine wpAny_bind (wpAny_isInstance (T := "StopIteration") (b := true) ⟨o, ho, hc⟩ isSubtype_stop ?_)
  exact wpAny_pure (hQ _ hk)
theorem pyIter_map {M T : Addr} {f : Value} {Q : Value → Shared → Prop} (hM : s.heap.get? M = some { cls := .type "map", data := .fields #[.ref T, f] }) (h : Q (.ref M) s) : wpAny (model prog w) A (pyIter (.ref M)) Q E s := by
  have hT : s.TypeIs (.ref M) "map" := ⟨_, hM, rfl⟩
  refine wpAny_pyIter_slot hT slot_map_iter (wpAny_call_entry slot_map_iter hT entry_map_iter ?_ (args_map_iter _))
  show wpAny _ _ (ret (.ref M)) _ _ s
  exact wpAny_pure ⟨_, rfl, "map", _, hT, slot_map_next.lookup, h⟩
end

/-- map(fspath, ..) over a list of texts hands on the texts -/
theorem walks_map {w : World} {A : Around} {mg mb : Str → Option Value} {g hb : Heap} {M T I l : Addr} {vs : List Value} {ps : List Str} (hh : A.handled = none) (hroom : A.depth < recursionLimit) (hg : ∀ b o, g.get? b = some o → b ≠ I ∧ hb.get? b = some o)
    (X : (Mine.hd.heap_39 w.params).In g) (TT : TR mg mb g)
    (hM : hb.get? M = some { cls := .type "map", data := .fields #[.ref T, .ref 94] }) (hT : hb.get? T = some { cls := .type "tuple", data := .seq #[.ref I] }) (hl : hb.IsList l vs.toArray) (hps : StrsAre vs ps)
    (hI : I < hb.objs.size) (hMI : M ≠ I) (hTI : T ≠ I) (hlI : l ≠ I) :
    WalksS (Challenge.rw_pd0085_01.row.prog) w A M (List.range hb.objs.size) [I] (fun a b => b = a) vs.length (fun i v => vs[i]? = some v)
      (fun i s => (∀ b o, b ≠ I → hb.get? b = some o → s.heap.get? b = some o) ∧ s.heap.IsListIter I l i) where
  sub := fun b hb' => by rw [List.mem_singleton.mp hb']; exact List.mem_range.mpr hI
  grefl := fun _ => rfl
  gtrans := fun _ _ _ h1 h2 => h2.trans h1
  frame := fun i s h' tk st _ hk => ⟨fun b o hbI e => hk b (List.mem_range.mpr (Heap.lt_size e)) o (st.1 b o hbI e), st.2.at fun o e => hk I (List.mem_range.mpr hI) o e⟩
  item := fun i s Q E hi st hQ => by
    obtain ⟨ol, hol, hlr⟩ := hl
    have hls : s.heap.IsList l vs.toArray := ⟨ol, st.1 _ _ hlI hol, hlr⟩
    refine pyNext_map_item (x := vs[i]) (st.1 _ _ hMI hM) (st.1 _ _ hTI hT) st.2 hls (by simp [hi]) hMI fun h₁ hI₁ hs₁ => ?_
    have hv : vs[i]? = some vs[i] := by simp [hi]
    obtain ⟨y, t, _, e⟩ := strsAre_get hps hv
    rw [e] at hv ⊢
    have k₁ : ∀ b o, g.get? b = some o → h₁.get? b = some o := fun b o e => (hs₁.2 b (hg b o e).1).trans (st.1 b o (hg b o e).1 (hg b o e).2)
    refine wpAny_with_toks (n := s.toks) (Nat.le_refl _) (fspath_spec (s := { s with heap := h₁ }) (X.keeps k₁) (TT.keeps k₁) hroom fun h' tk' hk htk => ?_)
    refine hQ _ _ hv ⟨fun b o hbI e => hk b o ((hs₁.2 b hbI).trans (st.1 b o hbI e)), hI₁.at fun o e => hk I o e⟩ ⟨fun b o hbI e => hk b o ((hs₁.2 b (fun q => hbI (by rw [q]; exact List.mem_singleton.mpr rfl))).trans e), rfl, rfl, rfl, htk⟩
  done := fun s Q E st hQ => by
    obtain ⟨ol, hol, hlr⟩ := hl
    have hls : s.heap.IsList l vs.toArray := ⟨ol, st.1 _ _ hlI hol, hlr⟩
    refine pyNext_map_end hh (st.1 _ _ hMI hM) (st.1 _ _ hTI hT) st.2 hls (by simp) fun h' hk => hQ _ ⟨fun b o hbI e => hk b o (fun q => hbI (by rw [q]; exact List.mem_singleton.mpr rfl)) e, rfl, rfl, rfl, Nat.le_refl _⟩
  self := fun i s Q E st h => pyIter_map (st.1 _ _ hMI hM) h
end Mine
end
-- R8
section
open PySem PySem.W PySem.Calls PyProof.Rows
set_option Elab.async false
set_option maxRecDepth 100000
set_option maxHeartbeats 1000000
namespace Mine
section
variable {prog : Program} {w : World} {A : Around} {E : Value → Shared → Prop} {s : Shared} {I : Addr} {fp wr : List Addr} {G : Array GenState → Array GenState → Prop} {n : Nat} {P : Nat → Value → Prop} {St : Nat → Shared → Prop}
theorem collect_map {Q : List Value → Shared → Prop} (W : WalksS prog w A.in1 I fp wr G n P St) (hT : ∀ i s, St i s → s.TypeIs (.ref I) "map") (hst : St 0 s) (hfp : ∀ b ∈ fp, b < s.heap.objs.size) (hI : I ∈ fp)
    (hQ : ∀ s' acc, Moved wr G s s' → ItemsOf P acc n → Q acc.toList s') (hn : n ≤ sizeLine) : wpAny (model prog w) A (collect (.ref I)) Q E s := by
  have new_off : s.heap.objs.size ∉ fp := fun hm => absurd (hfp _ hm) (Nat.lt_irrefl _)
  have hst₁ := W.frame 0 s (s.heap.push (listOf #[] 0)) s.toks hst (Nat.le_refl _) fun b _ o e => Heap.get?_push_of_some _ e
  unfold collect
  refine wpAny_bind (wpAny_runValue (codeAny_builtin F.entry_proto_collect ?_))
  rw [Around.under_plainId F.plain_proto_collect]
  unfold Builtin.«proto.collect»
  wp_walk
  refine ⟨plainId_quiet F.plain_list_iadd _, codeAny_builtin F.entry_list_iadd ?_⟩
  rw [Around.under_plainId F.plain_list_iadd]
  have same_no : Builtin.List.listSameRef (.ref s.heap.objs.size) (.ref I) = false := by
    have : s.heap.objs.size ≠ I := fun e => new_off (by rw [e]; exact hI)
    simp [Builtin.List.listSameRef, this]
  have hty := hT 0 _ hst₁
  have nl := map_no_len
  have nh := map_no_hint
  have hD : (s.heap.push (listOf #[] 0)).get? s.heap.objs.size = some (listOf #[] 0) := Heap.get?_push_size _ rfl
  unfold Builtin.«list.__iadd__»
  wp_walk using wpAny_typeOf hty, W.self 0 _ _ _ hst₁
  have hD2 := Heap.get?_update_self (Obj.mapSeq (·.push Value.none)) hD rfl
  have hD3 := Heap.get?_update_self (Obj.mapSeq (·.pop)) hD2 rfl
  have oth : ∀ b o, b ≠ s.heap.objs.size → s.heap.get? b = some o →
      (((s.heap.push (listOf #[] 0)).update s.heap.objs.size (Obj.mapSeq (·.push Value.none))).update s.heap.objs.size (Obj.mapSeq (·.pop))).get? b = some o := fun b o hb e => by
    rw [Heap.get?_update_other _ _ (Ne.symm hb), Heap.get?_update_other _ _ (Ne.symm hb)]
    exact Heap.get?_push_of_some _ e
  have hst₃ := W.frame 0 s _ s.toks hst (Nat.le_refl _) fun b hb o e => oth b o (fun h => new_off (h ▸ hb)) e
  refine ⟨plainId_quiet F.plain_extend_loop _, codeAny_extend_loopS W hn _ new_off _ n 0 _ _ _ rfl (Nat.zero_le _) hst₃ hD3 (ItemsOf.nil P) fun s' acc c hm hS' hacc => ?_⟩
  refine wpAny_bind (wpAny_load hS' (wpAny_pure (hQ s' acc ⟨fun b o hb e => ?_, hm.gens, hm.drawn, hm.os, hm.toks⟩ hacc)))
  have hbs : b ≠ s.heap.objs.size := fun q => by
    rw [q, Heap.get?_none_of_le (Nat.le_refl _)] at e; cases e
  exact hm.heap b o (fun q => by rcases List.mem_cons.mp q with h1 | h1; exact hbs h1; exact hb h1) (oth b o hbs e)

/-- tuple(m) of a map object that hands on what P says -/
theorem tuple_map {Q : Value → Shared → Prop} (W : WalksS prog w A.in1.in1.in1 I fp wr G n P St) (hT : ∀ i s, St i s → s.TypeIs (.ref I) "map") (hst : St 0 s) (hfp : ∀ b ∈ fp, b < s.heap.objs.size) (hI : I ∈ fp) (hsz : n ≤ sizeLine)
    (hQ : ∀ s' acc, Moved wr G s s' → ItemsOf P acc n → Q (.ref s'.heap.objs.size) { s' with heap := s'.heap.push { cls := .type "tuple", data := .seq acc } }) :
    wpAny (model prog w) A (call (.type "tuple") [.ref I]) Q E s := by
  refine callType_codes (Q₁ := fun obj s₁ => s₁.TypeIs obj "tuple" ∧ Q obj s₁) F.called_tuple (F.typeCall_tuple_1 _) F.entry_object_init ?_ fun obj s₁ h₁ =>
    ⟨h₁.1, F.args_object_init_2 obj _, object_init_meets F.called_tuple.init.lookup F.called_tuple.made (by decide) prog w A.in1 _ s₁ ⟨h₁.1, rfl, h₁.2⟩⟩
  refine codeAny_call_builtin F.plain_tuple_new F.entry_tuple_new ?_
  rw [F.newCall_tuple_1]
  refine wpAny_pure ?_
  have a1 := sub_tuple_self
  have a2 := init_tuple_lookup
  have a3 := madeHere_tuple
  unfold Builtin.«tuple.__new__»
  wp_walk using wpAny_typeOf (hT 0 s hst), collect_map (hn := hsz) W hT hst hfp hI
  intro s' acc hm hacc
  have hz : acc.toList.toArray.size ≤ sizeLine := by simp only [Array.toArray_toList]; rw [hacc.1]; exact hsz
  have hq := hQ s' acc hm hacc
  show wpAny _ _ (Builtin.Tuple.tupleExact acc.toList.toArray >>= fun v => ret v) _ _ _
  unfold Builtin.Tuple.tupleExact
  refine wpAny_bind (wpAny_newObj_type (wpAny_pure ⟨⟨_, Heap.get?_push_size _ rfl, rfl⟩, ?_⟩) hz)
  rw [Array.toArray_toList]
  exact hq
end

/-- tuple(m), m being map(fspath, l), l a list of texts -/
theorem tuple_map_fspath {w : World} {dp un : Nat} {fr : Option (List Env)} {gd : Option (List Code)} {s : Shared} {Q E : Value → Shared → Prop} {mg mb : Str → Option Value} {g : Heap} {M T I l : Addr} {vs : List Value} {ps : List Str}
    (hd : dp < 900) (hg : ∀ b o, g.get? b = some o → b ≠ I ∧ s.heap.get? b = some o)
    (X : (Mine.hd.heap_39 w.params).In g) (TT : TR mg mb g)
    (hM : s.heap.get? M = some { cls := .type "map", data := .fields #[.ref T, .ref 94] }) (hT : s.heap.get? T = some { cls := .type "tuple", data := .seq #[.ref I] }) (hI : s.heap.IsListIter I l 0) (hl : s.heap.IsList l vs.toArray) (hps : StrsAre vs ps) (hz : vs.length ≤ 100000)
    (hMI : @Eq Nat M (Nat.succ T)) (hTI : @Eq Nat T (Nat.succ I)) (hlI : l ≠ I)
    (h : ∀ h' D tk', s.heap.get? D = none → (∀ b o, b ≠ I → s.heap.get? b = some o → h'.get? b = some o) → h'.get? D = some { cls := .type "tuple", data := .seq vs.toArray } → Q (.ref D) { s with heap := h', toks := tk' }) :
    wpAny (model Challenge.rw_pd0085_01.row.prog w) { handled := none, depth := dp, frames := fr, guards := gd, units := un } (call (.type "tuple") [.ref M]) Q E s := by
  have hMI' : M ≠ I := by intro q; have q' : @Eq Nat M I := q; omega
  have hTI' : T ≠ I := by intro q; have q' : @Eq Nat T I := q; omega
  have hIlt : I < s.heap.objs.size := by obtain ⟨o, ho, _⟩ := hI; exact Heap.lt_size ho
  refine tuple_map (walks_map (g := g) (hb := s.heap) rfl (by show dp < 1000; omega) hg X TT hM hT hl hps hIlt hMI' hTI' hlI) (fun i s' st => ⟨_, st.1 _ _ hMI' hM, rfl⟩) ⟨fun _ _ _ e => e, hI⟩ (fun b hb => List.mem_range.mp hb) (List.mem_range.mpr (Heap.lt_size hM)) (by rw [sizeLine_eq]; omega) ?_
  intro s' acc hm hacc
  obtain ⟨h', gens', drawn', toks', os'⟩ := s'
  have e1 : gens' = s.gens := hm.gens
  have e2 : drawn' = s.drawn := hm.drawn
  have e3 : os' = s.os := hm.os
  subst e1 e2 e3
  have hacc' : acc = vs.toArray := by
    obtain ⟨hsz, hP⟩ := hacc
    apply Array.ext'
    apply List.ext_getElem?
    intro j
    by_cases hj : j < acc.size
    · have hv : acc[j]? = some acc[j] := by simp [hj]
      have := hP j _ hv
      rw [Array.getElem?_toList, hv]; simpa using this.symm
    · have h1 : acc.toList[j]? = none := by simp; omega
      have h2 : vs.toArray.toList[j]? = none := by simp; omega
      rw [h1, h2]
  subst hacc'
  have keep : ∀ b o, b ≠ I → s.heap.get? b = some o → h'.get? b = some o := fun b o hbI e => hm.heap b o (fun q => hbI (List.mem_singleton.mp q)) e
  refine h _ _ _ ?_ (fun b o hbI e => Heap.get?_push_of_some _ (keep b o hbI e)) (Heap.get?_push_size _ rfl)
  have hMlt : M < h'.objs.size := Heap.lt_size (keep M _ hMI' hM)
  cases q : s.heap.get? h'.objs.size with
  | none => rfl
  | some o =>
    exfalso
    by_cases e : h'.objs.size = I
    · rw [e] at hMlt; have hMlt' : @LT.lt Nat _ M I := hMlt; omega
    · exact absurd (Heap.lt_size (keep _ o e q)) (Nat.lt_irrefl _)
end Mine
end
-- R9
section
open PySem PySem.W PySem.Calls PyProof.Rows
set_option Elab.async false
set_option maxRecDepth 100000
set_option maxHeartbeats 1000000
namespace Mine
abbrev tupOf (its : Array Value) : Obj := { cls := .type "tuple", data := .seq its }
abbrev mapOf (T : Addr) : Obj := { cls := .type "map", data := .fields #[.ref T, .ref 94] }
section
variable {w : World} {dp un : Nat} {fr : Option (List Env)} {gd : Option (List Code)} {A : Around} {s : Shared} {Q E : Value → Shared → Prop} {mg mb m : Str → Option Value} {h₀ : Heap} {L : Addr} {news : List (Addr × Obj)} {C : Addr} {cs : List Value} {n : Nat} {ps : List Str}
structure MapMade (C M T I : Addr) (iobj : Obj) : Prop where
  m : @Eq Nat M (Nat.succ T)
  t : @Eq Nat T (Nat.succ I)
  it : iobj.cls = .type "list_iterator" ∧ iobj.data = .fields #[.ref C, .int 0 0]
theorem map_K (F : Fr h₀ L s.heap m) (N : News h₀ L s.heap news) (hC : h₀.get? C = some (listOf cs.toArray n))
    (h : ∀ h' M T I io, MapMade C M T I io → AllNe M news → AllNe T news → AllNe I news → Fr h₀ L h' m → News h₀ L h' ((M, mapOf T) :: (T, tupOf #[.ref I]) :: (I, io) :: news) → Q (.ref M) { s with heap := h' }) :
    wpAny (model Challenge.rw_pd0085_01.row.prog w) A (call (.type "map") [.ref 94, .ref C]) Q E s := by
  refine call_map_1 (xs := cs.toArray) ⟨_, F.keep _ _ hC, rfl, n, rfl⟩ fun h' M T I e1 e2 e3 e4 gM gT gI k => ?_
  obtain ⟨io, gio, cio, dio⟩ := gI
  have new : ∀ d : Nat, s.heap.objs.size ≤ d → s.heap.get? d = none := fun d hd => Heap.get?_none_of_le hd
  have bM : s.heap.get? M = none := new _ (by rw [e1, e2, e3]; exact Nat.le_succ_of_le (Nat.le_succ _))
  have bT : s.heap.get? T = none := new _ (by rw [e2, e3]; exact Nat.le_succ _)
  have bI : s.heap.get? I = none := new _ (by rw [e3]; exact Nat.le_refl _)
  have F' := fr_stays F k
  have N' : News h₀ L h' ((M, mapOf T) :: (T, tupOf #[.ref I]) :: (I, io) :: news) := by
    intro p hp
    rcases List.mem_cons.mp hp with rfl | hp
    · exact news_fresh F N k bM gM _ List.mem_cons_self
    · rcases List.mem_cons.mp hp with rfl | hp
      · exact news_fresh F N k bT gT _ List.mem_cons_self
      · exact news_fresh F N k bI gio p hp
  exact h h' M T I io ⟨e1, e2, cio, dio⟩ (allNe_of (news_ne N bM)) (allNe_of (news_ne N bT)) (allNe_of (news_ne N bI)) F' N'
theorem tuple_K {M T I : Addr} {io : Obj} (F : Fr h₀ L s.heap m) (N : News h₀ L s.heap ((M, mapOf T) :: (T, tupOf #[.ref I]) :: (I, io) :: news)) (X : (Mine.hd.heap_39 w.params).In h₀) (TT : TR mg mb h₀) (hd : dp < 900)
    (hC : h₀.get? C = some (listOf cs.toArray n)) (hcs : StrsAre cs ps) (hz : cs.length ≤ 100000) (hm : MapMade C M T I io) (aI : AllNe I news)
    (h : ∀ h' D tk', AllNe D news → Fr h₀ L h' m → News h₀ L h' ((D, tupOf cs.toArray) :: news) → Q (.ref D) { s with heap := h', toks := tk' }) :
    wpAny (model Challenge.rw_pd0085_01.row.prog w) { handled := none, depth := dp, frames := fr, guards := gd, units := un } (call (.type "tuple") [.ref M]) Q E s := by
  have gM := (N (M, mapOf T) List.mem_cons_self).1
  have gT := (N (T, tupOf #[.ref I]) (List.mem_cons_of_mem _ List.mem_cons_self)).1
  have nI := N (I, io) (List.mem_cons_of_mem _ (List.mem_cons_of_mem _ List.mem_cons_self))
  have hI0 : ∀ b o, h₀.get? b = some o → b ≠ I := fun b o e q => by rw [q, nI.2.2] at e; cases e
  have N₀ : News h₀ L s.heap news := fun p hp => N p (List.mem_cons_of_mem _ (List.mem_cons_of_mem _ (List.mem_cons_of_mem _ hp)))
  refine tuple_map_fspath (g := h₀) (mg := mg) (mb := mb) (vs := cs) hd (fun b o e => ⟨hI0 b o e, F.keep b o e⟩) X TT gM gT ⟨io, nI.1, hm.it.1, hm.it.2⟩ ⟨_, F.keep _ _ hC, rfl, n, rfl⟩ hcs hz hm.m hm.t (hI0 _ _ hC) fun h' D tk' hD k hd' => ?_
  have F' : Fr h₀ L h' m := ⟨F.ns.at' fun o e => k L o (fun q => nI.2.1 q.symm) e, fun b o e => k b o (hI0 b o e) (F.keep b o e), F.above⟩
  refine h h' D tk' (allNe_of (news_ne N₀ hD)) F' ?_
  intro p hp
  rcases List.mem_cons.mp hp with rfl | hp
  · refine ⟨hd', fun q => ?_, ?_⟩
    · obtain ⟨oL, _, _, hL, _⟩ := F.ns
      have q' : D = L := q
      subst q'; rw [hD] at hL; cases hL
    · cases hq : h₀.get? D with
      | none => rfl
      | some o' => have := F.keep _ _ hq; rw [hD] at this; cases this
  · exact ⟨k _ _ (allNe_mem aI p hp) (N₀ p hp).1, (N₀ p hp).2⟩
end

theorem item0T {prog : Program} {w : World} {A : Around} {s : Shared} {Q E : Value → Shared → Prop} {h₀ : Heap} {L D : Addr} {news : List (Addr × Obj)} {value slice : Expr} {x : Value} {r : List Value} {u : Tok} (N : News h₀ L s.heap news) (hm : (D, tupOf (x :: r).toArray) ∈ news) (h : Q x s)
    (hs : subscripted slice false (.ref D) (.int 0 u) = operate [.ref D, .int 0 u] (getItem (.ref D) (.int 0 u)) := by with_unfolding_all rfl) :
    wpAny (model prog w) A (subscriptTail value slice (.ref D) (.int 0 u)) Q E s :=
  item_tupleT (l := x :: r) (j := 0) ⟨_, (N _ hm).1, rfl, 0, rfl⟩ (by decide) (by decide) (by simp [seqIndex?]) rfl h hs
theorem try_never {prog : Program} {w : World} {A : Around} {E : Value → Shared → Prop} {s : Shared} {env : Env} {body orelse : List Stmt} {h₀ : ExceptHandler} {hs : List ExceptHandler} {pos : Pos} {Q : Flow → Shared → Prop}
    (h : wpAny (model prog w) A (execs body env) (fun f s₁ => match f with | .next => wpAny (model prog w) A (execs orelse env) Q E s₁ | f => Q f s₁) (fun _ _ => False) s) :
    wpAny (model prog w) A (exec (.Try body (h₀ :: hs) orelse [] pos) env) Q E s := wpAny_Try_except (wpAny_mono h (fun _ _ x => x) (fun _ _ x => x.elim))
end Mine
end
-- R10
section
open PySem PySem.W PySem.Spec PySem.Calls PyProof.Rows PyProof.Rows.LCg
set_option Elab.async false
set_option maxRecDepth 100000
set_option maxHeartbeats 1000000
namespace Mine
section
variable {prog : Program} {w : World} {A : Around} {E : Value → Shared → Prop} {s : Shared} {h₀ : Heap} {L : Addr} {m : Str → Option Value} {env : Env} {elt iter : Expr} {x : Str} {px pos : Pos} {scope : Scope} {cl : List (Str × Addr)}

/-- what the source of a list comprehension must be -/
def Source (prog : Program) (w : World) (A : Around) (h₀ : Heap) (L : Addr) (m : Str → Option Value) (R : Nat → (Nat → Value → Prop) → (List (Addr × Obj) → Prop) → List (Addr × Obj) → Shared → Prop) (it : Value) (s₂ : Shared) : Prop :=
  ∃ (I : Addr) (fp : List Addr) (n : Nat) (P : Nat → Value → Prop) (St : Nat → Heap → Prop) (S : List (Addr × Obj) → Prop) (news : List (Addr × Obj)), it = .ref I ∧ Walks prog w A I fp [I] n P St ∧ n ≤ sizeLine ∧ (∀ i h, St i h → ∃ o, h.get? I = some o) ∧
    (∀ i h h' o nw, St i h → h.get? I = some o → h'.get? I = some o → (∀ b o, h₀.get? b = some o → h'.get? b = some o) → News h₀ L h' nw → S nw → St i h') ∧
    St 0 s₂.heap ∧ (∀ b ∈ fp, b < s₂.heap.objs.size) ∧ Fr h₀ L s₂.heap m ∧ News h₀ L s₂.heap news ∧ L ≠ I ∧ h₀.get? I = none ∧ (∀ p ∈ news, p.1 ≠ I) ∧ S news ∧ R n P S news s₂

theorem lc_any {Q : Value → Shared → Prop} (_F₀ : Fr h₀ L s.heap m) (hclos : closureFor scope env = pure cl) (hcell : ∀ y ∈ scope.names, y.2 ≠ .cell) (hkind : scope.kind = .function)
    (hnames : ∀ y ∈ scope.names, y.2 = .local → scope.names.lookup y.1 = some .local) (hx : scope.names.lookup x = some .local)
    (h : wpAny (model prog w) A (eval iter env) (fun xv s₁ => wpAny (model prog w) A (pyIter xv)
      (Source prog w A h₀ L m fun n P S news s₂ => CompRest prog w A h₀ L m env elt x scope cl s₂ S P (FinE h₀ L m s₂ Q) n 0 [] news) E s₁) E s)
    (hs : ∀ x, foldedSetIterable iter env x = pure x := by intro _; rfl) :
    wpAny (model prog w) A (eval (.ListComp elt [⟨.Name x px, iter, [], 0⟩] scope pos) env) Q E s := by
  rw [eval_ListComp]
  refine wpAny_comprehension_free (use := none) rfl hs hclos hkind hnames (wpAny_mono h (fun xv s₁ h₁ => wpAny_mono h₁ (fun it s₂ h₂ => ?_) fun _ _ e => e) fun _ _ e => e)
  obtain ⟨I, fp, n, P, St, S, news, rfl, W, hsz, hIo, hSt, hst, hfp, F, N, hLI, hI0, off, hS, R⟩ := h₂
  refine block_U W hsz hIo hSt hcell hkind hx hst hfp F N hLI hI0 off hS R ?_
  intro D C hp tk m' ys news' F' N' o1 hn hC₀ hD₀ hCL hDL hCD offC fin
  refine ⟨m', hn, fun h'' same => fin D h'' tk (F'.change same hCL hC₀) (fun p hp => ⟨same.extBut _ _ (fun q => ?_) (N' p hp).1, (N' p hp).2⟩) o1⟩
  rcases List.mem_cons.mp hp with e | hp
  · rw [e] at q; exact hCD q.symm
  · exact offC p hp q

/-- the same, its value bound to a name on the way -/
theorem assign_lc {y : Str} {py spos : Pos} {Q : Flow → Shared → Prop} (_F₀ : Fr h₀ L s.heap m) (hLe : env.locals = L)
    (hsw : swapsWith (.ListComp elt [⟨.Name x px, iter, [], 0⟩] scope pos) (some (.Name y py)) spos.line env = pure true)
    (hclos : closureFor scope env = pure cl) (hcell : ∀ z ∈ scope.names, z.2 ≠ .cell) (hkind : scope.kind = .function)
    (hnames : ∀ z ∈ scope.names, z.2 = .local → scope.names.lookup z.1 = some .local) (hx : scope.names.lookup x = some .local)
    (hy : env.kindOf y = some .local) (hp : (env.scope.kind == .class || (env.scope.kind == .module && env.locals != env.globals)) = false)
    (h : wpAny (model prog w) A (eval iter env) (fun xv s₁ => wpAny (model prog w) A (pyIter xv)
      (Source prog w A h₀ L m fun n P S news s₂ => CompRest prog w A h₀ L m env elt x scope cl s₂ S P (FinA h₀ L m s₂ y Q) n 0 [] news) E s₁) E s)
    (hs : ∀ x, foldedSetIterable iter env x = pure x := by intro _; rfl) :
    wpAny (model prog w) A (exec (.Assign [.Name y py] (.ListComp elt [⟨.Name x px, iter, [], 0⟩] scope pos) spos) env) Q E s := by
  subst hLe
  rw [exec_Assign_Name_used _ _ _ _ hsw]
  refine wpAny_bind (wpAny_standAt (wpAny_bind ?_))
  show wpAny _ A (comprehension (.ListComp elt [⟨.Name x px, iter, [], 0⟩] scope pos) scope env _ (newList []) false (eval iter env) (some (assign (.Name y py) env)) >>= fun _ => pure ()) _ _ s
  have key := wpAny_comprehension_free (M := model prog w) (A := A) (E := E) (s := s) (pos := firstIterPos [⟨.Name x px, iter, [], 0⟩] pos) (e := .ListComp elt [⟨.Name x px, iter, [], 0⟩] scope pos) (newAcc := newList []) (first := eval iter env) (use := some (assign (.Name y py) env)) (Q := fun _ s' => Q .next s') rfl hs hclos hkind hnames
    (wpAny_mono h (fun xv s₁ h₁ => wpAny_mono h₁ (fun it s₂ h₂ => by
      obtain ⟨I, fp, n, P, St, S, news, rfl, W, hsz, hIo, hSt, hst, hfp, F, N, hLI, hI0, off, hS, R⟩ := h₂
      refine block_U W hsz hIo hSt hcell hkind hx hst hfp F N hLI hI0 off hS R ?_
      intro D C hp' tk m' ys news' F' N' o1 hn hC₀ hD₀ hCL hDL hCD offC fin
      refine wpAny_assign_Name (wpAny_storeName_local hy F'.ns (fun h₂ hn₂ hs₂ => ?_) hp)
      have F₂ := F'.set hn₂ hs₂
      have N₂ := N'.set hs₂
      refine ⟨m', hn.sameBut hs₂ hCL, fun h'' same => fin D h'' _ (F₂.change same hCL hC₀) (fun p hp => ⟨same.extBut _ _ (fun q => ?_) (N₂ p hp).1, (N₂ p hp).2⟩) o1⟩
      rcases List.mem_cons.mp hp with e | hp
      · rw [e] at q; exact hCD q.symm
      · exact offC p hp q) fun _ _ e => e) fun _ _ e => e)
  exact wpAny_bind (wpAny_mono key (fun _ s' hq => wpAny_pure (wpAny_pure hq)) fun _ _ e => e)

/-- a comprehension's turns by an invariant -/
theorem rest_ind {P : Nat → Value → Prop} {S : List (Addr × Obj) → Prop} {Fin : List Value → List (Addr × Obj) → Prop} (n : Nat) (Inv : Nat → List Value → List (Addr × Obj) → Prop)
    (step : ∀ i ys news v I oI C oC D m₂ h tk (E' : Value → Shared → Prop), i < n → Inv i ys news → P i v → NsObj oC m₂ → m₂ x = some v → Fr h₀ L h m → News h₀ L h ((I, oI) :: (C, oC) :: (D, lst ys) :: news) → Off3 I C D news → ((@Ne Nat I C) ∧ (@Ne Nat I D) ∧ (@Ne Nat C D)) →
      wpAny (model prog w) A (eval elt (compEnvC scope cl C env)) (CompEnd h₀ L m { s with heap := h, toks := tk } I oI C oC D (lst ys) S (fun y news' => Inv (i + 1) (ys ++ [y]) news')) E' { s with heap := h, toks := tk })
    (fin : ∀ ys news, Inv n ys news → Fin ys news) : ∀ k i ys news, i + k = n → Inv i ys news → CompRest prog w A h₀ L m env elt x scope cl s S P Fin k i ys news := by
  intro k
  induction k with
  | zero => intro i ys news hi hI; exact fin ys news (by rw [Nat.add_zero] at hi; exact hi ▸ hI)
  | succ k ih =>
    intro i ys news hi hI v I oI C oC D m₂ h tk E' hP hN hv F N off ne
    refine wpAny_mono (step i ys news v I oI C oC D m₂ h tk E' (by omega) hI hP hN hv F N off ne) (fun y s₂ h₂ => ?_) fun _ _ e => e
    obtain ⟨h', tk', news', e, F', N', o', hS, hI'⟩ := h₂
    exact ⟨h', tk', news', e, F', N', o', hS, ih (i + 1) _ _ (by omega) hI'⟩

theorem tup_st {ax I : Addr} {its : Array Value} : ∀ i (h h' : Heap) (o : Obj) (nw : List (Addr × Obj)), (h.IsTupleIter I ax i ∧ h.IsTuple ax its) → h.get? I = some o → h'.get? I = some o → (∀ b o, h₀.get? b = some o → h'.get? b = some o) → News h₀ L h' nw → (ax, tupOf its) ∈ nw → (h'.IsTupleIter I ax i ∧ h'.IsTuple ax its) := by
  intro i h h' o nw st e e' _ N hm
  obtain ⟨⟨o', q, r⟩, _⟩ := st
  rw [e] at q
  cases q
  exact ⟨⟨o, e', r⟩, ⟨_, (N _ hm).1, rfl, 0, rfl⟩⟩
/-- a tuple of the ledger's as the source -/
theorem src_tup {ax : Addr} {vs : List Value} {news : List (Addr × Obj)} {R : Nat → (Nat → Value → Prop) → (List (Addr × Obj) → Prop) → List (Addr × Obj) → Shared → Prop} (hh : A.handled = none) (F : Fr h₀ L s.heap m) (N : News h₀ L s.heap news) (hm : (ax, tupOf vs.toArray) ∈ news) (hz : vs.length ≤ 100000)
    (h : ∀ g, R vs.length (fun i v => vs[i]? = some v) (fun nw => (ax, tupOf vs.toArray) ∈ nw) news { s with heap := g }) :
    wpAny (model prog w) A (pyIter (.ref ax)) (Source prog w A h₀ L m R) E s := by
  have ht : s.heap.IsTuple ax vs.toArray := ⟨_, (N _ hm).1, rfl, 0, rfl⟩
  have hlt : ax < s.heap.objs.size := Heap.lt_size (N _ hm).1
  have up : ∀ o' b o, s.heap.get? b = some o → (s.heap.push o').get? b = some o := fun o' b o e => Heap.get?_push_of_some _ e
  refine wpAny_pyIter_tuple ht ?_
  have W := Walks.tuple (prog := prog) (w := w) hh s.heap.objs.size ax (Nat.ne_of_lt hlt) vs.toArray
  refine ⟨s.heap.objs.size, _, _, _, _, fun nw => (ax, tupOf vs.toArray) ∈ nw, news, rfl, W, by rw [sizeLine_eq, List.size_toArray]; omega, fun i h st => by obtain ⟨o, e, _⟩ := st.1; exact ⟨o, e⟩, tup_st, ⟨⟨_, Heap.get?_push_size _ rfl, rfl, rfl⟩, ht.at fun o e => up _ _ _ e⟩,
    fun b hb => ?_, F.push _, fun p hp => ⟨up _ _ _ (N p hp).1, (N p hp).2⟩, Nat.ne_of_lt F.ns.lt, next_is_new F, fun p hp => Nat.ne_of_lt (Heap.lt_size (N p hp).1), hm, ?_⟩
  · show b < (s.heap.push _).objs.size
    rw [Heap.size_push]
    rcases List.mem_cons.mp hb with e | hb
    · rw [e]; exact Nat.lt_succ_self _
    · rw [List.mem_singleton.mp hb]; exact Nat.lt_succ_of_lt hlt
  · have := h (s.heap.push { cls := .type "tuple_iterator", data := .fields #[.ref ax, .int 0 0] })
    simpa using this

/-- v is a list of the ledger tl, holding the texts ys -/
def RowIn (tl : List (Addr × Obj)) (v : Value) (ys : List Str) : Prop := ∃ a us k, v = .ref a ∧ (a, listOf us.toArray k) ∈ tl ∧ StrsAre us ys
inductive RowsIn (tl : List (Addr × Obj)) : List Value → List (List Str) → Prop
  | nil : RowsIn tl [] []
  | snoc {vs : List Value} {yss : List (List Str)} {v : Value} {ys : List Str} : RowsIn tl vs yss → RowIn tl v ys → RowsIn tl (vs ++ [v]) (yss ++ [ys])
theorem RowIn.mono {tl tl' : List (Addr × Obj)} {v : Value} {ys : List Str} (h : RowIn tl v ys) (hs : ∀ p ∈ tl, p ∈ tl') : RowIn tl' v ys := let ⟨a, us, k, e, hm, hu⟩ := h; ⟨a, us, k, e, hs _ hm, hu⟩
theorem RowsIn.mono {tl tl' : List (Addr × Obj)} {vs : List Value} {yss : List (List Str)} (h : RowsIn tl vs yss) (hs : ∀ p ∈ tl, p ∈ tl') : RowsIn tl' vs yss := by
  induction h with
  | nil => exact .nil
  | snoc _ r ih => exact .snoc ih (r.mono hs)
theorem RowsIn.length {tl : List (Addr × Obj)} {vs : List Value} {yss : List (List Str)} (h : RowsIn tl vs yss) : vs.length = yss.length := by
  induction h with
  | nil => rfl
  | snoc _ _ ih => simp [ih]
theorem RowsIn.get {tl : List (Addr × Obj)} {vs : List Value} {yss : List (List Str)} (h : RowsIn tl vs yss) : ∀ {i : Nat} {v : Value}, vs[i]? = some v → ∃ ys, yss[i]? = some ys ∧ RowIn tl v ys := by
  induction h with
  | nil => intro i v e; simp at e
  | @snoc vs yss v ys hr r ih =>
    intro i v' e
    have hl := hr.length
    by_cases hi : i < vs.length
    · rw [List.getElem?_append_left hi] at e
      obtain ⟨zs, e1, e2⟩ := ih e
      exact ⟨zs, by rw [List.getElem?_append_left (by omega)]; exact e1, e2⟩
    · have hi' : i = vs.length := by
        have := (List.getElem?_eq_some_iff.mp e).1
        rw [List.length_append, List.length_singleton] at this
        omega
      subst hi'
      rw [List.getElem?_append_right (Nat.le_refl _), Nat.sub_self] at e
      have e' : v = v' := by simpa using e
      subst e'
      exact ⟨ys, by rw [List.getElem?_append_right (by omega), hl, Nat.sub_self]; rfl, r⟩

def RowEnd (h₀ : Heap) (L : Addr) (m : Str → Option Value) (s : Shared) (I : Addr) (oI : Obj) (C : Addr) (oC : Obj) (D : Addr) (ys : List Value) (base tl : List (Addr × Obj)) (row : List Str) (y : Value) (s₂ : Shared) : Prop :=
  ∃ h' tk a us k, y = .ref a ∧ s₂ = { s with heap := h', toks := tk } ∧ Fr h₀ L h' m ∧ News h₀ L h' ((a, listOf us.toArray k) :: (I, oI) :: (C, oC) :: (D, lst ys) :: (base ++ tl)) ∧ StrsAre us row ∧ ((@Ne Nat a I) ∧ (@Ne Nat a C) ∧ (@Ne Nat a D))
theorem RowEnd.mk' {I C D a : Addr} {oI oC : Obj} {ys us : List Value} {base tl news' : List (Addr × Obj)} {row : List Str} {h' : Heap} {tk k : Nat} (F : Fr h₀ L h' m) (N : News h₀ L h' news') (hsub : ∀ p ∈ (a, listOf us.toArray k) :: (I, oI) :: (C, oC) :: (D, lst ys) :: (base ++ tl), p ∈ news')
    (hu : StrsAre us row) (hne : (@Ne Nat a I) ∧ (@Ne Nat a C) ∧ (@Ne Nat a D)) : RowEnd h₀ L m s I oI C oC D ys base tl row (.ref a) { s with heap := h', toks := tk } :=
  ⟨h', tk, a, us, k, rfl, rfl, F, fun p hp => N p (hsub p hp), hu, hne⟩

theorem rows_rest {P : Nat → Value → Prop} {S : List (Addr × Obj) → Prop} {Fin : List Value → List (Addr × Obj) → Prop} {base : List (Addr × Obj)} {G : Nat → List Str} {n : Nat} (hS : ∀ tl, S (base ++ tl))
    (turn : ∀ i v tl ys I oI C oC D m₂ h tk (E' : Value → Shared → Prop), i < n → P i v → NsObj oC m₂ → m₂ x = some v → Fr h₀ L h m → News h₀ L h ((I, oI) :: (C, oC) :: (D, lst ys) :: (base ++ tl)) → Off3 I C D (base ++ tl) → ((@Ne Nat I C) ∧ (@Ne Nat I D) ∧ (@Ne Nat C D)) →
      wpAny (model prog w) A (eval elt (compEnvC scope cl C env)) (RowEnd h₀ L m { s with heap := h, toks := tk } I oI C oC D ys base tl (G i)) E' { s with heap := h, toks := tk })
    (fin : ∀ rows tl, RowsIn tl rows ((List.range n).map G) → Fin rows (base ++ tl)) : CompRest prog w A h₀ L m env elt x scope cl s S P Fin n 0 [] base := by
  refine rest_ind n (fun i ys news => ∃ tl, news = base ++ tl ∧ RowsIn tl ys ((List.range i).map G)) ?_ ?_ n 0 [] base (by omega) ⟨[], by simp, .nil⟩
  · rintro i ys news v I oI C oC D m₂ h tk E' hi ⟨tl, rfl, hr⟩ hP hN hv F N off ne
    refine wpAny_mono (turn i v tl ys I oI C oC D m₂ h tk E' hi hP hN hv F N off ne) (fun y s₂ h₂ => ?_) fun _ _ e => e
    obtain ⟨h', tk', a, us, k, rfl, rfl, F', N', hu, hne⟩ := h₂
    refine CompEnd.intro F' N' (base ++ (a, listOf us.toArray k) :: tl) ?_ ?_ (hS _) ⟨_, rfl, ?_⟩
    · intro p hp
      simp only [List.mem_cons, List.mem_append] at hp ⊢
      rcases hp with h1 | h1 | h1 | h1 | h1 | h1
      · exact .inr (.inl h1)
      · exact .inr (.inr (.inl h1))
      · exact .inr (.inr (.inr (.inl h1)))
      · exact .inr (.inr (.inr (.inr (.inl h1))))
      · exact .inl h1
      · exact .inr (.inr (.inr (.inr (.inr h1))))
    · refine Off3.of fun p hp => ?_
      simp only [List.mem_cons, List.mem_append] at hp
      rcases hp with h1 | h1 | h1
      · exact off.mem p (List.mem_append_left _ h1)
      · rw [h1]; exact hne
      · exact off.mem p (List.mem_append_right _ h1)
    · rw [List.range_succ, List.map_append]
      exact .snoc (hr.mono fun p hp => List.mem_cons_of_mem _ hp) ⟨a, us, k, rfl, List.mem_cons_self, hu⟩
  · rintro ys news ⟨tl, rfl, hr⟩
    exact fin ys tl hr
end
end Mine
end
-- R11
section
open PySem PySem.W PySem.Spec PySem.Calls PyProof.Rows
set_option Elab.async false
set_option maxRecDepth 100000
set_option maxHeartbeats 400000
namespace Mine
abbrev setT (led : Bool) : SetTable := { mask := 7, place := #[1], dummies := #[], finger := 0, led := led, moves := 0, plain := true }
abbrev set0 (led : Bool) : Obj := { cls := .type "set", data := .set #[] 0 (.fresh 0 0 led) }
abbrev set1 (led : Bool) : Obj := { cls := .type "set", data := .set #[(1, .bool true)] 1 (setT led) }
section
variable {prog : Program} {w : World} {A : Around} {E : Value → Shared → Prop} {s : Shared} {S : Addr} {led : Bool}
theorem lay_eq (led : Bool) : ∃ b, layNew (.fresh 0 0 led) #[] 1 (.bool true) = (#[(1, .bool true)], setT led, b, false) := by
  cases led <;> exact ⟨false, by decide +kernel⟩
theorem state_rule {o : Obj} {es : Array (Int × Value)} {n : Nat} {t : SetTable} {Q : Array (Int × Value) × Nat × SetTable → Shared → Prop} (hS : s.heap.get? S = some o) (hd : o.data = .set es n t) (hf : (t.place.size != es.size || decide (t.fill > t.mask)) = false) (h : Q (es, n, t) s) :
    wpAny (model prog w) A (setState S) Q E s := by
  unfold setState
  refine wpAny_bind (wpAny_load hS ?_)
  rw [hd]
  dsimp only
  rw [hf]
  exact wpAny_pure h
theorem add0 {Q : Bool → Shared → Prop} (hS : s.heap.get? S = some (set0 led)) (h : ∀ h', Heap.SameBut S s.heap h' → h'.get? S = some (set1 led) → Q true { s with heap := h' }) :
    wpAny (model prog w) A (setAddHashed S (.bool true) 1) Q E s := by
  unfold setAddHashed
  refine wpAny_holding ?_
  show wpAny _ _ (setAddHashedIn S (.bool true) 1 (99999 + 1)) _ _ _
  rw [setAddHashedIn]
  refine wpAny_bind (state_rule hS rfl (by cases led <;> decide +kernel) ?_)
  dsimp only
  rw [if_pos (show byScan (.bool true) #[] = true from by decide +kernel)]
  refine wpAny_bind ?_
  unfold setAddByScan
  refine wpAny_bind (wpAny_rule ?_)
  refine wpAny_bind (wpAny_of_eq (a := ScanMet.absent) rfl ?_)
  dsimp only
  obtain ⟨b, e⟩ := lay_eq led
  rw [e]
  dsimp only
  refine wpAny_bind (wpAny_of_eq (a := ()) rfl ?_)
  rw [if_pos rfl]
  refine wpAny_bind (wpAny_of_eq (a := true) rfl ?_)
  have hf : (!b && (setT led).tooFull) = false := by
    have : (setT led).tooFull = false := by cases led <;> decide +kernel
    rw [this, Bool.and_false]
  simp only [if_true]
  refine wpAny_bind ?_
  unfold storeSet
  refine wpAny_bind (wpAny_load hS ?_)
  show wpAny _ _ (if (#[((1 : Int), Value.bool true)] : Array (Int × Value)).size > sizeLine then _ else _) _ _ _
  rw [if_neg (by rw [sizeLine_eq]; decide)]
  refine wpAny_update hS ?_
  rw [hf]
  exact wpAny_pure (wpAny_pure (h _ (Heap.SameBut.update ..) (Heap.get?_update_self _ hS rfl)))
theorem add1 {Q : Bool → Shared → Prop} (hS : s.heap.get? S = some (set1 led)) (h : Q false s) :
    wpAny (model prog w) A (setAddHashed S (.bool true) 1) Q E s := by
  unfold setAddHashed
  refine wpAny_holding ?_
  show wpAny _ _ (setAddHashedIn S (.bool true) 1 (99999 + 1)) _ _ _
  rw [setAddHashedIn]
  refine wpAny_bind (state_rule hS rfl (by cases led <;> decide +kernel) ?_)
  dsimp only
  rw [if_pos (show byScan (.bool true) #[(1, .bool true)] = true from by decide +kernel)]
  refine wpAny_bind ?_
  unfold setAddByScan
  refine wpAny_bind (wpAny_rule ?_)
  refine wpAny_bind ?_
  show wpAny _ _ (setScanFrom S (.bool true) 1 true [((1 : Int), Value.bool true)] 0) _ _ _
  unfold setScanFrom
  rw [if_pos (by decide)]
  refine wpAny_bind ?_
  unfold setEpoch
  refine wpAny_bind (state_rule hS rfl (by cases led <;> decide +kernel) (wpAny_pure ?_))
  have he : ∀ {Q : Bool → Shared → Prop}, Q true s → wpAny (model prog w) A (eqBool (.bool true) (.bool true)) Q E s := fun h => by
    unfold eqBool
    refine wpAny_holding ?_
    rw [if_pos (show (Value.bool true == Value.bool true) = true from by decide)]
    exact wpAny_bind (wpAny_rule (wpAny_pure h))
  refine wpAny_bind (he ?_)
  exact wpAny_pure (wpAny_pure (wpAny_pure h))
theorem look_hash : typeLookup (.type "bool") "__hash__" = pure (some (.builtin "int.__hash__")) := by rw [typeLookup_type, builtinLookup_eq_fast]; kernel_rfl
theorem slot_bool_hash : Slot "bool" "__hash__" "int.__hash__" :=
  .of (owner := "int") (n := "__hash__") look_hash (by decide +kernel) (by decide +kernel) (by decide +kernel)
    (by first | exact .inl (by decide +kernel) | exact .inr (by decide +kernel)) (by rw [isSubtype_type]; kernel_rfl)
theorem hash_true {Q : Int → Shared → Prop} (h : ∀ tk, Q 1 { s with toks := tk }) : wpAny (model prog w) A (pyHash (.bool true)) Q E s := by
  have hT : s.TypeIs (.bool true) "bool" := rfl
  unfold pyHash
  have hv : [Value.bool true].any Value.onHeap = false := rfl
  refine wpAny_bind ?_
  rw [cRoomFor, if_neg (by rw [hv]; exact Bool.false_ne_true)]
  refine wpAny_pure ?_
  refine wpAny_bind (wpAny_specialOf hT slot_bool_hash.lookup ?_)
  show wpAny _ _ (if (some (Value.builtin "int.__hash__") == some Value.none) = true then _ else _) Q E s
  rw [if_neg (by decide)]
  refine wpAny_bind (wpAny_specialOf hT slot_bool_hash.lookup ?_)
  show wpAny _ _ (callSpecialIfBoundUnlessNone? (.bool true) "__hash__" _ >>= _) Q E s
  refine wpAny_bind (wpAny_callSpecialIfBoundUnlessNone?_slot hT slot_bool_hash
    (wpAny_call_entry slot_bool_hash hT entry_int_hash ?_ (args_int_hash _)))
  show wpAny _ _ (do ret (← mkInt 1)) _ _ s
  refine wpAny_ret_mkInt ?_
  show wpAny _ _ (if (decide (-(2 : Int) ^ 63 ≤ 1) && decide ((1 : Int) < 2 ^ 63)) = true then _ else _) Q E _
  rw [if_pos (by decide)]
  exact wpAny_pure (h _)
theorem set_add0 {Q : Value → Shared → Prop} (hS : s.heap.get? S = some (set0 led)) (h : ∀ h' tk, Heap.SameBut S s.heap h' → h'.get? S = some (set1 led) → Q .none { s with heap := h', toks := tk }) :
    wpAny (model prog w) A (call (.builtin "set.add") [.ref S, .bool true]) Q E s := by
  refine wpAny_call_entry F.slot_set_add ⟨_, hS, rfl⟩ F.entry_set_add ?_ (F.args_set_add_2 _ _)
  show wpAny _ _ (setAdd S (.bool true) >>= fun _ => ret .none) _ _ _
  refine wpAny_bind ?_
  unfold setAdd
  refine wpAny_holding (wpAny_bind (hash_true fun tk => add0 (s := { s with toks := tk }) hS fun h' same g => ?_))
  exact wpAny_pure ⟨_, rfl, h h' tk same g⟩
theorem set_add1 {Q : Value → Shared → Prop} (hS : s.heap.get? S = some (set1 led)) (h : ∀ tk, Q .none { s with toks := tk }) :
    wpAny (model prog w) A (call (.builtin "set.add") [.ref S, .bool true]) Q E s := by
  refine wpAny_call_entry F.slot_set_add ⟨_, hS, rfl⟩ F.entry_set_add ?_ (F.args_set_add_2 _ _)
  show wpAny _ _ (setAdd S (.bool true) >>= fun _ => ret .none) _ _ _
  refine wpAny_bind ?_
  unfold setAdd
  refine wpAny_holding (wpAny_bind (hash_true fun tk => add1 (s := { s with toks := tk }) hS ?_))
  exact wpAny_pure ⟨_, rfl, h tk⟩
end
end Mine
end
-- R12
section
open PySem PySem.W PySem.Spec PySem.Calls PyProof.Rows PyProof.Rows.LCg
set_option Elab.async false
set_option maxRecDepth 100000
set_option maxHeartbeats 1000000
namespace Mine
section
variable {prog : Program} {w : World} {A : Around} {E : Value → Shared → Prop} {s : Shared} {h₀ : Heap} {L : Addr} {m : Str → Option Value} {env : Env} {elt iter : Expr} {x : Str} {px pos : Pos} {scope : Scope} {cl : List (Str × Addr)}
theorem setTurn (elt target iter : Expr) (scope : Scope) (pos : Pos) (it acc : Value) (env : Env) :
    compTurn (.SetComp elt [⟨target, iter, [], 0⟩] scope pos) 0 it acc env = (standAt iter.pos >>= fun _ => pyNext it >>= fun r => match r with
      | none => pure (.done .next)
      | some v => letOwnedTupleGo target it v >>= fun _ => assign target env v >>= fun _ =>
        (eval elt env >>= fun x => standAt elt.pos >>= fun _ => call (.builtin "set.add") [acc, x] >>= fun _ => pure ()) >>= fun _ =>
          again (.compLoop (.SetComp elt [⟨target, iter, [], 0⟩] scope pos) 0 it acc env)) := by rfl
theorem setLoop {R : Result → Shared → Prop} {it acc : Value} {cenv : Env} (J : Nat → Shared → Prop)
    (turn : ∀ n s, J n s → wpAny (model prog w) A (pyNext it) (fun r s₁ => match r with
      | none => R (.ok .next) s₁
      | some v => wpAny (model prog w) A (storeName cenv x v) (fun _ s₂ => wpAny (model prog w) A (eval elt cenv) (fun y s₃ =>
          wpAny (model prog w) A (call (.builtin "set.add") [acc, y]) (fun _ s₄ => ∃ k, k < n ∧ J k s₄) (fun _ _ => False) s₃) (fun _ _ => False) s₂) (fun _ _ => False) s₁) (fun _ _ => False) s)
    (n : Nat) (h : J n s) : codeAny (model prog w) A (.compLoop (.SetComp elt [⟨.Name x px, iter, [], 0⟩] scope pos) 0 it acc cenv) R s := by
  refine codeAny_loop rfl J (fun n s hJ => ?_) n h
  show wpAny _ A ((compTurn (.SetComp elt [⟨.Name x px, iter, [], 0⟩] scope pos) 0 it acc cenv).onRaise (fun x => do noteFrame x cenv; theTreesLotGoes x)) _ _ s
  refine wpAny_noted ?_
  rw [setTurn]
  refine wpAny_bind (wpAny_standAt (wpAny_bind (wpAny_mono (turn n s hJ) (fun r s₁ h₁ => ?_) fun _ _ e => e.elim)))
  cases r with
  | none => exact wpAny_pure h₁
  | some v =>
    refine wpAny_bind (wpAny_of_eq (a := ()) rfl (wpAny_bind (wpAny_assign_Name (wpAny_mono h₁ (fun _ s₂ h₂ => ?_) fun _ _ e => e.elim))))
    refine wpAny_bind (wpAny_bind (wpAny_mono h₂ (fun y s₃ h₃ => wpAny_bind (wpAny_standAt (wpAny_bind (wpAny_mono h₃ (fun _ s₄ h₄ => wpAny_pure (wpAny_pure ⟨rfl, h₄⟩)) fun _ _ e => e.elim)))) fun _ _ e => e.elim))
theorem setStart {R : Result → Shared → Prop} {it acc : Value} {cenv : Env}
    (h0 : codeAny (model prog w) A (.compLoop (.SetComp elt [⟨.Name x px, iter, [], 0⟩] scope pos) 0 it acc cenv) R s)
    (h : wpAny (model prog w) A (pyIter it) (fun it' s' => codeAny (model prog w) A (.compLoop (.SetComp elt [⟨.Name x px, iter, [], 0⟩] scope pos) 0 it' acc cenv) R s') (fun _ _ => False) s) :
    codeAny (model prog w) A (.compStart (.SetComp elt [⟨.Name x px, iter, [], 0⟩] scope pos) 0 it acc cenv) R s := by
  refine codeAny_of_tree ?_
  show wpAny _ _ ((compStart (.SetComp elt [⟨.Name x px, iter, [], 0⟩] scope pos) 0 it acc cenv).onRaise (fun x => do noteFrame x cenv; standAt theWindowsPlace)) _ _ s
  refine wpAny_notedAt ?_
  unfold compStart
  show wpAny _ _ (ask >>= _) _ _ s
  refine wpAny_bind (wpAny_askSetting ?_)
  by_cases hc : (model prog w).w.params.followText "comprehension-iter-twice" = true
  · rw [if_pos hc]
    exact wpAny_pure ⟨rfl, h0⟩
  · rw [if_neg hc]
    exact wpAny_bind (wpAny_rule (wpAny_bind (wpAny_standAt (wpAny_bind (wpAny_mono h (fun it' s' h' => wpAny_pure ⟨rfl, h'⟩) fun _ _ e => e.elim)))))

def BoolEnd (h₀ : Heap) (L : Addr) (m : Str → Option Value) (s₁ : Shared) (all : List (Addr × Obj)) (y : Value) (s₂ : Shared) : Prop :=
  y = .bool true ∧ ∃ h' tk, s₂ = { s₁ with heap := h', toks := tk } ∧ Fr h₀ L h' m ∧ News h₀ L h' all
theorem BoolEnd.mk' {b : Bool} {all news' : List (Addr × Obj)} {h' : Heap} {tk : Nat} (F : Fr h₀ L h' m) (N : News h₀ L h' news') (hsub : ∀ p ∈ all, p ∈ news') (hb : b = true) : BoolEnd h₀ L m s all (.bool b) { s with heap := h', toks := tk } :=
  ⟨by rw [hb], h', tk, rfl, F, fun p hp => N p (hsub p hp)⟩

/-- the turns and the end of a set comprehension all of whose items are True -/
def TrueRest (prog : Program) (w : World) (A : Around) (h₀ : Heap) (L : Addr) (m : Str → Option Value) (env : Env) (elt : Expr) (x : Str) (scope : Scope) (cl : List (Str × Addr)) (Q : Value → Shared → Prop) (n : Nat) (P : Nat → Value → Prop) (news : List (Addr × Obj)) (s₂ : Shared) : Prop :=
  0 < n ∧
  (∀ i v I oI C oC D oD m₂ h tk, i < n → P i v → NsObj oC m₂ → m₂ x = some v → Fr h₀ L h m → News h₀ L h ((I, oI) :: (C, oC) :: (D, oD) :: news) → Off3 I C D news → ((@Ne Nat I C) ∧ (@Ne Nat I D) ∧ (@Ne Nat C D)) →
    wpAny (model prog w) A (eval elt (compEnvC scope cl C env)) (BoolEnd h₀ L m { s₂ with heap := h, toks := tk } ((I, oI) :: (C, oC) :: (D, oD) :: news)) (fun _ _ => False) { s₂ with heap := h, toks := tk }) ∧
  (∀ D led h tk, led = !w.params.followText "set-order" → Fr h₀ L h m → News h₀ L h ((D, set1 led) :: news) → Off1 D news → Q (.ref D) { s₂ with heap := h, toks := tk })

theorem eval_SetComp1 : eval (.SetComp elt [⟨.Name x px, iter, [], 0⟩] scope pos) env = comprehension (.SetComp elt [⟨.Name x px, iter, [], 0⟩] scope pos) scope env (firstIterPos [⟨.Name x px, iter, [], 0⟩] pos) (newSet (.type "set")) false (eval iter env) none := rfl

theorem setcomp_true {Q : Value → Shared → Prop} (_F₀ : Fr h₀ L s.heap m) (hclos : closureFor scope env = pure cl) (hcell : ∀ y ∈ scope.names, y.2 ≠ .cell) (hkind : scope.kind = .function)
    (hnames : ∀ y ∈ scope.names, y.2 = .local → scope.names.lookup y.1 = some .local) (hx : scope.names.lookup x = some .local)
    (h : wpAny (model prog w) A (eval iter env) (fun xv s₁ => wpAny (model prog w) A (pyIter xv)
      (Source prog w A h₀ L m fun n P S news s₂ => S news ∧ TrueRest prog w A h₀ L m env elt x scope cl Q n P news s₂) E s₁) E s)
    (hs : ∀ x, foldedSetIterable iter env x = pure x := by intro _; rfl) :
    wpAny (model prog w) A (eval (.SetComp elt [⟨.Name x px, iter, [], 0⟩] scope pos) env) Q E s := by
  rw [eval_SetComp1]
  refine wpAny_comprehension_free (use := none) rfl hs hclos hkind hnames (wpAny_mono h (fun xv s₁ h₁ => wpAny_mono h₁ (fun it s₂ h₂ => ?_) fun _ _ e => e) fun _ _ e => e)
  obtain ⟨I, fp, n, P, St, S, news, rfl, W, hsz, hIo, hSt, hst, hfp, F, N, hLI, hI0, off, hS, _, hn0, turns, fin⟩ := h₂
  have hIlt : I < s₂.heap.objs.size := hfp I (W.sub I (List.mem_singleton.mpr rfl))
  have hLlt : L < s₂.heap.objs.size := F.ns.lt
  unfold newSet
  refine wpAny_bind ?_
  unfold setsByText
  refine wpAny_bind (wpAny_askSetting (wpAny_pure ?_))
  show wpAny _ _ (newObj (.type "set") (.set #[] 0 (.fresh 0 0 (!w.params.followText "set-order")))) _ _ _
  generalize hled : (!w.params.followText "set-order") = led
  refine wpAny_newObj_type (wpAny_newFunctionEnv hcell (by intro y hy; simp at hy) (fun h₁ hns₁ hsb₁ => ?_) hkind)
  dsimp only at hns₁ hsb₁ ⊢
  -- the two new addresses
  have old : ∀ b o, s₂.heap.get? b = some o → h₁.get? b = some o := fun b o e => hsb₁.extBut b o (fun q => by
    have l1 := Heap.lt_size e
    have l2 : b = s₂.heap.objs.size + 1 := by rw [q, Heap.size_push]
    rw [l2] at l1; exact absurd l1 (Nat.not_lt.mpr (Nat.le_succ _))) (Heap.get?_push_of_some _ (Heap.get?_push_of_some _ e))
  have gD : h₁.get? s₂.heap.objs.size = some (set0 led) := hsb₁.extBut _ _ (fun q => by
    rw [Heap.size_push] at q; exact absurd q (Nat.ne_of_lt (Nat.lt_succ_self _))) (Heap.get?_push_of_some _ (Heap.get?_push_size _ rfl))
  rw [Heap.size_push] at hns₁
  rw [Heap.size_push]
  have new₀ : ∀ a, s₂.heap.objs.size ≤ a → h₀.get? a = none := fun a ha => by
    cases e : h₀.get? a with
    | none => rfl
    | some o' => exact absurd (Heap.lt_size (F.keep a o' e)) (Nat.not_lt.mpr ha)
  generalize hd : s₂.heap.objs.size = D at *
  have D0 : h₀.get? D = none := new₀ D (Nat.le_refl _)
  have C0 : h₀.get? (D + 1) = none := new₀ _ (Nat.le_succ _)
  have ID : I ≠ D := Nat.ne_of_lt hIlt
  have IC : I ≠ D + 1 := Nat.ne_of_lt (Nat.lt_succ_of_lt hIlt)
  have LD : L ≠ D := Nat.ne_of_lt hLlt
  have LC : L ≠ D + 1 := Nat.ne_of_lt (Nat.lt_succ_of_lt hLlt)
  have CD : D + 1 ≠ D := Nat.succ_ne_self D
  have nlt : ∀ p ∈ news, p.1 < D := fun p hp => hd ▸ Heap.lt_size (N p hp).1
  have off3 : Off3 I (D + 1) D news := Off3.of fun p hp => ⟨off p hp, Nat.ne_of_lt (Nat.lt_succ_of_lt (nlt p hp)), Nat.ne_of_lt (nlt p hp)⟩
  have fpD : D ∉ fp := fun hm => Nat.lt_irrefl _ (hfp _ hm)
  have fpC : D + 1 ∉ fp := fun hm => absurd (hfp _ hm) (Nat.not_lt.mpr (Nat.le_succ _))
  have loop : codeAny (model prog w) A (.compLoop (.SetComp elt [⟨.Name x px, iter, [], 0⟩] scope pos) 0 (.ref I) (.ref D) (compEnvC scope cl (D + 1) env)) (compPost (model prog w) A E none Q (.ref D) (D + 1)) { s₂ with heap := h₁, toks := s₂.toks + ([] : List (Str × Value)).length } := by
    refine setLoop (fun k s' => ∃ h' tk i mC, s' = { s₂ with heap := h', toks := tk } ∧ i ≤ n ∧ k = n + 1 - i ∧ St i h' ∧ Fr h₀ L h' m ∧ h'.Ns (D + 1) mC ∧ News h₀ L h' ((D, if i = 0 then set0 led else set1 led) :: news)) ?_ (n + 1)
      ⟨h₁, _, 0, _, rfl, Nat.zero_le _, rfl, W.frame _ _ _ hst fun b _ o e => old b o e, fr_stays F old, hns₁, fun p hp => ?_⟩
    · rintro k s' ⟨h', tk, i, mC, rfl, hi, rfl, hst', F', hn', N'⟩
      have keepD : ∀ h'' : Heap, (∀ b o, b ∉ [I] → h'.get? b = some o → h''.get? b = some o) → Fr h₀ L h'' m ∧ h''.Ns (D + 1) mC ∧ News h₀ L h'' ((D, if i = 0 then set0 led else set1 led) :: news) := fun h'' hk =>
        ⟨fr_but F' hk hLI hI0, hn'.at' fun o e => hk _ o (by simpa using Ne.symm IC) e, news_but N' hk fun p hp => by
          rcases List.mem_cons.mp hp with rfl | hp
          · exact Ne.symm ID
          · exact off p hp⟩
      by_cases hlt : i < n
      · refine W.item i _ _ _ hlt hst' fun v h₂ tk₂ hPv hst₂ hk₂ => ?_
        obtain ⟨F₂, n₂, N₂⟩ := keepD h₂ hk₂
        refine wpAny_storeName_local (lookup_relabel_local hx) n₂ (fun h₃ hn₃ hs₃ => ?_) (by simp [compEnvC, relabel, hkind])
        have hs₃' : Heap.SameBut (D + 1) h₂ h₃ := hs₃
        have hst₃ : St (i + 1) h₃ := W.frame _ _ _ hst₂ fun b hb o e => hs₃'.extBut b o (fun q => fpC (q ▸ hb)) e
        obtain ⟨oI, heI⟩ := hIo _ _ hst₃
        obtain ⟨oC, heC, hoC⟩ := ns_obj hn₃
        have F₃ : Fr h₀ L h₃ m := F₂.change hs₃' (Ne.symm LC) C0
        have N₃ : News h₀ L h₃ ((I, oI) :: (D + 1, oC) :: (D, if i = 0 then set0 led else set1 led) :: news) := fun p hp => by
          rcases List.mem_cons.mp hp with rfl | hp
          · exact ⟨heI, Ne.symm hLI, hI0⟩
          · rcases List.mem_cons.mp hp with rfl | hp
            · exact ⟨heC, Ne.symm LC, C0⟩
            · refine ⟨hs₃'.extBut _ _ (fun q => ?_) (N₂ p hp).1, (N₂ p hp).2⟩
              rcases List.mem_cons.mp hp with e | hp
              · rw [e] at q; exact CD q.symm
              · exact (off3.mem p hp).2.1 q
        refine wpAny_mono (turns i v I oI (D + 1) oC D _ _ h₃ _ hlt hPv hoC (by simp) F₃ N₃ off3 ⟨IC, ID, CD⟩) (fun y s₄ h₄ => ?_) fun _ _ e => e
        obtain ⟨rfl, h₄', tk₄, rfl, F₄, N₄⟩ := h₄
        have gD₄ := (N₄ (D, if i = 0 then set0 led else set1 led) (.tail _ (.tail _ (.head _)))).1
        have back : ∀ (h₅ : Heap) tk₅, Heap.SameBut D h₄' h₅ → h₅.get? D = some (set1 led) → ∃ k, k < n + 1 - i ∧ ∃ h' tk i' mC, ({ s₂ with heap := h₅, toks := tk₅ } : Shared) = { s₂ with heap := h', toks := tk } ∧ i' ≤ n ∧ k = n + 1 - i' ∧ St i' h' ∧ Fr h₀ L h' m ∧ h'.Ns (D + 1) mC ∧ News h₀ L h' ((D, if i' = 0 then set0 led else set1 led) :: news) := by
          intro h₅ tk₅ same g₅
          refine ⟨n + 1 - (i + 1), by omega, h₅, tk₅, i + 1, _, rfl, hlt, rfl, ?_, F₄.change same (Ne.symm LD) D0, (hoC.ns (N₄ (D + 1, oC) (.tail _ (.head _))).1).sameBut same CD, fun p hp => ?_⟩
          · have st₄ := hSt (i + 1) h₃ h₄' oI _ hst₃ heI (N₄ (I, oI) (.head _)).1 F₄.keep (fun p hp => N₄ p (.tail _ (.tail _ (.tail _ hp)))) hS
            exact W.frame _ _ _ st₄ fun b hb o e => same.extBut b o (fun q => fpD (q ▸ hb)) e
          · rcases List.mem_cons.mp hp with rfl | hp
            · rw [if_neg (Nat.succ_ne_zero i)]; exact ⟨g₅, Ne.symm LD, D0⟩
            · have := N₄ p (.tail _ (.tail _ (.tail _ hp)))
              exact ⟨same.extBut _ _ (off3.mem p hp).2.2 this.1, this.2⟩
        by_cases hi0 : i = 0
        · rw [if_pos hi0] at gD₄
          exact set_add0 gD₄ fun h₅ tk₅ same g₅ => back h₅ tk₅ same g₅
        · rw [if_neg hi0] at gD₄
          exact set_add1 gD₄ fun tk₅ => back h₄' tk₅ (.refl ..) gD₄
      · have hin : i = n := by omega
        subst hin
        refine W.done _ _ _ hst' fun h₂ tk₂ hk₂ => ?_
        obtain ⟨F₂, n₂, N₂⟩ := keepD h₂ hk₂
        rw [if_neg (by omega)] at N₂
        refine ⟨mC, n₂, fun h'' same => fin D led h'' tk₂ hled.symm (F₂.change same (Ne.symm LC) C0) (fun p hp => ⟨same.extBut _ _ (fun q => ?_) (N₂ p hp).1, (N₂ p hp).2⟩) (Off3.one off3)⟩
        rcases List.mem_cons.mp hp with e | hp
        · rw [e] at q; exact CD q.symm
        · exact (off3.mem p hp).2.1 q
    · rcases List.mem_cons.mp hp with rfl | hp
      · exact ⟨gD, Ne.symm LD, D0⟩
      · exact ⟨old _ _ (N p hp).1, (N p hp).2⟩
  refine setStart loop (W.self 0 _ _ _ (W.frame _ _ _ hst fun b _ o e => old b o e) loop)
end
end Mine
end
-- R13
section
open PySem PySem.W PySem.Spec PySem.Calls PyProof.Rows
set_option Elab.async false
set_option maxRecDepth 100000
set_option maxHeartbeats 400000
namespace Mine
theorem slot_set_iter : Slot "set" "__iter__" "set.__iter__" :=
  .of (owner := "set") (n := "__iter__") (by rw [typeLookup_type, builtinLookup_eq_fast]; kernel_rfl) (by decide +kernel) (by decide +kernel) (by decide +kernel)
    (by first | exact .inl (by decide +kernel) | exact .inr (by decide +kernel)) (by rw [isSubtype_type]; kernel_rfl)
theorem entry_set_iter : entryFor table "set.__iter__" = some Builtin.«frozenset.__iter__» :=
  entryFor_alias (id' := "frozenset.__iter__") (by kernel_rfl) (by first | rfl | decide +kernel | (unfold String.splitOn; simp +decide [String.splitOnAux])) (by decide +kernel) (by kernel_rfl)
theorem args_set_iter (a : Value) : argsOk "set.__iter__" ⟨[a], []⟩ := by unfold argsOk; kernel_rfl
theorem slot_seti_next : Slot "set_iterator" "__next__" "set_iterator.__next__" :=
  .of (owner := "set_iterator") (n := "__next__") (by rw [typeLookup_type, builtinLookup_eq_fast]; kernel_rfl) (by decide +kernel) (by decide +kernel) (by decide +kernel)
    (by first | exact .inl (by decide +kernel) | exact .inr (by decide +kernel)) (by rw [isSubtype_type]; kernel_rfl)
theorem entry_seti_next : entryFor table "set_iterator.__next__" = some Builtin.«set_iterator.__next__» := entryFor_of_tree (by kernel_rfl)
theorem args_seti_next (a : Value) : argsOk "set_iterator.__next__" ⟨[a], []⟩ := by unfold argsOk; kernel_rfl
abbrev setIt (a b : Int) (d : Value) : Obj := { cls := .type "set_iterator", data := .fields #[rawInt a, rawInt b, d, rawInt 1, rawInt 1] }
section
variable {prog : Program} {w : World} {A : Around} {E : Value → Shared → Prop} {s : Shared} {D : Addr} {led : Bool}
theorem iter_set1 {Q : Value → Shared → Prop} (hS : s.heap.get? D = some (set1 led)) (h : Q (.ref s.heap.objs.size) { s with heap := s.heap.push (setIt 0 0 (.ref D)) }) :
    wpAny (model prog w) A (pyIter (.ref D)) Q E s := by
  have hT : s.TypeIs (.ref D) "set" := ⟨_, hS, rfl⟩
  refine wpAny_pyIter_slot hT slot_set_iter (wpAny_call_entry slot_set_iter hT entry_set_iter ?_ (args_set_iter _))
  unfold Builtin.«frozenset.__iter__»
  refine wpAny_bind (wpAny_of_eq (a := D) rfl ?_)
  refine wpAny_bind ?_
  unfold Builtin.Frozenset.sizeOf setEntries
  refine wpAny_bind (wpAny_bind (state_rule hS rfl (by cases led <;> decide +kernel) (wpAny_pure ?_)))
  refine wpAny_pure ?_
  refine wpAny_bind ?_
  unfold setDrawn
  refine wpAny_bind (state_rule hS rfl (by cases led <;> decide +kernel) ?_)
  refine wpAny_bind ?_
  unfold setsByText
  refine wpAny_bind (wpAny_askSetting (wpAny_pure (wpAny_pure ?_)))
  have hno : ∀ (b : Bool) (t : Sem Fin) (e : Sem Fin) {P : Fin → Shared → Prop}, wpAny (model prog w) A.in1 e P E s → wpAny (model prog w) A.in1 (if (b && false) = true then t else e) P E s := fun b t e P h => by
    rw [Bool.and_false, if_neg (by decide)]; exact h
  refine hno _ _ _ ?_
  refine wpAny_bind (wpAny_pure ?_)
  refine wpAny_bind ?_
  unfold setEpoch
  refine wpAny_bind (state_rule hS rfl (by cases led <;> decide +kernel) (wpAny_pure ?_))
  refine wpAny_bind ?_
  unfold newFields
  refine wpAny_newObj_type (wpAny_pure ⟨_, rfl, "set_iterator", _, ⟨_, Heap.get?_push_size _ rfl, rfl⟩, slot_seti_next.lookup, h⟩)
theorem pick_one (next : Nat → Nat) (x : Int × Value) : pickOrder next #[x] = #[x] := by
  unfold pickOrder
  show pickOrder.go next 1 0 [x] #[] = #[x]
  unfold pickOrder.go
  have : next 0 % [x].length = 0 := by simp [Nat.mod_one]
  rw [this]
  rfl
def nxt (w : World) : Nat := if w.params.followText "set-order" then 0 else 2
theorem setNext_one {Q : Option (Value × Nat) → Shared → Prop} (hS : s.heap.get? D = some (set1 led)) (hled : led = !w.params.followText "set-order") (h : Q (some (.bool true, nxt w)) s) :
    wpAny (model prog w) A (setNext D 0 0 1) Q E s := by
  unfold setNext
  refine wpAny_bind (state_rule hS rfl (by cases led <;> decide +kernel) ?_)
  refine wpAny_bind ?_
  unfold setsByText
  refine wpAny_bind (wpAny_askSetting (wpAny_pure ?_))
  show wpAny _ _ (if w.params.followText "set-order" = true then _ else _) _ _ _
  by_cases hf : w.params.followText "set-order" = true
  · rw [if_pos hf]
    refine wpAny_bind ?_
    unfold setWalk
    refine wpAny_bind (state_rule hS rfl (by cases led <;> decide +kernel) ?_)
    refine wpAny_bind ?_
    unfold setsByText
    refine wpAny_bind (wpAny_askSetting (wpAny_pure ?_))
    show wpAny _ _ (if w.params.followText "set-order" = true then _ else _) _ _ _
    rw [if_pos hf]
    refine wpAny_bind (wpAny_askSetting (wpAny_pure ?_))
    rw [pick_one]
    have : nxt w = 0 := if_pos hf
    rw [this] at h
    exact wpAny_pure h
  · rw [if_neg hf]
    have e1 : w.params.followText "set-order" = false := by simpa using hf
    have : nxt w = 2 := by unfold nxt; rw [e1]; rfl
    rw [this] at h
    rw [e1] at hled
    subst hled
    exact wpAny_of_eq (a := some (Value.bool true, 2)) rfl h
theorem setNext_two {Q : Option (Value × Nat) → Shared → Prop} (hS : s.heap.get? D = some (set1 led)) (hled : led = !w.params.followText "set-order") (h : Q none s) :
    wpAny (model prog w) A (setNext D (nxt w) 1 1) Q E s := by
  unfold setNext
  refine wpAny_bind (state_rule hS rfl (by cases led <;> decide +kernel) ?_)
  refine wpAny_bind ?_
  unfold setsByText
  refine wpAny_bind (wpAny_askSetting (wpAny_pure ?_))
  show wpAny _ _ (if w.params.followText "set-order" = true then _ else _) _ _ _
  by_cases hf : w.params.followText "set-order" = true
  · rw [if_pos hf]
    refine wpAny_bind ?_
    unfold setWalk
    refine wpAny_bind (state_rule hS rfl (by cases led <;> decide +kernel) ?_)
    refine wpAny_bind ?_
    unfold setsByText
    refine wpAny_bind (wpAny_askSetting (wpAny_pure ?_))
    show wpAny _ _ (if w.params.followText "set-order" = true then _ else _) _ _ _
    rw [if_pos hf]
    refine wpAny_bind (wpAny_askSetting (wpAny_pure ?_))
    rw [pick_one]
    have : nxt w = 0 := if_pos hf
    rw [this]
    exact wpAny_pure h
  · rw [if_neg hf]
    have e1 : w.params.followText "set-order" = false := by simpa using hf
    have : nxt w = 2 := by unfold nxt; rw [e1]; rfl
    rw [this]
    rw [e1] at hled
    subst hled
    exact wpAny_of_eq (a := none) rfl h
theorem next_one {I : Addr} {Q : Value → Shared → Prop} (hS : s.heap.get? D = some (set1 led)) (hled : led = !w.params.followText "set-order") (hI : s.heap.get? I = some (setIt 0 0 (.ref D)))
    (h : ∀ h', Heap.SameBut I s.heap h' → h'.get? I = some (setIt (nxt w) 1 (.ref D)) → Q (.bool true) { s with heap := h' }) :
    wpAny (model prog w) A (Builtin.«set_iterator.__next__» ⟨[.ref I], []⟩) (fun fin s' => ∃ v, fin = .done (.ret v) ∧ Q v s') E s := by
  unfold Builtin.«set_iterator.__next__»
  refine wpAny_bind (wpAny_of_eq (a := (Value.ref I, [])) rfl ?_)
  refine wpAny_bind (wpAny_fieldsOf hI rfl ?_)
  dsimp only [rawInt]
  refine wpAny_bind ?_
  unfold setEntries
  refine wpAny_bind (state_rule hS rfl (by cases led <;> decide +kernel) (wpAny_pure ?_))
  refine wpAny_ite_false (show (((1 : Nat) : Int) != 1) = false from by decide) ?_
  refine wpAny_bind (setNext_one hS hled ?_)
  dsimp only
  refine wpAny_bind (wpAny_setField hI rfl (by simp) ?_)
  have hI2 := Heap.get?_update_self (Obj.mapFields (·.setIfInBounds 0 (rawInt (nxt w)))) hI rfl
  refine wpAny_bind (wpAny_setField hI2 rfl (by simp) ?_)
  refine wpAny_pure ⟨_, rfl, h _ ((Heap.SameBut.update ..).trans (Heap.SameBut.update ..)) ?_⟩
  exact Heap.get?_update_self _ hI2 rfl
theorem next_two {I : Addr} {Q : Fin → Shared → Prop} (hh : A.handled = none) (hS : s.heap.get? D = some (set1 led)) (hled : led = !w.params.followText "set-order") (hI : s.heap.get? I = some (setIt (nxt w) 1 (.ref D)))
    (h : ∀ h' e, Heap.ExtBut I s.heap h' → (∃ o, h'.get? e = some o ∧ o.cls = .type "StopIteration") → E (.ref e) { s with heap := h' }) :
    wpAny (model prog w) A (Builtin.«set_iterator.__next__» ⟨[.ref I], []⟩) Q E s := by
  unfold Builtin.«set_iterator.__next__»
  refine wpAny_bind (wpAny_of_eq (a := (Value.ref I, [])) rfl ?_)
  refine wpAny_bind (wpAny_fieldsOf hI rfl ?_)
  dsimp only [rawInt]
  refine wpAny_bind ?_
  unfold setEntries
  refine wpAny_bind (state_rule hS rfl (by cases led <;> decide +kernel) (wpAny_pure ?_))
  refine wpAny_ite_false (show (((1 : Nat) : Int) != 1) = false from by decide) ?_
  refine wpAny_bind (setNext_two hS hled ?_)
  dsimp only
  refine wpAny_bind (wpAny_setField hI rfl (by simp) ?_)
  have hh' := hh
  wp_walk
  refine wpAny_raiseNew_none hh (h _ _ (fun b o hb e => ?_) ⟨_, Heap.get?_push_size _ rfl, rfl⟩)
  exact Heap.get?_push_of_some _ (Heap.get?_push_of_some _ ((Heap.get?_update_other _ _ (Ne.symm hb)).trans e))
/-- «x, = {True}» -/
theorem unpack_true {Q : List Value → Shared → Prop} (hh : A.handled = none) (hS : s.heap.get? D = some (set1 led)) (hled : led = !w.params.followText "set-order")
    (h : ∀ h', s.heap.StaysIn h' → Q [.bool true] { s with heap := h' }) : wpAny (model prog w) A (unpackItems (.ref D) 1 none) Q E s := by
  have hT : s.TypeIs (.ref D) "set" := ⟨_, hS, rfl⟩
  have hDlt := Heap.lt_size hS
  have hDI : D ≠ s.heap.objs.size := Nat.ne_of_lt hDlt
  unfold unpackItems notIterableAtAll
  refine wpAny_bind (wpAny_bind (wpAny_specialOf hT slot_set_iter.lookup (wpAny_pure ?_)))
  rw [if_neg (by decide)]
  refine wpAny_bind (wpAny_holding (iter_set1 hS ?_))
  have hI : (s.heap.push (setIt 0 0 (.ref D))).get? s.heap.objs.size = some (setIt 0 0 (.ref D)) := Heap.get?_push_size _ rfl
  have hS₁ : (s.heap.push (setIt 0 0 (.ref D))).get? D = some (set1 led) := Heap.get?_push_of_some _ hS
  refine wpAny_bind (wpAny_holding ?_)
  unfold draw
  refine wpAny_bind ?_
  unfold pyNext
  refine wpAny_bind (wpAny_attempt (wpAny_callSpecial?_slot (name := Str.ofString "__next__") (T := "set_iterator") ⟨_, hI, rfl⟩ slot_seti_next
    (wpAny_call_entry slot_seti_next ⟨_, hI, rfl⟩ entry_seti_next (next_one hS₁ hled hI fun h₁ same g₁ => ?_) (args_seti_next _))))
  have hS₂ : h₁.get? D = some (set1 led) := (same.2 D hDI).trans hS₁
  refine wpAny_pure ?_
  show wpAny _ _ (do return Value.bool true :: (← holding [Value.bool true] (draw (.ref s.heap.objs.size) 0))) _ _ _
  refine wpAny_bind (wpAny_holding (wpAny_of_eq (a := []) rfl (wpAny_pure ?_)))
  rw [if_neg (by decide)]
  refine wpAny_bind (wpAny_holding ?_)
  refine wpAny_bind (wpAny_attempt (wpAny_callSpecial?_slot (name := Str.ofString "__next__") (T := "set_iterator") ⟨_, g₁, rfl⟩ slot_seti_next
    (wpAny_call_entry slot_seti_next ⟨_, g₁, rfl⟩ entry_seti_next (next_two hh hS₂ hled g₁ fun h₂ e ext he => ?_) (args_seti_next _))))
  obtain ⟨o, ho, hc⟩ := he
  refine wpAny_bind (wpAny_isInstance (T := "StopIteration") (b := true) ⟨o, ho, hc⟩ isSubtype_stop ?_)
  refine wpAny_pure ?_
  rw [if_neg (by decide)]
  refine wpAny_pure (h h₂ fun b o e => ?_)
  have hbI : b ≠ s.heap.objs.size := Nat.ne_of_lt (Heap.lt_size e)
  exact ext b o hbI ((same.2 b hbI).trans (Heap.get?_push_of_some _ e))
theorem assign_true {h₀ : Heap} {L : Addr} {m : Str → Option Value} {news : List (Addr × Obj)} {env : Env} {x : Str} {k : Nat} {p tp : Pos} {Q : Unit → Shared → Prop} (F : Fr h₀ L s.heap m) (N : News h₀ L s.heap news) (hm : (D, set1 led) ∈ news) (hh : A.handled = none) (hled : led = !w.params.followText "set-order")
    (h : ∀ h', Fr h₀ L h' m → News h₀ L h' news → wpAny (model prog w) A (storeName env x (.bool true)) Q E { s with heap := h' }) :
    wpAny (model prog w) A (assign (.Tuple [.Name x p] k tp) env (.ref D)) Q E s := by
  show wpAny _ _ (standAt tp >>= fun _ => unpack (.ref D) [(false, assign (.Name x p) env)]) _ _ _
  refine wpAny_bind (wpAny_standAt ?_)
  unfold unpack
  refine wpAny_bind (wpAny_holding (unpack_true hh (N _ hm).1 hled fun h' st => ?_))
  show wpAny _ _ (do holding [] (assign (.Name x p) env (.bool true)); assignInOrder [] []) _ _ _
  refine wpAny_bind (wpAny_holding (wpAny_assign_Name (wpAny_mono (h h' (fr_stays F st) (news_stays N st)) (fun _ s' hq => wpAny_pure hq) fun _ _ e => e)))
end
end Mine
end
-- R14
section
open PySem PySem.W PySem.Spec PySem.Calls PyProof.Rows PyProof.Rows.LCg PyProof.Rows.LCt
set_option Elab.async false
set_option maxRecDepth 100000
set_option maxHeartbeats 1000000
namespace Mine
section
variable {prog : Program} {w : World} {A : Around} {E : Value → Shared → Prop} {s : Shared} {h₀ : Heap} {L : Addr} {m : Str → Option Value} {env : Env} {ct elt iter : Expr} {x : Str} {px pos : Pos} {scope : Scope} {cl : List (Str × Addr)}
theorem lc_test {Q : Value → Shared → Prop} (_F₀ : Fr h₀ L s.heap m) (hclos : closureFor scope env = pure cl) (hcell : ∀ y ∈ scope.names, y.2 ≠ .cell) (hkind : scope.kind = .function)
    (hnames : ∀ y ∈ scope.names, y.2 = .local → scope.names.lookup y.1 = some .local) (hx : scope.names.lookup x = some .local)
    (h : wpAny (model prog w) A (eval iter env) (fun xv s₁ => wpAny (model prog w) A (pyIter xv)
      (Source prog w A h₀ L m fun n P S news s₂ => CompRestT prog w A h₀ L m env ct elt x scope cl s₂ S P (FinE h₀ L m s₂ Q) n 0 [] news) E s₁) E s)
    (hs : ∀ x, foldedSetIterable iter env x = pure x := by intro _; rfl) :
    wpAny (model prog w) A (eval (.ListComp elt [⟨.Name x px, iter, [ct], 0⟩] scope pos) env) Q E s := by
  rw [eval_ListComp]
  refine wpAny_comprehension_free (use := none) rfl hs hclos hkind hnames (wpAny_mono h (fun xv s₁ h₁ => wpAny_mono h₁ (fun it s₂ h₂ => ?_) fun _ _ e => e) fun _ _ e => e)
  obtain ⟨I, fp, n, P, St, S, news, rfl, W, hsz, hIo, hSt, hst, hfp, F, N, hLI, hI0, off, hS, R⟩ := h₂
  refine block_T W hsz hIo hSt hcell hkind hx hst hfp F N hLI hI0 off hS R ?_
  intro D C hp tk m' ys news' F' N' o1 hn hC₀ hD₀ hCL hDL hCD offC fin
  refine ⟨m', hn, fun h'' same => fin D h'' tk (F'.change same hCL hC₀) (fun p hp => ⟨same.extBut _ _ (fun q => ?_) (N' p hp).1, (N' p hp).2⟩) o1⟩
  rcases List.mem_cons.mp hp with e | hp
  · rw [e] at q; exact hCD q.symm
  · exact offC p hp q

def Kept (h₀ : Heap) (L : Addr) (m : Str → Option Value) (s₁ : Shared) (all : List (Addr × Obj)) (s' : Shared) : Prop := ∃ h' tk, s' = { s₁ with heap := h', toks := tk } ∧ Fr h₀ L h' m ∧ News h₀ L h' all
def KeptVal (h₀ : Heap) (L : Addr) (m : Str → Option Value) (s₁ : Shared) (all : List (Addr × Obj)) (v y : Value) (s' : Shared) : Prop := y = v ∧ Kept h₀ L m s₁ all s'
theorem Kept.mk' {all news' : List (Addr × Obj)} {h' : Heap} {tk : Nat} (F : Fr h₀ L h' m) (N : News h₀ L h' news') (hsub : ∀ p ∈ all, p ∈ news') : Kept h₀ L m s all { s with heap := h', toks := tk } := ⟨h', tk, rfl, F, fun p hp => N p (hsub p hp)⟩
def FiltEnd (prog : Program) (w : World) (A : Around) (h₀ : Heap) (L : Addr) (m : Str → Option Value) (s₁ : Shared) (all : List (Addr × Obj)) (elt : Expr) (cenv : Env) (qc : Bool) (v : Value) (E' : Value → Shared → Prop) (ok : Bool) (s' : Shared) : Prop :=
  ok = qc ∧ (if ok = true then wpAny (model prog w) A (eval elt cenv) (KeptVal h₀ L m s₁ all v) E' s' else Kept h₀ L m s₁ all s')
theorem FiltEnd.no {all : List (Addr × Obj)} {cenv : Env} {qc : Bool} {v : Value} {E' : Value → Shared → Prop} {s' : Shared} (hq : qc = false) (hk : Kept h₀ L m s all s') : FiltEnd prog w A h₀ L m s all elt cenv qc v E' false s' := ⟨hq.symm, hk⟩
theorem FiltEnd.yes {all : List (Addr × Obj)} {cenv : Env} {qc : Bool} {v : Value} {E' : Value → Shared → Prop} {s' : Shared} (hq : qc = true) (hk : wpAny (model prog w) A (eval elt cenv) (KeptVal h₀ L m s all v) E' s') : FiltEnd prog w A h₀ L m s all elt cenv qc v E' true s' := ⟨hq.symm, hk⟩

theorem filter_rest {S : List (Addr × Obj) → Prop} {Fin : List Value → List (Addr × Obj) → Prop} {base : List (Addr × Obj)} {vs : List Value} {ys : List Str} (hvs : StrsAre vs ys) (q : Str → Bool) (hS : S base)
    (turn : ∀ c t zs I oI C oC D m₂ h tk (E' : Value → Shared → Prop), c ∈ ys → NsObj oC m₂ → m₂ x = some (.str c t) → Fr h₀ L h m → News h₀ L h ((I, oI) :: (C, oC) :: (D, lst zs) :: base) → Off3 I C D base → ((@Ne Nat I C) ∧ (@Ne Nat I D) ∧ (@Ne Nat C D)) →
      wpAny (model prog w) A (isTrue ct (compEnvC scope cl C env) (eval ct (compEnvC scope cl C env))) (FiltEnd prog w A h₀ L m { s with heap := h, toks := tk } ((I, oI) :: (C, oC) :: (D, lst zs) :: base) elt (compEnvC scope cl C env) (q c) (.str c t) E') E' { s with heap := h, toks := tk })
    (fin : ∀ zs, StrsAre zs (ys.filter q) → Fin zs base) : CompRestT prog w A h₀ L m env ct elt x scope cl s S (fun i v => vs[i]? = some v) Fin vs.length 0 [] base := by
  have hl := strsAre_length hvs
  have key : ∀ k i zs, i + k = vs.length → StrsAre zs ((ys.take i).filter q) → CompRestT prog w A h₀ L m env ct elt x scope cl s S (fun i v => vs[i]? = some v) Fin k i zs base := by
    intro k
    induction k with
    | zero =>
      intro i zs hi hz
      refine fin zs ?_
      rw [List.take_of_length_le (by omega)] at hz
      exact hz
    | succ k ih =>
      intro i zs hi hz v I oI C oC D m₂ h tk E' hP hN hv F N off ne
      obtain ⟨c, t, hc, rfl⟩ := strsAre_get hvs hP
      have ht : ys.take (i + 1) = ys.take i ++ [c] := by rw [List.take_add_one, hc]; rfl
      refine wpAny_mono (turn c t zs I oI C oC D m₂ h tk E' (List.mem_of_getElem? hc) hN hv F N off ne) (fun ok s' hs => ?_) fun _ _ e => e
      obtain ⟨e, hs⟩ := hs
      cases hok : ok with
      | true =>
        rw [hok] at hs e
        rw [if_pos rfl] at hs ⊢
        refine wpAny_mono hs (fun y s'' hk => ?_) fun _ _ e => e
        obtain ⟨rfl, h', tk', rfl, F', N'⟩ := hk
        refine ⟨h', tk', base, rfl, F', N', off, hS, ih (i + 1) _ (by omega) ?_⟩
        rw [ht, List.filter_append]
        have : [c].filter q = [c] := by simp [← e]
        rw [this]
        exact strsAre_push hz c t
      | false =>
        rw [hok] at hs e
        rw [if_neg (by decide)] at hs ⊢
        obtain ⟨h', tk', rfl, F', N'⟩ := hs
        refine ⟨h', tk', base, rfl, F', N', off, hS, ih (i + 1) _ (by omega) ?_⟩
        rw [ht, List.filter_append]
        have : [c].filter q = [] := by simp [← e]
        rw [this, List.append_nil]
        exact hz
  exact key vs.length 0 [] (by omega) .nil

/-- a list of the ledger's as the source -/
theorem src_lst {ax : Addr} {vs : List Value} {nn : Nat} {news : List (Addr × Obj)} {R : Nat → (Nat → Value → Prop) → (List (Addr × Obj) → Prop) → List (Addr × Obj) → Shared → Prop} (hh : A.handled = none) (F : Fr h₀ L s.heap m) (N : News h₀ L s.heap news) (hm : (ax, listOf vs.toArray nn) ∈ news) (hz : vs.length ≤ 100000)
    (h : ∀ g, R vs.length (fun i v => vs[i]? = some v) (fun nw => (ax, listOf vs.toArray nn) ∈ nw) news { s with heap := g }) :
    wpAny (model prog w) A (pyIter (.ref ax)) (Source prog w A h₀ L m R) E s := by
  have ht : s.heap.IsList ax vs.toArray := ⟨_, (N _ hm).1, rfl, nn, rfl⟩
  have hlt : ax < s.heap.objs.size := Heap.lt_size (N _ hm).1
  have up : ∀ o' b o, s.heap.get? b = some o → (s.heap.push o').get? b = some o := fun o' b o e => Heap.get?_push_of_some _ e
  refine wpAny_pyIter_list ht ?_
  have W := Walks.list (prog := prog) (w := w) hh s.heap.objs.size ax (Nat.ne_of_lt hlt) vs.toArray
  refine ⟨s.heap.objs.size, _, _, _, _, fun nw => (ax, listOf vs.toArray nn) ∈ nw, news, rfl, W, by rw [sizeLine_eq, List.size_toArray]; omega, fun i h st => by obtain ⟨o, e, _⟩ := st.1; exact ⟨o, e⟩, ?_, ⟨⟨_, Heap.get?_push_size _ rfl, rfl, rfl⟩, ht.at fun o e => up _ _ _ e⟩,
    fun b hb => ?_, F.push _, fun p hp => ⟨up _ _ _ (N p hp).1, (N p hp).2⟩, Nat.ne_of_lt F.ns.lt, next_is_new F, fun p hp => Nat.ne_of_lt (Heap.lt_size (N p hp).1), hm, ?_⟩
  · intro i h h' o nw st e e' _ N' hm'
    obtain ⟨⟨o', q, r⟩, _⟩ := st
    rw [e] at q
    cases q
    exact ⟨⟨o, e', r⟩, ⟨_, (N' _ hm').1, rfl, nn, rfl⟩⟩
  · show b < (s.heap.push _).objs.size
    rw [Heap.size_push]
    rcases List.mem_cons.mp hb with e | hb
    · rw [e]; exact Nat.lt_succ_self _
    · rw [List.mem_singleton.mp hb]; exact Nat.lt_succ_of_lt hlt
  · have := h (s.heap.push { cls := .type "list_iterator", data := .fields #[.ref ax, .int 0 0] })
    simpa using this
end
end Mine
end
-- R15
section
open PySem PySem.W PySem.Calls PyProof.Rows
set_option Elab.async false
set_option maxRecDepth 100000
set_option maxHeartbeats 4000000
namespace Mine
def strLt (x y : Str) : Bool := decide (x.cps.toList < y.cps.toList)
def lexLt : List Str → List Str → Bool
  | _, [] => false
  | [], _ :: _ => true
  | x :: xs, y :: ys => if x == y then lexLt xs ys else strLt x y
/-- which of the two lists comes first: `g` turns the question round -/
def lexCmp (g : Bool) (xs ys : List Str) : Bool := if g then lexLt ys xs else lexLt xs ys
def opOf (g : Bool) : CmpOp := if g then .Gt else .Lt
theorem strsAre_at : ∀ {vs : List Value} {ys : List Str} (_ : StrsAre vs ys) (i : Nat) (_ : i < vs.length), ∃ y t, ys[i]? = some y ∧ vs[i]? = some (.str y t) := by
  intro vs ys h i hi
  have hP : vs[i]? = some vs[i] := List.getElem?_eq_getElem hi
  obtain ⟨p, t, hp, e⟩ := strsAre_get h hP
  exact ⟨p, t, hp, by rw [hP, e]⟩
theorem rich_gt {prog : Program} {w : World} {A : Around} {E : Value → Shared → Prop} {s : Shared} {x y : Str} {t u : Tok} {Q : Value → Shared → Prop} (h : Q (.bool (strLt y x)) s) : wpAny (model prog w) A (richCompare .Gt (.str x t) (.str y u)) Q E s := P.gt_str (Q := Q) h
theorem rich_lt {prog : Program} {w : World} {A : Around} {E : Value → Shared → Prop} {s : Shared} {x y : Str} {t u : Tok} {Q : Value → Shared → Prop} (h : Q (.bool (strLt x y)) s) : wpAny (model prog w) A (richCompare .Lt (.str x t) (.str y u)) Q E s := lt_str (Q := Q) h
theorem rich_str {prog : Program} {w : World} {A : Around} {E : Value → Shared → Prop} {s : Shared} {x y : Str} {t u : Tok} (g : Bool) {Q : Value → Shared → Prop} (h : Q (.bool (if g then strLt y x else strLt x y)) s) : wpAny (model prog w) A (richCompare (opOf g) (.str x t) (.str y u)) Q E s := by
  cases g
  · exact lt_str (Q := Q) h
  · exact P.gt_str (Q := Q) h
open AutoSeq1 (wpAny_loadPart')
theorem cmp_loop (l b : Addr) {vs us : List Value} {xs ys : List Str} (n n2 : Nat) (hv : StrsAre vs xs) (hu : StrsAre us ys) (g : Bool) (k : Nat) :
    ∀ i : Nat, vs.length - i = k → i ≤ vs.length → i ≤ us.length → Meets (Builtin.«list.__eq__.loop» ⟨[.ref l, .ref b, rawInt i, rawInt (if g then 4 else 0)], []⟩)
      (fun _ R s => s.heap.get? l = some (listOf vs.toArray n) ∧ s.heap.get? b = some (listOf us.toArray n2) ∧
        R (.ok (.ret (.bool (lexCmp g (xs.drop i) (ys.drop i))))) s) := by
  have lv := strsAre_length hv
  have lu := strsAre_length hu
  have stop : ∀ i : Nat, i ≤ vs.length → i ≤ us.length → (i = vs.length ∨ i = us.length) → Meets (Builtin.«list.__eq__.loop» ⟨[.ref l, .ref b, rawInt i, rawInt (if g then 4 else 0)], []⟩)
      (fun _ R s => s.heap.get? l = some (listOf vs.toArray n) ∧ s.heap.get? b = some (listOf us.toArray n2) ∧
        R (.ok (.ret (.bool (lexCmp g (xs.drop i) (ys.drop i))))) s) := by
    intro i h1 h2 ho prog w A R s h
    obtain ⟨hp, g', d, tk, os⟩ := s; obtain ⟨hl, hb, h⟩ := h
    have e1 : ∀ (zs : List Str), lexLt zs [] = false := fun zs => by cases zs <;> rfl
    have e2 : ∀ (zs : List Str), lexLt [] zs = !zs.isEmpty := fun zs => by cases zs <;> rfl
    have hres : lexCmp g (xs.drop i) (ys.drop i) = if g then decide (us.length < vs.length) else decide (vs.length < us.length) := by
      rcases ho with ho | ho
      · have z : xs.drop i = [] := by simp; omega
        rw [z]; unfold lexCmp; rw [e1, e2]
        cases g
        · simp only [Bool.false_eq_true, if_false]
          rw [Bool.eq_iff_iff]; simp; omega
        · simp only [if_true]
          symm; simp; omega
      · have z : ys.drop i = [] := by simp; omega
        rw [z]; unfold lexCmp; rw [e1, e2]
        cases g
        · simp only [Bool.false_eq_true, if_false]
          symm; simp; omega
        · simp only [if_true]
          rw [Bool.eq_iff_iff]; simp; omega
    rw [hres] at h
    have fin : ∀ (a c : Option Value), a = none ∨ c = none → vs.toArray[((i : Nat) : Int).toNat]? = a → us.toArray[((i : Nat) : Int).toNat]? = c → wpAny (model prog w) A.in1 (Builtin.«list.__eq__.loop» ⟨[.ref l, .ref b, rawInt i, rawInt (if g then 4 else 0)], []⟩) (fun fin s' => match fin with | .done f => R (.ok f) s' | .again c' => c'.quiet = true ∧ codeAny (model prog w) A c' R s') (fun e s' => R (.error e) s') ⟨hp, g', d, tk, os⟩ := by
      intro a c hac ha hc
      cases g
      all_goals
        wp_walk using wpAny_loadPart' hl, wpAny_loadPart' hb
        rw [ha, hc]
        rcases hac with rfl | rfl
      all_goals
        first
          | (cases c <;> wp_walk using wpAny_loadPart' hl, wpAny_loadPart' hb)
          | (cases a <;> wp_walk using wpAny_loadPart' hl, wpAny_loadPart' hb)
      all_goals
        exact h
    rcases ho with ho | ho
    · exact fin none _ (.inl rfl) (by simp; omega) rfl
    · exact fin _ none (.inr rfl) rfl (by simp; omega)
  induction k with
  | zero => intro i hk h1 h2; exact stop i h1 h2 (by omega)
  | succ k ih =>
    intro i hk h1 h2
    by_cases hiu : i = us.length
    · exact stop i h1 h2 (.inr hiu)
    intro prog w A R s h
    obtain ⟨hp, g', d, tk, os⟩ := s; obtain ⟨hl, hb, h⟩ := h
    obtain ⟨x, tx, hx, hvx⟩ := strsAre_at hv i (by omega)
    obtain ⟨y, ty, hy, hvy⟩ := strsAre_at hu i (by omega)
    have hi1 : vs.toArray[((i : Nat) : Int).toNat]? = some (.str x tx) := by simpa using hvx
    have hi2 : us.toArray[((i : Nat) : Int).toNat]? = some (.str y ty) := by simpa using hvy
    have dx : xs.drop i = x :: xs.drop (i + 1) := by
      obtain ⟨h', e⟩ := List.getElem?_eq_some_iff.mp hx
      rw [List.drop_eq_getElem_cons h', e]
    have dy : ys.drop i = y :: ys.drop (i + 1) := by
      obtain ⟨h', e⟩ := List.getElem?_eq_some_iff.mp hy
      rw [List.drop_eq_getElem_cons h', e]
    have hc : ((i : Int) + 1) = ((i + 1 : Nat) : Int) := by push_cast; rfl
    rw [dx, dy] at h
    cases hq : x == y with
    | true =>
      have hxy : x = y := by simpa using hq
      cases g
      all_goals
        wp_walk using wpAny_loadPart' hl, wpAny_loadPart' hb
        rw [hi1, hi2]
        refine wpAny_bind (eqBool_str ?_)
        rw [hq]
        wp_walk
        rw [hc]
        refine ⟨plainId_quiet MeetsSeq3.plain_eq_loop _, codeAny_builtin MeetsSeq3.entry_eq_loop ?_⟩
        rw [Around.under_plainId MeetsSeq3.plain_eq_loop _]
        refine ih (i + 1) (by omega) (by omega) (by omega) prog w A R _ ⟨hl, hb, ?_⟩
        subst hxy
        simpa [lexCmp, lexLt] using h
    | false =>
      have n1 : (x == y) = false := hq
      have n2 : (y == x) = false := by
        have : x ≠ y := by simpa using hq
        simpa using Ne.symm this
      cases g
      · wp_walk using wpAny_loadPart' hl, wpAny_loadPart' hb
        rw [hi1, hi2]
        refine wpAny_bind (eqBool_str ?_)
        rw [hq]
        wp_walk using wpAny_loadPart' hl, wpAny_loadPart' hb
        rw [hi1, hi2]
        refine wpAny_bind (rich_lt (wpAny_pure ?_))
        simpa only [lexCmp, lexLt, n1, n2, Bool.false_eq_true, if_false, if_true] using h
      · wp_walk using wpAny_loadPart' hl, wpAny_loadPart' hb
        rw [hi1, hi2]
        refine wpAny_bind (eqBool_str ?_)
        rw [hq]
        wp_walk using wpAny_loadPart' hl, wpAny_loadPart' hb
        rw [hi1, hi2]
        refine wpAny_bind (rich_gt (wpAny_pure ?_))
        simpa only [lexCmp, lexLt, n1, n2, Bool.false_eq_true, if_false, if_true] using h
theorem rich_lists {prog : Program} {w : World} {A : Around} {E : Value → Shared → Prop} {s : Shared} {l b : Addr} {vs us : List Value} {xs ys : List Str} {n n2 : Nat} (g : Bool) {Q : Value → Shared → Prop}
    (hl : s.heap.get? l = some (listOf vs.toArray n)) (hb : s.heap.get? b = some (listOf us.toArray n2)) (hv : StrsAre vs xs) (hu : StrsAre us ys) (hA : A.units < cLine)
    (h : Q (.bool (lexCmp g xs ys)) s) : wpAny (model prog w) A (richCompare (opOf g) (.ref l) (.ref b)) Q E s := by
  have isl : ∀ (x : Addr) (ws : List Value) (k : Nat), s.heap.get? x = some (listOf ws.toArray k) → s.heap.IsList x ws.toArray := fun x ws k e => ⟨_, e, rfl, k, rfl⟩
  have tl : s.TypeIs (.ref l) "list" := ⟨_, hl, rfl⟩
  have tb : s.TypeIs (.ref b) "list" := ⟨_, hb, rfl⟩
  have f3 := AutoSeq1.sub_list_list
  cases g
  · refine richCompare_meets_room (op := .Lt) tl tb F.slot_list_lt F.entry_list_lt (F.args_list_lt_2 _ _) (S := fun A R s => s.heap.get? l = some (listOf vs.toArray n) ∧ s.heap.get? b = some (listOf us.toArray n2) ∧ R (.ok (.ret (.bool (lexCmp false xs ys)))) s) ?_ ⟨hl, hb, ⟨by simp, h⟩⟩ hA
    intro prog w A R s h
    obtain ⟨hp, g', d, tk, os⟩ := s; obtain ⟨hl, hb, h⟩ := h
    wp_walk using wpAny_loadPart' hl, wpAny_loadPart' hb
    refine ⟨plainId_quiet MeetsSeq3.plain_eq_loop _, codeAny_builtin MeetsSeq3.entry_eq_loop ?_⟩
    rw [Around.under_plainId MeetsSeq3.plain_eq_loop _]
    exact cmp_loop l b n n2 hv hu false _ 0 rfl (Nat.zero_le _) (Nat.zero_le _) prog w A R _ ⟨hl, hb, h⟩
  · refine richCompare_meets_room (op := .Gt) tl tb F.slot_list_gt F.entry_list_gt (F.args_list_gt_2 _ _) (S := fun A R s => s.heap.get? l = some (listOf vs.toArray n) ∧ s.heap.get? b = some (listOf us.toArray n2) ∧ R (.ok (.ret (.bool (lexCmp true xs ys)))) s) ?_ ⟨hl, hb, ⟨by simp, h⟩⟩ hA
    intro prog w A R s h
    obtain ⟨hp, g', d, tk, os⟩ := s; obtain ⟨hl, hb, h⟩ := h
    wp_walk using wpAny_loadPart' hl, wpAny_loadPart' hb
    refine ⟨plainId_quiet MeetsSeq3.plain_eq_loop _, codeAny_builtin MeetsSeq3.entry_eq_loop ?_⟩
    rw [Around.under_plainId MeetsSeq3.plain_eq_loop _]
    exact cmp_loop l b n n2 hv hu true _ 0 rfl (Nat.zero_le _) (Nat.zero_le _) prog w A R _ ⟨hl, hb, h⟩
end Mine
end
-- R16
section
open PySem PySem.W PySem.Calls PyProof.Rows
set_option Elab.async false
set_option maxRecDepth 100000
set_option maxHeartbeats 4000000
namespace Mine
/-- a value that is a list of strings in the heap -/
def RowAt (hb : Heap) (v : Value) (ys : List Str) : Prop := ∃ a us k, v = .ref a ∧ hb.get? a = some (listOf us.toArray k) ∧ StrsAre us ys
def pick (g : Bool) (b y : List Str) : List Str := if lexCmp g y b then y else b
def nmLoop (g : Bool) : String := if g then "max.loop" else "min.loop"
def nmOf (g : Bool) : String := if g then "max" else "min"
section
variable {prog : Program} {w : World} {A : Around} {E : Value → Shared → Prop}
theorem rich_rows {s : Shared} {hb : Heap} {x y : Value} {xs ys : List Str} (g : Bool) {Q : Value → Shared → Prop} (hx : RowAt hb x xs) (hy : RowAt hb y ys) (hk : ∀ b o, hb.get? b = some o → s.heap.get? b = some o) (hA : A.units < cLine)
    (h : Q (.bool (lexCmp g xs ys)) s) : wpAny (model prog w) A (richCompare (opOf g) x y) Q E s := by
  obtain ⟨a, us, k, rfl, ha, hu⟩ := hx
  obtain ⟨b, ws, j, rfl, hb, hw⟩ := hy
  exact rich_lists g (hk _ _ ha) (hk _ _ hb) hu hw hA h
theorem best_loop (g : Bool) {hb : Heap} {I l S : Addr} {vs : List Value} {yss : List (List Str)} {R : Result → Shared → Prop} (hh : A.handled = none) (hA : A.units + 1 < cLine)
    (hIl : l ≠ I) (hI : hb.get? I = none) (hS : hb.get? S = none) (hSI : S ≠ I) (hSl : S ≠ l) (hlen : vs.length = yss.length)
    (hrow : ∀ (i : Nat) (v : Value), vs[i]? = some v → ∃ ys, yss[i]? = some ys ∧ RowAt hb v ys) :
    ∀ (k j : Nat) (s : Shared) (vb : Value) (yb : List Str) (c : Nat), vs.length - j = k → j ≤ vs.length → (s.heap.IsListIter I l j ∧ s.heap.IsList l vs.toArray) → RowAt hb vb yb → vb ∈ vs →
      s.heap.get? S = some { cls := .type "list", dict := none, data := .seq #[vb, vb] c, slots := #[] } →
      (∀ b o, hb.get? b = some o → s.heap.get? b = some o) →
      (∀ v yv h' tk, v ∈ vs → RowAt hb v yv → yv = (yss.drop j).foldl (pick g) yb → (∀ b o, hb.get? b = some o → h'.get? b = some o) → R (.ok (.ret v)) { s with heap := h', toks := tk }) →
      codeAny (model prog w) A (.builtin (nmLoop g) ⟨[.ref I, .none, .ref S], []⟩) R s := by
  have W := Walks.list (prog := prog) (w := w) (A := A.in1) hh I l hIl vs.toArray
  have hsz : vs.toArray.size = vs.length := by simp
  rw [hsz] at W
  have hSf : S ∉ [I, l] := by simp [hSI, hSl]
  have hSw : S ∉ [I] := by simp [hSI]
  have e1 : nmLoop false = "min.loop" := rfl
  have e2 : nmLoop true = "max.loop" := rfl
  have hn1 : (toString "max" ++ toString ".loop" : String) = "max.loop" := by decide
  have hn2 : (toString "min" ++ toString ".loop" : String) = "min.loop" := by decide
  intro k
  induction k with
  | zero =>
    intro j s vb yb c hk hj hst hPb hvb hSo hbs hR
    have hin : vs.length = j := by omega
    have hd : (yss.drop j).foldl (pick g) yb = yb := by
      rw [List.drop_of_length_le (by omega)]; rfl
    rw [hd] at hR
    cases g
    all_goals
      first | rw [e1] | rw [e2]
      first
        | (refine codeAny_builtin F.entry_min_loop ?_
           rw [Around.under_plainId F.plain_min_loop _])
        | (refine codeAny_builtin F.entry_max_loop ?_
           rw [Around.under_plainId F.plain_max_loop _])
      show wpAny _ A.in1 (seqItems? (.ref S) >>= _) _ _ s
      refine wpAny_bind (wpAny_seqItems hSo rfl ?_)
      show wpAny _ A.in1 (tryCatch (pyNext (.ref I)) _ >>= _) _ _ s
      refine wpAny_bind (wpAny_tryCatch (W.done s _ _ (hin ▸ hst) fun h' tk hk' => ?_))
      have hS' := hk' S _ hSw hSo
      show wpAny _ A.in1 (updateSeq S (fun _ => #[]) >>= _) _ _ _
      refine wpAny_bind (wpAny_updateSeq hS' rfl (wpAny_bind (wpAny_letGo (wpAny_pure ?_))))
      refine hR vb yb _ tk hvb hPb rfl fun b o e => ?_
      have n1 : b ≠ S := fun q => by rw [q, hS] at e; cases e
      have n2 : b ∉ [I] := fun q => by rw [List.mem_singleton.mp q, hI] at e; cases e
      exact (Heap.get?_update_other _ _ (Ne.symm n1)).trans (hk' b o n2 (hbs b o e))
  | succ k ih =>
    intro j s vb yb c hk hj hst hPb hvb hSo hbs hR
    have hlt : j < vs.length := by omega
    have hv0 : vs[j]? = some vs[j] := List.getElem?_eq_getElem hlt
    obtain ⟨ys, hys, hrw⟩ := hrow j _ hv0
    have hd : yss.drop j = ys :: yss.drop (j + 1) := by
      obtain ⟨h', e⟩ := List.getElem?_eq_some_iff.mp hys
      rw [List.drop_eq_getElem_cons h', e]
    rw [hd, List.foldl_cons] at hR
    cases g
    all_goals
      first | rw [e1] | rw [e2]
      first
        | (refine codeAny_builtin F.entry_min_loop ?_
           rw [Around.under_plainId F.plain_min_loop _])
        | (refine codeAny_builtin F.entry_max_loop ?_
           rw [Around.under_plainId F.plain_max_loop _])
      show wpAny _ A.in1 (seqItems? (.ref S) >>= _) _ _ s
      refine wpAny_bind (wpAny_seqItems hSo rfl ?_)
      show wpAny _ A.in1 (tryCatch (pyNext (.ref I)) _ >>= _) _ _ s
      refine wpAny_bind (wpAny_tryCatch (W.item j s _ _ hlt hst fun v h' tk hP hst' hk' => ?_))
      have hv1 : v = vs[j] := by
        have e : vs[j]? = some v := by simpa using hP
        rw [hv0] at e; exact (Option.some.inj e).symm
      subst hv1
      have hvm : vs[j] ∈ vs := List.getElem_mem hlt
      have hS' := hk' S _ hSw hSo
      have hbs' : ∀ b o, hb.get? b = some o → h'.get? b = some o := fun b o e =>
        hk' b o (fun q => by rw [List.mem_singleton.mp q, hI] at e; cases e) (hbs b o e)
      generalize vs[j] = v at *
    · show wpAny _ A.in1 (tryCatch (holding [v, v] (richCompare .Lt v vb >>= _)) _ >>= _) _ _ _
      refine wpAny_bind (wpAny_tryCatch (wpAny_holding (wpAny_bind (rich_rows false hrw hPb hbs' hA ?_))))
      refine wpAny_bind (wpAny_holding (wpAny_truthy_bool ?_))
      refine wpAny_bind (wpAny_letGo (wpAny_pure ?_))
      cases hq : lexCmp false ys yb with
      | true =>
        simp only [if_true]
        refine wpAny_bind (wpAny_updateSeq hS' rfl (wpAny_bind (wpAny_letGo ?_)))
        rw [hn2]
        refine wpAny_pure ⟨plainId_quiet F.plain_min_loop _, ih (j + 1) _ v ys _ (by omega) hlt (W.frame _ _ _ hst' fun b hbf o e => ?_) hrw hvm (Heap.get?_update_self _ hS' rfl) (fun b o e => ?_) fun v' yv h'' tk'' hm' hr' e' hk'' => ?_⟩
        · exact (Heap.get?_update_other _ _ (fun q : S = b => hSf (by rw [q]; exact hbf))).trans e
        · exact (Heap.get?_update_other _ _ (fun q : S = b => by rw [← q, hS] at e; cases e)).trans (hbs' b o e)
        · refine hR v' yv h'' tk'' hm' hr' ?_ hk''
          rw [e']; simp only [pick, hq, if_true]
      | false =>
        simp only [Bool.false_eq_true, if_false]
        refine wpAny_bind (wpAny_letGo ?_)
        rw [hn2]
        refine wpAny_pure ⟨plainId_quiet F.plain_min_loop _, ih (j + 1) _ vb yb c (by omega) hlt hst' hPb hvb hS' hbs' fun v' yv h'' tk'' hm' hr' e' hk'' => ?_⟩
        refine hR v' yv h'' tk'' hm' hr' ?_ hk''
        rw [e']; simp only [pick, hq, Bool.false_eq_true, if_false]
    · show wpAny _ A.in1 (tryCatch (holding [v, v] (richCompare .Gt v vb >>= _)) _ >>= _) _ _ _
      refine wpAny_bind (wpAny_tryCatch (wpAny_holding (wpAny_bind (rich_rows true hrw hPb hbs' hA ?_))))
      refine wpAny_bind (wpAny_holding (wpAny_truthy_bool ?_))
      refine wpAny_bind (wpAny_letGo (wpAny_pure ?_))
      cases hq : lexCmp true ys yb with
      | true =>
        simp only [if_true]
        refine wpAny_bind (wpAny_updateSeq hS' rfl (wpAny_bind (wpAny_letGo ?_)))
        rw [hn1]
        refine wpAny_pure ⟨plainId_quiet F.plain_max_loop _, ih (j + 1) _ v ys _ (by omega) hlt (W.frame _ _ _ hst' fun b hbf o e => ?_) hrw hvm (Heap.get?_update_self _ hS' rfl) (fun b o e => ?_) fun v' yv h'' tk'' hm' hr' e' hk'' => ?_⟩
        · exact (Heap.get?_update_other _ _ (fun q : S = b => hSf (by rw [q]; exact hbf))).trans e
        · exact (Heap.get?_update_other _ _ (fun q : S = b => by rw [← q, hS] at e; cases e)).trans (hbs' b o e)
        · refine hR v' yv h'' tk'' hm' hr' ?_ hk''
          rw [e']; simp only [pick, hq, if_true]
      | false =>
        simp only [Bool.false_eq_true, if_false]
        refine wpAny_bind (wpAny_letGo ?_)
        rw [hn1]
        refine wpAny_pure ⟨plainId_quiet F.plain_max_loop _, ih (j + 1) _ vb yb c (by omega) hlt hst' hPb hvb hS' hbs' fun v' yv h'' tk'' hm' hr' e' hk'' => ?_⟩
        refine hR v' yv h'' tk'' hm' hr' ?_ hk''
        rw [e']; simp only [pick, hq, Bool.false_eq_true, if_false]
theorem best_first (g : Bool) {hb : Heap} {I l S : Addr} {vs : List Value} {yss : List (List Str)} {R : Result → Shared → Prop} (hh : A.handled = none) (hA : A.units + 1 < cLine)
    (hIl : l ≠ I) (hI : hb.get? I = none) (hS : hb.get? S = none) (hSI : S ≠ I) (hSl : S ≠ l) (hlen : vs.length = yss.length) {y0 : List Str} {yr : List (List Str)} (hy : yss = y0 :: yr)
    (hrow : ∀ (i : Nat) (v : Value), vs[i]? = some v → ∃ ys, yss[i]? = some ys ∧ RowAt hb v ys) {s : Shared} {c : Nat}
    (hst : s.heap.IsListIter I l 0 ∧ s.heap.IsList l vs.toArray) (hSo : s.heap.get? S = some { cls := .type "list", dict := none, data := .seq #[] c, slots := #[] })
    (hbs : ∀ b o, hb.get? b = some o → s.heap.get? b = some o)
    (hR : ∀ v yv h' tk, v ∈ vs → RowAt hb v yv → yv = yr.foldl (pick g) y0 → (∀ b o, hb.get? b = some o → h'.get? b = some o) → R (.ok (.ret v)) { s with heap := h', toks := tk }) :
    codeAny (model prog w) A (.builtin (nmLoop g) ⟨[.ref I, .none, .ref S], []⟩) R s := by
  have W := Walks.list (prog := prog) (w := w) (A := A.in1) hh I l hIl vs.toArray
  have hsz : vs.toArray.size = vs.length := by simp
  rw [hsz] at W
  have hSf : S ∉ [I, l] := by simp [hSI, hSl]
  have hSw : S ∉ [I] := by simp [hSI]
  have e1 : nmLoop false = "min.loop" := rfl
  have e2 : nmLoop true = "max.loop" := rfl
  have hn1 : (toString "max" ++ toString ".loop" : String) = "max.loop" := by decide
  have hn2 : (toString "min" ++ toString ".loop" : String) = "min.loop" := by decide
  have hpos : 0 < vs.length := by rw [hlen, hy]; simp
  have hv0 : vs[0]? = some vs[0] := List.getElem?_eq_getElem hpos
  have hvm : vs[0] ∈ vs := List.getElem_mem hpos
  generalize vs[0] = v0 at hv0 hvm
  obtain ⟨ys, hys, hrw⟩ := hrow 0 _ hv0
  have e0 : ys = y0 := by rw [hy] at hys; exact (Option.some.inj hys).symm
  subst e0
  have rest := best_loop (prog := prog) (w := w) g (R := R) hh hA hIl hI hS hSI hSl hlen hrow
  cases g
  all_goals
    first | rw [e1] | rw [e2]
    first
      | (refine codeAny_builtin F.entry_min_loop ?_
         rw [Around.under_plainId F.plain_min_loop _])
      | (refine codeAny_builtin F.entry_max_loop ?_
         rw [Around.under_plainId F.plain_max_loop _])
    show wpAny _ A.in1 (seqItems? (.ref S) >>= _) _ _ s
    refine wpAny_bind (wpAny_seqItems hSo rfl ?_)
    show wpAny _ A.in1 (tryCatch (pyNext (.ref I)) _ >>= _) _ _ s
    refine wpAny_bind (wpAny_tryCatch (W.item 0 s _ _ hpos hst fun v h' tk hP hst' hk' => ?_))
    have hv1 : v = v0 := by
      have e : vs[0]? = some v := by simpa using hP
      rw [hv0] at e; exact (Option.some.inj e).symm
    subst hv1
    have hS' := hk' S _ hSw hSo
    have hbs' : ∀ b o, hb.get? b = some o → h'.get? b = some o := fun b o e =>
      hk' b o (fun q => by rw [List.mem_singleton.mp q, hI] at e; cases e) (hbs b o e)
    show wpAny _ A.in1 (updateSeq S (fun _ => #[v, v]) >>= _) _ _ _
    refine wpAny_bind (wpAny_updateSeq hS' rfl ?_)
    first | rw [hn1] | rw [hn2]
    refine wpAny_pure ⟨?_, rest _ 1 _ v ys _ rfl hpos (W.frame _ _ _ hst' fun b hbf o e => ?_) hrw hvm (Heap.get?_update_self _ hS' rfl) (fun b o e => ?_) fun v' yv h'' tk'' hm' hr' e' hk'' => ?_⟩
    · first | exact plainId_quiet F.plain_min_loop _ | exact plainId_quiet F.plain_max_loop _
    · exact (Heap.get?_update_other _ _ (fun q : S = b => hSf (by rw [q]; exact hbf))).trans e
    · exact (Heap.get?_update_other _ _ (fun q : S = b => by rw [← q, hS] at e; cases e)).trans (hbs' b o e)
    · exact hR v' yv h'' tk'' hm' hr' (by rw [e', hy]; rfl) hk''
theorem best_call (g : Bool) {s : Shared} {l : Addr} {vs : List Value} {yss : List (List Str)} {n : Nat} {Q : Value → Shared → Prop} (hh : A.handled = none) (hA : A.units + 1 < cLine)
    (hl : s.heap.get? l = some (listOf vs.toArray n)) (hlen : vs.length = yss.length) {y0 : List Str} {yr : List (List Str)} (hy : yss = y0 :: yr)
    (hrow : ∀ (i : Nat) (v : Value), vs[i]? = some v → ∃ ys, yss[i]? = some ys ∧ RowAt s.heap v ys)
    (h : ∀ v yv h' tk, v ∈ vs → RowAt s.heap v yv → yv = yr.foldl (pick g) y0 → s.heap.StaysIn h' → Q v { s with heap := h', toks := tk }) :
    wpAny (model prog w) A (call (.builtin (nmOf g)) [.ref l]) Q E s := by
  have hls : s.heap.IsList l vs.toArray := ⟨_, hl, rfl, n, rfl⟩
  have hn1 : (toString "max" ++ toString ".loop" : String) = "max.loop" := by decide
  have hn2 : (toString "min" ++ toString ".loop" : String) = "min.loop" := by decide
  have hlt : @LT.lt Nat _ l s.heap.objs.size := Heap.lt_size hl
  cases g
  · refine call_function_tree F.kind_min F.plain_min F.entry_min (F.args_min1 _) ?_
    show wpAny _ A.in1 (Builtin.Builtins.bindParams "min" ["key", "default"] 0 ⟨[], []⟩ >>= _) _ _ s
    refine wpAny_bind (wpAny_of_eq (show Builtin.Builtins.bindParams "min" ["key", "default"] 0 ⟨[], []⟩ = pure [none, none] from rfl) ?_)
    refine wpAny_bind (wpAny_pure ?_)
    refine wpAny_bind (wpAny_pyIter_list hls ?_)
    refine wpAny_bind (wpAny_newObj_type ?_)
    rw [hn2]
    refine wpAny_pure ⟨plainId_quiet F.plain_min_loop _, best_first false (hb := s.heap) (l := l) (yss := yss) hh hA (Nat.ne_of_lt hlt) (Heap.get?_none_of_le (Nat.le_refl _)) (Heap.get?_none_of_le ?_) ?_ ?_ hlen hy hrow ⟨?_, ?_⟩ (Heap.get?_push_size _ rfl) ?_ ?_⟩
    · simp [Heap.push]
    · simp [Heap.push]
    · simp [Heap.push]; exact Ne.symm (Nat.ne_of_lt (Nat.lt_succ_of_lt hlt))
    · exact ⟨_, Heap.get?_push_of_some _ (Heap.get?_push_size _ rfl), rfl, rfl⟩
    · exact (hls.at fun o e => Heap.get?_push_of_some _ (Heap.get?_push_of_some _ e))
    · exact fun b o e => Heap.get?_push_of_some _ (Heap.get?_push_of_some _ e)
    · exact fun v yv h' tk hm hr e hk => h v yv h' tk hm hr e hk
  · refine call_function_tree F.kind_max F.plain_max F.entry_max (F.args_max1 _) ?_
    show wpAny _ A.in1 (Builtin.Builtins.bindParams "max" ["key", "default"] 0 ⟨[], []⟩ >>= _) _ _ s
    refine wpAny_bind (wpAny_of_eq (show Builtin.Builtins.bindParams "max" ["key", "default"] 0 ⟨[], []⟩ = pure [none, none] from rfl) ?_)
    refine wpAny_bind (wpAny_pure ?_)
    refine wpAny_bind (wpAny_pyIter_list hls ?_)
    refine wpAny_bind (wpAny_newObj_type ?_)
    rw [hn1]
    refine wpAny_pure ⟨plainId_quiet F.plain_max_loop _, best_first true (hb := s.heap) (l := l) (yss := yss) hh hA (Nat.ne_of_lt hlt) (Heap.get?_none_of_le (Nat.le_refl _)) (Heap.get?_none_of_le ?_) ?_ ?_ hlen hy hrow ⟨?_, ?_⟩ (Heap.get?_push_size _ rfl) ?_ ?_⟩
    · simp [Heap.push]
    · simp [Heap.push]
    · simp [Heap.push]; exact Ne.symm (Nat.ne_of_lt (Nat.lt_succ_of_lt hlt))
    · exact ⟨_, Heap.get?_push_of_some _ (Heap.get?_push_size _ rfl), rfl, rfl⟩
    · exact (hls.at fun o e => Heap.get?_push_of_some _ (Heap.get?_push_of_some _ e))
    · exact fun b o e => Heap.get?_push_of_some _ (Heap.get?_push_of_some _ e)
    · exact fun v yv h' tk hm hr e hk => h v yv h' tk hm hr e hk
theorem best_K (g : Bool) {s : Shared} {h₀ : Heap} {L l : Addr} {m : Str → Option Value} {news tl : List (Addr × Obj)} {vs : List Value} {yss : List (List Str)} {n : Nat} {Q : Value → Shared → Prop} (hh : A.handled = none) (hA : A.units + 1 < cLine)
    (F : Fr h₀ L s.heap m) (N : News h₀ L s.heap news) (hl : (l, listOf vs.toArray n) ∈ news) (hr : RowsIn tl vs yss) (sub : ∀ p ∈ tl, p ∈ news) {y0 : List Str} {yr : List (List Str)} (hy : yss = y0 :: yr)
    (h : ∀ a us k h' tk, (a, listOf us.toArray k) ∈ tl → StrsAre us (yr.foldl (pick g) y0) → Fr h₀ L h' m → News h₀ L h' news → Q (.ref a) { s with heap := h', toks := tk }) :
    wpAny (model prog w) A (call (.builtin (nmOf g)) [.ref l]) Q E s := by
  refine best_call g hh hA (N _ hl).1 hr.length hy (fun i v e => ?_) fun v yv h' tk hm hrow e hk => ?_
  · obtain ⟨ys, e1, a, us, k, e2, e3, e4⟩ := hr.get e
    exact ⟨ys, e1, a, us, k, e2, (N _ (sub _ e3)).1, e4⟩
  · obtain ⟨i, hi, hi2⟩ := List.mem_iff_getElem.mp hm
    obtain ⟨ys, e1, a, us, k, e2, e3, e4⟩ := hr.get (i := i) (v := v) (by rw [List.getElem?_eq_getElem hi, hi2])
    subst e2
    obtain ⟨a', us', k', q1, q2, q3⟩ := hrow
    cases q1
    have q4 := (N _ (sub _ e3)).1
    have q2' : s.heap.get? a = some (listOf us'.toArray k') := q2
    rw [q4] at q2'
    have e5 : us = us' ∧ k = k' := by
      have := Option.some.inj q2'
      simp only [W.listOf, Obj.mk.injEq, Data.seq.injEq] at this
      have t := this.2.2
      simpa using t
    refine h a us k h' tk e3 ?_ (fr_stays F hk) (news_stays N hk)
    rw [← e, e5.1]; exact q3
end
end Mine
end
-- R17
section
open PySem PySem.W PySem.Calls PyProof.Rows
set_option Elab.async false
set_option maxRecDepth 100000
set_option maxHeartbeats 4000000
namespace Mine
/-- what a turn of an enumerate loop ends in -/
def EnumEnd (h₀ : Heap) (L : Addr) (own news : List (Addr × Obj)) (m : Str → Option Value) (xi xc : Str) (J : Prop) (s : Shared) (Q : Flow → Shared → Prop) (f : Flow) (s₂ : Shared) : Prop :=
  match f with
  | .ret v => Q (.ret v) s₂
  | .brk => Q .next s₂
  | _ => ∃ h' tk m', s₂ = { s with heap := h', toks := tk } ∧ Fr h₀ L h' m' ∧ News h₀ L h' (own ++ news) ∧ (∀ y, y ≠ xi → y ≠ xc → m' y = m y) ∧ J
theorem EnumEnd.go {h₀ : Heap} {L : Addr} {own news : List (Addr × Obj)} {m m' : Str → Option Value} {xi xc : Str} {J : Prop} {s : Shared} {Q : Flow → Shared → Prop} {h' : Heap} {tk : Nat} (F : Fr h₀ L h' m') (N : News h₀ L h' (own ++ news)) (hm : ∀ y, y ≠ xi → y ≠ xc → m' y = m y) (hj : J) : EnumEnd h₀ L own news m xi xc J s Q .next { s with heap := h', toks := tk } := ⟨h', tk, m', rfl, F, N, hm, hj⟩
theorem EnumEnd.leave {h₀ : Heap} {L : Addr} {own news : List (Addr × Obj)} {m : Str → Option Value} {xi xc : Str} {J : Prop} {s s₂ : Shared} {Q : Flow → Shared → Prop} (h : Q .next s₂) : EnumEnd h₀ L own news m xi xc J s Q .brk s₂ := h
section
variable {prog : Program} {w : World} {A : Around} {E : Value → Shared → Prop} {s : Shared} {env : Env} {h₀ : Heap} {m : Str → Option Value} {news : List (Addr × Obj)} {l : Addr} {vs : List Value} {ys : List Str} {nn : Nat} {xi xc : Str} {body : List Stmt} {Q : Flow → Shared → Prop}
theorem enum_call {L : Addr} (J : Nat → Prop) (hLe : env.locals = L) (hh : A.handled = none) (F : Fr h₀ L s.heap m) (N : News h₀ L s.heap news) (hl : (l, listOf vs.toArray nn) ∈ news) (hv : StrsAre vs ys) (hj : J 0)
    (turn : ∀ (i : Nat) (c : Str) (t ti : Tok) (m₁ : Str → Option Value) (own : List (Addr × Obj)) (h : Heap) (tk : Nat), ys[i]? = some c → J i → (∀ y, y ≠ xi → y ≠ xc → m₁ y = m y) → Fr h₀ L h (fun y => if y = xc then some (.str c t) else if y = xi then some (.int i ti) else m₁ y) → News h₀ L h (own ++ news) →
      wpAny (model prog w) A (execs body env) (EnumEnd h₀ L own news m xi xc (J (i + 1)) s Q) E { s with heap := h, toks := tk })
    (done : ∀ (m₁ : Str → Option Value) (h : Heap) (tk : Nat), J ys.length → (∀ y, y ≠ xi → y ≠ xc → m₁ y = m y) → Fr h₀ L h m₁ → News h₀ L h news → Q .next { s with heap := h, toks := tk }) :
    wpAny (model prog w) A (call (.type "enumerate") [.ref l]) (fun xv s₁ => wpAny (model prog w) A (pyIter xv) (fun it s₂ => PairAt3 prog w A h₀ env xi xc body Q E it s₂) E s₁) E s := by
  subst hLe
  have hls : s.heap.IsList l vs.toArray := ⟨_, (N _ hl).1, rfl, nn, rfl⟩
  have hlt : @LT.lt Nat _ l s.heap.objs.size := Heap.lt_size (N _ hl).1
  have hLs : @LT.lt Nat _ env.locals s.heap.objs.size := F.ns.lt
  have hlL : l ≠ env.locals := (N _ hl).2.1
  have hab : h₀.objs.size ≤ env.locals := F.above
  have hlen := strsAre_length hv
  refine call_enumerate_list hls fun h' he hit hsz hk => ?_
  have F' := fr_stays F hk
  have N' := news_stays N hk
  refine wpAny_pyIter_enum he ?_
  have W := WalksT.enumerate (prog := prog) (w := w) (A := A) hh (s.heap.objs.size + 1) s.heap.objs.size l (Nat.succ_ne_self _) (Nat.ne_of_lt (Nat.lt_succ_of_lt hlt)) (Nat.ne_of_lt hlt) vs.toArray
  refine ⟨_, _, _, _, _, _, _, (fun i v0 v1 => ∃ t, v0 = .int i t ∧ vs.toArray[i]? = some v1), m, news, (fun i m₁ nw => J i ∧ nw = news ∧ ∀ y, y ≠ xi → y ≠ xc → m₁ y = m y), rfl, W, ?_, ?_, ?_, ?_, ⟨⟨_, by simpa using he⟩, hit, hls.at fun o e => hk l o e⟩, F', N', ⟨hj, rfl, fun _ _ _ => rfl⟩, ?_, ?_⟩
  · rintro i vals ⟨t, x, hPx, rfl⟩
    exact ⟨_, _, rfl, t, rfl, hPx⟩
  · intro hm
    simp only [List.mem_cons, List.not_mem_nil, or_false] at hm
    rcases hm with e | e | e
    · exact Nat.ne_of_lt (Nat.lt_succ_of_lt hLs) e
    · exact Nat.ne_of_lt hLs e
    · exact hlL e.symm
  · intro b hb
    simp only [List.mem_cons, List.not_mem_nil, or_false] at hb
    rcases hb with e | e
    · rw [e]; exact Heap.get?_none_of_le (Nat.le_trans hab (Nat.le_of_lt (Nat.lt_succ_of_lt hLs)))
    · rw [e]; exact Heap.get?_none_of_le (Nat.le_trans hab (Nat.le_of_lt hLs))
  · intro p hp hb
    have hq : @LT.lt Nat _ p.1 s.heap.objs.size := Heap.lt_size (N p hp).1
    simp only [List.mem_cons, List.not_mem_nil, or_false] at hb
    rcases hb with e | e
    · exact Nat.ne_of_lt (Nat.lt_succ_of_lt hq) e
    · exact Nat.ne_of_lt hq e
  · rintro i v0 v1 m₁ news₁ s₁ own ⟨h1, tk1, rfl⟩ hi ⟨t, rfl, hPx⟩ ⟨hJ, rfl, hm₁⟩ ha hsub F₁ N₁
    obtain ⟨c, tc, hc, rfl⟩ := strsAre_get hv (by simpa using hPx : vs[i]? = some v1)
    refine wpAny_mono (turn i c tc t m₁ own h1 tk1 hc hJ hm₁ F₁ N₁) (fun f s₂ p => ?_) fun _ _ e => e
    have fin : (∃ h' tk m', s₂ = { s with heap := h', toks := tk } ∧ Fr h₀ env.locals h' m' ∧ News h₀ env.locals h' (own ++ news₁) ∧ (∀ y, y ≠ xi → y ≠ xc → m' y = m y) ∧ J (i + 1)) → LoopStep2 h₀ env.locals own news₁ (fun m' nw => J (i + 1) ∧ nw = news₁ ∧ ∀ y, y ≠ xi → y ≠ xc → m' y = m y) { s with heap := h1, toks := tk1 } .next s₂ := by
      rintro ⟨h', tk, m', rfl, F', N', hm', hj'⟩
      exact ⟨rfl, h', tk, m', news₁, rfl, F', N', rfl, hj', rfl, hm'⟩
    cases f with
    | ret v => exact p
    | brk => exact p
    | next => exact fin p
    | cont => exact fin p
  · rintro h'' tk m' news' F'' N'' _ ⟨hJ, rfl, hm'⟩
    exact done m' h'' tk (by rw [← hlen]; simpa using hJ) hm' F'' N''
end
end Mine
end
-- R18
section
open PySem PySem.W PySem.Calls PyProof.Rows
set_option Elab.async false
set_option maxRecDepth 100000
set_option maxHeartbeats 4000000
namespace Mine
section
variable {prog : Program} {w : World} {A : Around} {E : Value → Shared → Prop} {s : Shared} {h₀ : Heap} {L D : Addr} {m : Str → Option Value} {news news' : List (Addr × Obj)} {vs : List Value} {n : Nat}
theorem item_at {value slice : Expr} {k : Int} {u : Tok} {y : Value} {Q : Value → Shared → Prop} (N : News h₀ L s.heap news) (hm : (D, listOf vs.toArray n) ∈ news) (h0 : 0 ≤ k) (hk : k ≤ 100000) (hy : vs[k.toNat]? = some y) (h : Q y s)
    (hs : subscripted slice false (.ref D) (.int k u) = operate [.ref D, .int k u] (getItem (.ref D) (.int k u)) := by with_unfolding_all rfl) :
    wpAny (model prog w) A (subscriptTail value slice (.ref D) (.int k u)) Q E s :=
  tail_any (madeL N hm).typeIs slot_list_getitem.lookup (wpAny_getItem_list (madeL N hm) h0 (by omega) (by simpa using hy) h) hs
theorem slice_gen {value slice : Expr} {vl vu vk : Value} {lo hi st : Option Int} {zs : List Value} {ops : List Value} {Q : Value → Shared → Prop} (F : Fr h₀ L s.heap m) (N : News h₀ L s.heap news) (hm : (D, listOf vs.toArray n) ∈ news) (hz : vs.length ≤ 100000)
    (pl : IsPart vl lo) (pu : IsPart vu hi) (pk : IsPart vk st) (h0 : st ≠ some 0) (e : slicePick vs.toArray lo hi st = zs.toArray)
    (h : ∀ h' D', AllNe D' news → Fr h₀ L h' m → News h₀ L h' ((D', listOf zs.toArray 0) :: news) → Q (.ref D') { s with heap := h' })
    (hs : subscripted slice false (.ref D) (.ref s.heap.objs.size) = operate ops (getItem (.ref D) (.ref s.heap.objs.size)) := by with_unfolding_all rfl)
    (ht : ∀ r, letTemporaryGo value (.ref D) r = pure () := by intro _; with_unfolding_all rfl) :
    wpAny (model prog w) A (subscriptTail value slice (.ref D) (.ref s.heap.objs.size)) Q E { s with heap := s.heap.push { cls := .type "slice", data := .fields #[vl, vu, vk] } } := by
  refine slice_list3 F N (madeL N hm) pl pu pk h0 (fun h' F' N' => ?_) hs ht (by rw [sizeLine_eq]; simp; omega)
  rw [e] at N'
  refine h h' _ (allNe_of fun p hp => ?_) F' N'
  exact Nat.ne_of_lt (Nat.lt_succ_of_lt (Heap.lt_size (N p hp).1))
theorem slice_up {value slice : Expr} {k : Nat} {u : Tok} {ops : List Value} {Q : Value → Shared → Prop} (F : Fr h₀ L s.heap m) (N : News h₀ L s.heap news) (hm : (D, listOf vs.toArray n) ∈ news) (hz : vs.length ≤ 100000)
    (h : ∀ h' D', AllNe D' news → Fr h₀ L h' m → News h₀ L h' ((D', listOf (vs.take k).toArray 0) :: news) → Q (.ref D') { s with heap := h' })
    (hs : subscripted slice false (.ref D) (.ref s.heap.objs.size) = operate ops (getItem (.ref D) (.ref s.heap.objs.size)) := by with_unfolding_all rfl)
    (ht : ∀ r, letTemporaryGo value (.ref D) r = pure () := by intro _; with_unfolding_all rfl) :
    wpAny (model prog w) A (subscriptTail value slice (.ref D) (.ref s.heap.objs.size)) Q E { s with heap := s.heap.push { cls := .type "slice", data := .fields #[.none, .int k u, .none] } } :=
  slice_gen F N hm hz .none (.int k u) .none (by simp) (by rw [slicePick_upto']) h hs ht
theorem strsAre_take : ∀ {vs : List Value} {ys : List Str} (_ : StrsAre vs ys) (k : Nat), StrsAre (vs.take k) (ys.take k)
  | _, _, .nil, k => by simp only [List.take_nil]; exact .nil
  | _, _, .cons y t r, 0 => by simp only [List.take_zero]; exact .nil
  | _, _, .cons y t r, k + 1 => by simp only [List.take_succ_cons]; exact .cons y t (strsAre_take r k)
end
end Mine
end
-- R19
section
open PySem PySem.W PySem.Spec PySem.Calls PyProof.Rows PyProof.Rows.LCg
set_option Elab.async false
set_option maxRecDepth 100000
set_option maxHeartbeats 1000000
namespace Mine
section
variable {prog : Program} {w : World} {A : Around} {E : Value → Shared → Prop} {s : Shared} {h₀ : Heap} {L : Addr} {m : Str → Option Value}
/-- a string as the source of a comprehension -/
theorem src_str {x : Str} {t : Tok} {news : List (Addr × Obj)} {R : Nat → (Nat → Value → Prop) → (List (Addr × Obj) → Prop) → List (Addr × Obj) → Shared → Prop} (hh : A.handled = none) (F : Fr h₀ L s.heap m) (N : News h₀ L s.heap news) (hz : x.length ≤ 100000)
    (h : ∀ g, R x.length (SignAt x) (fun _ => True) news { s with heap := g }) :
    wpAny (model prog w) A (pyIter (.str x t)) (Source prog w A h₀ L m R) E s := by
  have up : ∀ o' b o, s.heap.get? b = some o → (s.heap.push o').get? b = some o := fun o' b o e => Heap.get?_push_of_some _ e
  have hz' : x.cps.size ≤ sizeLine := by rw [sizeLine_eq]; exact Nat.le_trans hz (by omega)
  cases ha : x.cps.all (· < 128)
  · refine wpAny_pyIter_wide ha ?_
    have W := Walks.strWide (prog := prog) (w := w) hh s.heap.objs.size x t
    refine ⟨s.heap.objs.size, _, _, _, _, fun _ => True, news, rfl, W, hz', fun i h st => by obtain ⟨o, e, _⟩ := st; exact ⟨o, e⟩, ?_, ⟨_, Heap.get?_push_size _ rfl, rfl, rfl⟩,
      fun b hb => ?_, F.push _, fun p hp => ⟨up _ _ _ (N p hp).1, (N p hp).2⟩, Nat.ne_of_lt F.ns.lt, next_is_new F, fun p hp => Nat.ne_of_lt (Heap.lt_size (N p hp).1), trivial, h _⟩
    · intro i h h' o nw st e e' _ _ _
      obtain ⟨o', q, r⟩ := st
      rw [e] at q
      cases q
      exact ⟨o, e', r⟩
    · show b < (s.heap.push _).objs.size
      rw [Heap.size_push, List.mem_singleton.mp hb]; exact Nat.lt_succ_self _
  · refine wpAny_pyIter_ascii ha ?_
    have W := Walks.strAscii (prog := prog) (w := w) hh s.heap.objs.size x t
    refine ⟨s.heap.objs.size, _, _, _, _, fun _ => True, news, rfl, W, hz', fun i h st => by obtain ⟨o, e, _⟩ := st; exact ⟨o, e⟩, ?_, ⟨_, Heap.get?_push_size _ rfl, rfl, rfl⟩,
      fun b hb => ?_, F.push _, fun p hp => ⟨up _ _ _ (N p hp).1, (N p hp).2⟩, Nat.ne_of_lt F.ns.lt, next_is_new F, fun p hp => Nat.ne_of_lt (Heap.lt_size (N p hp).1), trivial, h _⟩
    · intro i h h' o nw st e e' _ _ _
      obtain ⟨o', q, r⟩ := st
      rw [e] at q
      cases q
      exact ⟨o, e', r⟩
    · show b < (s.heap.push _).objs.size
      rw [Heap.size_push, List.mem_singleton.mp hb]; exact Nat.lt_succ_self _
end
end Mine
end
-- R20
section
open PySem PySem.W PySem.Spec PySem.Calls PyProof.Rows PyProof.Rows.LCg
set_option Elab.async false
set_option maxRecDepth 100000
set_option maxHeartbeats 1000000
namespace Mine
/-- what a turn of a comprehension of plain values ends in -/
def ValEnd (h₀ : Heap) (L : Addr) (m : Str → Option Value) (s₁ : Shared) (I : Addr) (oI : Obj) (C : Addr) (oC : Obj) (D : Addr) (ys : List Value) (base : List (Addr × Obj)) (R : Value → Prop) (y : Value) (s₂ : Shared) : Prop :=
  ∃ h' tk, s₂ = { s₁ with heap := h', toks := tk } ∧ Fr h₀ L h' m ∧ News h₀ L h' ((I, oI) :: (C, oC) :: (D, lst ys) :: base) ∧ R y
theorem ValEnd.mk' {h₀ : Heap} {L I C D : Addr} {m : Str → Option Value} {s₁ : Shared} {oI oC : Obj} {ys : List Value} {base all : List (Addr × Obj)} {R : Value → Prop} {y : Value} {h' : Heap} {tk : Nat}
    (F : Fr h₀ L h' m) (N : News h₀ L h' all) (sub : ∀ p ∈ (I, oI) :: (C, oC) :: (D, lst ys) :: base, p ∈ all) (hr : R y) : ValEnd h₀ L m s₁ I oI C oC D ys base R y { s₁ with heap := h', toks := tk } := ⟨h', tk, rfl, F, fun p hp => N p (sub p hp), hr⟩
section
variable {prog : Program} {w : World} {A : Around} {s : Shared} {h₀ : Heap} {L : Addr} {m : Str → Option Value} {env : Env} {elt : Expr} {x : Str} {scope : Scope} {cl : List (Str × Addr)}
theorem vals_rest {P : Nat → Value → Prop} {S : List (Addr × Obj) → Prop} {Fin : List Value → List (Addr × Obj) → Prop} {base : List (Addr × Obj)} {n : Nat} (R : Nat → Value → Prop) (hS : S base)
    (turn : ∀ i v ys I oI C oC D m₂ h tk (E' : Value → Shared → Prop), i < n → P i v → NsObj oC m₂ → m₂ x = some v → Fr h₀ L h m → News h₀ L h ((I, oI) :: (C, oC) :: (D, lst ys) :: base) → Off3 I C D base → ((@Ne Nat I C) ∧ (@Ne Nat I D) ∧ (@Ne Nat C D)) →
      wpAny (model prog w) A (eval elt (compEnvC scope cl C env)) (ValEnd h₀ L m { s with heap := h, toks := tk } I oI C oC D ys base (R i)) E' { s with heap := h, toks := tk })
    (fin : ∀ vs : List Value, vs.length = n → (∀ (j : Nat) (v : Value), vs[j]? = some v → R j v) → Fin vs base) : CompRest prog w A h₀ L m env elt x scope cl s S P Fin n 0 [] base := by
  refine rest_ind n (fun i ys news => news = base ∧ ys.length = i ∧ ∀ (j : Nat) (v : Value), ys[j]? = some v → R j v) ?_ ?_ n 0 [] base (by omega) ⟨rfl, rfl, by simp⟩
  · rintro i ys news v I oI C oC D m₂ h tk E' hi ⟨rfl, hl, hr⟩ hP hN hv F N off ne
    refine wpAny_mono (turn i v ys I oI C oC D m₂ h tk E' hi hP hN hv F N off ne) (fun y s₂ h₂ => ?_) fun _ _ e => e
    obtain ⟨h', tk', rfl, F', N', hy⟩ := h₂
    refine CompEnd.intro F' N' news (fun p hp => hp) off hS ⟨rfl, by simp [hl], ?_⟩
    intro j v' e
    by_cases hj : j < ys.length
    · rw [List.getElem?_append_left hj] at e; exact hr j v' e
    · have hj2 : j = ys.length := by
        have := (List.getElem?_eq_some_iff.mp e).1
        simp only [List.length_append, List.length_singleton] at this; omega
      subst hj2
      simp at e
      subst e
      rw [hl]; exact hy
  · rintro ys news ⟨rfl, hl, hr⟩
    exact fin ys hl hr
end
theorem strs_of {vs : List Value} {n : Nat} {G : Nat → Str} (hl : vs.length = n) (h : ∀ (j : Nat) (v : Value), vs[j]? = some v → ∃ t, v = .str (G j) t) : StrsAre vs ((List.range n).map G) := by
  induction n generalizing vs G with
  | zero => rw [List.eq_nil_of_length_eq_zero hl]; exact .nil
  | succ n ih =>
    cases vs with
    | nil => simp at hl
    | cons v r =>
      obtain ⟨t, e⟩ := h 0 v (by simp)
      subst e
      rw [List.range_succ_eq_map, List.map_cons, List.map_map]
      exact .cons _ t (ih (by simpa using hl) fun j v e => h (j + 1) v (by simpa using e))
theorem ints_of {vs : List Value} {n : Nat} {G : Nat → Int} (hl : vs.length = n) (h : ∀ (j : Nat) (v : Value), vs[j]? = some v → ∃ t, v = .int (G j) t) : IntsAre vs ((List.range n).map G) := by
  induction n generalizing vs G with
  | zero => rw [List.eq_nil_of_length_eq_zero hl]; exact .nil
  | succ n ih =>
    cases vs with
    | nil => simp at hl
    | cons v r =>
      obtain ⟨t, e⟩ := h 0 v (by simp)
      subst e
      rw [List.range_succ_eq_map, List.map_cons, List.map_map]
      exact .cons _ t (ih (by simpa using hl) fun j v e => h (j + 1) v (by simpa using e))
end Mine
end
-- R21
section
open PySem PySem.W PySem.Calls PyProof.Rows
set_option Elab.async false
set_option maxRecDepth 100000
set_option maxHeartbeats 1000000
namespace Mine
/-- an object of a class of the written part is made, its `__init__` entered -/
theorem make_raw {w : World} {A : Around} {s : Shared} {Q E : Value → Shared → Prop} {mg mb : Str → Option Value} {C : Addr}
    {name qual : Str} {params : Arguments} {body : List Stmt} {scope : Scope} {dV kV doc pm cdv ct oc : Value} {an od : Option Addr} {osl : Array (Option Value)} {f : Addr} {pos : List Value} {binds : List (Str × Value)}
    (X : (Mine.hd.heap_39 w.params).In s.heap) (T : TR mg mb s.heap)
    (hm : makesIn (Mine.hd.heap_39 w.params) C = true) (hi : findIn (Mine.hd.heap_39 w.params) (.ref C) "__init__" = some (some (.ref f))) (hf : isFn (Mine.hd.heap_39 w.params) (.ref f) = true)
    (ho : (Mine.hd.heap_39 w.params).lookup f = some ⟨oc, od, .func (fnOf name qual params body scope dV kV doc pm an cdv ct), osl⟩) (hcd : codeIn (Mine.hd.heap_39 w.params) cdv qual = true)
    (hroom : (A.under (.builtin "type.__call__" ⟨.ref C :: pos, []⟩)).depth < recursionLimit)
    (hbind : ∀ s' : Shared, BindsTo s' (fnOf name qual params body scope dV kV doc pm an cdv ct) ⟨.ref (s.heap.objs.size + 1) :: pos, []⟩ binds) (hloc : ∀ y ∈ binds, scope.names.lookup y.1 = some .local)
    (h : ∀ L h₁ tk, L = s.heap.objs.size + 2 → Fr s.heap L h₁ (fun y => binds.reverse.lookup y) → News s.heap L h₁ [(s.heap.objs.size + 1, instObj C s.heap.objs.size), (s.heap.objs.size, dictOf [] 0)] →
      wpAny (model Challenge.rw_pd0085_01.row.prog w) ((A.under (.builtin "type.__call__" ⟨.ref C :: pos, []⟩)).deeper (envOf qual scope L f cdv)) (execs body (envOf qual scope L f cdv))
        (fun fl s' => (match fl with | .ret v => v | _ => .none) = .none ∧ Q (.ref (s.heap.objs.size + 1)) s') (fun _ _ => False)
        { s with heap := h₁, toks := tk })
    (hcell : ∀ x ∈ scope.names, x.2 ≠ .cell) (hco : scope.isCoroutine = false) (hgen : scope.isGenerator = false) (hk : scope.kind = .function) :
    wpAny (model Challenge.rw_pd0085_01.row.prog w) A (call (.ref C) pos) Q E s := by
  obtain ⟨hh, g, d, t, os⟩ := s
  refine wpAny_call (make_core (makes_of X hm) (looks_findIn X hi) (fun self => bind_fn X self (beq_iff_eq.mp hf)) (.inl rfl) ?_)
  have stay : ∀ b o, hh.get? b = some o → ((hh.push emptyDict).push (instObj C hh.objs.size)).get? b = some o := fun b o e => Heap.get?_push_of_some _ (Heap.get?_push_of_some _ e)
  have sz : ((hh.push emptyDict).push (instObj C hh.objs.size)).objs.size = hh.objs.size + 2 := by rw [Heap.size_push, Heap.size_push]
  have e1 : ((hh.push emptyDict).push (instObj C hh.objs.size)).get? (hh.objs.size + 1) = some (instObj C hh.objs.size) := by
    have := Heap.get?_push_size (hh.push emptyDict) (o := instObj C hh.objs.size) rfl
    rwa [Heap.size_push] at this
  have e2 : ((hh.push emptyDict).push (instObj C hh.objs.size)).get? hh.objs.size = some (dictOf [] 0) := Heap.get?_push_of_some _ (Heap.get?_push_size _ rfl)
  refine codeAny_call_def (fd := fnOf name qual params body scope dV kV doc pm an cdv ct) (body := body) (binds := binds) hroom ((X.keeps stay) _ _ ho) rfl (T.keeps stay).nolimit (codeRec_of (X.keeps stay) hcd) rfl (hbind _) hcell hloc (fun h₁ hns hk₁ => ?_) hco hgen hk
  refine wpAny_mono (h _ h₁ _ sz ⟨hns, fun b o e => hk₁ b o (stay b o e), by rw [sz]; exact Nat.le_add_right _ 2⟩ ?_) (fun fl s' hl => hl) fun _ _ y => y.elim
  intro p hp
  simp only [List.mem_cons, List.not_mem_nil, or_false] at hp
  rcases hp with e | e
  · subst e
    exact ⟨hk₁ _ _ e1, by rw [sz]; exact Nat.ne_of_lt (Nat.lt_succ_self _), Heap.get?_none_of_le (Nat.le_succ _)⟩
  · subst e
    exact ⟨hk₁ _ _ e2, by rw [sz]; exact Nat.ne_of_lt (Nat.lt_add_of_pos_right (by decide)), Heap.get?_none_of_le (Nat.le_refl _)⟩
end Mine
end
-- R22
section
open PySem PySem.W PySem.Calls PyProof.Rows
set_option Elab.async false
set_option maxRecDepth 100000
set_option maxHeartbeats 1000000
namespace Mine
section
variable {prog : Program} {w : World} {A : Around} {E : Value → Shared → Prop} {s : Shared} {env : Env} {h₀ : Heap} {x : Str} {body : List Stmt} {Q : Flow → Shared → Prop}
/-- the signs of an ascii text are walked -/
theorem iter_sigs {y : Str} {t : Tok} {m₀ : Str → Option Value} {held news news₀ : List (Addr × Obj)} (J : Nat → (Str → Option Value) → List (Addr × Obj) → Prop)
    (hh : A.handled = none) (hasc : y.cps.all (· < 128) = true) (F : Fr h₀ env.locals s.heap m₀) (N : News h₀ env.locals s.heap news) (hsub : ∀ p ∈ held ++ news₀, p ∈ news)
    (hj : J 0 m₀ news₀)
    (turn : ∀ i c u I oI m₁ nx h tk, y.cps[i]? = some c → J i m₁ nx → AllNe I held → AllNe I nx → Fr h₀ env.locals h (fun z => if z = x then some (.str ⟨#[c]⟩ u) else m₁ z) → News h₀ env.locals h ((I, oI) :: (held ++ nx)) →
      wpAny (model prog w) A (execs body env) (TurnEnd h₀ env.locals I oI held (J (i + 1)) s Q) E { s with heap := h, toks := tk })
    (done : ∀ m₁ nx h tk, J y.cps.size m₁ nx → Fr h₀ env.locals h m₁ → News h₀ env.locals h (held ++ nx) → Q .next { s with heap := h, toks := tk }) :
    wpAny (model prog w) A (pyIter (.str y t)) (fun it s₂ => LoopAtV prog w A h₀ env x body Q E it s₂) E s := by
  have N₀ : News h₀ env.locals s.heap (held ++ news₀) := fun p hp => N p (hsub p hp)
  refine wpAny_pyIter_ascii hasc ?_
  have W := Walks.strAscii (prog := prog) (w := w) hh s.heap.objs.size y t
  have big : ∀ p ∈ held ++ news₀, p.1 ≠ s.heap.objs.size := fun p hp => Nat.ne_of_lt (Heap.lt_size (N₀ p hp).1)
  refine loop_gen W J (F.push _) (fun p hp => ⟨Heap.get?_push_of_some _ (N₀ p hp).1, (N₀ p hp).2⟩) ⟨_, Heap.get?_push_size _ rfl, rfl, rfl⟩ (next_is_new F) ?_ ?_ ?_ ?_ ?_ hj ?_ ?_
  · intro e; exact absurd F.ns.lt (e ▸ Nat.lt_irrefl _)
  · intro b hb
    exact .inl (List.mem_singleton.mp hb)
  · exact allNe_of fun p hp => big p (List.mem_append_right _ hp)
  · exact allNe_of fun p hp => big p (List.mem_append_left _ hp)
  · rintro i h ⟨o, ho, _⟩; exact ⟨o, ho⟩
  · rintro i v oI m₁ nx h tk hi ⟨c, u, hc, rfl⟩ hJ hax F₁ N₁
    exact turn i c u _ oI m₁ nx h tk hc hJ (allNe_of fun p hp => big p (List.mem_append_left _ hp)) hax F₁ N₁
  · intro m₁ nx h tk hJ _ F₁ N₁
    exact done m₁ nx h tk hJ F₁ N₁
/-- a range by ones is walked -/
theorem iter_rng {r : Addr} {a b : Int} {n : Nat} {t u v : Tok} {m₀ : Str → Option Value} {held news news₀ : List (Addr × Obj)} (J : Nat → (Str → Option Value) → List (Addr × Obj) → Prop)
    (hh : A.handled = none) (hr : IsRange s.heap r a b 1 t u v) (hn : Builtin.Range.rangeSize a b 1 = (n : Int)) (hsm : Builtin.Range.small a b 1 = true)
    (F : Fr h₀ env.locals s.heap m₀) (N : News h₀ env.locals s.heap news) (hsub : ∀ p ∈ held ++ news₀, p ∈ news)
    (hj : J 0 m₀ news₀)
    (turn : ∀ (i : Nat) u I oI m₁ nx h tk, i < n → J i m₁ nx → AllNe I held → AllNe I nx → Fr h₀ env.locals h (fun z => if z = x then some (.int (a + i) u) else m₁ z) → News h₀ env.locals h ((I, oI) :: (held ++ nx)) →
      wpAny (model prog w) A (execs body env) (TurnEnd h₀ env.locals I oI held (J (i + 1)) s Q) E { s with heap := h, toks := tk })
    (done : ∀ m₁ nx h tk, J n m₁ nx → Fr h₀ env.locals h m₁ → News h₀ env.locals h (held ++ nx) → Q .next { s with heap := h, toks := tk }) :
    wpAny (model prog w) A (pyIter (.ref r)) (fun it s₂ => LoopAtV prog w A h₀ env x body Q E it s₂) E s := by
  have N₀ : News h₀ env.locals s.heap (held ++ news₀) := fun p hp => N p (hsub p hp)
  refine wpAny_pyIter_range hr hsm ?_
  have W := Walks.range (prog := prog) (w := w) hh s.heap.objs.size a 1 n
  have big : ∀ p ∈ held ++ news₀, p.1 ≠ s.heap.objs.size := fun p hp => Nat.ne_of_lt (Heap.lt_size (N₀ p hp).1)
  have hst : IsRangeIter (s.heap.push { cls := .type "range_iterator", data := .fields #[rawInt a, rawInt (Builtin.Range.rangeSize a b 1), rawInt 1] }) s.heap.objs.size (a + ((0 : Nat) : Int) * 1) ((n : Int) - ((0 : Nat) : Int)) 1 := by
    have e1 : a + ((0 : Nat) : Int) * 1 = a := by omega
    have e2 : (n : Int) - ((0 : Nat) : Int) = n := by omega
    rw [e1, e2, hn]
    exact Heap.get?_push_size _ rfl
  refine loop_gen W J (F.push _) (fun p hp => ⟨Heap.get?_push_of_some _ (N₀ p hp).1, (N₀ p hp).2⟩) hst (next_is_new F) ?_ ?_ ?_ ?_ ?_ hj ?_ ?_
  · intro e; exact absurd F.ns.lt (e ▸ Nat.lt_irrefl _)
  · intro b hb
    exact .inl (List.mem_singleton.mp hb)
  · exact allNe_of fun p hp => big p (List.mem_append_right _ hp)
  · exact allNe_of fun p hp => big p (List.mem_append_left _ hp)
  · intro i h st; exact ⟨_, st⟩
  · rintro i v oI m₁ nx h tk hi ⟨u, rfl⟩ hJ hax F₁ N₁
    rw [Int.mul_one] at F₁
    exact turn i u _ oI m₁ nx h tk hi hJ (allNe_of fun p hp => big p (List.mem_append_left _ hp)) hax F₁ N₁
  · intro m₁ nx h tk hJ _ F₁ N₁
    exact done m₁ nx h tk hJ F₁ N₁
end
end Mine
end
-- P2
section
set_option Elab.async false
namespace Mine
def osum {α : Type} (l : List α) (g : α → Int) : Int := (l.map g).sum
theorem osum_nil {α : Type} (g : α → Int) : osum [] g = 0 := rfl
theorem osum_cons {α : Type} (a : α) (l : List α) (g : α → Int) : osum (a :: l) g = g a + osum l g := by simp [osum]
theorem osum_append {α : Type} (l r : List α) (g : α → Int) : osum (l ++ r) g = osum l g + osum r g := by simp [osum]
theorem osum_map {α β : Type} (l : List α) (k : α → β) (g : β → Int) : osum (l.map k) g = osum l (fun a => g (k a)) := by
  unfold osum; rw [List.map_map]; rfl
theorem osum_congr {α : Type} {l : List α} {g g' : α → Int} (h : ∀ a ∈ l, g a = g' a) : osum l g = osum l g' := by
  unfold osum; rw [List.map_congr_left h]
theorem osum_zero {α : Type} (l : List α) : osum l (fun _ => 0) = 0 := by
  induction l with
  | nil => rfl
  | cons a l ih => rw [osum_cons, ih]; rfl
theorem osum_add {α : Type} (l : List α) (g k : α → Int) : osum l (fun a => g a + k a) = osum l g + osum l k := by
  induction l with
  | nil => rfl
  | cons a l ih => simp only [osum_cons, ih]; omega
theorem osum_mul {α : Type} (l : List α) (c : Int) (g : α → Int) : osum l (fun a => c * g a) = c * osum l g := by
  induction l with
  | nil => simp [osum]
  | cons a l ih => simp only [osum_cons, ih, Int.mul_add]
theorem osum_swap {α β : Type} (l : List α) (r : List β) (g : α → β → Int) : osum l (fun a => osum r (fun b => g a b)) = osum r (fun b => osum l (fun a => g a b)) := by
  induction l with
  | nil => simp only [osum_nil, osum_zero]
  | cons a l ih => simp only [osum_cons, ih, osum_add]
theorem osum_one {α : Type} [DecidableEq α] (g : α → Int) (a : α) : ∀ {l : List α}, l.Nodup → a ∈ l → osum l (fun b => if b = a then g b else 0) = g a
  | [], _, h => by cases h
  | b :: l, nd, h => by
    rw [osum_cons]
    have nd' := List.nodup_cons.mp nd
    by_cases e : b = a
    · subst e
      have : osum l (fun c => if c = b then g c else 0) = 0 := by
        rw [osum_congr (g' := fun _ => 0) (fun c hc => if_neg (fun e : c = b => nd'.1 (e ▸ hc))), osum_zero]
      rw [if_pos rfl, this]; omega
    · rw [if_neg e]
      have h' : a ∈ l := by
        rcases List.mem_cons.mp h with h | h
        · exact absurd h.symm e
        · exact h
      rw [osum_one g a nd'.2 h']; omega
theorem range_eq {α : Type} {f P : List α} [DecidableEq α] (g : List α → Int) : (if f <+: P then g f else 0) = osum (List.range (P.length + 1)) (fun i => if f = P.take i then g f else 0) := by
  have key : ∀ n, n ≤ P.length + 1 → osum (List.range n) (fun i => if f = P.take i then g f else 0) = if f <+: P ∧ f.length < n then g f else 0 := by
    intro n
    induction n with
    | zero => intro _; simp [osum]
    | succ n ih =>
      intro hn
      rw [List.range_succ, osum_append, ih (by omega), osum_cons, osum_nil]
      by_cases hp : f <+: P
      · have hf := List.prefix_iff_eq_take.mp hp
        by_cases h1 : f.length < n
        · have h2 : f ≠ P.take n := by
            intro e
            have := congrArg List.length e
            rw [List.length_take] at this; omega
          rw [if_pos ⟨hp, h1⟩, if_neg h2, if_pos ⟨hp, by omega⟩]; omega
        · by_cases h2 : f.length = n
          · have h3 : f = P.take n := by rw [← h2]; exact hf
            rw [if_neg (fun h => h1 h.2), if_pos h3, if_pos ⟨hp, by omega⟩]; omega
          · have h3 : f ≠ P.take n := by
              intro e
              have := congrArg List.length e
              rw [List.length_take] at this; omega
            rw [if_neg (fun h => h1 h.2), if_neg h3, if_neg (fun h => by have := h.2; omega)]; omega
      · have h2 : f ≠ P.take n := fun e => hp (e ▸ List.take_prefix _ _)
        rw [if_neg (fun h => hp h.1), if_neg h2, if_neg (fun h => hp h.1)]; omega
  rw [key _ (Nat.le_refl _)]
  by_cases hp : f <+: P
  · have := hp.length_le
    rw [if_pos hp, if_pos ⟨hp, by omega⟩]
  · rw [if_neg hp, if_neg (fun h => hp h.1)]
theorem sum_chain {α : Type} [DecidableEq α] (g : List α → Int) {All : List (List α)} (nd : All.Nodup) {P : List α} (h : ∀ f, f <+: P → f ∈ All) :
    osum (List.range (P.length + 1)) (fun i => g (P.take i)) = osum All (fun f => if f <+: P then g f else 0) := by
  have e1 : osum All (fun f => if f <+: P then g f else 0) = osum All (fun f => osum (List.range (P.length + 1)) (fun i => if f = P.take i then g f else 0)) := osum_congr fun f _ => range_eq g
  rw [e1, osum_swap]
  refine osum_congr fun i _ => ?_
  rw [osum_one g (P.take i) nd (h _ (List.take_prefix _ _))]
def bitsOf (c : Nat) : List Nat := (List.range 4).filter (fun k => decide (c / 2 ^ k % 2 = 1))
def sgnOf (c : Nat) : Int := if (bitsOf c).length % 2 = 1 then 1 else -1
def allB (c : Nat) (b : Nat → Bool) : Bool := (bitsOf c).all b
theorem signs_one (b : Nat → Bool) (h : b 0 = true ∨ b 1 = true ∨ b 2 = true ∨ b 3 = true) :
    osum (List.range 15) (fun i => sgnOf (i + 1) * (if allB (i + 1) b = true then 1 else 0)) = 1 := by
  have key : ∀ b0 b1 b2 b3 : Bool, (b0 || b1 || b2 || b3) = true →
    osum (List.range 15) (fun i => sgnOf (i + 1) * (if allB (i + 1) (fun k => [b0, b1, b2, b3].getD k false) = true then 1 else 0)) = 1 := by decide +kernel
  refine Eq.trans ?_ (key (b 0) (b 1) (b 2) (b 3) (by simpa [or_assoc] using h))
  refine osum_congr fun i _ => ?_
  have e : allB (i + 1) b = allB (i + 1) (fun k => [b 0, b 1, b 2, b 3].getD k false) := by
    unfold allB
    rw [Bool.eq_iff_iff, List.all_eq_true, List.all_eq_true]
    refine forall_congr' fun k => imp_congr_right fun hk => ?_
    have hk4 : k < 4 := List.mem_range.mp (List.mem_filter.mp hk).1
    match k, hk4 with
    | 0, _ => rfl
    | 1, _ => rfl
    | 2, _ => rfl
    | 3, _ => rfl
  rw [e]
theorem bits_some : ∀ i ∈ List.range 15, (bitsOf (i + 1)).any (fun k => decide (k < 4)) = true := by decide +kernel
/-- folders on the ways: inclusion and exclusion -/
theorem incl_excl {α : Type} [DecidableEq α] (g : List α → Int) {All : List (List α)} (nd : All.Nodup) (n : Nat → List α) (lc : Nat → List α)
    (hlc : ∀ c, 1 ≤ c → c ≤ 15 → ∀ f, f <+: lc c ↔ ∀ k ∈ bitsOf c, f <+: n k) (hall : ∀ f, f ∈ All ↔ f <+: n 0 ∨ f <+: n 1 ∨ f <+: n 2 ∨ f <+: n 3) :
    osum (List.range 15) (fun i => sgnOf (i + 1) * osum (List.range ((lc (i + 1)).length + 1)) (fun j => g ((lc (i + 1)).take j))) = osum All g := by
  have hlc' : ∀ c, 1 ≤ c → c ≤ 15 → ∀ f, f <+: lc c ↔ allB c (fun k => decide (f <+: n k)) = true := by
    intro c h1 h2 f
    rw [hlc c h1 h2 f]
    unfold allB
    simp
  have e1 : ∀ i ∈ List.range 15, sgnOf (i + 1) * osum (List.range ((lc (i + 1)).length + 1)) (fun j => g ((lc (i + 1)).take j)) = osum All (fun f => sgnOf (i + 1) * (if allB (i + 1) (fun k => decide (f <+: n k)) = true then g f else 0)) := by
    intro i hi
    have hi' := List.mem_range.mp hi
    rw [sum_chain g nd, osum_mul]
    · congr 1
      refine osum_congr fun f _ => ?_
      by_cases hp : f <+: lc (i + 1)
      · rw [if_pos hp, if_pos ((hlc' _ (by omega) (by omega) f).mp hp)]
      · rw [if_neg hp, if_neg fun h => hp ((hlc' _ (by omega) (by omega) f).mpr h)]
    · intro f hf
      obtain ⟨k, hk, hk4⟩ := List.any_eq_true.mp (bits_some i hi)
      have hk4 : k < 4 := by simpa using hk4
      have := (hlc _ (by omega) (by omega) f).mp hf k hk
      rw [hall]
      match k, hk4 with
      | 0, _ => exact .inl this
      | 1, _ => exact .inr (.inl this)
      | 2, _ => exact .inr (.inr (.inl this))
      | 3, _ => exact .inr (.inr (.inr this))
  rw [osum_congr e1, osum_swap]
  refine osum_congr fun f hf => ?_
  have e2 : osum (List.range 15) (fun i => sgnOf (i + 1) * (if allB (i + 1) (fun k => decide (f <+: n k)) = true then g f else 0)) = g f * osum (List.range 15) (fun i => sgnOf (i + 1) * (if allB (i + 1) (fun k => decide (f <+: n k)) = true then 1 else 0)) := by
    rw [← osum_mul]
    refine osum_congr fun i _ => ?_
    split
    · rw [Int.mul_one, Int.mul_comm]
    · simp
  rw [e2, signs_one (fun k => decide (f <+: n k)) (by simpa using (hall f).mp hf), Int.mul_one]
end Mine
end
-- P3
section
set_option Elab.async false
namespace Mine
def pad (c : List Int) (b : Nat) : List Int := if c.length ≤ b then c ++ List.replicate (b - c.length + 1) 0 else c
def bump (c : List Int) (b : Nat) : List Int := (pad c b).set b ((pad c b).getD b 0 + 1)
structure WsSt where
  c : List Int
  b : Nat
  n : Nat
  nt : Nat
def wsStep (st : WsSt) (tab : Bool) : WsSt := if tab then ⟨bump st.c st.b, 0, st.n + 1, st.nt + 1⟩ else ⟨st.c, st.b + 1, st.n + 1, st.nt⟩
def wsEnd (ts : List Bool) : WsSt := ts.foldl wsStep ⟨[], 0, 0, 0⟩
def indSum (s : Nat) (c : List Int) : Int := osum (List.range (c.length - s)) (fun j => ((s + j) / s : Nat) * c.getD (s + j) 0)
def levelOf (st : WsSt) (s : Nat) : Int := (st.b : Int) + (s : Int) * (indSum s st.c + (st.nt : Int))
def toldOf (st : WsSt) : List Int := (st.c ++ [0, 0, 0, 0]).take 4 ++ (List.range 4).map (fun i => levelOf st (i + 1))
def tabsOf (ls : List Nat) : List Bool := ls.flatMap (fun l => List.replicate l false ++ [true])
def wt (j l : Nat) : Int := if j < 4 then (if l = j then 1 else 0) else ((l / (j - 3) + 1) * (j - 3) : Nat)
def wsum (w : Nat → Int) (c : List Int) : Int := osum (List.range c.length) (fun i => w i * c.getD i 0)
theorem pad_len (c : List Int) (b : Nat) : b < (pad c b).length := by
  unfold pad; split
  · simp only [List.length_append, List.length_replicate]; omega
  · omega
theorem wsum_app_zero (w : Nat → Int) (c : List Int) (k : Nat) : wsum w (c ++ List.replicate k 0) = wsum w c := by
  unfold wsum
  rw [List.length_append, List.length_replicate, List.range_add, osum_append, osum_map]
  have e1 : osum (List.range k) (fun a => w (c.length + a) * (c ++ List.replicate k 0).getD (c.length + a) 0) = 0 := by
    rw [osum_congr (g' := fun _ => 0), osum_zero]
    intro a ha
    have ha' := List.mem_range.mp ha
    have : (c ++ List.replicate k 0).getD (c.length + a) 0 = 0 := by
      rw [List.getD_eq_getElem?_getD, List.getElem?_append_right (by omega), Nat.add_sub_cancel_left, List.getElem?_replicate, if_pos ha']; rfl
    rw [this, Int.mul_zero]
  rw [e1, Int.add_zero]
  refine osum_congr fun i hi => ?_
  have hi' := List.mem_range.mp hi
  rw [List.getD_eq_getElem?_getD, List.getD_eq_getElem?_getD, List.getElem?_append_left hi']
theorem wsum_pad (w : Nat → Int) (c : List Int) (b : Nat) : wsum w (pad c b) = wsum w c := by
  unfold pad; split
  · exact wsum_app_zero w c _
  · rfl
theorem range_split {n b : Nat} (h : b < n) (g : Nat → Int) : osum (List.range n) g = osum (List.range n) (fun i => if i = b then 0 else g i) + g b := by
  induction n with
  | zero => omega
  | succ n ih =>
    rw [List.range_succ, osum_append, osum_append, osum_cons, osum_cons, osum_nil, osum_nil]
    by_cases e : n = b
    · subst e
      have : osum (List.range n) (fun i => if i = n then 0 else g i) = osum (List.range n) g := osum_congr fun i hi => if_neg (by have := List.mem_range.mp hi; omega)
      rw [this, if_pos rfl]; omega
    · rw [ih (by omega), if_neg e]; omega
theorem wsum_set (w : Nat → Int) (c : List Int) (b : Nat) (h : b < c.length) : wsum w (c.set b (c.getD b 0 + 1)) = wsum w c + w b := by
  unfold wsum
  rw [List.length_set, range_split h, range_split h (fun i => w i * c.getD i 0)]
  have e1 : osum (List.range c.length) (fun i => if i = b then 0 else w i * (c.set b (c.getD b 0 + 1)).getD i 0) = osum (List.range c.length) (fun i => if i = b then 0 else w i * c.getD i 0) := by
    refine osum_congr fun i _ => ?_
    by_cases e : i = b
    · rw [if_pos e, if_pos e]
    · rw [if_neg e, if_neg e]; simp only [List.getD_eq_getElem?_getD, List.getElem?_set_ne (Ne.symm e)]
  have e2 : (c.set b (c.getD b 0 + 1)).getD b 0 = c.getD b 0 + 1 := by
    rw [List.getD_eq_getElem?_getD, List.getElem?_set_self h]; rfl
  rw [e1]
  simp only [e2, Int.mul_add]; omega
theorem wsum_bump (w : Nat → Int) (c : List Int) (b : Nat) : wsum w (bump c b) = wsum w c + w b := by
  unfold bump; rw [wsum_set w _ b (pad_len c b), wsum_pad]
theorem wsum_fold (w : Nat → Int) : ∀ (ls : List Nat) (c : List Int), wsum w (ls.foldl bump c) = wsum w c + osum ls w
  | [], c => by simp [osum]
  | l :: ls, c => by rw [List.foldl_cons, wsum_fold w ls, wsum_bump, osum_cons]; omega
theorem getD_wsum (c : List Int) (i : Nat) : c.getD i 0 = wsum (fun k => if k = i then 1 else 0) c := by
  unfold wsum
  by_cases h : i < c.length
  · rw [range_split h]
    have : osum (List.range c.length) (fun k => if k = i then 0 else (if k = i then 1 else 0) * c.getD k 0) = 0 := by
      rw [osum_congr (g' := fun _ => 0), osum_zero]
      intro k _
      by_cases e : k = i
      · rw [if_pos e]
      · rw [if_neg e, if_neg e, Int.zero_mul]
    rw [this]; simp
  · rw [osum_congr (g' := fun _ => 0), osum_zero, List.getD_eq_getElem?_getD, List.getElem?_eq_none (by omega)]; rfl
    intro k hk
    have := List.mem_range.mp hk
    show (if k = i then 1 else 0) * c.getD k 0 = 0
    rw [if_neg (by omega), Int.zero_mul]
theorem indSum_wsum {s : Nat} (hs : 0 < s) (c : List Int) : indSum s c = wsum (fun i => ((i / s : Nat) : Int)) c := by
  unfold indSum wsum
  by_cases h : s ≤ c.length
  · have e : c.length = s + (c.length - s) := by omega
    rw [show List.range c.length = List.range s ++ (List.range (c.length - s)).map (s + ·) from by rw [← List.range_add, ← e], osum_append, osum_map]
    have : osum (List.range s) (fun i => ((i / s : Nat) : Int) * c.getD i 0) = 0 := by
      rw [osum_congr (g' := fun _ => 0), osum_zero]
      intro i hi
      rw [Nat.div_eq_of_lt (List.mem_range.mp hi)]; simp
    rw [this, Int.zero_add]
  · have e : c.length - s = 0 := by omega
    rw [e]
    rw [osum_congr (l := List.range c.length) (g' := fun _ => 0), osum_zero]; rfl
    intro i hi
    have := List.mem_range.mp hi
    show ((i / s : Nat) : Int) * c.getD i 0 = 0
    rw [Nat.div_eq_of_lt (by omega)]; simp
theorem fold_blanks (l : Nat) (st : WsSt) : (List.replicate l false).foldl wsStep st = ⟨st.c, st.b + l, st.n + l, st.nt⟩ := by
  induction l generalizing st with
  | zero => rfl
  | succ l ih =>
    rw [List.replicate_succ, List.foldl_cons, ih]
    simp only [wsStep, Bool.false_eq_true, if_false, WsSt.mk.injEq, true_and, and_true]
    omega
theorem fold_tabs : ∀ (ls : List Nat) (st : WsSt), st.b = 0 → ((tabsOf ls).foldl wsStep st).c = ls.foldl bump st.c ∧ ((tabsOf ls).foldl wsStep st).b = 0 ∧ ((tabsOf ls).foldl wsStep st).nt = st.nt + ls.length
  | [], st, h => ⟨rfl, h, rfl⟩
  | l :: ls, st, h => by
    have e : tabsOf (l :: ls) = List.replicate l false ++ [true] ++ tabsOf ls := by simp [tabsOf]
    rw [e, List.foldl_append, List.foldl_append, fold_blanks, List.foldl_cons, List.foldl_nil]
    obtain ⟨h1, h2, h3⟩ := fold_tabs ls (wsStep ⟨st.c, st.b + l, st.n + l, st.nt⟩ true) rfl
    refine ⟨?_, h2, ?_⟩
    · rw [h1]; simp [wsStep, h]
    · rw [h3]; simp [wsStep]; omega
theorem take4 (c : List Int) : (c ++ [0, 0, 0, 0]).take 4 = (List.range 4).map (fun i => c.getD i 0) := by
  match c with
  | [] => rfl
  | [_] => rfl
  | [_, _] => rfl
  | [_, _, _] => rfl
  | _ :: _ :: _ :: _ :: _ => rfl
theorem toldOf_tabs (ls : List Nat) : toldOf (wsEnd (tabsOf ls)) = (List.range 8).map (fun j => osum ls (wt j)) := by
  obtain ⟨h1, h2, h3⟩ := fold_tabs ls ⟨[], 0, 0, 0⟩ rfl
  unfold toldOf wsEnd
  generalize (tabsOf ls).foldl wsStep ⟨[], 0, 0, 0⟩ = st at h1 h2 h3
  have z : ∀ w, wsum w [] = 0 := fun _ => rfl
  have hc : ∀ w, wsum w st.c = osum ls w := fun w => by rw [h1, wsum_fold, z, Int.zero_add]
  rw [take4, show (8 : Nat) = 4 + 4 from rfl, List.range_add, List.map_append]
  congr 1
  · refine List.map_congr_left fun i hi => ?_
    have hi' := List.mem_range.mp hi
    rw [getD_wsum, hc]
    refine osum_congr fun l _ => ?_
    unfold wt; rw [if_pos hi']
  · rw [List.map_map]
    refine List.map_congr_left fun i _ => ?_
    show levelOf st (i + 1) = osum ls (wt (4 + i))
    unfold levelOf
    rw [h2, h3, indSum_wsum (by omega), hc]
    have e : osum ls (wt (4 + i)) = osum ls (fun l => ((i + 1 : Nat) : Int) * ((l / (i + 1) : Nat) : Int) + ((i + 1 : Nat) : Int) * 1) := by
      refine osum_congr fun l _ => ?_
      unfold wt
      rw [if_neg (by omega), show 4 + i - 3 = i + 1 from by omega, Nat.mul_comm, Nat.mul_add]; simp
    have e1 : osum ls (fun _ => 1) = (ls.length : Int) := by
      clear h1 h2 h3 hc e
      induction ls with
      | nil => rfl
      | cons a l ih => rw [osum_cons, ih, List.length_cons]; omega
    rw [e, osum_add, osum_mul, osum_mul, e1, Int.mul_add]; simp
end Mine
end
-- P4
section
open PySem PySem.W PySem.Calls PyProof.Rows
set_option Elab.async false
set_option maxRecDepth 100000
set_option maxHeartbeats 1000000
namespace Mine
theorem slash_is : Str.ofString "/" = (⟨#[47]⟩ : Str) := by decide +kernel
def tsOf (p : Str) : List Bool := p.cps.toList.map (fun c => c == 47)
theorem ts_append (a b : Str) : tsOf (a ++ b) = tsOf a ++ tsOf b := by
  unfold tsOf
  rw [← List.map_append, ← Array.toList_append]; rfl
theorem ts_name {c : Str} (h : 47 ∉ c.cps.toList) : tsOf c = List.replicate c.length false := by
  unfold tsOf
  have hl : c.length = c.cps.toList.length := by simp; rfl
  rw [hl]
  generalize c.cps.toList = l at h
  induction l with
  | nil => rfl
  | cons a l ih =>
    rw [List.map_cons, List.length_cons, List.replicate_succ, ih fun hm => h (.tail _ hm)]
    congr 1
    simp only [beq_eq_false_iff_ne]
    intro e; exact h (e ▸ .head _)
theorem ts_slash : tsOf (Str.ofString "/") = [true] := by rw [slash_is]; rfl
theorem join_is (x : Str) (ys : List Str) : Txt.join x ys = Str.join x ys := StrLaws.glued_eq_join x ys
theorem ts_join : ∀ (P : List Str), P ≠ [] → (∀ c ∈ P, 47 ∉ c.cps.toList) → tsOf (Str.join (Str.ofString "/") P) ++ [true] = tabsOf (P.map (·.length))
  | [], h, _ => absurd rfl h
  | [c], _, hc => by
    show tsOf c ++ [true] = _
    rw [ts_name (hc c (.head _))]; simp [tabsOf]
  | c :: d :: r, _, hc => by
    show tsOf (c ++ Str.ofString "/" ++ Str.join (Str.ofString "/") (d :: r)) ++ [true] = _
    rw [ts_append, ts_append, ts_slash, ts_name (hc c (.head _)), List.append_assoc, ts_join (d :: r) (by simp) fun e he => hc e (.tail _ he)]
    simp [tabsOf]
theorem ends_other {a : Str} {l : List Nat} {d : Nat} (h : a.cps.toList = l ++ [d]) (hd : d ≠ 47) : Txt.endswith a (Str.ofString "/") = false := by
  unfold Txt.endswith
  rw [StrLaws.subAt_eq, slash_is]
  have hl : a.length = l.length + 1 := by
    have : a.length = a.cps.toList.length := by simp; rfl
    rw [this, h]; simp
  have h1 : (⟨#[47]⟩ : Str).length = 1 := rfl
  rw [hl, h1, h, Nat.add_sub_cancel, List.drop_left]
  simp [hd]
theorem join_last : ∀ (P : List Str) (c : Str), ∃ z : Str, Str.join (Str.ofString "/") (P ++ [c]) = z ++ c
  | [], c => ⟨Str.empty, by show c = _; cases c; exact (congrArg Str.mk (by simp [Str.empty])).trans rfl⟩
  | p :: P, c => by
    obtain ⟨z, hz⟩ := join_last P c
    have hne : P ++ [c] ≠ [] := by simp
    cases hq : P ++ [c] with
    | nil => exact absurd hq hne
    | cons q r =>
      rw [hq] at hz
      refine ⟨p ++ Str.ofString "/" ++ z, ?_⟩
      rw [List.cons_append, hq]
      show p ++ Str.ofString "/" ++ Str.join (Str.ofString "/") (q :: r) = _
      rw [hz]; simp only [Str.append_assoc]
/-- the way of a folder, with a slash behind -/
def asked (P : List Str) : Str := joinS (Str.ofString "/" ++ Txt.join (Str.ofString "/") P) (Str.ofString "")
def NameOk (c : Str) : Prop := c.cps.toList ≠ [] ∧ 47 ∉ c.cps.toList
theorem start_empty : Txt.startswith (Str.ofString "") (Str.ofString "/") = false := by decide +kernel
theorem cps_app (a b : Str) : (a ++ b).cps.toList = a.cps.toList ++ b.cps.toList := by rw [← Array.toList_append]; rfl
theorem ts_asked {P : List Str} (h : ∀ c ∈ P, NameOk c) : tsOf (asked P) = tabsOf (0 :: P.map (·.length)) := by
  unfold asked
  rw [join_is]
  rcases List.eq_nil_or_concat P with e | ⟨P', c, e⟩
  · subst e; decide +kernel
  · rw [List.concat_eq_append] at e
    obtain ⟨z, hz⟩ := join_last P' c
    rw [← e] at hz
    have hc := h c (by rw [e]; simp)
    obtain ⟨l, d, hd⟩ : ∃ l d, c.cps.toList = l ++ [d] := by
      rcases List.eq_nil_or_concat c.cps.toList with q | ⟨l, d, q⟩
      · exact absurd q hc.1
      · exact ⟨l, d, by rw [q, List.concat_eq_append]⟩
    have hd47 : d ≠ 47 := fun q => hc.2 (by rw [hd, q]; simp)
    have he : Txt.endswith (Str.ofString "/" ++ Str.join (Str.ofString "/") P) (Str.ofString "/") = false := by
      refine ends_other (l := (Str.ofString "/").cps.toList ++ (z.cps.toList ++ l)) ?_ hd47
      rw [cps_app, hz, cps_app, hd]; simp
    have hlen : ((Str.ofString "/" ++ Str.join (Str.ofString "/") P).length == 0) = false := by
      have : (Str.ofString "/" ++ Str.join (Str.ofString "/") P).length = ((Str.ofString "/" ++ Str.join (Str.ofString "/") P).cps.toList).length := by simp; rfl
      rw [this, cps_app, slash_is]; simp
    unfold joinS
    rw [start_empty, hlen, he]
    simp only [Bool.or_self, Bool.false_eq_true, if_false]
    rw [ts_append, ts_append, ts_slash]
    have := ts_join P (by rw [e]; simp) fun c hc => (h c hc).2
    rw [show tsOf (Str.ofString "/" ++ Str.ofString "") = [true] from by decide +kernel, List.append_assoc, this]; simp [tabsOf]
end Mine
end
-- L2
section
open PySem PySem.W PySem.Calls PyProof.Rows
set_option Elab.async false
set_option maxRecDepth 100000
set_option maxHeartbeats 1000000
namespace Mine
structure WsSmall (st : WsSt) (i : Nat) : Prop where
  cl : st.c.length ≤ i
  bl : st.b ≤ i
  nl : st.n ≤ i
  tl : st.nt ≤ i
  el : ∀ z ∈ st.c, 0 ≤ z ∧ z ≤ (i : Int)
theorem ws_small {st : WsSt} {i : Nat} (h : WsSmall st i) (tab : Bool) : WsSmall (wsStep st tab) (i + 1) := by
  obtain ⟨h1, h2, h3, h4, h5⟩ := h
  cases tab
  · exact ⟨Nat.le_succ_of_le h1, Nat.succ_le_succ h2, Nat.succ_le_succ h3, Nat.le_succ_of_le h4, fun z hz => by have := h5 z hz; omega⟩
  · have hp : ∀ z ∈ pad st.c st.b, 0 ≤ z ∧ z ≤ (i : Int) := by
      intro z hz
      unfold pad at hz
      split at hz
      · rcases List.mem_append.mp hz with q | q
        · exact h5 z q
        · rw [(List.mem_replicate.mp q).2]; omega
      · exact h5 z hz
    have hpl : (pad st.c st.b).length ≤ i + 1 := by
      unfold pad; split
      · simp only [List.length_append, List.length_replicate]; omega
      · omega
    refine ⟨?_, Nat.zero_le _, Nat.succ_le_succ h3, Nat.succ_le_succ h4, ?_⟩
    · show (bump st.c st.b).length ≤ i + 1
      unfold bump; rw [List.length_set]; exact hpl
    · intro z hz
      have hz : z ∈ bump st.c st.b := hz
      unfold bump at hz
      rcases List.mem_or_eq_of_mem_set hz with q | q
      · have := hp z q; omega
      · have hb := pad_len st.c st.b
        have hg : (pad st.c st.b).getD st.b 0 ∈ pad st.c st.b := by
          rw [List.getD_eq_getElem?_getD, List.getElem?_eq_getElem hb]; exact List.getElem_mem hb
        have := hp _ hg
        rw [q]; push_cast; omega
structure WsIn (a x : Addr) (m : Str → Option Value) (st : WsSt) : Prop where
  co : m (Str.ofString "count") = some (.ref a)
  se : m (Str.ofString "self") = some (.ref x)
  bb : ∃ t, m (Str.ofString "b") = some (.int st.b t)
  nn : ∃ t, m (Str.ofString "n") = some (.int st.n t)
  tt : ∃ t, m (Str.ofString "nt") = some (.int st.nt t)
  ss : ∃ t, m (Str.ofString "S") = some (.str (Str.ofString " ") t)
  ts : ∃ t, m (Str.ofString "T") = some (.str (Str.ofString "\t") t)
theorem WsIn.of {a x : Addr} {m : Str → Option Value} {st : WsSt} {t1 t2 t3 t4 t5 : Tok} (h1 : m (Str.ofString "count") = some (.ref a)) (h2 : m (Str.ofString "self") = some (.ref x)) (h3 : m (Str.ofString "b") = some (.int st.b t1)) (h4 : m (Str.ofString "n") = some (.int st.n t2))
    (h5 : m (Str.ofString "nt") = some (.int st.nt t3)) (h6 : m (Str.ofString "S") = some (.str (Str.ofString " ") t4)) (h7 : m (Str.ofString "T") = some (.str (Str.ofString "\t") t5)) : WsIn a x m st := ⟨h1, h2, ⟨_, h3⟩, ⟨_, h4⟩, ⟨_, h5⟩, ⟨_, h6⟩, ⟨_, h7⟩⟩
def WsEnd (h₀ : Heap) (L I x : Addr) (oI : Obj) (held : List (Addr × Obj)) (st : WsSt) (s : Shared) (f : Flow) (s' : Shared) : Prop :=
  f = .next ∧ ∃ h' tk' m' a' vs' kk', s' = { s with heap := h', toks := tk' } ∧ Fr h₀ L h' m' ∧ News h₀ L h' ((I, oI) :: (held ++ [(a', listOf vs'.toArray kk')])) ∧ @Ne Nat a' I ∧ IntsAre vs' st.c ∧ WsIn a' x m' st
theorem WsEnd.mk' {h₀ : Heap} {L I x a' : Addr} {oI : Obj} {held news : List (Addr × Obj)} {st : WsSt} {s : Shared} {h' : Heap} {tk' kk' : Nat} {m' : Str → Option Value} {vs' : List Value} (F : Fr h₀ L h' m') (N : News h₀ L h' news)
    (hsub : ∀ p ∈ (I, oI) :: (held ++ [(a', listOf vs'.toArray kk')]), p ∈ news) (hne : @Ne Nat a' I) (hv : IntsAre vs' st.c) (hm : WsIn a' x m' st) : WsEnd h₀ L I x oI held st s .next { s with heap := h', toks := tk' } :=
  ⟨rfl, h', tk', m', a', vs', kk', rfl, F, fun p hp => N p (hsub p hp), hne, hv, hm⟩
section
variable {prog : Program} {w : World} {A : Around} {E : Value → Shared → Prop} {s : Shared} {env : Env} {h₀ : Heap} {y : Str} {body : List Stmt} {Q : Flow → Shared → Prop}
def rawTs (p : Str) : List Bool := p.cps.toList.map (fun c => c == 9)
theorem ws_rule {p : Str} {t : Tok} {x a : Addr} {m₀ : Str → Option Value} {held news : List (Addr × Obj)}
    (hh : A.handled = none) (F : Fr h₀ env.locals s.heap m₀) (N : News h₀ env.locals s.heap news) (hsub : ∀ q ∈ held ++ [(a, listOf #[] 0)], q ∈ news) (hp : p.length ≤ 500) (hc : ∀ c ∈ p.cps.toList, c = 9 ∨ c = 32)
    (hm : WsIn a x m₀ ⟨[], 0, 0, 0⟩)
    (turn : ∀ i st m c u a' vs kk I oI h tk, (c = 9 ∨ c = 32) → WsSmall st i → i < 500 → IntsAre vs st.c → AllNe I held → @Ne Nat a' I → WsIn a' x m st → Fr h₀ env.locals h (fun z => if z = y then some (.str ⟨#[c]⟩ u) else m z) → News h₀ env.locals h ((I, oI) :: (held ++ [(a', listOf vs.toArray kk)])) →
      wpAny (model prog w) A (execs body env) (WsEnd h₀ env.locals I x oI held (wsStep st (c == 9)) s) E { s with heap := h, toks := tk })
    (done : ∀ m a' vs kk h tk, WsIn a' x m (wsEnd (rawTs p)) → WsSmall (wsEnd (rawTs p)) 500 → IntsAre vs (wsEnd (rawTs p)).c → Fr h₀ env.locals h m → News h₀ env.locals h (held ++ [(a', listOf vs.toArray kk)]) → Q .next { s with heap := h, toks := tk }) :
    wpAny (model prog w) A (pyIter (.str p t)) (fun it s₂ => LoopAtV prog w A h₀ env y body Q E it s₂) E s := by
  have hasc : p.cps.all (· < 128) = true := by
    rw [← Array.all_toList, List.all_eq_true]
    intro c hc'
    rcases hc c hc' with rfl | rfl <;> decide
  have hlen : p.cps.size ≤ 500 := hp
  have J0 : WsSmall ⟨[], 0, 0, 0⟩ 0 := ⟨Nat.le_refl _, Nat.le_refl _, Nat.le_refl _, Nat.le_refl _, fun z hz => nomatch hz⟩
  refine iter_sigs (held := held) (news₀ := [(a, listOf #[] 0)])
    (fun i m nx => ∃ st a vs kk, nx = [(a, listOf vs.toArray kk)] ∧ IntsAre vs st.c ∧ st = ((rawTs p).take i).foldl wsStep ⟨[], 0, 0, 0⟩ ∧ WsSmall st i ∧ WsIn a x m st) hh hasc F N hsub ⟨_, a, [], 0, rfl, .nil, by simp, J0, hm⟩ ?_ ?_
  · rintro i c u I oI m₁ nx h tk hc' ⟨st, a, vs, kk, rfl, hvs, hst, hsm, hm₁⟩ hI1 hI2 F₁ N₁
    have hi : i < p.cps.size := (Array.getElem?_eq_some_iff.mp hc').1
    have hcm : c ∈ p.cps.toList := by
      obtain ⟨_, e⟩ := Array.getElem?_eq_some_iff.mp hc'
      rw [← e]; exact Array.mem_toList_iff.mpr (Array.getElem_mem _)
    have hct : (rawTs p)[i]? = some (c == 9) := by
      unfold rawTs
      rw [List.getElem?_map, Array.getElem?_toList, hc']; rfl
    refine wpAny_mono (turn i st m₁ c u a vs kk I oI h tk (hc c hcm) hsm (by omega) hvs hI1 hI2.1 hm₁ F₁ N₁) (fun f s' hs => ?_) fun _ _ e => e
    obtain ⟨rfl, h', tk', m', a', vs', kk', rfl, F', N', hne', hvs', hm'⟩ := hs
    exact ⟨h', tk', m', [(a', listOf vs'.toArray kk')], rfl, F', N', ⟨hne', trivial⟩, _, a', vs', kk', rfl, hvs', by rw [take_succ_foldl _ _ hct, ← hst], ws_small hsm _, hm'⟩
  · rintro m₁ nx h tk ⟨st, a, vs, kk, rfl, hvs, hst, hsm, hm₁⟩ F₁ N₁
    have e : st = wsEnd (rawTs p) := by
      rw [hst]; unfold wsEnd
      rw [List.take_of_length_le]
      unfold rawTs; simp
    subst e
    exact done m₁ a vs kk h tk hm₁ ⟨Nat.le_trans hsm.cl hlen, Nat.le_trans hsm.bl hlen, Nat.le_trans hsm.nl hlen, Nat.le_trans hsm.tl hlen, fun z hz => by have := hsm.el z hz; omega⟩ hvs F₁ N₁
end
end Mine
end
-- R23
section
open PySem PySem.W PySem.Calls PyProof.Rows
set_option Elab.async false
set_option maxRecDepth 100000
set_option maxHeartbeats 1000000
namespace Mine
section
variable {prog : Program} {w : World} {A : Around} {E : Value → Shared → Prop} {s : Shared} {h₀ : Heap} {L D : Addr} {m : Str → Option Value} {news news' : List (Addr × Obj)} {vs : List Value} {ns : List Int} {n : Nat}
theorem lenI {Q : Value → Shared → Prop} (N : News h₀ L s.heap news) (hm : (D, listOf vs.toArray n) ∈ news) (hi : IntsAre vs ns) (hz : ns.length ≤ 100000)
    (h : ∀ t k, Q (.int ns.length t) { s with toks := k }) : wpAny (model prog w) A (call (.builtin "len") [.ref D]) Q E s := by
  have hl := hi.length
  refine len_list (madeL N hm) (by simp; omega) ?_
  have e : vs.toArray.size = ns.length := by simp [hl]
  rw [e]; exact h _ _
theorem lenS {ys : List Str} {Q : Value → Shared → Prop} (N : News h₀ L s.heap news) (hm : (D, listOf vs.toArray n) ∈ news) (hi : StrsAre vs ys) (hz : ys.length ≤ 100000)
    (h : ∀ t k, Q (.int ys.length t) { s with toks := k }) : wpAny (model prog w) A (call (.builtin "len") [.ref D]) Q E s := by
  have hl := strsAre_length hi
  refine len_list (madeL N hm) (by simp; omega) ?_
  have e : vs.toArray.size = ys.length := by simp [hl]
  rw [e]; exact h _ _
theorem ints_zeros {t : Tok} : ∀ k : Nat, IntsAre (List.replicate k [Value.int 0 t]).flatten (List.replicate k 0)
  | 0 => .nil
  | k + 1 => by
    rw [List.replicate_succ, List.replicate_succ, List.flatten_cons]
    exact .cons _ _ (ints_zeros k)
theorem mulZ {x : Int} {t u : Tok} {Q : Value → Shared → Prop} (F : Fr h₀ L s.heap m) (N : News h₀ L s.heap news) (hm : (D, listOf #[Value.int 0 t] n) ∈ news) (hlo : 0 ≤ x) (hhi : x ≤ 100000)
    (h : ∀ D' us h', Fr h₀ L h' m → News h₀ L h' ((D', listOf (List.toArray us) 0) :: news) → AllNe D' news → IntsAre us (List.replicate x.toNat 0) → Q (.ref D') { s with heap := h' }) : wpAny (model prog w) A (binaryOp .Mult (.ref D) (.int x u)) Q E s := by
  refine mul_list F N (items := #[Value.int 0 t]) (k := n) ((N _ hm).1) (by omega) (by omega) (by simp; omega) fun h' F' N' => ?_
  rw [if_neg (by simp : ¬ ((#[Value.int 0 t] : Array Value).isEmpty = true))] at N'
  have e : List.foldl (fun x1 x2 => x1 ++ x2) #[] (List.replicate x.toNat #[Value.int 0 t]) = (List.replicate x.toNat [Value.int 0 t]).flatten.toArray := by
    generalize x.toNat = k
    have key : ∀ (k : Nat) (acc : Array Value), List.foldl (fun x1 x2 => x1 ++ x2) acc (List.replicate k #[Value.int 0 t]) = acc ++ (List.replicate k [Value.int 0 t]).flatten.toArray := by
      intro k
      induction k with
      | zero => intro acc; simp
      | succ k ih => intro acc; rw [List.replicate_succ, List.foldl_cons, ih, List.replicate_succ, List.flatten_cons]; apply Array.toList_inj.mp; simp only [Array.toList_append, List.append_assoc]
    rw [key]; simp
  rw [e] at N'
  refine h _ _ h' F' N' (allNe_of fun p hp => ?_) (ints_zeros _)
  exact Nat.ne_of_lt (Heap.lt_size (N p hp).1)
theorem addI {a b : Addr} {us : List Value} {ms : List Int} {k : Nat} {Q : Value → Shared → Prop} (F : Fr h₀ L s.heap m) (N : News h₀ L s.heap news) (ha : (a, listOf vs.toArray n) ∈ news) (hb : (b, listOf us.toArray k) ∈ news) (hi : IntsAre vs ns) (hj : IntsAre us ms)
    (hz : ns.length + ms.length ≤ 100000)
    (h : ∀ D' us h', Fr h₀ L h' m → News h₀ L h' ((D', listOf (List.toArray us) 0) :: news) → AllNe D' news → IntsAre us (ns ++ ms) → Q (.ref D') { s with heap := h' }) : wpAny (model prog w) A (binaryOp .Add (.ref a) (.ref b)) Q E s :=
  add_lists_ints (hsz := by rw [sizeLine_eq]; omega) F N (madeL N ha) (madeL N hb) hi hj fun h' F' N' hk => h _ _ h' F' N' (allNe_of fun p hp => Nat.ne_of_lt (Heap.lt_size (N p hp).1)) hk
theorem tupL {Q : Value → Shared → Prop} (F : Fr h₀ L s.heap m) (N : News h₀ L s.heap news) (hm : (D, listOf vs.toArray n) ∈ news) (hz : vs.length ≤ 100000)
    (h : ∀ h' D', AllNe D' news → Fr h₀ L h' m → News h₀ L h' ((D', tupOf vs.toArray) :: news) → Q (.ref D') { s with heap := h' }) : wpAny (model prog w) A (call (.type "tuple") [.ref D]) Q E s := by
  refine call_tuple_list (madeL N hm) (fun h' hk => ?_) (by rw [sizeLine_eq]; simp; omega)
  have F' := fr_stays F hk
  have N' := news_stays N hk
  refine h _ _ (allNe_of fun p hp => ?_) (F'.push _) (N'.push F' _)
  exact Nat.ne_of_lt (Heap.lt_size (N' p hp).1)
theorem news_ne_cls {h : Heap} {a b : Addr} {o o' : Obj} (N : News h₀ L h news) (ha : (a, o) ∈ news) (hb : (b, o') ∈ news) (hc : o.cls ≠ o'.cls) : @Ne Nat a b := by
  intro e
  have e' : a = b := e
  have h1 := (N _ ha).1
  have h2 := (N _ hb).1
  subst e'
  have h3 := h1.symm.trans h2
  exact hc (congrArg Obj.cls (Option.some.inj h3))
end
end Mine
end
-- F7
section
open PySem PySem.W PySem.Calls PyProof.Rows PyProof.Rows.LCg PyProof.Rows.LCt
set_option Elab.async false
set_option maxRecDepth 100000
set_option maxHeartbeats 4000000

namespace Mine
def Born (h₀ h : Heap) (a : Addr) (o : Obj) : Prop := h.get? a = some o ∧ h₀.get? a = none
def wsDict (P : Params) (raw : Value) (st : WsSt) (tn : Addr) (u0 u1 u2 u3 u4 u5 u6 : Tok) (v5 : Value) (kn : Nat) : Obj :=
  dictOf [{ hash := PyData.keyHash P (Str.ofString "raw"), key := .str (Str.ofString "raw") u0, val := raw }, { hash := PyData.keyHash P (Str.ofString "n"), key := .str (Str.ofString "n") u1, val := .int st.n u2 },
    { hash := PyData.keyHash P (Str.ofString "nt"), key := .str (Str.ofString "nt") u3, val := .int st.nt u4 }, { hash := PyData.keyHash P (Str.ofString "norm"), key := .str (Str.ofString "norm") u5, val := .ref tn },
    { hash := PyData.keyHash P (Str.ofString "is_simple"), key := .str (Str.ofString "is_simple") u6, val := v5 }] kn
local macro_rules | `(tactic| walk_at $s:str) => `(tactic| k_extra $s)
theorem ws_spec {w : World} {dp un : Nat} {fr : Option (List Env)} {gd : Option (List Code)} {s : Shared} {Q E : Value → Shared → Prop} {mg mb : Str → Option Value} {p : Str} {t : Tok}
    (X : (Mine.hd.heap_39 w.params).In s.heap) (T : TR mg mb s.heap) (hd : dp < 890) (hp : p.length ≤ 500) (hc : ∀ c ∈ p.cps.toList, c = 9 ∨ c = 32)
    (hpost : ∀ (x dx tn tc : Addr) (vs : List Value) u0 u1 u2 u3 u4 u5 u6 u7 v5 kn h' tk', s.heap.StaysIn h' → IntsAre vs (wsEnd (rawTs p)).c → WsSmall (wsEnd (rawTs p)) 500 →
      Born s.heap h' x (instObj 196 dx) → Born s.heap h' dx (wsDict w.params (.str p t) (wsEnd (rawTs p)) tn u0 u1 u2 u3 u4 u5 u6 v5 kn) → Born s.heap h' tn (tupOf #[.ref tc, .int (wsEnd (rawTs p)).b u7]) → Born s.heap h' tc (tupOf vs.toArray) →
      (@Ne Nat x dx ∧ @Ne Nat x tn ∧ @Ne Nat x tc ∧ @Ne Nat dx tn ∧ @Ne Nat dx tc ∧ @Ne Nat tn tc) → Q (.ref x) { s with heap := h', toks := tk' }) :
    wpAny (model Challenge.rw_pd0085_01.row.prog w) { handled := none, depth := dp, frames := fr, guards := gd, units := un } (call (.ref 196) [.str p t]) Q E s := by
  k_with_none
  (k_with "look" => first | assumption | exact if_pos rfl | (refine (if_neg (by decide)).trans ?_; walk_at "look"))
  (k_with "eval Name" => (k_here; k_dflt (refine' nameX_L ?kwF ?kwv ?_ ?kwa ?kwb; (case kwF => k_asm); (case kwa => rfl); (case kwb => rfl); (case kwv => walk_at "look"); k_whole)))
  (k_with "call builtin:len" => (k_here; k_dflt (refine' lenI ?kwN ?kwm ?kwi ?kwz ?_; (case kwN => k_asm); (case kwm => k_mem); (case kwi => assumption); (case kwz => omega)); intro _ _))
  (k_with "binaryOp Mult ref int" => (k_here; k_dflt (refine' mulZ ?kwF ?kwN ?kwm ?kwlo ?kwhi ?_; (case kwF => k_asm); (case kwN => k_asm); (case kwm => k_mem); (case kwlo => omega); (case kwhi => omega)); intro kw_D' kw_us' kw_h' kw_F' kw_N' kw_l1 kw_hI'; (try simp only [AllNe, List.cons_append, List.nil_append, and_true] at kw_l1); (try k_sweep)))
  (k_with "binaryOp Add ref ref" => (k_here; k_dflt (refine' addI ?kwF ?kwN ?kwa ?kwb ?kwi ?kwj ?kwz ?_; (case kwF => k_asm); (case kwN => k_asm); (case kwa => k_mem); (case kwb => k_mem); (case kwi => assumption); (case kwj => assumption); (case kwz => (simp only [List.length_replicate]; omega))); intro kw_D' kw_us' kw_h' kw_F' kw_N' kw_l1 kw_hI'; (try simp only [AllNe, List.cons_append, List.nil_append, and_true] at kw_l1); (try k_sweep)))
  (k_with "setItem ref int" => (k_here; k_dflt (refine' ksa_set ?kwk1 ?kwk2 ?kwk3 ?kwk4 ?kwk5 ?kwk6 ?kwk7 ?_; (case kwk1 => k_asm); (case kwk2 => k_asm); (case kwk3 => k_upd); (case kwk4 => with_reducible assumption); (case kwk5 => omega); (case kwk6 => ((try simp only [List.length_append, List.length_replicate]); omega)); (case kwk7 => omega)); intro kw_h' kw_F' kw_N' kw_hi' kw_hl' kw_hs'; clear kw_hl' kw_hs'; (try k_sweep)))
  (k_with "call type:tuple" => (k_here; k_dflt (refine' tupL ?kwF ?kwN ?kwm ?kwz ?_; (case kwF => k_asm); (case kwN => k_asm); (case kwm => k_mem); (case kwz => omega)); intro kw_h' kw_D' kw_l1 kw_F' kw_N'; (try simp only [AllNe, List.cons_append, List.nil_append, and_true] at kw_l1); (try k_sweep)))
  revert X T
  w_on
  k_fill
  intro X T
  refine' make_raw (binds := [(Str.ofString "self", Value.ref (s.heap.objs.size + 1)), (Str.ofString "ws", Value.str p t)]) X T ?hm ?hi ?hf ?ho ?hcd ?hr ?hb ?hl ?_ ?hc ?c1 ?c2 ?c3
  case hm => k_is
  case hi => k_is
  case hf => k_is
  case ho => k_is
  case hcd => k_is
  case hr => (show dp + 1 < 1000); omega
  case hb => (intro s'; exact BindsTo.of_eq rfl)
  case hl => exact locs rfl
  case hc => decide
  case c1 => rfl
  case c2 => rfl
  case c3 => rfl
  · intro L h₁ tk hL F N
    try dsimp only
    k_steps
    refine' ws_rule (x := s.heap.objs.size + 1) (held := [(s.heap.objs.size + 1, _), (s.heap.objs.size, _)]) ?hh ?F ?N ?sub hp hc ?hm ?turn ?done
    case hh => rfl
    case F => k_asm
    case N => k_asm
    case sub => (intro q hq; simp only [List.cons_append, List.nil_append, List.mem_cons, List.not_mem_nil, or_false] at hq; rcases hq with rfl | rfl | rfl; (k_mem); (k_mem); (k_mem))
    case hm => exact ⟨rfl, rfl, ⟨_, rfl⟩, ⟨_, rfl⟩, ⟨_, rfl⟩, ⟨_, rfl⟩, ⟨_, rfl⟩⟩
    case turn =>
      intro i st m c u a' vs kk I oI h tk hc hsm hi hvs hI hI2 hm F N
      have hm' := hm
      have ⟨hs1, hs2, hs3, hs4, hs5⟩ := hsm
      obtain ⟨m1, m2, ⟨_, m3⟩, ⟨_, m4⟩, ⟨_, m5⟩, ⟨_, m6⟩, ⟨_, m7⟩⟩ := hm
      simp only [List.cons_append, List.nil_append] at N
      have hxa : @Ne Nat a' (s.heap.objs.size + 1) := news_ne_cls N (by k_mem) (by k_mem) (by intro e; cases e)
      have hxb : @Ne Nat a' s.heap.objs.size := news_ne_cls N (by k_mem) (by k_mem) (fun e => absurd (Value.type.inj e) (by decide))
      k_steps
      all_goals first
        | (exfalso; rcases hc with e | e <;> (subst e; first | exact absurd (by assumption : ((⟨#[9]⟩ : Str) == Str.ofString "\t") = false) (by decide +kernel) | exact absurd (by assumption : ((⟨#[32]⟩ : Str) == Str.ofString " ") = false) (by decide +kernel)); done)
        | skip
      · obtain rfl : c = 32 := by
          rcases hc with e | e
          · subst e; exact absurd (by assumption : ((⟨#[9]⟩ : Str) == Str.ofString " ") = true) (by decide +kernel)
          · exact e
        refine' WsEnd.mk' ?F ?N ?sub ?ne ?hv (WsIn.of ?a1 ?a2 ?a3 ?a4 ?a5 ?a6 ?a7)
        case F => k_asm
        case N => k_asm
        case a1 => walk_at "look"
        case a2 => walk_at "look"
        case a3 => walk_at "look"
        case a4 => walk_at "look"
        case a5 => walk_at "look"
        case a6 => walk_at "look"
        case a7 => walk_at "look"
        case sub => (intro q hq; simp only [List.cons_append, List.nil_append, List.mem_cons, List.not_mem_nil, or_false] at hq; rcases hq with rfl | rfl | rfl | rfl; (k_mem); (k_mem); (k_mem); (k_mem))
        case ne => omega
        case hv => exact hvs
      · obtain rfl : c = 9 := by
          rcases hc with e | e
          · exact e
          · subst e; exact absurd (by assumption : ((⟨#[32]⟩ : Str) == Str.ofString " ") = false) (by decide +kernel)
        have hle : st.c.length ≤ st.b := by omega
        refine' WsEnd.mk' ?F ?N ?sub ?ne ?hv (WsIn.of ?a1 ?a2 ?a3 ?a4 ?a5 ?a6 ?a7)
        case F => k_asm
        case N => k_asm
        case a1 => walk_at "look"
        case a2 => walk_at "look"
        case a3 => walk_at "look"
        case a4 => walk_at "look"
        case a5 => walk_at "look"
        case a6 => walk_at "look"
        case a7 => walk_at "look"
        case hv =>
          have e1 : ((st.b : Int) - (st.c.length : Int) + 1).toNat = st.b - st.c.length + 1 := by omega
          have e2 : (st.c ++ List.replicate ((st.b : Int) - (st.c.length : Int) + 1).toNat 0).set (st.b : Int).toNat ((st.c ++ List.replicate ((st.b : Int) - (st.c.length : Int) + 1).toNat 0).getD (st.b : Int).toNat 0 + 1) = bump st.c st.b := by
            unfold bump pad; rw [if_pos hle, e1, Int.toNat_natCast]
          show IntsAre _ (bump st.c st.b)
          rw [← e2]
          rename IntsAre _ _ => q
          exact q
        case sub => (intro q hq; simp only [List.cons_append, List.nil_append, List.mem_cons, List.not_mem_nil, or_false] at hq; rcases hq with rfl | rfl | rfl | rfl; (k_mem); (k_mem); (k_mem); (k_mem))
        case ne => omega
      · obtain rfl : c = 9 := by
          rcases hc with e | e
          · exact e
          · subst e; exact absurd (by assumption : ((⟨#[32]⟩ : Str) == Str.ofString " ") = false) (by decide +kernel)
        have hle : ¬ st.c.length ≤ st.b := by omega
        refine' WsEnd.mk' ?F ?N ?sub ?ne ?hv (WsIn.of ?a1 ?a2 ?a3 ?a4 ?a5 ?a6 ?a7)
        case F => k_asm
        case N => k_asm
        case a1 => walk_at "look"
        case a2 => walk_at "look"
        case a3 => walk_at "look"
        case a4 => walk_at "look"
        case a5 => walk_at "look"
        case a6 => walk_at "look"
        case a7 => walk_at "look"
        case sub => (intro q hq; simp only [List.cons_append, List.nil_append, List.mem_cons, List.not_mem_nil, or_false] at hq; rcases hq with rfl | rfl | rfl | rfl; (k_mem); (k_mem); (k_mem); (k_mem))
        case ne => omega
        case hv =>
          show IntsAre _ (bump st.c st.b)
          unfold bump pad
          rw [if_neg hle]
          assumption
    case done =>
      intro m a' vs kk h tk hm hsm hvs F N
      generalize wsEnd (rawTs p) = st at hm hsm hvs hpost
      have hvl := hvs.length
      have hm' := hm
      have ⟨hs1, hs2, hs3, hs4, hs5⟩ := hsm
      obtain ⟨m1, m2, ⟨_, m3⟩, ⟨_, m4⟩, ⟨_, m5⟩, ⟨_, m6⟩, ⟨_, m7⟩⟩ := hm
      simp only [List.cons_append, List.nil_append] at N
      have hxa : @Ne Nat a' (s.heap.objs.size + 1) := news_ne_cls N (by k_mem) (by k_mem) (by intro e; cases e)
      have hxb : @Ne Nat a' s.heap.objs.size := news_ne_cls N (by k_mem) (by k_mem) (fun e => absurd (Value.type.inj e) (by decide))
      k_steps
      rename News _ _ _ _ => N9
      rename Fr _ _ _ _ => F9
      have m1 := N9 _ (.tail _ (.tail _ (.head _)))
      have m2 := N9 _ (.tail _ (.tail _ (.tail _ (.head _))))
      have m3 := N9 _ (.head _)
      have m4 := N9 _ (.tail _ (.head _))
      refine hpost _ _ _ _ vs _ _ _ _ _ _ _ _ _ _ _ _ F9.keep hvs hsm ⟨m1.1, m1.2.2⟩ ⟨m2.1, m2.2.2⟩ ⟨m3.1, m3.2.2⟩ ⟨m4.1, m4.2.2⟩ ?_
      refine ⟨?_, ?_, ?_, ?_, ?_, ?_⟩ <;> omega
end Mine
end
-- R24
section
open PySem PySem.W PySem.Calls PyProof.Rows
set_option Elab.async false
set_option maxRecDepth 100000
set_option maxHeartbeats 1000000
namespace Mine
theorem born_news {h₀ h h' : Heap} {L a : Addr} {m : Str → Option Value} {news : List (Addr × Obj)} {o : Obj} (F : Fr h₀ L h m) (N : News h₀ L h' news) (b : Born h h' a o) : News h₀ L h' ((a, o) :: news) := by
  intro p hp
  rcases List.mem_cons.mp hp with rfl | hp
  · refine ⟨b.1, fun q => ?_, ?_⟩
    · obtain ⟨oL, _, _, hL, _⟩ := F.ns
      have q' : a = L := q
      subst q'
      have := b.2
      rw [this] at hL; cases hL
    · cases hq : h₀.get? a with
      | none => rfl
      | some o' =>
        have h1 := F.keep _ _ hq
        have h2 := b.2
        rw [h1] at h2; cases h2
  · exact N p hp
theorem born_ne {h₀ h h' : Heap} {L a : Addr} {news : List (Addr × Obj)} {o : Obj} (N : News h₀ L h news) (b : Born h h' a o) : AllNe a news := by
  refine allNe_of fun p hp e => ?_
  have h1 := (N p hp).1
  have h2 := b.2
  rw [e, h2] at h1; cases h1
section
variable {w : World} {E : Value → Shared → Prop} {s : Shared} {h₀ : Heap} {L : Addr} {m : Str → Option Value} {news : List (Addr × Obj)} {mg mb : Str → Option Value} {Q : Value → Shared → Prop} {dp un : Nat} {fr : Option (List Env)} {gd : Option (List Code)}
theorem ws_K {p : Str} {t : Tok} (F : Fr h₀ L s.heap m) (N : News h₀ L s.heap news) (X : (Mine.hd.heap_39 w.params).In h₀) (T : TR mg mb h₀) (hd : dp < 890) (hp : p.length ≤ 500) (hc : ∀ c ∈ p.cps.toList, c = 9 ∨ c = 32)
    (h : ∀ (x dx tn tc : Addr) (vs : List Value) u0 u1 u2 u3 u4 u5 u6 u7 v5 kn h' tk', IntsAre vs (wsEnd (rawTs p)).c → WsSmall (wsEnd (rawTs p)) 500 → Fr h₀ L h' m →
      News h₀ L h' ((x, instObj 196 dx) :: (dx, wsDict w.params (.str p t) (wsEnd (rawTs p)) tn u0 u1 u2 u3 u4 u5 u6 v5 kn) :: (tn, tupOf #[.ref tc, .int (wsEnd (rawTs p)).b u7]) :: (tc, tupOf vs.toArray) :: news) →
      (@Ne Nat x dx ∧ @Ne Nat x tn ∧ @Ne Nat x tc ∧ @Ne Nat dx tn ∧ @Ne Nat dx tc ∧ @Ne Nat tn tc) → AllNe x news → AllNe dx news → AllNe tn news → AllNe tc news → Q (.ref x) { s with heap := h', toks := tk' }) :
    wpAny (model Challenge.rw_pd0085_01.row.prog w) { handled := none, depth := dp, frames := fr, guards := gd, units := un } (call (.ref 196) [.str p t]) Q E s := by
  refine ws_spec (X.keeps F.keep) (T.keeps F.keep) hd hp hc ?_
  intro x dx tn tc vs u0 u1 u2 u3 u4 u5 u6 u7 v5 kn h' tk' hk hvs hsm b1 b2 b3 b4 hne
  have F' := fr_stays F hk
  have N' := news_stays N hk
  exact h x dx tn tc vs u0 u1 u2 u3 u4 u5 u6 u7 v5 kn h' tk' hvs hsm F' (born_news F (born_news F (born_news F (born_news F N' b4) b3) b2) b1) hne (born_ne N b1) (born_ne N b2) (born_ne N b3) (born_ne N b4)
end
end Mine
end
-- L3
section
open PySem PySem.W PySem.Calls PyProof.Rows
set_option Elab.async false
set_option maxRecDepth 100000
set_option maxHeartbeats 1000000
namespace Mine
def layOf (p : Str) : List Str := (List.range p.length).map (fun i => if (signs p).getD i (Str.ofString "") == Str.ofString "/" then Str.ofString "\t" else Str.ofString " ")
theorem join_nil_cps : ∀ (ys : List Str), (Str.join (Str.ofString "") ys).cps.toList = ys.flatMap (fun y => y.cps.toList)
  | [] => rfl
  | [y] => by simp [Str.join]
  | y :: z :: r => by
    show (y ++ Str.ofString "" ++ Str.join (Str.ofString "") (z :: r)).cps.toList = _
    rw [cps_app, cps_app, join_nil_cps (z :: r)]
    have : (Str.ofString "").cps.toList = [] := by decide +kernel
    rw [this]; simp
theorem lay_cps (p : Str) : (Txt.join (Str.ofString "") (layOf p)).cps.toList = p.cps.toList.map (fun c => if c == 47 then 9 else 32) := by
  rw [join_is, join_nil_cps]
  unfold layOf
  have hl : p.length = p.cps.toList.length := by simp; rfl
  have e : ∀ i (h : i < p.cps.toList.length), (if (signs p).getD i (Str.ofString "") == Str.ofString "/" then Str.ofString "\t" else Str.ofString " ").cps.toList = [if p.cps.toList[i] == 47 then 9 else 32] := by
    intro i h
    have h' : p.cps[i]? = some p.cps.toList[i] := by
      rw [← Array.getElem?_toList, List.getElem?_eq_getElem h]
    have hs : (signs p).getD i (Str.ofString "") = ⟨#[p.cps.toList[i]]⟩ := by rw [List.getD_eq_getElem?_getD, signs_get h']; rfl
    rw [hs, slash_is]
    generalize p.cps.toList[i] = c
    by_cases q : c = 47
    · subst q; decide +kernel
    · have q1 : ((⟨#[c]⟩ : Str) == ⟨#[47]⟩) = false := by
        rw [beq_eq_false_iff_ne]; intro e; injection e with e; injection e with e; injection e with e; exact q e
      have q2 : (c == 47) = false := by simpa using q
      rw [q1, q2]; decide +kernel
  rw [List.flatMap_map, hl]
  apply List.ext_getElem?
  intro i
  have key : ∀ (l : List Nat) (g : Nat → List Nat) (f : Nat → Nat), (∀ i (h : i < l.length), g i = [f l[i]]) → (List.range l.length).flatMap g = l.map f := by
    intro l
    induction l with
    | nil => intro g f _; rfl
    | cons a l ih =>
      intro g f h
      rw [List.length_cons, List.range_succ_eq_map, List.flatMap_cons, List.flatMap_map, List.map_cons, h 0 (by simp)]
      rw [ih (fun i => g (i + 1)) f fun i hi => by have := h (i + 1) (by simpa using hi); simpa using this]; simp
  rw [key p.cps.toList _ (fun c => if c == 47 then 9 else 32) e]
theorem lay_ts (p : Str) : rawTs (Txt.join (Str.ofString "") (layOf p)) = tsOf p := by
  unfold rawTs tsOf
  rw [lay_cps, List.map_map]
  refine List.map_congr_left fun c _ => ?_
  show ((if c == 47 then 9 else 32) == 9) = (c == 47)
  by_cases q : c = 47 <;> simp [q]
theorem lay_ok (p : Str) : ∀ c ∈ (Txt.join (Str.ofString "") (layOf p)).cps.toList, c = 9 ∨ c = 32 := by
  rw [lay_cps]
  intro c hc
  obtain ⟨d, _, rfl⟩ := List.mem_map.mp hc
  split
  · exact .inl rfl
  · exact .inr rfl
theorem lay_len (p : Str) : (Txt.join (Str.ofString "") (layOf p)).length = p.length := by
  have h1 : (Txt.join (Str.ofString "") (layOf p)).length = (Txt.join (Str.ofString "") (layOf p)).cps.toList.length := by simp; rfl
  rw [h1, lay_cps, List.length_map]; simp; rfl
end Mine
end
-- F3
section
open PySem PySem.W PySem.Calls PyProof.Rows
set_option Elab.async false
set_option maxRecDepth 100000
set_option maxHeartbeats 8000000
namespace Mine
local macro_rules | `(tactic| walk_at $s:str) => `(tactic| k_extra $s)
theorem splitroot_spec {w : World} {dp un : Nat} {fr : Option (List Env)} {gd : Option (List Code)} {s : Shared} {Q E : Value → Shared → Prop} {mg mb : Str → Option Value} {p : Str} {t : Tok}
    (X : (Mine.hd.heap_39 w.params).In s.heap) (T : TR mg mb s.heap) (hd : dp < 900) (hp : p.length ≤ 1000) (h1 : (Txt.slice p none (some 1) != Str.ofString "/") = false) (h2 : (Txt.slice p (some 1) (some 2) != Str.ofString "/") = true)
    (h : ∀ h' D t1 t2 t3 tk', s.heap.StaysIn h' → s.heap.get? D = none → h'.get? D = some { cls := .type "tuple", data := .seq #[.str (Str.ofString "") t1, .str (Str.ofString "/") t2, .str (Txt.slice p (some 1) none) t3] } → Q (.ref D) { s with heap := h', toks := tk' }) :
    wpAny (model Challenge.rw_pd0085_01.row.prog w) { handled := none, depth := dp, frames := fr, guards := gd, units := un } (call (.ref 122) [.str p t]) Q E s := by
  k_with_none
  (k_with "call ref" => ((with_reducible show wpAny _ _ (call (Value.ref 94) [Value.str _ _]) _ _ _); (refine' fspath_K ?kwF ?kwN ?kwX ?kwT ?kwr ?_; (case kwF => k_asm); (case kwN => k_asm); (case kwX => k_asm); (case kwT => k_asm); (case kwr => ((show _ < 1000); (try simp only [depth_deeper]); omega)); intro kw_h' kw_tk' kw_F' kw_N'; (try k_sweep))))
  revert X T
  w_on
  k_fill
  intro X T
  refine' call_raw (binds := [(Str.ofString "p", Value.str p t)]) X T ?ho ?hcd ?hr ?hb ?hl ?_ ?hc ?c1 ?c2 ?c3
  case ho => k_is
  case hcd => k_is
  case hr => (show dp < 1000); omega
  case hb => exact BindsTo.of_eq rfl
  case hl => exact locs rfl
  case hc => decide
  case c1 => rfl
  case c2 => rfl
  case c3 => rfl
  · intro h₁ F
    have N : News s.heap s.heap.objs.size h₁ [] := News.nil
    try dsimp only
    k_steps
    exact h _ _ _ _ _ _ (Fr.keep (by assumption)) (News.fresh (by assumption) (by k_mem)) (News.get (by assumption) (by k_mem))

section
variable {w : World} {dp un : Nat} {fr : Option (List Env)} {gd : Option (List Code)} {s : Shared} {Q E : Value → Shared → Prop} {mg mb m : Str → Option Value} {h₀ : Heap} {L : Addr} {news : List (Addr × Obj)} {p : Str} {t : Tok}
theorem splitroot_K (F : Fr h₀ L s.heap m) (N : News h₀ L s.heap news) (X : (Mine.hd.heap_39 w.params).In h₀) (T : TR mg mb h₀) (hd : dp < 900) (hp : p.length ≤ 1000) (h1 : (Txt.slice p none (some 1) != Str.ofString "/") = false) (h2 : (Txt.slice p (some 1) (some 2) != Str.ofString "/") = true)
    (h : ∀ h' D t1 t2 t3 tk', Fr h₀ L h' m → News h₀ L h' ((D, { cls := .type "tuple", data := .seq #[.str (Str.ofString "") t1, .str (Str.ofString "/") t2, .str (Txt.slice p (some 1) none) t3] }) :: news) → AllNe D news → Q (.ref D) { s with heap := h', toks := tk' }) :
    wpAny (model Challenge.rw_pd0085_01.row.prog w) { handled := none, depth := dp, frames := fr, guards := gd, units := un } (call (.ref 122) [.str p t]) Q E s :=
  splitroot_spec (X.keeps F.keep) (T.keeps F.keep) hd hp h1 h2 fun h' D t1 t2 t3 tk' k hD hd' => h h' D t1 t2 t3 tk' (fr_stays F k) (news_fresh F N k hD hd') (allNe_of (news_ne N hD))
end
end Mine
end
-- F4
section
open PySem PySem.W PySem.Calls PyProof.Rows
set_option Elab.async false
set_option maxRecDepth 100000
set_option maxHeartbeats 8000000
namespace Mine
local macro_rules | `(tactic| walk_at $s:str) => `(tactic| k_extra $s)
theorem normpath_spec {w : World} {dp un : Nat} {fr : Option (List Env)} {gd : Option (List Code)} {s : Shared} {Q E : Value → Shared → Prop} {mg mb : Str → Option Value} {p : Str} {t : Tok}
    (X : (Mine.hd.heap_39 w.params).In s.heap) (T : TR mg mb s.heap) (hd : dp < 890) (hp : p.length ≤ 500) (h0 : (p.length : Int) ≠ 0) (h1 : (Txt.slice p none (some 1) != Str.ofString "/") = false) (h2 : (Txt.slice p (some 1) (some 2) != Str.ofString "/") = true)
    (h : ∀ r h' t1 tk', r = Str.ofString "/" ++ Txt.join (Str.ofString "/") ((Txt.split (Txt.slice p (some 1) none) (Str.ofString "/")).foldl normStep []) → s.heap.StaysIn h' → Q (.str r t1) { s with heap := h', toks := tk' }) :
    wpAny (model Challenge.rw_pd0085_01.row.prog w) { handled := none, depth := dp, frames := fr, guards := gd, units := un } (call (.ref 129) [.str p t]) Q E s := by
  k_with_none
  (k_with "look" => first | assumption | exact if_pos rfl | (refine (if_neg (by decide)).trans ?_; walk_at "look"))
  (k_with "eval Name" => (k_here; k_dflt (refine' nameX_L ?kwF ?kwv ?_ ?kwa ?kwb; (case kwF => k_asm); (case kwa => rfl); (case kwb => rfl); (case kwv => walk_at "look"); k_whole)))
  (k_with "call ref" => ((with_reducible show wpAny _ _ (call (Value.ref 94) [Value.str _ _]) _ _ _); (refine' fspath_K ?kwF ?kwN ?kwX ?kwT ?kwr ?_; (case kwF => k_asm); (case kwN => k_asm); (case kwX => k_asm); (case kwT => k_asm); (case kwr => ((show _ < 1000); (try simp only [depth_deeper]); omega)); intro kw_h' kw_tk' kw_F' kw_N'; (try k_sweep))))
  (k_with "call ref" => ((with_reducible show wpAny _ _ (call (Value.ref 122) [Value.str _ _]) _ _ _); (refine' splitroot_K ?kwF ?kwN ?kwX ?kwT ?kwr ?kwl ?kwa ?kwb ?_; (case kwF => k_asm); (case kwN => k_asm); (case kwX => k_asm); (case kwT => k_asm); (case kwr => ((try simp only [depth_deeper]); omega)); (case kwl => omega); (case kwa => assumption); (case kwb => assumption); intro kw_h' kw_D' kw_t1 kw_t2 kw_t3 kw_tk' kw_F' kw_N' kw_l1; (try simp only [AllNe, and_true] at kw_l1); (try k_sweep))))
  (k_with "truthy ref" => (k_here; k_dflt (refine' truthyL ?kwN ?kwm ?kwb ?kwz ?_; (case kwN => k_asm); (case kwm => k_mem); (case kwb => first | rfl | (simp; done)); (case kwz => (try simp only [List.length_append, List.length_singleton, List.length_nil] at *); omega); intro kw_tk')))
  (k_with "call builtin:list.append" => (k_here; k_dflt (refine' appendL ?kwF ?kwN ?kwU ?kwz ?_; (case kwF => k_asm); (case kwN => k_asm); (case kwU => k_upd); (case kwz => omega); intro kw_h' kw_F' kw_N'; (try k_sweep))))
  (k_with "call builtin:list.pop" => (k_here; k_dflt (refine' popL ?kwF ?kwN ?kwU ?kwz ?_; (case kwF => k_asm); (case kwN => k_asm); (case kwU => k_upd); (case kwz => (try simp only [List.length_append, List.length_singleton] at *); omega); intro kw_h' kw_F' kw_N'; (try k_sweep))))
  (k_with "subscriptTail Name UnaryOp ref int" => (k_here; (with_reducible show wpAny _ _ (subscriptTail _ _ (Value.ref _) (Value.int _ _)) _ _ _); k_dflt (refine' item_last ?kwN ?kwm ?kwz ?_; (case kwN => k_asm); (case kwm => k_mem); (case kwz => (try simp only [List.length_append, List.length_singleton] at *); omega))))
  (k_with "call builtin:str.join" => (k_here; k_dflt (refine' joinL ?kwN ?kwm ?kwi ?kws ?kwb ?kwl ?_; (case kwN => k_asm); (case kwm => k_mem); (case kwi => assumption); (case kws => decide); (case kwb => assumption); (case kwl => assumption); intro kw_t' kw_k' kw_hl')))
  revert X T
  w_on
  k_fill
  intro X T
  refine' call_raw (binds := [(Str.ofString "path", Value.str p t)]) X T ?ho ?hcd ?hr ?hb ?hl ?_ ?hc ?c1 ?c2 ?c3
  case ho => k_is
  case hcd => k_is
  case hr => (show dp < 1000); omega
  case hb => exact BindsTo.of_eq rfl
  case hl => exact locs rfl
  case hc => decide
  case c1 => rfl
  case c2 => rfl
  case c3 => rfl
  · intro h₁ F
    have N : News s.heap s.heap.objs.size h₁ [] := News.nil
    try dsimp only
    k_steps
    rotate_left; exact absurd (by assumption) h0
    refine' norm_rule (a := _) (lc := _) ?hh ?F ?N ?hl ?ha ?hlv ?hb ?hcl ?hm ?turn ?done
    case hh => rfl
    case F => k_asm
    case N => k_asm
    case hl => k_mem
    case ha => k_mem
    case hlv => assumption
    case hb => intro c hc; rename_i hq _ _ _ _ _ _ _ _; exact Nat.le_trans (Nat.le_trans (hq c hc) (Txt.slice_le p (some 1) none)) hp
    case hm => exact ⟨rfl, ⟨_, rfl⟩, ⟨_, rfl⟩, ⟨_, rfl⟩, ⟨_, rfl⟩⟩
    case hcl =>
      rw [(by assumption : List.map (fun (x : Str × Tok) => x.fst) _ = Txt.split (Txt.slice p (some 1) none) (Str.ofString "/"))]
      have z1 := (fact_split (Txt.slice p (some 1) none) (Str.ofString "/")).2
      have z2 := Txt.slice_le p (some 1) none
      omega
    case turn =>
      intro m c t vs ys kk I oI h tk hc hvs hdd hlen hI1 hI2 hm F N
      have hmm := NormIn.comp (v := some (Value.str c t)) hm
      obtain ⟨m1, ⟨_, m2⟩, ⟨_, m3⟩, ⟨_, m4⟩, ⟨_, m5⟩⟩ := hm
      rcases strsAre_last hvs with ⟨rfl, rfl⟩ | ⟨us, zs, y, u, rfl, rfl, hus⟩
      all_goals k_steps
      all_goals first
        | (exfalso; exact absurd (by assumption : (us ++ [Value.str y u]).isEmpty = true) (by simp))
        | (exfalso; exact hdd (by rw [beq_iff_eq.mp (by assumption : (y == Str.ofString "..") = true)]; simp))
        | (refine NormEnd.mk' (ys' := _) (by first | exact .inl rfl | exact .inr rfl) (by assumption) (by assumption) ?_ (by first | exact ns_empty (by assumption) | exact ns_dot (by assumption) | exact ns_dd (by assumption) (by assumption) (by assumption) | exact ns_app (by assumption) (by assumption) (by assumption)) hmm
           first | exact hvs | exact strsAre_push hvs _ _ | exact .nil | (rw [List.dropLast_concat]; exact hus))
        | skip
    case done =>
      intro m vs ys kk h2 tk hm hvs hys hyb hyl F N
      obtain ⟨m1, ⟨_, m2⟩, ⟨_, m3⟩, ⟨_, m4⟩, ⟨_, m5⟩⟩ := hm
      k_steps
      rw [(by assumption : List.map (fun (x : Str × Tok) => x.fst) _ = Txt.split (Txt.slice p (some 1) none) (Str.ofString "/"))] at hys
      exact h _ _ _ _ (by rw [hys]) (Fr.keep (by assumption))
end Mine
end
-- P1
section
open PySem
set_option Elab.async false
namespace Mine
theorem strLt_irrefl (x : Str) : strLt x x = false := by unfold strLt; simp
theorem strLt_trans {x y z : Str} (h1 : strLt x y = true) (h2 : strLt y z = true) : strLt x z = true := by
  unfold strLt at *
  simp only [decide_eq_true_eq] at *
  exact List.lt_trans h1 h2
theorem strLt_tri {x y : Str} (h1 : strLt x y = false) (h2 : strLt y x = false) : x = y := by
  unfold strLt at *
  simp only [decide_eq_false_iff_not] at *
  have e : x.cps.toList = y.cps.toList := List.le_antisymm (by simpa using h2) (by simpa using h1)
  cases x; cases y
  simp only [Str.mk.injEq]
  exact Array.toList_inj.mp e
theorem lexLt_irrefl : ∀ xs : List Str, lexLt xs xs = false
  | [] => rfl
  | x :: xs => by simp [lexLt, lexLt_irrefl xs]
theorem lexLt_trans : ∀ {xs ys zs : List Str}, lexLt xs ys = true → lexLt ys zs = true → lexLt xs zs = true
  | _, [], _ => by intro h; simp [lexLt] at h
  | _, _ :: _, [] => by intro _ h; simp [lexLt] at h
  | [], _ :: _, _ :: _ => by intro _ _; rfl
  | x :: xs, y :: ys, z :: zs => by
    intro h1 h2
    simp only [lexLt] at *
    by_cases e1 : x = y
    · subst e1
      by_cases e2 : x = z
      · subst e2
        simp only [beq_self_eq_true, if_true] at *
        exact lexLt_trans h1 h2
      · simp only [beq_self_eq_true, if_true, beq_iff_eq, e2, if_false] at *
        exact h2
    · simp only [beq_iff_eq, e1, if_false] at h1
      by_cases e2 : y = z
      · subst e2
        simp only [beq_iff_eq, e1, if_false]
        exact h1
      · simp only [beq_iff_eq, e2, if_false] at h2
        have h3 := strLt_trans h1 h2
        by_cases e3 : x = z
        · subst e3
          rw [strLt_irrefl] at h3; cases h3
        · simp only [beq_iff_eq, e3, if_false]; exact h3
theorem lexCmp_irrefl (g : Bool) (xs : List Str) : lexCmp g xs xs = false := by cases g <;> exact lexLt_irrefl xs
theorem lexCmp_trans {g : Bool} {xs ys zs : List Str} (h1 : lexCmp g xs ys = true) (h2 : lexCmp g ys zs = true) : lexCmp g xs zs = true := by
  cases g
  · exact lexLt_trans h1 h2
  · exact lexLt_trans h2 h1
theorem best_mem (g : Bool) : ∀ (yr : List (List Str)) (y0 : List Str), yr.foldl (pick g) y0 ∈ y0 :: yr
  | [], y0 => by simp
  | y :: yr, y0 => by
    rw [List.foldl_cons]
    have h := best_mem g yr (pick g y0 y)
    rcases List.mem_cons.mp h with h | h
    · rw [h]; unfold pick; split <;> simp
    · exact .tail _ (.tail _ h)
theorem best_ge (g : Bool) : ∀ (yr : List (List Str)) (y0 : List Str), yr.foldl (pick g) y0 = y0 ∨ lexCmp g (yr.foldl (pick g) y0) y0 = true
  | [], y0 => .inl rfl
  | y :: yr, y0 => by
    rw [List.foldl_cons]
    have h1 : pick g y0 y = y0 ∨ lexCmp g (pick g y0 y) y0 = true := by
      unfold pick
      cases h : lexCmp g y y0
      · left; simp
      · right; simpa using h
    rcases best_ge g yr (pick g y0 y) with e | e
    · rw [e]; exact h1
    · rcases h1 with e1 | e1
      · rw [e1] at e ⊢; exact .inr e
      · exact .inr (lexCmp_trans e e1)
theorem best_keep {g : Bool} {yr : List (List Str)} {y0 z : List Str} (h : lexCmp g z y0 = false) : lexCmp g z (yr.foldl (pick g) y0) = false := by
  cases hb : lexCmp g z (yr.foldl (pick g) y0) with
  | false => rfl
  | true =>
    rcases best_ge g yr y0 with e | e
    · rw [e, h] at hb; cases hb
    · rw [lexCmp_trans hb e] at h; cases h
theorem best_le (g : Bool) : ∀ (yr : List (List Str)) (y0 : List Str), ∀ z ∈ y0 :: yr, lexCmp g z (yr.foldl (pick g) y0) = false
  | [], y0 => by intro z hz; simp at hz; subst hz; exact lexCmp_irrefl g _
  | y :: yr, y0 => by
    intro z hz
    rcases List.mem_cons.mp hz with e | hz
    · subst e; exact best_keep (lexCmp_irrefl g _)
    · rcases List.mem_cons.mp hz with e | hz
      · subst e
        rw [List.foldl_cons]
        refine best_keep ?_
        unfold pick
        cases h : lexCmp g z y0
        · simpa using h
        · simpa using lexCmp_irrefl g z
      · rw [List.foldl_cons]; exact best_le g yr _ z (.tail _ hz)
/-- the longest common prefix -/
def lcp : List Str → List Str → List Str
  | x :: xs, y :: ys => if x = y then x :: lcp xs ys else []
  | _, _ => []
theorem lcp_long : ∀ {xs ys : List Str} {i : Nat}, lexLt ys xs = false → xs.take i = ys.take i → i < xs.length → i < ys.length
  | x :: xs, [], _ => by intro h; simp [lexLt] at h
  | [], _, _ => by intro _ _ h; simp at h
  | x :: xs, y :: ys, 0 => by intro _ _ _; simp
  | x :: xs, y :: ys, i + 1 => by
    intro h e hi
    simp only [List.take_succ_cons, List.cons.injEq] at e
    obtain ⟨e1, e2⟩ := e
    subst e1
    simp only [lexLt, beq_self_eq_true, if_true] at h
    simp only [List.length_cons] at hi ⊢
    have := lcp_long h e2 (by omega)
    omega
theorem lcp_stop : ∀ {xs ys : List Str} {i : Nat} {c d : Str}, xs.take i = ys.take i → xs[i]? = some c → ys[i]? = some d → c ≠ d → lcp xs ys = xs.take i
  | [], _, _, _, _ => by intro _ h; simp at h
  | _ :: _, [], _, _, _ => by intro _ _ h; simp at h
  | x :: xs, y :: ys, 0, c, d => by
    intro _ h1 h2 hne
    simp at h1 h2
    subst h1 h2
    simp [lcp, hne]
  | x :: xs, y :: ys, i + 1, c, d => by
    intro e h1 h2 hne
    simp only [List.take_succ_cons, List.cons.injEq] at e
    obtain ⟨e1, e2⟩ := e
    subst e1
    simp only [List.getElem?_cons_succ] at h1 h2
    simp only [lcp, if_true, List.take_succ_cons, lcp_stop e2 h1 h2 hne]
theorem lcp_whole : ∀ {xs ys : List Str}, xs.take xs.length = ys.take xs.length → lcp xs ys = xs
  | [], _ => by intro _; cases ‹List Str› <;> rfl
  | x :: xs, [] => by intro h; simp at h
  | x :: xs, y :: ys => by
    intro h
    simp only [List.length_cons, List.take_succ_cons, List.cons.injEq] at h
    obtain ⟨e1, e2⟩ := h
    subst e1
    simp only [lcp, if_true, lcp_whole e2]
theorem lcp_step {xs ys : List Str} {i : Nat} {c : Str} (e : xs.take i = ys.take i) (h1 : xs[i]? = some c) (h2 : ys[i]? = some c) : xs.take (i + 1) = ys.take (i + 1) := by
  rw [List.take_add_one, List.take_add_one, e, h1, h2]
theorem lcp_between : ∀ {xs ys zs : List Str}, lexLt zs xs = false → lexLt ys zs = false → lcp xs ys <+: zs
  | [], _, _ => by intro _ _; cases ‹List Str› <;> simp [lcp]
  | _ :: _, [], _ => by intro _ _; simp [lcp]
  | x :: xs, y :: ys, [] => by intro h; simp [lexLt] at h
  | x :: xs, y :: ys, z :: zs => by
    intro h1 h2
    by_cases e : x = y
    · subst e
      by_cases e2 : x = z
      · subst e2
        simp only [lexLt, beq_self_eq_true, if_true] at h1 h2
        simp only [lcp, if_true]
        obtain ⟨t, ht⟩ := lcp_between h1 h2
        exact ⟨t, by rw [List.cons_append, ht]⟩
      · have n1 : (z == x) = false := by simpa using Ne.symm e2
        have n2 : (x == z) = false := by simpa using e2
        simp only [lexLt, n1, n2, Bool.false_eq_true, if_false] at h1 h2
        exact absurd (strLt_tri h2 h1) e2
    · simp [lcp, e]
theorem lcp_left : ∀ {xs ys : List Str}, lcp xs ys <+: xs
  | [], _ => by cases ‹List Str› <;> simp [lcp]
  | _ :: _, [] => by simp [lcp]
  | x :: xs, y :: ys => by
    by_cases e : x = y
    · subst e
      simp only [lcp, if_true]
      obtain ⟨t, ht⟩ := lcp_left (xs := xs) (ys := ys)
      exact ⟨t, by rw [List.cons_append, ht]⟩
    · simp [lcp, e]
theorem lcp_most : ∀ {xs ys ps : List Str}, ps <+: xs → ps <+: ys → ps <+: lcp xs ys
  | _, _, [] => by intro _ _; simp
  | [], _, p :: ps => by intro h; simp at h
  | _ :: _, [], p :: ps => by intro _ h; simp at h
  | x :: xs, y :: ys, p :: ps => by
    intro h1 h2
    rw [List.cons_prefix_cons] at h1 h2
    obtain ⟨e1, h1⟩ := h1
    obtain ⟨e2, h2⟩ := h2
    subst e1; subst e2
    simp only [lcp, if_true, List.cons_prefix_cons, true_and]
    exact lcp_most h1 h2
/-- what all rows begin with -/
def lcpAll (y0 : List Str) (yr : List (List Str)) : List Str := lcp (yr.foldl (pick false) y0) (yr.foldl (pick true) y0)
theorem lcpAll_iff {y0 : List Str} {yr : List (List Str)} {ps : List Str} : ps <+: lcpAll y0 yr ↔ ∀ z ∈ y0 :: yr, ps <+: z := by
  constructor
  · intro h z hz
    exact h.trans (lcp_between (best_le false yr y0 z hz) (best_le true yr y0 z hz))
  · intro h
    exact lcp_most (h _ (best_mem false yr y0)) (h _ (best_mem true yr y0))
theorem best_order (y0 : List Str) (yr : List (List Str)) : lexLt (yr.foldl (pick true) y0) (yr.foldl (pick false) y0) = false := best_le false yr y0 _ (best_mem true yr y0)
end Mine
end
-- F5
section
open PySem PySem.W PySem.Calls PyProof.Rows PyProof.Rows.LCg PyProof.Rows.LCt
set_option Elab.async false
set_option maxRecDepth 100000
set_option maxHeartbeats 4000000
namespace Mine
theorem deeper_units' (A : Around) (env : Env) : (A.deeper env).units = A.units + 3 := rfl
def compOk (c : Str) : Bool := decide ((c.length : Int) ≠ 0) && (c != Str.ofString ".")
theorem compOk_yes {c : Str} (h0 : (c.length : Int) ≠ 0) (h1 : (c != Str.ofString ".") = true) : compOk c = true := by unfold compOk; rw [h1, decide_eq_true h0]; rfl
theorem compOk_dot {c : Str} (h1 : (c != Str.ofString ".") = false) : compOk c = false := by unfold compOk; rw [h1, Bool.and_false]
theorem compOk_nil {c : Str} (h0 : (c.length : Int) = 0) : compOk c = false := by unfold compOk; rw [decide_eq_false (fun h => h h0), Bool.false_and]
def comps (p : Str) : List Str := (Txt.split p (Str.ofString "/")).filter compOk
def lcpOf : List Str → List Str
  | [] => []
  | p :: r => lcpAll (comps p) (r.map comps)
theorem map_range_getD (l : List Str) : (List.range l.length).map (fun i => (Txt.split (l.getD i (Str.ofString "")) (Str.ofString "/")).filter compOk) = l.map comps := by
  apply List.ext_getElem
  · simp
  · intro i h1 h2
    simp only [List.getElem_map, List.getElem_range]
    have hi : i < l.length := by simpa using h1
    rw [List.getD_eq_getElem?_getD, List.getElem?_eq_getElem hi]; rfl
theorem comps_small {p : Str} (hp : p.length ≤ 500) : (comps p).length ≤ 502 ∧ ∀ c ∈ comps p, c.length ≤ 500 := by
  unfold comps
  constructor
  · exact Nat.le_trans (List.length_filter_le _ _) (Nat.le_trans (fact_split _ _).2 (by omega))
  · intro c hc
    exact Nat.le_trans (part_short ((List.mem_filter.mp hc).1)) hp
theorem news_drop {h₀ h : Heap} {L : Addr} {x : Addr × Obj} {own rest : List (Addr × Obj)} (N : News h₀ L h (x :: (own ++ rest))) : News h₀ L h (x :: rest) := fun p hp => N p (by
  rcases List.mem_cons.mp hp with e | e
  · exact .inl e |> List.mem_cons.mpr
  · exact .tail _ (List.mem_append_right _ e))
local macro_rules | `(tactic| walk_at $s:str) => `(tactic| k_extra $s)
theorem commonpath_spec {w : World} {dp un : Nat} {fr : Option (List Env)} {gd : Option (List Code)} {s : Shared} {Q E : Value → Shared → Prop} {mg mb : Str → Option Value} {C : Addr} {cs : List Value} {n : Nat} {ps : List Str}
    (X : (Mine.hd.heap_39 w.params).In s.heap) (T : TR mg mb s.heap) (hd : dp < 890) (hun : un < 9000) (hC : s.heap.get? C = some (listOf cs.toArray n)) (hcs : StrsAre cs ps) (hl1 : 1 ≤ ps.length) (hl2 : ps.length ≤ 4)
    (hb : ∀ p ∈ ps, p.length ≤ 500) (hs : ∀ p ∈ ps, Txt.startswith p (Str.ofString "/") = true)
    (hpost : ∀ r h' t1 tk', r = Str.ofString "/" ++ Txt.join (Str.ofString "/") (lcpOf ps) → s.heap.StaysIn h' → Q (.str r t1) { s with heap := h', toks := tk' }) :
    wpAny (model Challenge.rw_pd0085_01.row.prog w) { handled := none, depth := dp, frames := fr, guards := gd, units := un } (call (.ref 134) [.ref C]) Q E s := by
  k_with_none
  (k_with "call type:map" => (k_here; k_dflt (refine' map_K ?kwF ?kwN ?kwC ?_; (case kwF => k_asm); (case kwN => k_asm); (case kwC => assumption); intro kw_h' kw_M' kw_T' kw_I' kw_io' kw_hmm' kw_aM kw_aT kw_aI kw_F' kw_N'; (try simp only [AllNe, and_true] at kw_aM kw_aT); (try k_sweep))))
  (k_with "call type:tuple" => (k_here; k_dflt (refine' tuple_K ?kwF ?kwN ?kwX ?kwT ?kwd ?kwC ?kws ?kwz ?kwm ?kwa ?_; (case kwF => k_asm); (case kwN => k_asm); (case kwX => k_asm); (case kwT => k_asm); (case kwd => ((try simp only [depth_deeper]); omega)); (case kwC => assumption); (case kws => assumption); (case kwz => ((try simp only [List.length_cons]); omega)); (case kwm => assumption); (case kwa => assumption); intro kw_h' kw_D' kw_tk' kw_aD kw_F' kw_N'; (try simp only [AllNe, and_true] at kw_aD); (try k_sweep))))
  (k_with "truthy ref" => (k_here; k_dflt (refine' ktl_truthyK ?kwN ?kwm ?kwz ?_; (case kwN => k_asm); (case kwm => k_mem); (case kwz => ((try simp only [List.length_cons]); omega)); k_whole); (try simp only [List.isEmpty_cons, Bool.not_false])))
  (k_with "subscriptTail" => (k_here; (with_reducible show wpAny _ _ (subscriptTail _ _ (Value.ref _) (Value.int 0 _)) _ _ _); k_dflt (refine' item0T ?kwN ?kwm ?_; (case kwN => k_asm); (case kwm => k_mem))))
  (k_with "look" => first | assumption | exact if_pos rfl | (refine (if_neg (by decide)).trans ?_; walk_at "look"))
  (k_with "eval Name" => (k_here; k_dflt (refine' nameX_L ?kwF ?kwv ?_ ?kwa ?kwb; (case kwF => k_asm); (case kwa => rfl); (case kwb => rfl); (case kwv => walk_at "look"); k_whole)))
  (k_with "exec Try" => (with_reducible refine try_never ?_))
  (k_with "exec Assign cons ListComp" => (k_here; k_dflt (refine assign_lc (by k_asm) (by rfl) (by with_unfolding_all rfl) (by rfl) (by decide) (by rfl) (by decide) (by rfl) (by rfl) (by rfl) ?_)))
  (k_with "eval ListComp" => (k_here; k_dflt (first | refine lc_any (by k_asm) (by rfl) (by decide) (by rfl) (by decide) (by rfl) ?_ | refine lc_test (by k_asm) (by rfl) (by decide) (by rfl) (by decide) (by rfl) ?_)))
  (k_with "eval SetComp" => (k_here; k_dflt (refine setcomp_true (by k_asm) (by rfl) (by decide) (by rfl) (by decide) (by rfl) ?_)))
  (k_with "assign Tuple" => (k_here; k_dflt (refine' assign_true ?kwF ?kwN ?kwm ?kwh ?kwl ?_; (case kwF => k_asm); (case kwN => k_asm); (case kwm => k_mem); (case kwh => rfl); (case kwl => assumption); intro kw_h' kw_F' kw_N'; (try k_sweep))))
  have hcl := strsAre_length hcs
  obtain ⟨c1, cr, p1, pr, t1, rfl, rfl, hcr⟩ : ∃ c1 cr p1 pr t1, cs = c1 :: cr ∧ ps = p1 :: pr ∧ c1 = Value.str p1 t1 := by
    cases hcs with
    | nil => simp at hl1
    | cons y t r => exact ⟨_, _, _, _, _, rfl, rfl, rfl⟩
  subst hcr
  simp only [List.length_cons] at hcl hl1 hl2
  revert X T
  w_on
  k_fill
  intro X T
  refine' call_cells (binds := [(Str.ofString "paths", Value.ref C)]) X T ?ho ?hcd ?hr ?hb ?hl ?hc ?_ ?c1 ?c2 ?c3
  case ho => k_is
  case hcd => k_is
  case hr => (show dp < 1000); omega
  case hb => exact BindsTo.of_eq rfl
  case hl => rfl
  case hc => decide +kernel
  case c1 => rfl
  case c2 => rfl
  case c3 => rfl
  · intro L h₁ tk cells hL F N Y
    k_cells Y
    try dsimp only
    k_steps
    refine' src_tup ?hh ?F ?N ?m ?z ?_
    case hh => rfl
    case F => k_asm
    case N => k_asm
    case m => k_mem
    case z => (simp only [List.length_cons]; omega)
    intro g
    refine' rows_rest (G := fun i => Txt.split ((p1 :: pr).getD i (Str.ofString "")) (Str.ofString "/")) ?hS ?turn ?fin
    case hS => intro tl; k_mem
    case turn =>
      intro i v tl ys I oI C' oC D m₂ h tk E' hi hP hN hv F N off ne
      obtain ⟨p, t, hp, rfl⟩ := strsAre_get hcs hP
      have hpl : p.length ≤ 500 := hb p (List.mem_of_getElem? hp)
      have n1 : @LT.lt Nat _ I h.objs.size := Heap.lt_size (N _ (.head _)).1
      have n2 : @LT.lt Nat _ C' h.objs.size := Heap.lt_size (N _ (.tail _ (.head _))).1
      have n3 : @LT.lt Nat _ D h.objs.size := Heap.lt_size (N _ (.tail _ (.tail _ (.head _)))).1
      k_steps
      refine RowEnd.mk' (by assumption) (by assumption) (fun p hp => hp) ?_ ⟨Nat.ne_of_gt n1, Nat.ne_of_gt n2, Nat.ne_of_gt n3⟩
      rw [show (p1 :: pr).getD i (Str.ofString "") = p from by rw [List.getD_eq_getElem?_getD, hp]; rfl, ← (by assumption : List.map (fun (x : Str × Tok) => x.fst) _ = Txt.split p (Str.ofString "/"))]
      assumption
    case fin =>
      intro rows tl hr
      intro D h tk F N off
      k_steps
      refine' src_tup ?hh ?F ?N ?m ?z ?_
      case hh => rfl
      case F => k_asm
      case N => k_asm
      case m => k_mem
      case z => (simp only [List.length_cons]; omega)
      intro g
      refine ⟨by k_mem, by simp, ?turn2, ?fin2⟩
      case turn2 =>
        intro i v I oI C' oC D2 oD m₂ h tk hi hP hN hv F N off ne
        obtain ⟨p, t, hp, rfl⟩ := strsAre_get hcs hP
        have hpl : p.length ≤ 500 := hb p (List.mem_of_getElem? hp)
        have hps := hs p (List.mem_of_getElem? hp)
        k_steps
        exact BoolEnd.mk' (by assumption) (by assumption) (fun p hp => hp) hps
      case fin2 =>
        intro D2 led h tk hled F N off
        k_steps
        have hrl := hr.length
        refine' src_lst (vs := rows) (nn := rows.length) ?hh ?F ?N ?m ?z ?_
        case hh => rfl
        case F => k_asm
        case N => k_asm
        case m => k_mem
        case z => (simp only [List.length_map, List.length_range, List.length_cons] at hrl; omega)
        intro g
        refine' rows_rest (G := fun i => (Txt.split ((p1 :: pr).getD i (Str.ofString "")) (Str.ofString "/")).filter compOk) ?hS ?turn ?fin
        case hS => intro tl; k_mem
        case turn =>
          intro i v tl2 ys I oI C' oC D3 m₂ h tk E' hi hP hN hv F N off ne
          obtain ⟨row, hrow, a, us, ka, rfl, hmem, hus⟩ := hr.get hP
          k_dflt (refine lc_test (by k_asm) (by rfl) (by decide) (by rfl) (by decide) (by rfl) ?_)
          walk1
          have hrow' : row = Txt.split ((p1 :: pr).getD i (Str.ofString "")) (Str.ofString "/") := by
            have hi' : i < (Value.str p1 t1 :: cr).length := by
              simp only [List.length_map, List.length_range] at hrl; omega
            rw [List.getElem?_map, List.getElem?_range hi'] at hrow
            exact (Option.some.inj hrow).symm
          have hul := strsAre_length hus
          have hpi : ((p1 :: pr).getD i (Str.ofString "")).length ≤ 500 := by
            rw [List.getD_eq_getElem?_getD]
            cases hq : (p1 :: pr)[i]? with
            | none => decide
            | some p => exact hb p (List.mem_of_getElem? hq)
          have hrowl : row.length ≤ 502 := by rw [hrow']; exact Nat.le_trans (fact_split _ _).2 (by omega)
          have n1 : @LT.lt Nat _ I h.objs.size := Heap.lt_size (N _ (.head _)).1
          have n2 : @LT.lt Nat _ C' h.objs.size := Heap.lt_size (N _ (.tail _ (.head _))).1
          have n3 : @LT.lt Nat _ D3 h.objs.size := Heap.lt_size (N _ (.tail _ (.tail _ (.head _)))).1
          refine' src_lst (vs := us) (nn := ka) ?hh ?F ?N ?m ?z ?_
          case hh => rfl
          case F => k_asm
          case N => k_asm
          case m => exact .tail _ (.tail _ (.tail _ (List.mem_append_left _ (.tail _ (.tail _ (List.mem_append_right _ hmem))))))
          case z => omega
          intro g
          refine' filter_rest hus compOk ?hS4 ?turn4 ?fin4
          case hS4 => exact .tail _ (.tail _ (.tail _ (List.mem_append_left _ (.tail _ (.tail _ (List.mem_append_right _ hmem))))))
          case turn4 =>
            intro c t zs I2 oI2 C2 oC2 D4 m₃ h tk E' hc hN hv F N off ne
            have hcl : c.length ≤ 500 := by rw [hrow'] at hc; exact Nat.le_trans (part_short hc) hpi
            k_steps
            all_goals first
              | (refine FiltEnd.yes (compOk_yes (by assumption) (by assumption)) ?_
                 k_steps
                 exact ⟨rfl, Kept.mk' (by assumption) (by assumption) (fun p hp => hp)⟩)
              | exact FiltEnd.no (compOk_dot (by assumption)) (Kept.mk' (by assumption) (by assumption) (fun p hp => hp))
              | exact FiltEnd.no (compOk_nil (by assumption)) (Kept.mk' (by assumption) (by assumption) (fun p hp => hp))
          case fin4 =>
            intro zs hzs
            intro D4 h tk F N off
            obtain ⟨o1, o2, o3, _⟩ := off
            exact RowEnd.mk' F N (fun p hp => hp) (hrow' ▸ hzs) ⟨Ne.symm o1, Ne.symm o2, Ne.symm o3⟩
        case fin =>
          intro rows2 tl2 hr2
          intro D3 h tk F N off
          k_steps
          have hrl0 : rows.length = (p1 :: pr).length := by
            simp only [List.length_map, List.length_range, List.length_cons] at hrl ⊢; omega
          rw [hrl0, map_range_getD, List.map_cons] at hr2
          obtain ⟨y0, hy0⟩ : ∃ y0, y0 = comps p1 := ⟨_, rfl⟩
          obtain ⟨yr, hyr⟩ : ∃ yr, yr = pr.map comps := ⟨_, rfl⟩
          rw [← hy0, ← hyr] at hr2
          have hall : ∀ z ∈ y0 :: yr, z.length ≤ 502 ∧ ∀ c ∈ z, c.length ≤ 500 := by
            intro z hz
            rw [hy0, hyr, ← List.map_cons] at hz
            obtain ⟨p, hp, rfl⟩ := List.mem_map.mp hz
            exact comps_small (hb p hp)
          refine' best_K false (tl := tl2) ?hh ?hu ?F ?N ?m hr2 ?sub rfl ?_
          case hh => rfl
          case hu => (have hcL' := cLine_is; simp only [deeper_units']; omega)
          case F => k_asm
          case N => k_asm
          case m => k_mem
          case sub => k_sub
          intro a1 us1 k1 h tk hm1' hs1 F N
          k_steps
          refine' best_K true (tl := tl2) ?hh ?hu ?F ?N ?m hr2 ?sub rfl ?_
          case hh => rfl
          case hu => (have hcL' := cLine_is; simp only [deeper_units']; omega)
          case F => k_asm
          case N => k_asm
          case m => k_mem
          case sub => k_sub
          intro a2 us2 k2 h tk hm2 hs2 F N
          k_steps
          have hmax := best_order y0 yr
          have hall1 := hall _ (best_mem false yr y0)
          have hlcp : lcpOf (p1 :: pr) = lcp (yr.foldl (pick false) y0) (yr.foldl (pick true) y0) := by rw [hy0, hyr]; rfl
          generalize hS1 : yr.foldl (pick false) y0 = S1 at hs1 hmax hall1 hlcp
          generalize hS2 : yr.foldl (pick true) y0 = S2 at hs2 hmax hlcp
          refine' enum_call (J := fun i => S1.take i = S2.take i) (ys := S1) (vs := us1) (nn := k1) ?le ?hh ?F ?N ?m ?v ?j ?turn ?done
          case le => rfl
          case hh => rfl
          case F => k_asm
          case N => k_asm
          case m => exact .tail _ (List.mem_append_right _ hm1')
          case v => exact hs1
          case j => simp
          case turn =>
            intro i c t ti m1 own h tk hc hJ hm1 F N
            have hi1 : i < S1.length := (List.getElem?_eq_some_iff.mp hc).1
            have hi2 := lcp_long hmax hJ hi1
            have hb1 : S1.length ≤ 502 := hall1.1
            obtain ⟨d, td, hd1, hd2⟩ := strsAre_at hs2 i (by rw [strsAre_length hs2]; exact hi2)
            have q1 : m1 (Str.ofString "s2") = some (.ref a2) := (hm1 _ (by decide) (by decide)).trans (by walk_at "look")
            have q2 : m1 (Str.ofString "s1") = some (.ref a1) := (hm1 _ (by decide) (by decide)).trans (by walk_at "look")
            k_steps
            refine' item_at (vs := us2) (n := k2) (y := .str d td) ?N ?m ?a ?b ?hy ?_
            case N => k_asm
            case m => exact List.mem_append_right _ (.tail _ (List.mem_append_right _ hm2))
            case a => exact Int.natCast_nonneg _
            case b => omega
            case hy => simpa using hd2
            k_steps
            · refine' slice_up (vs := us1) (n := k1) ?F ?N ?m ?z ?_
              case F => k_asm
              case N => k_asm
              case m => exact List.mem_append_right _ (.tail _ (List.mem_append_right _ hm1'))
              case z => (rw [strsAre_length hs1]; omega)
              intro h' D' aD F N
              k_steps
              refine EnumEnd.leave ?_
              with_reducible rename News _ _ _ _ => N9
              replace N9 := news_drop N9
              have q4 : m1 (Str.ofString "isabs") = some (.bool true) := (hm1 _ (by decide) (by decide)).trans (by walk_at "look")
              dsimp only
              k_steps
              have hcd : c ≠ d := by simpa using (by assumption : (c != d) = true)
              have htk := strsAre_take hs1 i
              rw [← lcp_stop hJ hc hd1 hcd] at htk
              refine' joinL (vs := us1.take i) (n := 0) (ys := lcp S1 S2) ?N ?m ?ji ?js ?jb ?jl ?_
              case N => k_asm
              case m => k_mem
              case ji => exact htk
              case js => decide
              case jb => intro y hy; exact hall1.2 y (lcp_left.subset hy)
              case jl => exact Nat.le_trans lcp_left.length_le (by omega)
              intro t' k' hl'
              k_steps
              exact hpost _ _ _ _ (by rw [hlcp]) (Fr.keep (by assumption))
            · have hcd : c = d := by simpa using (by assumption : (c != d) = false)
              subst hcd
              exact EnumEnd.go (by k_asm) (by assumption) (fun y n1 n2 => by rw [if_neg n2, if_neg n1]; exact hm1 y n1 n2) (lcp_step hJ hc hd1)
          case done =>
            intro m1 h tk hJ hm1 F N
            have q1 : m1 (Str.ofString "s2") = some (.ref a2) := (hm1 _ (by decide) (by decide)).trans (by walk_at "look")
            have q2 : m1 (Str.ofString "s1") = some (.ref a1) := (hm1 _ (by decide) (by decide)).trans (by walk_at "look")
            have q3 : m1 (Str.ofString "common") = some (.ref a1) := (hm1 _ (by decide) (by decide)).trans (by walk_at "look")
            have q4 : m1 (Str.ofString "isabs") = some (.bool true) := (hm1 _ (by decide) (by decide)).trans (by walk_at "look")
            dsimp only
            k_steps
            have hw : lcp S1 S2 = S1 := lcp_whole hJ
            refine' joinL (vs := us1) (n := k1) (ys := S1) ?N ?m ?ji ?js ?jb ?jl ?_
            case N => k_asm
            case m => exact .tail _ (List.mem_append_right _ hm1')
            case ji => exact hs1
            case js => decide
            case jb => exact hall1.2
            case jl => exact Nat.le_trans hall1.1 (by omega)
            intro t' k' hl'
            k_steps
            exact hpost _ _ _ _ (by rw [hlcp, hw]) (Fr.keep (by assumption))
end Mine
end
-- F6
section
open PySem PySem.W PySem.Calls PyProof.Rows
set_option Elab.async false
set_option maxRecDepth 100000
set_option maxHeartbeats 4000000
namespace Mine
section
variable {w : World} {dp un : Nat} {fr : Option (List Env)} {gd : Option (List Code)} {s : Shared} {Q E : Value → Shared → Prop} {mg mb m : Str → Option Value} {h₀ : Heap} {L : Addr} {news : List (Addr × Obj)}
theorem normpath_K {p : Str} {t : Tok} (F : Fr h₀ L s.heap m) (N : News h₀ L s.heap news) (X : (Mine.hd.heap_39 w.params).In h₀) (T : TR mg mb h₀) (hd : dp < 890) (hp : p.length ≤ 500) (h0 : (p.length : Int) ≠ 0) (h1 : (Txt.slice p none (some 1) != Str.ofString "/") = false) (h2 : (Txt.slice p (some 1) (some 2) != Str.ofString "/") = true)
    (h : ∀ r h' t1 tk', r = Str.ofString "/" ++ Txt.join (Str.ofString "/") ((Txt.split (Txt.slice p (some 1) none) (Str.ofString "/")).foldl normStep []) → Fr h₀ L h' m → News h₀ L h' news → Q (.str r t1) { s with heap := h', toks := tk' }) :
    wpAny (model Challenge.rw_pd0085_01.row.prog w) { handled := none, depth := dp, frames := fr, guards := gd, units := un } (call (.ref 129) [.str p t]) Q E s :=
  normpath_spec (X.keeps F.keep) (T.keeps F.keep) hd hp h0 h1 h2 fun r h' t' tk' e k => h r h' t' tk' e (fr_stays F k) (news_stays N k)
theorem commonpath_K {C : Addr} {cs : List Value} {n : Nat} {ps : List Str} (F : Fr h₀ L s.heap m) (N : News h₀ L s.heap news) (X : (Mine.hd.heap_39 w.params).In h₀) (T : TR mg mb h₀) (hd : dp < 890) (hun : un < 9000)
    (hC : (C, listOf cs.toArray n) ∈ news) (hcs : StrsAre cs ps) (hl1 : 1 ≤ ps.length) (hl2 : ps.length ≤ 4)
    (hb : ∀ p ∈ ps, p.length ≤ 500) (hs : ∀ p ∈ ps, Txt.startswith p (Str.ofString "/") = true)
    (h : ∀ r h' t1 tk', r = Str.ofString "/" ++ Txt.join (Str.ofString "/") (lcpOf ps) → Fr h₀ L h' m → News h₀ L h' news → Q (.str r t1) { s with heap := h', toks := tk' }) :
    wpAny (model Challenge.rw_pd0085_01.row.prog w) { handled := none, depth := dp, frames := fr, guards := gd, units := un } (call (.ref 134) [.ref C]) Q E s :=
  commonpath_spec (X.keeps F.keep) (T.keeps F.keep) hd hun (N _ hC).1 hcs hl1 hl2 hb hs fun r h' t' tk' e k => h r h' t' tk' e (fr_stays F k) (news_stays N k)
end
end Mine
end
-- R25
section
open PySem PySem.W PySem.Calls PyProof.Rows
set_option Elab.async false
set_option maxRecDepth 100000
set_option maxHeartbeats 1000000
namespace Mine
section
variable {prog : Program} {w : World} {A : Around} {E : Value → Shared → Prop} {s : Shared} {h₀ : Heap} {L D : Addr} {m : Str → Option Value} {news news' : List (Addr × Obj)} {vs : List Value} {ns : List Int} {n : Nat}
theorem allNe_lt {d : Nat} {l : List (Addr × Obj)} (h : ∀ q ∈ l, q.1 < d) : AllNe d l := allNe_of fun p hp => Nat.ne_of_lt (h p hp)
theorem lstT {Q : Value → Shared → Prop} (F : Fr h₀ L s.heap m) (N : News h₀ L s.heap news) (hm : (D, tupOf vs.toArray) ∈ news) (hz : vs.length ≤ 100000)
    (h : ∀ h' D' c, AllNe D' news → Fr h₀ L h' m → News h₀ L h' ((D', listOf vs.toArray c) :: news) → Q (.ref D') { s with heap := h' }) : wpAny (model prog w) A (call (.type "list") [.ref D]) Q E s :=
  kup_listOfT F N hm (zs := vs) (by simp) (fun D' c h' F' N' l1 => h h' D' c (allNe_lt l1) F' N') (by rw [sizeLine_eq]; simp; omega)
theorem ints_take : ∀ {vs : List Value} {ys : List Int} (_ : IntsAre vs ys) (k : Nat), IntsAre (vs.take k) (ys.take k)
  | _, _, .nil, k => by simp only [List.take_nil]; exact .nil
  | _, _, .cons y t r, 0 => by simp only [List.take_zero]; exact .nil
  | _, _, .cons y t r, k + 1 => by simp only [List.take_succ_cons]; exact .cons y t (ints_take r k)
/-- the first items of a list of ints -/
theorem slice_upI {value slice : Expr} {k : Int} {u : Tok} {ops : List Value} {Q : Value → Shared → Prop} (F : Fr h₀ L s.heap m) (N : News h₀ L s.heap news) (hm : (D, listOf vs.toArray n) ∈ news) (hi : IntsAre vs ns) (hz : ns.length ≤ 100000) (h0 : 0 ≤ k)
    (h : ∀ h' D' us, AllNe D' news → Fr h₀ L h' m → News h₀ L h' ((D', listOf (List.toArray us) 0) :: news) → IntsAre us (ns.take k.toNat) → Q (.ref D') { s with heap := h' })
    (hs : subscripted slice false (.ref D) (.ref s.heap.objs.size) = operate ops (getItem (.ref D) (.ref s.heap.objs.size)) := by with_unfolding_all rfl)
    (ht : ∀ r, letTemporaryGo value (.ref D) r = pure () := by intro _; with_unfolding_all rfl) :
    wpAny (model prog w) A (subscriptTail value slice (.ref D) (.ref s.heap.objs.size)) Q E { s with heap := s.heap.push { cls := .type "slice", data := .fields #[.none, .int k u, .none] } } := by
  obtain ⟨j, rfl⟩ : ∃ j : Nat, k = (j : Int) := ⟨k.toNat, by omega⟩
  refine slice_up F N hm (by have := hi.length; omega) (fun h' D' l1 F' N' => h h' D' _ l1 F' N' (by rw [Int.toNat_natCast]; exact ints_take hi j)) hs ht
theorem slice_upS {value slice : Expr} {k : Int} {u : Tok} {ops : List Value} {ys : List Str} {Q : Value → Shared → Prop} (F : Fr h₀ L s.heap m) (N : News h₀ L s.heap news) (hm : (D, listOf vs.toArray n) ∈ news) (hi : StrsAre vs ys) (hz : ys.length ≤ 100000) (h0 : 0 ≤ k)
    (h : ∀ h' D' us, AllNe D' news → Fr h₀ L h' m → News h₀ L h' ((D', listOf (List.toArray us) 0) :: news) → StrsAre us (ys.take k.toNat) → Q (.ref D') { s with heap := h' })
    (hs : subscripted slice false (.ref D) (.ref s.heap.objs.size) = operate ops (getItem (.ref D) (.ref s.heap.objs.size)) := by with_unfolding_all rfl)
    (ht : ∀ r, letTemporaryGo value (.ref D) r = pure () := by intro _; with_unfolding_all rfl) :
    wpAny (model prog w) A (subscriptTail value slice (.ref D) (.ref s.heap.objs.size)) Q E { s with heap := s.heap.push { cls := .type "slice", data := .fields #[.none, .int k u, .none] } } := by
  obtain ⟨j, rfl⟩ : ∃ j : Nat, k = (j : Int) := ⟨k.toNat, by omega⟩
  refine slice_up F N hm (by have := strsAre_length hi; omega) (fun h' D' l1 F' N' => h h' D' _ l1 F' N' (by rw [Int.toNat_natCast]; exact strsAre_take hi j)) hs ht
end
end Mine
end
-- R26
section
open PySem PySem.W PySem.Spec PySem.Calls PyProof.Rows PyProof.Rows.LCg
set_option Elab.async false
set_option maxRecDepth 100000
set_option maxHeartbeats 1000000
namespace Mine
section
variable {prog : Program} {w : World} {A : Around} {E : Value → Shared → Prop} {s : Shared} {h₀ : Heap} {L : Addr} {m : Str → Option Value}
/-- a range by ones as the source of a comprehension -/
theorem src_rng {r : Addr} {a b : Int} {n : Nat} {t u v : Tok} {news : List (Addr × Obj)} {R : Nat → (Nat → Value → Prop) → (List (Addr × Obj) → Prop) → List (Addr × Obj) → Shared → Prop} (hh : A.handled = none)
    (hr : IsRange s.heap r a b 1 t u v) (hn : Builtin.Range.rangeSize a b 1 = (n : Int)) (hsm : Builtin.Range.small a b 1 = true) (F : Fr h₀ L s.heap m) (N : News h₀ L s.heap news) (hz : n ≤ 100000)
    (h : ∀ g, R n (fun i v => ∃ t, v = .int (a + i * 1) t) (fun _ => True) news { s with heap := g }) :
    wpAny (model prog w) A (pyIter (.ref r)) (Source prog w A h₀ L m R) E s := by
  have up : ∀ o' b o, s.heap.get? b = some o → (s.heap.push o').get? b = some o := fun o' b o e => Heap.get?_push_of_some _ e
  refine wpAny_pyIter_range hr hsm ?_
  have W := Walks.range (prog := prog) (w := w) hh s.heap.objs.size a 1 n
  have hst : IsRangeIter (s.heap.push { cls := .type "range_iterator", data := .fields #[rawInt a, rawInt (Builtin.Range.rangeSize a b 1), rawInt 1] }) s.heap.objs.size (a + ((0 : Nat) : Int) * 1) ((n : Int) - ((0 : Nat) : Int)) 1 := by
    have e1 : a + ((0 : Nat) : Int) * 1 = a := by omega
    have e2 : (n : Int) - ((0 : Nat) : Int) = n := by omega
    rw [e1, e2, hn]
    exact Heap.get?_push_size _ rfl
  refine ⟨s.heap.objs.size, _, _, _, _, fun _ => True, news, rfl, W, by rw [sizeLine_eq]; omega, fun i h st => ⟨_, st⟩, ?_, hst,
    fun b hb => ?_, F.push _, fun p hp => ⟨up _ _ _ (N p hp).1, (N p hp).2⟩, Nat.ne_of_lt F.ns.lt, next_is_new F, fun p hp => Nat.ne_of_lt (Heap.lt_size (N p hp).1), trivial, h _⟩
  · intro i h h' o nw st e e' _ _ _
    have q : h.get? s.heap.objs.size = some _ := st
    rw [e] at q
    cases q
    exact e'
  · show b < (s.heap.push _).objs.size
    rw [Heap.size_push, List.mem_singleton.mp hb]; exact Nat.lt_succ_self _
end
end Mine
end
-- R27
section
open PySem PySem.W PySem.Calls PyProof.Rows
set_option Elab.async false
set_option maxRecDepth 100000
set_option maxHeartbeats 1000000
namespace Mine
/-- a def that only reads some objects of the ledger: its body is walked over a heap that hides them below -/
theorem call_hid {w : World} {A : Around} {s : Shared} {Q E : Value → Shared → Prop} {mg mb m : Str → Option Value} {h₀ : Heap} {L : Addr} {news small : List (Addr × Obj)}
    {name qual : Str} {params : Arguments} {body : List Stmt} {scope : Scope} {dV kV doc pm cdv ct oc : Value} {an od : Option Addr} {osl : Array (Option Value)} {f : Addr} {pos : List Value} {binds : List (Str × Value)}
    (F : Fr h₀ L s.heap m) (N : News h₀ L s.heap news) (hsub : ∀ p ∈ small, p ∈ news) (X : (Mine.hd.heap_39 w.params).In h₀) (T : TR mg mb h₀)
    (ho : (Mine.hd.heap_39 w.params).lookup f = some ⟨oc, od, .func (fnOf name qual params body scope dV kV doc pm an cdv ct), osl⟩) (hcd : codeIn (Mine.hd.heap_39 w.params) cdv qual = true) (hroom : A.depth < recursionLimit)
    (hbind : BindsTo s (fnOf name qual params body scope dV kV doc pm an cdv ct) ⟨pos, []⟩ binds) (hloc : ∀ y ∈ binds, scope.names.lookup y.1 = some .local)
    (h : ∀ g L' h₁, Fr g L' h₁ (fun y => binds.reverse.lookup y) → News g L' h₁ small → (Mine.hd.heap_39 w.params).In g → TR mg mb g →
      (∀ h' m', Fr g L' h' m' → News g L' h' small → Fr h₀ L h' m ∧ News h₀ L h' news) →
      wpAny (model Challenge.rw_pd0085_01.row.prog w) (A.deeper (envOf qual scope L' f cdv)) (execs body (envOf qual scope L' f cdv))
        (fun fl s' => Q (match fl with | .ret v => v | _ => .none) s') (fun _ _ => False)
        { s with heap := h₁, toks := s.toks + binds.length })
    (hcell : ∀ x ∈ scope.names, x.2 ≠ .cell) (hco : scope.isCoroutine = false) (hgen : scope.isGenerator = false) (hk : scope.kind = .function) :
    wpAny (model Challenge.rw_pd0085_01.row.prog w) A (call (.ref f) pos) Q E s := by
  have N₄ : News h₀ L s.heap small := fun p hp => N p (hsub p hp)
  have nm : ∀ b o, h₀.get? b = some o → b ∉ small.map (fun p : Addr × Obj => p.1) := fun b o e q => by
    obtain ⟨p, hp, rfl⟩ := List.mem_map.mp q
    rw [(N₄ p hp).2.2] at e; cases e
  have st : h₀.StaysIn (hideAll s.heap (small.map (fun p : Addr × Obj => p.1))) := fun b o e => hideAll_get _ (F.keep b o e) (nm b o e)
  obtain ⟨oL, es, ep, hL, hLd, hLk, hLf⟩ := F.ns
  have nL : L ∉ small.map (fun p : Addr × Obj => p.1) := fun q => by
    obtain ⟨p, hp, e⟩ := List.mem_map.mp q
    exact (N₄ p hp).2.1 e
  have hLg := hideAll_get (small.map (fun p : Addr × Obj => p.1)) hL nL
  refine wpAny_call ?_
  refine codeAny_call_def (fd := fnOf name qual params body scope dV kV doc pm an cdv ct) (body := body) (binds := binds) hroom ((X.keeps F.keep) _ _ ho) rfl (T.keeps F.keep).nolimit (codeRec_of (X.keeps F.keep) hcd) rfl hbind hcell hloc (fun h₁ hns hk₁ => ?_) hco hgen hk
  refine wpAny_mono (h (hideAll s.heap (small.map (fun p : Addr × Obj => p.1))) s.heap.objs.size h₁ ⟨hns, fun b o e => hk₁ b o (of_hideAll _ e), Nat.le_of_eq (hideAll_size _ _)⟩
    (fun p hp => ⟨hk₁ _ _ (N₄ p hp).1, Nat.ne_of_lt (Heap.lt_size (N₄ p hp).1), hideAll_none _ (List.mem_map_of_mem hp)⟩) (X.keeps st) (T.keeps st) ?_) (fun fl s' hl => hl) fun _ _ y => y.elim
  intro h' m' F' N'
  refine ⟨⟨⟨oL, es, ep, F'.keep L oL hLg, hLd, hLk, hLf⟩, fun b o e => F'.keep b o (st b o e), F.above⟩, fun p hp => ⟨?_, (N p hp).2⟩⟩
  by_cases q : p.1 ∈ small.map (fun p : Addr × Obj => p.1)
  · obtain ⟨p', hp', e⟩ := List.mem_map.mp q
    have h1 := (N p hp).1
    have h2 := (N₄ p' hp').1
    have h3 := (N' p' hp').1
    have e1 : p'.1 = p.1 := e
    rw [e1] at h2 h3
    rw [h1] at h2
    rw [h3, ← Option.some.inj h2]
  · exact F'.keep _ _ (hideAll_get _ (N p hp).1 q)
end Mine
end
-- R28
section
open PySem PySem.W PySem.Calls PyProof.Rows
set_option Elab.async false
set_option maxRecDepth 100000
set_option maxHeartbeats 1000000
namespace Mine
/-- the walk stops here -/
def Stop (p : Prop) : Prop := p
theorem stop {p : Prop} (h : Stop p) : p := h
section
variable {prog : Program} {w : World} {A : Around} {E : Value → Shared → Prop} {s : Shared} {h₀ : Heap} {L D : Addr} {m : Str → Option Value} {news news' : List (Addr × Obj)} {vs : List Value} {ns : List Int} {n : Nat}
theorem lenTI {Q : Value → Shared → Prop} (N : News h₀ L s.heap news) (hm : (D, tupOf vs.toArray) ∈ news) (hi : IntsAre vs ns) (hz : ns.length ≤ 100000)
    (h : ∀ t k, Q (.int ns.length t) { s with toks := k }) : wpAny (model prog w) A (call (.builtin "len") [.ref D]) Q E s := by
  have hl := hi.length
  refine len_tuple (N.isTup hm) (by simp; omega) ?_
  have e : vs.toArray.size = ns.length := by simp [hl]
  rw [e]; exact h _ _
theorem intsAre_at : ∀ {vs : List Value} {ys : List Int} (_ : IntsAre vs ys) (i : Nat) (_ : i < ys.length), ∃ t, vs[i]? = some (.int (ys.getD i 0) t)
  | _, _, .nil, i, h => by simp at h
  | _, _, .cons y t r, 0, _ => ⟨t, rfl⟩
  | _, _, .cons y t r, i + 1, h => by
    obtain ⟨t', e⟩ := intsAre_at r i (by simpa using h)
    exact ⟨t', by simpa using e⟩
theorem itemTI {value slice : Expr} {k : Int} {u : Tok} {Q : Value → Shared → Prop} (N : News h₀ L s.heap news) (hm : (D, tupOf vs.toArray) ∈ news) (hi : IntsAre vs ns) (h0 : 0 ≤ k) (h1 : k < ns.length) (hz : ns.length ≤ 100000)
    (h : ∀ t, Q (.int (ns.getD k.toNat 0) t) s)
    (hs : subscripted slice false (.ref D) (.int k u) = operate [.ref D, .int k u] (getItem (.ref D) (.int k u)) := by with_unfolding_all rfl) :
    wpAny (model prog w) A (subscriptTail value slice (.ref D) (.int k u)) Q E s := by
  obtain ⟨t, ht⟩ := intsAre_at hi k.toNat (by omega)
  have hl := hi.length
  refine item_tupleT (l := vs) (j := k.toNat) (N.isTup hm) (by omega) (by omega) ?_ ht (h t) hs
  unfold seqIndex?
  rw [hl]
  have e1 : ¬ k < 0 := by omega
  simp only [e1, if_false]
  split
  · rfl
  · rename_i q; exfalso; apply q; simp; omega
end
end Mine
end
-- F9
section
open PySem PySem.W PySem.Calls PyProof.Rows PyProof.Rows.LCg PyProof.Rows.LCt
set_option Elab.async false
set_option maxRecDepth 100000
set_option maxHeartbeats 4000000

namespace Mine
structure IndIn (tc x : Addr) (kk : Nat) (b z : Int) (m : Str → Option Value) : Prop where
  co : m (Str.ofString "count") = some (.ref tc)
  se : m (Str.ofString "self") = some (.ref x)
  ts : ∃ t, m (Str.ofString "tabsize") = some (.int kk t)
  tr : ∃ t, m (Str.ofString "trailing") = some (.int b t)
  il : ∃ t, m (Str.ofString "il") = some (.int z t)
theorem IndIn.of {tc x : Addr} {kk : Nat} {b z : Int} {m : Str → Option Value} {t1 t2 t3 : Tok} (h1 : m (Str.ofString "count") = some (.ref tc)) (h2 : m (Str.ofString "self") = some (.ref x)) (h3 : m (Str.ofString "tabsize") = some (.int kk t1))
    (h4 : m (Str.ofString "trailing") = some (.int b t2)) (h5 : m (Str.ofString "il") = some (.int z t3)) : IndIn tc x kk b z m := ⟨h1, h2, ⟨_, h3⟩, ⟨_, h4⟩, ⟨_, h5⟩⟩
def IndEnd (h₀ : Heap) (L I : Addr) (oI : Obj) (held : List (Addr × Obj)) (tc x : Addr) (kk : Nat) (b z : Int) (s : Shared) (f : Flow) (s' : Shared) : Prop :=
  f = .next ∧ ∃ h' tk' m', s' = { s with heap := h', toks := tk' } ∧ Fr h₀ L h' m' ∧ News h₀ L h' ((I, oI) :: (held ++ [])) ∧ IndIn tc x kk b z m'
theorem IndEnd.mk' {h₀ : Heap} {L I tc x : Addr} {oI : Obj} {held news : List (Addr × Obj)} {kk : Nat} {b z z' : Int} {s : Shared} {h' : Heap} {tk' : Nat} {m' : Str → Option Value} (F : Fr h₀ L h' m') (N : News h₀ L h' news)
    (hsub : ∀ p ∈ (I, oI) :: (held ++ []), p ∈ news) (hm : IndIn tc x kk b z' m') (hz : z' = z) : IndEnd h₀ L I oI held tc x kk b z s .next { s with heap := h', toks := tk' } := ⟨rfl, h', tk', m', rfl, F, fun p hp => N p (hsub p hp), hz ▸ hm⟩
def indPart (st : WsSt) (kk i : Nat) : Int := osum (List.range i) (fun j => ((kk + j) / kk : Nat) * st.c.getD (kk + j) 0)
theorem indPart_succ (st : WsSt) (kk i : Nat) : indPart st kk i + ((kk + i) / kk : Nat) * st.c.getD (kk + i) 0 = indPart st kk (i + 1) := by
  unfold indPart
  rw [List.range_succ, osum_append, osum_cons, osum_nil, Int.add_zero]
theorem ind_rule {prog : Program} {w : World} {A : Around} {E : Value → Shared → Prop} {s : Shared} {env : Env} {h₀ : Heap} {y : Str} {body : List Stmt} {Q : Flow → Shared → Prop} {r tc x : Addr} {kk : Nat} {b : Int} {st : WsSt} {n : Nat} {bn : Int} {t u v : Tok} {m₀ : Str → Option Value} {held news : List (Addr × Obj)}
    (hh : A.handled = none) (hr : IsRange s.heap r kk bn 1 t u v) (hn : Builtin.Range.rangeSize kk bn 1 = (n : Int)) (hsm : Builtin.Range.small kk bn 1 = true)
    (F : Fr h₀ env.locals s.heap m₀) (N : News h₀ env.locals s.heap news) (hsub : ∀ p ∈ held, p ∈ news) (hj : IndIn tc x kk b 0 m₀)
    (turn : ∀ (i : Nat) u I oI m₁ h tk, i < n → IndIn tc x kk b (indPart st kk i) m₁ → Fr h₀ env.locals h (fun z => if z = y then some (.int ((kk : Int) + i) u) else m₁ z) → News h₀ env.locals h ((I, oI) :: held) →
      wpAny (model prog w) A (execs body env) (IndEnd h₀ env.locals I oI held tc x kk b (indPart st kk (i + 1)) s) E { s with heap := h, toks := tk })
    (done : ∀ m₁ h tk, IndIn tc x kk b (indPart st kk n) m₁ → Fr h₀ env.locals h m₁ → News h₀ env.locals h held → Q .next { s with heap := h, toks := tk }) :
    wpAny (model prog w) A (pyIter (.ref r)) (fun it s₂ => LoopAtV prog w A h₀ env y body Q E it s₂) E s := by
  refine iter_rng (n := n) (held := held) (news₀ := []) (fun i m nx => nx = [] ∧ IndIn tc x kk b (indPart st kk i) m) hh hr hn hsm F N (by rw [List.append_nil]; exact hsub) ⟨rfl, hj⟩ ?_ ?_
  · rintro i u' I oI m₁ nx h₂ tk hi ⟨rfl, hm⟩ hI1 hI2 F N
    rw [List.append_nil] at N
    refine wpAny_mono (turn i u' I oI m₁ h₂ tk hi hm F N) (fun f s' hs => ?_) (fun _ _ e => e)
    obtain ⟨rfl, h', tk', m', rfl, F', N', hm'⟩ := hs
    exact ⟨h', tk', m', [], rfl, F', N', trivial, rfl, hm'⟩
  · rintro m₁ nx h₂ tk ⟨rfl, hm⟩ F N
    rw [List.append_nil] at N
    exact done m₁ h₂ tk hm F N
local macro_rules | `(tactic| walk_at $s:str) => `(tactic| k_extra $s)
theorem indent_K {w : World} {E : Value → Shared → Prop} {s : Shared} {h₀ : Heap} {L : Addr} {m : Str → Option Value} {news : List (Addr × Obj)} {mg mb : Str → Option Value} {Q : Value → Shared → Prop} {dp un : Nat} {fr : Option (List Env)} {gd : Option (List Code)}
    {x dx tn tc : Addr} {vs : List Value} {u0 u1 u2 u3 u4 u5 u6 u7 u : Tok} {v5 raw : Value} {kn : Nat} {st : WsSt} {k : Int} {kk : Nat}
    (F : Fr h₀ L s.heap m) (N : News h₀ L s.heap news) (X : (Mine.hd.heap_39 w.params).In h₀) (T : TR mg mb h₀) (hd : dp < 890)
    (m1 : (x, instObj 196 dx) ∈ news) (m2 : (dx, wsDict w.params raw st tn u0 u1 u2 u3 u4 u5 u6 v5 kn) ∈ news) (m3 : (tn, tupOf #[.ref tc, .int st.b u7]) ∈ news) (m4 : (tc, tupOf vs.toArray) ∈ news)
    (hvs : IntsAre vs st.c) (hsm : WsSmall st 500) (hk : k = (kk : Int)) (hk1 : 1 ≤ kk) (hk4 : kk ≤ 4)
    (h : ∀ h' t tk', Fr h₀ L h' m → News h₀ L h' news → Q (.int (levelOf st kk) t) { s with heap := h', toks := tk' }) :
    wpAny (model Challenge.rw_pd0085_01.row.prog w) { handled := none, depth := dp, frames := fr, guards := gd, units := un } (call (.ref 165) [.ref x, .int k u]) Q E s := by
  k_with_none
  (k_with "look" => first | assumption | exact if_pos rfl | (refine (if_neg (by decide)).trans ?_; walk_at "look"))
  (k_with "eval Name" => (k_here; k_dflt (refine' nameX_L ?kwF ?kwv ?_ ?kwa ?kwb; (case kwF => k_asm); (case kwa => rfl); (case kwb => rfl); (case kwv => walk_at "look"); k_whole)))
  (k_with "call builtin:len" => (k_here; k_dflt (refine' lenTI ?kwN ?kwm ?kwi ?kwz ?_; (case kwN => k_asm); (case kwm => k_mem); (case kwi => assumption); (case kwz => omega)); intro _ _))
  (k_with "subscriptTail" => (k_here; (with_reducible show wpAny _ _ (subscriptTail _ _ (Value.ref _) (Value.int _ _)) _ _ _); k_dflt (refine' itemTI ?kwN ?kwm ?kwi ?kwa ?kwb ?kwz ?_; (case kwN => k_asm); (case kwm => k_mem); (case kwi => assumption); (case kwa => omega); (case kwb => omega); (case kwz => omega)); intro _))
  (k_with "pyIter ref" => ((with_reducible show wpAny _ _ (pyIter (Value.ref _)) (fun it s₂ => LoopAtV _ _ _ _ _ _ _ _ _ it s₂) _ _); refine stop ?_))
  subst hk
  have hvl := hvs.length
  have ⟨hs1, hs2, hs3, hs4, hs5⟩ := hsm
  have hsub : ∀ p ∈ [(x, instObj 196 dx), (dx, wsDict w.params raw st tn u0 u1 u2 u3 u4 u5 u6 v5 kn), (tn, tupOf #[.ref tc, .int st.b u7]), (tc, tupOf vs.toArray)], p ∈ news := by
    intro p hp
    simp only [List.mem_cons, List.not_mem_nil, or_false] at hp
    rcases hp with e | e | e | e <;> (subst e; assumption)
  clear m1 m2 m3 m4
  revert X T
  w_on
  k_fill
  intro X T
  refine' call_hid (small := [(x, instObj 196 dx), (dx, wsDict w.params raw st tn u0 u1 u2 u3 u4 u5 u6 v5 kn), (tn, tupOf #[.ref tc, .int st.b u7]), (tc, tupOf vs.toArray)]) (binds := [(Str.ofString "self", Value.ref x), (Str.ofString "tabsize", Value.int kk u)]) F N hsub X T ?ho ?hcd ?hr ?hb ?hl ?_ ?hc ?c1 ?c2 ?c3
  case ho => k_is
  case hcd => k_is
  case hr => (show dp < 1000); omega
  case hb => exact BindsTo.of_eq rfl
  case hl => exact locs rfl
  case hc => decide
  case c1 => rfl
  case c2 => rfl
  case c3 => rfl
  · intro g L' h₁ F' N' X' T' back
    clear F N X T hsub
    unfold wsDict at N'
    try dsimp only
    k_steps
    unfold Stop
    rename IsRange _ _ _ _ _ _ _ _ => rgX
    refine' ind_rule (st := st) (b := st.b) (n := st.c.length - kk) (tc := tc) (x := x) (kk := kk) (held := [(x, instObj 196 dx), (dx, _), (tn, tupOf #[.ref tc, .int st.b u7]), (tc, tupOf vs.toArray)]) ?hh rgX ?sz ?sm ?F ?N ?sub ?j ?turn ?done
    case hh => rfl
    case sz => (rw [rangeSize_nat]; omega)
    case sm => exact small_one (by omega) (by omega) (by omega) (by omega)
    case F => k_asm
    case N => k_asm
    case sub => (intro p hp; exact hp)
    case j => exact ⟨rfl, rfl, ⟨_, rfl⟩, ⟨_, rfl⟩, ⟨_, rfl⟩⟩
    case turn =>
      intro i u' I oI m₁ h₂ tk hi hm F N
      obtain ⟨q1, q2, ⟨_, q3⟩, ⟨_, q4⟩, ⟨_, q5⟩⟩ := hm
      have hb : 0 ≤ st.c.getD ((kk : Int) + (i : Int)).toNat 0 ∧ st.c.getD ((kk : Int) + (i : Int)).toNat 0 ≤ 500 := by
        have hlt : ((kk : Int) + (i : Int)).toNat < st.c.length := by omega
        have := hs5 (st.c.getD ((kk : Int) + (i : Int)).toNat 0) (by rw [List.getD_eq_getElem?_getD, List.getElem?_eq_getElem hlt]; exact List.getElem_mem hlt)
        exact this
      k_steps
      refine' IndEnd.mk' ?F ?N ?sub (IndIn.of ?a1 ?a2 ?a3 ?a4 ?a5) ?hz
      case F => k_asm
      case N => k_asm
      case a1 => walk_at "look"
      case a2 => walk_at "look"
      case a3 => walk_at "look"
      case a4 => walk_at "look"
      case a5 => walk_at "look"
      case sub => (intro p hp; rw [List.append_nil] at hp; exact hp)
      case hz =>
        have e1 : ((kk : Int) + (i : Int)).toNat = kk + i := by omega
        have e2 : ((kk : Int) + (i : Int)).fdiv kk = (((kk + i) / kk : Nat) : Int) := by
          rw [Int.fdiv_eq_ediv_of_nonneg _ (by omega)]; norm_cast
        rw [e1, e2]
        exact indPart_succ st kk i
    case done =>
      intro m₁ h₂ tk hm F N
      obtain ⟨q1, q2, ⟨_, q3⟩, ⟨_, q4⟩, ⟨_, q5⟩⟩ := hm
      k_steps
      have bk := back _ _ (by assumption) (by assumption)
      exact h _ _ _ bk.1 bk.2
end Mine
end
-- F8
section
open PySem PySem.W PySem.Calls PyProof.Rows PyProof.Rows.LCg PyProof.Rows.LCt
set_option Elab.async false
set_option maxRecDepth 100000
set_option maxHeartbeats 4000000
namespace Mine
local macro_rules | `(tactic| walk_at $s:str) => `(tactic| k_extra $s)
theorem told_spec {w : World} {dp un : Nat} {fr : Option (List Env)} {gd : Option (List Code)} {s : Shared} {Q E : Value → Shared → Prop} {mg mb : Str → Option Value} {p : Str} {t : Tok}
    (X : (Mine.hd.heap_39 w.params).In s.heap) (T : TR mg mb s.heap) (hd : dp < 880) (hp : p.length ≤ 500)
    (hpost : ∀ D vs k h' tk', s.heap.StaysIn h' → IntsAre vs (toldOf (wsEnd (tsOf p))) → Born s.heap h' D (listOf vs.toArray k) → Q (.ref D) { s with heap := h', toks := tk' }) :
    wpAny (model Challenge.rw_pd0085_01.row.prog w) { handled := none, depth := dp, frames := fr, guards := gd, units := un } (call (.ref 212) [.str p t]) Q E s := by
  k_with_none
  (k_with "eval ListComp" => (k_here; k_dflt (first | refine lc_any (by k_asm) (by rfl) (by decide) (by rfl) (by decide) (by rfl) ?_ | refine lc_test (by k_asm) (by rfl) (by decide) (by rfl) (by decide) (by rfl) ?_)))
  (k_with "call ref" => ((with_reducible show wpAny _ _ (call (Value.ref 196) [Value.str _ _]) _ _ _); (refine' ws_K ?kwF ?kwN ?kwX ?kwT ?kwr ?kwl ?kwc ?_; (case kwF => k_asm); (case kwN => k_asm); (case kwX => k_asm); (case kwT => k_asm); (case kwr => ((try simp only [depth_deeper]); omega)); (case kwl => omega); (case kwc => assumption); intro kw_x' kw_dx' kw_tn' kw_tc' kw_vs' kw_u0 kw_u1 kw_u2 kw_u3 kw_u4 kw_u5 kw_u6 kw_u7 kw_v5 kw_kn kw_h' kw_tk' kw_hvs' kw_hsm' kw_F' kw_N' kw_l1 kw_l2 kw_l3 kw_l4 kw_l5; (have hcl' := WsSmall.cl kw_hsm'); (have hvl' := IntsAre.length kw_hvs'); (try simp only [AllNe, List.cons_append, List.nil_append, and_true] at kw_l2 kw_l3 kw_l4 kw_l5); (try unfold wsDict at kw_N'); (try k_sweep))))
  (k_with "call type:list" => (k_here; k_dflt (refine' lstT ?kwF ?kwN ?kwm ?kwz ?_; (case kwF => k_asm); (case kwN => k_asm); (case kwm => k_mem); (case kwz => omega)); intro kw_h' kw_D' kw_c' kw_l1 kw_F' kw_N'; (try simp only [AllNe, List.cons_append, List.nil_append, and_true] at kw_l1); (try k_sweep)))
  (k_with "binaryOp Mult ref int" => (k_here; k_dflt (refine' mulZ ?kwF ?kwN ?kwm ?kwlo ?kwhi ?_; (case kwF => k_asm); (case kwN => k_asm); (case kwm => k_mem); (case kwlo => omega); (case kwhi => omega)); intro kw_D' kw_us' kw_h' kw_F' kw_N' kw_l1 kw_hI'; (try simp only [AllNe, List.cons_append, List.nil_append, and_true] at kw_l1); (try k_sweep)))
  (k_with "binaryOp Add ref ref" => (k_here; k_dflt (refine' addI ?kwF ?kwN ?kwa ?kwb ?kwi ?kwj ?kwz ?_; (case kwF => k_asm); (case kwN => k_asm); (case kwa => k_mem); (case kwb => k_mem); (case kwi => assumption); (case kwj => assumption); (case kwz => ((try simp only [List.length_replicate, List.length_take, List.length_append, List.length_map, List.length_range, List.length_cons, List.length_nil]); omega))); intro kw_D' kw_us' kw_h' kw_F' kw_N' kw_l1 kw_hI'; (try simp only [AllNe, List.cons_append, List.nil_append, and_true] at kw_l1); (try k_sweep)))
  (k_with "subscriptTail" => (k_here; (with_reducible show wpAny _ _ (subscriptTail _ _ (Value.ref _) (Value.ref _)) _ _ _); k_dflt (refine' slice_upI ?kwF ?kwN ?kwm ?kwi ?kwz ?kwk ?_; (case kwF => k_asm); (case kwN => k_asm); (case kwm => k_mem); (case kwi => assumption); (case kwz => ((try simp only [List.length_append, List.length_replicate]); omega)); (case kwk => omega)); intro kw_h' kw_D' kw_us' kw_l1 kw_F' kw_N' kw_hI'; (try simp only [AllNe, List.cons_append, List.nil_append, and_true] at kw_l1); (try k_sweep)))
  revert X T
  w_on
  k_fill
  intro X T
  refine' call_cells (binds := [(Str.ofString "path", Value.str p t)]) X T ?ho ?hcd ?hr ?hb ?hl ?hc ?_ ?c1 ?c2 ?c3
  case ho => k_is
  case hcd => k_is
  case hr => (show dp < 1000); omega
  case hb => exact BindsTo.of_eq rfl
  case hl => rfl
  case hc => decide +kernel
  case c1 => rfl
  case c2 => rfl
  case c3 => rfl
  · intro L h₁ tk cells hL F N Y
    k_cells Y
    try dsimp only
    k_steps
    refine' src_str ?hh ?F ?N ?z ?_
    case hh => rfl
    case F => k_asm
    case N => k_asm
    case z => omega
    intro g
    refine' vals_rest (R := fun i v => ∃ t, v = Value.str (if (signs p).getD i (Str.ofString "") == Str.ofString "/" then Str.ofString "\t" else Str.ofString " ") t) ?hS ?turn ?fin
    case hS => trivial
    case turn =>
      intro i v ys I oI C oC D m₂ h tk E' hi hP hN hv F N off ne
      obtain ⟨c, u, hc, rfl⟩ := hP
      have hs : (signs p).getD i (Str.ofString "") = ⟨#[c]⟩ := by rw [List.getD_eq_getElem?_getD, signs_get hc]; rfl
      rw [hs]
      k_steps
      all_goals exact ValEnd.mk' (by assumption) (by assumption) (fun p hp => hp) ⟨_, by rw [(by assumption : ((⟨#[c]⟩ : Str) == Str.ofString "/") = _)]; rfl⟩
    case fin =>
      intro vs hvl hvs
      have hst : StrsAre vs (layOf p) := strs_of hvl hvs
      intro D h tk F N off
      simp only [Off1, and_true] at off
      k_steps
      have hlay1 : ∀ y ∈ layOf p, y = Str.ofString "\t" ∨ y = Str.ofString " " := by
        intro y hy
        obtain ⟨i, _, rfl⟩ := List.mem_map.mp hy
        split
        · exact .inl rfl
        · exact .inr rfl
      have hlay2 : (layOf p).length = p.length := by unfold layOf; simp
      refine' joinL (vs := vs) (n := _) (ys := layOf p) ?N ?m ?ji ?js ?jb ?jl ?_
      case N => k_asm
      case m => k_mem
      case ji => exact hst
      case js => decide
      case jb => (intro y hy; rcases hlay1 y hy with e | e <;> rw [e] <;> decide)
      case jl => omega
      have hll := lay_len p
      have hok := lay_ok p
      have hts := lay_ts p
      generalize Txt.join (Str.ofString "") (layOf p) = raw at hll hok hts
      intro t' k' hl'
      k_steps
      rename IsRange _ _ _ _ _ _ _ _ => rgX
      refine' src_rng (n := 4) ?hh rgX ?sz ?sm ?F ?N ?z ?_
      case hh => rfl
      case sz => rfl
      case sm => rfl
      case F => k_asm
      case N => k_asm
      case z => omega
      intro g
      refine' vals_rest (R := fun i v => ∃ t, v = Value.int (levelOf (wsEnd (rawTs raw)) (i + 1)) t) ?hS2 ?turn2 ?fin2
      case hS2 => trivial
      case turn2 =>
        intro i v ys I oI C oC D m₂ h tk E' hi hP hN hv F N off ne
        obtain ⟨u, rfl⟩ := hP
        k_steps
        refine' indent_K (kk := i + 1) ?F ?N ?X ?T ?d ?m1 ?m2 ?m3 ?m4 ?hvs ?hsm ?hk ?hk1 ?hk4 ?_
        case F => k_asm
        case N => k_asm
        case X => k_asm
        case T => k_asm
        case d => ((try simp only [depth_deeper]); omega)
        case hsm => assumption
        case m1 => k_mem
        case m2 => (unfold wsDict; k_mem)
        case m3 => k_mem
        case m4 => k_mem
        case hvs => assumption
        case hk => omega
        case hk1 => omega
        case hk4 => omega
        intro h' t' tk' F' N'
        exact ValEnd.mk' F' N' (fun p hp => hp) ⟨_, rfl⟩
      case fin2 =>
        intro vs2 hvl2 hvs2
        have hii := ints_of hvl2 hvs2
        intro D2 h tk F N off
        simp only [Off1, and_true] at off
        k_steps
        rename News _ _ _ _ => N9
        rename Fr _ _ _ _ => F9
        rename IntsAre _ _ => I9
        exact hpost _ _ _ _ _ F9.keep (hts ▸ I9) ⟨(N9 _ (.head _)).1, (N9 _ (.head _)).2.2⟩
section
variable {w : World} {E : Value → Shared → Prop} {s : Shared} {h₀ : Heap} {L : Addr} {m : Str → Option Value} {news : List (Addr × Obj)} {mg mb : Str → Option Value} {Q : Value → Shared → Prop} {dp un : Nat} {fr : Option (List Env)} {gd : Option (List Code)}
theorem told_K {p : Str} {t : Tok} (F : Fr h₀ L s.heap m) (N : News h₀ L s.heap news) (X : (Mine.hd.heap_39 w.params).In h₀) (T : TR mg mb h₀) (hd : dp < 880) (hp : p.length ≤ 500)
    (h : ∀ D vs k h' tk', IntsAre vs (toldOf (wsEnd (tsOf p))) → AllNe D news → Fr h₀ L h' m → News h₀ L h' ((D, listOf vs.toArray k) :: news) → Q (.ref D) { s with heap := h', toks := tk' }) :
    wpAny (model Challenge.rw_pd0085_01.row.prog w) { handled := none, depth := dp, frames := fr, guards := gd, units := un } (call (.ref 212) [.str p t]) Q E s :=
  told_spec (X.keeps F.keep) (T.keeps F.keep) hd hp fun D vs k h' tk' hk hvs b => h D vs k h' tk' hvs (born_ne N b) (fr_stays F hk) (born_news F (news_stays N hk) b)
end
end Mine
end
-- P5A
section
open PySem PySem.W PySem.Calls PyProof.Rows
set_option Elab.async false
set_option maxRecDepth 100000
set_option maxHeartbeats 1000000
namespace Mine
theorem nil_is : Str.ofString "" = (⟨#[]⟩ : Str) := by decide +kernel
theorem dot_is : Str.ofString "." = (⟨#[46]⟩ : Str) := by decide +kernel
theorem dd_is : Str.ofString ".." = (⟨#[46, 46]⟩ : Str) := by decide +kernel
/-- a text by its list of numbers -/
def mkS (l : List Nat) : Str := ⟨l.toArray⟩
theorem mkS_cps (l : List Nat) : (mkS l).cps.toList = l := rfl
theorem mkS_len (l : List Nat) : (mkS l).length = l.length := by
  have : (mkS l).length = (mkS l).cps.toList.length := by simp; rfl
  rw [this]; rfl
theorem mkS_of (x : Str) : mkS x.cps.toList = x := by cases x; rfl
theorem mkS_inj {a b : List Nat} (h : mkS a = mkS b) : a = b := by
  have := congrArg (fun x : Str => x.cps.toList) h
  exact this
theorem mkS_beq (a b : List Nat) : (mkS a == mkS b) = (a == b) := by
  rw [Bool.eq_iff_iff, beq_iff_eq, beq_iff_eq]
  exact ⟨mkS_inj, congrArg mkS⟩
theorem slash_mk : Str.ofString "/" = mkS [47] := slash_is
theorem nil_mk : Str.ofString "" = mkS [] := nil_is
theorem dot_mk : Str.ofString "." = mkS [46] := dot_is
theorem dd_mk : Str.ofString ".." = mkS [46, 46] := dd_is
theorem mkS_app (a b : List Nat) : mkS a ++ mkS b = mkS (a ++ b) := by
  rw [← mkS_of (mkS a ++ mkS b), cps_app]; rfl
theorem start_mk (l : List Nat) : Txt.startswith (mkS l) (Str.ofString "/") = (l.head? == some 47) := by
  unfold Txt.startswith
  rw [StrLaws.subAt_eq, slash_mk, mkS_len, mkS_len, mkS_cps, mkS_cps]
  cases l with
  | nil => rfl
  | cons a r =>
    simp only [List.drop_zero, List.length_cons, List.length_nil, List.head?_cons, List.take_succ_cons, List.take_zero]
    have h1 : decide (0 + (0 + 1) ≤ r.length + 1) = true := decide_eq_true (by omega)
    rw [h1, Bool.true_and, Bool.eq_iff_iff, beq_iff_eq, beq_iff_eq]
    simp
theorem end_mk (l : List Nat) : Txt.endswith (mkS l) (Str.ofString "/") = (l.getLast? == some 47) := by
  rcases List.eq_nil_or_concat l with e | ⟨z, d, e⟩
  · subst e; rw [slash_is]; rfl
  · rw [List.concat_eq_append] at e
    subst e
    unfold Txt.endswith
    rw [StrLaws.subAt_eq, slash_mk, mkS_len, mkS_len, mkS_cps, mkS_cps]
    have h1 : decide (0 + [47].length ≤ (z ++ [d]).length) = true := decide_eq_true (by simp)
    have h2 : (z ++ [d]).length - [47].length = z.length := by simp
    rw [h1, h2, List.drop_left, Bool.true_and, Bool.eq_iff_iff, beq_iff_eq, beq_iff_eq]
    simp
/-- two dots next to each other -/
def ddL : List Nat → Bool
  | [] => false
  | a :: r => (a == 46 && r.head? == some 46) || ddL r
theorem ddL_iff : ∀ l : List Nat, ddL l = true ↔ ∃ i, i + 2 ≤ l.length ∧ (l.drop i).take 2 = [46, 46]
  | [] => by
    simp [ddL]
  | a :: r => by
    unfold ddL
    rw [Bool.or_eq_true, ddL_iff r]
    constructor
    · rintro (h | ⟨i, h1, h2⟩)
      · rw [Bool.and_eq_true, beq_iff_eq, beq_iff_eq] at h
        obtain ⟨e1, e2⟩ := h
        cases r with
        | nil => simp at e2
        | cons b r =>
          simp at e2
          subst e1 e2
          exact ⟨0, by simp, rfl⟩
      · exact ⟨i + 1, by simp only [List.length_cons]; omega, by simpa using h2⟩
    · rintro ⟨i, h1, h2⟩
      cases i with
      | zero =>
        left
        cases r with
        | nil => simp at h1
        | cons b r =>
          simp at h2
          simp [h2.1, h2.2]
      | succ i => exact .inr ⟨i, by simp only [List.length_cons] at h1; omega, by simpa using h2⟩
/-- the parts between slashes -/
def splitL : List Nat → List (List Nat)
  | [] => [[]]
  | c :: r => if c == 47 then [] :: splitL r else match splitL r with
    | [] => [[c]]
    | p :: ps => (c :: p) :: ps
def joinsL : List (List Nat) → List Nat
  | [] => []
  | [p] => p
  | p :: q :: r => p ++ 47 :: joinsL (q :: r)
theorem splitL_ne : ∀ l, splitL l ≠ []
  | [] => by simp [splitL]
  | c :: r => by
    unfold splitL
    split
    · simp
    · split <;> simp
theorem splitL_free : ∀ (p : List Nat), 47 ∉ p → splitL p = [p]
  | [], _ => rfl
  | c :: r, h => by
    have hc : (c == 47) = false := by rw [beq_eq_false_iff_ne]; intro e; exact h (e ▸ .head _)
    unfold splitL
    rw [hc, splitL_free r fun hm => h (.tail _ hm)]
    rfl
theorem splitL_app : ∀ (p r : List Nat), 47 ∉ p → splitL (p ++ 47 :: r) = p :: splitL r
  | [], r, _ => rfl
  | c :: p, r, h => by
    have hc : (c == 47) = false := by rw [beq_eq_false_iff_ne]; intro e; exact h (e ▸ .head _)
    have e : splitL ((c :: p) ++ 47 :: r) = if c == 47 then [] :: splitL (p ++ 47 :: r) else match splitL (p ++ 47 :: r) with
      | [] => [[c]]
      | p :: ps => (c :: p) :: ps := rfl
    rw [e, hc, splitL_app p r fun hm => h (.tail _ hm)]
    rfl
theorem split_joins : ∀ ps : List (List Nat), ps ≠ [] → (∀ p ∈ ps, 47 ∉ p) → splitL (joinsL ps) = ps
  | [], h, _ => absurd rfl h
  | [p], _, h => splitL_free p (h p (.head _))
  | p :: q :: r, _, h => by
    show splitL (p ++ 47 :: joinsL (q :: r)) = _
    rw [splitL_app p _ (h p (.head _)), split_joins (q :: r) (by simp) fun x hx => h x (.tail _ hx)]
theorem joins_mk : ∀ ps : List (List Nat), Str.join (Str.ofString "/") (ps.map mkS) = mkS (joinsL ps)
  | [] => rfl
  | [p] => rfl
  | p :: q :: r => by
    show mkS p ++ Str.ofString "/" ++ Str.join (Str.ofString "/") ((q :: r).map mkS) = _
    rw [joins_mk (q :: r), slash_mk, mkS_app, mkS_app, List.append_assoc]; rfl
theorem split_ne (x : Str) : Txt.split x (Str.ofString "/") ≠ [] := by
  intro e
  by_cases hx : x.length < 1
  · have hx2 : x = mkS [] := by
      rw [← mkS_of x]
      congr 1
      have : x.cps.toList.length = 0 := by
        have : x.length = x.cps.toList.length := by simp; rfl
        omega
      exact List.eq_nil_of_length_eq_zero this
    rw [hx2] at e
    exact absurd e (by decide +kernel)
  · have := StrLaws.join_split x (Str.ofString "/")
    rw [e] at this
    have h2 : (Str.join (Str.ofString "/") []).length = 0 := rfl
    rw [this] at h2
    omega
theorem split_mk (l : List Nat) : Txt.split (mkS l) (Str.ofString "/") = (splitL l).map mkS := by
  have h1 := StrLaws.join_split (mkS l) (Str.ofString "/")
  have h2 : ∀ p ∈ Txt.split (mkS l) (Str.ofString "/"), 47 ∉ p.cps.toList := by
    rw [slash_is]; exact StrLaws.split_free (mkS l) 47
  have h3 := split_ne (mkS l)
  generalize Txt.split (mkS l) (Str.ofString "/") = qs at h1 h2 h3
  have e : qs = (qs.map (fun x => x.cps.toList)).map mkS := by
    rw [List.map_map]
    exact (List.map_id'' (fun x => mkS_of x) qs).symm
  generalize hps : qs.map (fun x => x.cps.toList) = ps at e
  rw [e, joins_mk] at h1
  have h4 := mkS_inj h1
  rw [e, ← h4, split_joins ps]
  · intro q; rw [q] at hps; exact h3 (List.map_eq_nil_iff.mp hps)
  · intro p hp
    rw [← hps] at hp
    obtain ⟨x, hx, rfl⟩ := List.mem_map.mp hp
    exact h2 x hx
def normL (ys : List (List Nat)) (c : List Nat) : List (List Nat) := if c == [] || c == [46] then ys else if c == [46, 46] then ys.dropLast else ys ++ [c]
theorem norm_mk (ys : List (List Nat)) (c : List Nat) : normStep (ys.map mkS) (mkS c) = (normL ys c).map mkS := by
  unfold normStep normL
  rw [nil_mk, dot_mk, dd_mk]
  by_cases h1 : c = []
  · subst h1; simp
  · by_cases h2 : c = [46]
    · subst h2; simp
    · have n1 : ¬ (mkS c = mkS [] ∨ mkS c = mkS [46]) := by
        rintro (e | e)
        · exact h1 (mkS_inj e)
        · exact h2 (mkS_inj e)
      have n2 : (c == [] || c == [46]) = false := by
        rw [beq_eq_false_iff_ne.mpr h1, beq_eq_false_iff_ne.mpr h2]; rfl
      rw [if_neg n1, n2]
      by_cases h3 : c = [46, 46]
      · subst h3; simp
      · rw [if_neg (fun e => h3 (mkS_inj e)), beq_eq_false_iff_ne.mpr h3]; simp
theorem norms_mk : ∀ (cs ys : List (List Nat)), (cs.map mkS).foldl normStep (ys.map mkS) = (cs.foldl normL ys).map mkS
  | [], _ => rfl
  | c :: cs, ys => by
    rw [List.map_cons, List.foldl_cons, List.foldl_cons, norm_mk, norms_mk cs]
def okL (c : List Nat) : Bool := !c.isEmpty && !(c == [46])
theorem ok_mk (c : List Nat) : compOk (mkS c) = okL c := by
  unfold compOk okL
  rw [dot_mk, mkS_len]
  have e1 : (mkS c != mkS [46]) = !(c == [46]) := by
    show (!(mkS c == mkS [46])) = _
    rw [mkS_beq]
  rw [e1]
  congr 1
  cases c with
  | nil => rfl
  | cons a r => rw [decide_eq_true (by simp only [List.length_cons]; omega)]; rfl
theorem comps_mk (l : List Nat) : comps (mkS l) = ((splitL l).filter okL).map mkS := by
  unfold comps
  rw [split_mk, List.filter_map]
  congr 2
  funext c
  exact ok_mk c
end Mine
end
-- P5
section
open PySem PySem.W PySem.Calls PyProof.Rows
set_option Elab.async false
set_option maxRecDepth 100000
set_option maxHeartbeats 1000000
namespace Mine
def spelled : List Str := [Str.ofString "", Str.ofString "a", Str.ofString "b", Str.ofString "ab", Str.ofString "..", Str.ofString "ba/", Str.ofString "./aab", Str.ofString "b//a"]
def meant : List (List Str) := [[], [Str.ofString "a"], [Str.ofString "b"], [Str.ofString "ab"], [Str.ofString ".."], [Str.ofString "ba"], [Str.ofString "aab"], [Str.ofString "b", Str.ofString "a"]]
def figOf (n place : Nat) : Nat := n / 8 ^ place % 8
def rawPath (n : Nat) : Nat → Str
  | 0 => Str.ofString "/"
  | k + 1 => joinS (rawPath n k) (spelled.getD (figOf n k) (Str.ofString ""))
def nameStep (ns : List Str) (c : Str) : List Str := if c == Str.ofString ".." then ns.dropLast else ns ++ [c]
def namesOf (n : Nat) : Nat → List Str
  | 0 => []
  | k + 1 => (meant.getD (figOf n k) []).foldl nameStep (namesOf n k)
def plainOf (p : Str) : Str := Str.ofString "/" ++ Txt.join (Str.ofString "/") ((Txt.split (Txt.slice p (some 1) none) (Str.ofString "/")).foldl normStep [])
def hasDD (p : Str) : Bool := !(Builtin.Str.occurrences p (Str.ofString "..") 0 p.length 1).isEmpty
def walkedPath (n : Nat) : Str := if hasDD (rawPath n 3) then plainOf (rawPath n 3) else rawPath n 3
-- the same by lists of numbers
def spelledL : List (List Nat) := [[], [97], [98], [97, 98], [46, 46], [98, 97, 47], [46, 47, 97, 97, 98], [98, 47, 47, 97]]
def meantL : List (List (List Nat)) := [[], [[97]], [[98]], [[97, 98]], [[46, 46]], [[98, 97]], [[97, 97, 98]], [[98], [97]]]
def joinL2 (a b : List Nat) : List Nat := if a.getLast? == some 47 then a ++ b else a ++ 47 :: b
def rawL (n : Nat) : Nat → List Nat
  | 0 => [47]
  | k + 1 => joinL2 (rawL n k) (spelledL.getD (figOf n k) [])
def nameL (ns : List (List Nat)) (c : List Nat) : List (List Nat) := if c == [46, 46] then ns.dropLast else ns ++ [c]
def namesL (n : Nat) : Nat → List (List Nat)
  | 0 => []
  | k + 1 => (meantL.getD (figOf n k) []).foldl nameL (namesL n k)
def plainL (l : List Nat) : List Nat := 47 :: joinsL ((splitL (l.drop 1)).foldl normL [])
def checkL (n : Nat) : Bool :=
  let r := rawL n 3
  let w := if ddL r then plainL r else r
  let ns := namesL n 3
  ((splitL w).filter okL == ns) && Nat.ble w.length 30 && (w.head? == some 47) && !(r == []) && (r.take 1 == [47]) && !((r.drop 1).take 1 == [47]) && ns.all (fun c => !(c == []) && !c.contains 47)
theorem spelled_mk : spelled = spelledL.map mkS := by decide +kernel
theorem meant_mk : meant = meantL.map (fun ns => ns.map mkS) := by decide +kernel
theorem getD_map {α β : Type} (f : α → β) (l : List α) (k : Nat) (d : α) : (l.map f).getD k (f d) = f (l.getD k d) := by
  rw [List.getD_eq_getElem?_getD, List.getD_eq_getElem?_getD, List.getElem?_map]
  cases l[k]? <;> rfl
theorem spelled_start : ∀ k, ((spelledL.getD k []).head? == some 47) = false := by
  intro k
  by_cases h : k < 8
  · have : ∀ k ∈ List.range 8, ((spelledL.getD k []).head? == some 47) = false := by decide +kernel
    exact this k (List.mem_range.mpr h)
  · rw [List.getD_eq_getElem?_getD, List.getElem?_eq_none (by show 8 ≤ k; omega)]; rfl
theorem rawL_ne (n : Nat) : ∀ k, rawL n k ≠ []
  | 0 => by simp [rawL]
  | k + 1 => by
    show joinL2 _ _ ≠ []
    have := rawL_ne n k
    unfold joinL2
    split <;> simp [this]
theorem raw_mk (n : Nat) : ∀ k, rawPath n k = mkS (rawL n k)
  | 0 => slash_mk
  | k + 1 => by
    show joinS (rawPath n k) (spelled.getD (figOf n k) (Str.ofString "")) = mkS (joinL2 (rawL n k) (spelledL.getD (figOf n k) []))
    rw [raw_mk n k, spelled_mk, nil_mk, getD_map]
    unfold joinS
    have h0 : ((mkS (rawL n k)).length == 0) = false := by
      rw [mkS_len, beq_eq_false_iff_ne]
      intro e
      exact rawL_ne n k (List.eq_nil_of_length_eq_zero e)
    rw [start_mk, spelled_start, h0, end_mk]
    unfold joinL2
    simp only [Bool.or_self, Bool.false_eq_true, if_false]
    split
    · rw [mkS_app]
    · rw [slash_mk, mkS_app, mkS_app]; rfl
theorem name_mk (ns : List (List Nat)) (c : List Nat) : nameStep (ns.map mkS) (mkS c) = (nameL ns c).map mkS := by
  unfold nameStep nameL
  rw [dd_mk, mkS_beq]
  split
  · rw [List.map_dropLast]
  · rw [List.map_append]; rfl
theorem nameF_mk : ∀ (cs ns : List (List Nat)), (cs.map mkS).foldl nameStep (ns.map mkS) = (cs.foldl nameL ns).map mkS
  | [], _ => rfl
  | c :: cs, ns => by rw [List.map_cons, List.foldl_cons, List.foldl_cons, name_mk, nameF_mk cs]
theorem names_mk (n : Nat) : ∀ k, namesOf n k = (namesL n k).map mkS
  | 0 => rfl
  | k + 1 => by
    show (meant.getD (figOf n k) []).foldl nameStep (namesOf n k) = ((meantL.getD (figOf n k) []).foldl nameL (namesL n k)).map mkS
    rw [names_mk n k, meant_mk, ← nameF_mk]
    congr 1
    exact getD_map (fun ns => ns.map mkS) meantL (figOf n k) []
theorem dd_has (l : List Nat) : hasDD (mkS l) = ddL l := by
  unfold hasDD
  rw [Bool.eq_iff_iff, StrLaws.found_iff, ddL_iff]
  refine exists_congr fun i => ?_
  rw [StrLaws.subAt_eq, dd_mk, mkS_len, mkS_len, mkS_cps, mkS_cps, beq_iff_eq]
  exact Iff.rfl
theorem slice_to1 {l : List Nat} (h : 1 ≤ l.length) : Txt.slice (mkS l) none (some 1) = mkS (l.take 1) := by
  have := slice_closes_to (x := mkS l) (j := 1) ⟨by decide, by rw [mkS_cps]; omega⟩
  rw [eq_of_beq this, mkS_cps]; rfl
theorem slice_12 {l : List Nat} (h : 2 ≤ l.length) : Txt.slice (mkS l) (some 1) (some 2) = mkS ((l.drop 1).take 1) := by
  have := slice_closes (x := mkS l) (i := 1) (j := 2) ⟨by decide, by decide, by rw [mkS_cps]; omega⟩
  rw [eq_of_beq this, mkS_cps]; rfl
theorem slice_1 {l : List Nat} (h : 1 ≤ l.length) : Txt.slice (mkS l) (some 1) none = mkS (l.drop 1) := by
  rw [slice_from_eq (x := mkS l) (i := 1) (b := (l.length : Int)) (by decide) (by rw [mkS_len]; omega) (by rw [mkS_len]), mkS_cps]
  unfold mkS
  congr 2
  rw [List.take_of_length_le (by rw [List.length_drop]; omega)]; rfl
theorem plain_mk {l : List Nat} (h : 1 ≤ l.length) : plainOf (mkS l) = mkS (plainL l) := by
  unfold plainOf plainL
  rw [slice_1 h, split_mk, join_is, show ([] : List Str) = ([] : List (List Nat)).map mkS from rfl, norms_mk, joins_mk, slash_mk, mkS_app]; rfl
def checks (a k : Nat) : Bool := (List.range k).all (fun i => checkL (a + i))
theorem ck0 : checks 0 128 = true := by decide +kernel
theorem ck1 : checks 128 128 = true := by decide +kernel
theorem ck2 : checks 256 128 = true := by decide +kernel
theorem ck3 : checks 384 128 = true := by decide +kernel
theorem checks_at {a k n : Nat} (h : checks a k = true) (h1 : a ≤ n) (h2 : n < a + k) : checkL n = true := by
  have := List.all_eq_true.mp h (n - a) (List.mem_range.mpr (by omega))
  rw [show a + (n - a) = n from by omega] at this
  exact this
theorem check_all {n : Nat} (h : n < 512) : checkL n = true := by
  by_cases h1 : n < 128
  · exact checks_at ck0 (by omega) (by omega)
  by_cases h2 : n < 256
  · exact checks_at ck1 (by omega) (by omega)
  by_cases h3 : n < 384
  · exact checks_at ck2 (by omega) (by omega)
  · exact checks_at ck3 (by omega) (by omega)
structure WalkedOk (n : Nat) : Prop where
  co : comps (walkedPath n) = namesOf n 3
  le : (walkedPath n).length ≤ 30
  st : Txt.startswith (walkedPath n) (Str.ofString "/") = true
  r0 : ((rawPath n 3).length : Int) ≠ 0
  r1 : (Txt.slice (rawPath n 3) none (some 1) != Str.ofString "/") = false
  r2 : (Txt.slice (rawPath n 3) (some 1) (some 2) != Str.ofString "/") = true
  nm : ∀ c ∈ namesOf n 3, NameOk c
theorem walked_ok {n : Nat} (h : n < 512) : WalkedOk n := by
  have q := check_all h
  have hr := raw_mk n 3
  have hne := rawL_ne n 3
  have hw : walkedPath n = mkS (if ddL (rawL n 3) then plainL (rawL n 3) else rawL n 3) := by
    unfold walkedPath
    rw [hr, dd_has]
    split
    · exact plain_mk (List.length_pos_iff.mpr hne)
    · rfl
  unfold checkL at q
  dsimp only at q
  generalize rawL n 3 = r at q hr hne hw
  generalize (if ddL r then plainL r else r) = w at q hw
  simp only [Bool.and_eq_true] at q
  obtain ⟨⟨⟨⟨⟨⟨q1, q2⟩, q3⟩, q4⟩, q5⟩, q6⟩, q7⟩ := q
  have hl : 1 ≤ r.length := List.length_pos_iff.mpr hne
  refine ⟨?_, ?_, ?_, ?_, ?_, ?_, ?_⟩
  · rw [hw, comps_mk, names_mk, eq_of_beq q1]
  · rw [hw, mkS_len]; exact Nat.le_of_ble_eq_true q2
  · rw [hw, start_mk]; exact q3
  · rw [hr, mkS_len]; omega
  · rw [hr, slice_to1 hl, eq_of_beq q5, slash_mk]; simp
  · rw [hr]
    by_cases h2 : 2 ≤ r.length
    · rw [slice_12 h2, slash_mk]
      show (!(mkS _ == mkS _)) = true
      rw [mkS_beq]; exact q6
    · obtain ⟨a, rfl⟩ : ∃ a, r = [a] := List.length_eq_one_iff.mp (by omega)
      have : [a] = [47] := eq_of_beq q5
      rw [this]
      decide +kernel
  · intro c hc
    rw [names_mk] at hc
    obtain ⟨x, hx, rfl⟩ := List.mem_map.mp hc
    have := List.all_eq_true.mp q7 x hx
    simp only [Bool.and_eq_true, Bool.not_eq_true', beq_eq_false_iff_ne, List.contains_eq_mem, decide_eq_false_iff_not] at this
    exact this
theorem fig_lt (n k : Nat) : figOf n k < 8 := Nat.mod_lt _ (by decide)
theorem join_len (a b : Str) : (joinS a b).length ≤ a.length + b.length + 1 := by
  unfold joinS
  have hl : ∀ x y : Str, (x ++ y).length = x.length + y.length := fun x y => Str.length_append x y
  have h1 : (Str.ofString "/").length = 1 := by rw [slash_is]; rfl
  split
  · omega
  · split
    · rw [hl]; omega
    · rw [hl, hl, h1]; omega
theorem spelled_len : ∀ k, (spelled.getD k (Str.ofString "")).length ≤ 5 := by
  intro k
  by_cases h : k < 8
  · have : ∀ k ∈ List.range 8, (spelled.getD k (Str.ofString "")).length ≤ 5 := by decide +kernel
    exact this k (List.mem_range.mpr h)
  · rw [List.getD_eq_getElem?_getD, List.getElem?_eq_none (by show 8 ≤ k; omega), nil_is]; decide
theorem raw_len (n : Nat) : ∀ k, (rawPath n k).length ≤ 1 + 6 * k
  | 0 => by rw [show rawPath n 0 = Str.ofString "/" from rfl, slash_is]; decide
  | k + 1 => by
    have h1 := raw_len n k
    have h2 := join_len (rawPath n k) (spelled.getD (figOf n k) (Str.ofString ""))
    have h3 := spelled_len (figOf n k)
    show (joinS (rawPath n k) (spelled.getD (figOf n k) (Str.ofString ""))).length ≤ _
    omega
theorem meant_len : ∀ k, (meant.getD k []).length ≤ 2 := by
  intro k
  by_cases h : k < 8
  · have : ∀ k ∈ List.range 8, (meant.getD k []).length ≤ 2 := by decide +kernel
    exact this k (List.mem_range.mpr h)
  · rw [List.getD_eq_getElem?_getD, List.getElem?_eq_none (by show 8 ≤ k; omega)]; decide
theorem nameStep_len (ns : List Str) (c : Str) : (nameStep ns c).length ≤ ns.length + 1 := by
  unfold nameStep; split
  · rw [List.length_dropLast]; omega
  · rw [List.length_append, List.length_singleton]; omega
theorem nameFold_len : ∀ (cs ns : List Str), (cs.foldl nameStep ns).length ≤ ns.length + cs.length
  | [], ns => by simp
  | c :: cs, ns => by
    rw [List.foldl_cons]
    have h1 := nameFold_len cs (nameStep ns c)
    have h2 := nameStep_len ns c
    simp only [List.length_cons]; omega
theorem names_len (n : Nat) : ∀ k, (namesOf n k).length ≤ 2 * k
  | 0 => by simp [namesOf]
  | k + 1 => by
    have h1 := names_len n k
    have h2 := nameFold_len (meant.getD (figOf n k) []) (namesOf n k)
    have h3 := meant_len (figOf n k)
    show ((meant.getD (figOf n k) []).foldl nameStep (namesOf n k)).length ≤ _
    omega
end Mine
end
-- R29
section
open PySem PySem.W PySem.Calls PyProof.Rows
set_option Elab.async false
set_option maxRecDepth 100000
set_option maxHeartbeats 1000000
namespace Mine
section
variable {prog : Program} {w : World} {A : Around} {E : Value → Shared → Prop} {s : Shared} {h₀ : Heap} {L D : Addr} {m : Str → Option Value} {news news' : List (Addr × Obj)} {vs : List Value} {ys : List Str} {n : Nat}
theorem addS {a b : Addr} {us : List Value} {zs : List Str} {k : Nat} {Q : Value → Shared → Prop} (F : Fr h₀ L s.heap m) (N : News h₀ L s.heap news) (ha : (a, listOf vs.toArray n) ∈ news) (hb : (b, listOf us.toArray k) ∈ news) (hi : StrsAre vs ys) (hj : StrsAre us zs)
    (hz : ys.length + zs.length ≤ 100000)
    (h : ∀ D' us h', Fr h₀ L h' m → News h₀ L h' ((D', listOf (List.toArray us) 0) :: news) → AllNe D' news → StrsAre us (ys ++ zs) → Q (.ref D') { s with heap := h' }) : wpAny (model prog w) A (binaryOp .Add (.ref a) (.ref b)) Q E s :=
  add_lists (hsz := by rw [sizeLine_eq, strsAre_length hi, strsAre_length hj]; omega) F N (madeL N ha) (madeL N hb) fun h' F' N' => h _ _ h' F' N' (allNe_of fun p hp => Nat.ne_of_lt (Heap.lt_size (N p hp).1)) (strsAre_append hi hj)
theorem strsAre_dropLast (hi : StrsAre vs ys) : StrsAre (vs.take (vs.length - 1)) ys.dropLast := by
  have h := strsAre_take hi (vs.length - 1)
  rw [List.dropLast_eq_take, ← strsAre_length hi]; exact h
theorem slice_but {value slice : Expr} {u : Tok} {ops : List Value} {Q : Value → Shared → Prop} (F : Fr h₀ L s.heap m) (N : News h₀ L s.heap news) (hm : (D, listOf vs.toArray n) ∈ news) (hi : StrsAre vs ys) (hz : ys.length ≤ 100000)
    (h : ∀ h' D' us, AllNe D' news → Fr h₀ L h' m → News h₀ L h' ((D', listOf (List.toArray us) 0) :: news) → StrsAre us ys.dropLast → Q (.ref D') { s with heap := h' })
    (hs : subscripted slice false (.ref D) (.ref s.heap.objs.size) = operate ops (getItem (.ref D) (.ref s.heap.objs.size)) := by with_unfolding_all rfl)
    (ht : ∀ r, letTemporaryGo value (.ref D) r = pure () := by intro _; with_unfolding_all rfl) :
    wpAny (model prog w) A (subscriptTail value slice (.ref D) (.ref s.heap.objs.size)) Q E { s with heap := s.heap.push { cls := .type "slice", data := .fields #[.none, .int (-1) u, .none] } } := by
  refine slice_gen (zs := vs.take (vs.length - 1)) F N hm (by have := strsAre_length hi; omega) .none (.int (-1) u) .none (by simp) ?_ (fun h' D' l1 F' N' => h h' D' _ l1 F' N' (strsAre_dropLast hi)) hs ht
  have := slicePick_butLast vs.toArray 1 (by omega)
  simpa using this
theorem itemS {value slice : Expr} {k : Int} {u : Tok} {Q : Value → Shared → Prop} (N : News h₀ L s.heap news) (hm : (D, listOf vs.toArray n) ∈ news) (hi : StrsAre vs ys) (h0 : 0 ≤ k) (h1 : k < ys.length) (hz : ys.length ≤ 100000)
    (h : ∀ t, Q (.str (ys.getD k.toNat (Str.ofString "")) t) s)
    (hs : subscripted slice false (.ref D) (.int k u) = operate [.ref D, .int k u] (getItem (.ref D) (.int k u)) := by with_unfolding_all rfl) :
    wpAny (model prog w) A (subscriptTail value slice (.ref D) (.int k u)) Q E s := by
  obtain ⟨y, t, e1, e2⟩ := strsAre_at hi k.toNat (by rw [strsAre_length hi]; omega)
  have e3 : ys.getD k.toNat (Str.ofString "") = y := by rw [List.getD_eq_getElem?_getD, e1]; rfl
  exact item_at N hm h0 (by omega) e2 (by rw [← e3]; exact h t) hs
theorem itemR {tl : List (Addr × Obj)} {yss : List (List Str)} {value slice : Expr} {k : Int} {u : Tok} {Q : Value → Shared → Prop} (N : News h₀ L s.heap news) (hm : (D, listOf vs.toArray n) ∈ news) (hi : RowsIn tl vs yss) (h0 : 0 ≤ k) (h1 : k < yss.length) (hz : yss.length ≤ 100000)
    (h : ∀ a us kk, (a, listOf us.toArray kk) ∈ tl → StrsAre us (yss.getD k.toNat []) → Q (.ref a) s)
    (hs : subscripted slice false (.ref D) (.int k u) = operate [.ref D, .int k u] (getItem (.ref D) (.int k u)) := by with_unfolding_all rfl) :
    wpAny (model prog w) A (subscriptTail value slice (.ref D) (.int k u)) Q E s := by
  have hl := hi.length
  have hlt : k.toNat < vs.length := by omega
  have e := List.getElem?_eq_getElem hlt
  obtain ⟨ys, e1, a, us, kk, e2, hm2, hu⟩ := hi.get e
  have e3 : yss.getD k.toNat [] = ys := by rw [List.getD_eq_getElem?_getD, e1]; rfl
  refine item_at (y := .ref a) N hm h0 (by omega) (by rw [e, e2]) (h a us kk hm2 (e3 ▸ hu)) hs
theorem pow8 {t u : Tok} {k : Int} {Q : Value → Shared → Prop} (h0 : 0 ≤ k) (h2 : k ≤ 2) (h : ∀ b : Int, b = ((8 ^ k.toNat : Nat) : Int) → 1 ≤ b → b ≤ 64 → Q (.int b s.toks) { s with toks := s.toks + 1 }) :
    wpAny (model prog w) A (binaryOp .Pow (.int 8 t) (.int k u)) Q E s := by
  refine pow_int_small h0 (by omega) (by decide) (h _ (by norm_cast) ?_ ?_)
  · have : k = 0 ∨ k = 1 ∨ k = 2 := by omega
    rcases this with rfl | rfl | rfl <;> decide
  · have : k = 0 ∨ k = 1 ∨ k = 2 := by omega
    rcases this with rfl | rfl | rfl <;> decide
end
end Mine
end
-- L4
section
open PySem PySem.W PySem.Calls PyProof.Rows
set_option Elab.async false
set_option maxRecDepth 100000
set_option maxHeartbeats 1000000
namespace Mine
structure WkIn (an lS lM : Addr) (n : Nat) (p : Str) (m : Str → Option Value) : Prop where
  na : m (Str.ofString "names") = some (.ref an)
  sp : m (Str.ofString "spelled") = some (.ref lS)
  me : m (Str.ofString "meant") = some (.ref lM)
  xx : ∃ t, m (Str.ofString "x") = some (.int n t)
  pa : ∃ t, m (Str.ofString "path") = some (.str p t)
theorem WkIn.of {an lS lM : Addr} {n : Nat} {p : Str} {m : Str → Option Value} {t1 t2 : Tok} (h1 : m (Str.ofString "names") = some (.ref an)) (h2 : m (Str.ofString "spelled") = some (.ref lS)) (h3 : m (Str.ofString "meant") = some (.ref lM))
    (h4 : m (Str.ofString "x") = some (.int n t1)) (h5 : m (Str.ofString "path") = some (.str p t2)) : WkIn an lS lM n p m := ⟨h1, h2, h3, ⟨_, h4⟩, ⟨_, h5⟩⟩
/-- the end of a turn, inner or outer: a list of names, all else as it was -/
def WkEnd (h₀ : Heap) (L I O : Addr) (oI : Obj) (held : List (Addr × Obj)) (lS lM : Addr) (n : Nat) (p : Str) (ns : List Str) (s : Shared) (f : Flow) (s' : Shared) : Prop :=
  f = .next ∧ ∃ h' tk' m' an vs' kk', s' = { s with heap := h', toks := tk' } ∧ Fr h₀ L h' m' ∧ News h₀ L h' ((I, oI) :: (held ++ [(an, listOf vs'.toArray kk')])) ∧ (@Ne Nat an I ∧ @Ne Nat an O) ∧ StrsAre vs' ns ∧ WkIn an lS lM n p m'
theorem WkEnd.mk' {h₀ : Heap} {L I O an lS lM : Addr} {oI : Obj} {held news : List (Addr × Obj)} {n : Nat} {p : Str} {ns : List Str} {s : Shared} {h' : Heap} {tk' kk' : Nat} {m' : Str → Option Value} {vs' : List Value} (F : Fr h₀ L h' m') (N : News h₀ L h' news)
    (hm : WkIn an lS lM n p m') (hv : StrsAre vs' ns) (hsub : ∀ q ∈ (I, oI) :: (held ++ [(an, listOf vs'.toArray kk')]), q ∈ news) (hne : @Ne Nat an I ∧ @Ne Nat an O) : WkEnd h₀ L I O oI held lS lM n p ns s .next { s with heap := h', toks := tk' } :=
  ⟨rfl, h', tk', m', an, vs', kk', rfl, F, fun q hq => N q (hsub q hq), hne, hv, hm⟩
section
variable {prog : Program} {w : World} {A : Around} {E : Value → Shared → Prop} {s : Shared} {env : Env} {h₀ : Heap} {y : Str} {body : List Stmt} {Q : Flow → Shared → Prop}
/-- the names of one piece -/
theorem names_rule {row ns0 : List Str} {rv vs0 : List Value} {a an O lS lM : Addr} {n kr k0 : Nat} {p : Str} {m₀ : Str → Option Value} {held news : List (Addr × Obj)}
    (hh : A.handled = none) (F : Fr h₀ env.locals s.heap m₀) (N : News h₀ env.locals s.heap news) (hl : (a, listOf rv.toArray kr) ∈ held) (hrv : StrsAre rv row) (hsub : ∀ q ∈ held ++ [(an, listOf vs0.toArray k0)], q ∈ news)
    (hv0 : StrsAre vs0 ns0) (hm : WkIn an lS lM n p m₀) (hO : @Ne Nat an O)
    (turn : ∀ m c t an vs ns kk I oI h tk, c ∈ row → StrsAre vs ns → ns.length ≤ ns0.length + row.length → @Ne Nat an I → @Ne Nat an O → AllNe I held → WkIn an lS lM n p m → Fr h₀ env.locals h (fun z => if z = y then some (.str c t) else m z) → News h₀ env.locals h ((I, oI) :: (an, listOf vs.toArray kk) :: held) →
      wpAny (model prog w) A (execs body env) (WkEnd h₀ env.locals I O oI held lS lM n p (nameStep ns c) s) E { s with heap := h, toks := tk })
    (done : ∀ m an vs kk h tk, WkIn an lS lM n p m → StrsAre vs (row.foldl nameStep ns0) → @Ne Nat an O → Fr h₀ env.locals h m → News h₀ env.locals h ((an, listOf vs.toArray kk) :: held) → Q .next { s with heap := h, toks := tk }) :
    wpAny (model prog w) A (pyIter (.ref a)) (fun it s₂ => LoopAtV prog w A h₀ env y body Q E it s₂) E s := by
  have hlen := strsAre_length hrv
  refine iter_list (held := held) (news₀ := [(an, listOf vs0.toArray k0)])
    (fun i m nx => ∃ an vs kk, nx = [(an, listOf vs.toArray kk)] ∧ StrsAre vs ((row.take i).foldl nameStep ns0) ∧ @Ne Nat an O ∧ WkIn an lS lM n p m) hh F N hl hsub ⟨an, vs0, k0, rfl, by simpa using hv0, hO, hm⟩ ?_ ?_
  · rintro i v I oI m₁ nx h tk hv ⟨an, vs, kk, rfl, hvs, hO, hm₁⟩ hI1 hI2 F₁ N₁
    obtain ⟨c, t, hc, rfl⟩ := strsAre_get hrv hv
    have hi : i < row.length := (List.getElem?_eq_some_iff.mp hc).1
    have hle : ((row.take i).foldl nameStep ns0).length ≤ ns0.length + row.length := by
      have := nameFold_len (row.take i) ns0
      rw [List.length_take] at this; omega
    have N₂ : News h₀ env.locals h ((I, oI) :: (an, listOf vs.toArray kk) :: held) := fun q hq => N₁ q (by
      simp only [List.mem_cons, List.mem_append, List.not_mem_nil, or_false] at hq ⊢
      rcases hq with e | e | e
      · exact .inl e
      · exact .inr (.inr e)
      · exact .inr (.inl e))
    refine wpAny_mono (turn m₁ c t an vs _ kk I oI h tk (List.mem_of_getElem? hc) hvs hle hI2.1 hO hI1 hm₁ F₁ N₂) (fun f s' hs => ?_) fun _ _ e => e
    obtain ⟨rfl, h', tk', m', an', vs', kk', rfl, F', N', hne', hvs', hm'⟩ := hs
    exact ⟨h', tk', m', [(an', listOf vs'.toArray kk')], rfl, F', N', ⟨hne'.1, trivial⟩, an', vs', kk', rfl, by rw [take_succ_foldl _ _ hc]; exact hvs', hne'.2, hm'⟩
  · rintro m₁ nx h tk ⟨an, vs, kk, rfl, hvs, hO, hm₁⟩ F₁ N₁
    rw [hlen, List.take_length] at hvs
    refine done m₁ an vs kk h tk hm₁ hvs hO F₁ fun q hq => N₁ q ?_
    simp only [List.mem_cons, List.mem_append, List.not_mem_nil, or_false] at hq ⊢
    exact hq.symm
/-- the three pieces -/
theorem walk_rule {r : Addr} {vs0 : List Value} {an lS lM : Addr} {n k0 : Nat} {t u v : Tok} {m₀ : Str → Option Value} {held news : List (Addr × Obj)}
    (hh : A.handled = none) (hr : IsRange s.heap r 0 3 1 t u v) (F : Fr h₀ env.locals s.heap m₀) (N : News h₀ env.locals s.heap news) (hsub : ∀ q ∈ held ++ [(an, listOf vs0.toArray k0)], q ∈ news)
    (hv0 : StrsAre vs0 []) (hm : WkIn an lS lM n (rawPath n 0) m₀)
    (turn : ∀ (i : Nat) m t an vs kk I oI h tk, i < 3 → StrsAre vs (namesOf n i) → @Ne Nat an I → AllNe I held → WkIn an lS lM n (rawPath n i) m → Fr h₀ env.locals h (fun z => if z = y then some (.int (0 + i) t) else m z) → News h₀ env.locals h ((I, oI) :: (an, listOf vs.toArray kk) :: held) →
      wpAny (model prog w) A (execs body env) (WkEnd h₀ env.locals I I oI held lS lM n (rawPath n (i + 1)) (namesOf n (i + 1)) s) E { s with heap := h, toks := tk })
    (done : ∀ m an vs kk h tk, WkIn an lS lM n (rawPath n 3) m → StrsAre vs (namesOf n 3) → Fr h₀ env.locals h m → News h₀ env.locals h ((an, listOf vs.toArray kk) :: held) → Q .next { s with heap := h, toks := tk }) :
    wpAny (model prog w) A (pyIter (.ref r)) (fun it s₂ => LoopAtV prog w A h₀ env y body Q E it s₂) E s := by
  refine iter_rng (n := 3) (held := held) (news₀ := [(an, listOf vs0.toArray k0)])
    (fun i m nx => ∃ an vs kk, nx = [(an, listOf vs.toArray kk)] ∧ StrsAre vs (namesOf n i) ∧ WkIn an lS lM n (rawPath n i) m) hh hr rfl rfl F N hsub ⟨an, vs0, k0, rfl, hv0, hm⟩ ?_ ?_
  · rintro i u' I oI m₁ nx h tk hi ⟨an, vs, kk, rfl, hvs, hm₁⟩ hI1 hI2 F₁ N₁
    have N₂ : News h₀ env.locals h ((I, oI) :: (an, listOf vs.toArray kk) :: held) := fun q hq => N₁ q (by
      simp only [List.mem_cons, List.mem_append, List.not_mem_nil, or_false] at hq ⊢
      rcases hq with e | e | e
      · exact .inl e
      · exact .inr (.inr e)
      · exact .inr (.inl e))
    refine wpAny_mono (turn i m₁ u' an vs kk I oI h tk hi hvs hI2.1 hI1 hm₁ F₁ N₂) (fun f s' hs => ?_) fun _ _ e => e
    obtain ⟨rfl, h', tk', m', an', vs', kk', rfl, F', N', hne', hvs', hm'⟩ := hs
    exact ⟨h', tk', m', [(an', listOf vs'.toArray kk')], rfl, F', N', ⟨hne'.1, trivial⟩, an', vs', kk', rfl, hvs', hm'⟩
  · rintro m₁ nx h tk ⟨an, vs, kk, rfl, hvs, hm₁⟩ F₁ N₁
    refine done m₁ an vs kk h tk hm₁ hvs F₁ fun q hq => N₁ q ?_
    simp only [List.mem_cons, List.mem_append, List.not_mem_nil, or_false] at hq ⊢
    exact hq.symm
end
end Mine
namespace Mine
theorem rows8 {tl : List (Addr × Obj)} {v0 v1 v2 v3 v4 v5 v6 v7 : Value} {y0 y1 y2 y3 y4 y5 y6 y7 : List Str} (h0 : RowIn tl v0 y0) (h1 : RowIn tl v1 y1) (h2 : RowIn tl v2 y2) (h3 : RowIn tl v3 y3) (h4 : RowIn tl v4 y4) (h5 : RowIn tl v5 y5) (h6 : RowIn tl v6 y6) (h7 : RowIn tl v7 y7) :
    RowsIn tl [v0, v1, v2, v3, v4, v5, v6, v7] [y0, y1, y2, y3, y4, y5, y6, y7] :=
  RowsIn.snoc (RowsIn.snoc (RowsIn.snoc (RowsIn.snoc (RowsIn.snoc (RowsIn.snoc (RowsIn.snoc (RowsIn.snoc RowsIn.nil h0) h1) h2) h3) h4) h5) h6) h7
theorem walked_open {h₀ h : Heap} {L ln lM a0 a1 a2 a3 a4 a5 a6 a7 lS : Addr} {t1 t2 t3 t4 t5 t6 t7 t8 s0 s1 s2 s3 s4 s5 s6 s7 : Tok}
    (N : News h₀ L h [(ln, listOf #[] 0), (lM, listOf #[.ref a0, .ref a1, .ref a2, .ref a3, .ref a4, .ref a5, .ref a6, .ref a7] 0), (a7, listOf #[.str (Str.ofString "b") t7, .str (Str.ofString "a") t8] 0), (a6, listOf #[.str (Str.ofString "aab") t6] 0), (a5, listOf #[.str (Str.ofString "ba") t5] 0),
      (a4, listOf #[.str (Str.ofString "..") t4] 0), (a3, listOf #[.str (Str.ofString "ab") t3] 0), (a2, listOf #[.str (Str.ofString "b") t2] 0), (a1, listOf #[.str (Str.ofString "a") t1] 0), (a0, listOf #[] 0),
      (lS, listOf #[.str (Str.ofString "") s0, .str (Str.ofString "a") s1, .str (Str.ofString "b") s2, .str (Str.ofString "ab") s3, .str (Str.ofString "..") s4, .str (Str.ofString "ba/") s5, .str (Str.ofString "./aab") s6, .str (Str.ofString "b//a") s7] 0)]) :
    ∃ lS' lM' vS vM tl, lS' = lS ∧ lM' = lM ∧ StrsAre vS spelled ∧ RowsIn tl vM meant ∧ News h₀ L h ((ln, listOf #[] 0) :: (lS, listOf vS.toArray 0) :: (lM, listOf vM.toArray 0) :: tl) := by
  refine ⟨lS, lM, _, _, [(a7, listOf #[.str (Str.ofString "b") t7, .str (Str.ofString "a") t8] 0), (a6, listOf #[.str (Str.ofString "aab") t6] 0), (a5, listOf #[.str (Str.ofString "ba") t5] 0),
      (a4, listOf #[.str (Str.ofString "..") t4] 0), (a3, listOf #[.str (Str.ofString "ab") t3] 0), (a2, listOf #[.str (Str.ofString "b") t2] 0), (a1, listOf #[.str (Str.ofString "a") t1] 0), (a0, listOf #[] 0)],
    rfl, rfl, .cons _ s0 (.cons _ s1 (.cons _ s2 (.cons _ s3 (.cons _ s4 (.cons _ s5 (.cons _ s6 (.cons _ s7 .nil))))))), rows8 ⟨a0, [], 0, rfl, ?_, .nil⟩ ⟨a1, _, 0, rfl, ?_, .cons _ t1 .nil⟩ ⟨a2, _, 0, rfl, ?_, .cons _ t2 .nil⟩ ⟨a3, _, 0, rfl, ?_, .cons _ t3 .nil⟩
      ⟨a4, _, 0, rfl, ?_, .cons _ t4 .nil⟩ ⟨a5, _, 0, rfl, ?_, .cons _ t5 .nil⟩ ⟨a6, _, 0, rfl, ?_, .cons _ t6 .nil⟩ ⟨a7, _, 0, rfl, ?_, .cons _ t7 (.cons _ t8 .nil)⟩, ?_⟩
  · exact .tail _ (.tail _ (.tail _ (.tail _ (.tail _ (.tail _ (.tail _ (.head _)))))))
  · exact .tail _ (.tail _ (.tail _ (.tail _ (.tail _ (.tail _ (.head _))))))
  · exact .tail _ (.tail _ (.tail _ (.tail _ (.tail _ (.head _)))))
  · exact .tail _ (.tail _ (.tail _ (.tail _ (.head _))))
  · exact .tail _ (.tail _ (.tail _ (.head _)))
  · exact .tail _ (.tail _ (.head _))
  · exact .tail _ (.head _)
  · exact .head _
  · intro q hq
    refine N q ?_
    simp only [List.mem_cons, List.not_mem_nil, or_false] at hq ⊢
    rcases hq with e | e | e | e | e | e | e | e | e | e | e
    · exact .inl e
    · exact .inr (.inr (.inr (.inr (.inr (.inr (.inr (.inr (.inr (.inr e)))))))))
    · exact .inr (.inl e)
    · exact .inr (.inr (.inl e))
    · exact .inr (.inr (.inr (.inl e)))
    · exact .inr (.inr (.inr (.inr (.inl e))))
    · exact .inr (.inr (.inr (.inr (.inr (.inl e)))))
    · exact .inr (.inr (.inr (.inr (.inr (.inr (.inl e))))))
    · exact .inr (.inr (.inr (.inr (.inr (.inr (.inr (.inl e)))))))
    · exact .inr (.inr (.inr (.inr (.inr (.inr (.inr (.inr (.inl e))))))))
    · exact .inr (.inr (.inr (.inr (.inr (.inr (.inr (.inr (.inr (.inl e)))))))))
theorem fig_is {n i : Nat} {b : Int} (h : b = ((8 ^ (0 + (i : Int)).toNat : Nat) : Int)) : ((n : Int).fdiv b).fmod 8 = (figOf n i : Int) := by
  have e : (0 + (i : Int)).toNat = i := by omega
  rw [h, e]
  unfold figOf
  generalize 8 ^ i = q
  rw [Int.fdiv_eq_ediv_of_nonneg _ (Int.natCast_nonneg q), Int.fmod_eq_emod_of_nonneg _ (by decide)]
  show ((n : Int) / (q : Int)) % 8 = ((n / q % 8 : Nat) : Int)
  norm_cast
end Mine
namespace Mine
theorem wk_sub {a b : Addr × Obj} {held news : List (Addr × Obj)} (ha : a ∈ news) (hb : b ∈ news) (hh : ∀ q ∈ held, q ∈ news) : ∀ q ∈ b :: (held ++ [a]), q ∈ news := by
  intro q hq
  rcases List.mem_cons.mp hq with e | e
  · rw [e]; exact hb
  · rcases List.mem_append.mp e with e | e
    · exact hh q e
    · rw [List.mem_singleton.mp e]; exact ha
end Mine
end
-- F10
section
open PySem PySem.W PySem.Calls PyProof.Rows PyProof.Rows.LCg PyProof.Rows.LCt
set_option Elab.async false
set_option maxRecDepth 100000
set_option maxHeartbeats 4000000

namespace Mine
local macro_rules | `(tactic| walk_at $s:str) => `(tactic| k_extra $s)
theorem walked_spec {w : World} {dp un : Nat} {fr : Option (List Env)} {gd : Option (List Code)} {s : Shared} {Q E : Value → Shared → Prop} {mg mb : Str → Option Value} {n : Nat} {t : Tok}
    (X : (Mine.hd.heap_39 w.params).In s.heap) (T : TR mg mb s.heap) (hd : dp < 880) (hn : n < 512)
    (hpost : ∀ D an vs k u h' tk', s.heap.StaysIn h' → StrsAre vs (namesOf n 3) → Born s.heap h' D (tupOf #[.str (walkedPath n) u, .ref an]) → Born s.heap h' an (listOf vs.toArray k) → @Ne Nat D an → Q (.ref D) { s with heap := h', toks := tk' }) :
    wpAny (model Challenge.rw_pd0085_01.row.prog w) { handled := none, depth := dp, frames := fr, guards := gd, units := un } (call (.ref 207) [.int n t]) Q E s := by
  k_with_none
  (k_with "look" => first | assumption | exact if_pos rfl | (refine (if_neg (by decide)).trans ?_; walk_at "look"))
  (k_with "eval Name" => (k_here; k_dflt (refine' nameX_L ?kwF ?kwv ?_ ?kwa ?kwb; (case kwF => k_asm); (case kwa => rfl); (case kwb => rfl); (case kwv => walk_at "look"); k_whole)))
  (k_with "pyIter ref" => ((with_reducible show wpAny _ _ (pyIter (Value.ref _)) (fun it s₂ => LoopAtV _ _ _ _ _ _ _ _ _ it s₂) _ _); refine stop ?_))
  (k_with "binaryOp Pow int int" => (refine stop ?_))
  (k_with "subscriptTail Name Name ref int" => (k_here; (with_reducible show wpAny _ _ (subscriptTail _ _ (Value.ref _) (Value.int _ _)) _ _ _); k_dflt (first | (refine' itemS ?kwN ?kwm ?kwi ?kwa ?kwb ?kwz ?_; (case kwN => k_asm); (case kwm => k_mem); (case kwi => assumption); (case kwa => omega); (case kwb => (show _ < (8 : Int)); omega); (case kwz => decide); intro _) | (refine' itemR ?kwN ?kwm ?kwi ?kwa ?kwb ?kwz ?_; (case kwN => k_asm); (case kwm => k_mem); (case kwi => assumption); (case kwa => omega); (case kwb => (show _ < (8 : Int)); omega); (case kwz => decide); intro kw_a' kw_us' kw_kk' kw_hm' kw_hu'))))
  (k_with "call ref" => ((with_reducible show wpAny _ _ (call (Value.ref 115) [Value.str _ _, Value.str _ _]) _ _ _); (refine' join_K ?kwF ?kwN ?kwX ?kwT ?kwr ?kwa ?kwb ?_; (case kwF => k_asm); (case kwN => k_asm); (case kwX => k_asm); (case kwT => k_asm); (case kwr => ((try simp only [depth_deeper]); omega)); (case kwa => omega); (case kwb => exact Nat.le_trans (spelled_len _) (by decide)); intro kw_r' kw_h' kw_t' kw_tk' kw_hr' kw_F' kw_N'; (try k_sweep))))
  (k_with "subscriptTail Name Slice ref ref" => (k_here; (with_reducible show wpAny _ _ (subscriptTail _ _ (Value.ref _) (Value.ref _)) _ _ _); k_dflt (refine' slice_but ?kwF ?kwN ?kwm ?kwi ?kwz ?_; (case kwF => k_asm); (case kwN => k_asm); (case kwm => k_mem); (case kwi => assumption); (case kwz => omega)); intro kw_h' kw_D' kw_us' kw_l1 kw_F' kw_N' kw_hS'; (try simp only [AllNe, List.cons_append, List.nil_append, and_true] at kw_l1); (try k_sweep)))
  (k_with "binaryOp Add ref ref" => (k_here; k_dflt (refine' addS ?kwF ?kwN ?kwa ?kwb ?kwi ?kwj ?kwz ?_; (case kwF => k_asm); (case kwN => k_asm); (case kwa => k_mem); (case kwb => k_mem); (case kwi => assumption); (case kwj => exact .cons _ _ .nil); (case kwz => ((try simp only [List.length_cons, List.length_nil]); omega))); intro kw_D' kw_us' kw_h' kw_F' kw_N' kw_l1 kw_hS'; (try simp only [AllNe, List.cons_append, List.nil_append, and_true] at kw_l1); (try k_sweep)))
  (k_with "call ref" => ((with_reducible show wpAny _ _ (call (Value.ref 129) [Value.str _ _]) _ _ _); (refine' normpath_K ?kwF ?kwN ?kwX ?kwT ?kwr ?kwl ?kwa ?kwb ?kwc ?_; (case kwF => k_asm); (case kwN => k_asm); (case kwX => k_asm); (case kwT => k_asm); (case kwr => ((try simp only [depth_deeper]); omega)); (case kwl => omega); (case kwa => assumption); (case kwb => assumption); (case kwc => assumption); intro kw_r' kw_h' kw_t' kw_tk' kw_hr' kw_F' kw_N'; (try k_sweep))))
  (k_with "exec For Name Subscript cons nil" => (k_here; (rename Fr _ _ _ _ => lF'); (with_unfolding_all refine' For_invVF lF' ?kwk1 ?kwk2 ?_; (case kwk1 => exact rfl); (case kwk2 => exact rfl); k_whole)))
  (k_with "exec For Name Call cons nil" => (k_here; (rename Fr _ _ _ _ => lF'); (with_unfolding_all refine' For_invVF lF' ?kwk1 ?kwk2 ?_; (case kwk1 => exact rfl); (case kwk2 => exact rfl); k_whole)))
  revert X T
  w_on
  k_fill
  intro X T
  refine' call_raw (binds := [(Str.ofString "x", Value.int n t)]) X T ?ho ?hcd ?hr ?hb ?hl ?_ ?hc ?c1 ?c2 ?c3
  case ho => k_is
  case hcd => k_is
  case hr => (show dp < 1000); omega
  case hb => exact BindsTo.of_eq rfl
  case hl => exact locs rfl
  case hc => decide
  case c1 => rfl
  case c2 => rfl
  case c3 => rfl
  · intro h₁ F
    have N : News s.heap s.heap.objs.size h₁ [] := News.nil
    try dsimp only
    k_steps
    unfold Stop
    rename IsRange _ _ _ _ _ _ _ _ => rgX
    rename News _ _ _ _ => N9
    rename Fr _ _ _ _ => F9
    obtain ⟨lS, lM, vS, vM, tl, eS, eM, hvS, hvM, N8⟩ := walked_open N9
    subst eS eM
    clear N9
    refine' walk_rule (n := n) (held := (lS, listOf vS.toArray 0) :: (lM, listOf vM.toArray 0) :: tl) ?hh rgX F9 N8 ?sub .nil (WkIn.of ?a1 ?a2 ?a3 ?a4 ?a5) ?turn ?done
    case hh => rfl
    case a1 => walk_at "look"
    case a2 => walk_at "look"
    case a3 => walk_at "look"
    case a4 => exact rfl
    case a5 => walk_at "look"
    case sub =>
      intro q hq
      simp only [List.mem_cons, List.mem_append, List.not_mem_nil, or_false] at hq ⊢
      rcases hq with (e | e | e) | e
      · exact .inr (.inl e)
      · exact .inr (.inr (.inl e))
      · exact .inr (.inr (.inr e))
      · exact .inl e
    case turn =>
      intro i m t an vs kk I oI h tk hi hvs hI hI2 hm F N
      obtain ⟨q1, q2, q3, ⟨_, q4⟩, ⟨_, q5⟩⟩ := hm
      have hr3 := raw_len n i
      k_steps
      unfold Stop
      refine' pow8 ?_ ?_ ?_
      omega
      omega
      intro b hb1 hb2 hb3
      have hfg := fig_is (n := n) hb1
      have hfl := fig_lt n i
      k_steps
      unfold Stop
      rename StrsAre _ _ => hu
      rename (_ ∈ tl) => hm9
      rename (_ = joinS _ _) => hr9
      have hfn : (((n : Int).fdiv b).fmod 8).toNat = figOf n i := by rw [hfg]; rfl
      rw [hfn] at hu hr9
      have hr9 : _ = rawPath n (i + 1) := hr9
      subst hr9
      have hml := meant_len (figOf n i)
      have hnl := names_len n i
      refine' names_rule (O := I) (held := (I, oI) :: (lS, listOf vS.toArray 0) :: (lM, listOf vM.toArray 0) :: tl) (row := meant.getD (figOf n i) []) (ns0 := namesOf n i) ?hh ?F ?N ?hl hu ?sub hvs (WkIn.of (n := n) ?a1 ?a2 ?a3 ?a4 ?a5) hI ?turn2 ?done2
      case hh => rfl
      case F => k_asm
      case N => k_asm
      case hl => exact .tail _ (.tail _ (.tail _ hm9))
      case a1 => walk_at "look"
      case a2 => walk_at "look"
      case a3 => walk_at "look"
      case a4 => walk_at "look"
      case a5 => walk_at "look"
      case sub =>
        intro q hq
        simp only [List.mem_cons, List.mem_append, List.not_mem_nil, or_false] at hq ⊢
        rcases hq with (e | e | e | e) | e
        · exact .inl e
        · exact .inr (.inr (.inl e))
        · exact .inr (.inr (.inr (.inl e)))
        · exact .inr (.inr (.inr (.inr e)))
        · exact .inr (.inl e)
      case turn2 =>
        intro m2 c t2 an2 vs2 ns kk2 I2 oI2 h tk hc hvs2 hnl2 hJ1 hJ2 hJ3 hm F N
        obtain ⟨q1, q2, q3, ⟨_, q4⟩, ⟨_, q5⟩⟩ := hm
        k_steps
        · refine' WkEnd.mk' ?F ?N (WkIn.of ?a1 ?a2 ?a3 ?a4 ?a5) ?hv ?sub ?ne
          case F => k_asm
          case N => k_asm
          case a1 => walk_at "look"
          case a2 => walk_at "look"
          case a3 => walk_at "look"
          case a4 => walk_at "look"
          case a5 => walk_at "look"
          case hv => (unfold nameStep; rw [if_pos (by assumption)]; assumption)
          case sub => exact wk_sub (by k_mem) (by k_mem) (fun q hq => .tail _ (.tail _ (.tail _ hq)))
          case ne => exact ⟨by omega, by omega⟩
        · refine' WkEnd.mk' ?F ?N (WkIn.of ?a1 ?a2 ?a3 ?a4 ?a5) ?hv ?sub ?ne
          case F => k_asm
          case N => k_asm
          case a1 => walk_at "look"
          case a2 => walk_at "look"
          case a3 => walk_at "look"
          case a4 => walk_at "look"
          case a5 => walk_at "look"
          case hv => (unfold nameStep; rw [if_neg (by rw [(by assumption : (c == Str.ofString "..") = false)]; decide)]; assumption)
          case sub => exact wk_sub (by k_mem) (by k_mem) (fun q hq => .tail _ (.tail _ (.tail _ (.tail _ hq))))
          case ne => exact ⟨by omega, by omega⟩
      case done2 =>
        intro m2 an2 vs2 kk2 h tk hm hvs2 hO F N
        k_steps
        refine' WkEnd.mk' F N hm hvs2 ?sub ⟨hO, hO⟩
        case sub => exact wk_sub (.head _) (.tail _ (.head _)) (fun q hq => .tail _ (.tail _ hq))
    case done =>
      intro m2 an2 vs2 kk2 h tk hm hvs2 F N
      obtain ⟨q1, q2, q3, ⟨_, q4⟩, ⟨_, q5⟩⟩ := hm
      have ⟨o1, o2, o3, o4, o5, o6, o7⟩ := walked_ok hn
      have hr3 := raw_len n 3
      k_steps
      · rename News _ _ _ _ => N9
        rename Fr _ _ _ _ => F9
        have e : walkedPath n = rawPath n 3 := by
          unfold walkedPath hasDD
          rw [(by assumption : (Builtin.Str.occurrences (rawPath n 3) (Str.ofString "..") 0 (rawPath n 3).length 1).isEmpty = true)]; rfl
        exact hpost _ _ _ _ _ _ _ F9.keep hvs2 ⟨e ▸ (N9 _ (.head _)).1, (N9 _ (.head _)).2.2⟩ ⟨(N9 _ (.tail _ (.head _))).1, (N9 _ (.tail _ (.head _))).2.2⟩ (by omega)
      · rename News _ _ _ _ => N9
        rename Fr _ _ _ _ => F9
        rename (_ = _ ++ _) => hr9
        have e : walkedPath n = plainOf (rawPath n 3) := by
          unfold walkedPath hasDD
          rw [(by assumption : (Builtin.Str.occurrences (rawPath n 3) (Str.ofString "..") 0 (rawPath n 3).length 1).isEmpty = false)]; rfl
        have hr9 : _ = walkedPath n := hr9.trans e.symm
        exact hpost _ _ _ _ _ _ _ F9.keep hvs2 ⟨hr9 ▸ (N9 _ (.head _)).1, (N9 _ (.head _)).2.2⟩ ⟨(N9 _ (.tail _ (.head _))).1, (N9 _ (.tail _ (.head _))).2.2⟩ (by omega)
end Mine
end
-- R30
section
open PySem PySem.W PySem.Calls PyProof.Rows
set_option Elab.async false
set_option maxRecDepth 100000
set_option maxHeartbeats 1000000
namespace Mine
section
variable {w : World} {E : Value → Shared → Prop} {s : Shared} {h₀ : Heap} {L : Addr} {m : Str → Option Value} {news : List (Addr × Obj)} {mg mb : Str → Option Value} {Q : Value → Shared → Prop} {dp un : Nat} {fr : Option (List Env)} {gd : Option (List Code)}
theorem walked_K {k : Int} {n : Nat} {t : Tok} (F : Fr h₀ L s.heap m) (N : News h₀ L s.heap news) (X : (Mine.hd.heap_39 w.params).In h₀) (T : TR mg mb h₀) (hd : dp < 880) (hk : k = (n : Int)) (hn : n < 512)
    (h : ∀ D an vs kk u h' tk', StrsAre vs (namesOf n 3) → AllNe D news → AllNe an news → @Ne Nat D an → Fr h₀ L h' m → News h₀ L h' ((D, tupOf #[.str (walkedPath n) u, .ref an]) :: (an, listOf vs.toArray kk) :: news) → Q (.ref D) { s with heap := h', toks := tk' }) :
    wpAny (model Challenge.rw_pd0085_01.row.prog w) { handled := none, depth := dp, frames := fr, guards := gd, units := un } (call (.ref 207) [.int k t]) Q E s := by
  subst hk
  exact walked_spec (X.keeps F.keep) (T.keeps F.keep) hd hn fun D an vs kk u h' tk' hk hvs b1 b2 hne => h D an vs kk u h' tk' hvs (born_ne N b1) (born_ne N b2) hne (fr_stays F hk) (born_news F (born_news F (news_stays N hk) b2) b1)
end
end Mine
end
-- R31
section
open PySem PySem.W PySem.Calls PyProof.Rows PySem.SeqAt
set_option Elab.async false
set_option maxRecDepth 100000
set_option maxHeartbeats 1000000
namespace Mine
theorem strsAre_ofGet : ∀ {us ws : List Value} {xs ys : List Str}, StrsAre us xs → StrsAre ws ys → us.length = ws.length → ∀ (e : Nat → Bool), (∀ j x y, xs[j]? = some x → ys[j]? = some y → e j = (x == y)) → (List.range us.length).all e = (xs == ys)
  | _, _, _, _, .nil, .nil, _, e, _ => by simp
  | _, _, _, _, .nil, .cons _ _ _, h, _, _ => by simp at h
  | _, _, _, _, .cons _ _ _, .nil, h, _, _ => by simp at h
  | _ :: vs, _ :: _, x :: xs', y :: ys', .cons _ t hx, .cons _ t' hy, h, e, he => by
    have ih := strsAre_ofGet hx hy (by simpa using h) (fun j => e (j + 1)) fun j a b h1 h2 => he (j + 1) a b (by simpa using h1) (by simpa using h2)
    rw [List.length_cons, List.range_succ_eq_map, List.all_cons, List.all_map]
    have h0 : e 0 = (x == y) := he 0 x y rfl rfl
    rw [show ((List.range vs.length).all (e ∘ Nat.succ)) = (xs' == ys') from ih, h0]
    rfl
def eqAtStr (xs ys : List Str) (i : Nat) : Bool := match xs[i]?, ys[i]? with
  | some x, some y => x == y
  | _, _ => false
theorem strsAre_unique : ∀ {us : List Value} {xs ys : List Str}, StrsAre us xs → StrsAre us ys → xs = ys
  | _, _, _, .nil, .nil => rfl
  | _, _, _, .cons _ _ h1, .cons _ _ h2 => by rw [strsAre_unique h1 h2]
theorem eq_rows {A : Around} {s : Shared} {a b : Addr} {us ws : List Value} {xs ys : List Str} {k j : Nat} (ha : s.heap.get? a = some (listOf us.toArray k)) (hb : s.heap.get? b = some (listOf ws.toArray j)) (hu : StrsAre us xs) (hw : StrsAre ws ys) (hA : A.units < cLine) :
    EqAt A s (.ref a) (.ref b) (xs == ys) := by
  by_cases hab : a = b
  · subst hab
    rw [ha] at hb
    have e : us.toArray = ws.toArray := by
      have := Option.some.inj hb
      injection this with _ _ h3 _
      injection h3
    have e : us = ws := by simpa using e
    subst e
    rw [strsAre_unique hu hw, beq_self_eq_true]
    exact EqAt.same _
  · refine EqAt.of_refs hab ?_
    have la : s.heap.IsList a us.toArray := ⟨_, ha, rfl, k, rfl⟩
    have lb : s.heap.IsList b ws.toArray := ⟨_, hb, rfl, j, rfl⟩
    have hul := strsAre_length hu
    have hwl := strsAre_length hw
    by_cases hl : us.length = ws.length
    · have key : ∀ i x y, xs[i]? = some x → ys[i]? = some y → eqAtStr xs ys i = (x == y) := by
        intro i x y h1 h2
        unfold eqAtStr
        rw [h1, h2]
      have := RcAt.lists (A := A) la lb (by simpa using hl) hA (e := eqAtStr xs ys) fun i h1 h2 => ?_
      · rw [show us.toArray.size = us.length from by simp, strsAre_ofGet hu hw hl _ key] at this
        exact this
      · have h1' : i < us.length := by simpa using h1
        have h2' : i < ws.length := by simpa using h2
        obtain ⟨x, t, e1, e2⟩ := strsAre_at hu i h1'
        obtain ⟨y, t', e3, e4⟩ := strsAre_at hw i h2'
        have f1 : us.toArray[i] = .str x t := by
          have := List.getElem?_eq_some_iff.mp e2
          obtain ⟨_, q⟩ := this
          simpa using q
        have f2 : ws.toArray[i] = .str y t' := by
          have := List.getElem?_eq_some_iff.mp e4
          obtain ⟨_, q⟩ := this
          simpa using q
        rw [f1, f2, key i x y e1 e3]
        exact EqAt.str_str x t y t'
    · have : (xs == ys) = false := by
        rw [beq_eq_false_iff_ne]
        intro e
        rw [e] at hul; omega
      rw [this]
      exact RcAt.lists_lengths la lb (by simpa using hl) hA
section
variable {prog : Program} {w : World} {A : Around} {E : Value → Shared → Prop} {s : Shared} {h₀ : Heap} {L l a : Addr} {m : Str → Option Value} {news tl : List (Addr × Obj)}
open Classical in
theorem notIn_rows {vs us : List Value} {yss : List (List Str)} {ys : List Str} {n k : Nat} {Q : Value → Shared → Prop} (N : News h₀ L s.heap news) (hl : (l, listOf vs.toArray n) ∈ news) (hr : RowsIn tl vs yss) (htl : ∀ q ∈ tl, q ∈ news)
    (ha : (a, listOf us.toArray k) ∈ news) (hu : StrsAre us ys) (hA : A.in1.units < cLine) (h : Q (.bool (!yss.contains ys)) s) : wpAny (model prog w) A (compareOp .NotIn (.ref a) (.ref l)) Q E s := by
  have hlen := hr.length
  have row : ∀ (i : Nat) (v : Value), vs[i]? = some v → ∃ zs, yss[i]? = some zs ∧ ∃ b ws j, v = .ref b ∧ s.heap.get? b = some (listOf ws.toArray j) ∧ StrsAre ws zs := by
    intro i v e
    obtain ⟨zs, e1, b, ws, j, e2, hm, hw⟩ := hr.get e
    exact ⟨zs, e1, b, ws, j, e2, (N _ (htl _ hm)).1, hw⟩
  let e : Value → Bool := fun v => decide (∃ b ws j, v = .ref b ∧ s.heap.get? b = some (listOf ws.toArray j) ∧ StrsAre ws ys)
  have he : ∀ v zs b ws j, v = .ref b → s.heap.get? b = some (listOf ws.toArray j) → StrsAre ws zs → e v = (zs == ys) := by
    intro v zs b ws j hv hb hw
    show decide _ = _
    by_cases q : zs = ys
    · subst q
      rw [beq_self_eq_true]
      exact decide_eq_true ⟨b, ws, j, hv, hb, hw⟩
    · rw [beq_eq_false_iff_ne.mpr q]
      refine decide_eq_false ?_
      rintro ⟨b', ws', j', hv', hb', hw'⟩
      rw [hv] at hv'
      injection hv' with hv'
      subst hv'
      rw [hb] at hb'
      have h3 : ws.toArray = ws'.toArray := by
        have := Option.some.inj hb'
        injection this with _ _ h3 _
        injection h3
      have h4 : ws = ws' := by simpa using h3
      subst h4
      exact q (strsAre_unique hw hw')
  refine notIn_listAt e (madeL N hl) (fun v hv => ?_) ?_
  · have hv' : v ∈ vs := by simpa using hv
    obtain ⟨i, hi⟩ := List.getElem?_of_mem hv'
    obtain ⟨zs, e1, b, ws, j, rfl, hb, hw⟩ := row i v hi
    rw [he _ zs b ws j rfl hb hw]
    exact eq_rows hb (N _ ha).1 hw hu hA
  · have key : vs.toArray.any e = yss.contains ys := by
      rw [Bool.eq_iff_iff, List.contains_iff_mem]
      have e0 : vs.toArray.any e = vs.any e := by simp
      rw [e0, List.any_eq_true]
      constructor
      · rintro ⟨v, hv, hev⟩
        obtain ⟨i, hi⟩ := List.getElem?_of_mem hv
        obtain ⟨zs, e1, b, ws, j, rfl, hb, hw⟩ := row i v hi
        rw [he _ zs b ws j rfl hb hw] at hev
        rw [← eq_of_beq hev]
        exact List.mem_of_getElem? e1
      · intro hys
        obtain ⟨i, hi⟩ := List.getElem?_of_mem hys
        have hi' : i < vs.length := by have := (List.getElem?_eq_some_iff.mp hi).1; omega
        obtain ⟨zs, e1, b, ws, j, hv, hb, hw⟩ := row i vs[i] (List.getElem?_eq_getElem hi')
        rw [hi] at e1
        have e2 := Option.some.inj e1
        subst e2
        exact ⟨_, List.getElem_mem hi', by rw [he _ ys b ws j hv hb hw, beq_self_eq_true]⟩
    rw [key]
    exact h
end
end Mine
end
-- R32
section
open PySem PySem.W PySem.Calls PyProof.Rows
set_option Elab.async false
set_option maxRecDepth 100000
set_option maxHeartbeats 1000000
namespace Mine
/-- the end of a turn of a loop whose name is a cell -/
def EndT (h₀ : Heap) (L I : Addr) (oI : Obj) (J : (Str → Option Value) → List (Addr × Obj) → Prop) (s₁ : Shared) (f : Flow) (s' : Shared) : Prop :=
  f = .next ∧ ∃ h' tk m' nx, s' = { s₁ with heap := h', toks := tk } ∧ Fr h₀ L h' m' ∧ News h₀ L h' ((I, oI) :: nx) ∧ AllNe I nx ∧ J m' nx
theorem EndT.mk' {h₀ : Heap} {L I : Addr} {oI : Obj} {J : (Str → Option Value) → List (Addr × Obj) → Prop} {s₁ : Shared} {h' : Heap} {tk : Nat} {m' : Str → Option Value} {nx news : List (Addr × Obj)}
    (F : Fr h₀ L h' m') (N : News h₀ L h' news) (hsub : ∀ p ∈ (I, oI) :: nx, p ∈ news) (ha : AllNe I nx) (hj : J m' nx) : EndT h₀ L I oI J s₁ .next { s₁ with heap := h', toks := tk } :=
  ⟨rfl, h', tk, m', nx, rfl, F, fun p hp => N p (hsub p hp), ha, hj⟩
section
variable {prog : Program} {w : World} {A : Around} {E : Value → Shared → Prop} {s : Shared} {env : Env} {h₀ : Heap} {target : Expr} {body : List Stmt} {Q : Flow → Shared → Prop}
theorem iter_rngT {r : Addr} {a b : Int} {n : Nat} {t u v : Tok} {m₀ : Str → Option Value} {news news₀ : List (Addr × Obj)} (J : Nat → (Str → Option Value) → List (Addr × Obj) → Prop)
    (hh : A.handled = none) (hr : IsRange s.heap r a b 1 t u v) (hn : Builtin.Range.rangeSize a b 1 = (n : Int)) (hsm : Builtin.Range.small a b 1 = true)
    (F : Fr h₀ env.locals s.heap m₀) (N : News h₀ env.locals s.heap news) (hsub : ∀ p ∈ news₀, p ∈ news)
    (hgo : ∀ I v, letOwnedTupleGo target (.ref I) v = pure ())
    (hj : J 0 m₀ news₀)
    (turn : ∀ (i : Nat) u I oI m₁ nx s₁, i < n → J i m₁ nx → AllNe I nx → Fr h₀ env.locals s₁.heap m₁ → News h₀ env.locals s₁.heap ((I, oI) :: nx) →
      wpAny (model prog w) A (assign target env (.int (a + i) u)) (fun _ s₂ => wpAny (model prog w) A (execs body env) (EndT h₀ env.locals I oI (J (i + 1)) s₁) E s₂) E s₁)
    (done : ∀ m₁ nx h tk, J n m₁ nx → Fr h₀ env.locals h m₁ → News h₀ env.locals h nx → Q .next { s with heap := h, toks := tk }) :
    wpAny (model prog w) A (pyIter (.ref r)) (fun it s₂ => LoopAtT prog w A h₀ env target body Q E it s₂) E s := by
  have N₀ : News h₀ env.locals s.heap news₀ := fun p hp => N p (hsub p hp)
  refine wpAny_pyIter_range hr hsm ?_
  have W := Walks.range (prog := prog) (w := w) hh s.heap.objs.size a 1 n
  have big : ∀ p ∈ news₀, p.1 ≠ s.heap.objs.size := fun p hp => Nat.ne_of_lt (Heap.lt_size (N₀ p hp).1)
  have hst : IsRangeIter (s.heap.push { cls := .type "range_iterator", data := .fields #[rawInt a, rawInt (Builtin.Range.rangeSize a b 1), rawInt 1] }) s.heap.objs.size (a + ((0 : Nat) : Int) * 1) ((n : Int) - ((0 : Nat) : Int)) 1 := by
    have e1 : a + ((0 : Nat) : Int) * 1 = a := by omega
    have e2 : (n : Int) - ((0 : Nat) : Int) = n := by omega
    rw [e1, e2, hn]
    exact Heap.get?_push_size _ rfl
  have hIL : s.heap.objs.size ≠ env.locals := by intro e; exact absurd F.ns.lt (e ▸ Nat.lt_irrefl _)
  refine ⟨s.heap.objs.size, [s.heap.objs.size], [s.heap.objs.size], n, _, _, m₀, news₀, (fun i m₁ nw => AllNe s.heap.objs.size nw ∧ J i m₁ nw), rfl, W, ?_, ?_, ?_, hst, F.push _, fun p hp => ⟨Heap.get?_push_of_some _ (N₀ p hp).1, (N₀ p hp).2⟩, ?_, ⟨allNe_of big, hj⟩, ?_, ?_⟩
  · intro hm; exact hIL (List.mem_singleton.mp hm).symm
  · intro b hb; rw [List.mem_singleton.mp hb]; exact next_is_new F
  · intro p hp hb; exact big p hp (List.mem_singleton.mp hb)
  · intro i s' v Q' _ hq; rw [hgo]; exact wpAny_pure hq
  · rintro i v m₁ nw s₁ own hi ⟨u', rfl⟩ ⟨hax, hJ⟩ hoff hown hval hall hst₁ F₁ N₁
    rw [Int.mul_one]
    obtain ⟨oI, hoI⟩ : ∃ oI, s₁.heap.get? s.heap.objs.size = some oI := ⟨_, hst₁⟩
    have hIown := hall _ (List.mem_singleton.mpr rfl) (next_is_new F) _ hoI
    refine wpAny_mono (turn i u' s.heap.objs.size oI m₁ nw s₁ hi hJ hax F₁ (fun p hp => ?_)) (fun _ s₂ h₂ => wpAny_mono h₂ (fun f s₃ h₃ => ?_) fun _ _ e => e) fun _ _ e => e
    · rcases List.mem_cons.mp hp with rfl | hp
      · exact N₁ _ (List.mem_append_left _ hIown)
      · exact N₁ p (List.mem_append_right _ hp)
    · obtain ⟨rfl, h', tk, m', nx, rfl, F', N', ha', hJ'⟩ := h₃
      refine ⟨rfl, h', tk, m', nx, rfl, F', fun p hp => ?_, ?_, ha', hJ'⟩
      · rcases List.mem_append.mp hp with h1 | h1
        · have e := List.mem_singleton.mp (hown p h1)
          have e2 := hval p h1
          rw [e] at e2
          have e3 : s₁.heap.get? s.heap.objs.size = some p.2 := e2
          rw [hoI] at e3
          have e4 := Option.some.inj e3
          obtain ⟨p1, p2⟩ := p
          have e : p1 = s.heap.objs.size := e
          have e4 : oI = p2 := e4
          subst e e4
          exact N' _ (.head _)
        · exact N' p (.tail _ h1)
      · intro p hp hI
        exact allNe_mem ha' p hp (List.mem_singleton.mp hI)
  · rintro h' tk m' nw F' N' _ ⟨_, hJ⟩
    exact done m' nw h' tk hJ F' N'
end
end Mine
end
-- R33
section
open PySem PySem.W PySem.Calls PyProof.Rows
set_option Elab.async false
set_option maxRecDepth 100000
set_option maxHeartbeats 1000000
namespace Mine
theorem intsAre_mem : ∀ {vs : List Value} {ns : List Int}, IntsAre vs ns → ∀ v ∈ vs, ∃ x t, v = .int x t
  | _, _, .nil, v, h => by cases h
  | _, _, .cons y t r, v, h => by
    rcases List.mem_cons.mp h with rfl | h
    · exact ⟨y, t, rfl⟩
    · exact intsAre_mem r v h
theorem intsAre_of : ∀ {us : List Value}, (∀ v ∈ us, ∃ x t, v = .int x t) → ∃ ms, IntsAre us ms
  | [], _ => ⟨[], .nil⟩
  | v :: us, h => by
    obtain ⟨x, t, rfl⟩ := h v (.head _)
    obtain ⟨ms, hm⟩ := intsAre_of (us := us) fun w hw => h w (.tail _ hw)
    exact ⟨x :: ms, .cons x t hm⟩
section
variable {prog : Program} {w : World} {A : Around} {E : Value → Shared → Prop} {s : Shared} {h₀ : Heap} {L D l : Addr} {m : Str → Option Value} {news news' : List (Addr × Obj)} {vs : List Value} {ns : List Int} {n : Nat}
theorem slice_step {value slice : Expr} {k : Int} {u u4 : Tok} {ops : List Value} {Q : Value → Shared → Prop} (F : Fr h₀ L s.heap m) (N : News h₀ L s.heap news) (hl : h₀.IsList l vs.toArray) (hi : IntsAre vs ns) (hz : ns.length ≤ 100000)
    (h : ∀ h' D' us ms, AllNe D' news → Fr h₀ L h' m → News h₀ L h' ((D', listOf (List.toArray us) 0) :: news) → IntsAre us ms → Q (.ref D') { s with heap := h' })
    (hs : subscripted slice false (.ref l) (.ref s.heap.objs.size) = operate ops (getItem (.ref l) (.ref s.heap.objs.size)) := by with_unfolding_all rfl)
    (ht : ∀ r, letTemporaryGo value (.ref l) r = pure () := by intro _; with_unfolding_all rfl) :
    wpAny (model prog w) A (subscriptTail value slice (.ref l) (.ref s.heap.objs.size)) Q E { s with heap := s.heap.push { cls := .type "slice", data := .fields #[.int k u, .none, .int 4 u4] } } := by
  have hl' : s.heap.IsList l vs.toArray := hl.at fun o e => F.keep _ _ e
  refine slice_list3 F N hl' (.int k u) .none (.int 4 u4) (by simp) (fun h' F' N' => ?_) hs ht (by have := hi.length; rw [sizeLine_eq]; simp; omega)
  generalize hp : slicePick vs.toArray (some k) none (some 4) = p at N'
  obtain ⟨ms, hm⟩ := intsAre_of (us := p.toList) fun v hv => by
    rw [← hp] at hv
    unfold slicePick at hv
    have hv : v ∈ List.filterMap (fun x => vs.toArray[x]?) _ := hv
    obtain ⟨j, _, e⟩ := List.mem_filterMap.mp hv
    have : v ∈ vs := by
      rw [List.getElem?_toArray] at e
      exact List.mem_of_getElem? e
    exact intsAre_mem hi v this
  have e : p = p.toList.toArray := by simp
  rw [e] at N'
  refine h h' _ p.toList ms (allNe_of fun q hq => ?_) F' N' hm
  exact Nat.ne_of_lt (Nat.lt_succ_of_lt (Heap.lt_size (N q hq).1))
theorem sumL {Q : Value → Shared → Prop} (hh : A.handled = none) (F : Fr h₀ L s.heap m) (N : News h₀ L s.heap news) (hm : (D, listOf vs.toArray n) ∈ news) (hi : IntsAre vs ns)
    (h : ∀ h' tk t, Fr h₀ L h' m → News h₀ L h' news → Q (.int ns.sum t) { s with heap := h', toks := tk }) : wpAny (model prog w) A (call (.builtin "sum") [.ref D]) Q E s :=
  sumK hh F N (madeL N hm) hi h
theorem appendR {tl : List (Addr × Obj)} {x : Value} {Q : Value → Shared → Prop} (F : Fr h₀ L s.heap m) (N : News h₀ L s.heap news) (hm : (D, listOf vs.toArray n) ∈ news) (hne : ∀ p ∈ news', p.1 ≠ D) (hsub : ∀ p ∈ news', p ∈ news) (hz : vs.length ≤ 100000)
    (h : ∀ h', Fr h₀ L h' m → News h₀ L h' ((D, listOf (vs ++ [x]).toArray (n + 1)) :: news') → Q .none { s with heap := h' }) : wpAny (model prog w) A (call (.builtin "list.append") [.ref D, x]) Q E s := by
  have N₁ : News h₀ L s.heap ((D, listOf vs.toArray n) :: news') := fun p hp => by
    rcases List.mem_cons.mp hp with e | e
    · rw [e]; exact N _ hm
    · exact N p (hsub p e)
  exact appendL F N₁ (Upd.head hne) hz h
end
end Mine
end
-- P6
section
open PySem PySem.W PySem.Calls PyProof.Rows
set_option Elab.async false
set_option maxRecDepth 100000
set_option maxHeartbeats 1000000
namespace Mine
def addF (fs : List (List Str)) (p : List Str) : List (List Str) := if fs.contains p then fs else fs ++ [p]
def prefs (ns : List Str) : List (List Str) := (List.range ns.length).map (fun j => ns.take (j + 1))
def foldersOf (xs : List Nat) : List (List Str) := xs.foldl (fun fs n => (prefs (namesOf n 3)).foldl addF fs) [[Str.ofString ""]]
theorem foldersOf_snoc (xs : List Nat) (n : Nat) : foldersOf (xs ++ [n]) = (prefs (namesOf n 3)).foldl addF (foldersOf xs) := by
  unfold foldersOf; rw [List.foldl_append]; rfl
theorem addF_len (fs : List (List Str)) (p : List Str) : (addF fs p).length ≤ fs.length + 1 := by
  unfold addF; split
  · omega
  · rw [List.length_append, List.length_singleton]; omega
theorem addFold_len : ∀ (ps fs : List (List Str)), (ps.foldl addF fs).length ≤ fs.length + ps.length
  | [], fs => by simp
  | p :: ps, fs => by
    rw [List.foldl_cons]
    have h1 := addFold_len ps (addF fs p)
    have h2 := addF_len fs p
    simp only [List.length_cons]; omega
theorem folders_len (xs : List Nat) : (foldersOf xs).length ≤ 1 + 6 * xs.length := by
  have key : ∀ (xs : List Nat) (fs : List (List Str)), (xs.foldl (fun fs n => (prefs (namesOf n 3)).foldl addF fs) fs).length ≤ fs.length + 6 * xs.length := by
    intro xs
    induction xs with
    | nil => intro fs; simp
    | cons x xs ih =>
      intro fs
      rw [List.foldl_cons]
      have h1 := ih ((prefs (namesOf x 3)).foldl addF fs)
      have h2 := addFold_len (prefs (namesOf x 3)) fs
      have h3 := names_len x 3
      have h4 : (prefs (namesOf x 3)).length = (namesOf x 3).length := by simp [prefs]
      simp only [List.length_cons]; omega
  have := key xs [[Str.ofString ""]]
  exact this
/-- the prefixes added so far -/
def partF (fs : List (List Str)) (ns : List Str) (j : Nat) : List (List Str) := ((List.range j).map (fun j => ns.take (j + 1))).foldl addF fs
theorem partF_zero (fs : List (List Str)) (ns : List Str) : partF fs ns 0 = fs := rfl
theorem partF_succ (fs : List (List Str)) (ns : List Str) (j : Nat) : partF fs ns (j + 1) = addF (partF fs ns j) (ns.take (j + 1)) := by
  unfold partF; rw [List.range_succ, List.map_append, List.foldl_append]; rfl
theorem partF_all (fs : List (List Str)) (ns : List Str) : partF fs ns ns.length = (prefs ns).foldl addF fs := rfl
theorem partF_len (fs : List (List Str)) (ns : List Str) (j : Nat) : (partF fs ns j).length ≤ fs.length + j := by
  have := addFold_len ((List.range j).map (fun j => ns.take (j + 1))) fs
  unfold partF; simpa using this
end Mine
end
-- L5
section
open PySem PySem.W PySem.Calls PyProof.Rows
set_option Elab.async false
set_option maxRecDepth 100000
set_option maxHeartbeats 1000000
namespace Mine
theorem tl_ne {d B : Nat} {tl : List (Addr × Obj)} (h : ∀ q ∈ tl, @LT.lt Nat _ B q.1) (hd : @LE.le Nat _ d B) : ∀ p ∈ tl, p.1 ≠ d := fun p hp e => by
  have h1 := h p hp
  have e' : @Eq Nat p.1 d := e
  omega
theorem tl_ne' {d B : Nat} {tl : List (Addr × Obj)} (h : ∀ q ∈ tl, @LT.lt Nat _ B q.1) (hd : @LE.le Nat _ d B) : AllNe d tl := allNe_of (tl_ne h hd)
/-- what the first loop keeps -/
structure LawIn (l lF lP c1 : Addr) (oP oZ : Obj) (i : Nat) (xs : List Nat) (vP vF : List Value) (rows tl : List (Addr × Obj)) (m : Str → Option Value) : Prop where
  op : oP.data = .cell (some (.ref lP))
  oz : ∃ c, oZ.data = .cell c
  xl : xs.length = i
  xb : ∀ x ∈ xs, x < 512
  sp : StrsAre vP (xs.map walkedPath)
  rf : RowsIn (rows ++ tl) vF (foldersOf xs)
  ab : ∀ q ∈ tl, @LT.lt Nat _ lF q.1
  sc : m (Str.ofString "script") = some (.ref l)
  fo : m (Str.ofString "folders") = some (.ref lF)
structure Ord1 (lF l0 lP c5 c4 c3 c2 c1 : Nat) : Prop where
  a1 : c1 < c2
  a2 : c2 < c3
  a3 : c3 < c4
  a4 : c4 < c5
  a5 : c5 < lP
  a6 : lP < l0
  a7 : l0 < lF
end Mine
end
-- L6
section
open PySem PySem.W PySem.Calls PyProof.Rows
set_option Elab.async false
set_option maxRecDepth 100000
set_option maxHeartbeats 1000000
namespace Mine
theorem news_cut {h₀ h : Heap} {L : Addr} {a b x y : Addr × Obj} {rest : List (Addr × Obj)} (N : News h₀ L h (a :: b :: x :: y :: rest)) : News h₀ L h (a :: b :: rest) := fun p hp => N p (by
  rcases List.mem_cons.mp hp with e | hp
  · rw [e]; exact .head _
  · rcases List.mem_cons.mp hp with e | hp
    · rw [e]; exact .tail _ (.head _)
    · exact .tail _ (.tail _ (.tail _ (.tail _ hp))))
/-- the ledger of the law while it gathers paths and folders -/
def led1 (lF l0 lP c5 c4 c3 c2 c1 : Addr) (o5 o4 o3 o1 : Obj) (t0 : Tok) (vF : List Value) (kF : Nat) (vP : List Value) (kP : Nat) (oZ : Obj) (tl : List (Addr × Obj)) : List (Addr × Obj) :=
  (lF, listOf vF.toArray kF) :: (l0, listOf #[.str (Str.ofString "") t0] 0) :: (lP, listOf vP.toArray kP) :: (c5, o5) :: (c4, o4) :: (c3, o3) :: (c2, oZ) :: (c1, o1) :: tl
def Loop1End (h₀ : Heap) (L I : Addr) (oI : Obj) (l lF l0 lP c5 c4 c3 c2 c1 : Addr) (o5 o4 o3 o1 : Obj) (t0 : Tok) (i : Nat) (xs : List Nat) (s : Shared) (f : Flow) (s' : Shared) : Prop :=
  f = .next ∧ ∃ h' tk' m' oZ' n vP' kP' vF' kF' tl', s' = { s with heap := h', toks := tk' } ∧ Fr h₀ L h' m' ∧ News h₀ L h' ((I, oI) :: led1 lF l0 lP c5 c4 c3 c2 c1 o5 o4 o3 o1 t0 vF' kF' vP' kP' oZ' tl') ∧ AllNe I tl' ∧
    LawIn l lF lP c1 o1 oZ' (i + 1) (xs ++ [n]) vP' vF' [(l0, listOf #[.str (Str.ofString "") t0] 0)] tl' m'
def Loop2End (h₀ : Heap) (L I2 : Addr) (oI2 : Obj) (I an : Addr) (oI on : Obj) (l lF l0 lP c5 c4 c3 c2 c1 : Addr) (o5 o4 o3 o1 : Obj) (t0 : Tok) (vP : List Value) (kP : Nat) (fs : List (List Str)) (s : Shared) (f : Flow) (s' : Shared) : Prop :=
  f = .next ∧ ∃ h' tk' m' oZ' vF' kF' tl', s' = { s with heap := h', toks := tk' } ∧ Fr h₀ L h' m' ∧ News h₀ L h' ((I2, oI2) :: (I, oI) :: (an, on) :: led1 lF l0 lP c5 c4 c3 c2 c1 o5 o4 o3 o1 t0 vF' kF' vP kP oZ' tl') ∧ AllNe I2 tl' ∧ AllNe I tl' ∧
    (∃ c, oZ'.data = .cell c) ∧ RowsIn ([(l0, listOf #[.str (Str.ofString "") t0] 0)] ++ tl') vF' fs ∧ (∀ q ∈ tl', @LT.lt Nat _ lF q.1) ∧ m' (Str.ofString "script") = some (.ref l) ∧ m' (Str.ofString "folders") = some (.ref lF) ∧ m' (Str.ofString "names") = some (.ref an)
section
variable {prog : Program} {w : World} {A : Around} {E : Value → Shared → Prop} {s : Shared} {env : Env} {h₀ : Heap} {x : Str} {body : List Stmt} {Q : Flow → Shared → Prop}
theorem loop1_rule {r l lF l0 lP c5 c4 c3 c2 c1 : Addr} {o5 o4 o3 o2 o1 : Obj} {t0 t u v : Tok} {m₀ : Str → Option Value}
    (hh : A.handled = none) (hr : IsRange s.heap r 0 4 1 t u v) (F : Fr h₀ env.locals s.heap m₀)
    (N : News h₀ env.locals s.heap [(lF, listOf #[.ref l0] 0), (l0, listOf #[.str (Str.ofString "") t0] 0), (lP, listOf #[] 0), (c5, o5), (c4, o4), (c3, o3), (c2, o2), (c1, o1)])
    (ho : Ord1 lF l0 lP c5 c4 c3 c2 c1) (h1 : o1.data = .cell (some (.ref lP))) (h2 : ∃ c, o2.data = .cell c) (hsc : m₀ (Str.ofString "script") = some (.ref l)) (hfo : m₀ (Str.ofString "folders") = some (.ref lF))
    (turn : ∀ (i : Nat) u I oI m oZ xs vP kP vF kF tl h tk, Ord1 lF l0 lP c5 c4 c3 c2 c1 → i < 4 → LawIn l lF lP c1 o1 oZ i xs vP vF [(l0, listOf #[.str (Str.ofString "") t0] 0)] tl m → AllNe I (led1 lF l0 lP c5 c4 c3 c2 c1 o5 o4 o3 o1 t0 vF kF vP kP oZ tl) →
      Fr h₀ env.locals h (fun z => if z = x then some (.int (0 + i) u) else m z) → News h₀ env.locals h ((I, oI) :: led1 lF l0 lP c5 c4 c3 c2 c1 o5 o4 o3 o1 t0 vF kF vP kP oZ tl) →
      wpAny (model prog w) A (execs body env) (Loop1End h₀ env.locals I oI l lF l0 lP c5 c4 c3 c2 c1 o5 o4 o3 o1 t0 i xs s) E { s with heap := h, toks := tk })
    (done : ∀ m oZ xs vP kP vF kF tl h tk, Ord1 lF l0 lP c5 c4 c3 c2 c1 → LawIn l lF lP c1 o1 oZ 4 xs vP vF [(l0, listOf #[.str (Str.ofString "") t0] 0)] tl m → Fr h₀ env.locals h m → News h₀ env.locals h (led1 lF l0 lP c5 c4 c3 c2 c1 o5 o4 o3 o1 t0 vF kF vP kP oZ tl) → Q .next { s with heap := h, toks := tk }) :
    wpAny (model prog w) A (pyIter (.ref r)) (fun it s₂ => LoopAtV prog w A h₀ env x body Q E it s₂) E s := by
  refine iter_rng (n := 4) (held := []) (news₀ := led1 lF l0 lP c5 c4 c3 c2 c1 o5 o4 o3 o1 t0 [.ref l0] 0 [] 0 o2 [])
    (fun i m nx => ∃ oZ xs vP kP vF kF tl, nx = led1 lF l0 lP c5 c4 c3 c2 c1 o5 o4 o3 o1 t0 vF kF vP kP oZ tl ∧ LawIn l lF lP c1 o1 oZ i xs vP vF [(l0, listOf #[.str (Str.ofString "") t0] 0)] tl m) hh hr rfl rfl F N (fun p hp => hp) ?_ ?_ ?_
  · refine ⟨o2, [], [], 0, [.ref l0], 0, [], rfl, h1, h2, rfl, (fun x hx => by cases hx), .nil, ?_, (fun q hq => by cases hq), hsc, hfo⟩
    exact RowsIn.snoc RowsIn.nil ⟨l0, [.str (Str.ofString "") t0], 0, rfl, .head _, .cons _ t0 .nil⟩
  · rintro i u' I oI m₁ nx h₂ tk hi ⟨oZ, xs, vP, kP, vF, kF, tl, rfl, hm⟩ _ hI2 F N
    refine wpAny_mono (turn i u' I oI m₁ oZ xs vP kP vF kF tl h₂ tk ho hi hm hI2 F N) (fun f s' hs => ?_) (fun _ _ e => e)
    obtain ⟨rfl, h', tk', m', oZ', n, vP', kP', vF', kF', tl', rfl, F', N', ha, hm'⟩ := hs
    refine ⟨h', tk', m', _, rfl, F', N', ?_, oZ', _, vP', kP', vF', kF', tl', rfl, hm'⟩
    obtain ⟨a1, a2, a3, a4, a5, a6, a7, a8, _⟩ := hI2
    exact ⟨a1, a2, a3, a4, a5, a6, a7, a8, ha⟩
  · rintro m₁ nx h₂ tk ⟨oZ, xs, vP, kP, vF, kF, tl, rfl, hm⟩ F N
    exact done m₁ oZ xs vP kP vF kF tl h₂ tk ho hm F N
theorem loop2_rule {target : Expr} {r l lF l0 lP c5 c4 c3 c2 c1 I an : Addr} {o5 o4 o3 oZ o1 oI : Obj} {t0 t u v : Tok} {m₀ : Str → Option Value} {vP vF vn : List Value} {kP kF kn n : Nat} {bn : Int} {tl : List (Addr × Obj)} {j1 : Addr × Obj} {ns : List Str} {fs : List (List Str)}
    (hh : A.handled = none) (hr : IsRange s.heap r 1 bn 1 t u v) (hbn : bn = (n : Int) + 1) (hn : n ≤ 1000) (F : Fr h₀ env.locals s.heap m₀)
    (N : News h₀ env.locals s.heap (j1 :: (an, listOf vn.toArray kn) :: (I, oI) :: led1 lF l0 lP c5 c4 c3 c2 c1 o5 o4 o3 o1 t0 vF kF vP kP oZ tl)) (hgo : ∀ I v, letOwnedTupleGo target (.ref I) v = pure ())
    (hI : AllNe I tl) (h2 : ∃ c, oZ.data = .cell c) (hrf : RowsIn ([(l0, listOf #[.str (Str.ofString "") t0] 0)] ++ tl) vF fs) (hab : ∀ q ∈ tl, @LT.lt Nat _ lF q.1)
    (hsc : m₀ (Str.ofString "script") = some (.ref l)) (hfo : m₀ (Str.ofString "folders") = some (.ref lF)) (hna : m₀ (Str.ofString "names") = some (.ref an))
    (turn : ∀ (j : Nat) u I2 oI2 m oZ vF kF tl s₁, j < n → AllNe I2 ((I, oI) :: (an, listOf vn.toArray kn) :: led1 lF l0 lP c5 c4 c3 c2 c1 o5 o4 o3 o1 t0 vF kF vP kP oZ tl) → AllNe I tl → (∃ c, oZ.data = .cell c) →
      RowsIn ([(l0, listOf #[.str (Str.ofString "") t0] 0)] ++ tl) vF (partF fs ns j) → (∀ q ∈ tl, @LT.lt Nat _ lF q.1) → m (Str.ofString "script") = some (.ref l) → m (Str.ofString "folders") = some (.ref lF) → m (Str.ofString "names") = some (.ref an) →
      Fr h₀ env.locals s₁.heap m → News h₀ env.locals s₁.heap ((I2, oI2) :: (I, oI) :: (an, listOf vn.toArray kn) :: led1 lF l0 lP c5 c4 c3 c2 c1 o5 o4 o3 o1 t0 vF kF vP kP oZ tl) →
      wpAny (model prog w) A (assign target env (.int (1 + j) u)) (fun _ s₂ => wpAny (model prog w) A (execs body env) (Loop2End h₀ env.locals I2 oI2 I an oI (listOf vn.toArray kn) l lF l0 lP c5 c4 c3 c2 c1 o5 o4 o3 o1 t0 vP kP (partF fs ns (j + 1)) s₁) E s₂) E s₁)
    (done : ∀ m oZ vF kF tl h tk, AllNe I tl → (∃ c, oZ.data = .cell c) → RowsIn ([(l0, listOf #[.str (Str.ofString "") t0] 0)] ++ tl) vF (partF fs ns n) → (∀ q ∈ tl, @LT.lt Nat _ lF q.1) → m (Str.ofString "script") = some (.ref l) → m (Str.ofString "folders") = some (.ref lF) →
      Fr h₀ env.locals h m → News h₀ env.locals h ((I, oI) :: (an, listOf vn.toArray kn) :: led1 lF l0 lP c5 c4 c3 c2 c1 o5 o4 o3 o1 t0 vF kF vP kP oZ tl) → Q .next { s with heap := h, toks := tk }) :
    wpAny (model prog w) A (pyIter (.ref r)) (fun it s₂ => LoopAtT prog w A h₀ env target body Q E it s₂) E s := by
  refine iter_rngT (n := n) (news₀ := (I, oI) :: (an, listOf vn.toArray kn) :: led1 lF l0 lP c5 c4 c3 c2 c1 o5 o4 o3 o1 t0 vF kF vP kP oZ tl)
    (fun j m nx => ∃ oZ vF kF tl, nx = (I, oI) :: (an, listOf vn.toArray kn) :: led1 lF l0 lP c5 c4 c3 c2 c1 o5 o4 o3 o1 t0 vF kF vP kP oZ tl ∧ AllNe I tl ∧ (∃ c, oZ.data = .cell c) ∧ RowsIn ([(l0, listOf #[.str (Str.ofString "") t0] 0)] ++ tl) vF (partF fs ns j) ∧ (∀ q ∈ tl, @LT.lt Nat _ lF q.1) ∧
      m (Str.ofString "script") = some (.ref l) ∧ m (Str.ofString "folders") = some (.ref lF) ∧ m (Str.ofString "names") = some (.ref an)) hh hr ?_ ?_ F N (fun p hp => by
      rcases List.mem_cons.mp hp with e | hp
      · rw [e]; exact .tail _ (.tail _ (.head _))
      · rcases List.mem_cons.mp hp with e | hp
        · rw [e]; exact .tail _ (.head _)
        · exact .tail _ (.tail _ (.tail _ hp))) hgo ⟨oZ, vF, kF, tl, rfl, hI, h2, hrf, hab, hsc, hfo, hna⟩ ?_ ?_
  · rw [rangeSize_nat, hbn]; omega
  · exact small_one (by omega) (by omega) (by omega) (by omega)
  · rintro j u' I2 oI2 m₁ nx s₁ hj ⟨oZ, vF, kF, tl, rfl, b1, b2, b3, b4, b5, b6, b7⟩ hI2 F N
    refine wpAny_mono (turn j u' I2 oI2 m₁ oZ vF kF tl s₁ hj hI2 b1 b2 b3 b4 b5 b6 b7 F N) (fun _ s₂ hs => wpAny_mono hs (fun f s' hs => ?_) fun _ _ e => e) (fun _ _ e => e)
    obtain ⟨rfl, h', tk', m', oZ', vF', kF', tl', rfl, F', N', ha, b1', b2', b3', b4', b5', b6', b7'⟩ := hs
    refine ⟨rfl, h', tk', m', _, rfl, F', N', ?_, oZ', vF', kF', tl', rfl, b1', b2', b3', b4', b5', b6', b7'⟩
    obtain ⟨a0, a00, a1, a2, a3, a4, a5, a6, a7, a8, _⟩ := hI2
    exact ⟨a0, a00, a1, a2, a3, a4, a5, a6, a7, a8, ha⟩
  · rintro m₁ nx h₂ tk ⟨oZ, vF, kF, tl, rfl, b1, b2, b3, b4, b5, b6, b7⟩ F N
    exact done m₁ oZ vF kF tl h₂ tk b1 b2 b3 b4 b5 b6 F N
end
end Mine
end
-- R34
section
open PySem PySem.W PySem.Calls PyProof.Rows
set_option Elab.async false
set_option maxRecDepth 100000
set_option maxHeartbeats 1000000
namespace Mine
section
variable {w : World} {A : Around} {E : Value → Shared → Prop} {s : Shared} {h₀ : Heap} {L : Addr} {m : Str → Option Value} {news : List (Addr × Obj)} {mg mb : Str → Option Value} {Q : Value → Shared → Prop}
theorem walked_A {k : Int} {n : Nat} {t : Tok} (hh : A.handled = none) (F : Fr h₀ L s.heap m) (N : News h₀ L s.heap news) (X : (Mine.hd.heap_39 w.params).In h₀) (T : TR mg mb h₀) (hd : A.depth < 880) (hk : k = (n : Int)) (hn : n < 512)
    (h : ∀ D an vs kk u h' tk', StrsAre vs (namesOf n 3) → AllNe D news → AllNe an news → @Ne Nat D an → Fr h₀ L h' m → News h₀ L h' ((D, tupOf #[.str (walkedPath n) u, .ref an]) :: (an, listOf vs.toArray kk) :: news) → Q (.ref D) { s with heap := h', toks := tk' }) :
    wpAny (model Challenge.rw_pd0085_01.row.prog w) A (call (.ref 207) [.int k t]) Q E s := by
  obtain ⟨h1, dp, fr, gd, un⟩ := A
  have h1' : h1 = none := hh
  subst h1'
  exact walked_K F N X T hd hk hn h
theorem join_A {a b : Str} {t u : Tok} (hh : A.handled = none) (F : Fr h₀ L s.heap m) (N : News h₀ L s.heap news) (X : (Mine.hd.heap_39 w.params).In h₀) (T : TR mg mb h₀) (hd : A.depth < 880) (ha : a.length ≤ 1000) (hb : b.length ≤ 1000)
    (h : ∀ r h' t' tk', r = joinS a b → Fr h₀ L h' m → News h₀ L h' news → Q (.str r t') { s with heap := h', toks := tk' }) :
    wpAny (model Challenge.rw_pd0085_01.row.prog w) A (call (.ref 115) [.str a t, .str b u]) Q E s := by
  obtain ⟨h1, dp, fr, gd, un⟩ := A
  have h1' : h1 = none := hh
  subst h1'
  exact join_K F N X T (Nat.lt_trans hd (by decide)) ha hb h
theorem told_A {p : Str} {t : Tok} (hh : A.handled = none) (F : Fr h₀ L s.heap m) (N : News h₀ L s.heap news) (X : (Mine.hd.heap_39 w.params).In h₀) (T : TR mg mb h₀) (hd : A.depth < 880) (hp : p.length ≤ 500)
    (h : ∀ D vs k h' tk', IntsAre vs (toldOf (wsEnd (tsOf p))) → AllNe D news → Fr h₀ L h' m → News h₀ L h' ((D, listOf vs.toArray k) :: news) → Q (.ref D) { s with heap := h', toks := tk' }) :
    wpAny (model Challenge.rw_pd0085_01.row.prog w) A (call (.ref 212) [.str p t]) Q E s := by
  obtain ⟨h1, dp, fr, gd, un⟩ := A
  have h1' : h1 = none := hh
  subst h1'
  exact told_K F N X T hd hp h
theorem commonpath_A {C : Addr} {cs : List Value} {n : Nat} {ps : List Str} (hh : A.handled = none) (F : Fr h₀ L s.heap m) (N : News h₀ L s.heap news) (X : (Mine.hd.heap_39 w.params).In h₀) (T : TR mg mb h₀) (hd : A.depth < 880) (hun : A.units < 9000)
    (hC : (C, listOf cs.toArray n) ∈ news) (hcs : StrsAre cs ps) (hl1 : 1 ≤ ps.length) (hl2 : ps.length ≤ 4)
    (hb : ∀ p ∈ ps, p.length ≤ 500) (hs : ∀ p ∈ ps, Txt.startswith p (Str.ofString "/") = true)
    (h : ∀ r h' t1 tk', r = Str.ofString "/" ++ Txt.join (Str.ofString "/") (lcpOf ps) → Fr h₀ L h' m → News h₀ L h' news → Q (.str r t1) { s with heap := h', toks := tk' }) :
    wpAny (model Challenge.rw_pd0085_01.row.prog w) A (call (.ref 134) [.ref C]) Q E s := by
  obtain ⟨h1, dp, fr, gd, un⟩ := A
  have h1' : h1 = none := hh
  subst h1'
  exact commonpath_K F N X T (Nat.lt_trans hd (by decide)) hun hC hcs hl1 hl2 hb hs h
theorem mod512 (x : Int) : x.fmod 512 = ((x.fmod 512).toNat : Int) ∧ (x.fmod 512).toNat < 512 := by
  have h1 := Int.fmod_nonneg_of_pos x (show (0 : Int) < 512 by decide)
  have h2 := Int.fmod_lt_of_pos x (show (0 : Int) < 512 by decide)
  omega
theorem walked_B {x : Int} {t : Tok} (hh : A.handled = none) (F : Fr h₀ L s.heap m) (N : News h₀ L s.heap news) (X : (Mine.hd.heap_39 w.params).In h₀) (T : TR mg mb h₀) (hd : A.depth < 880)
    (h : ∀ n p ns D an vs kk u h' tk', n < 512 → walkedPath n = p → namesOf n 3 = ns → StrsAre vs ns → AllNe D news → AllNe an news → @Ne Nat D an → Fr h₀ L h' m → News h₀ L h' ((D, tupOf #[.str p u, .ref an]) :: (an, listOf vs.toArray kk) :: news) → Q (.ref D) { s with heap := h', toks := tk' }) :
    wpAny (model Challenge.rw_pd0085_01.row.prog w) A (call (.ref 207) [.int (x.fmod 512) t]) Q E s :=
  walked_A hh F N X T hd (mod512 x).1 (mod512 x).2 fun D an vs kk u h' tk' hS a b c F' N' => h _ _ _ D an vs kk u h' tk' (mod512 x).2 rfl rfl hS a b c F' N'
end
end Mine
end
-- L7
section
open PySem PySem.W PySem.Calls PyProof.Rows
set_option Elab.async false
set_option maxRecDepth 100000
set_option maxHeartbeats 1000000
namespace Mine
theorem Loop2End.mk' {h₀ : Heap} {L I2 I an l lF l0 lP c5 c4 c3 c2 c1 : Addr} {oI2 oI on o5 o4 o3 o1 oZ' : Obj} {t0 : Tok} {vP vF' : List Value} {kP kF' : Nat} {fs : List (List Str)} {s : Shared} {h' : Heap} {tk' : Nat} {m' : Str → Option Value} {tl' news : List (Addr × Obj)}
    (F : Fr h₀ L h' m') (N : News h₀ L h' news) (hsub : ∀ p ∈ (I2, oI2) :: (I, oI) :: (an, on) :: led1 lF l0 lP c5 c4 c3 c2 c1 o5 o4 o3 o1 t0 vF' kF' vP kP oZ' tl', p ∈ news) (a1 : AllNe I2 tl') (a2 : AllNe I tl') (hz : ∃ c, oZ'.data = .cell c)
    (hr : RowsIn ([(l0, listOf #[.str (Str.ofString "") t0] 0)] ++ tl') vF' fs) (hab : ∀ q ∈ tl', @LT.lt Nat _ lF q.1) (h1 : m' (Str.ofString "script") = some (.ref l)) (h2 : m' (Str.ofString "folders") = some (.ref lF)) (h3 : m' (Str.ofString "names") = some (.ref an)) :
    Loop2End h₀ L I2 oI2 I an oI on l lF l0 lP c5 c4 c3 c2 c1 o5 o4 o3 o1 t0 vP kP fs s .next { s with heap := h', toks := tk' } :=
  ⟨rfl, h', tk', m', oZ', vF', kF', tl', rfl, F, fun p hp => N p (hsub p hp), a1, a2, hz, hr, hab, h1, h2, h3⟩
theorem Loop1End.mk' {h₀ : Heap} {L I l lF l0 lP c5 c4 c3 c2 c1 : Addr} {oI o5 o4 o3 o1 oZ' : Obj} {t0 : Tok} {i n : Nat} {xs : List Nat} {vP' vF' : List Value} {kP' kF' : Nat} {s : Shared} {h' : Heap} {tk' : Nat} {m' : Str → Option Value} {tl' news : List (Addr × Obj)}
    (F : Fr h₀ L h' m') (N : News h₀ L h' news) (hsub : ∀ p ∈ (I, oI) :: led1 lF l0 lP c5 c4 c3 c2 c1 o5 o4 o3 o1 t0 vF' kF' vP' kP' oZ' tl', p ∈ news) (a1 : AllNe I tl') (hm : LawIn l lF lP c1 o1 oZ' (i + 1) (xs ++ [n]) vP' vF' [(l0, listOf #[.str (Str.ofString "") t0] 0)] tl' m') :
    Loop1End h₀ L I oI l lF l0 lP c5 c4 c3 c2 c1 o5 o4 o3 o1 t0 i xs s .next { s with heap := h', toks := tk' } :=
  ⟨rfl, h', tk', m', oZ', n, vP', kP', vF', kF', tl', rfl, F, fun p hp => N p (hsub p hp), a1, hm⟩
theorem rows_snoc {tl : List (Addr × Obj)} {l0 D : Addr} {o0 : Obj} {us vF : List Value} {k : Nat} {fs : List (List Str)} {p : List Str} (h : RowsIn ([(l0, o0)] ++ tl) vF fs) (hu : StrsAre us p) (hp : fs.contains p = false) : RowsIn ([(l0, o0)] ++ (D, listOf us.toArray k) :: tl) (vF ++ [.ref D]) (addF fs p) := by
  unfold addF
  rw [hp]
  refine RowsIn.snoc (h.mono fun q hq => ?_) ⟨D, us, k, rfl, .tail _ (.head _), hu⟩
  rcases List.mem_cons.mp hq with e | e
  · rw [e]; exact .head _
  · exact .tail _ (.tail _ e)
section
variable {prog : Program} {w : World} {A : Around} {E : Value → Shared → Prop} {s : Shared} {h₀ : Heap} {L D : Addr} {m : Str → Option Value} {news news' : List (Addr × Obj)} {vs : List Value} {n : Nat}
theorem slice_upL {value slice : Expr} {k : Int} {u : Tok} {ops : List Value} {ys : List Str} {Q : Value → Shared → Prop} (F : Fr h₀ L s.heap m) (N : News h₀ L s.heap news) (hm : (D, listOf vs.toArray n) ∈ news) (hi : StrsAre vs ys) (hz : ys.length ≤ 100000) (h0 : 0 ≤ k)
    (h : ∀ h' D' us, AllLt D' news → Fr h₀ L h' m → News h₀ L h' ((D', listOf (List.toArray us) 0) :: news) → StrsAre us (ys.take k.toNat) → Q (.ref D') { s with heap := h' })
    (hs : subscripted slice false (.ref D) (.ref s.heap.objs.size) = operate ops (getItem (.ref D) (.ref s.heap.objs.size)) := by with_unfolding_all rfl)
    (ht : ∀ r, letTemporaryGo value (.ref D) r = pure () := by intro _; with_unfolding_all rfl) :
    wpAny (model prog w) A (subscriptTail value slice (.ref D) (.ref s.heap.objs.size)) Q E { s with heap := s.heap.push { cls := .type "slice", data := .fields #[.none, .int k u, .none] } } := by
  obtain ⟨j, rfl⟩ : ∃ j : Nat, k = (j : Int) := ⟨k.toNat, by omega⟩
  have hl := strsAre_length hi
  refine slice_list3 F N (madeL N hm) .none (.int (j : Int) u) .none (by simp) (fun h' F' N' => ?_) hs ht (by rw [sizeLine_eq]; simp; omega)
  rw [slicePick_upto'] at N'
  refine h h' _ (vs.take j) (allLt_of fun p hp => ?_) F' N' (by rw [Int.toNat_natCast]; exact strsAre_take hi j)
  exact Nat.lt_succ_of_lt (Heap.lt_size (N p hp).1)
theorem contains_hd {x : Addr × Obj} {tl news : List (Addr × Obj)} (h1 : x ∈ news) (h2 : ∀ q ∈ tl, q ∈ news) : ∀ q ∈ [x] ++ tl, q ∈ news := by
  intro q hq
  rcases List.mem_cons.mp hq with e | e
  · rw [e]; exact h1
  · exact h2 q e
theorem led1_sub {x2 x1 x0 : Addr × Obj} {lF l0 lP c5 c4 c3 c2 c1 : Addr} {o5 o4 o3 o1 oZ : Obj} {t0 : Tok} {vF vP : List Value} {kF kP : Nat} {tl news : List (Addr × Obj)} (h2 : x2 ∈ news) (h1 : x1 ∈ news) (h0 : x0 ∈ news) (a1 : (lF, listOf vF.toArray kF) ∈ news) (a2 : (l0, listOf #[.str (Str.ofString "") t0] 0) ∈ news) (a3 : (lP, listOf vP.toArray kP) ∈ news)
    (a4 : (c5, o5) ∈ news) (a5 : (c4, o4) ∈ news) (a6 : (c3, o3) ∈ news) (a7 : (c2, oZ) ∈ news) (a8 : (c1, o1) ∈ news) (ht : ∀ q ∈ tl, q ∈ news) : ∀ p ∈ x2 :: x1 :: x0 :: led1 lF l0 lP c5 c4 c3 c2 c1 o5 o4 o3 o1 t0 vF kF vP kP oZ tl, p ∈ news := by
  intro p hp
  unfold led1 at hp
  simp only [List.mem_cons] at hp
  rcases hp with e | e | e | e | e | e | e | e | e | e | e | e
  all_goals first | (rw [e]; assumption) | exact ht p e
end
end Mine
namespace Mine
theorem led1_sub2 {x1 x0 : Addr × Obj} {lF l0 lP c5 c4 c3 c2 c1 : Addr} {o5 o4 o3 o1 oZ : Obj} {t0 : Tok} {vF vP : List Value} {kF kP : Nat} {tl news : List (Addr × Obj)} (ht : ∀ q ∈ tl, q ∈ news) (h1 : x1 ∈ news) (h0 : x0 ∈ news) (a1 : (lF, listOf vF.toArray kF) ∈ news) (a2 : (l0, listOf #[.str (Str.ofString "") t0] 0) ∈ news) (a3 : (lP, listOf vP.toArray kP) ∈ news)
    (a4 : (c5, o5) ∈ news) (a5 : (c4, o4) ∈ news) (a6 : (c3, o3) ∈ news) (a7 : (c2, oZ) ∈ news) (a8 : (c1, o1) ∈ news) : ∀ p ∈ x1 :: x0 :: led1 lF l0 lP c5 c4 c3 c2 c1 o5 o4 o3 o1 t0 vF kF vP kP oZ tl, p ∈ news :=
  fun p hp => led1_sub h1 h1 h0 a1 a2 a3 a4 a5 a6 a7 a8 ht p (.tail _ hp)
theorem led1_sub1 {x0 : Addr × Obj} {lF l0 lP c5 c4 c3 c2 c1 : Addr} {o5 o4 o3 o1 oZ : Obj} {t0 : Tok} {vF vP : List Value} {kF kP : Nat} {tl news : List (Addr × Obj)} (ht : ∀ q ∈ tl, q ∈ news) (h0 : x0 ∈ news) (a1 : (lF, listOf vF.toArray kF) ∈ news) (a2 : (l0, listOf #[.str (Str.ofString "") t0] 0) ∈ news) (a3 : (lP, listOf vP.toArray kP) ∈ news)
    (a4 : (c5, o5) ∈ news) (a5 : (c4, o4) ∈ news) (a6 : (c3, o3) ∈ news) (a7 : (c2, oZ) ∈ news) (a8 : (c1, o1) ∈ news) : ∀ p ∈ x0 :: led1 lF l0 lP c5 c4 c3 c2 c1 o5 o4 o3 o1 t0 vF kF vP kP oZ tl, p ∈ news :=
  fun p hp => led1_sub h0 h0 h0 a1 a2 a3 a4 a5 a6 a7 a8 ht p (.tail _ (.tail _ hp))
theorem tails_of {tl news : List (Addr × Obj)} (h : tl <:+ news) : ∀ q ∈ tl, q ∈ news := fun q hq => h.subset hq
end Mine
namespace Mine
theorem ne_of_all {a d : Addr} {o : Obj} {l : List (Addr × Obj)} (h : AllNe d l) (hm : (a, o) ∈ l) : @Ne Nat a d := allNe_mem h _ hm
theorem ne_of_all' {a d : Addr} {o : Obj} {l : List (Addr × Obj)} (h : AllNe d l) (hm : (a, o) ∈ l) : @Ne Nat d a := (allNe_mem h _ hm).symm
theorem lt_of_all {d : Nat} {l : List (Addr × Obj)} {a : Addr} {o : Obj} (h : AllLt d l) (hm : (a, o) ∈ l) : @LT.lt Nat _ a d := by
  induction l with
  | nil => cases hm
  | cons p r ih =>
    have h' : @LT.lt Nat _ p.1 d ∧ AllLt d r := h
    rcases List.mem_cons.mp hm with e | e
    · rw [← e] at h'; exact h'.1
    · exact ih h'.2 e
end Mine
namespace Mine
structure Hid9 (p : Prop) : Prop where
  out : p
theorem hid9 {p : Prop} (h : p) : Hid9 p := ⟨h⟩
end Mine
namespace Mine
theorem rows_snoc_lt {tl news : List (Addr × Obj)} {l0 D : Addr} {o0 : Obj} {us vF : List Value} {fs : List (List Str)} {ns : List Str} {j : Nat} (_ : AllLt D news) (h : RowsIn ([(l0, o0)] ++ tl) vF (partF fs ns j)) (hu : StrsAre us (ns.take (1 + (j : Int)).toNat)) (hp : (partF fs ns j).contains (ns.take (1 + (j : Int)).toNat) = false) : RowsIn ([(l0, o0)] ++ (D, listOf us.toArray 0) :: tl) (vF ++ [.ref D]) (partF fs ns (j + 1)) := by
  rw [partF_succ]
  have e : (1 + (j : Int)).toNat = j + 1 := by omega
  rw [e] at hu hp
  exact rows_snoc h hu hp
theorem rows_same {tl : List (Addr × Obj)} {l0 : Addr} {o0 : Obj} {vF : List Value} {fs : List (List Str)} {ns : List Str} {j : Nat} (h : RowsIn ([(l0, o0)] ++ tl) vF (partF fs ns j)) (hp : (partF fs ns j).contains (ns.take (1 + (j : Int)).toNat) = true) : RowsIn ([(l0, o0)] ++ tl) vF (partF fs ns (j + 1)) := by
  rw [partF_succ]
  have e : (1 + (j : Int)).toNat = j + 1 := by omega
  rw [e] at hp
  unfold addF
  rw [hp]
  exact h
end Mine
namespace Mine
theorem allNe_cons {d a : Addr} {o : Obj} {tl : List (Addr × Obj)} (h1 : @Ne Nat a d) (h2 : AllNe d tl) : AllNe d ((a, o) :: tl) := ⟨h1, h2⟩
end Mine
end
-- R35
section
open PySem PySem.W PySem.Spec PySem.Calls PyProof.Rows PyProof.Rows.LCg PyProof.Rows.LCp
set_option Elab.async false
set_option maxRecDepth 100000
set_option maxHeartbeats 2000000
namespace Mine
/-- an int, the heap as it was -/
def PureInt (z : Int) (s₁ : Shared) (y : Value) (s' : Shared) : Prop := ∃ t tk, y = .int z t ∧ s' = { s₁ with toks := tk }
theorem PureInt.mk' {z : Int} {s₁ : Shared} {t : Tok} {tk : Nat} : PureInt z s₁ (.int z t) { s₁ with toks := tk } := ⟨t, tk, rfl, rfl⟩
section
variable {prog : Program} {w : World} {A : Around} {E : Value → Shared → Prop} {s : Shared} {h₀ : Heap} {L : Addr} {m : Str → Option Value} {env : Env}
theorem block_Z {elt iter : Expr} {x x₂ : Str} {px px₂ tp : Pos} {tk} {scope : Scope} {cl : List (Str × Addr)} {pos : Pos} {s₂ : Shared} {I : Addr} {fp wr : List Addr} {n : Nat} {Pt : Nat → Array Value → Prop} {St : Nat → Heap → Prop} {Mid : Nat → Addr → Heap → Prop} {news : List (Addr × Obj)}
    {G : Nat → Int} {RR : Value → Addr → Result → Shared → Prop}
    (W : WalksT prog w A I fp wr n Pt St Mid) (hsz : n ≤ 100000) (hP : ∀ i vals, Pt i vals → ∃ v₁ v₂, vals = #[v₁, v₂])
    (hcell : ∀ y ∈ scope.names, y.2 ≠ .cell) (hkind : scope.kind = .function) (hx : scope.names.lookup x = some .local) (hx₂ : scope.names.lookup x₂ = some .local) (hxx : x ≠ x₂) (hh : A.handled = none) (hst : St 0 s₂.heap) (hfp : ∀ b ∈ fp, b < s₂.heap.objs.size)
    (F : Fr h₀ L s₂.heap m) (N : News h₀ L s₂.heap news) (hLw : L ∉ wr) (hw₀ : ∀ b ∈ wr, h₀.get? b = none) (off : ∀ p ∈ news, p.1 ∉ wr)
    (turn : ∀ i v₁ v₂ C oC m₂ h tk (E' : Value → Shared → Prop), i < n → Pt i #[v₁, v₂] → NsObj oC m₂ → m₂ x = some v₁ → m₂ x₂ = some v₂ → Fr h₀ L h m → News h₀ L h ((C, oC) :: news) →
      wpAny (model prog w) A (eval elt (compEnvC scope cl C env)) (PureInt (G i) { s₂ with heap := h, toks := tk }) E' { s₂ with heap := h, toks := tk })
    (hRR : ∀ D C h tk m' vs, Fr h₀ L h m → News h₀ L h ((D, lst vs) :: news) → Off1 D news → IntsAre vs ((List.range n).map G) → h.Ns C m' → h₀.get? C = none → h₀.get? D = none → C ≠ L → D ≠ L → C ≠ D → (∀ p ∈ news, p.1 ≠ C) → RR (.ref D) C (.ok .next) { s₂ with heap := h, toks := tk }) :
    wpAny (model prog w) A (newList []) (fun acc s₃ => wpAny (model prog w) A (newFunctionEnv scope env.globals cl [] env.qual none .none (some env)) (fun cenv s₄ =>
      codeAny (model prog w) A (.compStart (.ListComp elt [⟨.Tuple [.Name x px, .Name x₂ px₂] tk tp, iter, [], 0⟩] scope pos) 0 (.ref I) acc { cenv with scope := relabel scope env }) (RR acc cenv.locals) s₄) E s₃) E s₂ := by
  refine wpAny_newObj_type (wpAny_newFunctionEnv hcell (by intro y hy; simp at hy) (fun h₁ hns₁ hsb₁ => ?_) hkind)
  dsimp only at hns₁ hsb₁ ⊢
  generalize hH2 : s₂.heap.push { cls := .type "list", dict := none, data := .seq ([] : List Value).toArray } = H2 at hns₁ hsb₁ ⊢
  have hC : H2.objs.size = s₂.heap.objs.size + 1 := by rw [← hH2, Heap.size_push]
  have hDC : s₂.heap.objs.size ≠ H2.objs.size := by rw [hC]; exact Nat.ne_of_lt (Nat.lt_succ_self _)
  have below : ∀ b, b < s₂.heap.objs.size → b ≠ H2.objs.size ∧ b ≠ s₂.heap.objs.size := fun b hb => ⟨by rw [hC]; exact Nat.ne_of_lt (Nat.lt_succ_of_lt hb), Nat.ne_of_lt hb⟩
  have hDf : s₂.heap.objs.size ∉ fp := fun hm => Nat.lt_irrefl _ (hfp _ hm)
  have hCf : H2.objs.size ∉ fp := fun hm => by have := hfp _ hm; rw [hC] at this; exact Nat.lt_irrefl _ (Nat.lt_of_succ_lt this)
  have hDw : s₂.heap.objs.size ∉ wr := fun hm => hDf (W.sub _ hm)
  have hCw : H2.objs.size ∉ wr := fun hm => hCf (W.sub _ hm)
  have old : ∀ b o, s₂.heap.get? b = some o → h₁.get? b = some o := fun b o e => hsb₁.extBut b o (below b (Heap.lt_size e)).1 (Heap.get?_push_of_some _ (hH2 ▸ Heap.get?_push_of_some _ e))
  have hacc : h₁.get? s₂.heap.objs.size = some (lst []) := hsb₁.extBut _ _ hDC (Heap.get?_push_of_some _ (hH2 ▸ Heap.get?_push_size _ rfl))
  have hst₁ : St 0 h₁ := W.frame _ _ _ hst fun b _ o e => old b o e
  have fresh : ∀ a, s₂.heap.objs.size ≤ a → s₂.heap.get? a = none := fun a ha => by
    cases e : s₂.heap.get? a with
    | none => rfl
    | some o' => exact absurd (Heap.lt_size e) (Nat.not_lt.mpr ha)
  have fresh₀ : ∀ a, s₂.heap.objs.size ≤ a → h₀.get? a = none := fun a ha => by
    cases e : h₀.get? a with
    | none => rfl
    | some o' => have := F.keep a o' e; rw [fresh a ha] at this; cases this
  have hD₀ : h₀.get? s₂.heap.objs.size = none := fresh₀ _ (Nat.le_refl _)
  have hC₀ : h₀.get? H2.objs.size = none := fresh₀ _ (by rw [hC]; exact Nat.le_succ _)
  have hLlt : L < s₂.heap.objs.size := F.ns.lt
  have hDL : s₂.heap.objs.size ≠ L := Ne.symm (below L hLlt).2
  have hCL : H2.objs.size ≠ L := Ne.symm (below L hLlt).1
  have offC : ∀ p ∈ news, p.1 ≠ H2.objs.size := fun p hp => (below _ (Heap.lt_size (N p hp).1)).1
  have offD : ∀ p ∈ news, p.1 ≠ s₂.heap.objs.size := fun p hp => (below _ (Heap.lt_size (N p hp).1)).2
  have oldw : ∀ b o, h₀.get? b = some o → b ∉ wr := fun b o e hb => by rw [hw₀ b hb] at e; cases e
  have frw : ∀ {h h' : Heap}, Fr h₀ L h m → (∀ b o, b ∉ wr → h.get? b = some o → h'.get? b = some o) → Fr h₀ L h' m := fun F' hk => ⟨F'.ns.at' fun o e => hk L o hLw e, fun b o e => hk b o (oldw b o e) (F'.keep b o e), F'.above⟩
  have loop : ∀ s₃ : Shared, s₃ = { s₂ with heap := h₁, toks := s₂.toks + ([] : List (Str × Value)).length } →
      codeAny (model prog w) A (.compLoop (.ListComp elt [⟨.Tuple [.Name x px, .Name x₂ px₂] tk tp, iter, [], 0⟩] scope pos) 0 (.ref I) (.ref s₂.heap.objs.size) (compEnvC scope cl H2.objs.size env))
        (RR (.ref s₂.heap.objs.size) H2.objs.size) s₃ := by
    rintro s₃ rfl
    refine codeAny_compLoop_pair
      (fun k s' => ∃ h' tk i vs m', s' = { s₂ with heap := h', toks := tk } ∧ i ≤ n ∧ k = n + 1 - i ∧ IntsAre vs ((List.range i).map G) ∧ St i h' ∧ Fr h₀ L h' m ∧ h'.Ns H2.objs.size m' ∧ News h₀ L h' ((s₂.heap.objs.size, lst vs) :: news)) ?_ (n + 1)
      ⟨h₁, _, 0, [], _, rfl, Nat.zero_le _, rfl, .nil, hst₁, F.keeps old, hns₁, fun p hp => ?_⟩
    · rintro k s' ⟨h', tk, i, vs, m', rfl, hi, rfl, hvs, hst', F', hn', N'⟩
      by_cases hlt : i < n
      · refine W.item i _ _ _ hlt hst' fun T vals h₂ tk₂ hPv hT htup hmid hk₂ => ?_
        obtain ⟨v₁, v₂, rfl⟩ := hP _ _ hPv
        have N₂ : News h₀ L h₂ ((s₂.heap.objs.size, lst vs) :: news) := fun p hp => ⟨hk₂ _ _ (by
          rcases List.mem_cons.mp hp with rfl | hp
          · exact hDw
          · exact off p hp) (N' p hp).1, (N' p hp).2⟩
        refine W.go _ _ _ i T _ _ _ hmid fun h₂' hst₂ hk₂' => ?_
        have htup' : h₂'.IsTuple T #[v₁, v₂] := by
          obtain ⟨o, e, r⟩ := htup
          exact ⟨o, hk₂' _ _ (W.apart _ _ _ hmid) e, r⟩
        have N₂' : News h₀ L h₂' ((s₂.heap.objs.size, lst vs) :: news) := fun p hp => ⟨hk₂' _ _ (by
          rcases List.mem_cons.mp hp with rfl | hp
          · exact hDw
          · exact off p hp) (N₂ p hp).1, (N₂ p hp).2⟩
        have ht : IsTup h₂' T #[v₁, v₂] := htup'
        refine assign_Tuple_tuple hh ht rfl rfl fun h₅ he => ?_
        have he' : ∀ b o, h₂'.get? b = some o → h₅.get? b = some o := fun b o e => he b o (Nat.ne_of_lt (Heap.lt_size e)) e
        refine assignInOrder_cons (wpAny_assign_Name (wpAny_storeName_local (lookup_relabel_local hx) (((hn'.at' fun o e => hk₂ _ o hCw e).at' fun o e => hk₂' _ o hCw e).at' fun o e => he' _ o e) (fun h₆ hn₆ hs₆ => ?_) (by simp [compEnvC, relabel, hkind])))
        refine assignInOrder_cons (wpAny_assign_Name (wpAny_storeName_local (lookup_relabel_local hx₂) hn₆ (fun h₃ hn₃ hs₃ => ?_) (by simp [compEnvC, relabel, hkind])))
        refine assignInOrder_nil ?_
        have old3 : ∀ b o, b ≠ H2.objs.size → h₂'.get? b = some o → h₃.get? b = some o := fun b o hb e => hs₃.extBut b o hb (hs₆.extBut b o hb (he' b o e))
        have hst₃ : St (i + 1) h₃ := W.frame _ _ _ hst₂ fun b hb o e => old3 b o (fun q => hCf (by rw [← q]; exact hb)) e
        obtain ⟨oC, heC, hoC⟩ := ns_obj hn₃
        have F₃ : Fr h₀ L h₃ m := (((frw (frw F' hk₂) hk₂').keeps he').change hs₆ hCL hC₀).change hs₃ hCL hC₀
        have N₃ : News h₀ L h₃ ((s₂.heap.objs.size, lst vs) :: news) := fun p hp => by
          have z := N₂' p hp
          refine ⟨old3 _ _ ?_ z.1, z.2⟩
          rcases List.mem_cons.mp hp with rfl | hp
          · exact hDC
          · exact offC p hp
        have N₃' : News h₀ L h₃ ((H2.objs.size, oC) :: news) := fun p hp => by
          rcases List.mem_cons.mp hp with rfl | hp
          · exact ⟨heC, hCL, hC₀⟩
          · exact N₃ p (.tail _ hp)
        refine wpAny_mono (turn i v₁ v₂ H2.objs.size oC _ h₃ _ _ hlt hPv hoC (by simp [hxx]) (by simp) F₃ N₃') (fun y s₄ h₄ => ?_) fun _ _ e => e
        obtain ⟨t, tk₄, rfl, rfl⟩ := h₄
        have zD := (N₃ (s₂.heap.objs.size, lst vs) List.mem_cons_self).1
        have hvl := hvs.length
        rw [List.length_map, List.length_range] at hvl
        refine append_at (hsz := by show vs.toArray.size ≤ sizeLine; rw [List.size_toArray, hvl, sizeLine_eq]; omega) zD fun h₅ hs₅ hD₅ => ?_
        refine ⟨n + 1 - (i + 1), by omega, h₅, tk₄, i + 1, vs ++ [.int (G i) t], _, rfl, hlt, rfl, ?_, W.frame _ _ _ hst₃ fun b hb o e => hs₅.extBut b o (fun q => hDf (q ▸ hb)) e, F₃.change hs₅ hDL hD₀, (hoC.ns heC).sameBut hs₅ (Ne.symm hDC), fun p hp => ?_⟩
        · rw [List.range_succ, List.map_append]
          exact hvs.append (.cons _ t .nil)
        · rcases List.mem_cons.mp hp with rfl | hp
          · exact ⟨hD₅.trans (congrArg some (lst_snoc vs _)), hDL, hD₀⟩
          · exact ⟨hs₅.extBut _ _ (offD p hp) (N₃ p (.tail _ hp)).1, (N₃ p (.tail _ hp)).2⟩
      · obtain rfl : i = n := Nat.le_antisymm hi (Nat.not_lt.mp hlt)
        refine W.done _ _ _ hst' fun h₂ tk₂ hk₂ => ?_
        refine hRR _ _ h₂ tk₂ _ vs (frw F' hk₂) (fun p hp => ⟨hk₂ _ _ ?_ (N' p hp).1, (N' p hp).2⟩) ?_ hvs (hn'.at' fun o e => hk₂ _ o hCw e) hC₀ hD₀ hCL hDL (Ne.symm hDC) offC
        · rcases List.mem_cons.mp hp with rfl | hp
          · exact hDw
          · exact off p hp
        · clear hRR turn
          revert offD
          generalize news = l
          induction l with
          | nil => intro _; trivial
          | cons p r ih => intro h; exact ⟨h p (.head _), ih fun q hq => h q (.tail _ hq)⟩
    · rcases List.mem_cons.mp hp with rfl | hp
      · exact ⟨hacc, hDL, hD₀⟩
      · exact ⟨old _ _ (N p hp).1, (N p hp).2⟩
  exact codeAny_compStart_list (loop _ rfl) (W.self 0 _ _ _ hst₁ (loop _ rfl))
end
end Mine
end
-- R36
section
open PySem PySem.W PySem.Spec PySem.Calls PyProof.Rows PyProof.Rows.LCg PyProof.Rows.LCp
set_option Elab.async false
set_option maxRecDepth 100000
set_option maxHeartbeats 2000000
namespace Mine
section
variable {prog : Program} {w : World} {A : Around} {E : Value → Shared → Prop} {s : Shared} {h₀ : Heap} {L : Addr} {m : Str → Option Value} {env : Env}
def SourceZ (prog : Program) (w : World) (A : Around) (h₀ : Heap) (L : Addr) (m : Str → Option Value) (R : Nat → (Nat → Array Value → Prop) → List (Addr × Obj) → Shared → Prop) (it : Value) (s₂ : Shared) : Prop :=
  ∃ (I : Addr) (fp wr : List Addr) (n : Nat) (Pt : Nat → Array Value → Prop) (St : Nat → Heap → Prop) (Mid : Nat → Addr → Heap → Prop) (news : List (Addr × Obj)), it = .ref I ∧ WalksT prog w A I fp wr n Pt St Mid ∧ n ≤ 100000 ∧ (∀ i vals, Pt i vals → ∃ v₁ v₂, vals = #[v₁, v₂]) ∧
    St 0 s₂.heap ∧ (∀ b ∈ fp, b < s₂.heap.objs.size) ∧ Fr h₀ L s₂.heap m ∧ News h₀ L s₂.heap news ∧ L ∉ wr ∧ (∀ b ∈ wr, h₀.get? b = none) ∧ (∀ p ∈ news, p.1 ∉ wr) ∧ R n Pt news s₂
def TurnsZ (prog : Program) (w : World) (A : Around) (h₀ : Heap) (L : Addr) (m : Str → Option Value) (env : Env) (elt : Expr) (x x₂ : Str) (scope : Scope) (cl : List (Str × Addr)) (y : Str) (Q : Flow → Shared → Prop) (n : Nat) (Pt : Nat → Array Value → Prop) (news : List (Addr × Obj)) (s₂ : Shared) : Prop :=
  ∃ G : Nat → Int, (∀ i v₁ v₂ C oC m₂ h tk (E' : Value → Shared → Prop), i < n → Pt i #[v₁, v₂] → NsObj oC m₂ → m₂ x = some v₁ → m₂ x₂ = some v₂ → Fr h₀ L h m → News h₀ L h ((C, oC) :: news) →
      wpAny (model prog w) A (eval elt (compEnvC scope cl C env)) (PureInt (G i) { s₂ with heap := h, toks := tk }) E' { s₂ with heap := h, toks := tk }) ∧
    (∀ D h tk vs, IntsAre vs ((List.range n).map G) → Fr h₀ L h (fun z => if z = y then some (.ref D) else m z) → News h₀ L h ((D, lst vs) :: news) → Off1 D news → Q .next { s₂ with heap := h, toks := tk })
theorem assign_lcz {elt iter : Expr} {x x₂ y : Str} {px px₂ tp py : Pos} {tk} {scope : Scope} {cl : List (Str × Addr)} {pos spos : Pos} {Q : Flow → Shared → Prop} (_F₀ : Fr h₀ L s.heap m) (hLe : env.locals = L) (hh : A.handled = none)
    (hsw : swapsWith (.ListComp elt [⟨.Tuple [.Name x px, .Name x₂ px₂] tk tp, iter, [], 0⟩] scope pos) (some (.Name y py)) spos.line env = pure true)
    (hclos : closureFor scope env = pure cl) (hcell : ∀ z ∈ scope.names, z.2 ≠ .cell) (hkind : scope.kind = .function)
    (hnames : ∀ z ∈ scope.names, z.2 = .local → scope.names.lookup z.1 = some .local) (hx : scope.names.lookup x = some .local) (hx₂ : scope.names.lookup x₂ = some .local) (hxx : x ≠ x₂)
    (hy : env.kindOf y = some .local) (hp : (env.scope.kind == .class || (env.scope.kind == .module && env.locals != env.globals)) = false)
    (h : wpAny (model prog w) A (eval iter env) (fun xv s₁ => wpAny (model prog w) A (pyIter xv) (SourceZ prog w A h₀ L m (TurnsZ prog w A h₀ L m env elt x x₂ scope cl y Q)) E s₁) E s)
    (hs : ∀ x, foldedSetIterable iter env x = pure x := by intro _; rfl) :
    wpAny (model prog w) A (exec (.Assign [.Name y py] (.ListComp elt [⟨.Tuple [.Name x px, .Name x₂ px₂] tk tp, iter, [], 0⟩] scope pos) spos) env) Q E s := by
  subst hLe
  rw [exec_Assign_Name_used _ _ _ _ hsw]
  refine wpAny_bind (wpAny_standAt (wpAny_bind ?_))
  show wpAny _ A (do let _ ← comprehension (.ListComp elt [⟨.Tuple [.Name x px, .Name x₂ px₂] tk tp, iter, [], 0⟩] scope pos) scope env _ (newList []) false (eval iter env) (some (assign (.Name y py) env))) _ _ s
  refine wpAny_bind (wpAny_mono (wpAny_comprehension_free (use := some (assign (.Name y py) env)) (Q := fun _ s' => Q .next s') rfl hs hclos hkind hnames
    (wpAny_mono h (fun xv s₁ h₁ => wpAny_mono h₁ (fun it s₂ h₂ => ?_) fun _ _ e => e) fun _ _ e => e)) (fun _ s' hq => wpAny_pure (wpAny_pure hq)) fun _ _ e => e)
  obtain ⟨I, fp, wr, n, Pt, St, Mid, news, rfl, W, hsz, hP, hst, hfp, F, N, hLw, hw₀, off, G, turn, fin⟩ := h₂
  refine block_Z W hsz hP hcell hkind hx hx₂ hxx hh hst hfp F N hLw hw₀ off turn ?_
  intro D C hp' tk' m' vs F' N' o1 hvs hn hC₀ hD₀ hCL hDL hCD offC
  refine wpAny_assign_Name (wpAny_storeName_local hy F'.ns (fun h₂ hn₂ hs₂ => ?_) hp)
  have F₂ := F'.set hn₂ hs₂
  have N₂ := N'.set hs₂
  refine ⟨m', hn.sameBut hs₂ hCL, fun h'' same => fin D h'' _ vs hvs (F₂.change same hCL hC₀) (fun p hp => ⟨same.extBut _ _ (fun q => ?_) (N₂ p hp).1, (N₂ p hp).2⟩) o1⟩
  rcases List.mem_cons.mp hp with e | hp
  · rw [e] at q; exact hCD q.symm
  · exact offC p hp q
theorem zip_src {a b : Addr} {va vb : List Value} {ka kb : Nat} {as bs : List Int} {news : List (Addr × Obj)} {R : Nat → (Nat → Array Value → Prop) → List (Addr × Obj) → Shared → Prop} (hh : A.handled = none) (F : Fr h₀ L s.heap m) (N : News h₀ L s.heap news)
    (ma : (a, listOf va.toArray ka) ∈ news) (mb : (b, listOf vb.toArray kb) ∈ news) (ia : IntsAre va as) (ib : IntsAre vb bs) (hl : as.length = bs.length) (hz : as.length ≤ 100000)
    (h : ∀ g, R as.length (fun i vals => ∃ x y, va.toArray[i]? = some x ∧ vb.toArray[i]? = some y ∧ vals = #[x, y]) news { s with heap := g }) :
    wpAny (model prog w) A (call (.type "zip") [.ref a, .ref b]) (fun xv s₁ => wpAny (model prog w) A (pyIter xv) (SourceZ prog w A h₀ L m R) E s₁) E s := by
  have la := madeL N ma
  have lb := madeL N mb
  have hla := ia.length
  have hlb := ib.length
  have halt : @LT.lt Nat _ a s.heap.objs.size := Heap.lt_size (N _ ma).1
  have hblt : @LT.lt Nat _ b s.heap.objs.size := Heap.lt_size (N _ mb).1
  have hLs : @LT.lt Nat _ L s.heap.objs.size := F.ns.lt
  have hab : @LE.le Nat _ h₀.objs.size L := F.above
  refine call_zip_2 la lb fun h' hz' h1 h2 h3 h4 hsz hk => ?_
  have F' := fr_stays F hk
  have N' := news_stays N hk
  refine wpAny_pyIter_zip hz' ?_
  have D : ZipApart (s.heap.objs.size + 4) (s.heap.objs.size + 2) (s.heap.objs.size + 3) s.heap.objs.size (s.heap.objs.size + 1) a b := by
    constructor <;> (intro e; have e' : @Eq Nat _ _ := e; omega)
  have W := WalksT.zip2 (prog := prog) (w := w) hh _ _ _ _ _ _ _ D va.toArray vb.toArray
  have hmin : min va.toArray.size vb.toArray.size = as.length := by simp; omega
  rw [hmin] at W
  refine ⟨_, _, _, _, _, _, _, news, rfl, W, hz, ?_, ⟨hz', h1, ⟨_, _, h2⟩, h3, h4, la.at fun o e => hk _ o e, lb.at fun o e => hk _ o e⟩, ?_, F', N', ?_, ?_, ?_, h _⟩
  · rintro i vals ⟨x, y, _, _, rfl⟩; exact ⟨x, y, rfl⟩
  · intro c hc
    show @LT.lt Nat _ c h'.objs.size
    rw [hsz]
    simp only [List.mem_cons, List.not_mem_nil, or_false] at hc
    rcases hc with rfl | rfl | rfl | rfl | rfl | rfl | rfl <;> omega
  · intro hm
    simp only [List.mem_cons, List.not_mem_nil, or_false] at hm
    rcases hm with e | e | e | e <;> (have e' : @Eq Nat _ _ := e; omega)
  · intro c hc
    refine Heap.get?_none_of_le ?_
    simp only [List.mem_cons, List.not_mem_nil, or_false] at hc
    show @LE.le Nat _ h₀.objs.size c
    rcases hc with rfl | rfl | rfl | rfl <;> omega
  · intro p hp hm
    have hq : @LT.lt Nat _ p.1 s.heap.objs.size := Heap.lt_size (N p hp).1
    simp only [List.mem_cons, List.not_mem_nil, or_false] at hm
    rcases hm with e | e | e | e <;> (have e' : @Eq Nat _ _ := e; omega)
end
end Mine
end
-- R37
section
open PySem PySem.W PySem.Spec PySem.Calls PyProof.Rows PyProof.Rows.LCg PyProof.Rows.LCt
set_option Elab.async false
set_option maxRecDepth 100000
set_option maxHeartbeats 1000000
namespace Mine
section
variable {prog : Program} {w : World} {A : Around} {E : Value → Shared → Prop} {s : Shared} {h₀ : Heap} {L : Addr} {m : Str → Option Value} {env : Env} {ct elt iter : Expr} {x : Str} {px pos : Pos} {scope : Scope} {cl : List (Str × Addr)}
theorem assign_lct {y : Str} {py spos : Pos} {Q : Flow → Shared → Prop} (_F₀ : Fr h₀ L s.heap m) (hLe : env.locals = L)
    (hsw : swapsWith (.ListComp elt [⟨.Name x px, iter, [ct], 0⟩] scope pos) (some (.Name y py)) spos.line env = pure true)
    (hclos : closureFor scope env = pure cl) (hcell : ∀ z ∈ scope.names, z.2 ≠ .cell) (hkind : scope.kind = .function)
    (hnames : ∀ z ∈ scope.names, z.2 = .local → scope.names.lookup z.1 = some .local) (hx : scope.names.lookup x = some .local)
    (hy : env.kindOf y = some .local) (hp : (env.scope.kind == .class || (env.scope.kind == .module && env.locals != env.globals)) = false)
    (h : wpAny (model prog w) A (eval iter env) (fun xv s₁ => wpAny (model prog w) A (pyIter xv)
      (Source prog w A h₀ L m fun n P S news s₂ => CompRestT prog w A h₀ L m env ct elt x scope cl s₂ S P (FinA h₀ L m s₂ y Q) n 0 [] news) E s₁) E s)
    (hs : ∀ x, foldedSetIterable iter env x = pure x := by intro _; rfl) :
    wpAny (model prog w) A (exec (.Assign [.Name y py] (.ListComp elt [⟨.Name x px, iter, [ct], 0⟩] scope pos) spos) env) Q E s := by
  subst hLe
  rw [exec_Assign_Name_used _ _ _ _ hsw]
  refine wpAny_bind (wpAny_standAt (wpAny_bind ?_))
  show wpAny _ A (comprehension (.ListComp elt [⟨.Name x px, iter, [ct], 0⟩] scope pos) scope env _ (newList []) false (eval iter env) (some (assign (.Name y py) env)) >>= fun _ => pure ()) _ _ s
  have key := wpAny_comprehension_free (M := model prog w) (A := A) (E := E) (s := s) (pos := firstIterPos [⟨.Name x px, iter, [ct], 0⟩] pos) (e := .ListComp elt [⟨.Name x px, iter, [ct], 0⟩] scope pos) (newAcc := newList []) (first := eval iter env) (use := some (assign (.Name y py) env)) (Q := fun _ s' => Q .next s') rfl hs hclos hkind hnames
    (wpAny_mono h (fun xv s₁ h₁ => wpAny_mono h₁ (fun it s₂ h₂ => by
      obtain ⟨I, fp, n, P, St, S, news, rfl, W, hsz, hIo, hSt, hst, hfp, F, N, hLI, hI0, off, hS, R⟩ := h₂
      refine block_T W hsz hIo hSt hcell hkind hx hst hfp F N hLI hI0 off hS R ?_
      intro D C hp' tk m' ys news' F' N' o1 hn hC₀ hD₀ hCL hDL hCD offC fin
      refine wpAny_assign_Name (wpAny_storeName_local hy F'.ns (fun h₂ hn₂ hs₂ => ?_) hp)
      have F₂ := F'.set hn₂ hs₂
      have N₂ := N'.set hs₂
      refine ⟨m', hn.sameBut hs₂ hCL, fun h'' same => fin D h'' _ (F₂.change same hCL hC₀) (fun p hp => ⟨same.extBut _ _ (fun q => ?_) (N₂ p hp).1, (N₂ p hp).2⟩) o1⟩
      rcases List.mem_cons.mp hp with e | hp
      · rw [e] at q; exact hCD q.symm
      · exact offC p hp q) fun _ _ e => e) fun _ _ e => e)
  exact wpAny_bind (wpAny_mono key (fun _ s' hq => wpAny_pure (wpAny_pure hq)) fun _ _ e => e)
def KeptStr (h₀ : Heap) (L : Addr) (m : Str → Option Value) (s₁ : Shared) (all : List (Addr × Obj)) (g : Str) (y : Value) (s' : Shared) : Prop := (∃ t, y = .str g t) ∧ Kept h₀ L m s₁ all s'
theorem KeptStr.mk' {all news' : List (Addr × Obj)} {h' : Heap} {tk : Nat} {g : Str} {t : Tok} (F : Fr h₀ L h' m) (N : News h₀ L h' news') (hsub : ∀ p ∈ all, p ∈ news') : KeptStr h₀ L m s all g (.str g t) { s with heap := h', toks := tk } := ⟨⟨t, rfl⟩, Kept.mk' F N hsub⟩
def FiltStr (prog : Program) (w : World) (A : Around) (h₀ : Heap) (L : Addr) (m : Str → Option Value) (s₁ : Shared) (all : List (Addr × Obj)) (elt : Expr) (cenv : Env) (qc : Bool) (g : Str) (E' : Value → Shared → Prop) (ok : Bool) (s' : Shared) : Prop :=
  ok = qc ∧ (if ok = true then wpAny (model prog w) A (eval elt cenv) (KeptStr h₀ L m s₁ all g) E' s' else Kept h₀ L m s₁ all s')
theorem FiltStr.mk' {all : List (Addr × Obj)} {cenv : Env} {qc ok : Bool} {g : Str} {E' : Value → Shared → Prop} {s' : Shared} (hq : ok = qc) (hk : Kept h₀ L m s all s') (hy : ok = true → wpAny (model prog w) A (eval elt cenv) (KeptStr h₀ L m s all g) E' s') : FiltStr prog w A h₀ L m s all elt cenv qc g E' ok s' := by
  refine ⟨hq, ?_⟩
  cases ok with
  | true => exact hy rfl
  | false => exact hk
theorem filter_ix {S : List (Addr × Obj) → Prop} {Fin : List Value → List (Addr × Obj) → Prop} {base : List (Addr × Obj)} {n : Nat} {P : Nat → Value → Prop} (q : Nat → Bool) (G : Nat → Str) (hS : S base)
    (turn : ∀ i v zs I oI C oC D m₂ h tk (E' : Value → Shared → Prop), i < n → P i v → NsObj oC m₂ → m₂ x = some v → Fr h₀ L h m → News h₀ L h ((I, oI) :: (C, oC) :: (D, lst zs) :: base) → Off3 I C D base → ((@Ne Nat I C) ∧ (@Ne Nat I D) ∧ (@Ne Nat C D)) →
      wpAny (model prog w) A (isTrue ct (compEnvC scope cl C env) (eval ct (compEnvC scope cl C env))) (FiltStr prog w A h₀ L m { s with heap := h, toks := tk } ((I, oI) :: (C, oC) :: (D, lst zs) :: base) elt (compEnvC scope cl C env) (q i) (G i) E') E' { s with heap := h, toks := tk })
    (fin : ∀ zs, StrsAre zs (((List.range n).filter q).map G) → Fin zs base) : CompRestT prog w A h₀ L m env ct elt x scope cl s S P Fin n 0 [] base := by
  have key : ∀ k i zs, i + k = n → StrsAre zs (((List.range i).filter q).map G) → CompRestT prog w A h₀ L m env ct elt x scope cl s S P Fin k i zs base := by
    intro k
    induction k with
    | zero =>
      intro i zs hi hz
      have e : i = n := by omega
      exact fin zs (e ▸ hz)
    | succ k ih =>
      intro i zs hi hz v I oI C oC D m₂ h tk E' hP hN hv F N off ne
      refine wpAny_mono (turn i v zs I oI C oC D m₂ h tk E' (by omega) hP hN hv F N off ne) (fun ok s' hs => ?_) fun _ _ e => e
      obtain ⟨e, hs⟩ := hs
      have hr : (List.range (i + 1)).filter q = (List.range i).filter q ++ if q i then [i] else [] := by
        rw [List.range_succ, List.filter_append]
        congr 1
        cases hq : q i <;> simp [hq]
      cases hok : ok with
      | true =>
        rw [hok] at hs e
        rw [if_pos rfl] at hs ⊢
        refine wpAny_mono hs (fun y s'' hk => ?_) fun _ _ e => e
        obtain ⟨⟨t, rfl⟩, h', tk', rfl, F', N'⟩ := hk
        refine ⟨h', tk', base, rfl, F', N', off, hS, ih (i + 1) _ (by omega) ?_⟩
        rw [hr, ← e, if_pos rfl, List.map_append]
        exact strsAre_push hz (G i) t
      | false =>
        rw [hok] at hs e
        rw [if_neg (by decide)] at hs ⊢
        obtain ⟨h', tk', rfl, F', N'⟩ := hs
        refine ⟨h', tk', base, rfl, F', N', off, hS, ih (i + 1) _ (by omega) ?_⟩
        rw [hr, ← e, if_neg (by decide), List.append_nil]
        exact hz
  exact key n 0 [] (by omega) .nil
end
end Mine
end
-- P7
section
open PySem PySem.W PySem.Calls PyProof.Rows
set_option Elab.async false
set_option maxRecDepth 100000
set_option maxHeartbeats 1000000
namespace Mine
def chosenOf (ps : List Str) (c : Nat) : List Str := (bitsOf c).map (fun k => ps.getD k (Str.ofString ""))
def toldAt (ps : List Str) (c : Nat) : List Int := toldOf (wsEnd (tsOf (asked (lcpOf (chosenOf ps c)))))
def sumsAt (ps : List Str) : Nat → List Int
  | 0 => List.replicate 8 0
  | i + 1 => (List.range 8).map (fun j => (sumsAt ps i).getD j 0 + sgnOf (i + 1) * (toldAt ps (i + 1)).getD j 0)
theorem toldOf_len (st : WsSt) : (toldOf st).length = 8 := by
  unfold toldOf
  rw [take4]; simp
theorem sumsAt_len (ps : List Str) : ∀ i, (sumsAt ps i).length = 8
  | 0 => by simp [sumsAt]
  | i + 1 => by simp [sumsAt]
theorem bits_lt {c k : Nat} (h : k ∈ bitsOf c) : k < 4 := List.mem_range.mp (List.mem_filter.mp h).1
theorem chosen_len (ps : List Str) {c : Nat} (h1 : 1 ≤ c) (h2 : c ≤ 15) : 1 ≤ (chosenOf ps c).length ∧ (chosenOf ps c).length ≤ 4 := by
  unfold chosenOf
  rw [List.length_map]
  have : ∀ i ∈ List.range 15, 1 ≤ (bitsOf (i + 1)).length ∧ (bitsOf (i + 1)).length ≤ 4 := by decide +kernel
  have := this (c - 1) (List.mem_range.mpr (by omega))
  rw [show c - 1 + 1 = c from by omega] at this
  exact this
theorem chosen_mem {ps : List Str} {c : Nat} (hl : ps.length = 4) {p : Str} (h : p ∈ chosenOf ps c) : p ∈ ps := by
  obtain ⟨k, hk, rfl⟩ := List.mem_map.mp h
  have := bits_lt hk
  rw [List.getD_eq_getElem?_getD, List.getElem?_eq_getElem (by omega)]
  exact List.getElem_mem _
theorem sgn_one {ps : List Str} {c : Nat} (h : (((chosenOf ps c).length : Int)).fmod 2 ≠ 0) : sgnOf c = 1 := by
  unfold chosenOf at h
  rw [List.length_map, Int.fmod_eq_emod_of_nonneg _ (by decide)] at h
  unfold sgnOf
  rw [if_pos (by omega)]
theorem sgn_two {ps : List Str} {c : Nat} (h : (((chosenOf ps c).length : Int)).fmod 2 = 0) : sgnOf c = -1 := by
  unfold chosenOf at h
  rw [List.length_map, Int.fmod_eq_emod_of_nonneg _ (by decide)] at h
  unfold sgnOf
  rw [if_neg (by omega)]
/-- what a walked path is good for -/
structure PathOk (p : Str) : Prop where
  le : p.length ≤ 30
  st : Txt.startswith p (Str.ofString "/") = true
  cl : (comps p).length ≤ 6
  nm : ∀ c ∈ comps p, NameOk c
theorem path_ok {n : Nat} (h : n < 512) : PathOk (walkedPath n) := by
  obtain ⟨o1, o2, o3, o4, o5, o6, o7⟩ := walked_ok h
  refine ⟨o2, o3, ?_, ?_⟩
  · rw [o1]; exact names_len n 3
  · rw [o1]; exact o7
theorem lcp_pre {p : Str} {r : List Str} : lcpOf (p :: r) <+: comps p := lcpAll_iff.mp (List.prefix_refl _) _ (.head _)
theorem comp_short {p c : Str} (h : c ∈ comps p) : c.length ≤ p.length := by
  unfold comps at h
  exact part_short (List.mem_filter.mp h).1
theorem join_size (x : Str) : ∀ ys : List Str, (∀ y ∈ ys, y.length ≤ 30) → (Txt.join x ys).length ≤ ys.length * (30 + x.length) := by
  intro ys h
  rw [join_is]
  have h1 := StrLaws.join_length_le x ys
  have h2 := sum_le h
  have : ys.length * (30 + x.length) = ys.length * 30 + ys.length * x.length := Nat.mul_add _ _ _
  omega
theorem asked_len {ps : List Str} {p : Str} {r : List Str} (e : ps = p :: r) (hp : PathOk p) : (Str.ofString "/" ++ Txt.join (Str.ofString "/") (lcpOf ps)).length ≤ 200 ∧ (asked (lcpOf ps)).length ≤ 300 := by
  subst e
  have hpre := lcp_pre (p := p) (r := r)
  have h1 := hpre.length_le
  have h2 : ∀ y ∈ lcpOf (p :: r), y.length ≤ 30 := fun y hy => Nat.le_trans (comp_short (hpre.subset hy)) hp.le
  have h3 := join_size (Str.ofString "/") _ h2
  have h4 : (Str.ofString "/").length = 1 := by rw [slash_is]; rfl
  have h5 := hp.cl
  have h6 : (lcpOf (p :: r)).length * (30 + (Str.ofString "/").length) ≤ 6 * (30 + (Str.ofString "/").length) := Nat.mul_le_mul_right _ (by omega)
  rw [h4] at h6 h3
  have h7 : (Str.ofString "/" ++ Txt.join (Str.ofString "/") (lcpOf (p :: r))).length ≤ 200 := by rw [Str.length_append, h4]; omega
  refine ⟨h7, ?_⟩
  unfold asked
  have h8 := join_len (Str.ofString "/" ++ Txt.join (Str.ofString "/") (lcpOf (p :: r))) (Str.ofString "")
  have h9 : (Str.ofString "").length = 0 := by rw [nil_is]; rfl
  omega
end Mine
end
-- L8
section
open PySem PySem.W PySem.Calls PyProof.Rows
set_option Elab.async false
set_option maxRecDepth 100000
set_option maxHeartbeats 1000000
namespace Mine
section
variable {prog : Program} {w : World} {A : Around} {E : Value → Shared → Prop} {s : Shared} {env : Env} {h₀ : Heap} {body : List Stmt} {Q : Flow → Shared → Prop}
def Loop3End (h₀ : Heap) (L I : Addr) (oI : Obj) (lF l0 lP c5 c4 c3 c2 c1 : Addr) (o5 o2 o1 : Obj) (t0 : Tok) (vF : List Value) (kF : Nat) (vP : List Value) (kP : Nat) (tl : List (Addr × Obj)) (ps : List Str) (i : Nat) (s : Shared) (f : Flow) (s' : Shared) : Prop :=
  f = .next ∧ ∃ h' tk' m' o3' o4' aS vS kS, s' = { s with heap := h', toks := tk' } ∧ Fr h₀ L h' m' ∧ News h₀ L h' ((I, oI) :: (aS, listOf (List.toArray vS) kS) :: led1 lF l0 lP c5 c4 c3 c2 c1 o5 o4' o3' o1 t0 vF kF vP kP o2 tl) ∧ @Ne Nat aS I ∧ AllNe aS (led1 lF l0 lP c5 c4 c3 c2 c1 o5 o4' o3' o1 t0 vF kF vP kP o2 tl) ∧
    (∃ c, o3'.data = .cell c) ∧ (∃ c, o4'.data = .cell c) ∧ IntsAre vS (sumsAt ps i) ∧ m' (Str.ofString "sums") = some (.ref aS) ∧ m' (Str.ofString "folders") = some (.ref lF)
theorem Loop3End.mk' {h₀ : Heap} {L I lF l0 lP c5 c4 c3 c2 c1 aS : Addr} {oI o5 o2 o1 o3' o4' : Obj} {t0 : Tok} {vF vP vS : List Value} {kF kP kS i : Nat} {tl news : List (Addr × Obj)} {ps : List Str} {s : Shared} {h' : Heap} {tk' : Nat} {m' : Str → Option Value}
    (F : Fr h₀ L h' m') (N : News h₀ L h' news) (h1 : m' (Str.ofString "sums") = some (.ref aS)) (h2 : m' (Str.ofString "folders") = some (.ref lF)) (hi : IntsAre vS (sumsAt ps i)) (hsub : ∀ p ∈ (I, oI) :: (aS, listOf vS.toArray kS) :: led1 lF l0 lP c5 c4 c3 c2 c1 o5 o4' o3' o1 t0 vF kF vP kP o2 tl, p ∈ news)
    (hne : @Ne Nat aS I) (hall : AllNe aS (led1 lF l0 lP c5 c4 c3 c2 c1 o5 o4' o3' o1 t0 vF kF vP kP o2 tl)) (h3 : ∃ c, o3'.data = .cell c) (h4 : ∃ c, o4'.data = .cell c) : Loop3End h₀ L I oI lF l0 lP c5 c4 c3 c2 c1 o5 o2 o1 t0 vF kF vP kP tl ps i s .next { s with heap := h', toks := tk' } :=
  ⟨rfl, h', tk', m', o3', o4', aS, vS, kS, rfl, F, fun p hp => N p (hsub p hp), hne, hall, h3, h4, hi, h1, h2⟩
theorem loop3_rule {target : Expr} {r lF l0 lP c5 c4 c3 c2 c1 aS : Addr} {o5 o4 o3 o2 o1 : Obj} {t0 t u v : Tok} {m₀ : Str → Option Value} {vP vF vS : List Value} {kP kF kS : Nat} {tl : List (Addr × Obj)} {j1 : Addr × Obj} {ps : List Str}
    (hh : A.handled = none) (hr : IsRange s.heap r 1 16 1 t u v) (F : Fr h₀ env.locals s.heap m₀)
    (N : News h₀ env.locals s.heap ((aS, listOf vS.toArray kS) :: j1 :: led1 lF l0 lP c5 c4 c3 c2 c1 o5 o4 o3 o1 t0 vF kF vP kP o2 tl)) (hgo : ∀ I v, letOwnedTupleGo target (.ref I) v = pure ())
    (hall : AllNe aS (led1 lF l0 lP c5 c4 c3 c2 c1 o5 o4 o3 o1 t0 vF kF vP kP o2 tl)) (h3 : ∃ c, o3.data = .cell c) (h4 : ∃ c, o4.data = .cell c) (hi : IntsAre vS (sumsAt ps 0))
    (hsu : m₀ (Str.ofString "sums") = some (.ref aS)) (hfo : m₀ (Str.ofString "folders") = some (.ref lF))
    (turn : ∀ (i : Nat) u I oI m o3 o4 aS vS kS s₁, i < 15 → AllNe I ((aS, listOf (List.toArray vS) kS) :: led1 lF l0 lP c5 c4 c3 c2 c1 o5 o4 o3 o1 t0 vF kF vP kP o2 tl) → AllNe aS (led1 lF l0 lP c5 c4 c3 c2 c1 o5 o4 o3 o1 t0 vF kF vP kP o2 tl) →
      (∃ c, o3.data = .cell c) → (∃ c, o4.data = .cell c) → IntsAre vS (sumsAt ps i) → m (Str.ofString "sums") = some (.ref aS) → m (Str.ofString "folders") = some (.ref lF) →
      Fr h₀ env.locals s₁.heap m → News h₀ env.locals s₁.heap ((I, oI) :: (aS, listOf vS.toArray kS) :: led1 lF l0 lP c5 c4 c3 c2 c1 o5 o4 o3 o1 t0 vF kF vP kP o2 tl) →
      wpAny (model prog w) A (assign target env (.int (1 + i) u)) (fun _ s₂ => wpAny (model prog w) A (execs body env) (Loop3End h₀ env.locals I oI lF l0 lP c5 c4 c3 c2 c1 o5 o2 o1 t0 vF kF vP kP tl ps (i + 1) s₁) E s₂) E s₁)
    (done : ∀ m o3 o4 aS vS kS h tk, AllNe aS (led1 lF l0 lP c5 c4 c3 c2 c1 o5 o4 o3 o1 t0 vF kF vP kP o2 tl) → (∃ c, o3.data = .cell c) → (∃ c, o4.data = .cell c) → IntsAre vS (sumsAt ps 15) → m (Str.ofString "sums") = some (.ref aS) → m (Str.ofString "folders") = some (.ref lF) →
      Fr h₀ env.locals h m → News h₀ env.locals h ((aS, listOf (List.toArray vS) kS) :: led1 lF l0 lP c5 c4 c3 c2 c1 o5 o4 o3 o1 t0 vF kF vP kP o2 tl) → Q .next { s with heap := h, toks := tk }) :
    wpAny (model prog w) A (pyIter (.ref r)) (fun it s₂ => LoopAtT prog w A h₀ env target body Q E it s₂) E s := by
  refine iter_rngT (n := 15) (news₀ := (aS, listOf vS.toArray kS) :: led1 lF l0 lP c5 c4 c3 c2 c1 o5 o4 o3 o1 t0 vF kF vP kP o2 tl)
    (fun i m nx => ∃ o3 o4 aS vS kS, nx = (aS, listOf (List.toArray vS) kS) :: led1 lF l0 lP c5 c4 c3 c2 c1 o5 o4 o3 o1 t0 vF kF vP kP o2 tl ∧ AllNe aS (led1 lF l0 lP c5 c4 c3 c2 c1 o5 o4 o3 o1 t0 vF kF vP kP o2 tl) ∧ (∃ c, o3.data = .cell c) ∧ (∃ c, o4.data = .cell c) ∧ IntsAre vS (sumsAt ps i) ∧
      m (Str.ofString "sums") = some (.ref aS) ∧ m (Str.ofString "folders") = some (.ref lF)) hh hr rfl rfl F N (fun p hp => by
      rcases List.mem_cons.mp hp with e | hp
      · rw [e]; exact .head _
      · exact .tail _ (.tail _ hp)) hgo ⟨o3, o4, aS, vS, kS, rfl, hall, h3, h4, hi, hsu, hfo⟩ ?_ ?_
  · rintro i u' I oI m₁ nx s₁ hi' ⟨o3, o4, aS, vS, kS, rfl, b0, b1, b2, b3, b4, b5⟩ hI F N
    refine wpAny_mono (turn i u' I oI m₁ o3 o4 aS vS kS s₁ hi' hI b0 b1 b2 b3 b4 b5 F N) (fun _ s₂ hs => wpAny_mono hs (fun f s' hs => ?_) fun _ _ e => e) (fun _ _ e => e)
    obtain ⟨rfl, h', tk', m', o3', o4', aS', vS', kS', rfl, F', N', ha, b0', b1', b2', b3', b4', b5'⟩ := hs
    refine ⟨rfl, h', tk', m', _, rfl, F', N', ?_, o3', o4', aS', vS', kS', rfl, b0', b1', b2', b3', b4', b5'⟩
    obtain ⟨_, a1, a2, a3, a4, a5, a6, a7, a8, a9⟩ := hI
    exact ⟨ha, a1, a2, a3, a4, a5, a6, a7, a8, a9⟩
  · rintro m₁ nx h₂ tk ⟨o3, o4, aS, vS, kS, rfl, b0, b1, b2, b3, b4, b5⟩ F N
    exact done m₁ o3 o4 aS vS kS h₂ tk b0 b1 b2 b3 b4 b5 F N
theorem pow2 {t u : Tok} {k : Int} {Q : Value → Shared → Prop} (h0 : 0 ≤ k) (h2 : k ≤ 3) (h : ∀ b : Int, b = ((2 ^ k.toNat : Nat) : Int) → 1 ≤ b → b ≤ 8 → Q (.int b s.toks) { s with toks := s.toks + 1 }) :
    wpAny (model prog w) A (binaryOp .Pow (.int 2 t) (.int k u)) (fun v s => Q v s) E s := by
  refine pow_int_small h0 (by omega) (by decide) (h _ (by norm_cast) ?_ ?_)
  · have : k = 0 ∨ k = 1 ∨ k = 2 ∨ k = 3 := by omega
    rcases this with rfl | rfl | rfl | rfl <;> decide
  · have : k = 0 ∨ k = 1 ∨ k = 2 ∨ k = 3 := by omega
    rcases this with rfl | rfl | rfl | rfl <;> decide
theorem bit_is {i k : Nat} {b : Int} (h : b = ((2 ^ (0 + (k : Int) * 1).toNat : Nat) : Int)) : ((1 + (i : Int)).fdiv b).fmod 2 = (((i + 1) / 2 ^ k % 2 : Nat) : Int) := by
  have e : (0 + (k : Int) * 1).toNat = k := by omega
  rw [h, e]
  generalize 2 ^ k = q
  rw [Int.fdiv_eq_ediv_of_nonneg _ (Int.natCast_nonneg q), Int.fmod_eq_emod_of_nonneg _ (by decide)]
  have e2 : (1 + (i : Int)) = ((i + 1 : Nat) : Int) := by omega
  rw [e2]
  norm_cast
end
end Mine
namespace Mine
theorem off1_all {D : Addr} : ∀ {l : List (Addr × Obj)}, LCg.Off1 D l → AllNe D l
  | [], _ => trivial
  | _ :: _, h => ⟨h.1, off1_all h.2⟩
end Mine
end
-- P8
section
open PySem PySem.W PySem.Calls PyProof.Rows
set_option Elab.async false
set_option maxRecDepth 100000
set_option maxHeartbeats 1000000
namespace Mine
theorem addF_mem {fs : List (List Str)} {p f : List Str} : f ∈ addF fs p ↔ f ∈ fs ∨ f = p := by
  unfold addF
  split
  · rename_i h
    have h : p ∈ fs := by simpa using h
    constructor
    · exact .inl
    · rintro (e | rfl)
      · exact e
      · exact h
  · simp
theorem addF_nodup {fs : List (List Str)} {p : List Str} (h : fs.Nodup) : (addF fs p).Nodup := by
  unfold addF
  split
  · exact h
  · rename_i hp
    have hp : p ∉ fs := by simpa using hp
    rw [List.nodup_append]
    refine ⟨h, by simp, ?_⟩
    intro a ha b hb e
    rw [List.mem_singleton.mp hb] at e
    exact hp (e ▸ ha)
theorem addFold_mem : ∀ (qs fs : List (List Str)) (f : List Str), f ∈ qs.foldl addF fs ↔ f ∈ fs ∨ f ∈ qs
  | [], fs, f => by simp
  | q :: qs, fs, f => by
    rw [List.foldl_cons, addFold_mem qs, addF_mem, List.mem_cons, or_assoc]
theorem addFold_nodup : ∀ (qs fs : List (List Str)), fs.Nodup → (qs.foldl addF fs).Nodup
  | [], _, h => h
  | q :: qs, fs, h => by rw [List.foldl_cons]; exact addFold_nodup qs _ (addF_nodup h)
theorem prefs_mem {ns f : List Str} : f ∈ prefs ns ↔ f ≠ [] ∧ f <+: ns := by
  unfold prefs
  rw [List.mem_map]
  constructor
  · rintro ⟨j, hj, rfl⟩
    have hj := List.mem_range.mp hj
    refine ⟨?_, List.take_prefix _ _⟩
    intro e
    have := congrArg List.length e
    rw [List.length_take, List.length_nil] at this
    omega
  · rintro ⟨h1, h2⟩
    have hl := h2.length_le
    have h0 : 0 < f.length := List.length_pos_iff.mpr h1
    refine ⟨f.length - 1, List.mem_range.mpr (by omega), ?_⟩
    rw [show f.length - 1 + 1 = f.length from by omega]
    exact (List.prefix_iff_eq_take.mp h2).symm
theorem folders_mem (xs : List Nat) (f : List Str) : f ∈ foldersOf xs ↔ f = [Str.ofString ""] ∨ ∃ x ∈ xs, f ≠ [] ∧ f <+: namesOf x 3 := by
  have key : ∀ (xs : List Nat) (fs : List (List Str)), f ∈ xs.foldl (fun fs n => (prefs (namesOf n 3)).foldl addF fs) fs ↔ f ∈ fs ∨ ∃ x ∈ xs, f ≠ [] ∧ f <+: namesOf x 3 := by
    intro xs
    induction xs with
    | nil => intro fs; simp
    | cons x xs ih =>
      intro fs
      rw [List.foldl_cons, ih, addFold_mem, prefs_mem, or_assoc]
      simp only [List.mem_cons, exists_eq_or_imp]
  unfold foldersOf
  rw [key, List.mem_singleton]
theorem folders_nodup (xs : List Nat) : (foldersOf xs).Nodup := by
  have key : ∀ (xs : List Nat) (fs : List (List Str)), fs.Nodup → (xs.foldl (fun fs n => (prefs (namesOf n 3)).foldl addF fs) fs).Nodup := by
    intro xs
    induction xs with
    | nil => intro fs h; exact h
    | cons x xs ih => intro fs h; rw [List.foldl_cons]; exact ih _ (addFold_nodup _ _ h)
  exact key xs _ (by simp)
theorem folders_ne {xs : List Nat} {f : List Str} (h : f ∈ foldersOf xs) : f ≠ [] := by
  rcases (folders_mem xs f).mp h with e | ⟨_, _, e, _⟩
  · rw [e]; simp
  · exact e
def lastLen (f : List Str) : Nat := (f.getLastD (Str.ofString "")).length
end Mine
namespace Mine
structure RowOk (f : List Str) : Prop where
  ne : f ≠ []
  ln : f.length ≤ 6
  nm : ∀ c ∈ f, c.length ≤ 30
theorem row_ok {xs : List Nat} (hx : ∀ x ∈ xs, x < 512) {f : List Str} (h : f ∈ foldersOf xs) : RowOk f := by
  rcases (folders_mem xs f).mp h with e | ⟨x, hx', e, hp⟩
  · subst e
    refine ⟨by simp, by simp, ?_⟩
    intro c hc
    rw [List.mem_singleton.mp hc, nil_is]; decide
  · have ho := walked_ok (hx x hx')
    refine ⟨e, Nat.le_trans hp.length_le (names_len x 3), ?_⟩
    intro c hc
    have hc' := hp.subset hc
    rw [← ho.co] at hc'
    exact Nat.le_trans (comp_short hc') ho.le
theorem lastLen_snoc (zs : List Str) (y : Str) : lastLen (zs ++ [y]) = y.length := by
  unfold lastLen; simp
end Mine
end
-- P9
section
open PySem PySem.W PySem.Calls PyProof.Rows
set_option Elab.async false
set_option maxRecDepth 100000
set_option maxHeartbeats 1000000
namespace Mine
theorem addFold_pre : ∀ (qs fs : List (List Str)), fs <+: qs.foldl addF fs
  | [], _ => List.prefix_refl _
  | q :: qs, fs => by
    rw [List.foldl_cons]
    refine List.IsPrefix.trans ?_ (addFold_pre qs _)
    unfold addF; split
    · exact List.prefix_refl _
    · exact List.prefix_append _ _
theorem folders_head (xs : List Nat) : ∃ rest, foldersOf xs = [Str.ofString ""] :: rest := by
  have key : ∀ (xs : List Nat) (fs : List (List Str)), fs <+: xs.foldl (fun fs n => (prefs (namesOf n 3)).foldl addF fs) fs := by
    intro xs
    induction xs with
    | nil => intro fs; exact List.prefix_refl _
    | cons x xs ih => intro fs; rw [List.foldl_cons]; exact (addFold_pre _ _).trans (ih _)
  obtain ⟨r, hr⟩ := key xs [[Str.ofString ""]]
  exact ⟨r, hr.symm⟩
/-- the numbers that the law asks for -/
def dueOf (xs : List Nat) : List Int := (List.range 8).map (fun j => osum (foldersOf xs) (fun f => wt j (lastLen f)))
theorem sums_eq (ps : List Str) : ∀ n, sumsAt ps n = (List.range 8).map (fun j => osum (List.range n) (fun i => sgnOf (i + 1) * (toldAt ps (i + 1)).getD j 0))
  | 0 => by show List.replicate 8 0 = (List.range 8).map (fun _ => (0:Int)); decide
  | n + 1 => by
    show (List.range 8).map _ = _
    refine List.map_congr_left fun j hj => ?_
    rw [List.range_succ, osum_append, osum_cons, osum_nil, sums_eq ps n]
    have hj := List.mem_range.mp hj
    rw [List.getD_eq_getElem?_getD, List.getElem?_map, List.getElem?_range hj]
    simp
theorem chain_sum (w : Nat → Int) : ∀ P : List Str, osum (0 :: P.map (·.length)) w = osum (List.range (P.length + 1)) (fun i => w (lastLen (P.take i))) := by
  have h0 : lastLen [] = 0 := by unfold lastLen; rw [nil_is]; rfl
  have key : ∀ (n : Nat) (P : List Str), P.length = n → osum (0 :: P.map (·.length)) w = osum (List.range (P.length + 1)) (fun i => w (lastLen (P.take i))) := by
   intro n
   induction n with
   | zero => intro P hP; rw [List.eq_nil_of_length_eq_zero hP]; simp [osum, h0]
   | succ n ih0 =>
    intro P' hP'
    obtain ⟨P, c, rfl⟩ : ∃ P c, P' = P ++ [c] := by
      rcases List.eq_nil_or_concat P' with e | ⟨P, c, e⟩
      · rw [e] at hP'; simp at hP'
      · exact ⟨P, c, by rw [e, List.concat_eq_append]⟩
    have ih := ih0 P (by simpa using hP')
    rw [List.map_append, ← List.cons_append, osum_append, ih, List.length_append, List.length_singleton, List.range_succ (n := P.length + 1), osum_append]
    congr 1
    · refine osum_congr fun i hi => ?_
      have hi := List.mem_range.mp hi
      rw [List.take_append_of_le_length (by omega)]
    · rw [List.map_cons, List.map_nil, osum_cons, osum_nil, osum_cons, osum_nil]
      rw [show P.length + 1 = (P ++ [c]).length from by simp, List.take_length, lastLen_snoc]
  exact fun P => key _ P rfl
theorem told_chain {ps : List Str} {c : Nat} (h : ∀ x ∈ lcpOf (chosenOf ps c), NameOk x) :
    toldAt ps c = (List.range 8).map (fun j => osum (List.range ((lcpOf (chosenOf ps c)).length + 1)) (fun i => wt j (lastLen ((lcpOf (chosenOf ps c)).take i)))) := by
  unfold toldAt
  rw [ts_asked h, toldOf_tabs]
  exact List.map_congr_left fun j _ => chain_sum (wt j) _
theorem lcpOf_iff {ps : List Str} (h : ps ≠ []) {f : List Str} : f <+: lcpOf ps ↔ ∀ p ∈ ps, f <+: comps p := by
  cases ps with
  | nil => exact absurd rfl h
  | cons p r =>
    refine lcpAll_iff.trans ?_
    simp
/-- the law, in plain words -/
theorem law_plain {xs : List Nat} (hl : xs.length = 4) (hx : ∀ x ∈ xs, x < 512) : sumsAt (xs.map walkedPath) 15 = dueOf xs := by
  obtain ⟨a, b, c, d, rfl⟩ : ∃ a b c d, xs = [a, b, c, d] := by
    match xs, hl with
    | [a, b, c, d], _ => exact ⟨a, b, c, d, rfl⟩
  have hco : ∀ x ∈ [a, b, c, d], comps (walkedPath x) = namesOf x 3 := fun x h => (walked_ok (hx x h)).co
  have hnm : ∀ x ∈ [a, b, c, d], ∀ y ∈ namesOf x 3, NameOk y := fun x h => (walked_ok (hx x h)).nm
  generalize hxs : [a, b, c, d] = xs at hl hx hco hnm
  generalize hps : xs.map walkedPath = ps
  have hpl : ps.length = 4 := by rw [← hps, List.length_map, hl]
  rw [sums_eq]
  unfold dueOf
  refine List.map_congr_left fun j hj => ?_
  have hj := List.mem_range.mp hj
  obtain ⟨rest, hrest⟩ := folders_head xs
  have hnd := folders_nodup xs
  rw [hrest] at hnd
  have hnd2 := List.nodup_cons.mp hnd
  have hne : [] ∉ rest := fun h => folders_ne (xs := xs) (f := []) (by rw [hrest]; exact .tail _ h) rfl
  have h0 : lastLen [] = lastLen [Str.ofString ""] := by unfold lastLen; rfl
  have e1 : osum (foldersOf xs) (fun f => wt j (lastLen f)) = osum ([] :: rest) (fun f => wt j (lastLen f)) := by
    rw [hrest, osum_cons, osum_cons, h0]
  rw [e1]
  let n : Nat → List Str := fun k => comps (ps.getD k (Str.ofString ""))
  have hcm : ∀ i, 1 ≤ i → i ≤ 15 → ∀ x ∈ lcpOf (chosenOf ps i), NameOk x := by
    intro i h1 h2 x hx'
    obtain ⟨p, r, hp⟩ : ∃ p r, chosenOf ps i = p :: r := by
      have := (chosen_len ps h1 h2).1
      cases hq : chosenOf ps i with
      | nil => rw [hq] at this; simp at this
      | cons p r => exact ⟨p, r, rfl⟩
    have hpm := chosen_mem hpl (p := p) (c := i) (by rw [hp]; exact .head _)
    rw [hp] at hx'
    rw [← hps] at hpm
    obtain ⟨y, hy, rfl⟩ := List.mem_map.mp hpm
    exact (path_ok (hx y hy)).nm x (lcp_pre.subset hx')
  have e2 : osum (List.range 15) (fun i => sgnOf (i + 1) * (toldAt ps (i + 1)).getD j 0) = osum (List.range 15) (fun i => sgnOf (i + 1) * osum (List.range ((lcpOf (chosenOf ps (i + 1))).length + 1)) (fun k => wt j (lastLen ((lcpOf (chosenOf ps (i + 1))).take k)))) := by
    refine osum_congr fun i hi => ?_
    have hi := List.mem_range.mp hi
    rw [told_chain (hcm (i + 1) (by omega) (by omega)), List.getD_eq_getElem?_getD, List.getElem?_map, List.getElem?_range hj]
    rfl
  rw [e2]
  refine incl_excl (fun f => wt j (lastLen f)) (All := [] :: rest) (List.nodup_cons.mpr ⟨hne, hnd2.2⟩) n (fun c => lcpOf (chosenOf ps c)) ?_ ?_
  · intro c h1 h2 f
    have hcl := (chosen_len ps h1 h2).1
    rw [lcpOf_iff (by intro e; rw [e] at hcl; simp at hcl)]
    unfold chosenOf
    simp [n]
  · intro f
    have hn : ∀ k (hk : k < 4), n k = namesOf (xs.getD k 0) 3 := by
      intro k hk
      show comps _ = _
      rw [← hps, List.getD_eq_getElem?_getD, List.getElem?_map, List.getD_eq_getElem?_getD, List.getElem?_eq_getElem (by omega)]
      exact hco _ (List.getElem_mem _)
    rw [hn 0 (by omega), hn 1 (by omega), hn 2 (by omega), hn 3 (by omega)]
    have hr : f ∈ rest ↔ ∃ x ∈ xs, f ≠ [] ∧ f <+: namesOf x 3 := by
      have hm := folders_mem xs f
      rw [hrest, List.mem_cons] at hm
      constructor
      · intro h
        rcases hm.mp (.inr h) with e | e
        · exact absurd (e ▸ h) hnd2.1
        · exact e
      · rintro ⟨x, h1, h2, h3⟩
        rcases hm.mpr (.inr ⟨x, h1, h2, h3⟩) with e | e
        · subst e
          have := hnm x h1 (Str.ofString "") (h3.subset (.head _))
          exact absurd (by rw [nil_is]) this.1
        · exact e
    rw [List.mem_cons, hr, ← hxs]
    by_cases hf : f = []
    · subst hf; simp
    · simp [hf]
end Mine
end
-- L9
section
open PySem PySem.W PySem.Calls PyProof.Rows
set_option Elab.async false
set_option maxRecDepth 100000
set_option maxHeartbeats 1000000
namespace Mine
section
variable {prog : Program} {w : World} {A : Around} {E : Value → Shared → Prop} {s : Shared} {env : Env} {h₀ : Heap} {body : List Stmt} {Q : Flow → Shared → Prop}
def Loop4End (h₀ : Heap) (L I : Addr) (oI : Obj) (aU aS c2 : Addr) (base : List (Addr × Obj)) (ns : List Int) (s : Shared) (f : Flow) (s' : Shared) : Prop :=
  f = .next ∧ ∃ h' tk' m' oZ' vU k, s' = { s with heap := h', toks := tk' } ∧ Fr h₀ L h' m' ∧ News h₀ L h' ((I, oI) :: (aU, listOf (List.toArray vU) k) :: (c2, oZ') :: base) ∧ (∃ c, oZ'.data = .cell c) ∧ IntsAre vU ns ∧ m' (Str.ofString "due") = some (.ref aU) ∧ m' (Str.ofString "sums") = some (.ref aS)
theorem Loop4End.mk' {h₀ : Heap} {L I aU aS c2 : Addr} {oI oZ' : Obj} {base news : List (Addr × Obj)} {vU : List Value} {k : Nat} {ns : List Int} {s : Shared} {h' : Heap} {tk' : Nat} {m' : Str → Option Value}
    (F : Fr h₀ L h' m') (N : News h₀ L h' news) (h1 : m' (Str.ofString "due") = some (.ref aU)) (h2 : m' (Str.ofString "sums") = some (.ref aS)) (hi : IntsAre vU ns) (hsub : ∀ p ∈ (I, oI) :: (aU, listOf vU.toArray k) :: (c2, oZ') :: base, p ∈ news)
    (h3 : ∃ c, oZ'.data = .cell c) : Loop4End h₀ L I oI aU aS c2 base ns s .next { s with heap := h', toks := tk' } :=
  ⟨rfl, h', tk', m', oZ', vU, k, rfl, F, fun p hp => N p (hsub p hp), h3, hi, h1, h2⟩
/-- the last loop: a list of ints that grows by one a turn; its name is a cell -/
theorem loop4_base {target : Expr} {r aU aS c2 : Addr} {oZ : Obj} {t u v : Tok} {m₀ : Str → Option Value} {vU : List Value} {kU : Nat} {base news : List (Addr × Obj)} (G : Nat → List Int)
    (hh : A.handled = none) (hr : IsRange s.heap r 1 5 1 t u v) (F : Fr h₀ env.locals s.heap m₀)
    (N : News h₀ env.locals s.heap news) (hsub : ∀ p ∈ (aU, listOf vU.toArray kU) :: (c2, oZ) :: base, p ∈ news) (hgo : ∀ I v, letOwnedTupleGo target (.ref I) v = pure ())
    (h2 : ∃ c, oZ.data = .cell c) (hi : IntsAre vU (G 0)) (hdu : m₀ (Str.ofString "due") = some (.ref aU)) (hsu : m₀ (Str.ofString "sums") = some (.ref aS))
    (turn : ∀ (i : Nat) u I oI m oZ vU k s₁, i < 4 → AllNe I ((aU, listOf (List.toArray vU) k) :: (c2, oZ) :: base) → (∃ c, oZ.data = .cell c) → IntsAre vU (G i) → m (Str.ofString "due") = some (.ref aU) → m (Str.ofString "sums") = some (.ref aS) →
      Fr h₀ env.locals s₁.heap m → News h₀ env.locals s₁.heap ((I, oI) :: (aU, listOf (List.toArray vU) k) :: (c2, oZ) :: base) →
      wpAny (model prog w) A (assign target env (.int (1 + i) u)) (fun _ s₂ => wpAny (model prog w) A (execs body env) (Loop4End h₀ env.locals I oI aU aS c2 base (G (i + 1)) s₁) E s₂) E s₁)
    (done : ∀ m oZ vU k h tk, (∃ c, oZ.data = .cell c) → IntsAre vU (G 4) → m (Str.ofString "due") = some (.ref aU) → m (Str.ofString "sums") = some (.ref aS) →
      Fr h₀ env.locals h m → News h₀ env.locals h ((aU, listOf (List.toArray vU) k) :: (c2, oZ) :: base) → Q .next { s with heap := h, toks := tk }) :
    wpAny (model prog w) A (pyIter (.ref r)) (fun it s₂ => LoopAtT prog w A h₀ env target body Q E it s₂) E s := by
  refine iter_rngT (n := 4) (news₀ := (aU, listOf vU.toArray kU) :: (c2, oZ) :: base)
    (fun i m nx => ∃ oZ vU k, nx = (aU, listOf (List.toArray vU) k) :: (c2, oZ) :: base ∧ (∃ c, oZ.data = .cell c) ∧ IntsAre vU (G i) ∧ m (Str.ofString "due") = some (.ref aU) ∧ m (Str.ofString "sums") = some (.ref aS)) hh hr rfl rfl F N hsub hgo ⟨oZ, vU, kU, rfl, h2, hi, hdu, hsu⟩ ?_ ?_
  · rintro i u' I oI m₁ nx s₁ hi' ⟨oZ, vU, k, rfl, b1, b2, b3, b4⟩ hI F N
    refine wpAny_mono (turn i u' I oI m₁ oZ vU k s₁ hi' hI b1 b2 b3 b4 F N) (fun _ s₂ hs => wpAny_mono hs (fun f s' hs => ?_) fun _ _ e => e) (fun _ _ e => e)
    obtain ⟨rfl, h', tk', m', oZ', vU', k', rfl, F', N', b1', b2', b3', b4'⟩ := hs
    refine ⟨rfl, h', tk', m', _, rfl, F', N', ?_, oZ', vU', k', rfl, b1', b2', b3', b4'⟩
    obtain ⟨a1, a2, a3⟩ := hI
    exact ⟨a1, a2, a3⟩
  · rintro m₁ nx h₂ tk ⟨oZ, vU, k, rfl, b1, b2, b3, b4⟩ F N
    exact done m₁ oZ vU k h₂ tk b1 b2 b3 b4 F N
/-- the same with the ledger of the law at that place -/
def base4 (aL : Addr) (vL : List Value) (kL : Nat) (c5 : Addr) (o5 : Obj) (aS : Addr) (vS : List Value) (kS : Nat) : List (Addr × Obj) := [(aL, listOf vL.toArray kL), (c5, o5), (aS, listOf vS.toArray kS)]
theorem loop4_rule {target : Expr} {r aU aS c2 aL c5 : Addr} {oZ o5 : Obj} {t u v : Tok} {m₀ : Str → Option Value} {vU vL vS : List Value} {kU kL kS : Nat} {news : List (Addr × Obj)} (G : Nat → List Int)
    (hh : A.handled = none) (hr : IsRange s.heap r 1 5 1 t u v) (F : Fr h₀ env.locals s.heap m₀) (N : News h₀ env.locals s.heap news) (h2 : ∃ c, oZ.data = .cell c) (h5 : o5.data = .cell (some (.ref aL)))
    (ma : (aU, listOf vU.toArray kU) ∈ news) (mb : (c2, oZ) ∈ news) (mc : (aL, listOf vL.toArray kL) ∈ news) (md : (c5, o5) ∈ news) (me : (aS, listOf vS.toArray kS) ∈ news)
    (nb : AllNe aU ((c2, oZ) :: base4 aL vL kL c5 o5 aS vS kS)) (nc : AllNe c2 (base4 aL vL kL c5 o5 aS vS kS)) (hgo : ∀ I v, letOwnedTupleGo target (.ref I) v = pure ())
    (hi : IntsAre vU (G 0)) (hdu : m₀ (Str.ofString "due") = some (.ref aU)) (hsu : m₀ (Str.ofString "sums") = some (.ref aS))
    (turn : ∀ (i : Nat) u I oI m oZ vU k s₁, i < 4 → AllNe I ((aU, listOf (List.toArray vU) k) :: (c2, oZ) :: base4 aL vL kL c5 o5 aS vS kS) → AllNe aU ((c2, oZ) :: base4 aL vL kL c5 o5 aS vS kS) → AllNe c2 (base4 aL vL kL c5 o5 aS vS kS) → (∃ c, oZ.data = .cell c) → IntsAre vU (G i) → m (Str.ofString "due") = some (.ref aU) → m (Str.ofString "sums") = some (.ref aS) →
      Fr h₀ env.locals s₁.heap m → News h₀ env.locals s₁.heap ((I, oI) :: (aU, listOf (List.toArray vU) k) :: (c2, oZ) :: base4 aL vL kL c5 o5 aS vS kS) →
      wpAny (model prog w) A (assign target env (.int (1 + i) u)) (fun _ s₂ => wpAny (model prog w) A (execs body env) (Loop4End h₀ env.locals I oI aU aS c2 (base4 aL vL kL c5 o5 aS vS kS) (G (i + 1)) s₁) E s₂) E s₁)
    (done : ∀ m oZ vU k h tk, IntsAre vU (G 4) → m (Str.ofString "due") = some (.ref aU) → m (Str.ofString "sums") = some (.ref aS) →
      Fr h₀ env.locals h m → News h₀ env.locals h ((aU, listOf (List.toArray vU) k) :: (c2, oZ) :: base4 aL vL kL c5 o5 aS vS kS) → Q .next { s with heap := h, toks := tk }) :
    wpAny (model prog w) A (pyIter (.ref r)) (fun it s₂ => LoopAtT prog w A h₀ env target body Q E it s₂) E s := by
  refine loop4_base (aU := aU) (aS := aS) (c2 := c2) (oZ := oZ) (kU := kU) (base := base4 aL vL kL c5 o5 aS vS kS) G hh hr F N ?_ hgo h2 hi hdu hsu ?_ ?_
  · intro p hp
    unfold base4 at hp
    simp only [List.mem_cons, List.not_mem_nil, or_false] at hp
    rcases hp with e | e | e | e | e <;> (rw [e]; assumption)
  · intro i u I oI m oZ vU k s₁ b1 b2 b3 b4 b5 b6 F N
    exact turn i u I oI m oZ vU k s₁ b1 b2 ⟨nb.1, nb.2⟩ nc b3 b4 b5 b6 F N
  · intro m oZ vU k h tk _ b4 b5 b6 F N
    exact done m oZ vU k h tk b4 b5 b6 F N
theorem eq_same {a b L : Addr} {vs us : List Value} {ns ms : List Int} {k j : Nat} {news : List (Addr × Obj)} {Q : Value → Shared → Prop} (N : News h₀ L s.heap news) (ha : (a, listOf vs.toArray k) ∈ news) (hb : (b, listOf us.toArray j) ∈ news) (hi : IntsAre vs ns) (hj : IntsAre us ms) (e : ns = ms) (hu : A.units + 64 < cLine)
    (h : Q (.bool true) s) : wpAny (model prog w) A (compareOp .Eq (.ref a) (.ref b)) Q E s :=
  eq_intsK (madeL N ha) hi (madeL N hb) hj hu (by rw [decide_eq_true e]; exact h)
end
/-- what the last loop makes of the list -/
def dueAt (Ls : List Int) (i : Nat) : List Int := (List.range 4).map (fun (k : Nat) => ((Ls.count (k : Int) : Nat) : Int)) ++ (List.range i).map (fun (j : Nat) => (Ls.map (fun l => (l.fdiv (1 + (j : Int)) + 1) * (1 + (j : Int)))).sum)
theorem dueAt_zero (Ls : List Int) : dueAt Ls 0 = (List.range 4).map (fun (k : Nat) => ((Ls.count (k : Int) : Nat) : Int)) := by unfold dueAt; simp
theorem dueAt_succ (Ls : List Int) (i : Nat) : dueAt Ls i ++ [(Ls.map (fun l => (l.fdiv (1 + (i : Int)) + 1) * (1 + (i : Int)))).sum] = dueAt Ls (i + 1) := by
  unfold dueAt
  rw [List.range_succ (n := i), List.map_append, List.append_assoc]; rfl
theorem dueAt_len (Ls : List Int) (i : Nat) : (dueAt Ls i).length = 4 + i := by unfold dueAt; simp
theorem count_osum (k : Nat) : ∀ ls : List Nat, (((ls.map (fun (l : Nat) => (l : Int))).count (k : Int) : Nat) : Int) = osum ls (fun l => if l = k then 1 else 0)
  | [] => rfl
  | l :: ls => by
    rw [osum_cons, ← count_osum k ls, List.map_cons, List.count_cons]
    by_cases e : l = k
    · subst e; simp; omega
    · have : ((l : Int) == (k : Int)) = false := by rw [beq_eq_false_iff_ne]; omega
      simp [this, e]
theorem dueAt_is (ls : List Nat) : dueAt (ls.map (fun (l : Nat) => (l : Int))) 4 = (List.range 8).map (fun j => osum ls (wt j)) := by
  unfold dueAt
  rw [show (8 : Nat) = 4 + 4 from rfl, List.range_add, List.map_append]
  congr 1
  · refine List.map_congr_left fun k hk => ?_
    have hk := List.mem_range.mp hk
    rw [count_osum]
    refine osum_congr fun l _ => ?_
    unfold wt; rw [if_pos hk]
  · rw [List.map_map]
    refine List.map_congr_left fun j _ => ?_
    show _ = osum ls (wt (4 + j))
    unfold osum
    rw [List.map_map]
    congr 1
    refine List.map_congr_left fun l _ => ?_
    show ((l : Int).fdiv (1 + (j : Int)) + 1) * (1 + (j : Int)) = wt (4 + j) l
    unfold wt
    rw [if_neg (by omega), show 4 + j - 3 = j + 1 from by omega, Int.fdiv_eq_ediv_of_nonneg _ (by omega)]
    have e : (1 + (j : Int)) = ((j + 1 : Nat) : Int) := by omega
    rw [e]
    norm_cast
theorem due_is (xs : List Nat) : dueAt ((foldersOf xs).map (fun f => ((lastLen f : Nat) : Int))) 4 = dueOf xs := by
  have e : (foldersOf xs).map (fun f => ((lastLen f : Nat) : Int)) = ((foldersOf xs).map lastLen).map (fun (l : Nat) => (l : Int)) := by rw [List.map_map]; rfl
  rw [e, dueAt_is]
  unfold dueOf
  exact List.map_congr_left fun j _ => by rw [osum_map]
theorem map_range_get9 {α β : Type} (fs : List α) (d : α) (g : α → β) : ∀ n, n = fs.length → (List.range n).map (fun j => g (fs.getD j d)) = fs.map g := by
  intro n hn
  subst hn
  refine List.ext_getElem (by simp) fun i h1 h2 => ?_
  simp only [List.length_map, List.length_range] at h1
  rw [List.getElem_map, List.getElem_map, List.getElem_range, List.getD_eq_getElem?_getD, List.getElem?_eq_getElem h1]
  rfl
theorem lastLen_le {f : List Str} (h : RowOk f) : lastLen f ≤ 30 := by
  rcases List.eq_nil_or_concat f with e | ⟨zs, y, e⟩
  · exact absurd e h.ne
  · rw [List.concat_eq_append] at e
    subst e
    rw [lastLen_snoc]
    exact h.nm y (by simp)
theorem lens_le {fs : List (List Str)} {Ls : List Int} (h : ∀ f ∈ fs, RowOk f) (e : fs.map (fun f => ((lastLen f : Nat) : Int)) = Ls) : ∀ j, j < Ls.length → 0 ≤ Ls.getD j 0 ∧ Ls.getD j 0 ≤ 30 := by
  intro j hj
  subst e
  rw [List.length_map] at hj
  rw [List.getD_eq_getElem?_getD, List.getElem?_map, List.getElem?_eq_getElem hj]
  have := lastLen_le (h _ (List.getElem_mem hj))
  simp only [Option.map_some, Option.getD_some]
  omega
end Mine
end
-- F15
section
open PySem PySem.W PySem.Calls PyProof.Rows PyProof.Rows.LCg PyProof.Rows.LCt
set_option Elab.async false
set_option maxRecDepth 100000
set_option maxHeartbeats 8000000
namespace Mine
local macro_rules | `(tactic| k_ne) => `(tactic| (refine neN ?_; (try dsimp only); first | exact ne_of_all (by assumption) (by k_mem) | exact ne_of_all' (by assumption) (by k_mem) | exact Nat.ne_of_gt (lt_of_all (by assumption) (by k_mem)) | exact Nat.ne_of_lt (lt_of_all (by assumption) (by k_mem)) | omega))
local macro_rules | `(tactic| k_all) => `(tactic| exact tl_ne (by assumption) (by omega))
local macro_rules | `(tactic| walk_at $s:str) => `(tactic| k_extra $s)
theorem law_holds : PySem.Challenge.rw_pd0085_01.Holds := by
  k_with_none
  (k_with "pyIter ref" => ((with_reducible show wpAny _ _ (pyIter (Value.ref _)) (fun it s₂ => LoopAtV _ _ _ _ _ _ _ _ _ it s₂) _ _); refine stop ?_))
  (k_with "exec For Name Call cons nil" => (k_here; (rename Fr _ _ _ _ => lF'); first | ((with_reducible show wpAny _ _ (exec (Stmt.For (Expr.Name (Str.ofString "k") _) _ _ _ _) _) _ _ _); (with_unfolding_all refine' For_invVF lF' ?kwk1 ?kwk2 ?_; (case kwk1 => exact rfl); (case kwk2 => exact rfl); k_whole)) | (refine' For_invTF lF' ?_ ?kwhs; (case kwhs => (intro _; exact rfl)))))
  (k_with "look" => first | assumption | exact if_pos rfl | (refine (if_neg (by decide)).trans ?_; walk_at "look"))
  (k_with "eval Name" => (k_here; k_dflt (refine' nameX_L ?kwF ?kwv ?_ ?kwa ?kwb; (case kwF => k_asm); (case kwa => rfl); (case kwb => rfl); (case kwv => walk_at "look"); k_whole)))
  (k_with "pyIter ref" => ((with_reducible show wpAny _ _ (pyIter (Value.ref _)) (fun it s₂ => LoopAtT _ _ _ _ _ _ _ _ _ it s₂) _ _); refine stop ?_))
  (k_with "call builtin:sum" => (k_here; k_dflt (refine' sumL ?kwhh ?kwF ?kwN ?kwm ?kwi ?_; (case kwhh => rfl); (case kwF => k_asm); (case kwN => k_asm); (case kwm => k_mem); (case kwi => assumption)); intro kw_h' kw_tk' kw_t' kw_F' kw_N'; (try k_sweep)))
  (k_with "subscriptTail Name Slice ref ref" => (k_here; (with_reducible show wpAny _ _ (subscriptTail _ _ (Value.ref _) (Value.ref _)) _ _ _); k_dflt (refine' slice_step ?kwF ?kwN ?kwl ?kwi ?kwz ?_; (case kwF => k_asm); (case kwN => k_asm); (case kwl => assumption); (case kwi => assumption); (case kwz => omega)); intro kw_h' kw_D' kw_us' kw_ms' kw_l1 kw_F' kw_N' kw_hI'; (try k_sweep)))
  (k_with "subscriptTail" => (k_here; (with_reducible show wpAny _ _ (subscriptTail _ _ (Value.ref _) (Value.int _ _)) _ _ _); k_dflt (refine' ksa_sub ?kwk1 ?kwk2 ?kwk3 ?kwk4 ?kwk5 ?kwk6 ?_ ?kwk7; (case kwk1 => k_asm); (case kwk2 => k_mem); (case kwk3 => exact .cons _ _ (.cons _ _ (.cons _ _ (.cons _ _ .nil)))); (case kwk4 => omega); (case kwk5 => ((show _ < (4 : Int)); omega)); (case kwk6 => omega); (case kwk7 => with_unfolding_all rfl); k_whole); intro _))
  (k_with "call ref" => ((with_reducible show wpAny _ _ (call (Value.ref 207) [Value.int _ _]) _ _ _); refine stop ?_))
  (k_with "call builtin:len" => (k_here; k_dflt (refine' lenS ?kwN ?kwm ?kwi ?kwz ?_; (case kwN => k_asm); (case kwm => k_mem); (case kwi => assumption); (case kwz => omega)); intro _ _))
  (k_with "call builtin:list.append" => (k_here; k_dflt (refine' appendL ?kwF ?kwN ?kwU ?kwz ?_; (case kwF => k_asm); (case kwN => k_asm); (case kwU => k_upd); (case kwz => omega)); intro kw_h' kw_F' kw_N'; (try k_sweep)))
  (k_with "subscriptTail Name Slice ref ref" => (k_here; (with_reducible show wpAny _ _ (subscriptTail _ _ (Value.ref _) (Value.ref _)) _ _ _); k_dflt (refine' slice_upL ?kwF ?kwN ?kwm ?kwi ?kwz ?kwk ?_; (case kwF => k_asm); (case kwN => k_asm); (case kwm => k_mem); (case kwi => assumption); (case kwz => omega); (case kwk => omega)); intro kw_h' kw_D' kw_us' kw_l1 kw_F' kw_N' kw_hS'; (try k_sweep)))
  (k_with "compareOp NotIn" => (k_here; (with_reducible show wpAny _ _ (compareOp CmpOp.NotIn (Value.ref _) (Value.ref _)) _ _ _); k_dflt (refine' notIn_rows ?kwN ?kwl ?kwr ?kwt ?kwa ?kwu ?kwh ?_; (case kwN => k_asm); (case kwl => k_mem); (case kwr => assumption); (case kwt => exact contains_hd (by k_mem) (by (intro kw_q kw_hq; repeat (first | exact kw_hq | refine List.Mem.tail _ ?_)))); (case kwa => k_mem); (case kwu => assumption); (case kwh => (simp only [units_in1, units_deeper, units_caller, cLine_is]; decide)))))
  (k_with "compareOp NotIn ref ref" => walk_at "compareOp NotIn")
  (k_with "binaryOp Mult ref int" => (k_here; k_dflt (refine' mulZ ?kwF ?kwN ?kwm ?kwlo ?kwhi ?_; (case kwF => k_asm); (case kwN => k_asm); (case kwm => k_mem); (case kwlo => omega); (case kwhi => omega)); intro kw_D' kw_us' kw_h' kw_F' kw_N' kw_l1 kw_hI'; (try k_sweep)))
  (k_with "binaryOp Pow int int" => (refine stop ?_))
  (k_with "exec Assign cons ListComp" => (k_here; (with_reducible show wpAny _ _ (exec (Stmt.Assign [Expr.Name (Str.ofString "due") _] (Expr.ListComp _ [⟨Expr.Name _ _, _, [], _⟩] _ _) _) _) _ _ _); k_dflt (refine assign_lc (by k_asm) (by rfl) (by with_unfolding_all rfl) (by rfl) (by decide) (by rfl) (by decide) (by rfl) (by rfl) (by rfl) ?_)))
  (k_with "exec Assign cons ListComp" => (k_here; (with_reducible show wpAny _ _ (exec (Stmt.Assign [Expr.Name _ _] (Expr.ListComp _ [⟨Expr.Name _ _, _, [_], _⟩] _ _) _) _) _ _ _); k_dflt (refine assign_lct (by k_asm) (by rfl) (by with_unfolding_all rfl) (by rfl) (by decide) (by rfl) (by decide) (by rfl) (by rfl) (by rfl) ?_)))
  (k_with "exec Assign cons ListComp" => (k_here; (with_reducible show wpAny _ _ (exec (Stmt.Assign [Expr.Name _ _] (Expr.ListComp _ [⟨Expr.Tuple _ _ _, _, _, _⟩] _ _) _) _) _ _ _); k_dflt (refine assign_lcz (by k_asm) (by rfl) (by rfl) (by with_unfolding_all rfl) (by rfl) (by decide) (by rfl) (by decide) (by rfl) (by rfl) (by decide) (by rfl) (by rfl) ?_)))
  (k_with "subscriptTail" => (k_here; (with_reducible show wpAny _ _ (subscriptTail _ _ (Value.ref _) (Value.int _ _)) _ _ _); k_dflt (refine' itemS ?kwN ?kwm ?kwi ?kwa ?kwb ?kwz ?_; (case kwN => k_asm); (case kwm => k_mem); (case kwi => assumption); (case kwa => omega); (case kwb => omega); (case kwz => omega); intro _)))
  (k_with "call ref" => ((first | (with_reducible show wpAny _ _ (call (Value.ref 134) [Value.ref _]) _ _ _) | (with_reducible show wpAny _ _ (call (Value.ref 115) [Value.str _ _, Value.str _ _]) _ _ _) | (with_reducible show wpAny _ _ (call (Value.ref 212) [Value.str _ _]) _ _ _)); refine stop ?_))
  (k_with "call type:zip" => (refine stop ?_))
  (k_with "eval ListComp" => (k_here; (with_reducible show wpAny _ _ (eval (Expr.ListComp _ [⟨Expr.Name _ _, _, [], _⟩] _ _) _) _ _ _); k_dflt (refine lc_any (by k_asm) (by rfl) (by decide) (by rfl) (by decide) (by rfl) ?_)))
  (k_with "subscriptTail Name UnaryOp ref int" => (refine stop ?_))
  (k_with "exec For Name Call cons nil" => (k_here; (with_reducible show wpAny _ _ (exec (Stmt.For (Expr.Name (Str.ofString "size") _) _ _ _ _) _) _ _ _); (rename Fr _ _ _ _ => lF'); (with_unfolding_all refine' For_invTF lF' ?_ ?kwhs); (case kwhs => (with_unfolding_all (intro _; exact rfl)))))
  (k_with "compareOp Eq ref ref" => (k_here; (with_reducible show wpAny _ _ (compareOp CmpOp.Eq (Value.ref _) (Value.ref _)) _ _ _); (with_unfolding_all refine' eq_same ?kwN ?kwa ?kwb ?kwi ?kwj ?kwe ?kwu ?_; (case kwN => k_asm); (case kwa => k_mem); (case kwb => k_mem); (case kwi => assumption); (case kwj => assumption); (case kwe => assumption); (case kwu => (simp only [units_deeper, units_caller, cLine_is]; decide)))))
  (k_with "pyIter ref" => ((with_reducible show wpAny _ _ (pyIter (Value.ref _)) (Source _ _ _ _ _ _ _) _ _); refine stop ?_))
  refine Mine.hd ?_
  k_go0
  (all_goals try k_fold)
  k_steps
  unfold Stop
  rename IsRange _ _ _ _ _ _ _ _ => rgX
  rename News _ _ _ _ => N9
  rename Fr _ _ _ _ => F9
  rename IntsAre _ _ => hInts
  rename (¬ ((63 : Nat) : Int) < _) => h63
  have TR9 := topRead_of (by assumption : Top _ _ _ _ _ _)
  refine' loop1_rule (l := _) ?hh rgX F9 N9 ?ho ?h1 ?h2 ?hsc ?hfo ?turn ?done
  case hh => rfl
  case ho => exact ⟨by omega, by omega, by omega, by omega, by omega, by omega, by omega⟩
  case h1 => assumption
  case h2 => exact ⟨_, by assumption⟩
  case hsc => exact rfl
  case hfo => exact rfl
  case turn =>
    intro i u I oI m oZ xs vP kP vF kF tl h tk ho hi hm hI F N
    clear F9 N9 rgX
    repeat (with_reducible rename (((_ : Nat) < (_ : Nat)) ∧ _) => q; clear q)
    obtain ⟨w1, w2, w3, w4, w5, w6, w7⟩ := ho
    obtain ⟨b1, ⟨_, b2⟩, b3, b4, b5, b6, b7, b8, b9⟩ := hm
    unfold led1 at hI
    unfold led1 at N
    k_steps
    unfold Stop
    refine' walked_B ?zh ?zF ?zN ?zX ?zT ?zr ?_
    case zh => rfl
    case zF => k_asm
    case zN => k_asm
    case zX => k_asm
    case zT => assumption
    case zr => (simp only [depth_deeper, depth_caller]; decide)
    intro n p ns D' an' vs' kk' u' h' tk' hn hp hns hS' l1 l2 l3 F' N'
    repeat (with_reducible rename (((_ : Nat) < (_ : Nat)) ∧ _) => q; clear q)
    have N2 := news_cut N'
    clear N'
    have hnl := names_len n 3
    rw [hns] at hnl
    have hvP : vP.length = i := by rw [strsAre_length b5, List.length_map, b3]
    have hvF := b6.length
    have hfl := folders_len xs
    k_steps
    unfold Stop
    rename IsRange _ _ _ _ _ _ _ _ => rgY
    rename News _ _ _ _ => N8
    rename Fr _ _ _ _ => F8
    refine' loop2_rule (ns := ns) (fs := foldersOf xs) (n := ns.length) ?zh rgY rfl ?zn F8 N8 ?zgo ?zI ⟨_, b2⟩ b6 b7 ?zsc ?zfo ?zna ?zturn ?zdone
    case zh => rfl
    case zn => omega
    case zgo => (intro _ _; rfl)
    case zI => exact allNe_of fun p hp => allNe_mem hI p (by repeat (first | exact hp | refine List.Mem.tail _ ?_))
    case zsc => walk_at "look"
    case zfo => walk_at "look"
    case zna => walk_at "look"
    case zturn =>
      intro j u2 I2 oI2 m2 oZ2 vF2 kF2 tl2 s2 hj hI2 hIt hz hrf hab hsc hfo hna F N
      obtain ⟨_, hz⟩ := hz
      have hItH := hid9 hIt
      clear hIt
      unfold led1 at hI2
      unfold led1 at N
      have hvF2 := hrf.length
      have hpl := partF_len (foldersOf xs) ns j
      clear N8 F8
      k_steps
      · refine' Loop2End.mk' (vF' := vF2) (kF' := kF2) (tl' := tl2) ?eF ?eN ?esub ?ea1 hItH.out ⟨_, ?ez⟩ (rows_same hrf (by assumption)) hab ?e1 ?e2 ?e3
        case eF => k_asm
        case eN => k_asm
        case esub =>
          refine' led1_sub ?g1 ?g2 ?g3 ?g4 ?g5 ?g6 ?g7 ?g8 ?g9 ?g10 ?g11 ?g12
          case g1 => k_mem
          case g2 => k_mem
          case g3 => k_mem
          case g4 => k_mem
          case g5 => k_mem
          case g6 => k_mem
          case g7 => k_mem
          case g8 => k_mem
          case g9 => k_mem
          case g10 => k_mem
          case g11 => k_mem
          case g12 => (intro q hq; repeat (first | exact hq | refine List.Mem.tail _ ?_))
        case ez => assumption
        case ea1 => exact allNe_of fun p hp => allNe_mem hI2 p (by repeat (first | exact hp | refine List.Mem.tail _ ?_))
        case e1 => walk_at "look"
        case e2 => walk_at "look"
        case e3 => walk_at "look"
      · rename AllLt _ _ => lA
        rename StrsAre _ _ => hS9
        refine' Loop2End.mk' (kF' := kF2 + 1) ?eF ?eN ?esub (allNe_cons ?en1 ?ea1) (allNe_cons ?en2 hItH.out) ⟨_, ?ez⟩ (rows_snoc_lt lA hrf hS9 (by assumption)) ?eab ?e1 ?e2 ?e3
        case eF => k_asm
        case eN => k_asm
        case esub =>
          refine' led1_sub ?g1 ?g2 ?g3 ?g4 ?g5 ?g6 ?g7 ?g8 ?g9 ?g10 ?g11 ?g12
          case g1 => k_mem
          case g2 => k_mem
          case g3 => k_mem
          case g4 => k_mem
          case g5 => k_mem
          case g6 => k_mem
          case g7 => k_mem
          case g8 => k_mem
          case g9 => k_mem
          case g10 => k_mem
          case g11 => k_mem
          case g12 =>
            intro q hq
            rcases List.mem_cons.mp hq with e | hq
            · rw [e]; exact .head _
            · repeat (first | exact hq | refine List.Mem.tail _ ?_)
        case ez => assumption
        case en1 => exact Nat.ne_of_gt (lt_of_all lA (by k_mem))
        case en2 => exact Nat.ne_of_gt (lt_of_all lA (by k_mem))
        case ea1 => exact allNe_of fun p hp => allNe_mem hI2 p (by repeat (first | exact hp | refine List.Mem.tail _ ?_))
        case eab =>
          intro q hq
          rcases List.mem_cons.mp hq with e | hq
          · rw [e]; exact lt_of_all lA (by k_mem)
          · exact hab q hq
        case e1 => walk_at "look"
        case e2 => walk_at "look"
        case e3 => walk_at "look"
    case zdone =>
      intro m2 oZ2 vF2 kF2 tl2 h2 tk2 hIt hz hrf hab hsc hfo F N
      unfold led1 at N
      k_steps
      refine' Loop1End.mk' (n := n) F N ?zs hIt ⟨b1, hz, ?x1, ?x2, ?x3, ?x4, hab, hsc, hfo⟩
      case zs =>
        refine' led1_sub1 ?g12 ?g1 ?g2 ?g3 ?g4 ?g5 ?g6 ?g7 ?g8 ?g9
        case g1 => k_mem
        case g2 => k_mem
        case g3 => k_mem
        case g4 => k_mem
        case g5 => k_mem
        case g6 => k_mem
        case g7 => k_mem
        case g8 => k_mem
        case g9 => k_mem
        case g12 => (intro q hq; repeat (first | exact hq | refine List.Mem.tail _ ?_))
      case x1 => (rw [List.length_append, b3]; rfl)
      case x2 =>
        intro x hx
        rcases List.mem_append.mp hx with e | e
        · exact b4 x e
        · rw [List.mem_singleton.mp e]; exact hn
      case x3 => (rw [List.map_append]; exact strsAre_append b5 (by rw [← hp]; exact .cons _ _ .nil))
      case x4 => (rw [foldersOf_snoc, hns, ← partF_all]; exact hrf)
  case done =>
    intro m oZ xs vP kP vF kF tl h tk ho hm F N
    clear F9 N9 rgX
    repeat (with_reducible rename (((_ : Nat) < (_ : Nat)) ∧ _) => q; clear q)
    obtain ⟨w1, w2, w3, w4, w5, w6, w7⟩ := ho
    obtain ⟨b1, ⟨_, b2⟩, b3, b4, b5, b6, b7, b8, b9⟩ := hm
    have hpl : (xs.map walkedPath).length = 4 := by rw [List.length_map, b3]
    have hpo : ∀ p ∈ xs.map walkedPath, PathOk p := by
      intro p hp
      obtain ⟨x, hx, rfl⟩ := List.mem_map.mp hp
      exact path_ok (b4 x hx)
    obtain ⟨ps, hps⟩ : ∃ ps, ps = xs.map walkedPath := ⟨_, rfl⟩
    rw [← hps] at b5 hpl hpo
    unfold led1 at N
    k_steps
    unfold Stop
    rename IsRange _ _ _ _ _ _ _ _ => rgX
    rename News _ _ _ _ => N9
    rename Fr _ _ _ _ => F9
    rename IntsAre _ _ => I9
    rename AllNe _ _ => A9
    refine' loop3_rule (ps := ps) ?zh rgX F9 N9 ?zgo A9.2 ⟨_, ?z3⟩ ⟨_, ?z4⟩ I9 ?zsu ?zfo ?zturn ?zdone
    case zh => rfl
    case zgo => (intro _ _; rfl)
    case z3 => assumption
    case z4 => assumption
    case zsu => walk_at "look"
    case zfo => walk_at "look"
    case zturn =>
      intro i u I oI m₂ o3 o4 aS vS kS s₂ hi hI hall h3 h4 hS hsu hfo F N
      obtain ⟨_, h3⟩ := h3
      obtain ⟨_, h4⟩ := h4
      unfold led1 at N hI hall
      clear F9 N9 rgX I9 A9
      repeat (with_reducible rename (((_ : Nat) < (_ : Nat)) ∧ _) => q; clear q)
      k_steps
      rename IsRange _ _ _ _ _ _ _ _ => rgZ
      refine' src_rng (n := 4) ?zh rgZ ?zs1 ?zs2 ?zF ?zN ?zz ?_
      case zh => rfl
      case zs1 => rfl
      case zs2 => rfl
      case zF => k_asm
      case zN => k_asm
      case zz => omega
      intro g
      refine' filter_ix (fun k => decide ((i + 1) / 2 ^ k % 2 = 1)) (fun k => ps.getD k (Str.ofString "")) ?zS ?zt ?zfin
      case zS => trivial
      case zt =>
        intro k v zs I3 oI3 C oC D m3 hh3 tk3 E' hk hP hN hv F N off ne
        obtain ⟨u3, rfl⟩ := hP
        k_steps
        unfold Stop
        refine' pow2 ?_ ?_ ?_
        omega
        omega
        intro b hb1 hb2 hb3
        have hbit := bit_is (i := i) hb1
        k_steps
        refine FiltStr.mk' ?_ (Kept.mk' (by k_asm) (by k_asm) (fun p hp => hp)) ?_
        · rw [hbit]
          rcases Nat.mod_two_eq_zero_or_one ((i + 1) / 2 ^ k) with e | e <;> rw [e] <;> rfl
        · intro _
          k_steps
          have e : (0 + (k : Int) * 1).toNat = k := by omega
          rw [e]
          exact KeptStr.mk' (by k_asm) (by k_asm) (fun p hp => hp)
      case zfin =>
        intro zs hz
        have hz : StrsAre zs (chosenOf ps (i + 1)) := hz
        have hcl := chosen_len ps (c := i + 1) (by omega) (by omega)
        have hck : ∀ p ∈ chosenOf ps (i + 1), PathOk p := fun p hp => hpo p (chosen_mem hpl hp)
        intro D hh3 tk3 F N off
        have hoff := off1_all off
        clear off
        k_steps
        unfold Stop
        refine' commonpath_A ?zh ?zF ?zN ?zX ?zT ?zd ?zu ?zC hz hcl.1 hcl.2 ?zb ?zs ?_
        case zh => rfl
        case zF => k_asm
        case zN => k_asm
        case zX => k_asm
        case zT => assumption
        case zd => (simp only [depth_deeper, depth_caller]; decide)
        case zu => (simp only [units_deeper, units_caller]; decide)
        case zC => k_mem
        case zb => exact fun p hp => Nat.le_trans (hck p hp).le (by decide)
        case zs => exact fun p hp => (hck p hp).st
        intro r h' t1 tk' hr F' N'
        obtain ⟨p1, pr, hpp⟩ : ∃ p1 pr, chosenOf ps (i + 1) = p1 :: pr := by
          cases hq : chosenOf ps (i + 1) with
          | nil => rw [hq] at hcl; exact absurd hcl.1 (by decide)
          | cons a b => exact ⟨a, b, rfl⟩
        have hal := asked_len hpp (hck p1 (by rw [hpp]; exact .head _))
        rw [← hr] at hal
        k_steps
        unfold Stop
        refine' join_A ?zh ?zF ?zN ?zX ?zT ?zd ?za ?zb ?_
        case zh => rfl
        case zF => k_asm
        case zN => k_asm
        case zX => k_asm
        case zT => assumption
        case zd => (simp only [depth_deeper, depth_caller]; decide)
        case za => exact Nat.le_trans hal.1 (by decide)
        case zb => (rw [nil_is]; decide)
        intro r2 h'' t2 tk2 hr2 F2 N2
        rw [hr] at hr2
        have hr2 : r2 = asked (lcpOf (chosenOf ps (i + 1))) := hr2
        have hal2 := hal.2
        rw [← hr2] at hal2
        k_steps
        unfold Stop
        refine' told_A ?zh ?zF ?zN ?zX ?zT ?zd ?za ?_
        case zh => rfl
        case zF => k_asm
        case zN => k_asm
        case zX => k_asm
        case zT => assumption
        case zd => (simp only [depth_deeper, depth_caller]; decide)
        case za => omega
        intro DT vT kT hT tkT hvT hneT FT NT
        rw [hr2] at hvT
        have hvT : IntsAre vT (toldAt ps (i + 1)) := hvT
        clear hr hr2
        k_steps
        · unfold Stop
          refine' zip_src ?zh ?zF ?zN ?zma ?zmb hS hvT ?zhl ?zhz ?_
          case zh => rfl
          case zF => k_asm
          case zN => k_asm
          case zma => k_mem
          case zmb => k_mem
          case zhl => (rw [sumsAt_len]; exact (toldOf_len _).symm)
          case zhz => (rw [sumsAt_len]; decide)
          intro g
          have hsg : sgnOf (i + 1) = _ := sgn_one (by assumption)
          refine ⟨fun j => (sumsAt ps i).getD j 0 + sgnOf (i + 1) * (toldAt ps (i + 1)).getD j 0, ?_, ?_⟩
          · intro j v1 v2 C oC m3 hh4 tk4 E' hj hP hN hv1 hv2 F N
            obtain ⟨x1, y1, hx1, hy1, e1⟩ := hP
            obtain ⟨t5, e5⟩ := intsAre_at hS j hj
            obtain ⟨t6, e6⟩ := intsAre_at hvT j (by rw [sumsAt_len] at hj; exact (toldOf_len _).symm ▸ hj)
            have f1 : v1 = x1 ∧ v2 = y1 := by
              have := congrArg Array.toList e1
              simpa using this
            obtain ⟨rfl, rfl⟩ := f1
            have hx1 : vS[j]? = some v1 := by simpa using hx1
            have hy1 : vT[j]? = some v2 := by simpa using hy1
            rw [e5] at hx1
            rw [e6] at hy1
            obtain rfl := Option.some.inj hx1
            obtain rfl := Option.some.inj hy1
            k_steps
            rw [hsg]
            exact PureInt.mk'
          · intro D4 hh4 tk4 vs4 hvs4 F N off4
            rw [sumsAt_len] at hvs4
            have hoff4 := off1_all off4
            clear off4
            k_steps
            refine' Loop3End.mk' ?eF ?eN ?e1 ?e2 hvs4 ?esub ?ene ?eall ⟨_, ?e3⟩ ⟨_, ?e4⟩
            case eF => k_asm
            case eN => k_asm
            case e1 => walk_at "look"
            case e2 => walk_at "look"
            case esub =>
              refine' led1_sub2 ?g12 ?g1 ?g2 ?g3 ?g4 ?g5 ?g6 ?g7 ?g8 ?g9 ?g10
              case g1 => k_mem
              case g2 => k_mem
              case g3 => k_mem
              case g4 => k_mem
              case g5 => k_mem
              case g6 => k_mem
              case g7 => k_mem
              case g8 => k_mem
              case g9 => k_mem
              case g10 => k_mem
              case g12 => (intro q hq; repeat (first | exact hq | refine List.Mem.tail _ ?_))
            case ene => exact ne_of_all' hoff4 (by k_mem)
            case eall =>
              refine allNe_of fun p hp => allNe_mem hoff4 p ?_
              refine' led1_sub1 (x0 := (I, oI)) ?g12 ?g1 ?g2 ?g3 ?g4 ?g5 ?g6 ?g7 ?g8 ?g9 p (.tail _ hp)
              case g1 => k_mem
              case g2 => k_mem
              case g3 => k_mem
              case g4 => k_mem
              case g5 => k_mem
              case g6 => k_mem
              case g7 => k_mem
              case g8 => k_mem
              case g9 => k_mem
              case g12 => (intro q hq; repeat (first | exact hq | refine List.Mem.tail _ ?_))
            case e3 => assumption
            case e4 => assumption
        · unfold Stop
          refine' zip_src ?zh ?zF ?zN ?zma ?zmb hS hvT ?zhl ?zhz ?_
          case zh => rfl
          case zF => k_asm
          case zN => k_asm
          case zma => k_mem
          case zmb => k_mem
          case zhl => (rw [sumsAt_len]; exact (toldOf_len _).symm)
          case zhz => (rw [sumsAt_len]; decide)
          intro g
          have hsg : sgnOf (i + 1) = _ := sgn_two (by assumption)
          refine ⟨fun j => (sumsAt ps i).getD j 0 + sgnOf (i + 1) * (toldAt ps (i + 1)).getD j 0, ?_, ?_⟩
          · intro j v1 v2 C oC m3 hh4 tk4 E' hj hP hN hv1 hv2 F N
            obtain ⟨x1, y1, hx1, hy1, e1⟩ := hP
            obtain ⟨t5, e5⟩ := intsAre_at hS j hj
            obtain ⟨t6, e6⟩ := intsAre_at hvT j (by rw [sumsAt_len] at hj; exact (toldOf_len _).symm ▸ hj)
            have f1 : v1 = x1 ∧ v2 = y1 := by
              have := congrArg Array.toList e1
              simpa using this
            obtain ⟨rfl, rfl⟩ := f1
            have hx1 : vS[j]? = some v1 := by simpa using hx1
            have hy1 : vT[j]? = some v2 := by simpa using hy1
            rw [e5] at hx1
            rw [e6] at hy1
            obtain rfl := Option.some.inj hx1
            obtain rfl := Option.some.inj hy1
            k_steps
            rw [hsg]
            exact PureInt.mk'
          · intro D4 hh4 tk4 vs4 hvs4 F N off4
            rw [sumsAt_len] at hvs4
            have hoff4 := off1_all off4
            clear off4
            k_steps
            refine' Loop3End.mk' ?eF ?eN ?e1 ?e2 hvs4 ?esub ?ene ?eall ⟨_, ?e3⟩ ⟨_, ?e4⟩
            case eF => k_asm
            case eN => k_asm
            case e1 => walk_at "look"
            case e2 => walk_at "look"
            case esub =>
              refine' led1_sub2 ?g12 ?g1 ?g2 ?g3 ?g4 ?g5 ?g6 ?g7 ?g8 ?g9 ?g10
              case g1 => k_mem
              case g2 => k_mem
              case g3 => k_mem
              case g4 => k_mem
              case g5 => k_mem
              case g6 => k_mem
              case g7 => k_mem
              case g8 => k_mem
              case g9 => k_mem
              case g10 => k_mem
              case g12 => (intro q hq; repeat (first | exact hq | refine List.Mem.tail _ ?_))
            case ene => exact ne_of_all' hoff4 (by k_mem)
            case eall =>
              refine allNe_of fun p hp => allNe_mem hoff4 p ?_
              refine' led1_sub1 (x0 := (I, oI)) ?g12 ?g1 ?g2 ?g3 ?g4 ?g5 ?g6 ?g7 ?g8 ?g9 p (.tail _ hp)
              case g1 => k_mem
              case g2 => k_mem
              case g3 => k_mem
              case g4 => k_mem
              case g5 => k_mem
              case g6 => k_mem
              case g7 => k_mem
              case g8 => k_mem
              case g9 => k_mem
              case g12 => (intro q hq; repeat (first | exact hq | refine List.Mem.tail _ ?_))
            case e3 => assumption
            case e4 => assumption
    case zdone =>
      intro m3 o3 o4 aS vS kS h3 tk3 hall h3c h4c hS hsu hfo F N
      obtain ⟨_, h3c⟩ := h3c
      obtain ⟨_, h4c⟩ := h4c
      unfold led1 at N hall
      clear F9 N9 rgX I9 A9
      repeat (with_reducible rename (((_ : Nat) < (_ : Nat)) ∧ _) => q; clear q)
      have hfl := folders_len xs
      have hfn : ∀ f ∈ foldersOf xs, RowOk f := fun f hf => row_ok b4 hf
      have hfln := b6.length
      generalize hfs : foldersOf xs = fs at b6 hfl hfn hfln
      k_steps
      unfold Stop
      refine' src_lst (vs := vF) (nn := kF) ?zh ?zF ?zN ?zm ?zz ?_
      case zh => rfl
      case zF => k_asm
      case zN => k_asm
      case zm => k_mem
      case zz => omega
      intro g
      refine' vals_rest (R := fun j v => ∃ t, v = Value.int (lastLen (fs.getD j []) : Nat) t) ?zS ?zt ?zfin
      case zS => k_mem
      case zt =>
        intro j v ys I3 oI3 C oC D m4 hh4 tk4 E' hj hP hN hv F N off ne
        obtain ⟨row, hrow, a, us, ka, rfl, hmem, hus⟩ := b6.get hP
        have hrn := hfn row (List.mem_of_getElem? hrow)
        obtain ⟨hr1, hr2, hr3⟩ := hrn
        rcases strsAre_last hus with ⟨rfl, rfl⟩ | ⟨us', zs, y, u, rfl, rfl, hus'⟩
        · exact absurd rfl hr1
        have hul := strsAre_length hus'
        rw [List.length_append] at hr2
        have hyl := hr3 y (by simp)
        k_steps
        unfold Stop
        refine' item_last ?zN ?zm ?zz ?_
        case zN => k_asm
        case zm =>
          rcases List.mem_cons.mp hmem with e | e
          · rw [e]; k_mem
          · repeat (first | exact e | refine List.Mem.tail _ ?_)
        case zz => omega
        k_steps
        have el : y.length = lastLen (fs.getD j []) := by
          rw [List.getD_eq_getElem?_getD, hrow]
          exact (lastLen_snoc zs y).symm
        rw [el]
        exact ValEnd.mk' (by k_asm) (by k_asm) (fun p hp => hp) ⟨_, rfl⟩
      case zfin =>
        intro vL hvL hvL2
        have hL := ints_of hvL hvL2
        intro D hh3 tk3 F N off
        have hoff := off1_all off
        clear off hvL2
        k_steps
        generalize hLs : (List.range vF.length).map (fun j => ((lastLen (fs.getD j []) : Nat) : Int)) = Ls at hL
        have hLl : Ls.length ≤ 100 := by rw [← hLs, List.length_map, List.length_range]; omega
        unfold Stop
        rename IsRange _ _ _ _ _ _ _ _ => rgZ
        refine' src_rng (n := 4) ?zh rgZ ?zs1 ?zs2 ?zF ?zN ?zz ?_
        case zh => rfl
        case zs1 => rfl
        case zs2 => rfl
        case zF => k_asm
        case zN => k_asm
        case zz => omega
        intro g4
        refine' vals_rest (R := fun k v => ∃ t, v = Value.int (Ls.count ((k : Nat) : Int) : Nat) t) ?zS ?zt ?zfin
        case zS => trivial
        case zt =>
          intro k v ys I3 oI3 C oC D4 m4 hh4 tk4 E' hk hP hN hv F N off ne
          obtain ⟨u4, rfl⟩ := hP
          k_steps
          have e4 : (0 + (k : Int) * 1) = (k : Int) := by omega
          rw [e4]
          exact ValEnd.mk' (by k_asm) (by k_asm) (fun p hp => hp) ⟨_, rfl⟩
        case zfin =>
          intro vU hvU hvU2
          have hU := ints_of hvU hvU2
          intro DU hh5 tk5 F N off5
          have hoff5 := off1_all off5
          clear off5 hvU2
          repeat (with_reducible rename (∀ b o, Heap.get? _ b = some o → _) => q; clear q)
          have hLs2 : fs.map (fun f => ((lastLen f : Nat) : Int)) = Ls := by rw [← hLs]; exact (map_range_get9 fs [] _ _ hfln).symm
          have hLb := lens_le hfn hLs2
          have hfin : sumsAt ps 15 = dueAt Ls 4 := by rw [hps, law_plain b3 b4, ← hLs2, ← hfs, due_is]
          have hvLl := hL.length
          rw [← dueAt_zero] at hU
          clear rgZ
          k_steps
          unfold Stop
          rename IsRange _ _ _ _ _ _ _ _ => rgW
          rename News _ _ _ _ => N9
          rename Fr _ _ _ _ => F9
          refine' loop4_rule (aU := DU) (aS := aS) (oZ := oZ) (dueAt Ls) ?yh rgW F9 N9 ⟨_, ?y2⟩ ?y5 ?ya ?yb ?yc ?yd ?ye ?ynb ?ync ?ygo hU ?ydu ?ysu ?yturn ?ydone
          case yh => rfl
          case y2 => assumption
          case y5 => assumption
          case ya => k_mem
          case yb => k_mem
          case yc => k_mem
          case yd => k_mem
          case ye => k_mem
          case ynb => (unfold base4; exact ⟨ne_of_all hoff5 (by k_mem), ne_of_all hoff5 (by k_mem), ne_of_all hoff5 (by k_mem), ne_of_all hoff5 (by k_mem), trivial⟩)
          case ync => (unfold base4; exact ⟨ne_of_all' hoff (by k_mem), by show @Ne Nat _ _; omega, ne_of_all' hall (by k_mem), trivial⟩)
          case ygo => (intro _ _; rfl)
          case ydu => walk_at "look"
          case ysu => walk_at "look"
          case yturn =>
            intro i u I oI m5 oZ5 vU5 k5 s₅ hi hI hU5n hc2n hz5 hU5 hdu5 hsu5 F N
            obtain ⟨_, hz5⟩ := hz5
            unfold base4 at N hI hU5n hc2n
            have hvU5 := hU5.length
            rw [dueAt_len] at hvU5
            clear F9 N9 rgW hoff5 hoff hall hfl hfn hfln hU hvU hsu hfo
            k_steps
            unfold Stop
            refine' src_lst (vs := vL) ?zh ?zF ?zN ?zm ?zz ?_
            case zh => rfl
            case zF => k_asm
            case zN => k_asm
            case zm => k_mem
            case zz => omega
            intro g6
            refine' vals_rest (R := fun j v => ∃ t, v = Value.int (((Ls.getD j 0).fdiv (1 + (i : Int)) + 1) * (1 + (i : Int))) t) ?zS ?zt ?zfin
            case zS => k_mem
            case zt =>
              intro j v ys I3 oI3 C oC D6 m6 hh6 tk6 E' hj hP hN hv F N off ne
              obtain ⟨t6, e6⟩ := intsAre_at hL j (by omega)
              have hP : vL[j]? = some v := hP
              rw [e6] at hP
              obtain rfl := Option.some.inj hP
              have hlb := hLb j (by omega)
              generalize Ls.getD j 0 = x6 at hlb hv
              obtain ⟨hlb1, hlb2⟩ := hlb
              k_steps
              exact ValEnd.mk' (by k_asm) (by k_asm) (fun p hp => hp) ⟨_, rfl⟩
            case zfin =>
              intro v6 hv6 hv62
              have h6 := ints_of hv6 hv62
              rw [map_range_get9 Ls 0 (fun l => (l.fdiv (1 + (i : Int)) + 1) * (1 + (i : Int))) _ hvLl] at h6
              intro D6 hh6 tk6 F N off6
              have hoff6 := off1_all off6
              clear off6 hv62
              k_steps
              refine' Loop4End.mk' (vU := vU5 ++ [_]) ?eF ?eN ?e1 ?e2 ?e5 ?esub ⟨_, ?e3⟩
              case eF => k_asm
              case eN => k_asm
              case e1 => walk_at "look"
              case e2 => walk_at "look"
              case esub =>
                intro p hp
                unfold base4 at hp
                simp only [List.mem_cons, List.not_mem_nil, or_false] at hp
                rcases hp with e | e | e | e | e | e <;> (rw [e]; k_mem)
              case e5 => (rw [← dueAt_succ]; exact IntsAre.append hU5 (.cons _ _ .nil))
              case e3 => assumption
          case ydone =>
            intro m5 oZ5 vU5 k5 h5 tk5 hU5 hdu5 hsu5 F N
            unfold base4 at N
            clear F9 N9 rgW hoff5 hoff hall hfl hfn hfln hU hvU hsu hfo
            k_steps
end Mine
end
theorem PySem.Challenge.cw_pd0085_01_holds : PySem.Challenge.rw_pd0085_01.Holds :=
  Mine.law_holds
