import PyProof.Rows.All
import Wide.All
import OpenK.AllK
import Wide.FinOn
import PySem.Challenge.RW_pd0083_01
set_option Elab.async false

section
open PySem PySem.W PyProof.Rows PySem.Calls
local macro_rules | `(tactic| walk_at $s:str) => `(tactic| k_extra $s)

section
open PySem PySem.W PyProof.Rows PySem.Calls
set_option maxRecDepth 100000
set_option maxHeartbeats 8000000
set_option linter.all false
set_option rowWalk.seconds 0
namespace Mine
/-! Keeps the proof terms of the walks small: a statement is walked under a post that is one letter, the counter of tokens is one letter. -/
theorem gen_tok {M : Model} {A : Around} {st : Stmt} {rest : List Stmt} {env : Env} {Q : Flow → Shared → Prop} {E : Value → Shared → Prop} {h : Heap} {g : Array GenState} {d : Drawn} {e : Nat} {o : OsState}
    (k : ∀ tk, wpAny M A (execs (st :: rest) env) Q E ⟨h, g, d, tk, o⟩) : wpAny M A (execs (st :: rest) env) Q E ⟨h, g, d, e + 1, o⟩ := k (e + 1)
def Out (R : Flow → Shared → Prop) (f : Flow) (s : Shared) : Prop := R f s
def Leads (P R : Flow → Shared → Prop) : Prop := ∀ f s, P f s → Out R f s
theorem execs_out {M : Model} {A : Around} {st : Stmt} {rest : List Stmt} {env : Env} {Q : Flow → Shared → Prop} {E : Value → Shared → Prop} {s : Shared}
    (k : ∀ R : Flow → Shared → Prop, Leads (fun f s' => match f with | .next => wpAny M A (execs rest env) Q E s' | f => Q f s') R → wpAny M A (exec st env) (Out R) E s) : wpAny M A (execs (st :: rest) env) Q E s :=
  wpAny_execs_cons (k _ fun _ _ h => h)
theorem out_end {P R : Flow → Shared → Prop} {f : Flow} {s : Shared} (w : Leads P R) (h : P f s) : Out R f s := w f s h
end Mine
end

section
open PySem PySem.W PyProof.Rows
set_option maxRecDepth 100000
set_option maxHeartbeats 8000000
set_option rowWalk.seconds 0
namespace Mine
/-! The head in two steps. First the written part of the heap alone (kd, without a look at the top), then the head over it. Between them
the library is told that the written part wants no twin (it would be 3 MB of the compiled file and nothing asks it). -/
section
theorem head_off {P : Prop} (hc : P) (_ : True) : P := hc
local macro_rules | `(tactic| o_head $_H:term) => `(tactic| refine' head_off ?hc ?hw)
local macro_rules | `(tactic| w_witness2) => `(tactic| trivial)
open_top kd for PySem.Challenge.rw_pd0083_01.row
end
def kAs : List Addr := [2, 3, 15, 17, 18, 20, 21, 22, 24, 25, 27, 28, 29, 36, 38, 39, 41, 42, 43, 44, 45, 48, 55, 57, 58, 60, 61, 62, 64, 65, 67, 68, 69, 71, 72, 74, 75, 76, 77, 78, 81, 83, 84, 86, 87, 88, 90, 91, 93, 94, 95, 97, 98, 100, 101, 102, 104, 105, 107, 108, 109, 111, 112, 114, 115, 116, 118, 119, 121, 122, 123, 125, 126, 128, 129, 140, 142, 143, 145, 146, 147, 149, 150, 152, 153, 154, 156, 157, 159, 160, 161, 163, 164, 166, 167, 168, 170, 171, 173, 174, 175, 177, 178, 180, 181, 182, 184, 185, 187, 188, 189, 190, 191, 192, 193, 196, 198, 199, 201, 202, 203, 205, 206, 208, 209, 210, 213, 214, 215, 218, 219]
theorem kd_plain : True := by
  first
  | (have : OpenLaw.Holds { prog := default, name := Str.ofString "", about := [], foot := Function.const _ 4 Mine.kd.heap_1, most := none, bound := none, writes := false } := by (set_option maxHeartbeats 1 in o_law)
     trivial)
  | trivial
section
local macro_rules | `(tactic| k_head) => `(tactic| o_head (kHook Mine.kd.heap_1 Mine.kAs (fun _ => by kernel_rfl)))
open_top hd for PySem.Challenge.rw_pd0083_01
end
theorem walk_off : True := by
  w_top off
  trivial
end Mine
end

section
open PySem PySem.W PyProof.Rows PySem.Calls
set_option maxRecDepth 100000
set_option maxHeartbeats 8000000
set_option linter.all false
set_option rowWalk.seconds 0
namespace Mine
section
variable {prog : Program} {w : World} {A : Around} {E : Value → Shared → Prop} {s : Shared}
theorem sub_str : isSubtype (.type "str") (.type "str") = pure true := by rw [isSubtype_type]; kernel_rfl
theorem ty_str : typeOf (.type "str") = pure (.type "type") := by kernel_rfl
theorem kind_isn : builtinKind "issubclass.nested" = none := by decide +kernel
theorem plain_isn : plainId "issubclass.nested" = true := by decide +kernel
theorem args_isn (a b c : Value) : argsOk "issubclass.nested" ⟨[a, b, c], []⟩ := by unfold argsOk; kernel_rfl

theorem isn_str {k : Value} {dep : Int} {tk : Tok} {Q : Fin → Shared → Prop} (hk : k = .int dep tk)
    (hq : Q (.done (.ret (.bool true))) s) :
    wpAny (model prog w) A (Builtin.«issubclass.nested» ⟨[.type "str", .type "str", k], []⟩) Q E s := by
  subst hk
  have hm := ty_str
  have hself := sub_str
  repeat (any_goals (first | assumption | (rw [if_pos hm]) | (rw [hself]) | wp_step))

theorem isn_tup {tp : Addr} {vs cs : List Value} {tk : Tok} {Q : Fin → Shared → Prop}
    (htp : s.heap.get? tp = some { cls := .type "tuple", data := .seq vs.toArray }) (hv : vs = Value.type "str" :: cs)
    (hq : ∀ tk', Q (.done (.ret (.bool true))) { s with toks := tk' }) :
    wpAny (model prog w) A (Builtin.«issubclass.nested» ⟨[.type "str", .ref tp, .int 0 tk], []⟩) Q E s := by
  obtain ⟨h, g, d, t, os⟩ := s
  have hT2 : (⟨h, g, d, t, os⟩ : Shared).TypeIs (.ref tp) "tuple" := ⟨_, htp, rfl⟩
  have f1 := F.isi_sub_tuple
  repeat (any_goals (first | assumption | wp_step))
  refine wpAny_arrayLoop ?_
  simp only [Option.getD_some, List.toList_toArray]
  subst hv
  rw [List.forIn_cons]
  refine wpAny_bind (wpAny_bind (call_function_entry kind_isn plain_isn F.entry_issubclass_nested (args_isn _ _ _) (isn_str rfl ?_)))
  refine ⟨_, rfl, ?_⟩
  refine wpAny_bind (m := truthy (.bool true)) (wpAny_pure ?_)
  simp only [if_true]
  repeat (any_goals (first | assumption | wp_step))
  exact hq t

theorem issub_call {tp : Addr} {cs : List Value} {Q : Value → Shared → Prop}
    (htp : s.heap.get? tp = some { cls := .type "tuple", data := .seq (Value.type "str" :: cs).toArray })
    (hq : ∀ tk', Q (.bool true) { s with toks := tk' }) :
    wpAny (model prog w) A (call (.builtin "issubclass") [.type "str", .ref tp]) Q E s :=
  call_issubclass (S := fun _ R s => s.heap.get? tp = some { cls := .type "tuple", data := .seq (Value.type "str" :: cs).toArray } ∧ ∀ tk', R (.ok (.ret (.bool true))) { s with toks := tk' })
    (fun _ _ _ _ _ hs => issubclass_outer (isn_tup hs.1 rfl hs.2)) ⟨htp, hq⟩
end
end Mine
end

section
open PySem PySem.W PyProof.Rows PySem.Calls
set_option maxRecDepth 100000
set_option maxHeartbeats 8000000
set_option linter.all false
set_option rowWalk.seconds 0
namespace Mine

theorem call_pure {prog : Program} {w : World} {A : Around} {s : Shared} {K : Frag} {Q E : Value → Shared → Prop}
    {name qual : Str} {params : Arguments} {body : List Stmt} {scope : Scope} {dV kV doc pm cdv ct oc : Value} {an od : Option Addr} {osl : Array (Option Value)} {f : Addr} {args : List Value} {binds : List (Str × Value)}
    (X : K.In s.heap) (hlim : s.heap.NoLimit)
    (ho : K.lookup f = some ⟨oc, od, .func (fnOf name qual params body scope dV kV doc pm an cdv ct), osl⟩) (hcd : codeIn K cdv qual = true) (hroom : A.depth < recursionLimit)
    (hbind : BindsTo s (fnOf name qual params body scope dV kV doc pm an cdv ct) ⟨args, []⟩ binds) (hloc : ∀ y ∈ binds, scope.names.lookup y.1 = some .local)
    (h : ∀ L' h₁, Fr s.heap L' h₁ (fun y => binds.reverse.lookup y) → News s.heap L' h₁ [] →
      wpAny (model prog w) (A.deeper (envOf qual scope L' f cdv)) (execs body (envOf qual scope L' f cdv))
        (fun fl s' => Q (match fl with | .ret v => v | _ => .none) s')
        (fun _ _ => False)
        { s with heap := h₁, toks := s.toks + binds.length })
    (hcell : ∀ x ∈ scope.names, x.2 ≠ .cell) (hco : scope.isCoroutine = false) (hgen : scope.isGenerator = false) (hk : scope.kind = .function) :
    wpAny (model prog w) A (call (.ref f) args) Q E s := by
  refine wpAny_call ?_
  refine codeAny_call_def (fd := fnOf name qual params body scope dV kV doc pm an cdv ct) (body := body) (binds := binds) hroom (X _ _ ho) rfl hlim (codeRec_of X hcd) rfl hbind hcell hloc (fun h₁ hns hk₁ => ?_) hco hgen hk
  exact wpAny_mono (h _ h₁ ⟨hns, hk₁, Nat.le_refl _⟩ News.nil) (fun fl s' hl => hl) fun _ _ y => y.elim


theorem weaken {α : Type} {M : Model} {A : Around} {t : Sem α} {Q : α → Shared → Prop} {E : Value → Shared → Prop} {s : Shared} {d u : Nat}
    (h : wpAny M ⟨none, d, none, none, u⟩ t Q E s) (hh : A.handled = none) (hdp : A.depth ≤ d) (hu : A.units ≤ u) : wpAny M A t Q E s := fun Γ p hΓ =>
  h Γ p ⟨hΓ.1.trans hh, Nat.le_trans hΓ.2.1 hdp, fun _ e => (nomatch e), fun _ e => (nomatch e), Nat.le_trans hΓ.2.2.2.2 hu⟩

theorem stays_fr {h₀ h h' : Heap} {L : Addr} {m : Str → Option Value} (F : Fr h₀ L h m) (st : h.StaysIn h') : Fr h₀ L h' m := by
  obtain ⟨oL, es, ep, hL, r⟩ := F.ns
  exact ⟨⟨oL, es, ep, st _ _ hL, r⟩, fun b o e => st _ _ (F.keep b o e), F.above⟩
theorem stays_news {h₀ h h' : Heap} {L : Addr} {news : List (Addr × Obj)} (N : News h₀ L h news) (st : h.StaysIn h') : News h₀ L h' news :=
  fun p hp => ⟨st _ _ (N p hp).1, (N p hp).2⟩

theorem peek_alloc {α : Type} {K : Frag} {M : Model} {A : Around} {E : Value → Shared → Prop} {Q : α → Shared → Prop} {s : Shared} {o : Obj} {r : Addr → α}
    (X : K.In s.heap) (q : Q (r s.heap.objs.size) { s with heap := s.heap.push o }) :
    ∀ (t : Sem α) (g : Addr → Option α), peek1 K ⟨M.prog, M.w.params⟩ t = some (o, g) → (∀ D, g D = some (r D)) → wpAny M A t Q E s := by
  intro t
  induction t with
  | rule _ k ih => intro g e hg Γ p hΓ; exact ih () g e hg Γ p hΓ
  | point _ k ih => intro g e hg Γ p hΓ; exact ih () g e hg Γ p hΓ
  | ask k ih => intro g e hg Γ p hΓ; exact ih _ g e hg Γ p hΓ
  | load a _ k ih =>
    intro g e hg Γ p hΓ
    simp only [peek1] at e
    split at e
    · rename_i ob ho; exact ⟨ob, X _ _ ho, ih ob g e hg Γ p hΓ⟩
    · cases e
  | alloc ob k _ =>
    intro g e hg
    have e : some (ob, fun D => peek K ⟨M.prog, M.w.params⟩ (k D)) = some (o, g) := e
    obtain ⟨e1, e2⟩ := Prod.mk.inj (Option.some.inj e)
    subst e1
    subst e2
    have X' : K.In (s.heap.push ob) := X.keeps fun b x hb => Heap.get?_push_of_some _ hb
    show wpAny M A (alloc ob >>= k) Q E s
    refine wpAny_bind (wpAny_alloc ?_)
    exact (Looks.of_peek (M := M) (h := s.heap.push ob) X' (hg s.heap.objs.size)).here (s := { s with heap := s.heap.push ob }) q
  | _ => intro g e; cases e

theorem call_rest {prog : Program} {w : World} {A : Around} {s : Shared} {K : Frag} {Q E : Value → Shared → Prop}
    {name qual : Str} {params : Arguments} {body : List Stmt} {scope : Scope} {dV kV doc pm cdv ct oc : Value} {an od : Option Addr} {osl : Array (Option Value)} {f : Addr} {args : List Value} {vs : List Value} {g₁ : Addr → Option (List (Str × Value))} {binds : Addr → List (Str × Value)}
    (X : K.In s.heap) (hlim : s.heap.NoLimit)
    (ho : K.lookup f = some ⟨oc, od, .func (fnOf name qual params body scope dV kV doc pm an cdv ct), osl⟩) (hcd : codeIn K cdv qual = true) (hroom : A.depth < recursionLimit)
    (hp : peek1 K ⟨prog, w.params⟩ (bindArgs (fnOf name qual params body scope dV kV doc pm an cdv ct) ⟨args, []⟩) = some (({ cls := .type "tuple", data := .seq vs.toArray } : Obj), g₁))
    (hg : ∀ D, g₁ D = some (binds D)) (hloc : ∀ D, ∀ y ∈ binds D, scope.names.lookup y.1 = some .local)
    (h : ∀ D L' h₁, Fr s.heap L' h₁ (fun y => (binds D).reverse.lookup y) → News s.heap L' h₁ [(D, ({ cls := .type "tuple", data := .seq vs.toArray } : Obj))] →
      wpAny (model prog w) (A.deeper (envOf qual scope L' f cdv)) (execs body (envOf qual scope L' f cdv))
        (fun fl s' => Q (match fl with | .ret v => v | _ => .none) s')
        (fun _ _ => False)
        { s with heap := h₁, toks := s.toks + (binds D).length })
    (hcell : ∀ x ∈ scope.names, x.2 ≠ .cell) (hco : scope.isCoroutine = false) (hgen : scope.isGenerator = false) (hk : scope.kind = .function) :
    wpAny (model prog w) A (call (.ref f) args) Q E s := by
  refine wpAny_call ?_
  refine codeAny_call_function (fd := fnOf name qual params body scope dV kV doc pm an cdv ct) (body := body) hroom (X _ _ ho) rfl hco hgen rfl (codeRec_of X hcd) ?_
  refine peek_alloc (o := ({ cls := .type "tuple", data := .seq vs.toArray } : Obj)) (r := binds) X ?_ _ g₁ hp hg
  refine wpAny_newFunctionEnv hcell (hloc _) (fun h₁ hns hsb => ⟨(hlim.keeps fun b o e => Heap.get?_push_of_some _ e).fresh _ hsb, codeAny_func ?_⟩) hk
  have hk₁ : ∀ b o, (s.heap.push { cls := .type "tuple", data := .seq vs.toArray }).get? b = some o → h₁.get? b = some o := fun b o e => hsb.extBut b o (Nat.ne_of_lt (Heap.lt_size e)) (Heap.get?_push_of_some _ e)
  have hsz : (s.heap.push { cls := .type "tuple", data := .seq vs.toArray }).objs.size = s.heap.objs.size + 1 := Heap.size_push ..
  refine wpAny_mono (h s.heap.objs.size _ h₁ ⟨hns, fun b o e => hk₁ b o (Heap.get?_push_of_some _ e), ?_⟩ ?_) (fun fl s' hl => hl) fun _ _ y => y.elim
  · show s.heap.objs.size ≤ (s.heap.push _).objs.size
    rw [hsz]; exact Nat.le_succ _
  · intro p hp
    obtain rfl := List.mem_singleton.mp hp
    refine ⟨hk₁ _ _ (Heap.get?_push_size _ rfl), ?_, ?_⟩
    · show s.heap.objs.size ≠ (s.heap.push _).objs.size
      rw [hsz]; omega
    · exact Heap.get?_none_of_le (Nat.le_refl _)

theorem fspath_c {w : World} {A : Around} {s : Shared} {x : Str} {t : Tok} {Q E : Value → Shared → Prop} {mg mb : Str → Option Value} {loose : List Str} {mean : ExcName → Option Value}
    (X : (Mine.kd.heap_1 w.params).In s.heap) (T : Top Mine.hd.view_39 loose mean mg mb s.heap) (hh : A.handled = none) (hdp : A.depth ≤ 900) (hu : A.units ≤ 9000) 
    (h : ∀ h' tk', s.heap.StaysIn h' → Q (.str x t) { s with heap := h', toks := tk' }) :
    wpAny (model PySem.Challenge.rw_pd0083_01.row.prog w) A (call (.ref 94) [.str x t]) Q E s := by
  k_with_none
  k_with "execs cons" => ((with_reducible refine execs_out ?_); intro _ _)
  k_with "execs cons" => (with_reducible refine gen_tok ?_; intro _)
  k_with "Out" => (refine out_end (by with_reducible assumption) ?_; (try dsimp only))
  k_with "mine_rest" => ((case k1 => k_is); (case k2 => k_is); (case k3 => decide); (case c1 => decide); (case c2 => exact rfl); (case c3 => exact rfl); (case c4 => exact rfl))
  k_with "call builtin:issubclass" => (k_here; refine issub_call (News.get (by k_asm) (by k_mem)) ?_; intro _; (try dsimp only))
  refine weaken ?_ hh hdp hu
  clear hh hdp hu A
  revert X
  k_fill
  intro X
  refine' call_pure (binds := [(Str.ofString "path", .str x t)]) (by assumption) (Top.nolimit (by assumption)) ?k1 ?k2 ?k3 ?k4 ?k5 ?_ ?c1 ?c2 ?c3 ?c4
  walk_at "mine_rest"
  (case k4 => exact BindsTo.of_eq rfl)
  (case k5 => exact locs rfl)
  intro L' h' F' N'
  k_steps
  exact h _ _ (Fr.keep (by assumption))

theorem get_sep_c {w : World} {A : Around} {s : Shared} {x : Str} {t : Tok} {Q E : Value → Shared → Prop} {mg mb : Str → Option Value} {loose : List Str} {mean : ExcName → Option Value}
    (X : (Mine.kd.heap_1 w.params).In s.heap) (T : Top Mine.hd.view_39 loose mean mg mb s.heap) (hh : A.handled = none) (hdp : A.depth ≤ 900) (hu : A.units ≤ 9000) 
    (h : ∀ h' tk' t', s.heap.StaysIn h' → Q (.str (Str.ofString "/") t') { s with heap := h', toks := tk' }) :
    wpAny (model PySem.Challenge.rw_pd0083_01.row.prog w) A (call (.ref 108) [.str x t]) Q E s := by
  k_with_none
  k_with "execs cons" => ((with_reducible refine execs_out ?_); intro _ _)
  k_with "execs cons" => (with_reducible refine gen_tok ?_; intro _)
  k_with "Out" => (refine out_end (by with_reducible assumption) ?_; (try dsimp only))
  k_with "mine_rest" => ((case k1 => k_is); (case k2 => k_is); (case k3 => decide); (case c1 => decide); (case c2 => exact rfl); (case c3 => exact rfl); (case c4 => exact rfl))
  k_with "call builtin:issubclass" => (k_here; refine issub_call (News.get (by k_asm) (by k_mem)) ?_; intro _; (try dsimp only))
  refine weaken ?_ hh hdp hu
  clear hh hdp hu A
  revert X
  k_fill
  intro X
  refine' call_pure (binds := [(Str.ofString "path", .str x t)]) (by assumption) (Top.nolimit (by assumption)) ?k1 ?k2 ?k3 ?k4 ?k5 ?_ ?c1 ?c2 ?c3 ?c4
  walk_at "mine_rest"
  (case k4 => exact BindsTo.of_eq rfl)
  (case k5 => exact locs rfl)
  intro L' h' F' N'
  k_steps
  exact h _ _ _ (Fr.keep (by assumption))

theorem fspath_f {w : World} {A : Around} {s : Shared} {x : Str} {t : Tok} {Q E : Value → Shared → Prop} {mg mb : Str → Option Value} {loose : List Str} {mean : ExcName → Option Value}
    {h₀ : Heap} {L : Addr} {m : Str → Option Value} {news : List (Addr × Obj)} (F : Fr h₀ L s.heap m) (N : News h₀ L s.heap news)
    (X : (Mine.kd.heap_1 w.params).In h₀) (T : Top Mine.hd.view_39 loose mean mg mb h₀) (hh : A.handled = none) (hdp : A.depth ≤ 900) (hu : A.units ≤ 9000) 
    (h : ∀ h' tk' , Fr h₀ L h' m → News h₀ L h' news → Q (.str x t) { s with heap := h', toks := tk' }) :
    wpAny (model PySem.Challenge.rw_pd0083_01.row.prog w) A (call (.ref 94) [.str x t]) Q E s :=
  fspath_c (X.keeps F.keep) (T.keeps F.keep) hh hdp hu  fun h' tk'  st => h h' tk'  (stays_fr F st) (stays_news N st)

theorem get_sep_f {w : World} {A : Around} {s : Shared} {x : Str} {t : Tok} {Q E : Value → Shared → Prop} {mg mb : Str → Option Value} {loose : List Str} {mean : ExcName → Option Value}
    {h₀ : Heap} {L : Addr} {m : Str → Option Value} {news : List (Addr × Obj)} (F : Fr h₀ L s.heap m) (N : News h₀ L s.heap news)
    (X : (Mine.kd.heap_1 w.params).In h₀) (T : Top Mine.hd.view_39 loose mean mg mb h₀) (hh : A.handled = none) (hdp : A.depth ≤ 900) (hu : A.units ≤ 9000) 
    (h : ∀ h' tk' t', Fr h₀ L h' m → News h₀ L h' news → Q (.str (Str.ofString "/") t') { s with heap := h', toks := tk' }) :
    wpAny (model PySem.Challenge.rw_pd0083_01.row.prog w) A (call (.ref 108) [.str x t]) Q E s :=
  get_sep_c (X.keeps F.keep) (T.keeps F.keep) hh hdp hu  fun h' tk' t' st => h h' tk' t' (stays_fr F st) (stays_news N st)
end Mine
end

section
open PySem PySem.W PyProof.Rows PySem.Calls
set_option maxRecDepth 100000
set_option maxHeartbeats 8000000
set_option linter.all false
set_option rowWalk.seconds 0
namespace Mine
def joinS (x y : Str) : Str :=
  if Txt.startswith y (Str.ofString "/") = true then y else if (x.length : Int) = 0 then y else if Txt.endswith x (Str.ofString "/") = true then x ++ y else x ++ (Str.ofString "/" ++ y)
theorem end_str {z z' : Str} {t : Tok} {s : Shared} {Q : Value → Shared → Prop} (e : z = z') (q : Q (.str z' t) s) : Q (.str z t) s := e ▸ q

theorem join_c {w : World} {A : Around} {s : Shared} {x y : Str} {t u : Tok} {Q E : Value → Shared → Prop} {mg mb : Str → Option Value} {loose : List Str} {mean : ExcName → Option Value}
    (X : (Mine.kd.heap_1 w.params).In s.heap) (T : Top Mine.hd.view_39 loose mean mg mb s.heap) (hh : A.handled = none) (hdp : A.depth ≤ 800) (hu : A.units ≤ 8000) (hx : x.length ≤ 1000) (hy : y.length ≤ 1000)
    (h : ∀ h' tk' t', s.heap.StaysIn h' → Q (.str (joinS x y) t') { s with heap := h', toks := tk' }) :
    wpAny (model PySem.Challenge.rw_pd0083_01.row.prog w) A (call (.ref 115) [.str x t, .str y u]) Q E s := by
  k_with_none
  k_with "execs cons" => ((with_reducible refine execs_out ?_); intro _ _)
  k_with "execs cons" => (with_reducible refine gen_tok ?_; intro _)
  k_with "Out" => (refine out_end (by with_reducible assumption) ?_; (try dsimp only))
  k_with "mine_rest" => ((case k1 => k_is); (case k2 => k_is); (case k3 => decide); (case c1 => decide); (case c2 => exact rfl); (case c3 => exact rfl); (case c4 => exact rfl))
  k_with "mine_call" => ((case k1 => k_asm); (case k2 => k_asm); (case k3 => k_asm); (case k4 => k_asm); (case kh => exact rfl); (case kd => exact Nat.le_of_ble_eq_true rfl); (case ku => exact Nat.le_of_ble_eq_true rfl); k_whole)
  k_with "call ref" => (k_here; (with_reducible show wpAny _ _ (call (Value.ref 94) _) _ _ _); k_dflt (refine' fspath_f (by k_asm) (by k_asm) (by k_asm) (by k_asm) (by exact rfl) (by exact Nat.le_of_ble_eq_true rfl) (by exact Nat.le_of_ble_eq_true rfl) ?_; k_whole); intro _ _ _ _; (try dsimp only); (try k_sweep))
  k_with "call ref" => (k_here; (with_reducible show wpAny _ _ (call (Value.ref 108) _) _ _ _); k_dflt (refine' get_sep_f (by k_asm) (by k_asm) (by k_asm) (by k_asm) (by exact rfl) (by exact Nat.le_of_ble_eq_true rfl) (by exact Nat.le_of_ble_eq_true rfl) ?_; k_whole); intro _ _ _ _ _; (try dsimp only); (try k_sweep))
  refine weaken ?_ hh hdp hu
  clear hh hdp hu A
  revert X
  k_fill
  intro X
  refine' call_rest (vs := [.str y u]) (binds := fun D => [(Str.ofString "a", .str x t), (Str.ofString "p", .ref D)]) (by assumption) (Top.nolimit (by assumption)) ?k1 ?k2 ?k3 ?kP ?kG ?k5 ?_ ?c1 ?c2 ?c3 ?c4
  walk_at "mine_rest"
  (case kP => exact rfl)
  (case kG => exact fun _ => rfl)
  (case k5 => exact fun _ => locs rfl)
  intro D' L' h' F' N'
  k_steps
  all_goals (show Q (Value.str _ _) _)
  all_goals (refine end_str (z' := joinS x y) (by unfold joinS; simp only [*, if_true, if_false, Bool.false_eq_true]) (h _ _ _ (Fr.keep (by assumption))))
end Mine
end

section
open PySem PySem.W PyProof.Rows PySem.Calls
set_option maxRecDepth 100000
set_option maxHeartbeats 8000000
set_option linter.all false
set_option rowWalk.seconds 0
namespace Mine
def rootS (x : Str) : Str :=
  if (Txt.slice x none (some 1) != Str.ofString "/") = true then Str.ofString "" else
  if (Txt.slice x (some 1) (some 2) != Str.ofString "/") = true then Str.ofString "/" else
  if (Txt.slice x (some 2) (some 3) == Str.ofString "/") = true then Str.ofString "/" else Txt.slice x none (some 2)
def tailS (x : Str) : Str :=
  if (Txt.slice x none (some 1) != Str.ofString "/") = true then x else
  if (Txt.slice x (some 1) (some 2) != Str.ofString "/") = true then Txt.slice x (some 1) none else
  if (Txt.slice x (some 2) (some 3) == Str.ofString "/") = true then Txt.slice x (some 1) none else Txt.slice x (some 2) none

abbrev tupObj (vs : List Value) : Obj := { cls := .type "tuple", data := .seq vs.toArray }

theorem split_end {h₀ h : Heap} {L D : Addr} {r q r' q' : Str} {t1 t2 t3 : Tok} {P : Prop} {m : Str → Option Value} (F : Fr h₀ L h m)
    (N : News h₀ L h [(D, { cls := .type "tuple", data := .seq #[.str (Str.ofString "") t1, .str r t2, .str q t3] })]) (e1 : r = r') (e2 : q = q')
    (k : h₀.StaysIn h → h₀.get? D = none → h.get? D = some (tupObj [.str (Str.ofString "") t1, .str r' t2, .str q' t3]) → P) : P := by
  subst e1; subst e2
  exact k F.keep (N _ (.head _)).2.2 (N _ (.head _)).1

theorem splitroot_c {w : World} {A : Around} {s : Shared} {x : Str} {t : Tok} {Q E : Value → Shared → Prop} {mg mb : Str → Option Value} {loose : List Str} {mean : ExcName → Option Value}
    (X : (Mine.kd.heap_1 w.params).In s.heap) (T : Top Mine.hd.view_39 loose mean mg mb s.heap) (hh : A.handled = none) (hdp : A.depth ≤ 800) (hu : A.units ≤ 8000) (hx : x.length ≤ 1000)
    (h : ∀ h' tk' D t1 t2 t3, s.heap.StaysIn h' → s.heap.get? D = none → h'.get? D = some (tupObj [.str (Str.ofString "") t1, .str (rootS x) t2, .str (tailS x) t3]) → Q (.ref D) { s with heap := h', toks := tk' }) :
    wpAny (model PySem.Challenge.rw_pd0083_01.row.prog w) A (call (.ref 122) [.str x t]) Q E s := by
  k_with_none
  k_with "execs cons" => ((with_reducible refine execs_out ?_); intro _ _)
  k_with "execs cons" => (with_reducible refine gen_tok ?_; intro _)
  k_with "Out" => (refine out_end (by with_reducible assumption) ?_; (try dsimp only))
  k_with "mine_rest" => ((case k1 => k_is); (case k2 => k_is); (case k3 => decide); (case c1 => decide); (case c2 => exact rfl); (case c3 => exact rfl); (case c4 => exact rfl))
  k_with "mine_call" => ((case k1 => k_asm); (case k2 => k_asm); (case k3 => k_asm); (case k4 => k_asm); (case kh => exact rfl); (case kd => exact Nat.le_of_ble_eq_true rfl); (case ku => exact Nat.le_of_ble_eq_true rfl); k_whole)
  k_with "call ref" => (k_here; (with_reducible show wpAny _ _ (call (Value.ref 94) _) _ _ _); k_dflt (refine' fspath_f (by k_asm) (by k_asm) (by k_asm) (by k_asm) (by exact rfl) (by exact Nat.le_of_ble_eq_true rfl) (by exact Nat.le_of_ble_eq_true rfl) ?_; k_whole); intro _ _ _ _; (try dsimp only); (try k_sweep))
  refine weaken ?_ hh hdp hu
  clear hh hdp hu A
  revert X
  k_fill
  intro X
  refine' call_pure (binds := [(Str.ofString "p", .str x t)]) (by assumption) (Top.nolimit (by assumption)) ?k1 ?k2 ?k3 ?k4 ?k5 ?_ ?c1 ?c2 ?c3 ?c4
  walk_at "mine_rest"
  (case k4 => exact BindsTo.of_eq rfl)
  (case k5 => exact locs rfl)
  intro L' h' F' N'
  k_steps
  all_goals (refine split_end (r' := rootS x) (q' := tailS x) (by assumption) (by assumption) ?_ ?_ ?_)
  all_goals (first | (unfold rootS; simp only [*, if_true, if_false, Bool.false_eq_true]; done) | (unfold tailS; simp only [*, if_true, if_false, Bool.false_eq_true]; done) | exact h _ _ _ _ _ _)

theorem fresh_news {h₀ h h' : Heap} {L D : Addr} {m : Str → Option Value} {news : List (Addr × Obj)} {o : Obj} (F : Fr h₀ L h m) (N : News h₀ L h news) (st : h.StaysIn h') (hD : h.get? D = none) (ho : h'.get? D = some o) :
    News h₀ L h' ((D, o) :: news) ∧ ∀ p ∈ news, p.1 ≠ D := by
  refine ⟨fun p hp => ?_, fun p hp e => ?_⟩
  · rcases List.mem_cons.mp hp with rfl | hp
    · refine ⟨ho, fun e => ?_, ?_⟩
      · obtain ⟨oL, es, ep, hL, r⟩ := F.ns
        have e : D = L := e
        rw [← e, hD] at hL; cases hL
      · cases q : h₀.get? D with
        | none => rfl
        | some o' => have := F.keep _ _ q; rw [hD] at this; cases this
    · exact ⟨st _ _ (N p hp).1, (N p hp).2⟩
  · have := (N p hp).1; rw [e, hD] at this; cases this

theorem splitroot_f {w : World} {A : Around} {s : Shared} {x : Str} {t : Tok} {Q E : Value → Shared → Prop} {mg mb : Str → Option Value} {loose : List Str} {mean : ExcName → Option Value}
    {h₀ : Heap} {L : Addr} {m : Str → Option Value} {news : List (Addr × Obj)} (F : Fr h₀ L s.heap m) (N : News h₀ L s.heap news)
    (X : (Mine.kd.heap_1 w.params).In h₀) (T : Top Mine.hd.view_39 loose mean mg mb h₀) (hh : A.handled = none) (hdp : A.depth ≤ 800) (hu : A.units ≤ 8000) (hx : x.length ≤ 1000)
    (h : ∀ h' tk' D t1 t2 t3, Fr h₀ L h' m → News h₀ L h' ((D, tupObj [.str (Str.ofString "") t1, .str (rootS x) t2, .str (tailS x) t3]) :: news) → (∀ p ∈ news, p.1 ≠ D) → Q (.ref D) { s with heap := h', toks := tk' }) :
    wpAny (model PySem.Challenge.rw_pd0083_01.row.prog w) A (call (.ref 122) [.str x t]) Q E s :=
  splitroot_c (X.keeps F.keep) (T.keeps F.keep) hh hdp hu hx fun h' tk' D t1 t2 t3 st hD ho =>
    let ⟨N', ne⟩ := fresh_news F N st hD ho
    h h' tk' D t1 t2 t3 (stays_fr F st) N' ne
end Mine
end

section
open PySem PySem.W PyProof.Rows PySem.Calls
set_option maxRecDepth 100000
set_option maxHeartbeats 8000000
set_option linter.all false
set_option rowWalk.seconds 0
namespace Mine

def AllNe (d : Nat) : List (Addr × Obj) → Prop
  | [] => True
  | p :: r => @Ne Nat p.1 d ∧ AllNe d r
theorem allNe_of {d : Addr} : ∀ {l : List (Addr × Obj)}, (∀ p ∈ l, p.1 ≠ d) → AllNe d l
  | [], _ => trivial
  | p :: _, h => ⟨h p (.head _), allNe_of fun q hq => h q (.tail _ hq)⟩
/-- what a turn must leave -/
def LPost (h₀ : Heap) (L : Addr) (cst : List (Addr × Obj)) (J : (Str → Option Value) → List (Addr × Obj) → Prop) (I : Addr) (oI : Obj) (s : Shared) (Q : Flow → Shared → Prop) (f : Flow) (s' : Shared) : Prop :=
  match f with
  | .ret v => Q (.ret v) s'
  | .brk => Q .next s'
  | _ => ∃ h' tk' m' nx', s' = { s with heap := h', toks := tk' } ∧ Fr h₀ L h' m' ∧ News h₀ L h' ((I, oI) :: nx') ∧ (∀ p ∈ cst, p ∈ nx') ∧ (∀ p ∈ nx', p.1 ≠ I) ∧ J m' nx'

theorem LPost.of {h₀ : Heap} {L : Addr} {cst : List (Addr × Obj)} {J : (Str → Option Value) → List (Addr × Obj) → Prop} {I : Addr} {oI : Obj} {s : Shared} {Q : Flow → Shared → Prop} {f : Flow} {h' : Heap} {tk' : Nat}
    {m' : Str → Option Value} {nx' : List (Addr × Obj)} (hf : f = .next ∨ f = .cont) (F : Fr h₀ L h' m') (N : News h₀ L h' ((I, oI) :: nx')) (hc : ∀ p ∈ cst, p ∈ nx') (hne : ∀ p ∈ nx', p.1 ≠ I) (hJ : J m' nx') :
    LPost h₀ L cst J I oI s Q f { s with heap := h', toks := tk' } := by
  rcases hf with rfl | rfl
  · exact ⟨h', tk', m', nx', rfl, F, N, hc, hne, hJ⟩
  · exact ⟨h', tk', m', nx', rfl, F, N, hc, hne, hJ⟩

section
variable {prog : Program} {w : World} {A : Around} {s : Shared} {env : Env} {h₀ : Heap} {L : Addr}

theorem loopW {R : Result → Shared → Prop} {target : Expr} {body : List Stmt} {I : Addr} {fp : List Addr} {n : Nat} {P : Nat → Value → Prop} {St : Nat → Heap → Prop} {m : Str → Option Value}
    {news cst : List (Addr × Obj)} (W : Walks prog w A I fp [I] n P St) (hst : St 0 s.heap) (hoI : ∀ i h, St i h → ∃ o, h.get? I = some o)
    (hfp : ∀ b ∈ fp, b = I ∨ ∃ o, (b, o) ∈ cst) (hcst : ∀ p ∈ cst, p ∈ news) (hI0 : h₀.get? I = none) (hLI : I ≠ L) (hnI : ∀ p ∈ news, p.1 ≠ I)
    (F : Fr h₀ L s.heap m) (N : News h₀ L s.heap news)
    (J : Nat → (Str → Option Value) → List (Addr × Obj) → Prop) (h0 : J 0 m news)
    (hgo : ∀ i v (s : Shared) (Q : Unit → Shared → Prop) (E : Value → Shared → Prop), P i v → St (i + 1) s.heap → Q () s → wpAny (model prog w) A (letOwnedTupleGo target (.ref I) v) Q E s)
    (turn : ∀ i v m₁ nx h tk oI, i < n → P i v → (∀ p ∈ cst, p ∈ nx) → J i m₁ nx → (∀ p ∈ nx, p.1 ≠ I) → Fr h₀ L h m₁ → News h₀ L h ((I, oI) :: nx) →
      wpAny (model prog w) A (assign target env v) (fun _ s₂ => wpAny (model prog w) A (execs body env) (LPost h₀ L cst (J (i + 1)) I oI s (fun f s' => R (.ok f) s')) (fun _ _ => False) s₂) (fun _ _ => False) { s with heap := h, toks := tk })
    (done : ∀ h' tk m' nx, (∀ p ∈ cst, p ∈ nx) → J n m' nx → Fr h₀ L h' m' → News h₀ L h' nx → R (.ok .next) { s with heap := h', toks := tk }) :
    codeAny (model prog w) A (.forLoop target (.ref I) body [] env) R s := by
  have old : ∀ b o, h₀.get? b = some o → b ∉ [I] := fun b o e hb => by rw [List.mem_singleton.mp hb, hI0] at e; cases e
  refine codeAny_forLoop_any
    (fun k s' => ∃ h' tk m' nx i, s' = { s with heap := h', toks := tk } ∧ St i h' ∧ Fr h₀ L h' m' ∧ News h₀ L h' nx ∧ (∀ p ∈ nx, p.1 ≠ I) ∧ (∀ p ∈ cst, p ∈ nx) ∧ J i m' nx ∧ i ≤ n ∧ k = n + 1 - i) ?_ (n + 1)
    ⟨s.heap, s.toks, m, news, 0, rfl, hst, F, N, hnI, hcst, h0, Nat.zero_le _, rfl⟩
  rintro k s' ⟨h', tk, m', nx, i, rfl, hst', F', N', hnI', hc', hJ, hi, rfl⟩
  have next : ∀ h₁ : Heap, (∀ b o, b ∉ [I] → h'.get? b = some o → h₁.get? b = some o) → Fr h₀ L h₁ m' ∧ News h₀ L h₁ nx := fun h₁ hk₁ =>
    ⟨⟨F'.ns.at' fun o e => hk₁ _ o (fun q => hLI (List.mem_singleton.mp q).symm) e, fun b o e => hk₁ b o (old b o e) (F'.keep b o e), F'.above⟩, fun p hp => ⟨hk₁ _ _ (fun q => hnI' p hp (List.mem_singleton.mp q)) (N' p hp).1, (N' p hp).2⟩⟩
  by_cases hlt : i < n
  · refine W.item i _ _ _ hlt hst' fun v h₁ tk₁ hP hst₁ hk₁ => ?_
    obtain ⟨F₁, N₁⟩ := next h₁ hk₁
    obtain ⟨oI, hoI₁⟩ := hoI _ _ hst₁
    refine hgo i v _ _ _ hP hst₁ ?_
    have NI : News h₀ L h₁ ((I, oI) :: nx) := fun p hp => by
      rcases List.mem_cons.mp hp with rfl | hp
      · exact ⟨hoI₁, hLI, hI0⟩
      · exact N₁ p hp
    refine wpAny_mono (turn i v m' nx h₁ tk₁ oI hlt hP hc' hJ hnI' F₁ NI) (fun _ s₂ h₂ => wpAny_mono h₂ (fun f s₃ h₃ => ?_) fun _ _ y => y.elim) fun _ _ y => y.elim
    have fin : (∃ h' tk' m' nx', s₃ = { s with heap := h', toks := tk' } ∧ Fr h₀ L h' m' ∧ News h₀ L h' ((I, oI) :: nx') ∧ (∀ p ∈ cst, p ∈ nx') ∧ (∀ p ∈ nx', p.1 ≠ I) ∧ J (i + 1) m' nx') →
        ∃ k', k' < n + 1 - i ∧ ∃ h' tk m' nx j, s₃ = { s with heap := h', toks := tk } ∧ St j h' ∧ Fr h₀ L h' m' ∧ News h₀ L h' nx ∧ (∀ p ∈ nx, p.1 ≠ I) ∧ (∀ p ∈ cst, p ∈ nx) ∧ J j m' nx ∧ j ≤ n ∧ k' = n + 1 - j := by
      rintro ⟨h₃', tk₃, m₃, nx₃, rfl, F₃, N₃, hc₃, hne₃, hJ₃⟩
      refine ⟨n + 1 - (i + 1), by omega, h₃', tk₃, m₃, nx₃, i + 1, rfl, ?_, F₃, fun p hp => N₃ p (.tail _ hp), hne₃, hc₃, hJ₃, hlt, rfl⟩
      refine W.frame _ _ _ hst₁ fun b hb o e => ?_
      rcases hfp b hb with rfl | ⟨o', ho'⟩
      · rw [hoI₁] at e
        cases e
        exact (N₃ _ (.head _)).1
      · have e' := (N₁ _ (hc' _ ho')).1
        rw [show h₁.get? b = some o from e] at e'
        cases e'
        exact (N₃ _ (.tail _ (hc₃ _ ho'))).1
    cases f with
    | ret v => exact h₃
    | brk => exact h₃
    | cont => exact fin h₃
    | next => exact fin h₃
  · have hin : i = n := by omega
    subst hin
    refine W.done _ _ _ hst' fun h₁ tk₁ hk₁ => wpAny_execs_nil ?_
    obtain ⟨F₁, N₁⟩ := next h₁ hk₁
    exact done h₁ tk₁ m' nx hc' hJ F₁ N₁

theorem go_name {x : Str} {p : Pos} {I : Addr} {v : Value} {Q : Unit → Shared → Prop} {E : Value → Shared → Prop} {s : Shared} (h : Q () s) : wpAny (model prog w) A (letOwnedTupleGo (.Name x p) (.ref I) v) Q E s :=
  wpAny_of_eq rfl h

theorem loop_list {E : Value → Shared → Prop} {Q : Flow → Shared → Prop} {target : Expr} {body : List Stmt} {l : Addr} {ol : Obj} {vs : List Value} {nn : Nat} {m : Str → Option Value} {news : List (Addr × Obj)}
    (hh : A.handled = none) (F : Fr h₀ L s.heap m) (N : News h₀ L s.heap news) (hl : (l, ol) ∈ news) (hc : ol.cls = .type "list") (hd : ol.data = .seq vs.toArray nn)
    (J : Nat → (Str → Option Value) → List (Addr × Obj) → Prop) (h0 : J 0 m news)
    (hgo : ∀ I i v (s : Shared) (Q : Unit → Shared → Prop) (E : Value → Shared → Prop), vs[i]? = some v → s.heap.IsListIter I l (i + 1) → Q () s → wpAny (model prog w) A (letOwnedTupleGo target (.ref I) v) Q E s)
    (turn : ∀ i v m₁ nx h tk I oI, vs[i]? = some v → (l, ol) ∈ nx → J i m₁ nx → (∀ p ∈ nx, p.1 ≠ I) → Fr h₀ L h m₁ → News h₀ L h ((I, oI) :: nx) →
      wpAny (model prog w) A (assign target env v) (fun _ s₂ => wpAny (model prog w) A (execs body env) (LPost h₀ L [(l, ol)] (J (i + 1)) I oI s Q) (fun _ _ => False) s₂) (fun _ _ => False) { s with heap := h, toks := tk })
    (done : ∀ h' tk m' nx, (l, ol) ∈ nx → J vs.length m' nx → Fr h₀ L h' m' → News h₀ L h' nx → Q .next { s with heap := h', toks := tk }) :
    wpAny (model prog w) A (pyIter (.ref l)) (fun it s₂ => codeAny (model prog w) A (.forLoop target it body [] env) (fun r s' => match r with | .ok f => Q f s' | .error e => cameBackBy (model prog w) A env E e s') s₂) E s := by
  have hol : s.heap.get? l = some ol := (N _ hl).1
  have hls : s.heap.IsList l vs.toArray := ⟨_, hol, hc, nn, hd⟩
  have hne : l ≠ s.heap.objs.size := Nat.ne_of_lt (Heap.lt_size hol)
  refine wpAny_pyIter_list hls ?_
  have W := Walks.list (prog := prog) (w := w) hh s.heap.objs.size l hne vs.toArray
  have hlen : vs.toArray.size = vs.length := by simp
  rw [hlen] at W
  obtain ⟨oL, _, _, hL, _⟩ := id F.ns
  refine loopW (cst := [(l, ol)]) (s := { s with heap := s.heap.push { cls := .type "list_iterator", data := .fields #[.ref l, .int 0 0] } }) W
    ⟨⟨_, Heap.get?_push_size _ rfl, rfl, rfl⟩, hls.at fun o e => Heap.get?_push_of_some _ e⟩ (fun i h hi => let ⟨⟨o, ho, _⟩, _⟩ := hi; ⟨o, ho⟩) ?_ (fun p hp => (List.mem_singleton.mp hp) ▸ hl)
    (next_is_new F) (Nat.ne_of_gt (Heap.lt_size hL)) (fun p hp => Nat.ne_of_lt (Heap.lt_size (N p hp).1)) (F.push _) (fun p hp => ⟨Heap.get?_push_of_some _ (N p hp).1, (N p hp).2⟩) J h0
    (fun i v s Q E hv hi hq => hgo _ i v s Q E (by simpa using hv) hi.1 hq)
    (fun i v m₁ nx h tk oI hi hv hcs hJ hI F' N' => turn i v m₁ nx h tk _ oI (by simpa using hv) (hcs _ (.head _)) hJ hI F' N')
    (fun h' tk m' nx hcs hJ F' N' => done h' tk m' nx (hcs _ (.head _)) hJ F' N')
  intro b hb
  rcases List.mem_cons.mp hb with rfl | hb
  · exact .inl rfl
  · exact .inr ⟨ol, by rw [List.mem_singleton.mp hb]; exact .head _⟩

theorem loop_range {E : Value → Shared → Prop} {Q : Flow → Shared → Prop} {target : Expr} {body : List Stmt} {r : Addr} {a b : Int} {t u v₀ : Tok} {n : Nat} {m : Str → Option Value} {news : List (Addr × Obj)}
    (hh : A.handled = none) (F : Fr h₀ L s.heap m) (N : News h₀ L s.heap news) (hr : IsRange s.heap r a b 1 t u v₀) (hsmall : Builtin.Range.small a b 1 = true) (hsz : Builtin.Range.rangeSize a b 1 = (n : Int))
    (J : Nat → (Str → Option Value) → List (Addr × Obj) → Prop) (h0 : J 0 m news)
    (hgo : ∀ I v (s : Shared) (Q : Unit → Shared → Prop) (E : Value → Shared → Prop), Q () s → wpAny (model prog w) A (letOwnedTupleGo target (.ref I) v) Q E s)
    (turn : ∀ i k m₁ nx h tk I oI, i < n → J i m₁ nx → (∀ p ∈ nx, p.1 ≠ I) → Fr h₀ L h m₁ → News h₀ L h ((I, oI) :: nx) →
      wpAny (model prog w) A (assign target env (.int (a + (i : Int)) k)) (fun _ s₂ => wpAny (model prog w) A (execs body env) (LPost h₀ L [] (J (i + 1)) I oI s Q) (fun _ _ => False) s₂) (fun _ _ => False) { s with heap := h, toks := tk })
    (done : ∀ h' tk m' nx, J n m' nx → Fr h₀ L h' m' → News h₀ L h' nx → Q .next { s with heap := h', toks := tk }) :
    wpAny (model prog w) A (pyIter (.ref r)) (fun it s₂ => codeAny (model prog w) A (.forLoop target it body [] env) (fun r s' => match r with | .ok f => Q f s' | .error e => cameBackBy (model prog w) A env E e s') s₂) E s := by
  refine wpAny_pyIter_range hr hsmall ?_
  have W := Walks.range (prog := prog) (w := w) hh s.heap.objs.size a 1 n
  obtain ⟨oL, _, _, hL, _⟩ := id F.ns
  refine loopW (cst := []) (s := { s with heap := s.heap.push { cls := .type "range_iterator", data := .fields #[rawInt a, rawInt (Builtin.Range.rangeSize a b 1), rawInt 1] } }) W
    (by show IsRangeIter _ _ _ _ _; rw [hsz]; simpa using Heap.get?_push_size _ rfl) (fun i h hi => ⟨_, hi⟩) (fun b hb => .inl (List.mem_singleton.mp hb)) (fun p hp => nomatch hp)
    (next_is_new F) (Nat.ne_of_gt (Heap.lt_size hL)) (fun p hp => Nat.ne_of_lt (Heap.lt_size (N p hp).1)) (F.push _) (fun p hp => ⟨Heap.get?_push_of_some _ (N p hp).1, (N p hp).2⟩) J h0
    (fun i v s Q E hv hi hq => hgo _ v s Q E hq)
    (fun i v m₁ nx h tk oI hi hv hcs hJ hI F' N' => ?_)
    (fun h' tk m' nx hcs hJ F' N' => done h' tk m' nx hJ F' N')
  obtain ⟨t, rfl⟩ := hv
  have e1 : a + (i : Int) * 1 = a + (i : Int) := by omega
  rw [e1]
  exact turn i t m₁ nx h tk _ oI hi hJ hI F' N'

theorem loop_str {E : Value → Shared → Prop} {Q : Flow → Shared → Prop} {target : Expr} {body : List Stmt} {x : Str} {t : Tok} {m : Str → Option Value} {news : List (Addr × Obj)}
    (hh : A.handled = none) (F : Fr h₀ L s.heap m) (N : News h₀ L s.heap news)
    (J : Nat → (Str → Option Value) → List (Addr × Obj) → Prop) (h0 : J 0 m news)
    (hgo : ∀ I v (s : Shared) (Q : Unit → Shared → Prop) (E : Value → Shared → Prop), Q () s → wpAny (model prog w) A (letOwnedTupleGo target (.ref I) v) Q E s)
    (turn : ∀ i c k m₁ nx h tk I oI, x.cps[i]? = some c → J i m₁ nx → (∀ p ∈ nx, p.1 ≠ I) → Fr h₀ L h m₁ → News h₀ L h ((I, oI) :: nx) →
      wpAny (model prog w) A (assign target env (.str ⟨#[c]⟩ k)) (fun _ s₂ => wpAny (model prog w) A (execs body env) (LPost h₀ L [] (J (i + 1)) I oI s Q) (fun _ _ => False) s₂) (fun _ _ => False) { s with heap := h, toks := tk })
    (done : ∀ h' tk m' nx, J x.cps.size m' nx → Fr h₀ L h' m' → News h₀ L h' nx → Q .next { s with heap := h', toks := tk }) :
    wpAny (model prog w) A (pyIter (.str x t)) (fun it s₂ => codeAny (model prog w) A (.forLoop target it body [] env) (fun r s' => match r with | .ok f => Q f s' | .error e => cameBackBy (model prog w) A env E e s') s₂) E s := by
  refine wpAny_pyIter_strU ?_
  obtain ⟨oL, _, _, hL, _⟩ := id F.ns
  have key : ∀ (o : Obj) (St : Nat → Heap → Prop), Walks prog w A s.heap.objs.size [s.heap.objs.size] [s.heap.objs.size] x.cps.size (SignAt x) St → St 0 (s.heap.push o) → (∀ i h, St i h → ∃ o, h.get? s.heap.objs.size = some o) →
      codeAny (model prog w) A (.forLoop target (.ref s.heap.objs.size) body [] env) (fun r s' => match r with | .ok f => Q f s' | .error e => cameBackBy (model prog w) A env E e s') { s with heap := s.heap.push o } := by
    intro o St W hst hex
    refine loopW (cst := []) (s := { s with heap := s.heap.push o }) W hst hex (fun b hb => .inl (List.mem_singleton.mp hb)) (fun p hp => nomatch hp)
      (next_is_new F) (Nat.ne_of_gt (Heap.lt_size hL)) (fun p hp => Nat.ne_of_lt (Heap.lt_size (N p hp).1)) (F.push _) (fun p hp => ⟨Heap.get?_push_of_some _ (N p hp).1, (N p hp).2⟩) J h0
      (fun i v s Q E hv hi hq => hgo _ v s Q E hq)
      (fun i v m₁ nx h tk oI hi hv hcs hJ hI F' N' => ?_)
      (fun h' tk m' nx hcs hJ F' N' => done h' tk m' nx hJ F' N')
    obtain ⟨c, t', hc, rfl⟩ := hv
    exact turn i c t' m₁ nx h tk _ oI hc hJ hI F' N'
  cases ha : x.cps.all (· < 128)
  · rw [show strIterType x = "str_iterator" by simp [strIterType, ha]]
    exact key _ _ (Walks.strWide hh _ x t) ⟨_, Heap.get?_push_size _ rfl, rfl, rfl⟩ (fun i h hi => let ⟨o, ho, _⟩ := hi; ⟨o, ho⟩)
  · rw [show strIterType x = "str_ascii_iterator" by simp [strIterType, ha]]
    exact key _ _ (Walks.strAscii hh _ x t) ⟨_, Heap.get?_push_size _ rfl, rfl, rfl⟩ (fun i h hi => let ⟨o, ho, _⟩ := hi; ⟨o, ho⟩)
end
end Mine
end

section
open PySem PySem.W PyProof.Rows PySem.Calls
set_option maxRecDepth 100000
set_option maxHeartbeats 8000000
set_option linter.all false
set_option rowWalk.seconds 0
namespace Mine
section
variable {prog : Program} {w : World} {A : Around} {E : Value → Shared → Prop} {s : Shared} {h₀ : Heap} {L D : Addr} {m : Str → Option Value} {news news' : List (Addr × Obj)} {n : Nat}
theorem truthy_led {vs : List Value} {b : Bool} {Q : Bool → Shared → Prop} (N : News h₀ L s.heap news) (hm : (D, listOf vs.toArray n) ∈ news) (hz : vs.length ≤ 100000) (e : (!vs.isEmpty) = b) (h : ∀ tk, Q b { s with toks := tk }) :
    wpAny (model prog w) A (truthy (.ref D)) Q E s := by
  refine wpAny_truthy_list (items := vs.toArray) ⟨_, (N _ hm).1, rfl, n, rfl⟩ (by rw [List.size_toArray]; omega) ?_
  have : (!vs.toArray.isEmpty) = b := by rw [← e]; simp
  rw [this]
  exact h _
theorem truthy_nil {Q : Bool → Shared → Prop} (N : News h₀ L s.heap news) (hm : (D, listOf ([] : List Value).toArray n) ∈ news) (h : ∀ tk, Q false { s with toks := tk }) :
    wpAny (model prog w) A (truthy (.ref D)) Q E s := truthy_led N hm (by decide) rfl h
theorem truthy_snoc {us : List Value} {y : Value} {Q : Bool → Shared → Prop} (N : News h₀ L s.heap news) (hm : (D, listOf (us ++ [y]).toArray n) ∈ news) (hz : us.length ≤ 10000) (h : ∀ tk, Q true { s with toks := tk }) :
    wpAny (model prog w) A (truthy (.ref D)) Q E s := truthy_led N hm (by simp; omega) (by simp) h
theorem pop_led {us : List Value} {y : Value} {Q : Value → Shared → Prop} (F : Fr h₀ L s.heap m) (N : News h₀ L s.heap news) (U : Upd D (listOf (us ++ [y]).toArray n) (listOf us.toArray (n + 1)) news news')
    (hz : us.length ≤ 100000) (h : ∀ h', Fr h₀ L h' m → News h₀ L h' news' → Q y { s with heap := h' }) : wpAny (model prog w) A (call (.builtin "list.pop") [.ref D]) Q E s := by
  refine kl_pop F N (p := us) (y := y) (by simpa using kpa_last y us) U ?_ h
  simp only [List.toList_toArray, List.length_append, List.length_cons, List.length_nil, sizeLine_eq]
  omega
theorem append_led {vs : List Value} {x : Value} {Q : Value → Shared → Prop} (F : Fr h₀ L s.heap m) (N : News h₀ L s.heap news) (U : Upd D (listOf vs.toArray n) (listOf (vs ++ [x]).toArray (n + 1)) news news') (hz : vs.length ≤ 100000)
    (h : ∀ h', Fr h₀ L h' m → News h₀ L h' news' → Q .none { s with heap := h' }) : wpAny (model prog w) A (call (.builtin "list.append") [.ref D, x]) Q E s := by
  refine append_K (its := vs.toArray) (n := n) F N (by rw [List.push_toArray]; exact U) h ?_
  rw [List.size_toArray, sizeLine_eq]; omega
theorem last_led {value slice : Expr} {us : List Value} {u : Tok} {x : Value} {Q : Value → Shared → Prop} (N : News h₀ L s.heap news) (hm : (D, listOf (us ++ [x]).toArray n) ∈ news) (h : Q x s)
    (hs : subscripted slice false (.ref D) (.int (-1) u) = operate [.ref D, .int (-1) u] (getItem (.ref D) (.int (-1) u)) := by with_unfolding_all rfl) (hg : ∀ r, letTemporaryGo value (.ref D) r = pure () := by intro _; with_unfolding_all rfl) :
    wpAny (model prog w) A (subscriptTail value slice (.ref D) (.int (-1) u)) Q E s :=
  kim_back N hm rfl rfl (by decide) (by simp; omega) (by decide) (by
    have : ((-1 : Int) + ((us ++ [x]).length : Int)).toNat = us.length := by simp; omega
    rw [this]; simp) h hs hg
end
theorem led_list {h₀ h : Heap} {L D : Addr} {news : List (Addr × Obj)} {vs : List Value} {n : Nat} (N : News h₀ L h news) (hm : (D, listOf vs.toArray n) ∈ news) : h.IsList D vs.toArray := ⟨_, (N _ hm).1, rfl, n, rfl⟩
theorem strs_nil {vs : List Value} (h : StrsAre vs []) : vs = [] := by cases h; rfl
theorem strs_snoc' {vs : List Value} {ys : List Str} {y : Str} (h : StrsAre vs (ys ++ [y])) : ∃ us t, vs = us ++ [.str y t] ∧ StrsAre us ys := by
  have h1 := h.take' ys.length
  have h2 := h.drop' ys.length
  simp only [List.take_left, List.drop_left] at h1 h2
  obtain ⟨t, vs', e, hn⟩ := StrsAre.cons_inv h2
  have := strs_nil hn
  subst this
  exact ⟨vs.take ys.length, t, by rw [← e, List.take_append_drop], h1⟩
theorem split_count (x y : Str) : (Txt.split x y).length ≤ x.length + 2 := by
  unfold Txt.split
  split
  · simp
  · split
    · simp
    · rw [length_partsBetween]
      have := StrLaws.occ_length_le x y 0 x.length (x.length + 1)
      omega
end Mine
end

section
open PySem PySem.W PyProof.Rows PySem.Calls
set_option maxRecDepth 100000
set_option maxHeartbeats 8000000
set_option linter.all false
set_option rowWalk.seconds 0
namespace Mine
def pushS (root : Str) (st : List Str) (c : Str) : List Str :=
  if (c.length : Int) = 0 then st else if (c == Str.ofString ".") = true then st else
  if (c != Str.ofString "..") = true then st ++ [c] else
  match st.getLast? with
  | none => if (root.length : Int) = 0 then [c] else []
  | some z => if (z == Str.ofString "..") = true then st ++ [c] else st.dropLast

def stackS (x : Str) : List Str := (Txt.split (tailS x) (Str.ofString "/")).foldl (pushS (rootS x)) []
def normS (x : Str) : Str :=
  if (x.length : Int) = 0 then Str.ofString "." else
  if ((rootS x ++ Txt.join (Str.ofString "/") (stackS x)).length : Int) = 0 then Str.ofString "." else rootS x ++ Txt.join (Str.ofString "/") (stackS x)


section
variable {root c z : Str} {st zs : List Str} {x : Str}
theorem push_no (h : (c.length : Int) = 0) : pushS root st c = st := by unfold pushS; rw [if_pos h]
theorem push_dot (h : (c.length : Int) ≠ 0) (h1 : (c == Str.ofString ".") = true) : pushS root st c = st := by unfold pushS; rw [if_neg h, if_pos h1]
theorem push_name (h : (c.length : Int) ≠ 0) (h1 : (c == Str.ofString ".") = false) (h2 : (c != Str.ofString "..") = true) : pushS root st c = st ++ [c] := by
  unfold pushS; rw [if_neg h, h1, if_neg Bool.false_ne_true, if_pos h2]
theorem push_name0 (h : (c.length : Int) ≠ 0) (h1 : (c == Str.ofString ".") = false) (h2 : (c != Str.ofString "..") = true) : pushS root [] c = [c] := push_name h h1 h2
theorem push_dots (h : (c.length : Int) ≠ 0) (h1 : (c == Str.ofString ".") = false) (h2 : (c != Str.ofString "..") = false) : pushS root st c = match st.getLast? with
  | none => if (root.length : Int) = 0 then [c] else []
  | some z => if (z == Str.ofString "..") = true then st ++ [c] else st.dropLast := by
  unfold pushS; rw [if_neg h, h1, if_neg Bool.false_ne_true, h2, if_neg Bool.false_ne_true]
theorem push_up (h : (c.length : Int) ≠ 0) (h1 : (c == Str.ofString ".") = false) (h2 : (c != Str.ofString "..") = false) (h3 : (root.length : Int) = 0) : pushS root [] c = [c] := (push_dots h h1 h2).trans (if_pos h3)
theorem push_top (h : (c.length : Int) ≠ 0) (h1 : (c == Str.ofString ".") = false) (h2 : (c != Str.ofString "..") = false) (h3 : (root.length : Int) ≠ 0) : pushS root [] c = [] := (push_dots h h1 h2).trans (if_neg h3)
theorem push_dd (h : (c.length : Int) ≠ 0) (h1 : (c == Str.ofString ".") = false) (h2 : (c != Str.ofString "..") = false) (h3 : (z == Str.ofString "..") = true) : pushS root (zs ++ [z]) c = zs ++ [z] ++ [c] := by
  rw [push_dots h h1 h2, List.getLast?_concat]; exact if_pos h3
theorem push_pop (h : (c.length : Int) ≠ 0) (h1 : (c == Str.ofString ".") = false) (h2 : (c != Str.ofString "..") = false) (h3 : (z == Str.ofString "..") = false) : pushS root (zs ++ [z]) c = zs := by
  rw [push_dots h h1 h2, List.getLast?_concat]
  show (if (z == Str.ofString "..") = true then _ else (zs ++ [z]).dropLast) = _
  rw [h3, if_neg Bool.false_ne_true, List.dropLast_concat]
theorem norm_dot (h : (x.length : Int) = 0) : Str.ofString "." = normS x := by unfold normS; rw [if_pos h]
theorem norm_all (h : (x.length : Int) ≠ 0) (h1 : ((rootS x ++ Txt.join (Str.ofString "/") (stackS x)).length : Int) ≠ 0) : rootS x ++ Txt.join (Str.ofString "/") (stackS x) = normS x := by unfold normS; rw [if_neg h, if_neg h1]
theorem norm_emp (h : (x.length : Int) ≠ 0) (h1 : ((rootS x ++ Txt.join (Str.ofString "/") (stackS x)).length : Int) = 0) : Str.ofString "." = normS x := by unfold normS; rw [if_neg h, if_pos h1]
end

theorem fold_take {parts : List Str} {i : Nat} {c : Str} {root : Str} (h : parts[i]? = some c) : (parts.take (i + 1)).foldl (pushS root) [] = pushS root ((parts.take i).foldl (pushS root) []) c := by
  rw [List.take_add_one, h, List.foldl_append]; rfl
theorem upd_comp {m₀ : Str → Option Value} {x : Str} {v c : Option Value} : (fun y => if y = x then v else if y = x then c else m₀ y) = fun y => if y = x then v else m₀ y := by
  funext y; split <;> rfl
theorem push_len (root : Str) (st : List Str) (c : Str) : (pushS root st c).length ≤ st.length + 1 := by
  unfold pushS
  (repeat' split) <;> simp <;> omega
theorem fold_len (root : Str) : ∀ (ps st : List Str), (ps.foldl (pushS root) st).length ≤ st.length + ps.length
  | [], st => by simp
  | p :: ps, st => by
    have h1 := fold_len root ps (pushS root st p)
    have h2 := push_len root st p
    simp only [List.foldl_cons, List.length_cons]; omega

theorem tailS_len (x : Str) (h1 : (Txt.slice x (some 1) none).length ≤ x.length) (h2 : (Txt.slice x (some 2) none).length ≤ x.length) : (tailS x).length ≤ x.length := by
  unfold tailS; (repeat' split) <;> omega
theorem slice_len (x : Str) (i : Int) : (Txt.slice x (some i) none).length ≤ x.length := Txt.slice_le x _ _
theorem rootS_len (x : Str) : (rootS x).length ≤ 2 + x.length := by
  have h1 := Txt.slice_le x none (some 2)
  have h2 : (Str.ofString "").length = 0 := by decide
  have h3 : (Str.ofString "/").length = 1 := by decide
  unfold rootS; (repeat' split) <;> omega

def NormJ (m₀ : Str → Option Value) (root : Str) (parts : List Str) (nc : Addr) (rest : List (Addr × Obj)) (i : Nat) (m : Str → Option Value) (nx : List (Addr × Obj)) : Prop :=
  ∃ c vs ys nn, m = (fun y => if y = Str.ofString "comp" then c else m₀ y) ∧ StrsAre vs ys ∧ ys = (parts.take i).foldl (pushS root) [] ∧ nx = (nc, listOf vs.toArray nn) :: rest
theorem NormJ.start {m₀ : Str → Option Value} {root : Str} {parts : List Str} {nc : Addr} {rest : List (Addr × Obj)} {nn : Nat} : NormJ m₀ root parts nc rest 0 m₀ ((nc, listOf #[] nn) :: rest) :=
  ⟨m₀ (Str.ofString "comp"), [], [], nn, by funext y; split <;> simp_all, .nil, by simp, rfl⟩

theorem push_mem (root : Str) (st : List Str) (c : Str) (y : Str) (h : y ∈ pushS root st c) : y ∈ st ∨ y = c := by
  unfold pushS at h
  (repeat' split at h) <;> simp_all
  exact .inl (List.dropLast_subset _ h)
theorem fold_mem (root : Str) : ∀ (ps st : List Str) (y : Str), y ∈ ps.foldl (pushS root) st → y ∈ st ∨ y ∈ ps
  | [], st, y, h => .inl h
  | p :: ps, st, y, h => by
    rcases fold_mem root ps _ y h with h | h
    · rcases push_mem root st p y h with h | h
      · exact .inl h
      · exact .inr (by simp [h])
    · exact .inr (by simp [h])
theorem sum_le : ∀ (ys : List Str) (n : Nat), (∀ y ∈ ys, y.length ≤ n) → (ys.map (·.length)).sum ≤ ys.length * n
  | [], _, _ => by simp
  | y :: ys, n, h => by
    have h1 := sum_le ys n fun z hz => h z (.tail _ hz)
    have h2 := h y (.head _)
    simp only [List.map_cons, List.sum_cons, List.length_cons, Nat.succ_mul]; omega
theorem join_len (ys : List Str) (h1 : ys.length ≤ 1002) (h2 : ∀ y ∈ ys, y.length ≤ 1000) : (Txt.join (Str.ofString "/") ys).length ≤ 1010000 := by
  have := StrLaws.join_length_le (Str.ofString "/") ys
  have h3 := sum_le ys 1000 h2
  have h4 : (Str.ofString "/").length = 1 := by decide
  show (Builtin.Str.glued (Str.ofString "/") ys).length ≤ _
  rw [StrLaws.glued_eq_join]
  rw [h4] at this
  omega

theorem norm_end {h₀ h' : Heap} {L nc I : Addr} {oI : Obj} {m₀ : Str → Option Value} {v c : Option Value} {vs vs' : List Value} {nn n' : Nat} {rest cst : List (Addr × Obj)} {root : Str} {parts ys' : List Str} {i : Nat} {s : Shared} {Q : Flow → Shared → Prop} {f : Flow} {tk' : Nat}
    (hf : f = .next ∨ f = .cont) (F : Fr h₀ L h' (fun y => if y = Str.ofString "comp" then v else if y = Str.ofString "comp" then c else m₀ y)) (N : News h₀ L h' ((I, oI) :: (nc, listOf vs'.toArray n') :: rest))
    (hc : ∀ p ∈ cst, p ∈ rest) (hI : ∀ p ∈ (nc, listOf vs.toArray nn) :: rest, p.1 ≠ I) (hs : StrsAre vs' ys') (e : (parts.take (i + 1)).foldl (pushS root) [] = ys') :
    LPost h₀ L cst (NormJ m₀ root parts nc rest (i + 1)) I oI s Q f { s with heap := h', toks := tk' } := by
  refine LPost.of hf F N (fun p hp => .tail _ (hc p hp)) (fun p hp => ?_) ⟨v, vs', ys', n', upd_comp, hs, e.symm, rfl⟩
  rcases List.mem_cons.mp hp with rfl | hp
  · exact hI (nc, listOf vs.toArray nn) (.head _)
  · exact hI _ (.tail _ hp)

theorem normpath_c {w : World} {A : Around} {s : Shared} {x : Str} {t : Tok} {Q E : Value → Shared → Prop} {mg mb : Str → Option Value} {loose : List Str} {mean : ExcName → Option Value}
    (X : (Mine.kd.heap_1 w.params).In s.heap) (T : Top Mine.hd.view_39 loose mean mg mb s.heap) (hh : A.handled = none) (hdp : A.depth ≤ 700) (hu : A.units ≤ 7000) (hx : x.length ≤ 1000)
    (h : ∀ h' tk' t', s.heap.StaysIn h' → Q (.str (normS x) t') { s with heap := h', toks := tk' }) :
    wpAny (model PySem.Challenge.rw_pd0083_01.row.prog w) A (call (.ref 129) [.str x t]) Q E s := by
  k_with_none
  k_with "execs cons" => (with_reducible refine gen_tok ?_; intro _)
  k_with "mine_rest" => ((case k1 => k_is); (case k2 => k_is); (case k3 => decide); (case c1 => decide); (case c2 => exact rfl); (case c3 => exact rfl); (case c4 => exact rfl))
  k_with "mine_call" => ((case k1 => k_asm); (case k2 => k_asm); (case k3 => k_asm); (case k4 => k_asm); (case kh => exact rfl); (case kd => exact Nat.le_of_ble_eq_true rfl); (case ku => exact Nat.le_of_ble_eq_true rfl); k_whole)
  k_with "call ref" => (k_here; (with_reducible show wpAny _ _ (call (Value.ref 94) _) _ _ _); k_dflt (refine' fspath_f (by k_asm) (by k_asm) (by k_asm) (by k_asm) (by exact rfl) (by exact Nat.le_of_ble_eq_true rfl) (by exact Nat.le_of_ble_eq_true rfl) ?_; k_whole); intro _ _ _ _; (try dsimp only); (try k_sweep))
  k_with "call ref" => (k_here; (with_reducible show wpAny _ _ (call (Value.ref 122) _) _ _ _); k_dflt (refine' splitroot_f (by k_asm) (by k_asm) (by k_asm) (by k_asm) (by exact rfl) (by exact Nat.le_of_ble_eq_true rfl) (by exact Nat.le_of_ble_eq_true rfl) (by assumption) ?_; k_whole); intro _ _ _ _ _ _ _ _ ne'; (replace ne' := allNe_of ne'; simp only [AllNe, and_true] at ne'); (try dsimp only); (try k_sweep))
  k_with "call builtin:str.split" => (k_here; refine KSpl.split1 (by k_asm) (by k_asm) (by decide) ?_ (by simp only [sizeLine_eq]; omega); intro _ _ _ _ _ _ _ _ l1; (try k_lt l1); (try k_sweep))
  k_with "exec For Name Name cons nil" => (k_here; k_dflt (refine wpAny_For ?_ (by intro _; rfl)))
  k_with "truthy ref" => (k_here; (with_reducible show wpAny _ _ (truthy (Value.ref _)) _ _ _); k_dflt (first | (refine' truthy_nil (by k_asm) (by k_mem) ?_; k_whole) | (refine' truthy_snoc (by k_asm) (by k_mem) (by omega) ?_; k_whole)); intro _; (try dsimp only))
  k_with "call builtin:list.append" => (k_here; k_dflt (refine' append_led (by k_asm) (by k_asm) (by k_upd) (by (simp only [List.length_append, List.length_cons, List.length_nil]; omega)) ?_; k_whole); intro _ _ _; (try dsimp only); (try k_sweep))
  k_with "call builtin:list.pop" => (k_here; k_dflt (refine' pop_led (by k_asm) (by k_asm) (by k_upd) (by omega) ?_; k_whole); intro _ _ _; (try dsimp only); (try k_sweep))
  k_with "subscriptTail" => (k_here; (with_reducible show wpAny _ _ (subscriptTail _ _ (Value.ref _) (Value.int (-1) _)) _ _ _); k_dflt (refine' last_led (by k_asm) (by k_mem) ?_; k_whole))
  k_with "call builtin:str.join" => (k_here; k_dflt (refine' join_listC (by exact News.isList (by k_asm) (by k_mem)) (by simpa using (by assumption : StrsAre _ _)) (by decide) (by omega) ?_); intro _ _; (try dsimp only))
  refine weaken ?_ hh hdp hu
  clear hh hdp hu A
  revert X
  k_fill
  intro X
  have htl := tailS_len x (slice_len x 1) (slice_len x 2)
  refine' call_pure (binds := [(Str.ofString "path", .str x t)]) (by assumption) (Top.nolimit (by assumption)) ?k1 ?k2 ?k3 ?k4 ?k5 ?_ ?c1 ?c2 ?c3 ?c4
  walk_at "mine_rest"
  (case k4 => exact BindsTo.of_eq rfl)
  (case k5 => exact locs rfl)
  intro L' h' F' N'
  k_steps
  · refine loop_list rfl (by assumption) (by assumption) (by k_mem) rfl rfl (NormJ _ (rootS x) (Txt.split (tailS x) (Str.ofString "/")) _ _) NormJ.start (fun _ _ _ _ _ _ _ _ hq => go_name hq) ?_ ?_
    · rintro i v m₁ nx hp tk I oI hv hl ⟨c, vs, ys, nn, rfl, hs, hys, rfl⟩ hI F N
      have hI' := allNe_of hI
      simp only [AllNe, and_true] at hI'
      obtain ⟨cp, tc, rfl, hcp⟩ := StrsAre.item (by assumption) _ _ hv
      have hcp' : (Txt.split (tailS x) (Str.ofString "/"))[i]? = some cp := by
        rename List.map _ _ = Txt.split _ _ => e'
        rw [← e']; exact hcp
      have hlen : cp.length ≤ 1000 := Nat.le_trans (part_short (List.mem_of_getElem? hcp')) (by omega)
      have hi : i < (Txt.split (tailS x) (Str.ofString "/")).length := (List.getElem?_eq_some_iff.mp hcp').1
      have hcount := split_count (tailS x) (Str.ofString "/")
      have hysl : ys.length ≤ 1002 := by
        rw [hys]
        have := fold_len (rootS x) ((Txt.split (tailS x) (Str.ofString "/")).take i) []
        simp only [List.length_take, List.length_nil] at this
        omega
      have hrl : (rootS x).length ≤ 1002 := Nat.le_trans (rootS_len x) (by omega)
      have hpush := fold_take (root := rootS x) hcp'
      rw [← hys] at hpush
      clear hys
      rcases List.eq_nil_or_concat ys with rfl | ⟨zs, z, rfl⟩
      · obtain rfl := strs_nil hs
        k_steps
        all_goals (show LPost _ _ _ _ _ _ _ _ _ _)
        all_goals (refine norm_end (by first | exact .inl rfl | exact .inr rfl) (by assumption) (by assumption) (by intro p hp; rw [List.mem_singleton.mp hp]; k_mem) hI (by first | exact hs | exact .cons _ _ .nil) (hpush.trans (by first | with_reducible exact push_no (by assumption) | with_reducible exact push_dot (by assumption) (by assumption) | with_reducible exact push_name0 (by assumption) (by assumption) (by assumption) | with_reducible exact push_up (by assumption) (by assumption) (by assumption) (by assumption) | with_reducible exact push_top (by assumption) (by assumption) (by assumption) (by assumption))))
      · rw [List.concat_eq_append] at *
        obtain ⟨us, tz, rfl, hus⟩ := strs_snoc' hs
        have husl := hus.length
        simp only [List.length_append, List.length_cons, List.length_nil] at hysl
        have hgl : (zs ++ [z]).getLast? = some z := by simp
        have hdl : (zs ++ [z]).dropLast = zs := by simp
        k_steps
        all_goals (show LPost _ _ _ _ _ _ _ _ _ _)
        all_goals (refine norm_end (by first | exact .inl rfl | exact .inr rfl) (by assumption) (by assumption) (by intro p hp; rw [List.mem_singleton.mp hp]; k_mem) hI (by first | exact hs | exact hus | exact hs.append' (.cons _ _ .nil)) (hpush.trans (by first | with_reducible exact push_no (by assumption) | with_reducible exact push_dot (by assumption) (by assumption) | with_reducible exact push_name (by assumption) (by assumption) (by assumption) | with_reducible exact push_dd (by assumption) (by assumption) (by assumption) (by assumption) | with_reducible exact push_pop (by assumption) (by assumption) (by assumption) (by assumption))))
    · rintro hp tk m₁ nx hl ⟨c, vs, ys, nn, rfl, hs, hys, rfl⟩ F N
      rename List.map _ _ = Txt.split _ _ => e'
      rename StrsAre (strValues _) _ => a'
      have hlen := a'.length
      rw [e'] at hlen
      rw [hlen, List.take_length] at hys
      have hst : ys = stackS x := hys
      have hcount := split_count (tailS x) (Str.ofString "/")
      have hysl : ys.length ≤ 1002 := by
        rw [hys]
        have := fold_len (rootS x) (Txt.split (tailS x) (Str.ofString "/")) []
        simp only [List.length_nil] at this
        omega
      have hmem : ∀ y ∈ ys, y.length ≤ 1000 := by
        intro y hy
        rw [hys] at hy
        rcases fold_mem _ _ _ _ hy with hy | hy
        · cases hy
        · exact Nat.le_trans (part_short hy) (by omega)
      have hjl := join_len ys hysl hmem
      have hsum := sum_le ys 1000 hmem
      have hrl : (rootS x).length ≤ 1002 := Nat.le_trans (rootS_len x) (by omega)
      clear hys
      subst hst
      k_steps
      all_goals (show Q (Value.str _ _) _)
      all_goals (refine end_str (z' := normS x) (by first | with_reducible exact norm_all (by assumption) (by assumption) | with_reducible exact norm_emp (by assumption) (by assumption) | with_reducible exact norm_dot (by assumption)) (h _ _ _ (Fr.keep (by assumption))))
  all_goals (show Q (Value.str _ _) _)
  all_goals (refine end_str (z' := normS x) (by first | with_reducible exact norm_all (by assumption) (by assumption) | with_reducible exact norm_emp (by assumption) (by assumption) | with_reducible exact norm_dot (by assumption)) (h _ _ _ (Fr.keep (by assumption))))
end Mine
end

section
open PySem PySem.W PyProof.Rows PySem.Calls
set_option maxRecDepth 100000
set_option maxHeartbeats 8000000
set_option linter.all false
set_option rowWalk.seconds 0
namespace Mine
theorem code_hide {prog : Program} {w : World} {A : Around} {s : Shared} {h₀ : Heap} {L : Addr} {m : Str → Option Value} {news : List (Addr × Obj)} {K : Frag}
    {R : Result → Shared → Prop} {name qual : Str} {params : Arguments} {body : List Stmt} {scope : Scope} {dV kV doc pm cdv ct oc : Value} {an od : Option Addr} {osl : Array (Option Value)} {f : Addr} {args : Args} {binds : List (Str × Value)}
    (F : Fr h₀ L s.heap m) (N : News h₀ L s.heap news) (X : K.In s.heap) (hlim : h₀.NoLimit)
    (ho : K.lookup f = some ⟨oc, od, .func (fnOf name qual params body scope dV kV doc pm an cdv ct), osl⟩) (hcd : codeIn K cdv qual = true) (hroom : A.depth < recursionLimit)
    (hbind : BindsTo s (fnOf name qual params body scope dV kV doc pm an cdv ct) args binds) (hloc : ∀ y ∈ binds, scope.names.lookup y.1 = some .local)
    (h : ∀ g L' h₁, h₀.StaysIn g → (∀ b o, s.heap.get? b = some o → b ∉ news.map (·.1) → g.get? b = some o) → Fr g L' h₁ (fun y => binds.reverse.lookup y) → News g L' h₁ news → (∀ p ∈ news, p.1 < L') →
      wpAny (model prog w) (A.deeper (envOf qual scope L' f cdv)) (execs body (envOf qual scope L' f cdv))
        (fun fl s' => LeaveK h₀ L m g R (match fl with | .ret v => v | _ => .none) s') (fun _ _ => False)
        { s with heap := h₁, toks := s.toks + binds.length })
    (hcell : ∀ x ∈ scope.names, x.2 ≠ .cell) (hco : scope.isCoroutine = false) (hgen : scope.isGenerator = false) (hk : scope.kind = .function) :
    codeAny (model prog w) A (.call (.ref f) args) R s := by
  refine codeAny_call_def (fd := fnOf name qual params body scope dV kV doc pm an cdv ct) (body := body) (binds := binds) hroom (X _ _ ho) rfl (hlim.keeps F.keep) (codeRec_of X hcd) rfl hbind hcell hloc (fun h₁ hns hk₁ => ?_) hco hgen hk
  have off : ∀ b o, h₀.get? b = some o → b ∉ news.map (·.1) := fun b o e q => by
    obtain ⟨p, hp, rfl⟩ := List.mem_map.mp q
    rw [(N p hp).2.2] at e; cases e
  have st : h₀.StaysIn (hideAll s.heap (news.map (·.1))) := fun b o e => hideAll_get _ (F.keep b o e) (off b o e)
  obtain ⟨oL, es, ep, hL, hr⟩ := F.ns
  have nL : L ∉ news.map (·.1) := fun q => by
    obtain ⟨p, hp, e⟩ := List.mem_map.mp q
    exact (N p hp).2.1 e
  have hLg := hideAll_get (news.map (·.1)) hL nL
  refine wpAny_mono (h (hideAll s.heap (news.map (·.1))) s.heap.objs.size h₁ st (fun b o e n => hideAll_get _ e n) ⟨hns, fun b o e => hk₁ b o (of_hideAll _ e), Nat.le_of_eq (hideAll_size _ _)⟩
    (fun p hp => ⟨hk₁ _ _ (N p hp).1, Nat.ne_of_lt (Heap.lt_size (N p hp).1), hideAll_none _ (List.mem_map_of_mem hp)⟩) (fun p hp => Heap.lt_size (N p hp).1)) (fun fl s' hl => ?_) fun _ _ y => y.elim
  obtain ⟨L', m', news', F', N', k⟩ := hl
  refine k ⟨⟨oL, es, ep, F'.keep L oL hLg, hr⟩, fun b o e => F'.keep b o (st b o e), F.above⟩ fun p hp => ⟨(N' p hp).1, fun q => ?_, ?_⟩
  · have := (N' p hp).2.2; rw [q, hLg] at this; cases this
  · cases q : h₀.get? p.1 with
    | none => rfl
    | some o => have := (N' p hp).2.2; rw [st _ _ q] at this; cases this
end Mine
end

section
open PySem PySem.W PyProof.Rows PySem.Calls
set_option maxRecDepth 100000
set_option maxHeartbeats 8000000
set_option linter.all false
set_option rowWalk.seconds 0
namespace Mine
structure WS where
  count : List Int
  b : Nat
  n : Nat
  nt : Nat
def bump (cnt : List Int) (b : Nat) : List Int :=
  (if cnt.length ≤ b then cnt ++ List.replicate (b - cnt.length + 1) 0 else cnt).set b ((if cnt.length ≤ b then cnt ++ List.replicate (b - cnt.length + 1) 0 else cnt).getD b 0 + 1)
def wsStep (st : WS) (c : Nat) : WS := if c = 32 then { st with b := st.b + 1, n := st.n + 1 } else { count := bump st.count st.b, b := 0, n := st.n + 1, nt := st.nt + 1 }
def wsFold (x : Str) : WS := x.cps.toList.foldl wsStep ⟨[], 0, 0, 0⟩

def WsJ (m₀ : Str → Option Value) (x : Str) (rest : List (Addr × Obj)) (i : Nat) (m : Str → Option Value) (nx : List (Addr × Obj)) : Prop :=
  ∃ (st : WS) (c : Option Value) (la : Addr) (vs : List Value) (nn : Nat) (tb tn tt : Tok), st = (x.cps.toList.take i).foldl wsStep ⟨[], 0, 0, 0⟩ ∧
    m = (fun y => if y = Str.ofString "ch" then c else if y = Str.ofString "count" then some (.ref la) else if y = Str.ofString "b" then some (.int (st.b : Int) tb) else if y = Str.ofString "n" then some (.int (st.n : Int) tn) else if y = Str.ofString "nt" then some (.int (st.nt : Int) tt) else m₀ y) ∧
    IntsAre vs st.count ∧ nx = (la, listOf vs.toArray nn) :: rest ∧ AllNe la rest

theorem WsJ.start {m₀ : Str → Option Value} {x : Str} {rest : List (Addr × Obj)} {la : Addr} {nn : Nat} {tb tn tt : Tok} (hl : m₀ (Str.ofString "count") = some (.ref la)) (hb : m₀ (Str.ofString "b") = some (.int 0 tb)) (hn : m₀ (Str.ofString "n") = some (.int 0 tn)) (ht : m₀ (Str.ofString "nt") = some (.int 0 tt)) (ha : AllNe la rest) :
    WsJ m₀ x rest 0 m₀ ((la, listOf #[] nn) :: rest) := by
  refine ⟨⟨[], 0, 0, 0⟩, m₀ (Str.ofString "ch"), la, [], nn, tb, tn, tt, by simp, ?_, .nil, rfl, ha⟩
  funext y
  (repeat' split) <;> (try subst_vars) <;> first | assumption | rfl

theorem bump_len2 (cnt : List Int) (b : Nat) : (bump cnt b).length ≤ max cnt.length (b + 1) := by
  unfold bump
  rw [List.length_set]
  split
  · simp; omega
  · omega
theorem ws_bound : ∀ (l : List Nat) (st : WS) (N : Nat), st.count.length ≤ N + 1 → st.b ≤ N → st.n ≤ N → st.nt ≤ N →
    (l.foldl wsStep st).count.length ≤ N + l.length + 1 ∧ (l.foldl wsStep st).b ≤ N + l.length ∧ (l.foldl wsStep st).n ≤ N + l.length ∧ (l.foldl wsStep st).nt ≤ N + l.length
  | [], st, N, h1, h2, h3, h4 => ⟨h1, h2, h3, h4⟩
  | c :: l, st, N, h1, h2, h3, h4 => by
    have hb := bump_len2 st.count st.b
    have key : (wsStep st c).count.length ≤ (N + 1) + 1 ∧ (wsStep st c).b ≤ N + 1 ∧ (wsStep st c).n ≤ N + 1 ∧ (wsStep st c).nt ≤ N + 1 := by
      unfold wsStep
      split
      · exact ⟨Nat.le_succ_of_le h1, Nat.succ_le_succ h2, Nat.succ_le_succ h3, Nat.le_succ_of_le h4⟩
      · exact ⟨Nat.le_trans hb (Nat.max_le.mpr ⟨Nat.le_succ_of_le h1, Nat.le_succ_of_le (Nat.succ_le_succ h2)⟩), Nat.zero_le _, Nat.succ_le_succ h3, Nat.succ_le_succ h4⟩
    have e : N + 1 + l.length = N + (l.length + 1) := by rw [Nat.add_assoc, Nat.add_comm 1]
    have := ws_bound l (wsStep st c) (N + 1) key.1 key.2.1 key.2.2.1 key.2.2.2
    rw [e] at this
    exact this
theorem ws_take {x : Str} {i c : Nat} (h : x.cps[i]? = some c) : (x.cps.toList.take (i + 1)).foldl wsStep ⟨[], 0, 0, 0⟩ = wsStep ((x.cps.toList.take i).foldl wsStep ⟨[], 0, 0, 0⟩) c := by
  have h' : x.cps.toList[i]? = some c := by rw [Array.getElem?_toList]; exact h
  rw [List.take_add_one, h', List.foldl_append]; rfl
theorem bump_pos {cnt : List Int} {b : Nat} (h : (cnt.length : Int) ≤ (b : Int)) :
    (cnt ++ (List.replicate ((b : Int) - (cnt.length : Int) + 1).toNat [(0 : Int)]).flatten).set (b : Int).toNat ((cnt ++ (List.replicate ((b : Int) - (cnt.length : Int) + 1).toNat [(0 : Int)]).flatten).getD (b : Int).toNat 0 + 1) = bump cnt b := by
  have h' : cnt.length ≤ b := by omega
  have e : ((b : Int) - (cnt.length : Int) + 1).toNat = b - cnt.length + 1 := by omega
  unfold bump
  rw [e, if_pos h', Int.toNat_natCast, List.flatten_replicate_singleton]
theorem bump_neg {cnt : List Int} {b : Nat} (h : ¬ (cnt.length : Int) ≤ (b : Int)) : cnt.set (b : Int).toNat (cnt.getD (b : Int).toNat 0 + 1) = bump cnt b := by
  have h' : ¬ cnt.length ≤ b := by omega
  unfold bump
  rw [if_neg h', Int.toNat_natCast]

theorem ws_end {h₀ h' : Heap} {L I la' : Addr} {oI : Obj} {m₀ m' : Str → Option Value} {x : Str} {rest news' : List (Addr × Obj)} {i c : Nat} {s : Shared} {Q : Flow → Shared → Prop} {f : Flow} {tk' : Nat} {st : WS} {vs' : List Value} {cnt' : List Int} {n' : Nat} {cv : Option Value} {tb tn tt : Tok}
    (hst : st = (x.cps.toList.take i).foldl wsStep ⟨[], 0, 0, 0⟩) (hci : x.cps[i]? = some c) (hf : f = .next ∨ f = .cont) (F : Fr h₀ L h' m') (N : News h₀ L h' news')
    (h1 : m' (Str.ofString "ch") = cv) (h2 : m' (Str.ofString "count") = some (.ref la')) (h3 : m' (Str.ofString "b") = some (.int ((wsStep st c).b : Int) tb)) (h4 : m' (Str.ofString "n") = some (.int ((wsStep st c).n : Int) tn)) (h5 : m' (Str.ofString "nt") = some (.int ((wsStep st c).nt : Int) tt))
    (h6 : ∀ y, y ≠ Str.ofString "ch" → y ≠ Str.ofString "count" → y ≠ Str.ofString "b" → y ≠ Str.ofString "n" → y ≠ Str.ofString "nt" → m' y = m₀ y)
    (hi : IntsAre vs' cnt') (hsub : ∀ p ∈ (I, oI) :: (la', listOf vs'.toArray n') :: rest, p ∈ news') (hI : ∀ p ∈ rest, p.1 ≠ I) (hI2 : @Ne Nat la' I) (hla : AllNe la' rest)
    (e : cnt' = (wsStep st c).count) :
    LPost h₀ L [] (WsJ m₀ x rest (i + 1)) I oI s Q f { s with heap := h', toks := tk' } := by
  subst e
  refine LPost.of hf F (fun p hp => N p (hsub p hp)) (fun p hp => nomatch hp) ?_ ⟨wsStep st c, cv, la', vs', n', tb, tn, tt, by rw [ws_take hci, hst], ?_, hi, rfl, hla⟩
  · intro p hp
    rcases List.mem_cons.mp hp with rfl | hp
    · exact hI2
    · exact hI p hp
  · funext y
    by_cases e1 : y = Str.ofString "ch"
    · subst e1; exact h1
    by_cases e2 : y = Str.ofString "count"
    · subst e2; exact h2
    by_cases e3 : y = Str.ofString "b"
    · subst e3; exact h3
    by_cases e4 : y = Str.ofString "n"
    · subst e4; exact h4
    by_cases e5 : y = Str.ofString "nt"
    · subst e5; exact h5
    rw [if_neg e1, if_neg e2, if_neg e3, if_neg e4, if_neg e5]
    exact h6 y e1 e2 e3 e4 e5

def LeadIn (P : Params) (nl : List (Addr × Obj)) (o : Addr) (st : WS) : Prop :=
  ∃ (dx T1 T2 : Addr) (vs : List Value) (x : Str) (t k1 k2 k3 k4 k5 tn tt tb : Tok) (bs : Bool),
    nl = [(o, instObj 191 dx), (dx, dictOf [⟨PyData.keyHash P (Str.ofString "raw"), .str (Str.ofString "raw") k1, .str x t⟩, ⟨PyData.keyHash P (Str.ofString "n"), .str (Str.ofString "n") k2, .int (st.n : Int) tn⟩,
      ⟨PyData.keyHash P (Str.ofString "nt"), .str (Str.ofString "nt") k3, .int (st.nt : Int) tt⟩, ⟨PyData.keyHash P (Str.ofString "norm"), .str (Str.ofString "norm") k4, .ref T1⟩, ⟨PyData.keyHash P (Str.ofString "is_simple"), .str (Str.ofString "is_simple") k5, .bool bs⟩] 5),
      (T1, tupObj [.ref T2, .int (st.b : Int) tb]), (T2, tupObj vs)] ∧ IntsAre vs st.count ∧ bs = decide ((st.count.length : Int) ≤ 1)

theorem lead_of {P : Params} {h₀ h : Heap} {L o dx T1 T2 : Addr} {news : List (Addr × Obj)} {vs : List Value} {x : Str} {t k1 k2 k3 k4 k5 tn tt tb : Tok} {bs : Bool} {st : WS} {C : Prop}
    (N : News h₀ L h news) (m1 : (o, instObj 191 dx) ∈ news)
    (m2 : (dx, dictOf [⟨PyData.keyHash P (Str.ofString "raw"), .str (Str.ofString "raw") k1, .str x t⟩, ⟨PyData.keyHash P (Str.ofString "n"), .str (Str.ofString "n") k2, .int (st.n : Int) tn⟩,
      ⟨PyData.keyHash P (Str.ofString "nt"), .str (Str.ofString "nt") k3, .int (st.nt : Int) tt⟩, ⟨PyData.keyHash P (Str.ofString "norm"), .str (Str.ofString "norm") k4, .ref T1⟩, ⟨PyData.keyHash P (Str.ofString "is_simple"), .str (Str.ofString "is_simple") k5, .bool bs⟩] 5) ∈ news)
    (m3 : (T1, tupObj [.ref T2, .int (st.b : Int) tb]) ∈ news) (m4 : (T2, tupObj vs) ∈ news) (hi : IntsAre vs st.count) (hb : bs = decide ((st.count.length : Int) ≤ 1))
    (k : ∀ nl, News h₀ L h nl → LeadIn P nl o st → C) : C := by
  refine k [(o, instObj 191 dx), (dx, _), (T1, _), (T2, _)] (fun p hp => N p ?_) ⟨dx, T1, T2, vs, x, t, k1, k2, k3, k4, k5, tn, tt, tb, bs, rfl, hi, hb⟩
  simp only [List.mem_cons, List.not_mem_nil, or_false] at hp
  rcases hp with rfl | rfl | rfl | rfl <;> assumption

theorem ws_new {w : World} {A : Around} {s : Shared} {x : Str} {t : Tok} {Q E : Value → Shared → Prop} {mg mb : Str → Option Value} {loose : List Str} {mean : ExcName → Option Value} {h₀ : Heap} {L : Addr} {m : Str → Option Value}
    (F : Fr h₀ L s.heap m) (X : (Mine.kd.heap_1 w.params).In h₀) (T : Top Mine.hd.view_39 loose mean mg mb h₀) (hh : A.handled = none) (hdp : A.depth ≤ 800) (hu : A.units ≤ 8000) (hx : x.length ≤ 1000) (hc : ∀ c ∈ x.cps.toList, c = 32 ∨ c = 9)
    (h : ∀ h' tk' o nl, Fr h₀ L h' m → News h₀ L h' nl → LeadIn w.params nl o (wsFold x) → Q (.ref o) { s with heap := h', toks := tk' }) :
    wpAny (model PySem.Challenge.rw_pd0083_01.row.prog w) A (call (.ref 191) [.str x t]) Q E s := by
  k_with_none
  k_with "execs cons" => ((with_reducible refine execs_out ?_); intro _ _)
  k_with "execs cons" => (with_reducible refine gen_tok ?_; intro _)
  k_with "Out" => (refine out_end (by with_reducible assumption) ?_; (try dsimp only))
  k_with "mine_rest" => ((case k1 => k_is); (case k2 => k_is); (case k3 => k_room); (case c1 => decide); (case c2 => exact rfl); (case c3 => exact rfl); (case c4 => exact rfl))
  k_with "mine_call" => ((case k1 => k_asm); (case k2 => k_asm); (case k3 => k_asm); (case k4 => k_asm); (case kh => exact rfl); (case kd => exact Nat.le_of_ble_eq_true rfl); (case ku => exact Nat.le_of_ble_eq_true rfl); k_whole)
  k_with "call ref" => (k_here; (with_reducible show wpAny _ _ (call (Value.ref 94) _) _ _ _); k_dflt (refine' fspath_f (by k_asm) (by k_asm) (by k_asm) (by k_asm) (by exact rfl) (by exact Nat.le_of_ble_eq_true rfl) (by exact Nat.le_of_ble_eq_true rfl) ?_; k_whole); intro _ _ _ _; (try dsimp only); (try k_sweep))
  k_with "exec For Name Attribute cons nil" => (k_here; k_dflt (refine wpAny_For ?_ (by intro _; rfl)))
  k_with "ws_close" => ((case cf => exact .inl rfl); (case F => assumption); (case N => assumption); (case h1 => exact rfl); (case h2 => exact rfl); (case h3 => exact rfl); (case h4 => exact rfl); (case h5 => exact rfl); (case h6 => (intro _ e1 e2 e3 e4 e5; simp only [e1, e2, e3, e4, e5, if_false])))
  k_with "call type:tuple" => (k_here; (with_reducible show wpAny _ _ (call (Value.type _) [Value.ref _]) _ _ _); k_dflt (refine' kde_tupleOf (by k_asm) (by k_asm) (by exact led_list (by k_asm) (by k_mem)) (by (rw [List.size_toArray]; omega)) (by exact List.toList_toArray) ?_; k_whole); intro _ _ _ _ l1; (try k_lt l1); (try k_sweep))
  refine weaken ?_ hh hdp hu
  clear hh hdp hu A
  revert X
  k_fill
  intro X
  refine' call_cls (fI := 146) (news := []) F X News.nil ?k1 ?k2 ?k3 ?_
  (case k1 => k_is)
  (case k2 => k_is)
  (case k3 => k_is)
  intro o dx h1 F1 N1 _ l2
  have l2' := ltN l2
  refine' code_hide (binds := [(Str.ofString "self", .ref o), (Str.ofString "ws", .str x t)]) F1 N1 (X.keeps F1.keep) T.nolimit ?k1 ?k2 ?k3 ?k4 ?k5 ?_ ?c1 ?c2 ?c3 ?c4
  walk_at "mine_rest"
  (case k4 => exact BindsTo.of_eq rfl)
  (case k5 => exact locs rfl)
  intro g L' h' st hg F' N' l3
  have X' := X.keeps st
  have T' := T.keeps st
  k_steps
  refine loop_str rfl (by assumption) (by assumption) (WsJ _ x _) (WsJ.start rfl rfl rfl rfl ?_) (fun _ _ _ _ _ hq => go_name hq) ?_ ?_
  · simp only [AllNe, and_true]; omega
  · rintro i c k m₁ nx hp tk I oI hci ⟨st, c', la, vs, nn, tb, tn, tt, hst, rfl, hi, rfl, hla⟩ hI F N
    have hI' := allNe_of hI
    simp only [AllNe, and_true] at hI' hla
    have hvl := hi.length
    have hilt : i < x.cps.size := (Array.getElem?_eq_some_iff.mp hci).1
    have hxl : x.cps.size ≤ 1000 := hx
    have hbd := ws_bound (x.cps.toList.take i) ⟨[], 0, 0, 0⟩ 0 (by simp) (by simp) (by simp) (by simp)
    rw [← hst] at hbd
    have htk : (x.cps.toList.take i).length ≤ 1000 := by simp; omega
    have hbl : vs.length ≤ 1001 ∧ st.b ≤ 1000 ∧ st.n ≤ 1000 ∧ st.nt ≤ 1000 := by omega
    have hcm : c ∈ x.cps.toList := by rw [Array.mem_toList_iff]; exact Array.mem_of_getElem? hci
    rcases hc c hcm with rfl | rfl
    · k_steps
      refine' ws_end hst hci ?cf ?F ?N ?h1 ?h2 ?h3 ?h4 ?h5 ?h6 hi ?sub (fun p hp => hI p (.tail _ hp)) ?I2 ?la ?e
      walk_at "ws_close"
      (case sub => intro p hp; exact hp)
      (case I2 => omega)
      (case la => simp only [AllNe, and_true]; omega)
      (case e => exact rfl)
    · k_steps
      · refine' ws_end hst hci ?cf ?F ?N ?h1 ?h2 ?h3 ?h4 ?h5 ?h6 (by assumption) ?sub (fun p hp => hI p (.tail _ hp)) ?I2 ?la ?e
        walk_at "ws_close"
        (case e => exact bump_pos (by assumption))
        (case sub => intro p hp; simp only [List.mem_cons, List.not_mem_nil, or_false] at hp; rcases hp with rfl | rfl | rfl | rfl | rfl <;> k_mem)
        (case I2 => omega)
        (case la => simp only [AllNe, and_true]; omega)
      · refine' ws_end hst hci ?cf ?F ?N ?h1 ?h2 ?h3 ?h4 ?h5 ?h6 (by assumption) ?sub (fun p hp => hI p (.tail _ hp)) ?I2 ?la ?e
        walk_at "ws_close"
        (case e => exact bump_neg (by assumption))
        (case sub => intro p hp; exact hp)
        (case I2 => omega)
        (case la => simp only [AllNe, and_true]; omega)
  · rintro hp tk m₁ nx ⟨st, c', la, vs, nn, tb, tn, tt, hst, rfl, hi, rfl, hla⟩ F N
    simp only [AllNe, and_true] at hla
    have hvl := hi.length
    have hxl : x.cps.size ≤ 1000 := hx
    have hbd := ws_bound x.cps.toList ⟨[], 0, 0, 0⟩ 0 (by simp) (by simp) (by simp) (by simp)
    rw [List.take_of_length_le (by simp)] at hst
    rw [← hst] at hbd
    have htk : x.cps.toList.length ≤ 1000 := by simpa using hxl
    have hbl : vs.length ≤ 1001 ∧ st.b ≤ 1000 ∧ st.n ≤ 1000 ∧ st.nt ≤ 1000 := by omega
    clear hbd
    k_steps
    have hst' : st = wsFold x := hst
    subst hst'
    refine' lead_of (h₀ := h₀) (L := L) (st := wsFold x) ?N ?m1 ?m2 ?m3 ?m4 hi ?hb (fun nl N9 hl => h _ _ _ nl ?F N9 hl)
    (case F => assumption)
    (case N => assumption)
    (case m1 => k_mem)
    (case m2 => k_mem)
    (case m3 => k_mem)
    (case m4 => k_mem)
    (case hb => first | exact rfl | simp)
end Mine
end

section
open PySem PySem.W PyProof.Rows PySem.Calls
set_option maxRecDepth 100000
set_option maxHeartbeats 8000000
set_option linter.all false
set_option rowWalk.seconds 0
namespace Mine
def leadS (x : Str) : Str := ⟨x.cps.map fun c => if c = 47 then 9 else 32⟩

def leadSign (a : Str) : Str := if (a == Str.ofString "/") = true then Str.ofString "\t" else Str.ofString " "
theorem lead_strs {ys : List Value} {x : Str} (h : CarriedAll ys (List.map (fun a => if (a == Str.ofString "/") = true then PyData.str (Str.ofString "\t") else PyData.str (Str.ofString " ")) (List.filter (fun _ => true) (signs x)))) : StrsAre ys ((signs x).map leadSign) := by
  refine StrsAre.of_carried ?_
  rw [List.filter_eq_self.mpr (fun _ _ => rfl)] at h
  rw [List.map_map]
  refine (congrArg (CarriedAll ys) (List.map_congr_left fun a _ => ?_)).mp h
  show _ = PyData.str (leadSign a)
  unfold leadSign
  split <;> rfl
theorem join_nil_cps : ∀ l : List Str, (Str.join (Str.ofString "") l).cps.toList = l.flatMap fun a => a.cps.toList
  | [] => rfl
  | [x] => by show x.cps.toList = _; simp
  | x :: y :: r => by
    show (x ++ Str.ofString "" ++ Str.join (Str.ofString "") (y :: r)).cps.toList = _
    rw [Str.cps_append, Str.cps_append, Array.toList_append, Array.toList_append, join_nil_cps (y :: r)]
    have e : (Str.ofString "").cps.toList = [] := by decide
    rw [e]; simp
theorem leadSign_one (c : Nat) : (leadSign ⟨#[c]⟩).cps.toList = [if c = 47 then 9 else 32] := by
  unfold leadSign
  have e : Str.ofString "/" = ⟨#[47]⟩ := by decide
  rw [e]
  by_cases hc : c = 47
  · subst hc; decide
  · have : ((⟨#[c]⟩ : Str) == ⟨#[47]⟩) = false := by
      rw [beq_eq_false_iff_ne]; intro h; injection h with h; simp at h; exact hc h
    rw [this, if_neg (by decide), if_neg hc]; decide
theorem join_lead (x : Str) : Txt.join (Str.ofString "") ((signs x).map leadSign) = leadS x := by
  show Builtin.Str.glued (Str.ofString "") _ = _
  rw [StrLaws.glued_eq_join]
  refine Str.ext' (Array.toList_inj.mp ?_)
  rw [join_nil_cps]
  show _ = (x.cps.map _).toList
  rw [Array.toList_map, signs_def, List.map_map, List.flatMap_map]
  induction x.cps.toList with
  | nil => rfl
  | cons c l ih => rw [List.flatMap_cons, List.map_cons, ih]; simp only [Function.comp_apply]; rw [leadSign_one]; rfl
theorem leadS_len (x : Str) : (leadS x).length = x.length := by show (x.cps.map _).size = x.cps.size; simp
theorem leadS_ok (x : Str) : ∀ c ∈ (leadS x).cps.toList, c = 32 ∨ c = 9 := by
  intro c hc
  have : c ∈ (x.cps.map fun c => if c = 47 then 9 else 32).toList := hc
  simp only [Array.toList_map, List.mem_map] at this
  obtain ⟨d, _, rfl⟩ := this
  split <;> simp
theorem lead_sum (x : Str) (hx : x.length ≤ 1000) : (((signs x).map leadSign).map (·.length)).sum + ((signs x).map leadSign).length * 64 ≤ 16777216 := by
  have h1 : ∀ y ∈ (signs x).map leadSign, y.length ≤ 1 := by
    intro y hy
    obtain ⟨a, ha, rfl⟩ := List.mem_map.mp hy
    have h2 : (Str.ofString "\t").length = 1 := by decide
    have h3 : (Str.ofString " ").length = 1 := by decide
    unfold leadSign; split <;> omega
  have h2 : ∀ (ys : List Str), (∀ y ∈ ys, y.length ≤ 1) → (ys.map (·.length)).sum ≤ ys.length := by
    intro ys
    induction ys with
    | nil => intro _; simp
    | cons y ys ih =>
      intro h
      have := ih fun z hz => h z (.tail _ hz)
      have := h y (.head _)
      simp only [List.map_cons, List.sum_cons, List.length_cons]; omega
  have h3 := h2 _ h1
  have h4 : ((signs x).map leadSign).length = x.length := by rw [List.length_map, signs_length]
  omega
theorem join_leadL {prog : Program} {w : World} {A : Around} {s : Shared} {E : Value → Shared → Prop} {x : Str} {t : Tok} {D : Addr} {ys : List Value} {Q : Value → Shared → Prop} (hl : s.heap.IsList D ys.toArray)
    (hc : CarriedAll ys (List.map (fun a => if (a == Str.ofString "/") = true then PyData.str (Str.ofString "\t") else PyData.str (Str.ofString " ")) (List.filter (fun _ => true) (signs x)))) (hx : x.length ≤ 1000)
    (h : ∀ t' k, Q (.str (leadS x) t') { s with toks := k }) : wpAny (model prog w) A (call (.builtin "str.join") [.str (Str.ofString "") t, .ref D]) Q E s := by
  refine join_listC hl (ys := (signs x).map leadSign) (by simpa using lead_strs hc) (by decide) (lead_sum x hx) ?_
  rw [join_lead]
  exact h
theorem lead_c {w : World} {A : Around} {s : Shared} {x : Str} {t : Tok} {Q E : Value → Shared → Prop} {mg mb : Str → Option Value} {loose : List Str} {mean : ExcName → Option Value}
    (X : (Mine.kd.heap_1 w.params).In s.heap) (T : Top Mine.hd.view_39 loose mean mg mb s.heap) (hh : A.handled = none) (hdp : A.depth ≤ 700) (hu : A.units ≤ 7000) (hx : x.length ≤ 1000)
    (h : ∀ h' tk' o nl, s.heap.StaysIn h' → (∀ p ∈ nl, h'.get? p.1 = some p.2 ∧ s.heap.get? p.1 = none) → LeadIn w.params nl o (wsFold (leadS x)) → Q (.ref o) { s with heap := h', toks := tk' }) :
    wpAny (model PySem.Challenge.rw_pd0083_01.row.prog w) A (call (.ref 214) [.str x t]) Q E s := by
  k_with_none
  k_with "mine_rest" => ((case k1 => k_is); (case k2 => k_is); (case k3 => decide); (case c1 => decide); (case c2 => exact rfl); (case c3 => exact rfl); (case c4 => exact rfl))
  k_with "mine_call" => ((case k1 => k_asm); (case k2 => k_asm); (case k3 => k_asm); (case k4 => k_asm); (case kh => exact rfl); (case kd => exact Nat.le_of_ble_eq_true rfl); (case ku => exact Nat.le_of_ble_eq_true rfl); k_whole)
  k_with "call ref" => (k_here; (with_reducible show wpAny _ _ (call (Value.ref 94) _) _ _ _); k_dflt (refine' fspath_f (by k_asm) (by k_asm) (by k_asm) (by k_asm) (by exact rfl) (by exact Nat.le_of_ble_eq_true rfl) (by exact Nat.le_of_ble_eq_true rfl) ?_; k_whole); intro _ _ _ _; (try dsimp only); (try k_sweep))
  k_with "call builtin:str.join" => (k_here; k_dflt (refine' join_leadL (by assumption) (by assumption) (by assumption) ?_); intro _ _; (try dsimp only))
  k_with "call ref" => (k_here; (with_reducible show wpAny _ _ (call (Value.ref 191) _) _ _ _); k_dflt (refine' ws_new (by k_asm) (by k_asm) (by k_asm) (by exact rfl) (by exact Nat.le_of_ble_eq_true rfl) (by exact Nat.le_of_ble_eq_true rfl) (by (rw [leadS_len]; assumption)) (by exact leadS_ok _) ?_; k_whole); intro _ _ _ _ _ _ _; (try dsimp only); (try k_sweep))
  refine weaken ?_ hh hdp hu
  clear hh hdp hu A
  revert X
  k_fill
  intro X
  refine' call_pure (binds := [(Str.ofString "path", .str x t)]) (by assumption) (Top.nolimit (by assumption)) ?k1 ?k2 ?k3 ?k4 ?k5 ?_ ?c1 ?c2 ?c3 ?c4
  walk_at "mine_rest"
  (case k4 => exact BindsTo.of_eq rfl)
  (case k5 => exact locs rfl)
  intro L' h' F' N'
  k_steps
  exact h _ _ _ _ (Fr.keep (by assumption)) (fun p hp => ⟨((by assumption : News s.heap L' _ _) p hp).1, ((by assumption : News s.heap L' _ _) p hp).2.2⟩) (by assumption)
end Mine
end

section
open PySem PySem.W PyProof.Rows PySem.Calls
set_option maxRecDepth 100000
set_option maxHeartbeats 8000000
set_option linter.all false
set_option rowWalk.seconds 0
namespace Mine
theorem inst_base {h₀ h : Heap} {L x C : Addr} {m : Str → Option Value} {ox : Obj} {od : Option Obj} (F : Fr h₀ L h m) (I : InstAt h₀ x ox C od) : InstAt h x ox C od := by
  refine ⟨F.keep _ _ I.at_, I.cls, I.no, ?_⟩
  have hd := I.dict
  revert hd
  split <;> intro hd
  · exact F.keep _ _ hd
  · trivial
  · exact hd
local macro_rules | `(tactic| k_inst) => `(tactic| exact inst_base (by k_asm) (by assumption))

section
variable {prog : Program} {w : World} {A : Around} {s : Shared} {E : Value → Shared → Prop} {h₀ : Heap} {L T : Addr} {m : Str → Option Value} {vs : List Value} {ns : List Int} {Q : Value → Shared → Prop}
theorem len_base (F : Fr h₀ L s.heap m) (ht : IsTup h₀ T vs.toArray) (hi : IntsAre vs ns) (hz : vs.length ≤ 100000) (h : ∀ t' k, Q (.int (ns.length : Int) t') { s with toks := k }) : wpAny (model prog w) A (call (.builtin "len") [.ref T]) Q E s := by
  refine len_tuple (ht.keeps F.keep) (by rw [List.size_toArray]; omega) ?_
  have e : (vs.toArray.size : Int) = (ns.length : Int) := by rw [List.size_toArray, hi.length]
  rw [e]
  exact h _ _
theorem item_base {value slice : Expr} {k : Int} {u : Tok} (F : Fr h₀ L s.heap m) (ht : IsTup h₀ T vs.toArray) (hi : IntsAre vs ns) (h0 : 0 ≤ k) (h1 : k < (ns.length : Int)) (hz : vs.length ≤ 100000) (h : ∀ t', Q (.int (ns.getD k.toNat 0) t') s)
    (hs : subscripted slice false (.ref T) (.int k u) = operate [.ref T, .int k u] (getItem (.ref T) (.int k u)) := by with_unfolding_all rfl) (hg : ∀ r, letTemporaryGo value (.ref T) r = pure () := by intro _; with_unfolding_all rfl) :
    wpAny (model prog w) A (subscriptTail value slice (.ref T) (.int k u)) Q E s := by
  have hl := hi.length
  have hk : k.toNat < ns.length := by omega
  obtain ⟨t, ht'⟩ := hi.get k.toNat (ns[k.toNat]'hk) (List.getElem?_eq_getElem hk)
  refine item_tupleL (j := k.toNat) (ht.keeps F.keep) (by omega) (by omega) ?_ ht' ?_ hs hg
  · unfold seqIndex?
    have : ¬ k < 0 := by omega
    simp only [this, if_false]
    rw [if_pos (by simp; omega)]
  · have e : ns[k.toNat]'hk = ns.getD k.toNat 0 := by simp [List.getD, hk]
    rw [e]; exact h t
end
theorem lead_facts {P : Params} {nl : List (Addr × Obj)} {o : Addr} {st : WS} {h : Heap} (hl : LeadIn P nl o st) (hn : ∀ p ∈ nl, h.get? p.1 = some p.2) :
    ∃ (dx T1 T2 : Addr) (vs : List Value) (x : Str) (t k1 k2 k3 k4 k5 tn tt tb : Tok) (bs : Bool), InstAt h o (instObj 191 dx) 191 (some (dictOf [⟨PyData.keyHash P (Str.ofString "raw"), .str (Str.ofString "raw") k1, .str x t⟩, ⟨PyData.keyHash P (Str.ofString "n"), .str (Str.ofString "n") k2, .int (st.n : Int) tn⟩,
      ⟨PyData.keyHash P (Str.ofString "nt"), .str (Str.ofString "nt") k3, .int (st.nt : Int) tt⟩, ⟨PyData.keyHash P (Str.ofString "norm"), .str (Str.ofString "norm") k4, .ref T1⟩, ⟨PyData.keyHash P (Str.ofString "is_simple"), .str (Str.ofString "is_simple") k5, .bool bs⟩] 5)) ∧
      IsTup h T1 ([.ref T2, .int (st.b : Int) tb] : List Value).toArray ∧ IsTup h T2 vs.toArray ∧ Reads h (.ref T1) (.tuple [.tuple (st.count.map .int), .int (st.b : Int)]) [] ∧ IntsAre vs st.count ∧ vs.length = st.count.length ∧ bs = decide ((st.count.length : Int) ≤ 1) := by
  obtain ⟨dx, T1, T2, vs, x, t, k1, k2, k3, k4, k5, tn, tt, tb, bs, rfl, hi, hbs⟩ := hl
  have h1 := hn _ (.head _)
  have h2 := hn _ (.tail _ (.head _))
  have h3 := hn _ (.tail _ (.tail _ (.head _)))
  have h4 := hn _ (.tail _ (.tail _ (.tail _ (.head _))))
  refine ⟨dx, T1, T2, vs, x, t, k1, k2, k3, k4, k5, tn, tt, tb, bs, ⟨h1, rfl, rfl, h2⟩, ⟨_, h3, rfl, _, rfl⟩, ⟨_, h4, rfl, _, rfl⟩, ?_, hi, hi.length, hbs⟩
  exact reads_tuple_at (as := []) h3 rfl rfl (.cons (as := []) (bs := []) (reads_tuple_at (as := []) h4 rfl rfl (IntsAre.reads _ hi)) (.cons (as := []) (bs := []) (.int _ _) .nil))

def longS (st : WS) : Int := if (st.b : Int) > (st.count.length : Int) - 1 then (st.b : Int) else (st.count.length : Int) - 1
def ilS (cnt : List Int) (ts : Int) (n : Nat) : Int := ((List.range n).map fun (j : Nat) => Int.fdiv (ts + (j : Int)) ts * cnt.getD (ts + (j : Int)).toNat 0).sum
def lvlS (st : WS) (ts : Int) : Int := (st.b : Int) + ts * (ilS st.count ts ((st.count.length : Int) - ts).toNat + (st.nt : Int))

theorem longest_c {w : World} {A : Around} {s : Shared} {o : Addr} {nl : List (Addr × Obj)} {st : WS} {Q E : Value → Shared → Prop} {mg mb : Str → Option Value} {loose : List Str} {mean : ExcName → Option Value}
    (X : (Mine.kd.heap_1 w.params).In s.heap) (T : Top Mine.hd.view_39 loose mean mg mb s.heap) (hh : A.handled = none) (hdp : A.depth ≤ 800) (hu : A.units ≤ 8000) (hl : LeadIn w.params nl o st) (hn : ∀ p ∈ nl, s.heap.get? p.1 = some p.2)
    (hb : st.count.length ≤ 1001 ∧ st.b ≤ 1000 ∧ st.n ≤ 1000 ∧ st.nt ≤ 1000)
    (h : ∀ h' tk' t', s.heap.StaysIn h' → Q (.int (longS st) t') { s with heap := h', toks := tk' }) :
    wpAny (model PySem.Challenge.rw_pd0083_01.row.prog w) A (call (.ref 153) [.ref o]) Q E s := by
  k_with_none
  k_with "execs cons" => ((with_reducible refine execs_out ?_); intro _ _)
  k_with "execs cons" => (with_reducible refine gen_tok ?_; intro _)
  k_with "Out" => (refine out_end (by with_reducible assumption) ?_; (try dsimp only))
  k_with "mine_rest" => ((case k1 => k_is); (case k2 => k_is); (case k3 => decide); (case c1 => decide); (case c2 => exact rfl); (case c3 => exact rfl); (case c4 => exact rfl))
  k_with "mine_call" => ((case k1 => k_asm); (case k2 => k_asm); (case k3 => k_asm); (case k4 => k_asm); (case kh => exact rfl); (case kd => exact Nat.le_of_ble_eq_true rfl); (case ku => exact Nat.le_of_ble_eq_true rfl); k_whole)
  k_with "call ref" => (k_here; (with_reducible show wpAny _ _ (call (Value.ref 94) _) _ _ _); k_dflt (refine' fspath_f (by k_asm) (by k_asm) (by k_asm) (by k_asm) (by exact rfl) (by exact Nat.le_of_ble_eq_true rfl) (by exact Nat.le_of_ble_eq_true rfl) ?_; k_whole); intro _ _ _ _; (try dsimp only); (try k_sweep))
  k_with "call builtin:len" => (k_here; k_dflt (refine' len_base (by k_asm) (by assumption) (by assumption) (by omega) ?_; k_whole); intro _ _; (try dsimp only))
  refine weaken ?_ hh hdp hu
  clear hh hdp hu A
  revert X
  k_fill
  intro X
  obtain ⟨dx, T1, T2, vs, x, t, k1, k2, k3, k4, k5, tn, tt, tb, bs, hI, hT1, hT2, hR, hi, hvl, hbs⟩ := lead_facts hl hn
  clear hl hn
  refine' call_pure (binds := [(Str.ofString "self", .ref o)]) (by assumption) (Top.nolimit (by assumption)) ?k1 ?k2 ?k3 ?k4 ?k5 ?_ ?c1 ?c2 ?c3 ?c4
  walk_at "mine_rest"
  (case k4 => exact BindsTo.of_eq rfl)
  (case k5 => exact locs rfl)
  intro L' h' F' N'
  k_steps
  exact h _ _ _ (Fr.keep (by assumption))

theorem equal_c {w : World} {A : Around} {s : Shared} {o : Addr} {nl : List (Addr × Obj)} {st : WS} {Q E : Value → Shared → Prop} {mg mb : Str → Option Value} {loose : List Str} {mean : ExcName → Option Value}
    (X : (Mine.kd.heap_1 w.params).In s.heap) (T : Top Mine.hd.view_39 loose mean mg mb s.heap) (hh : A.handled = none) (hdp : A.depth ≤ 800) (hu : A.units ≤ 8000) (hl : LeadIn w.params nl o st) (hn : ∀ p ∈ nl, s.heap.get? p.1 = some p.2)
    {o' : Addr} {nl' : List (Addr × Obj)} {st' : WS} (hl' : LeadIn w.params nl' o' st') (hn' : ∀ p ∈ nl', s.heap.get? p.1 = some p.2)
    (h : ∀ h' tk', s.heap.StaysIn h' → Q (.bool (decide (st.count = st'.count) && ((st.b : Int) == (st'.b : Int)))) { s with heap := h', toks := tk' }) :
    wpAny (model PySem.Challenge.rw_pd0083_01.row.prog w) A (call (.ref 167) [.ref o, .ref o']) Q E s := by
  k_with_none
  k_with "execs cons" => ((with_reducible refine execs_out ?_); intro _ _)
  k_with "execs cons" => (with_reducible refine gen_tok ?_; intro _)
  k_with "Out" => (refine out_end (by with_reducible assumption) ?_; (try dsimp only))
  k_with "mine_rest" => ((case k1 => k_is); (case k2 => k_is); (case k3 => decide); (case c1 => decide); (case c2 => exact rfl); (case c3 => exact rfl); (case c4 => exact rfl))
  k_with "mine_call" => ((case k1 => k_asm); (case k2 => k_asm); (case k3 => k_asm); (case k4 => k_asm); (case kh => exact rfl); (case kd => exact Nat.le_of_ble_eq_true rfl); (case ku => exact Nat.le_of_ble_eq_true rfl); k_whole)
  k_with "call ref" => (k_here; (with_reducible show wpAny _ _ (call (Value.ref 94) _) _ _ _); k_dflt (refine' fspath_f (by k_asm) (by k_asm) (by k_asm) (by k_asm) (by exact rfl) (by exact Nat.le_of_ble_eq_true rfl) (by exact Nat.le_of_ble_eq_true rfl) ?_; k_whole); intro _ _ _ _; (try dsimp only); (try k_sweep))
  k_with "call builtin:len" => (k_here; k_dflt (refine' len_base (by k_asm) (by assumption) (by assumption) (by omega) ?_; k_whole); intro _ _; (try dsimp only))
  refine weaken ?_ hh hdp hu
  clear hh hdp hu A
  revert X
  k_fill
  intro X
  obtain ⟨dx, T1, T2, vs, x, t, k1, k2, k3, k4, k5, tn, tt, tb, bs, hI, hT1, hT2, hR, hi, hvl, hbs⟩ := lead_facts hl hn
  clear hl hn
  obtain ⟨dx', T1', T2', vs', x', t', k1', k2', k3', k4', k5', tn', tt', tb', bs', hI', hT1', hT2', hR', hi', hvl', hbs'⟩ := lead_facts hl' hn'
  clear hl' hn'
  refine' call_pure (binds := [(Str.ofString "self", .ref o), (Str.ofString "other", .ref o')]) (by assumption) (Top.nolimit (by assumption)) ?k1 ?k2 ?k3 ?k4 ?k5 ?_ ?c1 ?c2 ?c3 ?c4
  walk_at "mine_rest"
  (case k4 => exact BindsTo.of_eq rfl)
  (case k5 => exact locs rfl)
  intro L' h' F' N'
  k_steps
  exact h _ _ (Fr.keep (by assumption))

def LvJ (m₀ : Str → Option Value) (cnt : List Int) (ts : Int) (i : Nat) (m : Str → Option Value) (nx : List (Addr × Obj)) : Prop :=
  ∃ c til, m = (fun y => if y = Str.ofString "i" then c else if y = Str.ofString "il" then some (.int (ilS cnt ts i) til) else m₀ y) ∧ nx = []
theorem LvJ.start {m₀ : Str → Option Value} {cnt : List Int} {ts : Int} {til : Tok} (h : m₀ (Str.ofString "il") = some (.int 0 til)) : LvJ m₀ cnt ts 0 m₀ [] :=
  ⟨m₀ (Str.ofString "i"), til, by funext y; (repeat' split) <;> (try subst_vars) <;> first | assumption | rfl, rfl⟩
theorem ilS_succ (cnt : List Int) (ts : Int) (i : Nat) : ilS cnt ts (i + 1) = ilS cnt ts i + Int.fdiv (ts + (i : Int)) ts * cnt.getD (ts + (i : Int)).toNat 0 := by
  unfold ilS
  rw [List.range_succ, List.map_append, List.sum_append]
  simp
theorem small_range {a b : Int} (h1 : -1000000 ≤ a) (h2 : a ≤ 1000000) (h3 : -1000000 ≤ b) (h4 : b ≤ 1000000) : Builtin.Range.small a b 1 = true := by
  exact small_one (by omega) (by omega) (by omega) (by omega)
theorem level_end {h₀ h' : Heap} {L I : Addr} {oI : Obj} {m₀ m' : Str → Option Value} {cnt : List Int} {ts : Int} {i : Nat} {s : Shared} {Q : Flow → Shared → Prop} {f : Flow} {tk' : Nat} {cv : Option Value} {til : Tok} {il' : Int}
    (hf : f = .next ∨ f = .cont) (F : Fr h₀ L h' m') (N : News h₀ L h' [(I, oI)])
    (h1 : m' (Str.ofString "i") = cv) (h2 : m' (Str.ofString "il") = some (.int il' til)) (e : il' = ilS cnt ts (i + 1))
    (h6 : ∀ y, y ≠ Str.ofString "i" → y ≠ Str.ofString "il" → m' y = m₀ y) :
    LPost h₀ L [] (LvJ m₀ cnt ts (i + 1)) I oI s Q f { s with heap := h', toks := tk' } := by
  subst e
  refine LPost.of hf F N (fun p hp => nomatch hp) (fun p hp => nomatch hp) ⟨cv, til, ?_, rfl⟩
  funext y
  by_cases e1 : y = Str.ofString "i"
  · subst e1; exact h1
  by_cases e2 : y = Str.ofString "il"
  · subst e2; exact h2
  rw [if_neg e1, if_neg e2]
  exact h6 y e1 e2
theorem level_c {w : World} {A : Around} {s : Shared} {o : Addr} {nl : List (Addr × Obj)} {st : WS} {Q E : Value → Shared → Prop} {mg mb : Str → Option Value} {loose : List Str} {mean : ExcName → Option Value}
    (X : (Mine.kd.heap_1 w.params).In s.heap) (T : Top Mine.hd.view_39 loose mean mg mb s.heap) (hh : A.handled = none) (hdp : A.depth ≤ 800) (hu : A.units ≤ 8000) (hl : LeadIn w.params nl o st) (hn : ∀ p ∈ nl, s.heap.get? p.1 = some p.2)
    {ts : Int} {u : Tok} (hts : 2 ≤ ts) (hts2 : ts ≤ 1002) (hb : st.count.length ≤ 1001 ∧ st.b ≤ 1000 ∧ st.n ≤ 1000 ∧ st.nt ≤ 1000) (hcb : ∀ c ∈ st.count, 0 ≤ c ∧ c ≤ 1000)
    (h : ∀ h' tk' t', s.heap.StaysIn h' → Q (.int (lvlS st ts) t') { s with heap := h', toks := tk' }) :
    wpAny (model PySem.Challenge.rw_pd0083_01.row.prog w) A (call (.ref 160) [.ref o, .int ts u]) Q E s := by
  k_with_none
  k_with "execs cons" => ((with_reducible refine execs_out ?_); intro _ _)
  k_with "execs cons" => (with_reducible refine gen_tok ?_; intro _)
  k_with "Out" => (refine out_end (by with_reducible assumption) ?_; (try dsimp only))
  k_with "mine_rest" => ((case k1 => k_is); (case k2 => k_is); (case k3 => decide); (case c1 => decide); (case c2 => exact rfl); (case c3 => exact rfl); (case c4 => exact rfl))
  k_with "mine_call" => ((case k1 => k_asm); (case k2 => k_asm); (case k3 => k_asm); (case k4 => k_asm); (case kh => exact rfl); (case kd => exact Nat.le_of_ble_eq_true rfl); (case ku => exact Nat.le_of_ble_eq_true rfl); k_whole)
  k_with "call ref" => (k_here; (with_reducible show wpAny _ _ (call (Value.ref 94) _) _ _ _); k_dflt (refine' fspath_f (by k_asm) (by k_asm) (by k_asm) (by k_asm) (by exact rfl) (by exact Nat.le_of_ble_eq_true rfl) (by exact Nat.le_of_ble_eq_true rfl) ?_; k_whole); intro _ _ _ _; (try dsimp only); (try k_sweep))
  k_with "call builtin:len" => (k_here; k_dflt (refine' len_base (by k_asm) (by assumption) (by assumption) (by omega) ?_; k_whole); intro _ _; (try dsimp only))
  k_with "subscriptTail" => (k_here; (with_reducible show wpAny _ _ (subscriptTail _ _ (Value.ref _) (Value.int _ _)) _ _ _); k_dflt (refine' item_base (by k_asm) (by assumption) (by assumption) (by omega) (by omega) (by omega) ?_; k_whole); intro _; (try dsimp only))
  k_with "exec For Name Call cons nil" => (k_here; k_dflt (refine wpAny_For ?_ (by intro _; rfl)))
  refine weaken ?_ hh hdp hu
  clear hh hdp hu A
  revert X
  k_fill
  intro X
  obtain ⟨dx, T1, T2, vs, x, t, k1, k2, k3, k4, k5, tn, tt, tb, bs, hI, hT1, hT2, hR, hi, hvl, hbs⟩ := lead_facts hl hn
  clear hl hn
  refine' call_pure (binds := [(Str.ofString "self", .ref o), (Str.ofString "tabsize", .int ts u)]) (by assumption) (Top.nolimit (by assumption)) ?k1 ?k2 ?k3 ?k4 ?k5 ?_ ?c1 ?c2 ?c3 ?c4
  walk_at "mine_rest"
  (case k4 => exact BindsTo.of_eq rfl)
  (case k5 => exact locs rfl)
  intro L' h' F' N'
  k_steps
  have hlen : (st.count.length : Int) ≤ 1001 := by omega
  refine loop_range (n := ((st.count.length : Int) - ts).toNat) rfl (by assumption) (by assumption) (by assumption) (small_range (by omega) (by omega) (by omega) (by omega)) (rangeSize_nat _ _) (LvJ _ st.count ts) (LvJ.start rfl) (fun _ _ _ _ _ hq => go_name hq) ?_ ?_
  · rintro i k m₁ nx hp tk I oI hin ⟨c, til, rfl, rfl⟩ hI9 F N
    have hq : 0 ≤ Int.fdiv (ts + (i : Int)) ts ∧ Int.fdiv (ts + (i : Int)) ts ≤ 2004 := by
      rw [Int.fdiv_eq_ediv_of_nonneg _ (by omega)]
      exact ⟨Int.ediv_nonneg (by omega) (by omega), Int.le_trans (Int.ediv_le_self _ (by omega)) (by omega)⟩
    have hg : 0 ≤ st.count.getD (ts + (i : Int)).toNat 0 ∧ st.count.getD (ts + (i : Int)).toNat 0 ≤ 1000 := by
      have hlt : (ts + (i : Int)).toNat < st.count.length := by omega
      have e : st.count.getD (ts + (i : Int)).toNat 0 = st.count[(ts + (i : Int)).toNat] := by simp [List.getD, hlt]
      rw [e]
      exact hcb _ (List.getElem_mem _)
    k_steps
    refine' level_end ?cf ?F ?N ?h1 ?h2 ?e ?h6
    (case cf => exact .inl rfl)
    (case F => assumption)
    (case N => assumption)
    (case h1 => exact rfl)
    (case h2 => exact rfl)
    (case e => exact (ilS_succ _ _ _).symm)
    (case h6 => intro y e1 e2; simp only [e1, e2, if_false])
  · rintro hp tk m₁ nx ⟨c, til, rfl, rfl⟩ F N
    k_steps
    exact h _ _ _ (Fr.keep (by assumption))

theorem longest_f {w : World} {A : Around} {s : Shared} {o : Addr} {nl : List (Addr × Obj)} {st : WS} {Q E : Value → Shared → Prop} {mg mb : Str → Option Value} {loose : List Str} {mean : ExcName → Option Value}
    {h₀ : Heap} {L : Addr} {m : Str → Option Value} {news : List (Addr × Obj)} (F : Fr h₀ L s.heap m) (N : News h₀ L s.heap news)
    (X : (Mine.kd.heap_1 w.params).In h₀) (T : Top Mine.hd.view_39 loose mean mg mb h₀) (hh : A.handled = none) (hdp : A.depth ≤ 800) (hu : A.units ≤ 8000) (hl : LeadIn w.params nl o st) (hn : ∀ p ∈ nl, h₀.get? p.1 = some p.2)
    (hb : st.count.length ≤ 1001 ∧ st.b ≤ 1000 ∧ st.n ≤ 1000 ∧ st.nt ≤ 1000)
    (h : ∀ h' tk' t', Fr h₀ L h' m → News h₀ L h' news → Q (.int (longS st) t') { s with heap := h', toks := tk' }) :
    wpAny (model PySem.Challenge.rw_pd0083_01.row.prog w) A (call (.ref 153) [.ref o]) Q E s :=
  longest_c (X.keeps F.keep) (T.keeps F.keep) hh hdp hu hl (fun p hp => F.keep _ _ (hn p hp)) hb fun h' tk' t' st => h h' tk' t' (stays_fr F st) (stays_news N st)
theorem level_f {w : World} {A : Around} {s : Shared} {o : Addr} {nl : List (Addr × Obj)} {st : WS} {Q E : Value → Shared → Prop} {mg mb : Str → Option Value} {loose : List Str} {mean : ExcName → Option Value}
    {h₀ : Heap} {L : Addr} {m : Str → Option Value} {news : List (Addr × Obj)} {ts : Int} {u : Tok} (F : Fr h₀ L s.heap m) (N : News h₀ L s.heap news)
    (X : (Mine.kd.heap_1 w.params).In h₀) (T : Top Mine.hd.view_39 loose mean mg mb h₀) (hh : A.handled = none) (hdp : A.depth ≤ 800) (hu : A.units ≤ 8000) (hl : LeadIn w.params nl o st) (hn : ∀ p ∈ nl, h₀.get? p.1 = some p.2)
    (hts : 2 ≤ ts) (hts2 : ts ≤ 1002) (hb : st.count.length ≤ 1001 ∧ st.b ≤ 1000 ∧ st.n ≤ 1000 ∧ st.nt ≤ 1000) (hcb : ∀ c ∈ st.count, 0 ≤ c ∧ c ≤ 1000)
    (h : ∀ h' tk' t', Fr h₀ L h' m → News h₀ L h' news → Q (.int (lvlS st ts) t') { s with heap := h', toks := tk' }) :
    wpAny (model PySem.Challenge.rw_pd0083_01.row.prog w) A (call (.ref 160) [.ref o, .int ts u]) Q E s :=
  level_c (X.keeps F.keep) (T.keeps F.keep) hh hdp hu hl (fun p hp => F.keep _ _ (hn p hp)) hts hts2 hb hcb fun h' tk' t' st => h h' tk' t' (stays_fr F st) (stays_news N st)

open PySem PySem.W PyProof.Rows PySem.Calls
def LsJ (m₀ : Str → Option Value) (_i : Nat) (m : Str → Option Value) (nx : List (Addr × Obj)) : Prop :=
  ∃ c, m = (fun y => if y = Str.ofString "ts" then c else m₀ y) ∧ nx = []
theorem LsJ.start {m₀ : Str → Option Value} : LsJ m₀ 0 m₀ [] :=
  ⟨m₀ (Str.ofString "ts"), by funext y; (repeat' split) <;> (try subst_vars) <;> first | assumption | rfl, rfl⟩
theorem less_end {h₀ h' : Heap} {L I : Addr} {oI : Obj} {m₀ : Str → Option Value} {i : Nat} {s : Shared} {Q : Flow → Shared → Prop} {f : Flow} {tk' : Nat} {v c : Option Value}
    (hf : f = .next ∨ f = .cont) (F : Fr h₀ L h' (fun y => if y = Str.ofString "ts" then v else if y = Str.ofString "ts" then c else m₀ y)) (N : News h₀ L h' [(I, oI)]) :
    LPost h₀ L [] (LsJ m₀ (i + 1)) I oI s Q f { s with heap := h', toks := tk' } := by
  refine LPost.of hf F N (fun p hp => nomatch hp) (fun p hp => nomatch hp) ⟨v, ?_, rfl⟩
  funext y
  split <;> rfl

theorem less_c {w : World} {A : Around} {s : Shared} {o o' : Addr} {nl nl' : List (Addr × Obj)} {st st' : WS} {Q E : Value → Shared → Prop} {mg mb : Str → Option Value} {loose : List Str} {mean : ExcName → Option Value}
    (X : (Mine.kd.heap_1 w.params).In s.heap) (T : Top Mine.hd.view_39 loose mean mg mb s.heap) (hh : A.handled = none) (hdp : A.depth ≤ 700) (hu : A.units ≤ 7000) (hl : LeadIn w.params nl o st) (hn : ∀ p ∈ nl, s.heap.get? p.1 = some p.2)
    (hl' : LeadIn w.params nl' o' st') (hn' : ∀ p ∈ nl', s.heap.get? p.1 = some p.2)
    (hb : st.count.length ≤ 1001 ∧ st.b ≤ 1000 ∧ st.n ≤ 1000 ∧ st.nt ≤ 1000) (hcb : ∀ c ∈ st.count, 0 ≤ c ∧ c ≤ 1000) (hb' : st'.count.length ≤ 1001 ∧ st'.b ≤ 1000 ∧ st'.n ≤ 1000 ∧ st'.nt ≤ 1000) (hcb' : ∀ c ∈ st'.count, 0 ≤ c ∧ c ≤ 1000)
    (hlt : st.n < st'.n → st.nt ≤ st'.nt ∧ ∀ ts : Int, 2 ≤ ts → ts ≤ 1002 → lvlS st ts < lvlS st' ts)
    (h : ∀ h' tk', s.heap.StaysIn h' → Q (.bool (decide (st.n < st'.n))) { s with heap := h', toks := tk' }) :
    wpAny (model PySem.Challenge.rw_pd0083_01.row.prog w) A (call (.ref 181) [.ref o, .ref o']) Q E s := by
  k_with_none
  k_with "execs cons" => ((with_reducible refine execs_out ?_); intro _ _)
  k_with "execs cons" => (with_reducible refine gen_tok ?_; intro _)
  k_with "Out" => (refine out_end (by with_reducible assumption) ?_; (try dsimp only))
  k_with "mine_rest" => ((case k1 => k_is); (case k2 => k_is); (case k3 => decide); (case c1 => decide); (case c2 => exact rfl); (case c3 => exact rfl); (case c4 => exact rfl))
  k_with "mine_call" => ((case k1 => k_asm); (case k2 => k_asm); (case k3 => k_asm); (case k4 => k_asm); (case kh => exact rfl); (case kd => exact Nat.le_of_ble_eq_true rfl); (case ku => exact Nat.le_of_ble_eq_true rfl); k_whole)
  k_with "call ref" => (k_here; (with_reducible show wpAny _ _ (call (Value.ref 94) _) _ _ _); k_dflt (refine' fspath_f (by k_asm) (by k_asm) (by k_asm) (by k_asm) (by exact rfl) (by exact Nat.le_of_ble_eq_true rfl) (by exact Nat.le_of_ble_eq_true rfl) ?_; k_whole); intro _ _ _ _; (try dsimp only); (try k_sweep))
  k_with "exec For Name Call cons nil" => (k_here; k_dflt (refine wpAny_For ?_ (by intro _; rfl)))
  k_with "call ref" => (k_here; (with_reducible show wpAny _ _ (call (Value.ref 153) _) _ _ _); k_dflt (refine' longest_f (by k_asm) (by k_asm) (by k_asm) (by k_asm) (by exact rfl) (by exact Nat.le_of_ble_eq_true rfl) (by exact Nat.le_of_ble_eq_true rfl) (by assumption) (by assumption) (by assumption) ?_; k_whole); intro _ _ _ _ _; (try dsimp only); (try k_sweep))
  k_with "call ref" => (k_here; (with_reducible show wpAny _ _ (call (Value.ref 160) _) _ _ _); k_dflt (refine' level_f (by k_asm) (by k_asm) (by k_asm) (by k_asm) (by exact rfl) (by exact Nat.le_of_ble_eq_true rfl) (by exact Nat.le_of_ble_eq_true rfl) (by assumption) (by assumption) (by omega) (by omega) (by assumption) (by assumption) ?_; k_whole); intro _ _ _ _ _; (try dsimp only); (try k_sweep))
  refine weaken ?_ hh hdp hu
  clear hh hdp hu A
  revert X
  k_fill
  intro X
  obtain ⟨dx, T1, T2, vs, x, t, k1, k2, k3, k4, k5, tn, tt, tb, bs, hI, hT1, hT2, hR, hi, hvl, hbs⟩ := lead_facts hl hn
  obtain ⟨dx', T1', T2', vs', x', t', k1', k2', k3', k4', k5', tn', tt', tb', bs', hI', hT1', hT2', hR', hi', hvl', hbs'⟩ := lead_facts hl' hn'
  refine' call_pure (binds := [(Str.ofString "self", .ref o), (Str.ofString "other", .ref o')]) (by assumption) (Top.nolimit (by assumption)) ?k1 ?k2 ?k3 ?k4 ?k5 ?_ ?c1 ?c2 ?c3 ?c4
  walk_at "mine_rest"
  (case k4 => exact BindsTo.of_eq rfl)
  (case k5 => exact locs rfl)
  intro L' h' F' N'
  have hL : longS st ≤ 1000 := by unfold longS; split <;> omega
  have hL' : longS st' ≤ 1000 := by unfold longS; split <;> omega
  have hM : -1 ≤ (if longS st' > longS st then longS st' else longS st) ∧ (if longS st' > longS st then longS st' else longS st) ≤ 1000 := by
    unfold longS; (repeat' split) <;> omega
  have hN : -1 ≤ longS st := by unfold longS; split <;> omega
  k_steps
  · have e : decide (st.n < st'.n) = false := decide_eq_false (by omega)
    rw [e] at h
    exact h _ _ (Fr.keep (by assumption))
  · have e : decide (st.n < st'.n) = true := decide_eq_true (by omega)
    have e2 : decide ((st.nt : Int) ≤ (st'.nt : Int)) = true := decide_eq_true (by have := (hlt (by omega)).1; omega)
    rw [e] at h
    show Q (Value.bool (decide ((st.nt : Int) ≤ (st'.nt : Int)))) _
    rw [e2]
    exact h _ _ (Fr.keep (by assumption))
  all_goals
    have e : decide (st.n < st'.n) = true := decide_eq_true (by omega)
    rw [e] at h
    have hlt2 := (hlt (by omega)).2
    generalize (if longS st' > longS st then longS st' else longS st) = M at *
    refine loop_range (n := (M + 1 + 1 - 2).toNat) rfl (by assumption) (by assumption) (by assumption) (small_range (by omega) (by omega) (by omega) (by omega)) (rangeSize_nat _ _) (LsJ _) LsJ.start (fun _ _ _ _ _ hq => go_name hq) ?_ ?_
    · rintro i k m₁ nx hp tk I oI hin ⟨c, rfl, rfl⟩ hI9 F N
      have hl3 := hlt2 (2 + (i : Int)) (by omega) (by omega)
      k_steps
      all_goals (first | (exfalso; omega) | skip)
      all_goals (refine less_end (.inl rfl) (by assumption) (by assumption))
    · rintro hp tk m₁ nx ⟨c, rfl, rfl⟩ F N
      k_steps
      exact h _ _ (Fr.keep (by assumption))
end Mine
end

section
open PySem PySem.W PyProof.Rows PySem.Calls
set_option maxRecDepth 100000
set_option maxHeartbeats 8000000
set_option linter.all false
set_option rowWalk.seconds 0
namespace Mine
def IsName (p : Str) : Prop := 1 ≤ p.length ∧ p.length ≤ 4 ∧ 47 ∉ p.cps.toList ∧ p ≠ Str.ofString "." ∧ p ≠ Str.ofString ".." ∧ ∀ c ∈ p.cps.toList, c < 128
def IsNo (p : Str) : Prop := p = Str.ofString "." ∨ p = Str.ofString "" ∨ p = Str.ofString ".//"
def IsPiece (p : Str) : Prop := p = Str.ofString ".." ∨ IsNo p ∨ IsName p
theorem piece_ok {p : Str} (h : IsPiece p) : PyData.strOk p = true := by
  rcases h with rfl | (rfl | rfl | rfl) | h
  · decide +kernel
  · decide +kernel
  · decide +kernel
  · decide +kernel
  · unfold PyData.strOk
    rw [Array.all_eq_true']
    intro c hc
    have := h.2.2.2.2.2 c (by simpa using hc)
    simp; omega
theorem piece_len {p : Str} (h : IsPiece p) : p.length ≤ 4 := by
  rcases h with rfl | (rfl | rfl | rfl) | h
  · decide
  · decide
  · decide
  · decide
  · exact h.2.1
theorem mul1 (c : Nat) : Txt.mul ⟨#[c]⟩ 1 = ⟨#[c]⟩ := rfl
theorem mul2 (c : Nat) : Txt.mul ⟨#[c]⟩ 2 = ⟨#[c, c]⟩ := rfl
theorem mul3 (c : Nat) : Txt.mul ⟨#[c]⟩ 3 = ⟨#[c, c, c]⟩ := rfl
theorem dot_is : Str.ofString "." = ⟨#[46]⟩ := by decide
theorem dots_is : Str.ofString ".." = ⟨#[46, 46]⟩ := by decide
theorem three {n : Int} (h1 : 1 ≤ n) (h3 : n ≤ 3) : n = 1 ∨ n = 2 ∨ n = 3 := by omega
theorem mulok {y : Str} {n : Int} (hy : y.length = 1) (h1 : 1 ≤ n) (h3 : n ≤ 3) : MulOk y n := by
  unfold MulOk
  rw [hy]
  rcases three h1 h3 with rfl | rfl | rfl <;> refine ⟨by decide, fun _ _ => by decide, fun _ _ => by decide⟩
theorem name_mul {c : Nat} {n : Int} (hc : 97 ≤ c) (hc2 : c < 128) (h1 : 1 ≤ n) (h3 : n ≤ 3) : IsName (Txt.mul ⟨#[c]⟩ n) := by
  rcases three h1 h3 with rfl | rfl | rfl
  · rw [mul1]
    refine ⟨by simp [Str.length], by simp [Str.length], by simp; omega, ?_, ?_, by intro d hd; simp at hd; omega⟩
    · rw [dot_is]; intro h; injection h with h; simp at h; omega
    · rw [dots_is]; intro h; injection h with h; simp at h
  · rw [mul2]
    refine ⟨by simp [Str.length], by simp [Str.length], by simp; omega, ?_, ?_, by intro d hd; simp at hd; omega⟩
    · rw [dot_is]; intro h; injection h with h; simp at h
    · rw [dots_is]; intro h; injection h with h; simp at h; omega
  · rw [mul3]
    refine ⟨by simp [Str.length], by simp [Str.length], by simp; omega, ?_, ?_, by intro d hd; simp at hd; omega⟩
    · rw [dot_is]; intro h; injection h with h; simp at h
    · rw [dots_is]; intro h; injection h with h; simp at h
theorem name_dots {c : Nat} {n : Int} (hc : 97 ≤ c) (hc2 : c < 128) (h1 : 1 ≤ n) (h3 : n ≤ 3) : IsName (Txt.mul (Str.ofString ".") n ++ ⟨#[c]⟩) := by
  rw [dot_is]
  rcases three h1 h3 with rfl | rfl | rfl
  · rw [mul1]
    show IsName ⟨#[46] ++ #[c]⟩
    refine ⟨by simp [Str.length], by simp [Str.length], by simp; omega, ?_, ?_, by intro d hd; simp at hd; omega⟩
    · rw [dot_is]; intro h; injection h with h; simp at h
    · rw [dots_is]; intro h; injection h with h; simp at h; omega
  · rw [mul2]
    show IsName ⟨#[46, 46] ++ #[c]⟩
    refine ⟨by simp [Str.length], by simp [Str.length], by simp; omega, ?_, ?_, by intro d hd; simp at hd; omega⟩
    · rw [dot_is]; intro h; injection h with h; simp at h
    · rw [dots_is]; intro h; injection h with h; simp at h
  · rw [mul3]
    show IsName ⟨#[46, 46, 46] ++ #[c]⟩
    refine ⟨by simp [Str.length], by simp [Str.length], by simp; omega, ?_, ?_, by intro d hd; simp at hd; omega⟩
    · rw [dot_is]; intro h; injection h with h; simp at h
    · rw [dots_is]; intro h; injection h with h; simp at h
theorem dots_len {n : Int} (h1 : 1 ≤ n) (h3 : n ≤ 3) : (Txt.mul (Str.ofString ".") n).length ≤ 3 := by
  rw [dot_is]
  rcases three h1 h3 with rfl | rfl | rfl <;> decide
theorem piece_c {w : World} {A : Around} {s : Shared} {x : Int} {t : Tok} {Q E : Value → Shared → Prop} {mg mb : Str → Option Value} {loose : List Str} {mean : ExcName → Option Value}
    (X : (Mine.kd.heap_1 w.params).In s.heap) (T : Top Mine.hd.view_39 loose mean mg mb s.heap) (hh : A.handled = none) (hdp : A.depth ≤ 800) (hu : A.units ≤ 8000) (hx : 0 ≤ x) (hx2 : x < 390)
    (h : ∀ h' tk' p t', s.heap.StaysIn h' → IsPiece p → Q (.str p t') { s with heap := h', toks := tk' }) :
    wpAny (model PySem.Challenge.rw_pd0083_01.row.prog w) A (call (.ref 202) [.int x t]) Q E s := by
  k_with_none
  k_with "mine_rest" => ((case k1 => k_is); (case k2 => k_is); (case k3 => decide); (case c1 => decide); (case c2 => exact rfl); (case c3 => exact rfl); (case c4 => exact rfl))
  k_with "mine_call" => ((case k1 => k_asm); (case k2 => k_asm); (case k3 => k_asm); (case k4 => k_asm); (case kh => exact rfl); (case kd => exact Nat.le_of_ble_eq_true rfl); (case ku => exact Nat.le_of_ble_eq_true rfl); k_whole)
  k_with "call ref" => (k_here; (with_reducible show wpAny _ _ (call (Value.ref 94) _) _ _ _); k_dflt (refine' fspath_f (by k_asm) (by k_asm) (by k_asm) (by k_asm) (by exact rfl) (by exact Nat.le_of_ble_eq_true rfl) (by exact Nat.le_of_ble_eq_true rfl) ?_; k_whole); intro _ _ _ _; (try dsimp only); (try k_sweep))
  k_with "binaryOp Mult str int" => (k_here; refine SB.mul (mulok (by first | rfl | decide) (by assumption) (by assumption)) ?_; intro _ _; (try dsimp only))
  k_with "binaryOp Add str str" => (k_here; refine add_str ?_ (by rw [sizeLine_eq]; exact Nat.le_trans (Nat.add_le_add (dots_len (by assumption) (by assumption)) (Nat.le_refl 1)) (by decide)); intro _ _; (try dsimp only))
  refine weaken ?_ hh hdp hu
  clear hh hdp hu A
  revert X
  k_fill
  intro X
  refine' call_pure (binds := [(Str.ofString "x", .int x t)]) (by assumption) (Top.nolimit (by assumption)) ?k1 ?k2 ?k3 ?k4 ?k5 ?_ ?c1 ?c2 ?c3 ?c4
  walk_at "mine_rest"
  (case k4 => exact BindsTo.of_eq rfl)
  (case k5 => exact locs rfl)
  intro L' h' F' N'
  have hm1 : 1 ≤ 1 + (x.fdiv 5).fmod 3 := by have := Int.fmod_nonneg_of_pos (x.fdiv 5) (b := 3) (by omega); omega
  have hm3 : 1 + (x.fdiv 5).fmod 3 ≤ 3 := by have := Int.fmod_lt_of_pos (x.fdiv 5) (b := 3) (by omega); omega
  have hd : 0 ≤ x.fdiv 15 ∧ x.fdiv 15 < 26 := by
    rw [Int.fdiv_eq_ediv_of_nonneg _ (by omega)]; omega
  have hc97 : 97 ≤ (97 + x.fdiv 15).toNat := by omega
  have hc122 : (97 + x.fdiv 15).toNat < 128 := by omega
  k_steps
  all_goals (show Q (Value.str _ _) _)
  · exact h _ _ _ _ (Fr.keep (by assumption)) (.inl rfl)
  · exact h _ _ _ _ (Fr.keep (by assumption)) (.inr (.inl (.inl rfl)))
  · exact h _ _ _ _ (Fr.keep (by assumption)) (.inr (.inl (.inr (.inl rfl))))
  · exact h _ _ _ _ (Fr.keep (by assumption)) (.inr (.inl (.inr (.inr rfl))))
  · exact h _ _ _ _ (Fr.keep (by assumption)) (.inr (.inr (name_mul hc97 hc122 hm1 hm3)))
  · exact h _ _ _ _ (Fr.keep (by assumption)) (.inr (.inr (name_dots hc97 hc122 hm1 hm3)))
end Mine
end

section
open PySem PySem.W PyProof.Rows PySem.Calls
set_option maxRecDepth 100000
set_option maxHeartbeats 8000000
set_option linter.all false
set_option rowWalk.seconds 0
namespace Mine
def goneS (xs : List Str) (p : Str) : List Str :=
  if (p == Str.ofString "..") = true then xs.dropLast else if ([Str.ofString ".", Str.ofString "", Str.ofString ".//"].any fun x => x == p) = true then xs else xs ++ [p]
theorem strs_dropLast {vs : List Value} {xs : List Str} (h : StrsAre vs xs) : StrsAre (vs.take (vs.length - 1)) xs.dropLast := by
  have h1 := h.take' (vs.length - 1)
  rw [h.length] at h1 ⊢
  rw [List.dropLast_eq_take]
  exact h1

theorem gone_c {w : World} {A : Around} {s : Shared} {a : Addr} {vs : List Value} {n : Nat} {xs : List Str} {p : Str} {t : Tok} {Q E : Value → Shared → Prop} {mg mb : Str → Option Value} {loose : List Str} {mean : ExcName → Option Value}
    (X : (Mine.kd.heap_1 w.params).In s.heap) (T : Top Mine.hd.view_39 loose mean mg mb s.heap) (hh : A.handled = none) (hdp : A.depth ≤ 800) (hu : A.units ≤ 8000) (ha : s.heap.get? a = some (listOf vs.toArray n)) (hs : StrsAre vs xs) (hl : vs.length ≤ 100)
    (h : ∀ h' tk' b vs' n', s.heap.StaysIn h' → h'.get? b = some (listOf vs'.toArray n') → (b = a ∧ vs' = vs ∧ n' = n ∨ s.heap.get? b = none) → StrsAre vs' (goneS xs p) → Q (.ref b) { s with heap := h', toks := tk' }) :
    wpAny (model PySem.Challenge.rw_pd0083_01.row.prog w) A (call (.ref 209) [.ref a, .str p t]) Q E s := by
  k_with_none
  k_with "mine_rest" => ((case k1 => k_is); (case k2 => k_is); (case k3 => decide); (case c1 => decide); (case c2 => exact rfl); (case c3 => exact rfl); (case c4 => exact rfl))
  k_with "mine_call" => ((case k1 => k_asm); (case k2 => k_asm); (case k3 => k_asm); (case k4 => k_asm); (case kh => exact rfl); (case kd => exact Nat.le_of_ble_eq_true rfl); (case ku => exact Nat.le_of_ble_eq_true rfl); k_whole)
  k_with "call ref" => (k_here; (with_reducible show wpAny _ _ (call (Value.ref 94) _) _ _ _); k_dflt (refine' fspath_f (by k_asm) (by k_asm) (by k_asm) (by k_asm) (by exact rfl) (by exact Nat.le_of_ble_eq_true rfl) (by exact Nat.le_of_ble_eq_true rfl) ?_; k_whole); intro _ _ _ _; (try dsimp only); (try k_sweep))
  refine weaken ?_ hh hdp hu
  clear hh hdp hu A
  revert X
  k_fill
  intro X
  have hL : s.heap.IsList a vs.toArray := ⟨_, ha, rfl, n, rfl⟩
  refine' call_pure (binds := [(Str.ofString "place", .ref a), (Str.ofString "piece", .str p t)]) (by assumption) (Top.nolimit (by assumption)) ?k1 ?k2 ?k3 ?k4 ?k5 ?_ ?c1 ?c2 ?c3 ?c4
  walk_at "mine_rest"
  (case k4 => exact BindsTo.of_eq rfl)
  (case k5 => exact locs rfl)
  intro L' h' F' N'
  k_steps
  · have e : slicePick vs.toArray none (some (-1)) none = (vs.take (vs.length - 1)).toArray := by
      have := slicePick_butLast vs.toArray 1 (by decide)
      simpa using this
    rename News s.heap L' _ [(_, _)] => N9
    refine h _ _ _ (vs.take (vs.length - 1)) 0 (Fr.keep (by assumption)) ((N9 _ (.head _)).1.trans ?_) (.inr (N9 _ (.head _)).2.2) ?_
    · rw [e]
    · unfold goneS; simp only [*, if_true]; exact strs_dropLast hs
  · exact h _ _ _ _ _ (Fr.keep (by assumption)) (Fr.keep (by assumption) _ _ ha) (.inl ⟨rfl, rfl, rfl⟩) (by unfold goneS; simp only [*, if_true, if_false, Bool.false_eq_true])
  · rename News s.heap L' _ _ => N9
    refine h _ _ _ (vs ++ [.str p t]) 0 (Fr.keep (by assumption)) ((N9 _ (.head _)).1.trans ?_) (.inr (N9 _ (.head _)).2.2) ?_
    · rfl
    · unfold goneS; simp only [*, if_true, if_false, Bool.false_eq_true]; exact StrsAre.append' (by assumption) (.cons _ _ .nil)
end Mine
end

section
open PySem PySem.W PyProof.Rows PySem.Calls
set_option maxRecDepth 100000
set_option maxHeartbeats 8000000
set_option linter.all false
set_option rowWalk.seconds 0
namespace Mine
def Root (r : Str) : Prop := r = Str.ofString "" ∨ r = Str.ofString "/" ∨ r = Str.ofString "//"
theorem rootcase (z : Int) : Root (Txt.slice (Str.ofString "//") none (some (z.fmod 3))) := by
  have h1 := Int.fmod_nonneg_of_pos z (b := 3) (by omega)
  have h2 := Int.fmod_lt_of_pos z (b := 3) (by omega)
  have : z.fmod 3 = 0 ∨ z.fmod 3 = 1 ∨ z.fmod 3 = 2 := by omega
  unfold Root
  rcases this with e | e | e
  · rw [e]; left; decide
  · rw [e]; right; left; decide
  · rw [e]; right; right; decide
theorem root_len {r : Str} (h : Root r) : r.length ≤ 2 := by
  rcases h with rfl | rfl | rfl <;> decide

def LawSt (s₁ : Shared) (h₀ : Heap) (L : Addr) (C : (Str → Option Value) → List (Addr × Obj) → Prop) (f : Flow) (s' : Shared) : Prop :=
  f = .next ∧ ∃ h tk m nx, s' = { s₁ with heap := h, toks := tk } ∧ Fr h₀ L h m ∧ News h₀ L h nx ∧ C m nx
theorem LawSt.of {s₁ : Shared} {h₀ h : Heap} {L : Addr} {C : (Str → Option Value) → List (Addr × Obj) → Prop} {f : Flow} {tk : Nat} {m : Str → Option Value} {news nx : List (Addr × Obj)}
    (hf : f = .next) (F : Fr h₀ L h m) (N : News h₀ L h news) (hsub : ∀ p ∈ nx, p ∈ news) (c : C m nx) : LawSt s₁ h₀ L C f { s₁ with heap := h, toks := tk } :=
  ⟨hf, h, tk, m, nx, rfl, F, fun p hp => N p (hsub p hp), c⟩
theorem cutS {M : Model} {A : Around} {st : Stmt} {rest : List Stmt} {env : Env} {Q : Flow → Shared → Prop} {E : Value → Shared → Prop} {s s₁ : Shared} {h₀ : Heap} {L : Addr} (C : (Str → Option Value) → List (Addr × Obj) → Prop)
    (h : wpAny M A (exec st env) (LawSt s₁ h₀ L C) (fun _ _ => False) s)
    (k : ∀ h tk m nx, Fr h₀ L h m → News h₀ L h nx → C m nx → wpAny M A (execs rest env) Q E { s₁ with heap := h, toks := tk }) :
    wpAny M A (execs (st :: rest) env) Q E s := by
  refine wpAny_execs_cons (wpAny_mono h (fun f s' h' => ?_) fun _ _ y => y.elim)
  obtain ⟨rfl, h, tk, m, nx, rfl, F, N, c⟩ := h'
  exact k h tk m nx F N c

theorem lookup_elim {K : Frag} {a : Addr} {o o' : Obj} {P : Prop} (h : K.lookup a = some o) (e : K.lookup a = some o') (k : o = o' → P) : P := k (Option.some.inj (h.symm.trans e))
abbrev Way := Str × List Str
def wayD (x : Way) : Dat := .tuple [.str x.1, .list (x.2.map .str)]
def place0 (r : Str) : List Str := if (r.length : Int) = 0 then List.replicate 5 (Str.ofString "") else []

/-- the ledger nw holds the list at l of the ways W -/
def WaysIn (nw : List (Addr × Obj)) (l : Addr) (W : List Way) : Prop := ∃ vs n, (l, listOf vs.toArray n) ∈ nw ∧ DatAll nw vs (W.map wayD)

theorem WaysIn.mono {nw nw' : List (Addr × Obj)} {l : Addr} {W : List Way} (h : WaysIn nw l W) (hs : ∀ p ∈ nw, p ∈ nw') : WaysIn nw' l W :=
  let ⟨vs, n, hm, hd⟩ := h; ⟨vs, n, hs _ hm, hd.mono hs⟩
theorem dat_strs {nw : List (Addr × Obj)} : ∀ {vs : List Value} {xs : List Str}, DatAll nw vs (xs.map Dat.str) → StrsAre vs xs
  | _, [], h => by cases h; exact .nil
  | _, x :: xs, h => by
    cases h with
    | cons h r => cases h; exact .cons _ _ (dat_strs r)
theorem strs_dat {nw : List (Addr × Obj)} : ∀ {vs : List Value} {xs : List Str}, StrsAre vs xs → DatAll nw vs (xs.map Dat.str)
  | _, [], h => by cases h; exact .nil
  | _, x :: xs, h => by
    cases h with
    | cons _ t r => exact .cons (.str _ _) (strs_dat r)
theorem way_open {nw : List (Addr × Obj)} {v : Value} {x : Way} (h : DatIn nw v (wayD x)) :
    ∃ t n tx a us k, v = .ref t ∧ (t, ({ cls := .type "tuple", data := .seq ([.str x.1 tx, .ref a] : List Value).toArray n } : Obj)) ∈ nw ∧ (a, listOf us.toArray k) ∈ nw ∧ StrsAre us x.2 := by
  unfold wayD at h
  cases h with
  | tuple hm hd =>
    cases hd with
    | cons h1 hd =>
      cases h1 with
      | str _ tx =>
        cases hd with
        | cons h2 hd =>
          cases hd
          cases h2 with
          | list hm2 hd2 => exact ⟨_, _, _, _, _, _, rfl, hm, hm2, dat_strs hd2⟩
theorem way_make {nw : List (Addr × Obj)} {t a : Addr} {n k : Nat} {tx : Tok} {us : List Value} {x : Way} (h1 : (t, ({ cls := .type "tuple", data := .seq ([.str x.1 tx, .ref a] : List Value).toArray n } : Obj)) ∈ nw) (h2 : (a, listOf us.toArray k) ∈ nw) (h3 : StrsAre us x.2) :
    DatIn nw (.ref t) (wayD x) := .tuple h1 (.cons (.str _ _) (.cons (.list h2 (strs_dat h3)) .nil))

def stepW (p : Str) (x : Way) : Way := (joinS x.1 p, goneS x.2 p)
def waysOf (root : Str) (ps : List Str) : List Way := ps.foldl (fun W p => W ++ W.map (stepW p)) [(root, place0 root)]
theorem waysOf_snoc (root : Str) (ps : List Str) (p : Str) : waysOf root (ps ++ [p]) = waysOf root ps ++ (waysOf root ps).map (stepW p) := by
  unfold waysOf; rw [List.foldl_append]; rfl
theorem joinS_len (x y : Str) : (joinS x y).length ≤ x.length + y.length + 1 := by
  have h1 : (Str.ofString "/").length = 1 := by decide
  unfold joinS
  (repeat' split) <;> (try simp only [Str.length_append]) <;> omega
theorem goneS_len (xs : List Str) (p : Str) : (goneS xs p).length ≤ xs.length + 1 := by
  unfold goneS
  (repeat' split) <;> simp <;> omega
theorem ways_bound {root : Str} (hr : root.length ≤ 2) : ∀ (ps : List Str), (∀ p ∈ ps, IsPiece p) → (∀ x ∈ waysOf root ps, x.1.length ≤ 2 + 5 * ps.length ∧ x.2.length ≤ 5 + ps.length) ∧ (waysOf root ps).length = 2 ^ ps.length := by
  intro ps
  generalize hn : ps.length = n
  induction n generalizing ps with
  | zero =>
    intro _
    have : ps = [] := List.length_eq_zero_iff.mp hn
    subst this
    refine ⟨fun x hx => ?_, rfl⟩
    have : x = (root, place0 root) := by simpa [waysOf] using hx
    subst this
    refine ⟨by simpa using hr, ?_⟩
    show (place0 root).length ≤ 5 + 0
    unfold place0; split <;> simp
  | succ n ih =>
    intro hp
    rcases List.eq_nil_or_concat ps with rfl | ⟨qs, q, rfl⟩
    · cases hn
    · rw [List.concat_eq_append] at *
      have hq : qs.length = n := by simpa using hn
      obtain ⟨h1, h2⟩ := ih qs hq fun p h => hp p (List.mem_append_left _ h)
      rw [waysOf_snoc]
      refine ⟨fun x hx => ?_, ?_⟩
      · rcases List.mem_append.mp hx with hx | hx
        · have := h1 x hx; omega
        · obtain ⟨z, hz, rfl⟩ := List.mem_map.mp hx
          have := h1 z hz
          have hl := piece_len (hp q (List.mem_append_right _ (.head _)))
          have a := joinS_len z.1 q
          have b := goneS_len z.2 q
          show (joinS z.1 q).length ≤ _ ∧ (goneS z.2 q).length ≤ _
          omega
      · rw [List.length_append, List.length_map, h2, Nat.pow_succ]; omega

def LawJ (L l : Addr) (root : Str) (tr : Tok) (i : Nat) (m : Str → Option Value) (nx : List (Addr × Obj)) : Prop :=
  ∃ (lw : Addr) (nw : List (Addr × Obj)) (oc : Obj) (c cell : Option Value) (ps : List Str), ps.length = i ∧ (∀ p ∈ ps, IsPiece p) ∧
    m = (fun y => if y = Str.ofString "k" then c else if y = Str.ofString "ways" then some (.ref lw) else if y = Str.ofString "root" then some (.str root tr) else if y = Str.ofString "script" then some (.ref l) else none) ∧
    nx = (L + 1, oc) :: nw ∧ oc.data = .cell cell ∧ WaysIn nw lw (waysOf root ps) ∧ ∀ p ∈ nw, p.1 ≠ L + 1

theorem lawJ_end {s₁ : Shared} {h₀ h : Heap} {L l I lw : Addr} {oI oc : Obj} {root : Str} {tr : Tok} {i tk : Nat} {c c' cell vv : Option Value} {ps : List Str} {p : Str} {nw add all : List (Addr × Obj)} {Q : Flow → Shared → Prop} {f : Flow} {zs : List Value} {n : Nat}
    (hf : f = .next) (hpl : ps.length = i) (hps : ∀ p ∈ ps, IsPiece p) (hp : IsPiece p)
    (F : Fr h₀ L h (fun y => if y = Str.ofString "ways" then some (.ref lw) else if y = Str.ofString "k" then c else if y = Str.ofString "k" then c' else if y = Str.ofString "ways" then vv else if y = Str.ofString "root" then some (.str root tr) else if y = Str.ofString "script" then some (.ref l) else none))
    (N : News h₀ L h all) (m1 : (I, oI) ∈ all) (m2 : (L + 1, oc) ∈ all) (m3 : (lw, listOf zs.toArray n) ∈ all) (m4 : ∀ q ∈ add ++ nw, q ∈ all) (hc : oc.data = .cell cell)
    (hd : DatAll ((lw, listOf zs.toArray n) :: (add ++ nw)) zs ((waysOf root (ps ++ [p])).map wayD)) (o1 : ∀ q ∈ (lw, listOf zs.toArray n) :: (add ++ nw), q.1 ≠ L + 1) (o2 : ∀ q ∈ (lw, listOf zs.toArray n) :: (add ++ nw), q.1 ≠ I) (o3 : @Ne Nat (L + 1) I) :
    LPost h₀ L [] (LawJ L l root tr (i + 1)) I oI s₁ Q f { s₁ with heap := h, toks := tk } := by
  refine LPost.of (.inl hf) F (nx' := (L + 1, oc) :: (lw, listOf zs.toArray n) :: (add ++ nw)) (fun q hq => N q ?_) (fun q hq => nomatch hq) ?_ ⟨lw, (lw, listOf zs.toArray n) :: (add ++ nw), oc, c, cell, ps ++ [p], by rw [List.length_append, hpl]; rfl, ?_, ?_, rfl, hc, ⟨zs, n, .head _, hd⟩, o1⟩
  · rcases List.mem_cons.mp hq with rfl | hq
    · exact m1
    rcases List.mem_cons.mp hq with rfl | hq
    · exact m2
    rcases List.mem_cons.mp hq with rfl | hq
    · exact m3
    · exact m4 q hq
  · intro q hq
    rcases List.mem_cons.mp hq with rfl | hq
    · exact o3
    · exact o2 q hq
  · intro q hq
    rcases List.mem_append.mp hq with hq | hq
    · exact hps q hq
    · rw [List.mem_singleton.mp hq]; exact hp
  · funext y
    by_cases e1 : y = Str.ofString "k"
    · subst e1; rfl
    by_cases e2 : y = Str.ofString "ways"
    · subst e2; rfl
    simp only [e1, e2, if_false]

theorem law2_end {s₁ : Shared} {h₀ h : Heap} {L l lw t a : Addr} {tk : Nat} {root : Str} {tr tx : Tok} {oc : Obj} {news : List (Addr × Obj)} {us : List Value} {k n n2 : Nat} {f : Flow}
    (hf : f = .next) (F : Fr h₀ L h (fun y => if y = Str.ofString "ways" then some (.ref lw) else if y = Str.ofString "root" then some (.str root tr) else if y = Str.ofString "script" then some (.ref l) else none)) (N : News h₀ L h news)
    (m0 : (L + 1, oc) ∈ news) (m1 : (lw, listOf ([.ref t] : List Value).toArray n) ∈ news) (m2 : (t, ({ cls := .type "tuple", data := .seq ([.str root tx, .ref a] : List Value).toArray n2 } : Obj)) ∈ news) (m3 : (a, listOf us.toArray k) ∈ news) (hs : StrsAre us (place0 root))
    (e1 : @Ne Nat lw (L + 1)) (e2 : @Ne Nat t (L + 1)) (e3 : @Ne Nat a (L + 1)) :
    LawSt s₁ h₀ L (fun m nx => ∃ lw nw, m = (fun y => if y = Str.ofString "ways" then some (.ref lw) else if y = Str.ofString "root" then some (.str root tr) else if y = Str.ofString "script" then some (.ref l) else none) ∧ nx = (L + 1, oc) :: nw ∧ WaysIn nw lw [(root, place0 root)] ∧ ∀ p ∈ nw, p.1 ≠ L + 1) f { s₁ with heap := h, toks := tk } := by
  refine LawSt.of (nx := (L + 1, oc) :: [(lw, listOf ([.ref t] : List Value).toArray n), (t, ({ cls := .type "tuple", data := .seq ([.str root tx, .ref a] : List Value).toArray n2 } : Obj)), (a, listOf us.toArray k)]) hf F N ?_ ⟨lw, _, rfl, rfl, ⟨_, _, .head _, .cons (way_make (x := (root, place0 root)) (.tail _ (.head _)) (.tail _ (.tail _ (.head _))) hs) .nil⟩, ?_⟩
  · intro p hp
    simp only [List.mem_cons, List.not_mem_nil, or_false] at hp
    rcases hp with rfl | rfl | rfl | rfl <;> assumption
  · intro p hp
    simp only [List.mem_cons, List.not_mem_nil, or_false] at hp
    rcases hp with rfl | rfl | rfl <;> assumption
end Mine
end

section
open PySem PySem.W PyProof.Rows PySem.Calls
set_option maxRecDepth 100000
set_option maxHeartbeats 8000000
set_option linter.all false
set_option rowWalk.seconds 0
namespace Mine

theorem pick_aux {vs : List Value} {ns : List Int} (hi : IntsAre vs ns) : ∀ is : List Nat, ∃ ns', IntsAre (is.filterMap (vs.toArray[·]?)) ns'
  | [] => ⟨[], .nil⟩
  | i :: is => by
    obtain ⟨ns', h⟩ := pick_aux hi is
    rw [List.filterMap_cons]
    cases e : vs.toArray[i]? with
    | none => exact ⟨ns', h⟩
    | some v =>
      have e' : vs[i]? = some v := by simpa using e
      have hlt : i < ns.length := by
        have := (List.getElem?_eq_some_iff.mp e').1
        rw [hi.length] at this; exact this
      obtain ⟨t, ht⟩ := hi.get i (ns[i]'hlt) (List.getElem?_eq_getElem hlt)
      rw [e'] at ht
      cases ht
      exact ⟨_, .cons _ _ h⟩
theorem sum_pick {prog : Program} {w : World} {A : Around} {s : Shared} {E : Value → Shared → Prop} {h₀ : Heap} {L D : Addr} {m : Str → Option Value} {news : List (Addr × Obj)} {vs : List Value} {ns : List Int} {lo hi st : Option Int} {Q : Value → Shared → Prop} {k : Nat}
    (hh : A.handled = none) (F : Fr h₀ L s.heap m) (N : News h₀ L s.heap ((D, ({ cls := .type "list", data := .seq (slicePick vs.toArray lo hi st) k } : Obj)) :: news)) (hi' : IntsAre vs ns)
    (h : ∀ z h' tk t', Fr h₀ L h' m → News h₀ L h' news → Q (.int z t') { s with heap := h', toks := tk }) :
    wpAny (model prog w) A (call (.builtin "sum") [.ref D]) Q E s := by
  obtain ⟨ns', hn⟩ := pick_aux hi' (sliceRange (sliceBounds lo hi st vs.toArray.size).1 (sliceBounds lo hi st vs.toArray.size).2.1 (sliceBounds lo hi st vs.toArray.size).2.2)
  refine sumK (vs := (sliceRange (sliceBounds lo hi st vs.toArray.size).1 (sliceBounds lo hi st vs.toArray.size).2.1 (sliceBounds lo hi st vs.toArray.size).2.2).filterMap (vs.toArray[·]?)) (ns := ns') hh F N ⟨_, (N _ (.head _)).1, rfl, k, rfl⟩ hn ?_
  intro h' tk t' F' N'
  exact h _ h' tk t' F' fun p hp => N' p (.tail _ hp)

theorem piece_f {w : World} {A : Around} {s : Shared} {x : Int} {t : Tok} {Q E : Value → Shared → Prop} {mg mb : Str → Option Value} {loose : List Str} {mean : ExcName → Option Value}
    {h₀ : Heap} {L : Addr} {m : Str → Option Value} {news : List (Addr × Obj)} (F : Fr h₀ L s.heap m) (N : News h₀ L s.heap news)
    (X : (Mine.kd.heap_1 w.params).In h₀) (T : Top Mine.hd.view_39 loose mean mg mb h₀) (hh : A.handled = none) (hdp : A.depth ≤ 800) (hu : A.units ≤ 8000)
    (h : ∀ h' tk' p t', Fr h₀ L h' m → News h₀ L h' news → IsPiece p → Q (.str p t') { s with heap := h', toks := tk' }) :
    wpAny (model PySem.Challenge.rw_pd0083_01.row.prog w) A (call (.ref 202) [.int (x.fmod 390) t]) Q E s :=
  piece_c (X.keeps F.keep) (T.keeps F.keep) hh hdp hu (Int.fmod_nonneg_of_pos _ (by omega)) (Int.fmod_lt_of_pos _ (by omega)) fun h' tk' p t' st hp => h h' tk' p t' (stays_fr F st) (stays_news N st) hp
end Mine
end

section
open PySem PySem.W PyProof.Rows PySem.Calls PyProof.Rows.LCg
set_option maxRecDepth 100000
set_option maxHeartbeats 8000000
set_option linter.all false
set_option rowWalk.seconds 0
namespace Mine

theorem join_f {w : World} {A : Around} {s : Shared} {x y : Str} {t u : Tok} {Q E : Value → Shared → Prop} {mg mb : Str → Option Value} {loose : List Str} {mean : ExcName → Option Value}
    {h₀ : Heap} {L : Addr} {m : Str → Option Value} {news : List (Addr × Obj)} (F : Fr h₀ L s.heap m) (N : News h₀ L s.heap news)
    (X : (Mine.kd.heap_1 w.params).In h₀) (T : Top Mine.hd.view_39 loose mean mg mb h₀) (hh : A.handled = none) (hdp : A.depth ≤ 800) (hu : A.units ≤ 8000) (hx : x.length ≤ 1000) (hy : y.length ≤ 1000)
    (h : ∀ h' tk' t', Fr h₀ L h' m → News h₀ L h' news → Q (.str (joinS x y) t') { s with heap := h', toks := tk' }) :
    wpAny (model PySem.Challenge.rw_pd0083_01.row.prog w) A (call (.ref 115) [.str x t, .str y u]) Q E s :=
  join_c (X.keeps F.keep) (T.keeps F.keep) hh hdp hu hx hy fun h' tk' t' st => h h' tk' t' (stays_fr F st) (stays_news N st)

theorem gone_f {w : World} {A : Around} {s : Shared} {a : Addr} {vs : List Value} {n : Nat} {xs : List Str} {p : Str} {t : Tok} {Q E : Value → Shared → Prop} {mg mb : Str → Option Value} {loose : List Str} {mean : ExcName → Option Value}
    {h₀ : Heap} {L : Addr} {m : Str → Option Value} {news : List (Addr × Obj)} (F : Fr h₀ L s.heap m) (N : News h₀ L s.heap news)
    (X : (Mine.kd.heap_1 w.params).In h₀) (T : Top Mine.hd.view_39 loose mean mg mb h₀) (hh : A.handled = none) (hdp : A.depth ≤ 800) (hu : A.units ≤ 8000) (ha : (a, listOf vs.toArray n) ∈ news) (hs : StrsAre vs xs) (hl : vs.length ≤ 100)
    (h : ∀ h' tk' b vs' n' add, Fr h₀ L h' m → News h₀ L h' (add ++ news) → (∀ q ∈ add, ∀ p ∈ news, p.1 ≠ q.1) → ((b, listOf vs'.toArray n') ∈ add ∨ (b, listOf vs'.toArray n') = (a, listOf vs.toArray n)) → StrsAre vs' (goneS xs p) → Q (.ref b) { s with heap := h', toks := tk' }) :
    wpAny (model PySem.Challenge.rw_pd0083_01.row.prog w) A (call (.ref 209) [.ref a, .str p t]) Q E s := by
  refine gone_c (X.keeps F.keep) (T.keeps F.keep) hh hdp hu (N _ ha).1 hs hl fun h' tk' b vs' n' st hb hc hs' => ?_
  rcases hc with ⟨rfl, rfl, rfl⟩ | hc
  · exact h h' tk' b vs' n' [] (stays_fr F st) (stays_news N st) (fun q hq => nomatch hq) (.inr rfl) hs'
  · obtain ⟨N', ne⟩ := fresh_news F N st hc hb
    exact h h' tk' b vs' n' [(b, listOf vs'.toArray n')] (stays_fr F st) N' (fun q hq p hp => by rw [List.mem_singleton.mp hq]; exact ne p hp) (.inl (.head _)) hs'

local macro_rules | `(tactic| k_mem) => `(tactic| assumption)
theorem off3_of {I C D : Addr} : ∀ {l : List (Addr × Obj)}, (∀ p ∈ l, @Ne Nat p.1 I ∧ @Ne Nat p.1 C ∧ @Ne Nat p.1 D) → Off3 I C D l
  | [], _ => trivial
  | p :: l, h => ⟨h p (.head _), off3_of fun q hq => h q (.tail _ hq)⟩
theorem elt_one {w : World} {s : Shared} {h₀ h : Heap} {L I C D fa la : Addr} {oI oC oD oc : Obj} {m m₂ mg mb : Str → Option Value} {loose : List Str} {mean : ExcName → Option Value} {news : List (Addr × Obj)} {qual : Str} {mr : List (Str × Const)} {cd : Value} {tk : Nat} {E' : Value → Shared → Prop}
    {S : List (Addr × Obj) → Prop} {rest : Value → List (Addr × Obj) → Prop} {x p : Str} {tx tp : Tok} {us : List Value} {kk : Nat} {xs : List Str} {p1 p2 p3 p4 p5 p6 p7 p8 p9 : Pos}
    (X : (Mine.kd.heap_1 w.params).In h₀) (T : Top Mine.hd.view_39 loose mean mg mb h₀) (F : Fr h₀ L h m) (N : News h₀ L h ((I, oI) :: (C, oC) :: (D, oD) :: news)) (off : Off3 I C D news) (hne : (@Ne Nat I C) ∧ (@Ne Nat I D) ∧ (@Ne Nat C D))
    (hns : NsObj oC m₂) (hm1 : m₂ (Str.ofString "path") = some (.str x tx)) (hm2 : m₂ (Str.ofString "place") = some (.ref la)) (hla : (la, listOf us.toArray kk) ∈ news) (hus : StrsAre us xs) (hul : us.length ≤ 100) (hx : x.length ≤ 1000) (hp : p.length ≤ 1000)
    (hcl : (L + 1, oc) ∈ news) (hoc : oc.data = .cell (some (.str p tp)))
    (hk : ∀ (t b : Addr) (add : List (Addr × Obj)) (vs' : List Value) (n' : Nat) (t1 : Tok), ((b, listOf vs'.toArray n') ∈ add ∨ (b, listOf vs'.toArray n') = (la, listOf us.toArray kk)) → StrsAre vs' (goneS xs p) → (∀ q ∈ add, ∀ p ∈ news, p.1 ≠ q.1) → (∀ p ∈ news, p.1 ≠ t) →
      S ((t, tupObj [.str (joinS x p) t1, .ref b]) :: (add ++ news)) ∧ rest (.ref t) ((t, tupObj [.str (joinS x p) t1, .ref b]) :: (add ++ news))) :
    wpAny (model PySem.Challenge.rw_pd0083_01.row.prog w) ⟨none, 500, none, none, 5000⟩ (eval (.Tuple [.Call (.Name (Str.ofString "join") p1) [.Name (Str.ofString "path") p2, .Name (Str.ofString "piece") p3] [] p4, .Call (.Name (Str.ofString "_law_gone") p5) [.Name (Str.ofString "place") p6, .Name (Str.ofString "piece") p7] [] p8] 0 p9)
      (compEnvC { kind := ScopeKind.function, names := [(Str.ofString ".0", NameKind.local), (Str.ofString "path", NameKind.local), (Str.ofString "place", NameKind.local), (Str.ofString "join", NameKind.globalImplicit), (Str.ofString "_law_gone", NameKind.globalImplicit), (Str.ofString "piece", NameKind.free)], isGenerator := false, isCoroutine := false } [(Str.ofString "piece", L + 1)] C (envOfC qual { kind := ScopeKind.function, names := [(Str.ofString "script", NameKind.local), (Str.ofString "root", NameKind.local), (Str.ofString "ways", NameKind.local), (Str.ofString "k", NameKind.local), (Str.ofString "piece", NameKind.cell), (Str.ofString "path", NameKind.local), (Str.ofString "place", NameKind.local), (Str.ofString "texts", NameKind.local), (Str.ofString "text", NameKind.local), (Str.ofString "plain", NameKind.local), (Str.ofString "lead", NameKind.local), (Str.ofString "other", NameKind.local), (Str.ofString "told", NameKind.local), (Str.ofString "sum", NameKind.globalImplicit), (Str.ofString "range", NameKind.globalImplicit), (Str.ofString "_law_piece", NameKind.globalImplicit), (Str.ofString "normpath", NameKind.globalImplicit), (Str.ofString "_law_lead", NameKind.globalImplicit)], isGenerator := false, isCoroutine := false, more := mr } L fa cd)))
      (CompEnd h₀ L m { s with heap := h, toks := tk } I oI C oC D oD S rest) E' { s with heap := h, toks := tk } := by
  k_with_none
  k_with "mine_call" => ((case k1 => k_asm); (case k2 => k_asm); (case k3 => k_asm); (case k4 => k_asm); (case kh => exact rfl); (case kd => exact Nat.le_of_ble_eq_true rfl); (case ku => exact Nat.le_of_ble_eq_true rfl); k_whole)
  k_with "call ref" => (k_here; (with_reducible show wpAny _ _ (call (Value.ref 115) _) _ _ _); k_dflt (refine' join_f (by k_asm) (by k_asm) (by k_asm) (by k_asm) (by exact rfl) (by exact Nat.le_of_ble_eq_true rfl) (by exact Nat.le_of_ble_eq_true rfl) (by assumption) (by assumption) ?_; k_whole); intro _ _ _ _ _; (try dsimp only); (try k_sweep))
  k_with "call ref" => (k_here; (with_reducible show wpAny _ _ (call (Value.ref 209) _) _ _ _); k_dflt (refine' gone_f (by k_asm) (by k_asm) (by k_asm) (by k_asm) (by exact rfl) (by exact Nat.le_of_ble_eq_true rfl) (by exact Nat.le_of_ble_eq_true rfl) (by exact List.Mem.tail _ (List.Mem.tail _ (List.Mem.tail _ (by assumption)))) (by assumption) (by assumption) ?_; k_whole); intro _ _ _ _ _ _ _ _ _ _ _; (try dsimp only); (try k_sweep))
  revert X
  k_fill
  intro X
  k_steps
  rename Fr _ _ _ _ => F9
  rename News _ _ _ _ => N9
  rename ∀ p, p ∈ _ ++ _ → _ => l9
  rename ∀ q, q ∈ _ → ∀ p, p ∈ (I, oI) :: _ → _ => a9
  rename _ ∨ _ => b9
  rename StrsAre _ (goneS _ _) => s9
  rename_i t1 _ _ _ b' vs' n' add t _
  have hne' : ∀ q ∈ add, ∀ p ∈ news, p.1 ≠ q.1 := fun q hq p hp => a9 q hq p (.tail _ (.tail _ (.tail _ hp)))
  have htn : ∀ p ∈ news, p.1 ≠ t := fun p hp => Nat.ne_of_lt (l9 p (List.mem_append_right _ (.tail _ (.tail _ (.tail _ hp)))))
  obtain ⟨hS, hR⟩ := hk t b' add vs' n' t1 b9 s9 hne' htn
  refine CompEnd.intro F9 N9 ((t, tupObj [.str (joinS x p) t1, .ref b']) :: (add ++ news)) ?_ (off3_of ?_) hS hR
  · intro q hq
    rcases List.mem_cons.mp hq with rfl | hq
    · exact .tail _ (List.mem_append_right _ (.head _))
    rcases List.mem_cons.mp hq with rfl | hq
    · exact .tail _ (List.mem_append_right _ (.tail _ (.head _)))
    rcases List.mem_cons.mp hq with rfl | hq
    · exact .tail _ (List.mem_append_right _ (.tail _ (.tail _ (.head _))))
    rcases List.mem_cons.mp hq with rfl | hq
    · exact .head _
    rcases List.mem_append.mp hq with hq | hq
    · exact .tail _ (List.mem_append_left _ hq)
    · exact .tail _ (List.mem_append_right _ (.tail _ (.tail _ (.tail _ hq))))
  · intro q hq
    rcases List.mem_cons.mp hq with rfl | hq
    · exact ⟨Nat.ne_of_gt (l9 (I, oI) (List.mem_append_right _ (.head _))), Nat.ne_of_gt (l9 (C, oC) (List.mem_append_right _ (.tail _ (.head _)))), Nat.ne_of_gt (l9 (D, oD) (List.mem_append_right _ (.tail _ (.tail _ (.head _)))))⟩
    rcases List.mem_append.mp hq with hq | hq
    · exact ⟨Ne.symm (a9 q hq (I, oI) (.head _)), Ne.symm (a9 q hq (C, oC) (.tail _ (.head _))), Ne.symm (a9 q hq (D, oD) (.tail _ (.tail _ (.head _))))⟩
    · exact off.mem q hq

theorem comp_rest {w : World} {s : Shared} {h₀ : Heap} {L fa : Addr} {oc : Obj} {m mg mb : Str → Option Value} {loose : List Str} {mean : ExcName → Option Value} {qual : Str} {mr : List (Str × Const)} {cd : Value}
    {S : List (Addr × Obj) → Prop} {Fin : List Value → List (Addr × Obj) → Prop} {p : Str} {tp : Tok} {p1 p2 p3 p4 p5 p6 p7 p8 p9 : Pos} {news0 nwb : List (Addr × Obj)} {W : List Way} {vs : List Value}
    (X : (Mine.kd.heap_1 w.params).In h₀) (T : Top Mine.hd.view_39 loose mean mg mb h₀) (hsub : ∀ q ∈ nwb, q ∈ news0) (hW : DatAll nwb vs (W.map wayD)) (hcl : (L + 1, oc) ∈ news0) (hoc : oc.data = .cell (some (.str p tp))) (hp : p.length ≤ 1000) (hb : ∀ x ∈ W, x.1.length ≤ 1000 ∧ x.2.length ≤ 100)
    (hS : ∀ nw', (∀ q ∈ news0, q ∈ nw') → S nw')
    (hFin : ∀ ys add, DatAll (add ++ nwb) ys (W.map fun x => wayD (stepW p x)) → (∀ q ∈ add, ∀ r ∈ news0, r.1 ≠ q.1) → Fin ys (add ++ news0)) :
    ∀ k i ys add, i + k = vs.length → DatAll (add ++ nwb) ys ((W.take i).map fun x => wayD (stepW p x)) → (∀ q ∈ add, ∀ r ∈ news0, r.1 ≠ q.1) →
      LCp.CompRestP PySem.Challenge.rw_pd0083_01.row.prog w ⟨none, 500, none, none, 5000⟩ h₀ L m (envOfC qual { kind := ScopeKind.function, names := [(Str.ofString "script", NameKind.local), (Str.ofString "root", NameKind.local), (Str.ofString "ways", NameKind.local), (Str.ofString "k", NameKind.local), (Str.ofString "piece", NameKind.cell), (Str.ofString "path", NameKind.local), (Str.ofString "place", NameKind.local), (Str.ofString "texts", NameKind.local), (Str.ofString "text", NameKind.local), (Str.ofString "plain", NameKind.local), (Str.ofString "lead", NameKind.local), (Str.ofString "other", NameKind.local), (Str.ofString "told", NameKind.local), (Str.ofString "sum", NameKind.globalImplicit), (Str.ofString "range", NameKind.globalImplicit), (Str.ofString "_law_piece", NameKind.globalImplicit), (Str.ofString "normpath", NameKind.globalImplicit), (Str.ofString "_law_lead", NameKind.globalImplicit)], isGenerator := false, isCoroutine := false, more := mr } L fa cd) (.Tuple [.Call (.Name (Str.ofString "join") p1) [.Name (Str.ofString "path") p2, .Name (Str.ofString "piece") p3] [] p4, .Call (.Name (Str.ofString "_law_gone") p5) [.Name (Str.ofString "place") p6, .Name (Str.ofString "piece") p7] [] p8] 0 p9) (Str.ofString "path") (Str.ofString "place")
        { kind := ScopeKind.function, names := [(Str.ofString ".0", NameKind.local), (Str.ofString "path", NameKind.local), (Str.ofString "place", NameKind.local), (Str.ofString "join", NameKind.globalImplicit), (Str.ofString "_law_gone", NameKind.globalImplicit), (Str.ofString "piece", NameKind.free)], isGenerator := false, isCoroutine := false } [(Str.ofString "piece", L + 1)] s S (fun i v => vs.toArray[i]? = some v) Fin k i ys (add ++ news0) := by
  have hlen : vs.length = W.length := by rw [hW.length, List.length_map]
  intro k
  induction k with
  | zero =>
    intro i ys add hi hd hadd
    have : W.take i = W := List.take_of_length_le (by omega)
    rw [this] at hd
    exact hFin ys add hd hadd
  | succ k ih =>
    intro i ys add hi hd hadd
    refine LCp.CompRestP.succ fun v hv => ?_
    have hv' : vs[i]? = some v := by simpa using hv
    have hiW : i < W.length := by omega
    have hiD : i < (W.map wayD).length := by rw [List.length_map]; exact hiW
    obtain ⟨v', hv2, hdat⟩ := hW.get hiD
    rw [hv'] at hv2
    cases hv2
    rw [List.getElem_map] at hdat
    obtain ⟨t, n, tx, a, us, kk, rfl, ht, ha, hus⟩ := way_open hdat
    have hbx := hb _ (List.getElem_mem hiW)
    refine ⟨t, _, .str W[i].1 tx, .ref a, n, rfl, List.mem_append_right _ (hsub _ ht), rfl, rfl, ?_⟩
    intro I oI C oC D m₂ h tk E' hns hm1 hm2 F N off hne
    refine elt_one X T F N off hne hns hm1 hm2 (List.mem_append_right _ (hsub _ ha)) hus (by rw [hus.length]; exact hbx.2) hbx.1 hp (List.mem_append_right _ hcl) hoc ?_
    intro t' b add' vs' n' t1 hbm hs' hne' htn
    have e : (t', tupObj [.str (joinS W[i].1 p) t1, .ref b]) :: (add' ++ (add ++ news0)) = ((t', tupObj [.str (joinS W[i].1 p) t1, .ref b]) :: (add' ++ add)) ++ news0 := by simp
    refine ⟨hS _ fun q hq => .tail _ (List.mem_append_right _ (List.mem_append_right _ hq)), ?_⟩
    show LCp.CompRestP _ _ _ _ _ _ _ _ _ _ _ _ _ _ _ _ _ _ _ _
    rw [e]
    refine ih (i + 1) (ys ++ [.ref t']) _ (by omega) ?_ ?_
    · have e2 : (W.take (i + 1)).map (fun x => wayD (stepW p x)) = (W.take i).map (fun x => wayD (stepW p x)) ++ [wayD (stepW p W[i])] := by
        rw [List.take_add_one, List.getElem?_eq_getElem hiW, List.map_append]; rfl
      rw [e2]
      refine DatAll.append (hd.mono fun q hq => ?_) (DatAll.one ?_)
      · rcases List.mem_append.mp hq with hq | hq
        · exact List.mem_append_left _ (.tail _ (List.mem_append_right _ hq))
        · exact List.mem_append_right _ hq
      · refine way_make (k := n') (x := stepW p W[i]) (List.mem_append_left _ (.head _)) ?_ hs'
        rcases hbm with hbm | hbm
        · exact List.mem_append_left _ (.tail _ (List.mem_append_left _ hbm))
        · rw [hbm]; exact List.mem_append_right _ ha
    · intro q hq r hr
      rcases List.mem_cons.mp hq with rfl | hq
      · exact htn r (List.mem_append_right _ hr)
      rcases List.mem_append.mp hq with hq | hq
      · exact hne' q hq r (List.mem_append_right _ hr)
      · exact hadd q hq r hr
end Mine
end

section
open PySem PySem.W PyProof.Rows PySem.Calls
set_option maxRecDepth 100000
set_option maxHeartbeats 8000000
set_option linter.all false
set_option rowWalk.seconds 0
namespace Mine
section
variable {prog : Program} {w : World} {A : Around} {E : Value → Shared → Prop} {s : Shared} {h₀ : Heap} {L a b : Addr} {news : List (Addr × Obj)} {us vs : List Value} {ka kb : Nat} {xs ys : List Str} {Q : Value → Shared → Prop}
theorem map_str_inj {xs ys : List Str} : xs.map Dat.str = ys.map Dat.str ↔ xs = ys := by
  constructor
  · intro h
    induction xs generalizing ys with
    | nil => cases ys with
      | nil => rfl
      | cons y ys => cases h
    | cons x xs ih => cases ys with
      | nil => cases h
      | cons y ys =>
        simp only [List.map_cons, List.cons.injEq, Dat.str.injEq] at h
        rw [h.1, ih h.2]
  · intro h; rw [h]
theorem ok_strs {xs : List Str} (h : ∀ x ∈ xs, PyData.strOk x = true) : ∀ d ∈ xs.map Dat.str, kqdOk 8 d = true := by
  intro d hd
  obtain ⟨x, hx, rfl⟩ := List.mem_map.mp hd
  simpa [kqdOk] using h x hx
theorem eq_strs (N : News h₀ L s.heap news) (ma : (a, listOf us.toArray ka) ∈ news) (ha : StrsAre us xs) (oa : ∀ x ∈ xs, PyData.strOk x = true) (mb : (b, listOf vs.toArray kb) ∈ news) (hb : StrsAre vs ys) (ob : ∀ x ∈ ys, PyData.strOk x = true) (hu : A.units + 64 < cLine) (h : Q (.bool (decide (xs = ys))) s) :
    wpAny (model prog w) A (compareOp .Eq (.ref a) (.ref b)) Q E s := by
  refine kqd_eq (n₁ := news) (n₂ := news) N ma rfl rfl (strs_dat ha) (fun _ h => h) mb rfl rfl (strs_dat hb) (fun _ h => h) (ok_strs oa) (ok_strs ob) hu ?_
  have e : ∀ (i : Decidable (xs.map Dat.str = ys.map Dat.str)), @decide _ i = decide (xs = ys) := fun i => by
    by_cases hq : xs = ys
    · rw [decide_eq_true hq]; exact @decide_eq_true _ i (map_str_inj.mpr hq)
    · rw [decide_eq_false hq]; exact @decide_eq_false _ i fun z => hq (map_str_inj.mp z)
  rw [e]
  exact h
theorem notin_strs {x : Str} {t : Tok} (N : News h₀ L s.heap news) (ma : (a, listOf us.toArray ka) ∈ news) (ha : StrsAre us xs) (h : Q (.bool (!(xs.any (· == x)))) s) :
    wpAny (model prog w) A (compareOp .NotIn (.str x t) (.ref a)) Q E s := notin_list_strs (led_list N ma) ha h
theorem in_strs {x : Str} {t : Tok} (N : News h₀ L s.heap news) (ma : (a, listOf us.toArray ka) ∈ news) (ha : StrsAre us xs) (h : Q (.bool (xs.any (· == x))) s) :
    wpAny (model prog w) A (compareOp .In (.str x t) (.ref a)) Q E s := in_list_strs (led_list N ma) ha h
end
theorem goneS_ok {xs : List Str} {p : Str} (h : ∀ x ∈ xs, PyData.strOk x = true) (hp : PyData.strOk p = true) : ∀ x ∈ goneS xs p, PyData.strOk x = true := by
  intro x hx
  unfold goneS at hx
  split at hx
  · exact h x (List.dropLast_subset _ hx)
  · split at hx
    · exact h x hx
    · rcases List.mem_append.mp hx with hx | hx
      · exact h x hx
      · rw [List.mem_singleton.mp hx]; exact hp
theorem ways_ok {root : Str} : ∀ (ps : List Str), (∀ p ∈ ps, IsPiece p) → ∀ x ∈ waysOf root ps, ∀ y ∈ x.2, PyData.strOk y = true := by
  intro ps
  generalize hn : ps.length = n
  induction n generalizing ps with
  | zero =>
    intro _ x hx y hy
    have : ps = [] := List.length_eq_zero_iff.mp hn
    subst this
    have : x = (root, place0 root) := by simpa [waysOf] using hx
    subst this
    have hy : y ∈ place0 root := hy
    unfold place0 at hy
    split at hy
    · rw [List.eq_of_mem_replicate hy]; decide +kernel
    · cases hy
  | succ n ih =>
    intro hp
    rcases List.eq_nil_or_concat ps with rfl | ⟨qs, q, rfl⟩
    · cases hn
    · rw [List.concat_eq_append] at *
      have hq : qs.length = n := by simpa using hn
      have h1 := ih qs hq fun p h => hp p (List.mem_append_left _ h)
      rw [waysOf_snoc]
      intro x hx
      rcases List.mem_append.mp hx with hx | hx
      · exact h1 x hx
      · obtain ⟨z, hz, rfl⟩ := List.mem_map.mp hx
        exact goneS_ok (h1 z hz) (piece_ok (hp q (List.mem_append_right _ (.head _))))
end Mine
end

section
open PySem PySem.W PyProof.Rows PySem.Calls
set_option maxRecDepth 100000
set_option maxHeartbeats 8000000
set_option linter.all false
set_option rowWalk.seconds 0
namespace Mine

theorem less_f {w : World} {A : Around} {s : Shared} {o o' : Addr} {nl nl' : List (Addr × Obj)} {st st' : WS} {Q E : Value → Shared → Prop} {mg mb : Str → Option Value} {loose : List Str} {mean : ExcName → Option Value}
    {h₀ : Heap} {L : Addr} {m : Str → Option Value} {news : List (Addr × Obj)} (F : Fr h₀ L s.heap m) (N : News h₀ L s.heap news)
    (X : (Mine.kd.heap_1 w.params).In h₀) (T : Top Mine.hd.view_39 loose mean mg mb h₀) (hh : A.handled = none) (hdp : A.depth ≤ 700) (hu : A.units ≤ 7000) (hl : LeadIn w.params nl o st) (hn : ∀ p ∈ nl, p ∈ news)
    (hl' : LeadIn w.params nl' o' st') (hn' : ∀ p ∈ nl', p ∈ news)
    (hb : st.count.length ≤ 1001 ∧ st.b ≤ 1000 ∧ st.n ≤ 1000 ∧ st.nt ≤ 1000) (hcb : ∀ c ∈ st.count, 0 ≤ c ∧ c ≤ 1000) (hb' : st'.count.length ≤ 1001 ∧ st'.b ≤ 1000 ∧ st'.n ≤ 1000 ∧ st'.nt ≤ 1000) (hcb' : ∀ c ∈ st'.count, 0 ≤ c ∧ c ≤ 1000)
    (hlt : st.n < st'.n → st.nt ≤ st'.nt ∧ ∀ ts : Int, 2 ≤ ts → ts ≤ 1002 → lvlS st ts < lvlS st' ts)
    (h : ∀ h' tk', Fr h₀ L h' m → News h₀ L h' news → Q (.bool (decide (st.n < st'.n))) { s with heap := h', toks := tk' }) :
    wpAny (model PySem.Challenge.rw_pd0083_01.row.prog w) A (call (.ref 181) [.ref o, .ref o']) Q E s :=
  less_c (X.keeps F.keep) (T.keeps F.keep) hh hdp hu hl (fun p hp => (N p (hn p hp)).1) hl' (fun p hp => (N p (hn' p hp)).1) hb hcb hb' hcb' hlt fun h' tk' sti => h h' tk' (stays_fr F sti) (stays_news N sti)

theorem equal_f {w : World} {A : Around} {s : Shared} {o o' : Addr} {nl nl' : List (Addr × Obj)} {st st' : WS} {Q E : Value → Shared → Prop} {mg mb : Str → Option Value} {loose : List Str} {mean : ExcName → Option Value}
    {h₀ : Heap} {L : Addr} {m : Str → Option Value} {news : List (Addr × Obj)} (F : Fr h₀ L s.heap m) (N : News h₀ L s.heap news)
    (X : (Mine.kd.heap_1 w.params).In h₀) (T : Top Mine.hd.view_39 loose mean mg mb h₀) (hh : A.handled = none) (hdp : A.depth ≤ 800) (hu : A.units ≤ 8000) (hl : LeadIn w.params nl o st) (hn : ∀ p ∈ nl, p ∈ news)
    (hl' : LeadIn w.params nl' o' st') (hn' : ∀ p ∈ nl', p ∈ news)
    (h : ∀ h' tk', Fr h₀ L h' m → News h₀ L h' news → Q (.bool (decide (st.count = st'.count) && ((st.b : Int) == (st'.b : Int)))) { s with heap := h', toks := tk' }) :
    wpAny (model PySem.Challenge.rw_pd0083_01.row.prog w) A (call (.ref 167) [.ref o, .ref o']) Q E s :=
  equal_c (X.keeps F.keep) (T.keeps F.keep) hh hdp hu hl (fun p hp => (N p (hn p hp)).1) hl' (fun p hp => (N p (hn' p hp)).1) fun h' tk' sti => h h' tk' (stays_fr F sti) (stays_news N sti)
theorem bump_mem {cnt : List Int} {b N : Nat} (h : ∀ c ∈ cnt, 0 ≤ c ∧ c ≤ (N : Int)) : ∀ c ∈ bump cnt b, 0 ≤ c ∧ c ≤ ((N + 1 : Nat) : Int) := by
  unfold bump
  have h' : ∀ c ∈ (if cnt.length ≤ b then cnt ++ List.replicate (b - cnt.length + 1) 0 else cnt), 0 ≤ c ∧ c ≤ (N : Int) := by
    intro c hc
    split at hc
    · rcases List.mem_append.mp hc with hc | hc
      · exact h c hc
      · have := List.eq_of_mem_replicate hc; omega
    · exact h c hc
  generalize (if cnt.length ≤ b then cnt ++ List.replicate (b - cnt.length + 1) 0 else cnt) = l at *
  intro c hc
  rcases List.mem_or_eq_of_mem_set hc with hc | rfl
  · have := h' c hc; omega
  · rw [List.getD_eq_getElem?_getD]
    cases e : l[b]? with
    | none => simp only [Option.getD_none]; omega
    | some v => have := h' v (List.mem_of_getElem? e); simp only [Option.getD_some]; omega

theorem ws_mem : ∀ (l : List Nat) (st : WS) (N : Nat), (∀ c ∈ st.count, 0 ≤ c ∧ c ≤ (N : Int)) → ∀ c ∈ (l.foldl wsStep st).count, 0 ≤ c ∧ c ≤ ((N + l.length : Nat) : Int)
  | [], st, N, h => h
  | a :: l, st, N, h => by
    have key : ∀ c ∈ (wsStep st a).count, 0 ≤ c ∧ c ≤ ((N + 1 : Nat) : Int) := by
      unfold wsStep
      split
      · intro c hc; have := h c hc; omega
      · exact bump_mem h
    have := ws_mem l (wsStep st a) (N + 1) key
    rw [List.length_cons, show N + (l.length + 1) = N + 1 + l.length by omega]
    exact this

theorem wsf_mem {x : Str} (hx : x.cps.toList.length ≤ 1000) : ∀ c ∈ (wsFold x).count, 0 ≤ c ∧ c ≤ 1000 := by
  intro c hc
  have := ws_mem x.cps.toList ⟨[], 0, 0, 0⟩ 0 (fun c hc => nomatch hc) c hc
  omega

theorem wsf_bound {x : Str} (hx : x.cps.toList.length ≤ 1000) : (wsFold x).count.length ≤ 1001 ∧ (wsFold x).b ≤ 1000 ∧ (wsFold x).n ≤ 1000 ∧ (wsFold x).nt ≤ 1000 := by
  have hbd := ws_bound x.cps.toList ⟨[], 0, 0, 0⟩ 0 (by simp) (by simp) (by simp) (by simp)
  unfold wsFold
  omega

theorem lead_bound {x : Str} (hx : x.length ≤ 1000) : ((wsFold (leadS x)).count.length ≤ 1001 ∧ (wsFold (leadS x)).b ≤ 1000 ∧ (wsFold (leadS x)).n ≤ 1000 ∧ (wsFold (leadS x)).nt ≤ 1000) ∧ ∀ c ∈ (wsFold (leadS x)).count, 0 ≤ c ∧ c ≤ 1000 := by
  have : (leadS x).cps.toList.length ≤ 1000 := by
    rw [Array.length_toList]
    unfold leadS
    rw [Array.size_map]
    exact hx
  exact ⟨wsf_bound this, wsf_mem this⟩
end Mine
end

section
open PySem PySem.W PyProof.Rows PySem.Calls
set_option maxRecDepth 100000
set_option maxHeartbeats 8000000
set_option linter.all false
set_option rowWalk.seconds 0
namespace Mine

def textOf (x : Str) : Str := if (x.length : Int) = 0 then Str.ofString "." else x
def addText (last : List Str) (ts : List Str) (x : Way) : List Str :=
  if decide (x.2 = last) = true then (if (!(ts.any (· == textOf x.1))) = true then ts ++ [textOf x.1] else ts) else ts
def textsS (W : List Way) (last : List Str) : List Str := W.foldl (addText last) []

theorem texts_len (last : List Str) : ∀ (W : List Way) (ts : List Str), (W.foldl (addText last) ts).length ≤ ts.length + W.length
  | [], ts => Nat.le_refl _
  | x :: r, ts => by
    refine Nat.le_trans (texts_len last r _) ?_
    have : (addText last ts x).length ≤ ts.length + 1 := by
      unfold addText
      split
      · split
        · rw [List.length_append]; exact Nat.le_refl _
        · exact Nat.le_succ _
      · exact Nat.le_succ _
    rw [List.length_cons]
    omega

def TxJ (m₃ : Str → Option Value) (lt : Addr) (nw : List (Addr × Obj)) (W : List Way) (last : List Str) (i : Nat) (m : Str → Option Value) (nx : List (Addr × Obj)) : Prop :=
  ∃ (c1 c2 c3 : Option Value) (vs : List Value) (nn : Nat) (ts : List Str), m = (fun y => if y = Str.ofString "path" then c1 else if y = Str.ofString "place" then c2 else if y = Str.ofString "text" then c3 else m₃ y) ∧
    StrsAre vs ts ∧ ts = (W.take i).foldl (addText last) [] ∧ nx = (lt, listOf vs.toArray nn) :: nw

theorem addText_in {last ts : List Str} {x : Way} {y : Str} (hy : textOf x.1 = y) (h1 : x.2 = last) (h2 : (ts.any fun z => z == y) = true) : ts = addText last ts x := by
  unfold addText; rw [hy, if_pos (decide_eq_true h1), h2]; rfl
theorem addText_new {last ts : List Str} {x : Way} {y : Str} (hy : textOf x.1 = y) (h1 : x.2 = last) (h2 : (ts.any fun z => z == y) = false) : ts ++ [y] = addText last ts x := by
  unfold addText; rw [hy, if_pos (decide_eq_true h1), h2]; rfl
theorem addText_off {last ts : List Str} {x : Way} (h1 : ¬ x.2 = last) : ts = addText last ts x := by
  unfold addText; rw [if_neg (by rw [decide_eq_true_eq]; exact h1)]
theorem textOf_pos {x : Str} (h : (x.length : Int) ≠ 0) : textOf x = x := if_neg h
theorem textOf_zero {x : Str} (h : (x.length : Int) = 0) : textOf x = Str.ofString "." := if_pos h

theorem txj_end {h₀ h' : Heap} {L lt I : Addr} {oI : Obj} {cst nw : List (Addr × Obj)} {m₃ : Str → Option Value} {W : List Way} {last : List Str} {i tk' : Nat} {s : Shared} {Q : Flow → Shared → Prop} {f : Flow} {x : Way} {ts ts' : List Str} {vs' : List Value} {n' : Nat} {vt vp vq c1 c2 c3 : Option Value}
    (hf : f = .next) (hi : i < W.length) (hx : W[i] = x) (htse : ts = (W.take i).foldl (addText last) []) (he : ts' = addText last ts x) (hs : StrsAre vs' ts')
    (F : Fr h₀ L h' (fun y => if y = Str.ofString "text" then vt else if y = Str.ofString "place" then vp else if y = Str.ofString "path" then vq else if y = Str.ofString "path" then c1 else if y = Str.ofString "place" then c2 else if y = Str.ofString "text" then c3 else m₃ y))
    (N : News h₀ L h' ((I, oI) :: (lt, listOf vs'.toArray n') :: nw)) (hc : ∀ p ∈ cst, p ∈ nw) (hI : ∀ p ∈ nw, p.1 ≠ I) (hlt : lt ≠ I) :
    LPost h₀ L cst (TxJ m₃ lt nw W last (i + 1)) I oI s Q f { s with heap := h', toks := tk' } := by
  refine LPost.of (.inl hf) F N (fun p hp => .tail _ (hc p hp)) (fun p hp => ?_) ⟨vq, vp, vt, vs', n', ts', ?_, hs, ?_, rfl⟩
  · rcases List.mem_cons.mp hp with rfl | hp
    · exact hlt
    · exact hI p hp
  · funext y
    by_cases e1 : y = Str.ofString "path"
    · subst e1; rfl
    by_cases e2 : y = Str.ofString "place"
    · subst e2; rfl
    by_cases e3 : y = Str.ofString "text"
    · subst e3; rfl
    simp only [if_neg e1, if_neg e2, if_neg e3]
  · rw [he, htse, List.take_succ, List.getElem?_eq_getElem hi, hx, List.foldl_append]
    rfl

theorem normpath_f {w : World} {A : Around} {s : Shared} {x : Str} {t : Tok} {Q E : Value → Shared → Prop} {mg mb : Str → Option Value} {loose : List Str} {mean : ExcName → Option Value}
    {h₀ : Heap} {L : Addr} {m : Str → Option Value} {news : List (Addr × Obj)} (F : Fr h₀ L s.heap m) (N : News h₀ L s.heap news)
    (X : (Mine.kd.heap_1 w.params).In h₀) (T : Top Mine.hd.view_39 loose mean mg mb h₀) (hh : A.handled = none) (hdp : A.depth ≤ 700) (hu : A.units ≤ 7000) (hx : x.length ≤ 1000)
    (h : ∀ h' tk' t', Fr h₀ L h' m → News h₀ L h' news → Q (.str (normS x) t') { s with heap := h', toks := tk' }) :
    wpAny (model PySem.Challenge.rw_pd0083_01.row.prog w) A (call (.ref 129) [.str x t]) Q E s :=
  normpath_c (X.keeps F.keep) (T.keeps F.keep) hh hdp hu hx fun h' tk' t' st => h h' tk' t' (stays_fr F st) (stays_news N st)

theorem fresh_all {h₀ h h' : Heap} {L : Addr} {m : Str → Option Value} {news nl : List (Addr × Obj)} (F : Fr h₀ L h m) (N : News h₀ L h news) (st : h.StaysIn h') (hn : ∀ p ∈ nl, h'.get? p.1 = some p.2 ∧ h.get? p.1 = none) :
    News h₀ L h' (nl ++ news) ∧ ∀ q ∈ nl, ∀ p ∈ news, p.1 ≠ q.1 := by
  refine ⟨fun p hp => ?_, fun q hq => (fresh_news F N st (hn q hq).2 (hn q hq).1).2⟩
  rcases List.mem_append.mp hp with hp | hp
  · exact (fresh_news F N st (hn p hp).2 (hn p hp).1).1 _ (.head _)
  · exact stays_news N st p hp

theorem lead_f {w : World} {A : Around} {s : Shared} {x : Str} {t : Tok} {Q E : Value → Shared → Prop} {mg mb : Str → Option Value} {loose : List Str} {mean : ExcName → Option Value}
    {h₀ : Heap} {L : Addr} {m : Str → Option Value} {news : List (Addr × Obj)} (F : Fr h₀ L s.heap m) (N : News h₀ L s.heap news)
    (X : (Mine.kd.heap_1 w.params).In h₀) (T : Top Mine.hd.view_39 loose mean mg mb h₀) (hh : A.handled = none) (hdp : A.depth ≤ 700) (hu : A.units ≤ 7000) (hx : x.length ≤ 1000)
    (h : ∀ h' tk' o nl, Fr h₀ L h' m → News h₀ L h' (nl ++ news) → (∀ q ∈ nl, ∀ p ∈ news, p.1 ≠ q.1) → LeadIn w.params nl o (wsFold (leadS x)) → Q (.ref o) { s with heap := h', toks := tk' }) :
    wpAny (model PySem.Challenge.rw_pd0083_01.row.prog w) A (call (.ref 214) [.str x t]) Q E s := by
  refine lead_c (X.keeps F.keep) (T.keeps F.keep) hh hdp hu hx fun h' tk' o nl st hn hl => ?_
  obtain ⟨N', ne⟩ := fresh_all F N st hn
  exact h h' tk' o nl (stays_fr F st) N' ne hl

/-- what the plain law must say of the texts and the plain path -/
def PlainLaw (ts : List Str) (plain : Str) : Prop :=
  plain.length ≤ 1000 ∧ plain ∈ ts ∧ ∀ x ∈ ts, x.length ≤ 1000 ∧ normS x = plain ∧
    (x ≠ plain → (wsFold (leadS plain)).n < (wsFold (leadS x)).n ∧ (wsFold (leadS plain)).nt ≤ (wsFold (leadS x)).nt ∧
      (∀ t : Int, 2 ≤ t → t ≤ 1002 → lvlS (wsFold (leadS plain)) t < lvlS (wsFold (leadS x)) t) ∧
      ¬ ((wsFold (leadS plain)).count = (wsFold (leadS x)).count ∧ (wsFold (leadS plain)).b = (wsFold (leadS x)).b))

theorem cutT {M : Model} {A : Around} {target : Expr} {v : Value} {body : List Stmt} {env : Env} {Q : Flow → Shared → Prop} {E : Value → Shared → Prop} {s s₁ : Shared} {h₀ : Heap} {L : Addr} (C : (Str → Option Value) → List (Addr × Obj) → Prop)
    (h : wpAny M A (assign target env v) (fun _ s' => LawSt s₁ h₀ L C .next s') (fun _ _ => False) s)
    (k : ∀ h tk m nx, Fr h₀ L h m → News h₀ L h nx → C m nx → wpAny M A (execs body env) Q E { s₁ with heap := h, toks := tk }) :
    wpAny M A (assign target env v) (fun _ s₂ => wpAny M A (execs body env) Q E s₂) (fun _ _ => False) s := by
  refine wpAny_mono h (fun _ s' h' => ?_) fun _ _ y => y.elim
  obtain ⟨_, h, tk, m, nx, rfl, F, N, c⟩ := h'
  exact k h tk m nx F N c

theorem ne_bools {prog : Program} {w : World} {A : Around} {E : Value → Shared → Prop} {s : Shared} {h₀ : Heap} {L a b : Addr} {news : List (Addr × Obj)} {ka kb : Nat} {Q : Value → Shared → Prop} {b1 b2 b3 d1 d2 d3 : Bool}
    (N : News h₀ L s.heap news) (ma : (a, listOf ([.bool b1, .bool b2, .bool b3] : List Value).toArray ka) ∈ news) (mb : (b, listOf ([.bool d1, .bool d2, .bool d3] : List Value).toArray kb) ∈ news) (hu : A.units + 64 < cLine)
    (e1 : b1 = d1) (e2 : b2 = d2) (e3 : b3 = d3) (h : Q (.bool false) s) : wpAny (model prog w) A (compareOp .NotEq (.ref a) (.ref b)) Q E s := by
  subst e1; subst e2; subst e3
  have sh : SeqAt.shaped (.list [.bool b1, .bool b2, .bool b3]) = true := by cases b1 <;> cases b2 <;> cases b3 <;> rfl
  have e : PyData.eqv (.list [.bool b1, .bool b2, .bool b3]) (.list [.bool b1, .bool b2, .bool b3]) = true := by cases b1 <;> cases b2 <;> cases b3 <;> rfl
  refine ne_dataH (reads_list_at (N.get ma) rfl rfl (.cons (.bool _) (.cons (.bool _) (.cons (.bool _) .nil)))) (reads_list_at (N.get mb) rfl rfl (.cons (.bool _) (.cons (.bool _) (.cons (.bool _) .nil)))) sh sh hu ?_
  rw [e]
  exact h

theorem lead_mem {P : Params} {nl : List (Addr × Obj)} {o : Addr} {st : WS} (h : LeadIn P nl o st) : ∃ (dx T1 : Addr) (x : Str) (t k1 k2 k3 k4 k5 tn tt : Tok) (bs : Bool), (o, instObj 191 dx) ∈ nl ∧
    (dx, dictOf [⟨PyData.keyHash P (Str.ofString "raw"), .str (Str.ofString "raw") k1, .str x t⟩, ⟨PyData.keyHash P (Str.ofString "n"), .str (Str.ofString "n") k2, .int (st.n : Int) tn⟩,
      ⟨PyData.keyHash P (Str.ofString "nt"), .str (Str.ofString "nt") k3, .int (st.nt : Int) tt⟩, ⟨PyData.keyHash P (Str.ofString "norm"), .str (Str.ofString "norm") k4, .ref T1⟩, ⟨PyData.keyHash P (Str.ofString "is_simple"), .str (Str.ofString "is_simple") k5, .bool bs⟩] 5) ∈ nl := by
  obtain ⟨dx, T1, T2, vs, x, t, k1, k2, k3, k4, k5, tn, tt, tb, bs, rfl, hi, hbs⟩ := h
  exact ⟨dx, T1, x, t, k1, k2, k3, k4, k5, tn, tt, bs, .head _, .tail _ (.head _)⟩

def P7 (w : World) (m₃ : Str → Option Value) (lt : Addr) (nw : List (Addr × Obj)) (ts : List Str) (x : Str) (m : Str → Option Value) (nx : List (Addr × Obj)) : Prop :=
  ∃ (c1 c2 c3 : Option Value) (vs : List Value) (nn : Nat) (tp : Tok) (o : Addr) (nl : List (Addr × Obj)), m = (fun y => if y = Str.ofString "lead" then some (.ref o) else if y = Str.ofString "plain" then some (.str x tp) else if y = Str.ofString "path" then c1 else if y = Str.ofString "place" then c2 else if y = Str.ofString "text" then c3 else m₃ y) ∧
    StrsAre vs ts ∧ LeadIn w.params nl o (wsFold (leadS x)) ∧ nx = nl ++ (lt, listOf vs.toArray nn) :: nw ∧ (∀ q ∈ nl, ∀ p ∈ (lt, listOf vs.toArray nn) :: nw, p.1 ≠ q.1)

def LdJ (m₃ : Str → Option Value) (base : List (Addr × Obj)) (i : Nat) (m : Str → Option Value) (nx : List (Addr × Obj)) : Prop :=
  ∃ (c1 c2 c3 : Option Value), m = (fun y => if y = Str.ofString "text" then c1 else if y = Str.ofString "other" then c2 else if y = Str.ofString "told" then c3 else m₃ y) ∧ nx = base

def P6 (m₃ : Str → Option Value) (lt : Addr) (nw : List (Addr × Obj)) (ts : List Str) (x : Str) (m : Str → Option Value) (nx : List (Addr × Obj)) : Prop :=
  ∃ (c1 c2 c3 : Option Value) (vs : List Value) (nn : Nat) (tp : Tok), m = (fun y => if y = Str.ofString "plain" then some (.str (normS x) tp) else if y = Str.ofString "path" then c1 else if y = Str.ofString "place" then c2 else if y = Str.ofString "text" then c3 else m₃ y) ∧
    StrsAre vs ts ∧ nx = (lt, listOf vs.toArray nn) :: nw

local macro_rules | `(tactic| k_all) => `(tactic| assumption)
local macro_rules | `(tactic| k_mem) => `(tactic| assumption)
theorem law_rest {w : World} {s₁ : Shared} {Q : Flow → Shared → Prop} {E : Value → Shared → Prop} {mg mb : Str → Option Value} {loose : List Str} {mean : ExcName → Option Value} {l L fa lw : Addr} {h₁ : Heap} {tk₁ : Nat} {cd : Value} {root : Str} {tr : Tok} {c' : Option Value} {nw : List (Addr × Obj)} {ps : List Str}
    {name qual : Str} {params : Arguments} {body : List Stmt} {scope : Scope} {dV kV doc pm cdv ct occ : Value} {an od : Option Addr} {osl : Array (Option Value)}
    (ho : (Mine.kd.heap_1 w.params).lookup 219 = some ⟨occ, od, .func (fnOf name qual params body scope dV kV doc pm an cdv ct), osl⟩)
    (X : (Mine.kd.heap_1 w.params).In s₁.heap) (T : Top Mine.hd.view_39 loose mean mg mb s₁.heap)
    (F : Fr s₁.heap L h₁ (fun y => if y = Str.ofString "k" then c' else if y = Str.ofString "ways" then some (.ref lw) else if y = Str.ofString "root" then some (.str root tr) else if y = Str.ofString "script" then some (.ref l) else none)) (N : News s₁.heap L h₁ nw)
    (hW : WaysIn nw lw (waysOf root ps)) (hroot : Root root) (hpl : ps.length = 5) (hps : ∀ p ∈ ps, IsPiece p)
    (hP : ∀ W' wl, waysOf root ps = W' ++ [wl] → PlainLaw (textsS (W' ++ [wl]) wl.2) (normS wl.1))
    (hQ : ∀ h tk, s₁.heap.StaysIn h → Q (.ret (.bool true)) { s₁ with heap := h, toks := tk }) :
    wpAny (model PySem.Challenge.rw_pd0083_01.row.prog w) ⟨none, 500, none, none, 5000⟩ (execs (body.drop 3) (envOfC qual scope L fa cd)) Q E { s₁ with heap := h₁, toks := tk₁ } := by
  k_with_none
  k_with "execs cons" => (with_reducible refine gen_tok ?_; intro _)
  k_with "exec For Name Name cons nil" => (k_here; k_dflt (refine wpAny_For ?_ (by intro _; rfl)))
  k_with "exec For Tuple Name cons nil" => (k_here; k_dflt (refine wpAny_For ?_ (by intro _; rfl)))
  k_with "subscriptTail" => (k_here; (with_reducible show wpAny _ _ (subscriptTail _ _ (Value.ref _) (Value.int (-1) _)) _ _ _); k_dflt (refine' last_led (by k_asm) (by k_mem) ?_; k_whole))
  k_with "subscriptTail" => (k_here; (with_reducible show wpAny _ _ (subscriptTail _ _ (Value.ref _) (Value.int 1 _)) _ _ _); k_dflt (refine' kim_tup (j := 1) (by k_asm) (by k_mem) (by exact rfl) (by exact rfl) (by decide) (by decide) (by rfl) (by rfl) ?_; k_whole))
  k_with "subscriptTail" => (k_here; (with_reducible show wpAny _ _ (subscriptTail _ _ (Value.ref _) (Value.int 0 _)) _ _ _); k_dflt (refine' kim_tup (j := 0) (by k_asm) (by k_mem) (by exact rfl) (by exact rfl) (by decide) (by decide) (by rfl) (by rfl) ?_; k_whole))
  k_with "compareOp Eq ref ref" => (k_here; k_dflt (refine' eq_strs (by k_asm) (by k_mem) (by assumption) (by assumption) (by k_mem) (by assumption) (by assumption) (by exact Nat.le_of_ble_eq_true rfl) ?_; k_whole))
  k_with "compareOp NotIn str ref" => (k_here; k_dflt (refine' notin_strs (by k_asm) (by k_mem) (by assumption) ?_; k_whole))
  k_with "call builtin:list.append" => (k_here; k_dflt (refine' append_led (by k_asm) (by k_asm) (by k_upd) (by (simp only [List.length_append, List.length_cons, List.length_nil]; omega)) ?_; k_whole); intro _ _ _; (try dsimp only); (try k_sweep))
  k_with "call ref" => (k_here; (with_reducible show wpAny _ _ (call (Value.ref 129) _) _ _ _); k_dflt (refine' normpath_f (by assumption) (by assumption) (by assumption) (by assumption) (by rfl) (by exact Nat.le_of_ble_eq_true rfl) (by exact Nat.le_of_ble_eq_true rfl) (by omega) ?_); intro _ _ _ _ _; (try dsimp only); (try k_sweep))
  k_with "call ref" => (k_here; (with_reducible show wpAny _ _ (call (Value.ref 214) _) _ _ _); k_dflt (refine' lead_f (by assumption) (by assumption) (by assumption) (by assumption) (by rfl) (by exact Nat.le_of_ble_eq_true rfl) (by exact Nat.le_of_ble_eq_true rfl) (by omega) ?_); intro _ _ _ _ _ _ _ _; (try dsimp only); (try k_sweep))
  k_with "call ref" => (k_here; (with_reducible show wpAny _ _ (call (Value.ref 181) _) _ _ _); k_dflt (refine' less_f (by assumption) (by assumption) (by assumption) (by assumption) (by rfl) (by exact Nat.le_of_ble_eq_true rfl) (by exact Nat.le_of_ble_eq_true rfl) (by assumption) (by assumption) (by assumption) (by assumption) (by assumption) (by assumption) (by assumption) (by assumption) (by assumption) ?_); intro _ _ _ _; (try dsimp only); (try k_sweep))
  k_with "call ref" => (k_here; (with_reducible show wpAny _ _ (call (Value.ref 167) _) _ _ _); k_dflt (refine' equal_f (by assumption) (by assumption) (by assumption) (by assumption) (by rfl) (by exact Nat.le_of_ble_eq_true rfl) (by exact Nat.le_of_ble_eq_true rfl) (by assumption) (by assumption) (by assumption) (by assumption) ?_); intro _ _ _ _; (try dsimp only); (try k_sweep))
  k_with "compareOp NotEq ref ref" => (k_here; k_dflt (refine' ne_bools (by k_asm) (by k_mem) (by k_mem) (by exact Nat.le_of_ble_eq_true rfl) (by assumption) (by assumption) (by assumption) ?_; k_whole))
  k_with "compareOp In str ref" => (k_here; k_dflt (refine' in_strs (by k_asm) (by k_mem) (by assumption) ?_; k_whole))
  revert X ho
  k_fill
  intro ho X
  refine' lookup_elim ho ?le ?_
  (case le => k_is)
  intro ho'
  injection ho' with _ _ ho' _
  injection ho' with ho'
  injection ho' with _ e1 _ e2 e3
  injection e2 with e2
  subst e1
  subst e2
  subst e3
  clear ho
  simp only [List.drop]
  have hrl := root_len hroot
  obtain ⟨hwb, hwl⟩ := ways_bound hrl ps hps
  have hok := ways_ok (root := root) ps hps
  obtain ⟨ws, nl, hwm, hwd⟩ := hW
  generalize hWd : waysOf root ps = W at *
  refine cutS (s₁ := s₁) (h₀ := s₁.heap) (L := L) (fun m nx => ∃ lt, m = (fun y => if y = Str.ofString "texts" then some (.ref lt) else if y = Str.ofString "k" then c' else if y = Str.ofString "ways" then some (.ref lw) else if y = Str.ofString "root" then some (.str root tr) else if y = Str.ofString "script" then some (.ref l) else none) ∧ nx = (lt, listOf #[] 0) :: nw ∧ ∀ p ∈ nw, p.1 ≠ lt) ?lawA ?lawB
  case lawA =>
    k_steps
    rename ∀ p, p ∈ nw → _ => l9
    exact LawSt.of rfl (by assumption) (by assumption) (fun _ h => h) ⟨_, rfl, rfl, fun p hp => Nat.ne_of_lt (l9 p hp)⟩
  case lawB =>
  clear F N
  rintro h tk m nx F N ⟨lt, rfl, rfl, hlt⟩
  have hWne : W ≠ [] := by intro e; rw [e] at hwl; rw [hpl] at hwl; cases hwl
  obtain ⟨W', wl, rfl⟩ : ∃ W' wl, W = W' ++ [wl] := by
    rcases List.eq_nil_or_concat W with e | ⟨a, b, e⟩
    · exact absurd e hWne
    · exact ⟨a, b, by rw [e, List.concat_eq_append]⟩
  rw [List.map_append] at hwd
  obtain ⟨us, vl, rfl, hlast⟩ : ∃ us vl, ws = us ++ [vl] ∧ DatIn nw vl (wayD wl) := by
    rcases List.eq_nil_or_concat ws with e | ⟨a, b, e⟩
    · rw [e] at hwd; have := hwd.length; simp at this
    · rw [List.concat_eq_append] at e
      subst e
      obtain ⟨es, d, he, _, hd⟩ := hwd.snoc
      have h1 := List.append_inj_right' (s₁ := W'.map wayD) (t₁ := [wayD wl]) he rfl
      cases h1
      exact ⟨a, b, rfl, hd⟩
  obtain ⟨tl, n9, tx9, al, ul, k9, rfl, htl, hal, hul⟩ := way_open hlast
  have hokl : ∀ y ∈ wl.2, PyData.strOk y = true := hok wl (List.mem_append_right _ (.head _))
  have hwsl : (us ++ [Value.ref tl]).length = (W' ++ [wl]).length := by rw [hwd.length, ← List.map_append, List.length_map]
  have hwsz : (W' ++ [wl]).length = 32 := by rw [hwl, hpl]
  refine cutS (s₁ := s₁) (h₀ := s₁.heap) (L := L) (TxJ (fun y => if y = Str.ofString "texts" then some (.ref lt) else if y = Str.ofString "k" then c' else if y = Str.ofString "ways" then some (.ref lw) else if y = Str.ofString "root" then some (.str root tr) else if y = Str.ofString "script" then some (.ref l) else none) lt nw (W' ++ [wl]) wl.2 32) ?lawA ?lawB
  case lawA =>
    k_steps
    refine loop_list rfl (by assumption) (by assumption) (.tail _ hwm) rfl rfl (TxJ (fun y => if y = Str.ofString "texts" then some (.ref lt) else if y = Str.ofString "k" then c' else if y = Str.ofString "ways" then some (.ref lw) else if y = Str.ofString "root" then some (.str root tr) else if y = Str.ofString "script" then some (.ref l) else none) lt nw (W' ++ [wl]) wl.2) ?j0 ?jg ?jt ?jd
    case j0 =>
      refine ⟨none, none, none, [], 0, [], ?_, .nil, by simp, rfl⟩
      funext y
      by_cases e1 : y = Str.ofString "path"
      · subst e1; rfl
      by_cases e2 : y = Str.ofString "place"
      · subst e2; rfl
      by_cases e3 : y = Str.ofString "text"
      · subst e3; rfl
      rw [if_neg e1, if_neg e2, if_neg e3]
    case jd =>
      intro h' tk m' nx _ hJ F' N'
      rw [hwsl, hwsz] at hJ
      exact ⟨rfl, h', tk, m', nx, rfl, F', N', hJ⟩
    case jg =>
      intro I i v s Q E hv hit hq
      have hi : i < ((W' ++ [wl]).map wayD).length := by
        rw [List.length_map, ← hwsl]; exact (List.getElem?_eq_some_iff.mp hv).1
      rw [← List.map_append] at hwd
      obtain ⟨v', hv', hd⟩ := hwd.get hi
      rw [hv] at hv'
      cases hv'
      rw [List.getElem_map] at hd
      obtain ⟨t, _, _, _, _, _, rfl, _⟩ := way_open hd
      exact wpAny_letOwnedTupleGo_listiter hit hq
    case jt =>
      rintro i v m₁ nx hp tk I oI hv _ ⟨c1, c2, c3, vs, nn, ts, rfl, hts, htse, rfl⟩ hI F N
      have hi : i < (W' ++ [wl]).length := by
        rw [← hwsl]; exact (List.getElem?_eq_some_iff.mp hv).1
      rw [← List.map_append] at hwd
      obtain ⟨v', hv', hd⟩ := hwd.get (by rw [List.length_map]; exact hi)
      rw [hv] at hv'
      cases hv'
      rw [List.getElem_map] at hd
      generalize hx : (W' ++ [wl])[i] = x at *
      have hxm : x ∈ W' ++ [wl] := by rw [← hx]; exact List.getElem_mem _
      have hxl := (hwb x hxm).1
      have hokx := hok x hxm
      obtain ⟨t, n1, tx, a, ua, k1, rfl, ht, ha, hua⟩ := way_open hd
      have hT : IsTup hp t ([.str x.1 tx, .ref a] : List Value).toArray := ⟨_, (N _ (.tail _ (.tail _ ht))).1, rfl, n1, rfl⟩
      have hcst : ∀ p ∈ [(lw, listOf (us ++ [Value.ref tl]).toArray nl)], p ∈ nw := by
        intro p hp; rcases List.mem_singleton.mp hp with rfl; exact hwm
      have hI' := allNe_of hI
      simp only [AllNe] at hI'
      have htl2 : vs.length ≤ 32 := by
        rw [hts.length, htse]
        refine Nat.le_trans (texts_len _ _ []) ?_
        rw [List.length_take, hwsz]
        simp only [List.length_nil]
        omega
      k_steps
      all_goals rename Fr _ _ _ (fun y => if y = Str.ofString "text" then some _ else _) => F9
      all_goals rename News _ _ _ _ => N9
      · rename (x.1.length : Int) ≠ 0 => e0
        exact txj_end rfl hi hx htse (addText_in (textOf_pos e0) (by assumption) (by assumption)) hts F9 N9 hcst (fun p hp => hI p (.tail _ hp)) hI'.1
      · rename (x.1.length : Int) ≠ 0 => e0
        rw [List.push_toArray] at N9
        exact txj_end rfl hi hx htse (addText_new (textOf_pos e0) (by assumption) (by assumption)) (StrsAre.append' hts (.cons _ _ .nil)) F9 N9 hcst (fun p hp => hI p (.tail _ hp)) hI'.1
      · exact txj_end rfl hi hx htse (addText_off (by assumption)) hts F9 N9 hcst (fun p hp => hI p (.tail _ hp)) hI'.1
      · rename (x.1.length : Int) = 0 => e0
        exact txj_end rfl hi hx htse (addText_in (textOf_zero e0) (by assumption) (by assumption)) hts F9 N9 hcst (fun p hp => hI p (.tail _ hp)) hI'.1
      · rename (x.1.length : Int) = 0 => e0
        rw [List.push_toArray] at N9
        exact txj_end rfl hi hx htse (addText_new (textOf_zero e0) (by assumption) (by assumption)) (StrsAre.append' hts (.cons _ _ .nil)) F9 N9 hcst (fun p hp => hI p (.tail _ hp)) hI'.1
      · exact txj_end rfl hi hx htse (addText_off (by assumption)) hts F9 N9 hcst (fun p hp => hI p (.tail _ hp)) hI'.1
  case lawB =>
  clear F N
  rintro h tk m nx F N ⟨c1, c2, c3, vs, nn, ts, rfl, hts, htse, rfl⟩
  rw [show (W' ++ [wl]).take 32 = W' ++ [wl] from by rw [← hwsz, List.take_length]] at htse
  have hwll := (hwb wl (List.mem_append_right _ (.head _))).1
  refine cutS (s₁ := s₁) (h₀ := s₁.heap) (L := L) (P6 (fun y => if y = Str.ofString "texts" then some (.ref lt) else if y = Str.ofString "k" then c' else if y = Str.ofString "ways" then some (.ref lw) else if y = Str.ofString "root" then some (.str root tr) else if y = Str.ofString "script" then some (.ref l) else none) lt nw ts wl.1) ?lawA ?lawB
  case lawA =>
    k_steps
    rename Fr _ _ _ (fun y => if y = Str.ofString "plain" then some _ else _) => F9
    exact LawSt.of rfl F9 (by assumption) (fun _ h => h) ⟨c1, c2, c3, vs, nn, _, rfl, hts, rfl⟩
  case lawB =>
  clear F N c1 c2 c3 hts vs nn
  have hPL := hP W' wl rfl
  rw [show textsS (W' ++ [wl]) wl.2 = ts from htse.symm] at hPL
  clear hP
  obtain ⟨hpl1, hpin, hall⟩ := hPL
  generalize hplain : normS wl.1 = plain at *
  rintro h tk m nx F N ⟨c1, c2, c3, vs, nn, tp, rfl, hts, rfl⟩
  simp only [hplain] at F
  refine cutS (s₁ := s₁) (h₀ := s₁.heap) (L := L) (P7 w (fun y => if y = Str.ofString "texts" then some (.ref lt) else if y = Str.ofString "k" then c' else if y = Str.ofString "ways" then some (.ref lw) else if y = Str.ofString "root" then some (.str root tr) else if y = Str.ofString "script" then some (.ref l) else none) lt nw ts plain) ?lawA ?lawB
  case lawA =>
    k_steps
    rename Fr _ _ _ (fun y => if y = Str.ofString "lead" then some _ else _) => F9
    exact LawSt.of rfl F9 (by assumption) (fun _ h => h) ⟨c1, c2, c3, vs, nn, _, _, _, rfl, hts, by assumption, rfl, by assumption⟩
  case lawB =>
  clear F N c1 c2 c3 hts vs nn tp
  rintro h tk m nx F N ⟨c1, c2, c3, vs, nn, tp, o, nl, rfl, hts, hld, rfl, hfr⟩
  obtain ⟨base, hbase⟩ : ∃ base, base = nl ++ (lt, listOf vs.toArray nn) :: nw := ⟨_, rfl⟩
  have hnb : ∀ p ∈ nl, p ∈ base := fun p hp => by rw [hbase]; exact List.mem_append_left _ hp
  have hltb : (lt, listOf vs.toArray nn) ∈ base := by rw [hbase]; exact List.mem_append_right _ (.head _)
  rw [← hbase] at N
  k_steps
  refine loop_list rfl (by assumption) (by assumption) hltb rfl rfl (LdJ (fun y => if y = Str.ofString "lead" then some (.ref o) else if y = Str.ofString "plain" then some (.str plain tp) else if y = Str.ofString "path" then c1 else if y = Str.ofString "place" then c2 else if y = Str.ofString "text" then c3 else if y = Str.ofString "texts" then some (.ref lt) else if y = Str.ofString "k" then c' else if y = Str.ofString "ways" then some (.ref lw) else if y = Str.ofString "root" then some (.str root tr) else if y = Str.ofString "script" then some (.ref l) else none) base) ?j0 (fun _ _ _ _ _ _ _ _ hq => go_name hq) ?jt ?jd
  case j0 =>
    refine ⟨c3, none, none, ?_, rfl⟩
    funext y
    by_cases e1 : y = Str.ofString "text"
    · subst e1; rfl
    by_cases e2 : y = Str.ofString "other"
    · subst e2; rfl
    by_cases e3 : y = Str.ofString "told"
    · subst e3; rfl
    simp only [e1, e2, e3, if_false]
  case jd =>
    rintro h' tk' m' nx _ ⟨d1, d2, d3, rfl, rfl⟩ F N
    show wpAny _ _ (execs _ _) _ _ _
    k_steps
    have e : (ts.any fun x => x == plain) = true := List.any_eq_true.mpr ⟨plain, hpin, by simp⟩
    show Q (Flow.ret (Value.bool (ts.any fun x => x == plain))) _
    rw [e]
    exact hQ _ _ (Fr.keep (by assumption))
  case jt =>
    rintro i v m₁ nx hp tk I oI hv _ ⟨d1, d2, d3, rfl, rfl⟩ hI F N
    obtain ⟨x, tx, rfl, hxi⟩ := StrsAre.item hts _ _ hv
    have hxm : x ∈ ts := List.mem_of_getElem? hxi
    obtain ⟨hxl, hxn, hxp⟩ := hall x hxm
    refine cutT (s₁ := s₁) (h₀ := s₁.heap) (L := L) (fun m nx' => m = (fun y => if y = Str.ofString "text" then some (.str x tx) else if y = Str.ofString "text" then d1 else if y = Str.ofString "other" then d2 else if y = Str.ofString "told" then d3 else if y = Str.ofString "lead" then some (.ref o) else if y = Str.ofString "plain" then some (.str plain tp) else if y = Str.ofString "path" then c1 else if y = Str.ofString "place" then c2 else if y = Str.ofString "text" then c3 else if y = Str.ofString "texts" then some (.ref lt) else if y = Str.ofString "k" then c' else if y = Str.ofString "ways" then some (.ref lw) else if y = Str.ofString "root" then some (.str root tr) else if y = Str.ofString "script" then some (.ref l) else none) ∧ nx' = (I, oI) :: nx) ?lawA ?lawB
    case lawA =>
      k_steps
      rename Fr _ _ _ (fun y => if y = Str.ofString "text" then some _ else _) => F9
      exact LawSt.of rfl F9 (by assumption) (fun _ h => h) ⟨rfl, rfl⟩
    case lawB =>
    clear F N
    rintro h2 tk2 m2 nx2 F N ⟨rfl, rfl⟩
    refine cutS (s₁ := s₁) (h₀ := s₁.heap) (L := L) (fun m nx' => ∃ o9 nl9, m = (fun y => if y = Str.ofString "other" then some (.ref o9) else if y = Str.ofString "text" then some (.str x tx) else if y = Str.ofString "text" then d1 else if y = Str.ofString "other" then d2 else if y = Str.ofString "told" then d3 else if y = Str.ofString "lead" then some (.ref o) else if y = Str.ofString "plain" then some (.str plain tp) else if y = Str.ofString "path" then c1 else if y = Str.ofString "place" then c2 else if y = Str.ofString "text" then c3 else if y = Str.ofString "texts" then some (.ref lt) else if y = Str.ofString "k" then c' else if y = Str.ofString "ways" then some (.ref lw) else if y = Str.ofString "root" then some (.str root tr) else if y = Str.ofString "script" then some (.ref l) else none) ∧ LeadIn w.params nl9 o9 (wsFold (leadS x)) ∧ nx' = nl9 ++ (I, oI) :: nx) ?lawA ?lawB
    case lawA =>
      k_steps
      rename Fr _ _ _ (fun y => if y = Str.ofString "other" then some _ else _) => F9
      exact LawSt.of rfl F9 (by assumption) (fun _ h => h) ⟨_, _, rfl, by assumption, rfl⟩
    case lawB =>
    clear F N
    rintro h3 tk3 m3 nx3 F N ⟨o9, nl9, rfl, hl9, hB⟩
    have hs1 : ∀ p ∈ nl, p ∈ nx3 := fun p hp => by rw [hB]; exact List.mem_append_right _ (.tail _ (hnb p hp))
    have hs2 : ∀ p ∈ nl9, p ∈ nx3 := fun p hp => by rw [hB]; exact List.mem_append_left _ hp
    have hs3 : ∀ p ∈ (I, oI) :: nx, p ∈ nx3 := fun p hp => by rw [hB]; exact List.mem_append_right _ hp
    obtain ⟨dx, T1, xr, tr1, q1, q2, q3, q4, q5, tn1, tt1, bs1, mo, md⟩ := lead_mem hld
    obtain ⟨dx9, T19, xr9, tr9, r1, r2, r3, r4, r5, tn9, tt9, bs9, mo9, md9⟩ := lead_mem hl9
    replace mo := hs1 _ mo
    replace md := hs1 _ md
    replace mo9 := hs2 _ mo9
    replace md9 := hs2 _ md9
    obtain ⟨hb1, hc1⟩ := lead_bound hpl1
    obtain ⟨hb2, hc2⟩ := lead_bound hxl
    clear hB
    have hless1 : (wsFold (leadS plain)).n < (wsFold (leadS x)).n → (wsFold (leadS plain)).nt ≤ (wsFold (leadS x)).nt ∧ ∀ ts : Int, 2 ≤ ts → ts ≤ 1002 → lvlS (wsFold (leadS plain)) ts < lvlS (wsFold (leadS x)) ts := by
      intro hlt
      by_cases e : x = plain
      · rw [e] at hlt; omega
      · exact ⟨(hxp e).2.1, (hxp e).2.2.1⟩
    have hless2 : (wsFold (leadS x)).n < (wsFold (leadS plain)).n → (wsFold (leadS x)).nt ≤ (wsFold (leadS plain)).nt ∧ ∀ ts : Int, 2 ≤ ts → ts ≤ 1002 → lvlS (wsFold (leadS x)) ts < lvlS (wsFold (leadS plain)) ts := by
      intro hlt
      by_cases e : x = plain
      · rw [e] at hlt; omega
      · have := (hxp e).1; omega
    refine cutS (s₁ := s₁) (h₀ := s₁.heap) (L := L) (fun m nx' => ∃ D9, m = (fun y => if y = Str.ofString "told" then some (.ref D9) else if y = Str.ofString "other" then some (.ref o9) else if y = Str.ofString "text" then some (.str x tx) else if y = Str.ofString "text" then d1 else if y = Str.ofString "other" then d2 else if y = Str.ofString "told" then d3 else if y = Str.ofString "lead" then some (.ref o) else if y = Str.ofString "plain" then some (.str plain tp) else if y = Str.ofString "path" then c1 else if y = Str.ofString "place" then c2 else if y = Str.ofString "text" then c3 else if y = Str.ofString "texts" then some (.ref lt) else if y = Str.ofString "k" then c' else if y = Str.ofString "ways" then some (.ref lw) else if y = Str.ofString "root" then some (.str root tr) else if y = Str.ofString "script" then some (.ref l) else none) ∧ nx' = (D9, listOf ([.bool (decide ((wsFold (leadS plain)).n < (wsFold (leadS x)).n)), .bool (decide ((wsFold (leadS plain)).count = (wsFold (leadS x)).count) && (((wsFold (leadS plain)).b : Int) == ((wsFold (leadS x)).b : Int))), .bool (decide ((wsFold (leadS x)).n < (wsFold (leadS plain)).n))] : List Value).toArray 0) :: nx3) ?lawA ?lawB
    case lawA =>
      k_steps
      rename Fr _ _ _ (fun y => if y = Str.ofString "told" then some _ else _) => F9
      rename News _ _ _ _ => N9
      exact LawSt.of rfl F9 N9 (fun _ h => h) ⟨_, rfl, rfl⟩
    case lawB =>
    clear F N
    rintro h4 tk4 m4 nx4 F N ⟨D9, rfl, rfl⟩
    have he1 : decide ((wsFold (leadS plain)).n < (wsFold (leadS x)).n) = (x != plain) := by
      by_cases e : x = plain
      · rw [e, decide_eq_false (by omega)]; simp
      · rw [decide_eq_true (hxp e).1, bne_iff_ne.mpr e]
    have he2 : (decide ((wsFold (leadS plain)).count = (wsFold (leadS x)).count) && (((wsFold (leadS plain)).b : Int) == ((wsFold (leadS x)).b : Int))) = (x == plain) := by
      by_cases e : x = plain
      · rw [e]; simp
      · rw [beq_eq_false_iff_ne.mpr e]
        by_cases e2 : (wsFold (leadS plain)).count = (wsFold (leadS x)).count
        · have e3 : ¬ ((wsFold (leadS plain)).b : Int) = ((wsFold (leadS x)).b : Int) := fun h => (hxp e).2.2.2 ⟨e2, by omega⟩
          rw [beq_eq_false_iff_ne.mpr e3, Bool.and_false]
        · rw [decide_eq_false e2, Bool.false_and]
    have he3 : decide ((wsFold (leadS x)).n < (wsFold (leadS plain)).n) = false := by
      by_cases e : x = plain
      · rw [e]; exact decide_eq_false (by omega)
      · exact decide_eq_false (by have := (hxp e).1; omega)
    generalize decide ((wsFold (leadS plain)).n < (wsFold (leadS x)).n) = b1 at *
    generalize (decide ((wsFold (leadS plain)).count = (wsFold (leadS x)).count) && (((wsFold (leadS plain)).b : Int) == ((wsFold (leadS x)).b : Int))) = b2 at *
    generalize decide ((wsFold (leadS x)).n < (wsFold (leadS plain)).n) = b3 at *
    k_steps
    · exfalso
      rename (normS x != plain) = true => e9
      rw [hxn] at e9
      simp at e9
    · rename Fr _ _ _ (fun y => if y = Str.ofString "told" then some _ else _) => F9
      rename News _ _ _ _ => N9
      refine LPost.of (.inl rfl) F9 (nx' := nx) (fun p hp => N9 p (.tail _ (.tail _ (hs3 p hp)))) (fun p hp => by rw [List.mem_singleton.mp hp]; exact hltb) hI ⟨some (.str x tx), some (.ref o9), some (.ref D9), ?_, rfl⟩
      funext y
      by_cases e1 : y = Str.ofString "text"
      · subst e1; rfl
      by_cases e2 : y = Str.ofString "other"
      · subst e2; rfl
      by_cases e3 : y = Str.ofString "told"
      · subst e3; rfl
      simp only [e1, e2, e3, if_false]

open PySem PySem.W PyProof.Rows PySem.Calls PyProof.Rows.LCg

theorem law_body {w : World} {A : Around} {s₁ : Shared} {Q : Flow → Shared → Prop} {E : Value → Shared → Prop} {mg mb : Str → Option Value} {loose : List Str} {mean : ExcName → Option Value} {vs : List Value} {ns : List Int} {l L fa : Addr} {h₁ : Heap} {tk₁ : Nat} {oc : Obj} {cd : Value}
    {name qual : Str} {params : Arguments} {body : List Stmt} {scope : Scope} {dV kV doc pm cdv ct occ : Value} {an od : Option Addr} {osl : Array (Option Value)}
    (ho : (Mine.kd.heap_1 w.params).lookup 219 = some ⟨occ, od, .func (fnOf name qual params body scope dV kV doc pm an cdv ct), osl⟩)
    (X : (Mine.kd.heap_1 w.params).In s₁.heap) (T : Top Mine.hd.view_39 loose mean mg mb s₁.heap) (hh : A.handled = none) (hdp : A.depth ≤ 500) (hu : A.units ≤ 5000)
    (hL : s₁.heap.IsList l vs.toArray) (hI : IntsAre vs ns) (hlen : ns.length ≤ 63)
    (F : Fr s₁.heap L h₁ (fun y => if y = Str.ofString "script" then some (.ref l) else none)) (N0 : News s₁.heap L h₁ [(L + 1, oc)]) (hoc : oc.data = .cell none)
    (hP : ∀ root ps W' wl, Root root → ps.length = 5 → (∀ p ∈ ps, IsPiece p) → waysOf root ps = W' ++ [wl] → PlainLaw (textsS (W' ++ [wl]) wl.2) (normS wl.1))
    (hQ : ∀ h tk, s₁.heap.StaysIn h → Q (.ret (.bool true)) { s₁ with heap := h, toks := tk }) :
    wpAny (model PySem.Challenge.rw_pd0083_01.row.prog w) A (execs body (envOfC qual scope L fa cd)) Q E { s₁ with heap := h₁, toks := tk₁ } := by
  k_with_none
  k_with "execs cons" => (with_reducible refine gen_tok ?_; intro _)
  k_with "exec For Name Call cons nil" => (k_here; k_dflt (refine wpAny_For ?_ (by intro _; rfl)))
  k_with "mine_call" => ((case k1 => k_asm); (case k2 => k_asm); (case k3 => k_asm); (case k4 => k_asm); (case kh => exact rfl); (case kd => exact Nat.le_of_ble_eq_true rfl); (case ku => exact Nat.le_of_ble_eq_true rfl); k_whole)
  k_with "call ref" => (k_here; (with_reducible show wpAny _ _ (call (Value.ref 202) _) _ _ _); k_dflt (refine' piece_f (by k_asm) (by k_asm) (by k_asm) (by k_asm) (by exact rfl) (by exact Nat.le_of_ble_eq_true rfl) (by exact Nat.le_of_ble_eq_true rfl) ?_; k_whole); intro _ _ _ _ _ _ _; (try dsimp only); (try k_sweep))
  k_with "call builtin:sum" => (k_here; k_dflt (refine' sum_pick (by exact rfl) (by assumption) (by assumption) (by assumption) ?_); intro _ _ _ _ _ _; (try dsimp only); (try k_sweep))
  refine weaken ?_ hh hdp hu
  clear hh hdp hu A
  revert X ho
  k_fill
  intro ho X
  have ho9 := ho
  refine' lookup_elim ho ?le ?_
  (case le => k_is)
  intro ho'
  injection ho' with _ _ ho' _
  injection ho' with ho'
  injection ho' with _ e1 _ e2 e3
  injection e2 with e2
  subst e1
  subst e2
  subst e3
  clear ho
  refine cutS (s₁ := s₁) (h₀ := s₁.heap) (L := L) (fun m nx => ∃ root t, Root root ∧ m = (fun y => if y = Str.ofString "root" then some (.str root t) else if y = Str.ofString "script" then some (.ref l) else none) ∧ nx = [(L + 1, oc)]) ?lawA ?lawB
  case lawA =>
    k_steps
    exact LawSt.of rfl (by assumption) (by assumption) (fun _ h => h) ⟨_, _, rootcase _, rfl, rfl⟩
  case lawB =>
  rintro h tk m nx F N ⟨root, tr, hroot, rfl, rfl⟩
  have hrl := root_len hroot
  refine cutS (s₁ := s₁) (h₀ := s₁.heap) (L := L) (fun m nx => ∃ lw nw, m = (fun y => if y = Str.ofString "ways" then some (.ref lw) else if y = Str.ofString "root" then some (.str root tr) else if y = Str.ofString "script" then some (.ref l) else none) ∧ nx = (L + 1, oc) :: nw ∧ WaysIn nw lw [(root, place0 root)] ∧ ∀ p ∈ nw, p.1 ≠ L + 1) ?lawA ?lawB
  case lawA =>
    k_steps
    · refine' law2_end (us := []) rfl ?F ?N ?m0 ?m1 ?m2 ?m3 ?hs ?e1 ?e2 ?e3
      (case F => assumption)
      (case N => assumption)
      (case m0 => k_mem)
      (case m1 => k_mem)
      (case m2 => k_mem)
      (case m3 => k_mem)
      (case hs => unfold place0; simp only [*, if_false]; exact .nil)
      all_goals omega
    · refine' law2_end rfl ?F ?N ?m0 ?m1 ?m2 ?m3 ?hs ?q1 ?q2 ?q3
      (case F => assumption)
      (case N => assumption)
      (case m0 => k_mem)
      (case m1 => k_mem)
      (case m2 => k_mem)
      (case m3 => k_mem)
      (case hs => unfold place0; simp only [*, if_true]; exact .cons _ _ (.cons _ _ (.cons _ _ (.cons _ _ (.cons _ _ .nil)))))
      all_goals omega
  case lawB =>
  rintro h tk m nx F N ⟨lw, nw, rfl, rfl, hW, hoff⟩
  refine cutS (s₁ := s₁) (h₀ := s₁.heap) (L := L) (LawJ L l root tr 5) ?lawA ?lawB
  case lawA =>
    k_steps
    refine loop_range (n := 5) rfl (by assumption) (by assumption) (by assumption) (small_range (by omega) (by omega) (by omega) (by omega)) (by rfl) (LawJ L l root tr) ?j0 (fun _ _ _ _ _ hq => go_name hq) ?jt ?jd
    case j0 =>
      refine ⟨lw, nw, oc, none, none, [], rfl, fun p hp => (nomatch hp), ?_, rfl, hoc, hW, hoff⟩
      funext y
      by_cases e1 : y = Str.ofString "k"
      · subst e1; rfl
      · rw [if_neg e1]
    case jd =>
      intro h' tk m' nx hJ F' N'
      exact ⟨rfl, h', tk, m', nx, rfl, F', N', hJ⟩
    case jt =>
      rintro i k m₁ nx hp tk I oI hin ⟨lw', nw', oc', c', cell', ps, hpl, hps, rfl, rfl, hcell, hW', hoff'⟩ hI F N
      have hI' := allNe_of hI
      simp only [AllNe] at hI'
      obtain ⟨hwb, hwl⟩ := ways_bound hrl ps hps
      obtain ⟨ws, nl, hwm, hwd⟩ := hW'
      k_steps
      rename IsPiece _ => hp9
      rename News _ _ _ _ => N9
      rename Fr _ _ _ (fun y => if y = Str.ofString "k" then some _ else _) => F9
      rename Obj.data _ = Data.cell (some (Value.str _ _)) => hc9
      have hwsl : ws.length = (waysOf root ps).length := by rw [hwd.length, List.length_map]
      have hwsz : ws.length ≤ 32 := by
        rw [hwsl, hwl, hpl]
        exact Nat.le_trans (Nat.pow_le_pow_right (by omega) (show i ≤ 5 by omega)) (by decide)
      refine LCp.ListComp_P (F₀ := F9) (cl := [(Str.ofString "piece", L + 1)]) (by with_unfolding_all rfl) (by decide) (by rfl) (by decide) (by rfl) (by rfl) (by decide) ?_
      walk1
      rename_i p9 t9 _ _ o9
      have N10 : News s₁.heap L _ ((I, oI) :: (L + 1, o9) :: nw') := fun q hq => N9 q (.tail _ hq)
      refine LCp.SrcLP.ledger (k := nl) rfl F9 N10 (.tail _ (.tail _ hwm)) (by rw [List.size_toArray, sizeLine_eq]; omega) ?_
      intro g
      refine comp_rest (news0 := (I, oI) :: (L + 1, o9) :: nw') (nwb := nw') (W := waysOf root ps) (vs := ws) X T (fun q hq => .tail _ (.tail _ hq)) hwd (.tail _ (.head _)) hc9 (Nat.le_trans (piece_len hp9) (by omega)) ?hb ?hS ?hFin _ 0 [] [] ?he .nil (fun q hq => nomatch hq)
      case hb => intro x hx; have := hwb x hx; omega
      case hS => intro nw2 hs; exact .inr ⟨_, hs _ (.tail _ (.tail _ hwm)), rfl, _, rfl⟩
      case he => simp
      case hFin =>
        intro ys add hd hadd D hh tk2 F11 N11 off
        have hysl : ys.length = (waysOf root ps).length := by rw [hd.length, List.length_map]
        show wpAny _ _ (binaryOp _ (.ref lw') (.ref D)) _ _ _
        refine add_lists F11 N11 (vs := ws) (ws := ys) ⟨_, (N11 _ (.tail _ (List.mem_append_right _ (.tail _ (.tail _ hwm))))).1, rfl, nl, rfl⟩ ⟨_, (N11 _ (.head _)).1, rfl, _, rfl⟩ ?_ (by rw [sizeLine_eq]; omega)
        intro h12 F12 N12
        have hEL : L + 1 < hh.objs.size := Heap.lt_size (N11 _ (.tail _ (List.mem_append_right _ (.tail _ (.head _))))).1
        have hEI : I < hh.objs.size := Heap.lt_size (N11 _ (.tail _ (List.mem_append_right _ (.head _)))).1
        k_steps
        refine' lawJ_end (add := add) (nw := nw') (zs := ws ++ ys) (n := 0) rfl hpl hps hp9 ?F ?N ?m1 ?m2 ?m3 ?m4 hc9 ?hd ?o1 ?o2 hI'.1
        (case F => assumption)
        (case N => assumption)
        (case m1 => exact .tail _ (.tail _ (List.mem_append_right _ (.head _))))
        (case m2 => exact .tail _ (.tail _ (List.mem_append_right _ (.tail _ (.head _)))))
        (case m3 => exact .head _)
        case m4 =>
          intro q hq
          rcases List.mem_append.mp hq with hq | hq
          · exact .tail _ (.tail _ (List.mem_append_left _ hq))
          · exact .tail _ (.tail _ (List.mem_append_right _ (.tail _ (.tail _ hq))))
        case hd =>
          rw [waysOf_snoc, List.map_append, List.map_map]
          exact DatAll.append (hwd.mono fun q hq => .tail _ (List.mem_append_right _ hq)) (hd.mono fun q hq => .tail _ hq)
        case o1 =>
          intro q hq
          rcases List.mem_cons.mp hq with rfl | hq
          · exact Nat.ne_of_gt hEL
          rcases List.mem_append.mp hq with hq | hq
          · exact Ne.symm (hadd q hq (L + 1, o9) (.tail _ (.head _)))
          · exact hoff' q hq
        case o2 =>
          intro q hq
          rcases List.mem_cons.mp hq with rfl | hq
          · exact Nat.ne_of_gt hEI
          rcases List.mem_append.mp hq with hq | hq
          · exact Ne.symm (hadd q hq (I, oI) (.head _))
          · exact hI q (.tail _ hq)
  case lawB =>
  rintro h tk m nx F N ⟨lw', nw', oc', c', cell', ps, hpl, hps, rfl, rfl, hcell, hW', hoff'⟩
  exact law_rest ho9 X T F (fun p hp => N p (.tail _ hp)) hW' hroot hpl hps (fun W' wl e => hP root ps W' wl hroot hpl hps e) hQ
end Mine
end

section
open PySem PySem.W PyProof.Rows PySem.Calls
set_option maxRecDepth 100000
set_option maxHeartbeats 8000000
set_option linter.all false
set_option rowWalk.seconds 0
namespace Mine
theorem ws_n : ∀ (l : List Nat) (st : WS), (l.foldl wsStep st).n = st.n + l.length
  | [], st => rfl
  | a :: l, st => by
    rw [List.foldl_cons, ws_n l, List.length_cons]
    unfold wsStep
    split <;> (simp only []; omega)
theorem ws_nt : ∀ (l : List Nat) (st : WS), (l.foldl wsStep st).nt = st.nt + (l.filter (fun c => decide (c ≠ 32))).length
  | [], st => rfl
  | a :: l, st => by
    rw [List.foldl_cons, ws_nt l]
    unfold wsStep
    by_cases h : a = 32
    · rw [if_pos h, List.filter_cons_of_neg (by simp [h])]
    · rw [if_neg h, List.filter_cons_of_pos (by simp [h]), List.length_cons]; simp only []; omega
end Mine
end

section
open PySem PySem.W PyProof.Rows PySem.Calls
set_option maxRecDepth 100000
set_option maxHeartbeats 8000000
set_option linter.all false
set_option rowWalk.seconds 0
namespace Mine

/-- the parts between the slashes -/
def sp : List Nat → List (List Nat)
  | [] => [[]]
  | c :: r => if c = 47 then [] :: sp r else match sp r with | [] => [[c]] | p :: q => (c :: p) :: q
def jn : List (List Nat) → List Nat
  | [] => []
  | [x] => x
  | x :: y :: r => x ++ 47 :: jn (y :: r)

theorem sp_ne (l : List Nat) : sp l ≠ [] := by
  cases l with
  | nil => simp [sp]
  | cons c r => unfold sp; split; · simp
                split <;> simp
theorem sp_app : ∀ (a b : List Nat), sp (a ++ 47 :: b) = sp a ++ sp b
  | [], b => by simp [sp]
  | c :: a, b => by
    rw [List.cons_append]
    have e1 : sp (c :: (a ++ 47 :: b)) = if c = 47 then [] :: sp (a ++ 47 :: b) else match sp (a ++ 47 :: b) with | [] => [[c]] | p :: q => (c :: p) :: q := rfl
    have e2 : sp (c :: a) = if c = 47 then [] :: sp a else match sp a with | [] => [[c]] | p :: q => (c :: p) :: q := rfl
    rw [e1, e2, sp_app a b]
    split
    · rfl
    · cases h : sp a with
      | nil => exact absurd h (sp_ne a)
      | cons p q => rfl
theorem sp_free : ∀ {a : List Nat}, 47 ∉ a → sp a = [a]
  | [], _ => rfl
  | c :: a, h => by
    have h1 : c ≠ 47 := fun e => h (by simp [e])
    have h2 : 47 ∉ a := fun e => h (.tail _ e)
    unfold sp
    rw [if_neg h1, sp_free h2]
theorem jn_cons {x : List Nat} {r : List (List Nat)} (h : r ≠ []) : jn (x :: r) = x ++ 47 :: jn r := by
  cases r with
  | nil => exact absurd rfl h
  | cons y r => rfl
theorem sp_jn : ∀ {ps : List (List Nat)}, ps ≠ [] → (∀ p ∈ ps, 47 ∉ p) → sp (jn ps) = ps
  | [], h, _ => absurd rfl h
  | [x], _, h => sp_free (h x (.head _))
  | x :: y :: r, _, h => by
    show sp (x ++ 47 :: jn (y :: r)) = _
    rw [sp_app, sp_free (h x (.head _)), sp_jn (by simp) fun p hp => h p (.tail _ hp)]
    rfl
theorem jn_sp : ∀ l : List Nat, jn (sp l) = l
  | [] => rfl
  | c :: r => by
    have ih := jn_sp r
    unfold sp
    split
    · rename_i e; rw [jn_cons (sp_ne r), ih, e]; rfl
    · cases h : sp r with
      | nil => exact absurd h (sp_ne r)
      | cons p q =>
        rw [h] at ih
        show jn ((c :: p) :: q) = _
        cases q with
        | nil => show c :: p = _; rw [show p = r from ih]
        | cons y q => show (c :: p) ++ 47 :: jn (y :: q) = _; rw [List.cons_append]; exact congrArg (c :: ·) ih
theorem sp_parts : ∀ (l : List Nat), ∀ p ∈ sp l, 47 ∉ p
  | [], p, h => by rw [List.mem_singleton.mp h]; simp
  | c :: r, p, h => by
    unfold sp at h
    split at h
    · rcases List.mem_cons.mp h with rfl | h
      · simp
      · exact sp_parts r p h
    · rename_i hc
      cases e : sp r with
      | nil => exact absurd e (sp_ne r)
      | cons q w =>
        rw [e] at h
        rcases List.mem_cons.mp h with rfl | h
        · intro hm
          rcases List.mem_cons.mp hm with hm | hm
          · exact hc hm.symm
          · exact sp_parts r q (by rw [e]; exact .head _) hm
        · exact sp_parts r p (by rw [e]; exact .tail _ h)

/-- the width of a lead -/
def colStep (ts : Nat) (w c : Nat) : Nat := if c = 47 then (w / ts + 1) * ts else w + 1
def col (ts : Nat) (w : Nat) (l : List Nat) : Nat := l.foldl (colStep ts) w
def G (ts : Nat) : List (List Nat) → Nat
  | [] => 0
  | [c] => c.length
  | c :: d :: r => (c.length / ts + 1) * ts + G ts (d :: r)
theorem G_cons {ts : Nat} {c : List Nat} {r : List (List Nat)} (h : r ≠ []) : G ts (c :: r) = (c.length / ts + 1) * ts + G ts r := by
  cases r with
  | nil => exact absurd rfl h
  | cons y r => rfl
theorem col_free {ts : Nat} : ∀ {a : List Nat} {w : Nat}, 47 ∉ a → col ts w a = w + a.length
  | [], w, _ => rfl
  | c :: a, w, h => by
    have h1 : c ≠ 47 := fun e => h (by simp [e])
    have h2 : 47 ∉ a := fun e => h (.tail _ e)
    show col ts (colStep ts w c) a = _
    rw [col_free h2]
    unfold colStep
    rw [if_neg h1, List.length_cons]
    omega
theorem col_app {ts w : Nat} {a b : List Nat} : col ts w (a ++ b) = col ts (col ts w a) b := by unfold col; rw [List.foldl_append]
theorem col_jn {ts : Nat} (hts : 0 < ts) : ∀ {ps : List (List Nat)} {k : Nat}, (∀ p ∈ ps, 47 ∉ p) → col ts (k * ts) (jn ps) = k * ts + G ts ps
  | [], k, _ => rfl
  | [x], k, h => by
    show col ts (k * ts) x = _
    rw [col_free (h x (.head _))]; rfl
  | x :: y :: r, k, h => by
    show col ts (k * ts) (x ++ 47 :: jn (y :: r)) = _
    rw [col_app, col_free (h x (.head _))]
    show col ts (colStep ts (k * ts + x.length) 47) (jn (y :: r)) = _
    have e : colStep ts (k * ts + x.length) 47 = (k + (x.length / ts + 1)) * ts := by
      unfold colStep
      rw [if_pos rfl, Nat.add_comm (k * ts), Nat.add_mul_div_right _ _ hts]
      congr 1
      omega
    rw [e, col_jn hts fun p hp => h p (.tail _ hp)]
    show _ = k * ts + ((x.length / ts + 1) * ts + G ts (y :: r))
    rw [Nat.add_mul]
    omega
theorem tab_gt {ts : Nat} (hts : 0 < ts) (n : Nat) : n < (n / ts + 1) * ts := by
  have := Nat.lt_div_mul_add hts (a := n)
  rw [Nat.add_mul, Nat.one_mul]
  exact this
theorem G_sub {ts : Nat} (hts : 0 < ts) {D C : List (List Nat)} (h : D.Sublist C) : D ≠ [] → G ts D < G ts C ∨ D = C := by
  induction h with
  | slnil => intro _; exact .inr rfl
  | @cons D C c h ih =>
    intro hD
    have hC : C ≠ [] := by
      rintro rfl
      exact hD (List.sublist_nil.mp h)
    have e : G ts (c :: C) = (c.length / ts + 1) * ts + G ts C := G_cons hC
    have := tab_gt hts c.length
    rcases ih hD with ih | ih
    · left; omega
    · left; rw [ih]; omega
  | @cons_cons D C c h ih =>
    intro _
    by_cases hD : D = []
    · subst hD
      by_cases hC : C = []
      · subst hC; exact .inr rfl
      · left
        rw [G_cons hC]
        have := tab_gt hts c.length
        show c.length < _
        omega
    · have hC : C ≠ [] := by
        rintro rfl
        exact hD (List.sublist_nil.mp h)
      rw [G_cons hC, G_cons hD]
      rcases ih hD with ih | ih
      · left; omega
      · right; rw [ih]
theorem jn_len {ps : List (List Nat)} : (jn ps).length = G 1 ps := by
  match ps with
  | [] => rfl
  | [x] => rfl
  | x :: y :: r =>
    show (x ++ 47 :: jn (y :: r)).length = (x.length / 1 + 1) * 1 + G 1 (y :: r)
    rw [List.length_append, List.length_cons, jn_len]
    omega
theorem jn_nt : ∀ {ps : List (List Nat)}, (∀ p ∈ ps, 47 ∉ p) → (jn ps).count 47 = ps.length - 1
  | [], _ => rfl
  | [x], h => by
    show x.count 47 = 0
    exact List.count_eq_zero_of_not_mem (h x (.head _))
  | x :: y :: r, h => by
    show (x ++ 47 :: jn (y :: r)).count 47 = _
    rw [List.count_append, List.count_eq_zero_of_not_mem (h x (.head _)), List.count_cons_self, jn_nt fun p hp => h p (.tail _ hp)]
    simp only [List.length_cons, Nat.add_sub_cancel, Nat.zero_add]

/-- the join of a path's tail and a piece -/
def jt (t y : List Nat) : List Nat := if t = [] then y else if t.getLast? = some 47 then t ++ y else t ++ 47 :: y
def real (p : List Nat) : Bool := decide (p ≠ []) && decide (p ≠ [46])
def eff (t : List Nat) : List (List Nat) := (sp t).filter real
theorem eff_jt (t y : List Nat) : eff (jt t y) = eff t ++ eff y := by
  unfold jt
  split
  · rename_i h; subst h; rfl
  · split
    · rename_i h
      obtain ⟨a, rfl⟩ : ∃ a, t = a ++ [47] := by
        rcases List.eq_nil_or_concat t with e | ⟨a, b, e⟩
        · contradiction
        · rw [List.concat_eq_append] at e
          subst e
          simp at h
          exact ⟨a, by rw [h]⟩
      have e1 : a ++ [47] ++ y = a ++ 47 :: y := by simp
      have e2 : eff (a ++ [47]) = eff a := by
        unfold eff
        rw [sp_app, List.filter_append]
        simp [sp, real]
      rw [e1, e2]
      unfold eff
      rw [sp_app, List.filter_append]
    · unfold eff
      rw [sp_app, List.filter_append]
theorem jt_head {t y : List Nat} (ht : t.head? ≠ some 47) (hy : y.head? ≠ some 47) : (jt t y).head? ≠ some 47 := by
  unfold jt
  split
  · exact hy
  · cases t with
    | nil => contradiction
    | cons c t => split <;> simpa using ht
theorem jt_jn : ∀ (D : List (List Nat)) (t : List Nat), t ≠ [] → t.getLast? ≠ some 47 → (∀ p ∈ D, p ≠ [] ∧ p.getLast? ≠ some 47) → D.foldl jt t = jn (t :: D)
  | [], t, _, _, _ => rfl
  | p :: D, t, h1, h2, h => by
    rw [List.foldl_cons]
    have e : jt t p = t ++ 47 :: p := by unfold jt; rw [if_neg h1, if_neg h2]
    have hp := h p (.head _)
    rw [e, jt_jn D (t ++ 47 :: p) (by simp) ?_ fun q hq => h q (.tail _ hq)]
    · cases D with
      | nil => rfl
      | cons q D =>
        show (t ++ 47 :: p) ++ 47 :: jn (q :: D) = t ++ 47 :: (p ++ 47 :: jn (q :: D))
        simp
    · rw [List.getLast?_append]
      have : (47 :: p).getLast? = p.getLast? := by
        cases p with
        | nil => exact absurd rfl hp.1
        | cons a b => rfl
      rw [this]
      cases e : p.getLast? with
      | none => exact absurd (List.getLast?_eq_none_iff.mp e) hp.1
      | some z => simp; intro hz; exact hp.2 (by rw [e, hz])
theorem fold_jt {D : List (List Nat)} (h : ∀ p ∈ D, p ≠ [] ∧ p.getLast? ≠ some 47) : D.foldl jt [] = jn D := by
  cases D with
  | nil => rfl
  | cons p D =>
    rw [List.foldl_cons]
    have e : jt [] p = p := by unfold jt; rw [if_pos rfl]
    rw [e]
    exact jt_jn D p (h p (.head _)).1 (h p (.head _)).2 fun q hq => h q (.tail _ hq)
end Mine
end

section
open PySem PySem.W PyProof.Rows PySem.Calls Builtin Builtin.Str
set_option maxRecDepth 100000
set_option maxHeartbeats 8000000
set_option linter.all false
set_option rowWalk.seconds 0
namespace Mine
abbrev cs (x : Str) : List Nat := x.cps.toList
theorem cs_inj {x y : Str} (h : cs x = cs y) : x = y := Str.ext' (Array.toList_inj.mp h)
theorem slash_is : Str.ofString "/" = ⟨#[47]⟩ := by decide
theorem cs_app (x y : Str) : cs (x ++ y) = cs x ++ cs y := by unfold cs; rw [Str.cps_append, Array.toList_append]
theorem cs_len (x : Str) : (cs x).length = x.length := by simp [cs, Str.length]
theorem cs_slash : cs (Str.ofString "/") = [47] := by rw [slash_is]
theorem join_cs : ∀ ps : List Str, cs (Str.join (Str.ofString "/") ps) = jn (ps.map cs)
  | [] => rfl
  | [x] => rfl
  | x :: y :: r => by
    show cs (x ++ Str.ofString "/" ++ Str.join (Str.ofString "/") (y :: r)) = cs x ++ 47 :: jn ((y :: r).map cs)
    rw [cs_app, cs_app, cs_slash, join_cs (y :: r)]
    simp
theorem txt_join (sep : Str) (ps : List Str) : Txt.join sep ps = Str.join sep ps := StrLaws.glued_eq_join sep ps
theorem split_ne (x y : Str) : Txt.split x y ≠ [] := by
  unfold Txt.split
  split
  · simp
  · split
    · simp
    · rw [StrLaws.partsBetween_eq]
      obtain ⟨p, r, e⟩ := StrLaws.partsFrom_ne x y.length 0 (Builtin.Str.occurrences x y 0 x.length (x.length + 1))
      rw [e]; simp
theorem split_sp (x : Str) : (Txt.split x (Str.ofString "/")).map cs = sp (cs x) := by
  have h1 := StrLaws.join_split x (Str.ofString "/")
  have h2 := join_cs (Txt.split x (Str.ofString "/"))
  rw [h1] at h2
  rw [h2, sp_jn]
  · intro h; exact split_ne x _ (List.map_eq_nil_iff.mp h)
  · intro p hp
    obtain ⟨a, ha, rfl⟩ := List.mem_map.mp hp
    rw [slash_is] at ha
    exact StrLaws.split_free x 47 a ha
theorem starts_iff (y : Str) : Txt.startswith y (Str.ofString "/") = true ↔ (cs y).head? = some 47 := by
  unfold Txt.startswith
  rw [StrLaws.subAt_eq, slash_is]
  show (decide (0 + 1 ≤ y.length) && (((cs y).drop 0).take 1 == [47])) = true ↔ _
  rw [← cs_len]
  cases cs y with
  | nil => simp
  | cons a l => simp
theorem ends_iff (y : Str) : Txt.endswith y (Str.ofString "/") = true ↔ (cs y).getLast? = some 47 := by
  unfold Txt.endswith
  rw [StrLaws.subAt_eq, slash_is]
  show (decide (0 + 1 ≤ y.length) && (((cs y).drop (y.length - 1)).take 1 == [47])) = true ↔ _
  rw [← cs_len]
  generalize cs y = l
  rcases List.eq_nil_or_concat l with rfl | ⟨a, b, rfl⟩
  · simp
  · rw [List.concat_eq_append]; simp
def RootL (r : List Nat) : Prop := r = [] ∨ r = [47] ∨ r = [47, 47]
theorem joinS_cs {x y : Str} {r t : List Nat} (hr : RootL r) (hx : cs x = r ++ t) (hy : (cs y).head? ≠ some 47) : cs (joinS x y) = r ++ jt t (cs y) := by
  unfold joinS
  rw [if_neg (fun h => hy ((starts_iff y).mp h))]
  have hl : x.length = r.length + t.length := by rw [← cs_len, hx, List.length_append]
  split
  · rename_i h0
    have h0' : x.length = 0 := by omega
    have e1 : r = [] := List.length_eq_zero_iff.mp (by omega)
    have e2 : t = [] := List.length_eq_zero_iff.mp (by omega)
    subst e1; subst e2
    unfold jt
    rw [if_pos rfl]; rfl
  · rename_i h0
    have hE := ends_iff x
    rw [hx] at hE
    by_cases ht : t = []
    · subst ht
      have hE' : Txt.endswith x (Str.ofString "/") = true := by
        rw [hE]
        rcases hr with rfl | rfl | rfl
        · simp at hl; omega
        · rfl
        · rfl
      rw [if_pos hE', cs_app, hx]
      unfold jt
      rw [if_pos rfl]; simp
    · have e : (r ++ t).getLast? = t.getLast? := by
        rw [List.getLast?_append]
        cases h : t.getLast? with
        | none => exact absurd (List.getLast?_eq_none_iff.mp h) ht
        | some z => rfl
      rw [e] at hE
      unfold jt
      rw [if_neg ht]
      split
      · rename_i h1
        rw [if_pos (hE.mp h1), cs_app, hx, List.append_assoc]
      · rename_i h1
        rw [if_neg (fun h => h1 (hE.mpr h)), cs_app, cs_app, hx, cs_slash]
        simp

theorem nat_neg (a : Nat) : ¬ ((a : Int) < 0) := Int.not_lt.mpr (Int.natCast_nonneg a)
theorem min_cast (a n : Nat) : min ((min a n : Nat) : Int) (n : Int) = min (a : Int) (n : Int) := by
  rcases Nat.le_total a n with h | h
  · rw [Nat.min_eq_left h]
  · rw [Nat.min_eq_right h, Int.min_self, Int.min_eq_right (Int.ofNat_le.mpr h)]
theorem max_cast (a n : Nat) : min ((max a n : Nat) : Int) (n : Int) = (n : Int) := Int.min_eq_right (Int.ofNat_le.mpr (Nat.le_max_right a n))
theorem slice_any (x : Str) (a b : Nat) (hab : a ≤ b) : cs (Txt.slice x (some (a : Int)) (some (b : Int))) = ((cs x).drop a).take (b - a) := by
  have e : Txt.slice x (some (a : Int)) (some (b : Int)) = StrLaws.sliceText x (some ((min a x.length : Nat) : Int)) (some ((min b x.length : Nat) : Int)) := by
    unfold Txt.slice StrLaws.sliceText
    have : strSliceIndices (some (a : Int)) (some (b : Int)) 1 x.length = strSliceIndices (some ((min a x.length : Nat) : Int)) (some ((min b x.length : Nat) : Int)) 1 x.length := by
      unfold strSliceIndices
      simp only [nat_neg, min_cast, if_false, show (1 : Int) > 0 by decide, if_true]
    rw [this]
  rw [e, StrLaws.sliceText_nat x (by omega) (by omega)]
  show List.take _ (List.drop _ (cs x)) = _
  have hl := cs_len x
  generalize cs x = l at *
  rw [← hl]
  by_cases h : a ≤ l.length
  · rw [Nat.min_eq_left h]
    by_cases h' : b ≤ l.length
    · rw [Nat.min_eq_left h']
    · rw [Nat.min_eq_right (by omega)]
      rw [List.take_of_length_le (by simp), List.take_of_length_le (by simp; omega)]
  · rw [List.drop_eq_nil_of_le (i := a) (by omega), List.drop_eq_nil_of_le (i := min a l.length) (by omega)]
    simp
theorem slice_to (x : Str) (b : Nat) : cs (Txt.slice x none (some (b : Int))) = (cs x).take b := by
  have e : Txt.slice x none (some (b : Int)) = Txt.slice x (some ((0 : Nat) : Int)) (some (b : Int)) := by unfold Txt.slice; rw [StrLaws.sliceIdx_none_lo]; rfl
  rw [e, slice_any x 0 b (by omega)]; simp
theorem slice_from (x : Str) (a : Nat) : cs (Txt.slice x (some (a : Int)) none) = (cs x).drop a := by
  have e : Txt.slice x (some (a : Int)) none = Txt.slice x (some (a : Int)) (some ((max a x.length : Nat) : Int)) := by
    unfold Txt.slice
    rw [StrLaws.sliceIdx_none_hi]
    have : strSliceIndices (some (a : Int)) (some (x.length : Int)) 1 x.length = strSliceIndices (some (a : Int)) (some ((max a x.length : Nat) : Int)) 1 x.length := by
      unfold strSliceIndices
      simp only [nat_neg, max_cast, Int.min_self, if_false, show (1 : Int) > 0 by decide, if_true]
    rw [this]
  rw [e, slice_any x a _ (by omega)]
  have hl := cs_len x
  rw [List.take_of_length_le (by rw [List.length_drop]; omega)]

theorem ne_slash_of {x : Str} (h : cs x ≠ [47]) : (x != Str.ofString "/") = true := by
  rw [bne_iff_ne]
  rintro rfl
  exact h cs_slash
theorem eq_slash_of {x : Str} (h : cs x = [47]) : x = Str.ofString "/" := cs_inj (h.trans cs_slash.symm)
theorem root_tail {x : Str} {r t : List Nat} (hr : RootL r) (hx : cs x = r ++ t) (ht : t.head? ≠ some 47) : cs (rootS x) = r ∧ cs (tailS x) = t := by
  have s1 : cs (Txt.slice x none (some 1)) = (r ++ t).take 1 := by have := slice_to x 1; rw [hx] at this; exact this
  have s2 : cs (Txt.slice x (some 1) (some 2)) = ((r ++ t).drop 1).take 1 := by have := slice_any x 1 2 (by omega); rw [hx] at this; exact this
  have s3 : cs (Txt.slice x (some 2) (some 3)) = ((r ++ t).drop 2).take 1 := by have := slice_any x 2 3 (by omega); rw [hx] at this; exact this
  have s4 : cs (Txt.slice x none (some 2)) = (r ++ t).take 2 := by have := slice_to x 2; rw [hx] at this; exact this
  have s5 : cs (Txt.slice x (some 1) none) = (r ++ t).drop 1 := by have := slice_from x 1; rw [hx] at this; exact this
  have s6 : cs (Txt.slice x (some 2) none) = (r ++ t).drop 2 := by have := slice_from x 2; rw [hx] at this; exact this
  have hth : t.take 1 ≠ [47] := by
    cases t with
    | nil => simp
    | cons a b => simpa using ht
  unfold rootS tailS
  rcases hr with rfl | rfl | rfl
  · have c1 : (Txt.slice x none (some 1) != Str.ofString "/") = true := ne_slash_of (by rw [s1]; exact hth)
    rw [if_pos c1, if_pos c1]
    exact ⟨by decide, hx⟩
  · have c1 : ¬ (Txt.slice x none (some 1) != Str.ofString "/") = true := by rw [eq_slash_of s1]; simp
    have c2 : (Txt.slice x (some 1) (some 2) != Str.ofString "/") = true := ne_slash_of (by rw [s2]; exact hth)
    rw [if_neg c1, if_neg c1, if_pos c2, if_pos c2]
    exact ⟨cs_slash, s5⟩
  · have c1 : ¬ (Txt.slice x none (some 1) != Str.ofString "/") = true := by rw [eq_slash_of s1]; simp
    have c2 : ¬ (Txt.slice x (some 1) (some 2) != Str.ofString "/") = true := by rw [eq_slash_of s2]; simp
    have c3 : ¬ (Txt.slice x (some 2) (some 3) == Str.ofString "/") = true := by
      intro h
      rw [beq_iff_eq] at h
      rw [h] at s3
      rw [cs_slash] at s3
      exact hth s3.symm
    rw [if_neg c1, if_neg c1, if_neg c2, if_neg c2, if_neg c3, if_neg c3]
    exact ⟨s4, s6⟩
end Mine
end

section
open PySem PySem.W PyProof.Rows PySem.Calls
set_option maxRecDepth 100000
set_option maxHeartbeats 8000000
set_option linter.all false
set_option rowWalk.seconds 0
namespace Mine
theorem getD_bump (cnt : List Int) (b i : Nat) : (bump cnt b).getD i 0 = cnt.getD i 0 + if i = b then 1 else 0 := by
  unfold bump
  have key : ∀ c2 : List Int, b < c2.length → (∀ i, c2.getD i 0 = cnt.getD i 0) → (c2.set b (c2.getD b 0 + 1)).getD i 0 = cnt.getD i 0 + if i = b then 1 else 0 := by
    intro c2 hl hg
    rw [List.getD_eq_getElem?_getD, List.getElem?_set]
    by_cases e : b = i
    · subst e
      rw [if_pos rfl, if_pos hl, if_pos rfl, hg]; rfl
    · rw [if_neg e, if_neg (Ne.symm e), ← List.getD_eq_getElem?_getD, hg]; omega
  split
  · rename_i h
    refine key _ ?_ fun j => ?_
    · rw [List.length_append, List.length_replicate]; omega
    · rw [List.getD_eq_getElem?_getD, List.getD_eq_getElem?_getD, List.getElem?_append]
      split
      · rfl
      · rename_i hj
        rw [List.getElem?_eq_none (l := cnt) (by omega), List.getElem?_replicate]
        split <;> rfl
  · rename_i h
    exact key _ (by omega) fun j => rfl
theorem bump_len_le (cnt : List Int) (b : Nat) : cnt.length ≤ (bump cnt b).length ∧ b < (bump cnt b).length := by
  unfold bump
  rw [List.length_set]
  split
  · rw [List.length_append, List.length_replicate]; omega
  · omega
def wsum (f g : Nat → Int) (M : Nat) : Int := ((List.range M).map fun i => f i * g i).sum
theorem wsum_succ (f g : Nat → Int) (M : Nat) : wsum f g (M + 1) = wsum f g M + f M * g M := by
  unfold wsum; rw [List.range_succ, List.map_append, List.sum_append]; simp
theorem wsum_bump {f g g' : Nat → Int} {b : Nat} (h : ∀ i, g' i = g i + if i = b then 1 else 0) : ∀ M, wsum f g' M = wsum f g M + if b < M then f b else 0
  | 0 => by simp [wsum]
  | M + 1 => by
    rw [wsum_succ, wsum_succ, wsum_bump h M, h M]
    by_cases e : M = b
    · subst e
      rw [if_neg (Nat.lt_irrefl _), if_pos rfl, if_pos (Nat.lt_succ_self _), Int.mul_add]; omega
    · rw [if_neg e]
      by_cases e2 : b < M
      · rw [if_pos e2, if_pos (by omega), Int.mul_add]; omega
      · rw [if_neg e2, if_neg (by omega), Int.mul_add]; omega
theorem wsum_zero {f g : Nat → Int} : ∀ {M : Nat}, (∀ i, i < M → f i = 0) → wsum f g M = 0
  | 0, _ => rfl
  | M + 1, h => by rw [wsum_succ, wsum_zero fun i hi => h i (by omega), h M (by omega)]; simp
abbrev fq (ts : Nat) : Nat → Int := fun i => ((i / ts : Nat) : Int)
abbrev gd (cnt : List Int) : Nat → Int := fun i => cnt.getD i 0
theorem ilS_wsum (cnt : List Int) {ts : Nat} (hts : 0 < ts) : ∀ n, ilS cnt (ts : Int) n = wsum (fq ts) (gd cnt) (ts + n)
  | 0 => by
    rw [wsum_zero fun i hi => ?_]
    · rfl
    · show ((i / ts : Nat) : Int) = 0
      rw [Nat.div_eq_of_lt (show i < ts from hi)]; rfl
  | n + 1 => by
    have e : ilS cnt (ts : Int) (n + 1) = ilS cnt (ts : Int) n + Int.fdiv ((ts : Int) + (n : Int)) (ts : Int) * cnt.getD ((ts : Int) + (n : Int)).toNat 0 := by
      unfold ilS; rw [List.range_succ, List.map_append, List.sum_append]; simp
    have e2 : Int.fdiv ((ts : Int) + (n : Int)) (ts : Int) = (((ts + n) / ts : Nat) : Int) := by
      rw [Int.fdiv_eq_ediv_of_nonneg _ (by omega)]; norm_cast
    have e3 : ((ts : Int) + (n : Int)).toNat = ts + n := by omega
    rw [e, ilS_wsum cnt hts n, e2, e3, ← Nat.add_assoc, wsum_succ]
def Inv (ts : Nat) (st : WS) (w : Nat) : Prop := ∀ M, st.count.length ≤ M → (st.b : Int) + (ts : Int) * (wsum (fq ts) (gd st.count) M + (st.nt : Int)) = (w : Int)
def Inv1 (st : WS) : Prop := ∀ M, st.count.length ≤ M → wsum (fun _ => 1) (gd st.count) M = (st.nt : Int)
theorem inv_step {ts w c : Nat} {st : WS} (hts : 0 < ts) (h : Inv ts st w) : Inv ts (wsStep st (if c = 47 then 9 else 32)) (colStep ts w c) := by
  intro M hM
  unfold colStep
  by_cases e : c = 47
  · rw [if_pos e] at hM ⊢
    rw [if_pos e]
    have e1 : wsStep st 9 = { count := bump st.count st.b, b := 0, n := st.n + 1, nt := st.nt + 1 } := rfl
    rw [e1] at hM ⊢
    dsimp only at hM ⊢
    have hl := bump_len_le st.count st.b
    have h' := h M (by omega)
    rw [wsum_bump (g := gd st.count) (fun i => getD_bump st.count st.b i) M, if_pos (by omega)]
    have e2 : ((w / ts : Nat) : Int) = ((st.b / ts : Nat) : Int) + (wsum (fq ts) (gd st.count) M + (st.nt : Int)) := by
      rw [Int.natCast_ediv, ← h', Int.add_mul_ediv_left _ _ (by omega)]
      norm_cast
    generalize wsum (fq ts) (gd st.count) M = K at *
    show ((0 : Nat) : Int) + (ts : Int) * (K + ((st.b / ts : Nat) : Int) + ((st.nt + 1 : Nat) : Int)) = (((w / ts + 1) * ts : Nat) : Int)
    rw [Int.natCast_mul, Int.natCast_add (w / ts), e2, Int.mul_comm]
    simp only [Int.natCast_add]
    have : K + ((st.b / ts : Nat) : Int) + ((st.nt : Int) + ((1 : Nat) : Int)) = ((st.b / ts : Nat) : Int) + (K + (st.nt : Int)) + ((1 : Nat) : Int) := by omega
    rw [this]; simp
  · rw [if_neg e] at hM ⊢
    rw [if_neg e]
    have e1 : wsStep st 32 = { st with b := st.b + 1, n := st.n + 1 } := rfl
    rw [e1] at hM ⊢
    dsimp only at hM ⊢
    have h' := h M hM
    omega
theorem inv1_step {c : Nat} {st : WS} (h : Inv1 st) : Inv1 (wsStep st c) := by
  intro M hM
  unfold wsStep at hM ⊢
  split
  · rename_i e; rw [if_pos e] at hM; exact h M hM
  · rename_i e
    rw [if_neg e] at hM
    dsimp only at hM ⊢
    have hl := bump_len_le st.count st.b
    rw [wsum_bump (g := gd st.count) (fun i => getD_bump st.count st.b i) M, if_pos (by omega), h M (by omega)]
    simp
theorem inv_fold {ts : Nat} (hts : 0 < ts) : ∀ (l : List Nat) (st : WS) (w : Nat), Inv ts st w → Inv ts ((l.map fun c => if c = 47 then 9 else 32).foldl wsStep st) (col ts w l)
  | [], _, _, h => h
  | c :: l, st, w, h => inv_fold hts l _ _ (inv_step hts h)
theorem inv1_fold : ∀ (l : List Nat) (st : WS), Inv1 st → Inv1 (l.foldl wsStep st)
  | [], _, h => h
  | c :: l, st, h => inv1_fold l _ (inv1_step h)
theorem wsum_nil {f : Nat → Int} : ∀ M, wsum f (gd []) M = 0
  | 0 => rfl
  | M + 1 => by rw [wsum_succ, wsum_nil M]; simp [gd]
theorem lead_fold (x : Str) : wsFold (leadS x) = ((cs x).map fun c => if c = 47 then 9 else 32).foldl wsStep ⟨[], 0, 0, 0⟩ := by
  unfold wsFold leadS cs
  rw [Array.toList_map]
theorem lead_inv (x : Str) {ts : Nat} (hts : 0 < ts) : Inv ts (wsFold (leadS x)) (col ts 0 (cs x)) := by
  rw [lead_fold]
  refine inv_fold hts _ _ _ fun M _ => ?_
  show ((0 : Nat) : Int) + (ts : Int) * (wsum (fq ts) (gd []) M + ((0 : Nat) : Int)) = ((0 : Nat) : Int)
  rw [wsum_nil]; simp
theorem lead_inv1 (x : Str) : Inv1 (wsFold (leadS x)) := inv1_fold _ _ fun M _ => wsum_nil M
theorem lead_lvl (x : Str) {ts : Nat} (hts : 0 < ts) : lvlS (wsFold (leadS x)) (ts : Int) = (col ts 0 (cs x) : Int) := by
  unfold lvlS
  rw [ilS_wsum _ hts]
  exact lead_inv x hts _ (by omega)
theorem lead_n (x : Str) : (wsFold (leadS x)).n = (cs x).length := by
  rw [lead_fold, ws_n, List.length_map]; simp
theorem lead_nt (x : Str) : (wsFold (leadS x)).nt = (cs x).count 47 := by
  rw [lead_fold, ws_nt]
  simp only [Nat.zero_add]
  generalize cs x = l
  induction l with
  | nil => rfl
  | cons a l ih =>
    rw [List.map_cons, List.count_cons]
    by_cases e : a = 47
    · subst e
      rw [List.filter_cons_of_pos (by decide), List.length_cons, ih]; simp
    · rw [if_neg e, List.filter_cons_of_neg (by decide), ih]; simp [e]
theorem col_one : ∀ (l : List Nat) (w : Nat), col 1 w l = w + l.length
  | [], w => rfl
  | c :: l, w => by
    show col 1 (colStep 1 w c) l = _
    rw [col_one l, List.length_cons]
    unfold colStep
    split
    · rw [Nat.div_one, Nat.mul_one]; omega
    · omega
theorem lead_same {x y : Str} (h1 : (wsFold (leadS x)).count = (wsFold (leadS y)).count) (h2 : (wsFold (leadS x)).b = (wsFold (leadS y)).b) : (cs x).length = (cs y).length := by
  have a1 := lead_inv x (ts := 1) (by omega) _ (Nat.le_refl _)
  have a2 := lead_inv y (ts := 1) (by omega) _ (Nat.le_refl _)
  have b1 := lead_inv1 x _ (Nat.le_refl _)
  have b2 := lead_inv1 y _ (Nat.le_refl _)
  rw [col_one] at a1 a2
  rw [h1, h2] at a1
  rw [h1] at b1
  rw [← b1] at a1
  rw [← b2] at a2
  omega
end Mine
end

section
open PySem PySem.W PyProof.Rows PySem.Calls
set_option maxRecDepth 100000
set_option maxHeartbeats 8000000
set_option linter.all false
set_option rowWalk.seconds 0
namespace Mine
abbrev dd : List Nat := [46, 46]
def pushL (abs : Bool) (st : List (List Nat)) (c : List Nat) : List (List Nat) :=
  if c ≠ dd then st ++ [c] else
  match st.getLast? with
  | none => if abs = true then [] else [c]
  | some z => if z = dd then st ++ [c] else st.dropLast
def stL (abs : Bool) (E : List (List Nat)) : List (List Nat) := E.foldl (pushL abs) []
def goneL (xs : List (List Nat)) (c : List Nat) : List (List Nat) := if c = dd then xs.dropLast else xs ++ [c]
def pl0 (abs : Bool) (u : Nat) : List (List Nat) := if abs = true then [] else List.replicate (5 - u) []
def Good (abs : Bool) (u : Nat) (N : List (List Nat)) : Prop := (∀ n ∈ N, n ≠ dd ∧ n ≠ []) ∧ (abs = true → u = 0)

theorem shape_step {abs : Bool} {u : Nat} {N : List (List Nat)} {c : List Nat} (h : Good abs u N) (hc : c ≠ []) :
    ∃ u' N', u' ≤ u + 1 ∧ Good abs u' N' ∧ pushL abs (List.replicate u dd ++ N) c = List.replicate u' dd ++ N' ∧ goneL (pl0 abs u ++ N) c = pl0 abs u' ++ N' := by
  unfold pushL goneL
  by_cases e : c = dd
  · subst e
    rw [if_neg (by simp), if_pos rfl]
    rcases List.eq_nil_or_concat N with rfl | ⟨N', z, rfl⟩
    · rw [List.append_nil, List.append_nil]
      cases u with
      | zero =>
        cases abs with
        | true => exact ⟨0, [], by omega, h, rfl, rfl⟩
        | false => exact ⟨1, [], by omega, ⟨h.1, fun e => nomatch e⟩, rfl, rfl⟩
      | succ u =>
        cases abs with
        | true => exact absurd (h.2 rfl) (by omega)
        | false =>
          refine ⟨u + 2, [], by omega, ⟨h.1, fun e => nomatch e⟩, ?_, ?_⟩
          · have e1 : (List.replicate (u + 1) dd).getLast? = some dd := by rw [List.getLast?_replicate, if_neg (by omega)]
            rw [e1]
            show (if dd = dd then List.replicate (u + 1) dd ++ [dd] else _) = _
            rw [if_pos rfl, List.append_nil, List.replicate_succ' (n := u + 1)]
          · show (List.replicate (5 - (u + 1)) ([] : List Nat)).dropLast = List.replicate (5 - (u + 2)) [] ++ []
            rw [List.dropLast_replicate, List.append_nil]
            rfl
    · rw [List.concat_eq_append] at h ⊢
      refine ⟨u, N', by omega, ⟨fun n hn => h.1 n (List.mem_append_left _ hn), h.2⟩, ?_, ?_⟩
      · have e1 : (List.replicate u dd ++ (N' ++ [z])).getLast? = some z := by rw [← List.append_assoc]; simp
        rw [e1]
        show (if z = dd then _ else (List.replicate u dd ++ (N' ++ [z])).dropLast) = _
        rw [if_neg (h.1 z (List.mem_append_right _ (.head _))).1, ← List.append_assoc, List.dropLast_concat]
      · rw [← List.append_assoc, List.dropLast_concat]
  · rw [if_pos e, if_neg e]
    refine ⟨u, N ++ [c], by omega, ⟨fun n hn => ?_, h.2⟩, by rw [List.append_assoc], by rw [List.append_assoc]⟩
    rcases List.mem_append.mp hn with hn | hn
    · exact h.1 n hn
    · rw [List.mem_singleton.mp hn]; exact ⟨e, hc⟩
theorem shape_go {abs : Bool} : ∀ (E : List (List Nat)) (u : Nat) (N : List (List Nat)), Good abs u N → (∀ c ∈ E, c ≠ []) →
    ∃ u' N', u' ≤ u + E.length ∧ Good abs u' N' ∧ E.foldl (pushL abs) (List.replicate u dd ++ N) = List.replicate u' dd ++ N' ∧ E.foldl goneL (pl0 abs u ++ N) = pl0 abs u' ++ N'
  | [], u, N, h, _ => ⟨u, N, by simp, h, rfl, rfl⟩
  | c :: E, u, N, h, hE => by
    obtain ⟨u1, N1, h1, g1, a1, b1⟩ := shape_step h (hE c (.head _))
    obtain ⟨u2, N2, h2, g2, a2, b2⟩ := shape_go E u1 N1 g1 fun c hc => hE c (.tail _ hc)
    refine ⟨u2, N2, by rw [List.length_cons]; omega, g2, ?_, ?_⟩
    · rw [List.foldl_cons, a1, a2]
    · rw [List.foldl_cons, b1, b2]
theorem shape {abs : Bool} (E : List (List Nat)) (hE : ∀ c ∈ E, c ≠ []) :
    ∃ u N, u ≤ E.length ∧ Good abs u N ∧ stL abs E = List.replicate u dd ++ N ∧ E.foldl goneL (pl0 abs 0) = pl0 abs u ++ N := by
  obtain ⟨u, N, h, g, a, b⟩ := shape_go (abs := abs) E 0 [] ⟨fun n hn => (nomatch hn), fun _ => rfl⟩ hE
  exact ⟨u, N, by omega, g, a, by rw [List.append_nil] at b; exact b⟩
theorem place_inj {abs : Bool} {u u' : Nat} {N N' : List (List Nat)} (h : Good abs u N) (h' : Good abs u' N') (hu : u ≤ 5) (hu' : u' ≤ 5) (e : pl0 abs u ++ N = pl0 abs u' ++ N') :
    List.replicate u dd ++ N = List.replicate u' dd ++ N' := by
  cases abs with
  | true =>
    rw [h.2 rfl, h'.2 rfl]
    have : N = N' := e
    rw [this]
  | false =>
    have f0 : ∀ k, (List.replicate k ([] : List Nat)).filter (fun c => decide (c ≠ [])) = [] := by
      intro k; rw [List.filter_replicate]; rfl
    have f1 : ∀ {M : List (List Nat)}, (∀ n ∈ M, n ≠ dd ∧ n ≠ []) → M.filter (fun c => decide (c ≠ [])) = M := by
      intro M hM
      exact List.filter_eq_self.mpr fun c hc => decide_eq_true (hM c hc).2
    have e' : List.replicate (5 - u) [] ++ N = List.replicate (5 - u') [] ++ N' := e
    have e1 := congrArg (List.filter (fun c => decide (c ≠ []))) e'
    rw [List.filter_append, List.filter_append, f0, f0, f1 h.1, f1 h'.1, List.nil_append, List.nil_append] at e1
    subst e1
    have e2 := congrArg List.length e'
    rw [List.length_append, List.length_append, List.length_replicate, List.length_replicate] at e2
    have : u = u' := by omega
    rw [this]
theorem stack_of_place {abs : Bool} {E E' : List (List Nat)} (hE : ∀ c ∈ E, c ≠ []) (hE' : ∀ c ∈ E', c ≠ []) (hl : E.length ≤ 5) (hl' : E'.length ≤ 5) (e : E.foldl goneL (pl0 abs 0) = E'.foldl goneL (pl0 abs 0)) : stL abs E = stL abs E' := by
  obtain ⟨u, N, h1, g1, a1, b1⟩ := shape (abs := abs) E hE
  obtain ⟨u', N', h2, g2, a2, b2⟩ := shape (abs := abs) E' hE'
  rw [a1, a2]
  exact place_inj g1 g2 (by omega) (by omega) (by rw [← b1, ← b2, e])
theorem names_fold {abs : Bool} : ∀ (N st : List (List Nat)), (∀ n ∈ N, n ≠ dd ∧ n ≠ []) → N.foldl (pushL abs) st = st ++ N ∧ N.foldl goneL st = st ++ N
  | [], st, _ => by simp
  | n :: N, st, h => by
    have hn := h n (.head _)
    have e1 : pushL abs st n = st ++ [n] := by unfold pushL; rw [if_pos hn.1]
    have e2 : goneL st n = st ++ [n] := by unfold goneL; rw [if_neg hn.1]
    obtain ⟨a, b⟩ := names_fold (abs := abs) N (st ++ [n]) fun m hm => h m (.tail _ hm)
    rw [List.foldl_cons, List.foldl_cons, e1, e2, a, b]
    simp
theorem dd_push : ∀ (u k : Nat), (List.replicate u dd).foldl (pushL false) (List.replicate k dd) = List.replicate (k + u) dd
  | 0, k => rfl
  | u + 1, k => by
    rw [List.replicate_succ, List.foldl_cons]
    have e1 : pushL false (List.replicate k dd) dd = List.replicate (k + 1) dd := by
      unfold pushL
      rw [if_neg (by simp)]
      cases k with
      | zero => rfl
      | succ k =>
        rw [List.getLast?_replicate, if_neg (by omega)]
        show (if dd = dd then _ else _) = _
        rw [if_pos rfl, List.replicate_succ' (n := k + 1)]
    rw [e1, dd_push u (k + 1), Nat.add_assoc, Nat.add_comm 1]
theorem dd_gone : ∀ (u k : Nat), (List.replicate u dd).foldl goneL (List.replicate k []) = List.replicate (k - u) []
  | 0, k => rfl
  | u + 1, k => by
    rw [List.replicate_succ, List.foldl_cons]
    have e1 : goneL (List.replicate k []) dd = List.replicate (k - 1) [] := by
      unfold goneL
      rw [if_pos rfl, List.dropLast_replicate]
    rw [e1, dd_gone u (k - 1), Nat.sub_sub, Nat.add_comm 1]
theorem stack_self {abs : Bool} {u : Nat} {N : List (List Nat)} (h : Good abs u N) : stL abs (List.replicate u dd ++ N) = List.replicate u dd ++ N ∧ (List.replicate u dd ++ N).foldl goneL (pl0 abs 0) = pl0 abs u ++ N := by
  unfold stL
  rw [List.foldl_append, List.foldl_append]
  cases abs with
  | true =>
    rw [h.2 rfl]
    exact names_fold N _ h.1
  | false =>
    have e1 := dd_push u 0
    have e2 := dd_gone u 5
    rw [Nat.zero_add] at e1
    have e1' : (List.replicate u dd).foldl (pushL false) [] = List.replicate u dd := e1
    have e2' : (List.replicate u dd).foldl goneL (pl0 false 0) = List.replicate (5 - u) [] := e2
    rw [e1', e2']
    exact ⟨(names_fold (abs := false) N _ h.1).1, (names_fold (abs := false) N _ h.1).2⟩
theorem stack_idem {abs : Bool} {E : List (List Nat)} (hE : ∀ c ∈ E, c ≠ []) : stL abs (stL abs E) = stL abs E ∧ (stL abs E).foldl goneL (pl0 abs 0) = E.foldl goneL (pl0 abs 0) := by
  obtain ⟨u, N, h1, g1, a1, b1⟩ := shape (abs := abs) E hE
  rw [a1, b1]
  exact stack_self g1
theorem push_sub (abs : Bool) (st : List (List Nat)) (c : List Nat) : (pushL abs st c).Sublist (st ++ [c]) := by
  unfold pushL
  split
  · exact List.Sublist.refl _
  · split
    · split
      · exact List.nil_sublist _
      · exact List.sublist_append_right _ _
    · split
      · exact List.Sublist.refl _
      · exact (List.dropLast_sublist _).trans (List.sublist_append_left _ _)
theorem fold_sub (abs : Bool) : ∀ (E st : List (List Nat)), (E.foldl (pushL abs) st).Sublist (st ++ E)
  | [], st => by simp
  | c :: E, st => by
    rw [List.foldl_cons]
    refine (fold_sub abs E _).trans ?_
    have := (push_sub abs st c).append (List.Sublist.refl E)
    rw [List.append_assoc] at this
    exact this
theorem stack_sub (abs : Bool) (E : List (List Nat)) : (stL abs E).Sublist E := fold_sub abs E []
end Mine
end

section
open PySem PySem.W PyProof.Rows PySem.Calls
set_option maxRecDepth 100000
set_option maxHeartbeats 8000000
set_option linter.all false
set_option rowWalk.seconds 0
namespace Mine
theorem dot_cs : cs (Str.ofString ".") = [46] := by rw [dot_is]
theorem dots_cs : cs (Str.ofString "..") = dd := by rw [dots_is]
theorem len_zero {x : Str} : (x.length : Int) = 0 ↔ cs x = [] := by
  rw [← cs_len, ← List.length_eq_zero_iff]; omega
theorem eq_dot {x : Str} : (x == Str.ofString ".") = true ↔ cs x = [46] := by
  rw [beq_iff_eq]
  exact ⟨fun h => by rw [h, dot_cs], fun h => cs_inj (h.trans dot_cs.symm)⟩
theorem eq_dots {x : Str} : (x == Str.ofString "..") = true ↔ cs x = dd := by
  rw [beq_iff_eq]
  exact ⟨fun h => by rw [h, dots_cs], fun h => cs_inj (h.trans dots_cs.symm)⟩
theorem ne_dots {x : Str} : (x != Str.ofString "..") = true ↔ cs x ≠ dd := by
  rw [bne_iff_ne]
  exact ⟨fun h e => h (cs_inj (e.trans dots_cs.symm)), fun h e => h (by rw [e, dots_cs])⟩
abbrev absOf (r : List Nat) : Bool := decide (r ≠ [])
theorem push_cs (root : Str) (st : List Str) (c : Str) : (pushS root st c).map cs = if real (cs c) = true then pushL (absOf (cs root)) (st.map cs) (cs c) else st.map cs := by
  unfold pushS
  by_cases h0 : cs c = []
  · rw [if_pos (len_zero.mpr h0), if_neg (by simp [real, h0])]
  rw [if_neg (fun h => h0 (len_zero.mp h))]
  by_cases h1 : cs c = [46]
  · rw [if_pos (eq_dot.mpr h1), if_neg (by simp [real, h1])]
  have hreal : real (cs c) = true := by simp [real, h0, h1]
  rw [if_neg (fun h => h1 (eq_dot.mp h)), if_pos hreal]
  unfold pushL
  by_cases h2 : cs c = dd
  · have n1 : ¬ (c != Str.ofString "..") = true := fun h => ne_dots.mp h h2
    have n2 : ¬ (cs c ≠ dd) := fun h => h h2
    rw [if_neg n1, if_neg n2, List.getLast?_map]
    cases st.getLast? with
    | none =>
      show List.map cs (if (root.length : Int) = 0 then [c] else []) = if absOf (cs root) = true then [] else [cs c]
      by_cases hr : cs root = []
      · rw [if_pos (len_zero.mpr hr), if_neg (by simp [absOf, hr])]; rfl
      · rw [if_neg (fun h => hr (len_zero.mp h)), if_pos (by simp [absOf, hr])]; rfl
    | some z =>
      show List.map cs (if (z == Str.ofString "..") = true then st ++ [c] else st.dropLast) = if cs z = dd then st.map cs ++ [cs c] else (st.map cs).dropLast
      by_cases hz : cs z = dd
      · rw [if_pos (eq_dots.mpr hz), if_pos hz, List.map_append]; rfl
      · rw [if_neg (fun h => hz (eq_dots.mp h)), if_neg hz, List.map_dropLast]
  · rw [if_pos (ne_dots.mpr h2), if_pos h2, List.map_append]; rfl
theorem fold_cs (root : Str) : ∀ (parts st : List Str), (parts.foldl (pushS root) st).map cs = ((parts.map cs).filter real).foldl (pushL (absOf (cs root))) (st.map cs)
  | [], st => rfl
  | c :: parts, st => by
    rw [List.foldl_cons, fold_cs root parts, push_cs, List.map_cons]
    by_cases h : real (cs c) = true
    · rw [if_pos h, List.filter_cons_of_pos h]; rfl
    · rw [if_neg h, List.filter_cons_of_neg h]
theorem stack_cs {x : Str} {r t : List Nat} (hr : RootL r) (hx : cs x = r ++ t) (ht : t.head? ≠ some 47) : (stackS x).map cs = stL (absOf r) (eff t) := by
  obtain ⟨h1, h2⟩ := root_tail hr hx ht
  unfold stackS
  rw [fold_cs, split_sp, h1, h2]
  rfl
def normL (r : List Nat) (S : List (List Nat)) : List Nat := if r ++ jn S = [] then [46] else r ++ jn S
theorem norm_cs {x : Str} {r t : List Nat} (hr : RootL r) (hx : cs x = r ++ t) (ht : t.head? ≠ some 47) : cs (normS x) = normL r (stL (absOf r) (eff t)) := by
  have hs := stack_cs hr hx ht
  obtain ⟨h1, h2⟩ := root_tail hr hx ht
  unfold normS
  have e1 : cs (rootS x ++ Txt.join (Str.ofString "/") (stackS x)) = r ++ jn (stL (absOf r) (eff t)) := by rw [cs_app, txt_join, join_cs, hs, h1]
  unfold normL
  by_cases h0 : cs x = []
  · rw [if_pos (len_zero.mpr h0)]
    rw [hx] at h0
    obtain ⟨rfl, rfl⟩ := List.append_eq_nil_iff.mp h0
    exact dot_cs
  · rw [if_neg (fun h => h0 (len_zero.mp h))]
    by_cases h3 : r ++ jn (stL (absOf r) (eff t)) = []
    · rw [if_pos h3, if_pos (len_zero.mpr (e1.trans h3))]; exact dot_cs
    · rw [if_neg h3, if_neg (fun h => h3 (e1.symm.trans (len_zero.mp h)))]; exact e1
theorem eff_piece {p : Str} (h : IsPiece p) : (IsNo p ∧ eff (cs p) = []) ∨ (¬ IsNo p ∧ eff (cs p) = [cs p] ∧ 47 ∉ cs p ∧ cs p ≠ []) := by
  rcases h with rfl | h | h
  · right
    rw [dots_cs]
    refine ⟨?_, by decide, by decide, by decide⟩
    unfold IsNo; decide
  · left
    refine ⟨h, ?_⟩
    rcases h with rfl | rfl | rfl <;> decide
  · right
    have h0 : cs p ≠ [] := by intro e; have := h.1; rw [← cs_len, e] at this; exact absurd this (by decide)
    have h1 : cs p ≠ [46] := fun e => h.2.2.2.1 (cs_inj (e.trans dot_cs.symm))
    refine ⟨?_, ?_, h.2.2.1, h0⟩
    · rintro (e | e | e)
      · exact h.2.2.2.1 e
      · rw [e] at h0; exact h0 (by decide)
      · have := h.2.2.1; rw [e] at this; exact this (by decide)
    · unfold eff
      rw [sp_free h.2.2.1]
      simp [real, h0, h1]
theorem any_no {p : Str} : ([Str.ofString ".", Str.ofString "", Str.ofString ".//"].any fun x => x == p) = true ↔ IsNo p := by
  unfold IsNo
  simp only [List.any_cons, List.any_nil, Bool.or_false, Bool.or_eq_true, beq_iff_eq]
  exact ⟨fun h => by rcases h with h | h | h <;> simp [← h], fun h => by rcases h with h | h | h <;> simp [h]⟩
theorem gone_cs {xs : List Str} {p : Str} (h : IsPiece p) : (goneS xs p).map cs = (eff (cs p)).foldl goneL (xs.map cs) := by
  unfold goneS
  rcases eff_piece h with ⟨hn, e⟩ | ⟨hn, e, _, _⟩
  · rw [e]
    have h1 : ¬ (p == Str.ofString "..") = true := by
      rw [eq_dots]
      rcases hn with rfl | rfl | rfl <;> decide
    rw [if_neg h1, if_pos (any_no.mpr hn)]; rfl
  · rw [e]
    show _ = goneL (xs.map cs) (cs p)
    unfold goneL
    by_cases h1 : cs p = dd
    · rw [if_pos (eq_dots.mpr h1), if_pos h1, List.map_dropLast]
    · rw [if_neg (fun h => h1 (eq_dots.mp h)), if_neg h1, if_neg (fun h => hn (any_no.mp h)), List.map_append]; rfl
theorem piece_head {p : Str} (h : IsPiece p) : (cs p).head? ≠ some 47 := by
  rcases h with rfl | (rfl | rfl | rfl) | h
  · decide
  · decide
  · decide
  · decide
  · intro e
    have := h.2.2.1
    change 47 ∉ cs p at this
    cases hc : cs p with
    | nil => rw [hc] at e; cases e
    | cons a l =>
      rw [hc] at e this
      simp at e
      exact this (by simp [e])
/-- the way that takes the pieces D -/
def wayF (root : Str) (D : List Str) : Way := D.foldl (fun x p => stepW p x) (root, place0 root)
theorem snoc_ind {α : Type} {P : List α → Prop} (h0 : P []) (h1 : ∀ l a, P l → P (l ++ [a])) (l : List α) : P l := by
  generalize hn : l.length = n
  induction n generalizing l with
  | zero => rw [List.length_eq_zero_iff.mp hn]; exact h0
  | succ n ih =>
    rcases List.eq_nil_or_concat l with rfl | ⟨b, a, rfl⟩
    · exact h0
    · rw [List.concat_eq_append] at *
      exact h1 b a (ih b (by simpa using hn))
theorem wayF_snoc (root : Str) (D : List Str) (p : Str) : wayF root (D ++ [p]) = stepW p (wayF root D) := by unfold wayF; rw [List.foldl_append]; rfl
theorem sub_snoc {α : Type} {D l : List α} {a : α} (h : D.Sublist (l ++ [a])) : D.Sublist l ∨ ∃ D', D'.Sublist l ∧ D = D' ++ [a] := by
  obtain ⟨A, B, rfl, hA, hB⟩ := List.sublist_append_iff.mp h
  cases hB with
  | cons _ hB => rw [List.sublist_nil.mp hB, List.append_nil]; exact .inl hA
  | cons_cons _ hB => rw [List.sublist_nil.mp hB]; exact .inr ⟨A, hA, rfl⟩
theorem ways_mem (root : Str) (ps : List Str) : ∀ x, x ∈ waysOf root ps ↔ ∃ D, D.Sublist ps ∧ x = wayF root D := by
  refine snoc_ind (P := fun ps => ∀ x, x ∈ waysOf root ps ↔ ∃ D, D.Sublist ps ∧ x = wayF root D) ?_ ?_ ps
  · intro x
    constructor
    · intro h
      exact ⟨[], List.Sublist.refl _, List.mem_singleton.mp h⟩
    · rintro ⟨D, hD, rfl⟩
      rw [List.sublist_nil.mp hD]
      exact .head _
  · intro ps p ih x
    rw [waysOf_snoc, List.mem_append]
    constructor
    · rintro (h | h)
      · obtain ⟨D, hD, e⟩ := (ih x).mp h
        exact ⟨D, hD.trans (List.sublist_append_left _ _), e⟩
      · obtain ⟨z, hz, rfl⟩ := List.mem_map.mp h
        obtain ⟨D, hD, rfl⟩ := (ih z).mp hz
        exact ⟨D ++ [p], hD.append (List.Sublist.refl _), (wayF_snoc root D p).symm⟩
    · rintro ⟨D, hD, rfl⟩
      rcases sub_snoc hD with h | ⟨D', h, rfl⟩
      · exact .inl ((ih _).mpr ⟨D, h, rfl⟩)
      · exact .inr (List.mem_map.mpr ⟨_, (ih _).mpr ⟨D', h, rfl⟩, (wayF_snoc root D' p).symm⟩)
theorem ways_last (root : Str) (ps : List Str) : (waysOf root ps).getLast? = some (wayF root ps) := by
  refine snoc_ind (P := fun ps => (waysOf root ps).getLast? = some (wayF root ps)) rfl ?_ ps
  intro ps p ih
  rw [waysOf_snoc, List.getLast?_append, List.getLast?_map, ih, wayF_snoc]; rfl
theorem place0_cs (root : Str) : (place0 root).map cs = pl0 (absOf (cs root)) 0 := by
  unfold place0 pl0
  by_cases h : cs root = []
  · rw [if_pos (len_zero.mpr h), if_neg (by simp [absOf, h])]; decide
  · rw [if_neg (fun e => h (len_zero.mp e)), if_pos (by simp [absOf, h])]; rfl
theorem root_cs {root : Str} (h : Root root) : RootL (cs root) := by
  rcases h with rfl | rfl | rfl
  · left; decide
  · right; left; decide
  · right; right; decide
abbrev tlOf (D : List Str) : List Nat := (D.map cs).foldl jt []
abbrev effs (D : List Str) : List (List Nat) := (D.map cs).flatMap eff
theorem wayF_cs {root : Str} (hr : Root root) (D : List Str) : (∀ p ∈ D, IsPiece p) →
    cs (wayF root D).1 = cs root ++ tlOf D ∧ (tlOf D).head? ≠ some 47 ∧ eff (tlOf D) = effs D ∧ (wayF root D).2.map cs = (effs D).foldl goneL (pl0 (absOf (cs root)) 0) := by
  refine snoc_ind (P := fun D => (∀ p ∈ D, IsPiece p) → cs (wayF root D).1 = cs root ++ tlOf D ∧ (tlOf D).head? ≠ some 47 ∧ eff (tlOf D) = effs D ∧ (wayF root D).2.map cs = (effs D).foldl goneL (pl0 (absOf (cs root)) 0)) ?_ ?_ D
  · intro _
    refine ⟨?_, by decide, by decide, ?_⟩
    · show cs root = cs root ++ []
      rw [List.append_nil]
    · exact place0_cs root
  · intro D p ih h
    obtain ⟨i1, i2, i3, i4⟩ := ih fun q hq => h q (List.mem_append_left _ hq)
    have hp := h p (List.mem_append_right _ (.head _))
    have e1 : tlOf (D ++ [p]) = jt (tlOf D) (cs p) := by unfold tlOf; rw [List.map_append, List.foldl_append]; rfl
    have e2 : effs (D ++ [p]) = effs D ++ eff (cs p) := by unfold effs; rw [List.map_append, List.flatMap_append]; simp
    rw [wayF_snoc, e1, e2]
    refine ⟨joinS_cs (root_cs hr) i1 (piece_head hp), jt_head i2 (piece_head hp), ?_, ?_⟩
    · rw [eff_jt, i3]
    · show (goneS (wayF root D).2 p).map cs = _
      rw [gone_cs hp, i4, List.foldl_append]
theorem effs_len (D : List Str) (h : ∀ p ∈ D, IsPiece p) : (effs D).length ≤ D.length := by
  induction D with
  | nil => exact Nat.le_refl _
  | cons p D ih =>
    have e : effs (p :: D) = eff (cs p) ++ effs D := rfl
    have := ih fun q hq => h q (.tail _ hq)
    rw [e, List.length_append, List.length_cons]
    rcases eff_piece (h p (.head _)) with ⟨_, e⟩ | ⟨_, e, _, _⟩ <;> (rw [e]; simp only [List.length_nil, List.length_cons]; omega)
theorem eff_ne {t c : List Nat} (h : c ∈ eff t) : c ≠ [] ∧ c ≠ [46] ∧ 47 ∉ c := by
  unfold eff at h
  obtain ⟨h1, h2⟩ := List.mem_filter.mp h
  refine ⟨?_, ?_, sp_parts t c h1⟩
  · rintro rfl; exact absurd h2 (by decide)
  · rintro rfl; exact absurd h2 (by decide)
end Mine
end

section
open PySem PySem.W PyProof.Rows PySem.Calls
set_option maxRecDepth 100000
set_option maxHeartbeats 8000000
set_option linter.all false
set_option rowWalk.seconds 0
namespace Mine
theorem texts_mem_go (last : List Str) (y : Str) : ∀ (W : List Way) (ts : List Str), y ∈ W.foldl (addText last) ts ↔ y ∈ ts ∨ ∃ x ∈ W, x.2 = last ∧ textOf x.1 = y
  | [], ts => by simp
  | x :: W, ts => by
    have e : y ∈ addText last ts x ↔ y ∈ ts ∨ (x.2 = last ∧ textOf x.1 = y) := by
      unfold addText
      by_cases h : x.2 = last
      · rw [if_pos (decide_eq_true h)]
        by_cases h2 : (ts.any (· == textOf x.1)) = true
        · rw [h2, if_neg (by decide)]
          constructor
          · exact .inl
          · rintro (h3 | ⟨_, rfl⟩)
            · exact h3
            · obtain ⟨z, hz, hz2⟩ := List.any_eq_true.mp h2
              rw [beq_iff_eq] at hz2
              rw [← hz2]; exact hz
        · rw [Bool.not_eq_true] at h2
          rw [h2, if_pos (by decide), List.mem_append, List.mem_singleton]
          constructor
          · rintro (h3 | h3)
            · exact .inl h3
            · exact .inr ⟨h, h3.symm⟩
          · rintro (h3 | ⟨_, h3⟩)
            · exact .inl h3
            · exact .inr h3.symm
      · rw [if_neg (by rw [decide_eq_true_eq]; exact h)]
        constructor
        · exact .inl
        · rintro (h3 | ⟨h3, _⟩)
          · exact h3
          · exact absurd h3 h
    rw [List.foldl_cons, texts_mem_go last y W, e]
    constructor
    · rintro ((h | h) | ⟨z, hz, h⟩)
      · exact .inl h
      · exact .inr ⟨x, .head _, h⟩
      · exact .inr ⟨z, .tail _ hz, h⟩
    · rintro (h | ⟨z, hz, h⟩)
      · exact .inl (.inl h)
      · rcases List.mem_cons.mp hz with rfl | hz
        · exact .inl (.inr h)
        · exact .inr ⟨z, hz, h⟩
theorem texts_mem {W : List Way} {last : List Str} {y : Str} : y ∈ textsS W last ↔ ∃ x ∈ W, x.2 = last ∧ textOf x.1 = y := by
  unfold textsS
  rw [texts_mem_go]
  simp

theorem col_ge {ts : Nat} (hts : 0 < ts) : ∀ (l : List Nat) (w : Nat), w + l.length ≤ col ts w l
  | [], w => Nat.le_refl _
  | c :: l, w => by
    have h := col_ge hts l (colStep ts w c)
    have : w + 1 ≤ colStep ts w c := by
      unfold colStep
      split
      · exact tab_gt hts w
      · exact Nat.le_refl _
    show _ ≤ col ts (colStep ts w c) l
    rw [List.length_cons]; omega
theorem col_root {ts : Nat} (hts : 0 < ts) {r : List Nat} (hr : RootL r) (t : List Nat) : col ts 0 (r ++ t) = r.length * ts + G ts (sp t) := by
  have e : col ts 0 r = r.length * ts := by
    rcases hr with rfl | rfl | rfl
    · simp [col]
    · simp [col, colStep]
    · simp only [col, colStep, List.foldl_cons, List.foldl_nil, if_true, Nat.zero_div, Nat.zero_add, Nat.one_mul, Nat.div_self hts, List.length_cons, List.length_nil]
  rw [col_app, e]
  have := col_jn hts (k := r.length) (sp_parts t)
  rw [jn_sp] at this
  exact this
theorem G_ge {ts : Nat} (hts : 0 < ts) (t : List Nat) : t.length ≤ G ts (sp t) := by
  have h1 := col_ge hts t 0
  have h2 := col_root hts (r := []) (.inl rfl) t
  rw [List.nil_append] at h2
  rw [h2] at h1
  simpa using h1
theorem G_one (t : List Nat) : G 1 (sp t) = t.length := by rw [← jn_len, jn_sp]
theorem count_sp (t : List Nat) : t.count 47 = (sp t).length - 1 := by
  have := jn_nt (sp_parts t)
  rw [jn_sp] at this
  exact this
/-- the tail of the plain path -/
def pln (r : List Nat) (S : List (List Nat)) : List Nat := if r = [] ∧ S = [] then [46] else jn S
theorem jn_nil {S : List (List Nat)} (h : ∀ c ∈ S, c ≠ []) (e : jn S = []) : S = [] := by
  cases S with
  | nil => rfl
  | cons c S =>
    exfalso
    cases S with
    | nil => exact h c (.head _) e
    | cons d S =>
      have e' : c ++ 47 :: jn (d :: S) = [] := e
      simp at e'
theorem normL_pln {r : List Nat} {S : List (List Nat)} (h : ∀ c ∈ S, c ≠ []) : normL r S = r ++ pln r S := by
  unfold normL pln
  by_cases hr : r = []
  · subst hr
    by_cases hS : S = []
    · subst hS; rfl
    · have : ¬ ([] ++ jn S = []) := fun e => hS (jn_nil h e)
      rw [if_neg this, if_neg (fun e => hS e.2)]
  · rw [if_neg (fun e => hr (List.append_eq_nil_iff.mp e).1), if_neg (fun e => hr e.1)]
theorem cmp {r t : List Nat} {S : List (List Nat)} (hS : stL (absOf r) (eff t) = S) (ht : t.head? ≠ some 47) (hne : r = [] → t ≠ []) (h : t ≠ pln r S) :
    (pln r S).count 47 ≤ t.count 47 ∧ ∀ ts, 1 ≤ ts → G ts (sp (pln r S)) < G ts (sp t) := by
  have hsub : S.Sublist (sp t) := by rw [← hS]; exact (stack_sub _ _).trans List.filter_sublist
  have hc : ∀ c ∈ S, c ≠ [] ∧ c ≠ [46] ∧ 47 ∉ c := by
    intro c hc
    rw [← hS] at hc
    exact eff_ne ((stack_sub _ _).subset hc)
  by_cases h0 : S = []
  · subst h0
    by_cases hr : r = []
    · subst hr
      have e : pln [] ([] : List (List Nat)) = [46] := rfl
      rw [e] at h ⊢
      have h2 : 2 ≤ t.length := by
        match t, hne rfl, h, ht, hS with
        | [], h, _, _, _ => exact absurd rfl h
        | [a], _, h, ht, hS =>
          exfalso
          have h1 : a ≠ 47 := by intro e; rw [e] at ht; exact ht rfl
          have h3 : a ≠ 46 := by intro e; rw [e] at h; exact h rfl
          have e1 : eff [a] = [[a]] := by
            unfold eff
            rw [sp_free (by simpa using Ne.symm h1)]
            simp [real, h3]
          rw [e1] at hS
          unfold stL pushL at hS
          rw [List.foldl_cons, List.foldl_nil, if_pos (by simp)] at hS
          cases hS
        | a :: b :: t, _, _, _, _ => simp only [List.length_cons]; omega
      refine ⟨by simp, fun ts hts => ?_⟩
      have := G_ge (ts := ts) hts t
      have e2 : G ts (sp [46]) = 1 := rfl
      omega
    · have e : pln r ([] : List (List Nat)) = [] := by unfold pln; rw [if_neg (fun e => hr e.1)]; rfl
      rw [e] at h ⊢
      have h2 : 0 < t.length := List.length_pos_iff.mpr h
      refine ⟨by simp, fun ts hts => ?_⟩
      have := G_ge (ts := ts) hts t
      have e2 : G ts (sp []) = 0 := rfl
      omega
  · have e : pln r S = jn S := by unfold pln; rw [if_neg (fun e => h0 e.2)]
    rw [e] at h ⊢
    have e3 := sp_jn h0 fun c h => (hc c h).2.2
    rw [e3]
    refine ⟨?_, fun ts hts => ?_⟩
    · rw [jn_nt fun c h => (hc c h).2.2, count_sp]
      have := hsub.length_le
      omega
    · rcases G_sub (ts := ts) hts hsub h0 with h4 | h4
      · exact h4
      · exfalso
        apply h
        rw [← jn_sp t, ← h4]
theorem textOf_cs {x : Str} {r t : List Nat} (hx : cs x = r ++ t) (ht : t.head? ≠ some 47) : ∃ t', cs (textOf x) = r ++ t' ∧ t'.head? ≠ some 47 ∧ eff t' = eff t ∧ (r = [] → t' ≠ []) ∧ (t ≠ [] ∨ r ≠ [] → t' = t) ∧ (t = [] → r = [] → t' = [46]) := by
  unfold textOf
  by_cases h : cs x = []
  · rw [if_pos (len_zero.mpr h)]
    rw [hx] at h
    obtain ⟨rfl, rfl⟩ := List.append_eq_nil_iff.mp h
    refine ⟨[46], dot_cs, by decide, by decide, by simp, ?_, fun _ _ => rfl⟩
    rintro (h | h) <;> exact absurd rfl h
  · rw [if_neg (fun e => h (len_zero.mp e))]
    rw [hx] at h
    refine ⟨t, hx, ht, rfl, ?_, fun _ => rfl, ?_⟩
    · rintro rfl rfl; exact h rfl
    · rintro rfl rfl; exact absurd rfl h
theorem map_inj {xs ys : List Str} (h : xs.map cs = ys.map cs) : xs = ys := by
  induction xs generalizing ys with
  | nil => cases ys with
    | nil => rfl
    | cons => cases h
  | cons x xs ih => cases ys with
    | nil => cases h
    | cons y ys =>
      rw [List.map_cons, List.map_cons] at h
      injection h with h1 h2
      rw [cs_inj h1, ih h2]

theorem plain_law {root : Str} {ps : List Str} {W' : List Way} {wl : Way} (hr : Root root) (hl : ps.length = 5) (hp : ∀ p ∈ ps, IsPiece p) (hW : waysOf root ps = W' ++ [wl]) :
    PlainLaw (textsS (W' ++ [wl]) wl.2) (normS wl.1) := by
  have hwl : wl = wayF root ps := by
    have := ways_last root ps
    rw [hW, List.getLast?_append] at this
    simpa using this
  have hrl := root_cs hr
  obtain ⟨l1, l2, l3, l4⟩ := wayF_cs hr ps hp
  have hEne : ∀ {D : List Str}, (∀ p ∈ D, IsPiece p) → ∀ c ∈ effs D, c ≠ [] := by
    intro D hD c hc
    rw [← (wayF_cs hr D hD).2.2.1] at hc
    exact (eff_ne hc).1
  generalize hS : stL (absOf (cs root)) (effs ps) = S
  have hSc : ∀ c ∈ S, c ≠ [] := by
    intro c hc
    rw [← hS] at hc
    exact hEne hp c ((stack_sub _ _).subset hc)
  have hplain : cs (normS wl.1) = cs root ++ pln (cs root) S := by
    rw [hwl, norm_cs hrl l1 l2, l3, hS, normL_pln hSc]
  -- each text
  have hall : ∀ x ∈ textsS (W' ++ [wl]) wl.2, ∃ t', cs x = cs root ++ t' ∧ t'.head? ≠ some 47 ∧ stL (absOf (cs root)) (eff t') = S ∧ (cs root = [] → t' ≠ []) ∧ x.length ≤ 1000 := by
    intro x hx
    obtain ⟨y, hy, hy2, rfl⟩ := texts_mem.mp hx
    rw [← hW] at hy
    have hlen := (ways_bound (root_len hr) ps hp).1 y hy
    obtain ⟨D, hD, rfl⟩ := (ways_mem root ps y).mp hy
    have hDp : ∀ p ∈ D, IsPiece p := fun p h => hp p (hD.subset h)
    obtain ⟨d1, d2, d3, d4⟩ := wayF_cs hr D hDp
    obtain ⟨t', e1, e2, e3, e4, _, _⟩ := textOf_cs d1 d2
    refine ⟨t', e1, e2, ?_, e4, ?_⟩
    · rw [e3, d3, ← hS]
      refine stack_of_place (hEne hDp) (hEne hp) ?_ ?_ ?_
      · have := effs_len D hDp; have := hD.length_le; omega
      · have := effs_len ps hp; omega
      · rw [← d4, hy2, hwl, l4]
    · unfold textOf
      split
      · decide
      · omega
  have hin : normS wl.1 ∈ textsS (W' ++ [wl]) wl.2 := by
    have hsub : S.Sublist ((ps.filter fun p => decide (eff (cs p) ≠ [])).map cs) := by
      rw [← hS]
      refine (stack_sub _ _).trans ?_
      have : effs ps = (ps.filter fun p => decide (eff (cs p) ≠ [])).map cs := by
        clear l1 l2 l3 l4 hwl hW hl hS hSc hplain hall
        induction ps with
        | nil => rfl
        | cons p ps ih =>
          have e : effs (p :: ps) = eff (cs p) ++ effs ps := rfl
          rw [e, ih fun q hq => hp q (.tail _ hq)]
          rcases eff_piece (hp p (.head _)) with ⟨_, e⟩ | ⟨_, e, _, _⟩
          · rw [List.filter_cons_of_neg (by simp [e]), e]; rfl
          · rw [List.filter_cons_of_pos (by simp [e]), e]; rfl
      rw [this]
      exact List.Sublist.refl _
    obtain ⟨D, hD, hDS⟩ := List.sublist_map_iff.mp hsub
    have hDps : D.Sublist ps := hD.trans List.filter_sublist
    have hDp : ∀ p ∈ D, IsPiece p := fun p h => hp p (hDps.subset h)
    have hDe : ∀ p ∈ D, eff (cs p) = [cs p] ∧ 47 ∉ cs p ∧ cs p ≠ [] := by
      intro p h
      have h1 := (List.mem_filter.mp (hD.subset h)).2
      rw [decide_eq_true_eq] at h1
      rcases eff_piece (hDp p h) with ⟨_, e⟩ | ⟨_, e, e2, e3⟩
      · exact absurd e h1
      · exact ⟨e, e2, e3⟩
    obtain ⟨d1, d2, d3, d4⟩ := wayF_cs hr D hDp
    have ht : tlOf D = jn S := by
      unfold tlOf
      rw [← hDS]
      refine fold_jt fun c hc => ?_
      rw [hDS] at hc
      obtain ⟨p, h, rfl⟩ := List.mem_map.mp hc
      obtain ⟨_, h2, h3⟩ := hDe p h
      refine ⟨h3, fun e => h2 ?_⟩
      exact List.mem_of_getLast? e
    have hE : effs D = S := by
      rw [hDS]
      clear d1 d2 d3 d4 ht hDS hD hDps hDp
      induction D with
      | nil => rfl
      | cons p D ih =>
        have e : effs (p :: D) = eff (cs p) ++ effs D := rfl
        rw [e, (hDe p (.head _)).1, ih fun q hq => hDe q (.tail _ hq)]; rfl
    refine texts_mem.mpr ⟨wayF root D, ?_, ?_, ?_⟩
    · rw [← hW]
      exact (ways_mem root ps _).mpr ⟨D, hDps, rfl⟩
    · apply map_inj
      rw [d4, hwl, l4, hE, ← hS]
      exact (stack_idem (hEne hp)).2
    · apply cs_inj
      obtain ⟨t', e1, e2, e3, e4, e5, e6⟩ := textOf_cs d1 d2
      rw [e1, hplain]
      congr 1
      unfold pln
      by_cases h : cs root = [] ∧ S = []
      · rw [if_pos h]
        refine e6 ?_ h.1
        rw [ht, h.2]; rfl
      · rw [if_neg h, ← ht]
        refine e5 ?_
        by_cases h1 : cs root = []
        · left
          rw [ht]
          intro e
          exact h ⟨h1, jn_nil hSc e⟩
        · exact .inr h1
  refine ⟨?_, hin, fun x hx => ?_⟩
  · obtain ⟨_, _, _, _, _, h⟩ := hall _ hin
    exact h
  obtain ⟨t', x1, x2, x3, x4, x5⟩ := hall x hx
  refine ⟨x5, ?_, fun hne => ?_⟩
  · apply cs_inj
    rw [norm_cs hrl x1 x2, x3, normL_pln hSc, hplain]
  have htne : t' ≠ pln (cs root) S := by
    rintro rfl
    exact hne (cs_inj (x1.trans hplain.symm))
  obtain ⟨c1, c2⟩ := cmp x3 x2 x4 htne
  have hlen : (cs (normS wl.1)).length < (cs x).length := by
    have := c2 1 (by omega)
    rw [G_one, G_one] at this
    rw [hplain, x1, List.length_append, List.length_append]
    omega
  refine ⟨?_, ?_, fun t h1 h2 => ?_, fun h => ?_⟩
  · rw [lead_n, lead_n]; exact hlen
  · rw [lead_nt, lead_nt, hplain, x1, List.count_append, List.count_append]; omega
  · obtain ⟨ts, rfl⟩ := Int.eq_ofNat_of_zero_le (show 0 ≤ t by omega)
    have hts : 0 < ts := by omega
    rw [lead_lvl _ hts, lead_lvl _ hts, hplain, x1, col_root hts hrl, col_root hts hrl]
    have := c2 ts (by omega)
    omega
  · have := lead_same h.1 h.2
    omega
end Mine
end

section
open PySem PySem.W PyProof.Rows PySem.Calls
set_option maxRecDepth 100000
set_option maxHeartbeats 8000000
set_option linter.all false
set_option rowWalk.seconds 0
namespace Mine
theorem fin : PySem.Challenge.rw_pd0083_01.Holds := hd (by
  k_with_none
  k_go0
  (all_goals try k_fold)
  rename Fr _ _ _ _ => F0
  rename News _ _ _ _ => N0
  rename Obj.data _ = _ => hc0
  rename Frag.In _ _ => X0
  rename Top _ _ _ _ _ _ => T0
  rename ¬ _ < _ => hlt
  rename _ = (#[] : Array _) => hg0
  refine' law_body ?ho X0 T0 ?hh ?hdp ?hu (by assumption) (by assumption) ?hlen ?F N0 ?hoc ?hP ?hQ
  case ho => k_is
  case hlen => omega
  case hh => rfl
  case hdp => exact Nat.le_of_ble_eq_true rfl
  case hu => exact Nat.le_of_ble_eq_true rfl
  case hP => exact fun root ps W' wl h1 h2 h3 h4 => plain_law h1 h2 h3 h4
  case F =>
    exact F0
  case hoc =>
    exact hc0
  case hQ =>
    intro h tk st
    exact ⟨.inl ⟨.bool true, .bool true, [], rfl, raisesW_false (by wrow_none_raised), .bool true, by wrow_post, unshared_nil⟩, st, rfl, hg0⟩
  )
end Mine
end

end

theorem PySem.Challenge.cw_pd0083_01_holds : PySem.Challenge.rw_pd0083_01.Holds := by
  exact Mine.fin
