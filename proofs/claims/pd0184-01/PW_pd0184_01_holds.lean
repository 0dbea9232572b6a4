import PyProof.Rows.All
import Wide.All
import OpenK.AllK
import Wide.FinOn
import Lean
import PySem.Challenge.RW_pd0184_01

set_option Elab.async false
set_option linter.unusedVariables false
set_option linter.unusedSimpArgs false
set_option maxRecDepth 100000
open PySem PySem.W PyProof.Rows
namespace Mine
-- TopK
section
open PySem PySem.W PyProof.Rows
section
local macro_rules | `(tactic| refine $e) => `(tactic| (refine' $e; (all_goals (try (with_reducible show LeftO _ _ _ _ _ _ _ _; intro w; kernel_rfl)))))
set_option maxRecDepth 100000 in
set_option maxHeartbeats 8000000 in
open_top hd for PySem.Challenge.rw_pd0184_01
end
end

theorem off_walk : True := by
  w_top off
  exact True.intro
open PySem PySem.W PyProof.Rows PySem.Calls PySem.Spec
local macro_rules | `(tactic| walk_at $s:str) => `(tactic| k_extra $s)
local macro_rules | `(tactic| k_qdec) => `(tactic| decide +kernel)
-- Base
theorem words1 : True := by
  k_with_none
  (k_with "MINE enter" => (refine' enter0 ?k1 ?k2 ?k3 ?k5 ?kA ?kF ?kK ?k6 ?k7 ?k8 ?k9 ?kB ?_ ?c2 ?c3 ?c4 ?c5; (case kA => exact rfl); (case kF => exact rfl); (case kK => assumption); (case k1 => k_asm); (case k2 => k_asm); (case k3 => k_asm); (case k5 => k_asm); (case k6 => k_is); (case k7 => k_is); (case k8 => ktr_room); (case k9 => exact BindsTo.of_eq rfl); (case c5 => decide); (case kB => exact locs rfl); (case c2 => exact rfl); (case c3 => exact rfl); (case c4 => exact rfl); k_whole; intro L' h' F' N' B' X' T'; (try dsimp only); (try k_fold)))
  (k_with "MINE open" => (
    unfold Spec
    intro dp un gd cn cs a ccd cl outer A₀ base h₀ L m s Q E B F X T hk hdp hu hpre hret
    revert X
    k_fill
    intro X
    refine wpAny_call ?_
    k_dflt (walk_at "MINE enter")
    clear F X T B))
  exact True.intro

section
open PySem PySem.W PyProof.Rows PySem.Calls PySem.Spec
noncomputable abbrev Ls : List Str := looseW hd.view_39 [Str.ofString "b2a_base64", Str.ofString "b64encode"]
noncomputable def Keeps (h h' : Heap) : Prop := ∀ b o, h.get? b = some o → h'.get? b = some o
theorem Keeps.refl (h : Heap) : Keeps h h := fun _ _ e => e
theorem Keeps.trans {a b c : Heap} (x : Keeps a b) (y : Keeps b c) : Keeps a c := fun p o e => y p o (x p o e)
theorem Keeps.list {h h' : Heap} (x : Keeps h h') {l : Addr} {vs : Array Value} (e : h.IsList l vs) : h'.IsList l vs := let ⟨o, a, r⟩ := e; ⟨o, x _ _ a, r⟩
noncomputable def Back (s : Shared) (Post : Heap → Value → Heap → Prop) (Q : Value → Shared → Prop) : Prop := ∀ r h' tk', Keeps s.heap h' → Post s.heap r h' → Q r { s with heap := h', toks := tk' }
noncomputable def Spec (w : World) (mean : ExcName → Option Value) (mg mb : Str → Option Value) (f : Addr) (dd uu : Nat) (args : List Value) (Pre : Heap → Prop) (Post : Heap → Value → Heap → Prop) : Prop :=
  ∀ (dp un : Nat) (gd : Option (List Code)) (cn : Str) (cs : Scope) (a : Addr) (ccd : Value) (cl : List (Str × Addr)) (outer : List Env) (A₀ : Around) (base h₀ : Heap) (L : Addr) (m : Str → Option Value) (s : Shared) (Q E : Value → Shared → Prop),
    Below A₀ base outer h₀ → Fr h₀ L s.heap m → (hd.heap_39 w.params).In h₀ → Top hd.view_39 Ls mean mg mb h₀ → cs.kind = .function →
    dp + dd < recursionLimit → un + uu < cLine → Pre s.heap →
    Back s Post Q →
    wpAny (model PySem.Challenge.rw_pd0184_01.row.toRowW.prog w) (ktrTop dp un gd cn cs L a ccd cl outer) (call (.ref f) args) Q E s

noncomputable def SpecKw (w : World) (mean : ExcName → Option Value) (mg mb : Str → Option Value) (f : Addr) (dd uu : Nat) (args : List Value) (kw : List (Str × Value)) (Pre : Heap → Prop) (Post : Heap → Value → Heap → Prop) : Prop :=
  ∀ (dp un : Nat) (gd : Option (List Code)) (cn : Str) (cs : Scope) (a : Addr) (ccd : Value) (cl : List (Str × Addr)) (outer : List Env) (A₀ : Around) (base h₀ : Heap) (L : Addr) (m : Str → Option Value) (s : Shared) (Q E : Value → Shared → Prop),
    Below A₀ base outer h₀ → Fr h₀ L s.heap m → (hd.heap_39 w.params).In h₀ → Top hd.view_39 Ls mean mg mb h₀ → cs.kind = .function →
    dp + dd < recursionLimit → un + uu < cLine → Pre s.heap →
    Back s Post Q →
    wpAny (model PySem.Challenge.rw_pd0184_01.row.toRowW.prog w) (ktrTop dp un gd cn cs L a ccd cl outer) (call (.ref f) args kw) Q E s

theorem Fr.after {h₀ h h' : Heap} {L : Addr} {m : Str → Option Value} (F : Fr h₀ L h m) (k : Keeps h h') : Fr h₀ L h' m := F.keeps k
theorem News.after {h₀ h h' : Heap} {L : Addr} {news : List (Addr × Obj)} (N : News h₀ L h news) (k : Keeps h h') : News h₀ L h' news := fun p hp => ⟨k _ _ (N p hp).1, (N p hp).2⟩
theorem News.fresh1 {h₀ h h' : Heap} {L a : Addr} {o : Obj} {m : Str → Option Value} {news : List (Addr × Obj)} (F : Fr h₀ L h m) (N : News h₀ L h news) (k : Keeps h h') (e : h'.get? a = some o) (n : h.get? a = none) :
    News h₀ L h' ((a, o) :: news) := fun p hp => by
  rcases List.mem_cons.mp hp with rfl | hp
  · refine ⟨e, fun q => ?_, ?_⟩
    · obtain ⟨oL, _, _, hL, _⟩ := F.ns
      have q' : a = L := q
      rw [← q', n] at hL; cases hL
    · cases z : h₀.get? a with
      | none => rfl
      | some o' => have := F.keep _ _ z; rw [n] at this; cases this
  · exact ⟨k _ _ (N p hp).1, (N p hp).2⟩

theorem News.fresh2 {h₀ h h' : Heap} {L L₁ a : Addr} {o : Obj} {m : Str → Option Value} {news : List (Addr × Obj)} (F : Fr h₀ L₁ h m) (N : News h₀ L h' news) (k : Keeps h h') (e : h'.get? a = some o) (n : h.get? a = none) (hL : L₁ = L) :
    News h₀ L h' ((a, o) :: news) := fun p hp => by
  subst hL
  rcases List.mem_cons.mp hp with rfl | hp
  · refine ⟨e, fun q => ?_, ?_⟩
    · obtain ⟨oL, _, _, hL, _⟩ := F.ns
      have q' : a = L₁ := q
      rw [← q', n] at hL; cases hL
    · cases z : h₀.get? a with
      | none => rfl
      | some o' => have := F.keep _ _ z; rw [n] at this; cases this
  · exact N p hp
theorem Spec.use {w : World} {mean : ExcName → Option Value} {mg mb : Str → Option Value} {f : Addr} {dd uu : Nat} {args : List Value} {Pre : Heap → Prop} {Post : Heap → Value → Heap → Prop}
    {dp un : Nat} {gd : Option (List Code)} {cn : Str} {cs : Scope} {a : Addr} {ccd : Value} {cl : List (Str × Addr)} {outer : List Env} {A₀ : Around} {base h₀ : Heap} {L : Addr} {m : Str → Option Value} {s : Shared} {Q E : Value → Shared → Prop} {news : List (Addr × Obj)}
    (S : Spec w mean mg mb f dd uu args Pre Post)
    (B : Below A₀ base outer h₀) (F : Fr h₀ L s.heap m) (X : (hd.heap_39 w.params).In h₀) (N : News h₀ L s.heap news) (T : Top hd.view_39 Ls mean mg mb h₀) (hk : cs.kind = .function)
    (hdp : dp + dd < recursionLimit) (hu : un + uu < cLine) (hpre : Pre s.heap)
    (ret : ∀ r h' tk', Fr h₀ L h' m → News h₀ L h' news → Keeps s.heap h' → Post s.heap r h' → Q r { s with heap := h', toks := tk' }) :
    wpAny (model PySem.Challenge.rw_pd0184_01.row.toRowW.prog w) (ktrTop dp un gd cn cs L a ccd cl outer) (call (.ref f) args) Q E s :=
  S _ _ _ _ _ _ _ _ _ _ _ _ _ _ _ _ _ B F X T hk hdp hu hpre fun r h' tk' k p => ret r h' tk' (Fr.after F k) (News.after N k) k p

theorem SpecKw.use {w : World} {mean : ExcName → Option Value} {mg mb : Str → Option Value} {f : Addr} {dd uu : Nat} {args : List Value} {kw : List (Str × Value)} {Pre : Heap → Prop} {Post : Heap → Value → Heap → Prop}
    {dp un : Nat} {gd : Option (List Code)} {cn : Str} {cs : Scope} {a : Addr} {ccd : Value} {cl : List (Str × Addr)} {outer : List Env} {A₀ : Around} {base h₀ : Heap} {L : Addr} {m : Str → Option Value} {s : Shared} {Q E : Value → Shared → Prop} {news : List (Addr × Obj)}
    (S : SpecKw w mean mg mb f dd uu args kw Pre Post)
    (B : Below A₀ base outer h₀) (F : Fr h₀ L s.heap m) (X : (hd.heap_39 w.params).In h₀) (N : News h₀ L s.heap news) (T : Top hd.view_39 Ls mean mg mb h₀) (hk : cs.kind = .function)
    (hdp : dp + dd < recursionLimit) (hu : un + uu < cLine) (hpre : Pre s.heap)
    (ret : ∀ r h' tk', Fr h₀ L h' m → News h₀ L h' news → Keeps s.heap h' → Post s.heap r h' → Q r { s with heap := h', toks := tk' }) :
    wpAny (model PySem.Challenge.rw_pd0184_01.row.toRowW.prog w) (ktrTop dp un gd cn cs L a ccd cl outer) (call (.ref f) args kw) Q E s :=
  S _ _ _ _ _ _ _ _ _ _ _ _ _ _ _ _ _ B F X T hk hdp hu hpre fun r h' tk' k p => ret r h' tk' (Fr.after F k) (News.after N k) k p

noncomputable def Ret0 (Q : Value → Shared → Prop) (v : Value) (s' : Shared) : Prop := Q v s'
theorem ret0 {Q : Value → Shared → Prop} {v : Value} {s' : Shared} (h : Q v s') : Ret0 Q v s' := h
theorem Back.fin {Q : Value → Shared → Prop} {s : Shared} {Post : Heap → Value → Heap → Prop} (b : Back s Post Q) : ∀ {v : Value} {L : Addr} {h' : Heap} {tk : Nat} {m : Str → Option Value}, Fr s.heap L h' m → Post s.heap v h' → Ret0 Q v { s with heap := h', toks := tk } := fun F p => b _ _ _ F.keep p

theorem enter0 {prog : Program} {w : World} {A₀ A : Around} {E : Value → Shared → Prop} {s : Shared} {K : Frag} {h₀ base : Heap} {L : Addr} {m mg mb : Str → Option Value} {p : Program} {loose : List Str} {mean : ExcName → Option Value} {env : Env} {outer : List Env} {Q : Value → Shared → Prop}
    {name qual : Str} {params : Arguments} {body : List Stmt} {scope : Scope} {dV kV doc pm cdv ct oc : Value} {an od : Option Addr} {osl : Array (Option Value)} {f : Addr} {args : Args} {binds : List (Str × Value)}
    (B : Below A₀ base outer h₀) (F : Fr h₀ L s.heap m) (X₀ : K.In h₀) (T : Top p loose mean mg mb h₀) (hA : A.frames = some (env :: outer)) (hf : env.frame = some L) (hke : env.scope.kind = .function)
    (ho : K.lookup f = some ⟨oc, od, .func (fnOf name qual params body scope dV kV doc pm an cdv ct), osl⟩) (hcd : codeIn K cdv qual = true) (hroom : A.depth < recursionLimit)
    (hbind : BindsTo s (fnOf name qual params body scope dV kV doc pm an cdv ct) args binds) (hloc : ∀ y ∈ binds, scope.names.lookup y.1 = some .local)
    (h : ∀ L' h₁, Fr s.heap L' h₁ (fun y => binds.reverse.lookup y) → News s.heap L' h₁ [] → Below A base (env :: outer) s.heap → K.In s.heap → Top p loose mean mg mb s.heap →
      wpAny (model prog w) (A.deeper (envOf qual scope L' f cdv)) (execs body (envOf qual scope L' f cdv))
        (fun fl s' => Ret0 Q (match fl with | .ret v => v | _ => .none) s')
        (fun e s' => wpAny (model prog w) (A.deeper (envOf qual scope L' f cdv)) (leaving (envOf qual scope L' f cdv) e) (fun _ s'' => E e s'') (fun e' s'' => E e' s'') s')
        { s with heap := h₁, toks := s.toks + binds.length })
    (hco : scope.isCoroutine = false) (hgen : scope.isGenerator = false) (hk : scope.kind = .function)
    (hcell : ∀ x ∈ scope.names, x.2 ≠ .cell) : codeAny (model prog w) A (.call (.ref f) args) (fun r s' => match r with | .ok (.ret v) => Q v s' | .ok _ => False | .error e => E e s') s := by
  obtain ⟨FG, BG, st, lv⟩ := groundX (R := fun _ _ => True) (news := []) B F (News.nil) hA hf hke
  have st' : Keeps h₀ s.heap := F.keep
  refine codeAny_call_def (fd := fnX name qual params body scope [] dV kV doc pm an cdv ct) (body := body) (binds := binds) hroom ((X₀.keeps F.keep) _ _ ho) rfl (T.nolimit.keeps F.keep) (codeRec_of (X₀.keeps F.keep) hcd) rfl hbind hcell hloc (fun h₁ hns hk₁ => ?_) hco hgen hk
  exact wpAny_mono (h s.heap.objs.size h₁ ⟨hns, hk₁, Nat.le_refl _⟩ News.nil BG (X₀.keeps F.keep) (T.keeps F.keep)) (fun fl s' hl => hl) fun _ _ y => y

theorem wp_alloc1 {α : Type} {K : Frag} {M : Model} {A : Around} {E : Value → Shared → Prop} {Q : α → Shared → Prop} {s : Shared} {o : Obj} {r : Addr → α} (X : K.In s.heap)
    (q : Q (r s.heap.objs.size) { s with heap := s.heap.push o }) :
    ∀ (t : Sem α) (g : Addr → Option α), peek1 K ⟨M.prog, M.w.params⟩ t = some (o, g) → (∀ D, g D = some (r D)) → wpAny M A t Q E s := by
  intro t
  induction t with
  | rule tag k ih => intro g e hg Γ p hΓ; exact ih () g e hg Γ p hΓ
  | point l k ih => intro g e hg Γ p hΓ; exact ih () g e hg Γ p hΓ
  | ask k ih => intro g e hg Γ p hΓ; exact ih _ g e hg Γ p hΓ
  | load a part k ih =>
    intro g e hg Γ p hΓ
    simp only [peek1] at e
    split at e
    · rename_i ob ho; exact ⟨ob, X _ _ ho, ih ob g e hg Γ p hΓ⟩
    · cases e
  | alloc ob k ih =>
    intro g e hg
    have e' : some (ob, fun D => peek K ⟨M.prog, M.w.params⟩ (k D)) = some (o, g) := e
    obtain ⟨e1, e2⟩ := Prod.mk.inj (Option.some.inj e')
    subst e1
    subst e2
    have X' : K.In (s.heap.push ob) := X.keeps fun b x hb => Heap.get?_push_of_some _ hb
    show wpAny M A (alloc ob >>= k) Q E s
    refine wpAny_bind (wpAny_alloc ?_)
    exact (Looks.of_peek (M := M) (h := s.heap.push ob) X' (hg s.heap.objs.size)).here (s := { s with heap := s.heap.push ob }) q
  | _ => intro g e; cases e

theorem enterS {prog : Program} {w : World} {A₀ A : Around} {E : Value → Shared → Prop} {s : Shared} {K : Frag} {h₀ base : Heap} {L : Addr} {m mg mb : Str → Option Value} {p : Program} {loose : List Str} {mean : ExcName → Option Value} {env : Env} {outer : List Env} {Q : Value → Shared → Prop}
    {name qual : Str} {params : Arguments} {body : List Stmt} {scope : Scope} {dV kV doc pm cdv ct oc : Value} {an od : Option Addr} {osl : Array (Option Value)} {f : Addr} {args : Args} {vs : List Value} {g₁ : Addr → Option (List (Str × Value))} {binds : Addr → List (Str × Value)}
    (B : Below A₀ base outer h₀) (F : Fr h₀ L s.heap m) (X₀ : K.In h₀) (T : Top p loose mean mg mb h₀) (hA : A.frames = some (env :: outer)) (hf : env.frame = some L) (hke : env.scope.kind = .function)
    (ho : K.lookup f = some ⟨oc, od, .func (fnOf name qual params body scope dV kV doc pm an cdv ct), osl⟩) (hcd : codeIn K cdv qual = true) (hroom : A.depth < recursionLimit)
    (hv : args.pos.drop (params.posonlyargs.length + params.args.length) = vs)
    (hp : peek1 K ⟨prog, w.params⟩ (bindArgs (fnOf name qual params body scope dV kV doc pm an cdv ct) args) = some (({ cls := .type "tuple", data := .seq vs.toArray } : Obj), g₁))
    (hg : ∀ D, g₁ D = some (binds D)) (hloc : ∀ D, ∀ y ∈ binds D, scope.names.lookup y.1 = some .local)
    (h : ∀ D L' h₁, Fr s.heap L' h₁ (fun y => (binds D).reverse.lookup y) → News s.heap L' h₁ [(D, ({ cls := .type "tuple", data := .seq vs.toArray } : Obj))] → Below A base (env :: outer) s.heap → K.In s.heap → Top p loose mean mg mb s.heap →
      wpAny (model prog w) (A.deeper (envOf qual scope L' f cdv)) (execs body (envOf qual scope L' f cdv))
        (fun fl s' => Ret0 Q (match fl with | .ret v => v | _ => .none) s')
        (fun e s' => wpAny (model prog w) (A.deeper (envOf qual scope L' f cdv)) (leaving (envOf qual scope L' f cdv) e) (fun _ s'' => E e s'') (fun e' s'' => E e' s'') s')
        { s with heap := h₁, toks := s.toks + (binds D).length })
    (hco : scope.isCoroutine = false) (hgen : scope.isGenerator = false) (hk : scope.kind = .function)
    (hcell : ∀ x ∈ scope.names, x.2 ≠ .cell) : codeAny (model prog w) A (.call (.ref f) args) (fun r s' => match r with | .ok (.ret v) => Q v s' | .ok _ => False | .error e => E e s') s := by
  have _ := hv
  obtain ⟨FG, BG, st, lv⟩ := groundX (R := fun _ _ => True) (news := []) B F (News.nil) hA hf hke
  refine codeAny_call_function (fd := fnOf name qual params body scope dV kV doc pm an cdv ct) (body := body) hroom ((X₀.keeps F.keep) _ _ ho) rfl hco hgen rfl (codeRec_of (X₀.keeps F.keep) hcd) ?_
  refine wp_alloc1 (r := binds) (X₀.keeps F.keep) ?_ _ g₁ hp hg
  have hpush : ∀ b o, s.heap.get? b = some o → (s.heap.push ({ cls := .type "tuple", data := .seq vs.toArray } : Obj)).get? b = some o := fun b o e => Heap.get?_push_of_some _ e
  refine wpAny_newFunctionEnv hcell (hloc _) (fun h₁ hns hsb => ⟨((T.nolimit.keeps F.keep).keeps hpush).fresh _ hsb, codeAny_func ?_⟩) hk
  have hk₁ : ∀ b o, (s.heap.push ({ cls := .type "tuple", data := .seq vs.toArray } : Obj)).get? b = some o → h₁.get? b = some o := fun b o e => hsb.extBut b o (Nat.ne_of_lt (Heap.lt_size e)) (Heap.get?_push_of_some _ e)
  have hsz : (s.heap.push ({ cls := .type "tuple", data := .seq vs.toArray } : Obj)).objs.size = s.heap.objs.size + 1 := Heap.size_push ..
  show wpAny (model prog w) (A.deeper (envX qual scope (s.heap.push ({ cls := .type "tuple", data := .seq vs.toArray } : Obj)).objs.size f cdv [])) (execs body (envX qual scope (s.heap.push ({ cls := .type "tuple", data := .seq vs.toArray } : Obj)).objs.size f cdv [])) _ _ _
  refine wpAny_mono (h s.heap.objs.size (s.heap.push ({ cls := .type "tuple", data := .seq vs.toArray } : Obj)).objs.size h₁ ⟨hns, fun b o e => hk₁ b o (hpush b o e), by rw [hsz]; exact Nat.le_succ _⟩ (fun q hq => ?_) BG (X₀.keeps F.keep) (T.keeps F.keep)) (fun fl s' hl => hl) fun _ _ y => y
  rw [List.mem_singleton.mp hq]
  refine ⟨hk₁ _ _ (Heap.get?_push_size _ rfl), by rw [hsz]; exact Nat.ne_of_lt (Nat.lt_succ_self _), ?_⟩
  cases z : s.heap.get? s.heap.objs.size with
  | none => rfl
  | some o' => exact absurd (Heap.lt_size z) (Nat.lt_irrefl _)
end

-- Sub

section
open PySem PySem.W PyProof.Rows PySem.Calls PySem.Spec
theorem kind_subn : builtinKind "issubclass.nested" = none := by decide +kernel
theorem plain_subn : plainId "issubclass.nested" = true := by decide +kernel
theorem args_subn (a b c : Value) : argsOk "issubclass.nested" ⟨[a, b, c], []⟩ := by unfold argsOk; kernel_rfl
theorem sub_str : isSubtype (.type "str") (.type "str") = pure true := by rw [isSubtype_type]; kernel_rfl
section
variable {prog : Program} {w : World} {A : Around} {E : Value → Shared → Prop} {s : Shared}
theorem subn_one {k : Value} {dep : Int} {tk : Tok} {Q : Fin → Shared → Prop} (hk : k = .int dep tk) (hq : Q (.done (.ret (.bool true))) s) :
    wpAny (model prog w) A (Builtin.«issubclass.nested» ⟨[.type "str", .type "str", k], []⟩) Q E s := by
  subst hk
  have hself := sub_str
  have ht : typeOf (.type "str") = pure (.type "type") := by kernel_rfl
  repeat (any_goals (first | assumption | (rw [hself]) | wp_step))
theorem subn_one_meets {dep : Int} {tk : Tok} : Meets (Builtin.«issubclass.nested» ⟨[.type "str", .type "str", .int dep tk], []⟩) (fun _ R s => R (.ok (.ret (.bool true))) s) :=
  fun _ _ _ _ _ hs => subn_one rfl hs
theorem subn_tup {tp : Addr} {k : Value} {tk : Tok} {Q : Fin → Shared → Prop} (hk : k = .int 0 tk) {cs : List Value} (hcs : cs = [.type "str", .type "bytes"]) (htp : s.heap.get? tp = some { cls := .type "tuple", data := .seq cs.toArray })
    (hq : Q (.done (.ret (.bool true))) s) :
    wpAny (model prog w) A (Builtin.«issubclass.nested» ⟨[.type "str", .ref tp, k], []⟩) Q E s := by
  subst hk
  obtain ⟨h, g, d, t, os⟩ := s
  have hT2 : (⟨h, g, d, t, os⟩ : Shared).TypeIs (.ref tp) "tuple" := ⟨_, htp, rfl⟩
  have f1 := F.isi_sub_tuple
  repeat (any_goals (first | assumption | wp_step))
  refine wpAny_arrayLoop ?_
  subst hcs
  simp only [Option.getD_some, List.toList_toArray, List.forIn_cons]
  refine wpAny_bind (wpAny_bind (call_function_meets kind_subn plain_subn F.entry_issubclass_nested (args_subn _ _ _) subn_one_meets ?_))
  show wpAny _ _ (truthy (.bool true) >>= _) _ _ _
  refine wpAny_bind (m := truthy (.bool true)) (wpAny_pure ?_)
  exact wpAny_bind (wpAny_pure (wpAny_pure (wpAny_pure (wpAny_pure hq))))
theorem issub_call {tp : Addr} {Q : Value → Shared → Prop} (htp : s.heap.get? tp = some { cls := .type "tuple", data := .seq #[.type "str", .type "bytes"] }) (hq : Q (.bool true) s) :
    wpAny (model prog w) A (call (.builtin "issubclass") [.type "str", .ref tp]) Q E s :=
  call_issubclass (S := fun _ R s => s.heap.get? tp = some { cls := .type "tuple", data := .seq #[.type "str", .type "bytes"] } ∧ R (.ok (.ret (.bool true))) s)
    (fun _ _ _ _ _ hs => issubclass_outer (subn_tup rfl rfl hs.1 hs.2)) ⟨htp, hq⟩
end
end

-- Fsp
theorem words2 : True := by
  k_with_none
  (k_with "MINE enter" => (refine' enter0 ?k1 ?k2 ?k3 ?k5 ?kA ?kF ?kK ?k6 ?k7 ?k8 ?k9 ?kB ?_ ?c2 ?c3 ?c4 ?c5; (case kA => exact rfl); (case kF => exact rfl); (case kK => assumption); (case k1 => k_asm); (case k2 => k_asm); (case k3 => k_asm); (case k5 => k_asm); (case k6 => k_is); (case k7 => k_is); (case k8 => ktr_room); (case k9 => exact BindsTo.of_eq rfl); (case c5 => decide); (case kB => exact locs rfl); (case c2 => exact rfl); (case c3 => exact rfl); (case c4 => exact rfl); k_whole; intro L' h' F' N' B' X' T'; (try dsimp only); (try k_fold)))
  (k_with "MINE open" => (
    unfold Spec
    intro dp un gd cn cs a ccd cl outer A₀ base h₀ L m s Q E B F X T hk hdp hu hpre hret
    revert X
    k_fill
    intro X
    refine wpAny_call ?_
    k_dflt (walk_at "MINE enter")
    clear F X T B))
  (k_with "MINE fin" => ((rename Back _ _ _ => hb9); (have hb8 := @Back.fin _ _ _ hb9); refine hb8 (by assumption) ?_))
  (k_with "call builtin:issubclass" => (k_here; (with_reducible show wpAny _ _ (call (Value.builtin "issubclass") [Value.type "str", Value.ref _]) _ _ _); k_dflt (refine issub_call (by exact News.get (by k_asm) (by k_mem)) ?_); k_whole))
  exact True.intro

section
open PySem PySem.W PyProof.Rows PySem.Calls PySem.Spec
set_option maxHeartbeats 8000000 in
theorem fspath_spec (w : World) (mean : ExcName → Option Value) (mg mb : Str → Option Value) (p : Str) (t : Tok) : Spec w mean mg mb 131 4 60 [.str p t] (fun h => True)
   (fun h r h' => r = .str p t) := by
  walk_at "MINE open"
  k_steps
  walk_at "MINE fin"
  exact rfl
set_option maxHeartbeats 8000000 in
theorem getsep_spec (w : World) (mean : ExcName → Option Value) (mg mb : Str → Option Value) (p : Str) (t : Tok) : Spec w mean mg mb 145 4 60 [.str p t] (fun h => True)
   (fun h r h' => ∃ u, r = .str "/" u) := by
  walk_at "MINE open"
  k_steps
  walk_at "MINE fin"
  exact ⟨_, rfl⟩
end

-- Loop

section
open PySem PySem.W PyProof.Rows PySem.Calls PySem.Spec
noncomputable def frm : List (Str × Value) → List Str → (Str → Option Value) → (Str → Option Value) → Str → Option Value
  | [], temps, u, m₀ => fun z => if temps.contains z then u z else m₀ z
  | (k, v) :: r, temps, u, m₀ => fun z => if z = k then some v else frm r temps u m₀ z
theorem frm_at {temps : List Str} {m₀ m' : Str → Option Value} {z : Str} : ∀ {kvs : List (Str × Value)}, (∀ kv ∈ kvs, m' kv.1 = some kv.2) → ((kvs.map (·.1)).contains z = false → temps.contains z = false → m' z = m₀ z) → frm kvs temps m' m₀ z = m' z
  | [], _, h2 => by
    show (if temps.contains z = true then m' z else m₀ z) = m' z
    cases ht : temps.contains z with
    | true => rfl
    | false => simp only [Bool.false_eq_true, if_false]; exact (h2 rfl ht).symm
  | (k, v) :: r, h1, h2 => by
    show (if z = k then some v else frm r temps m' m₀ z) = m' z
    by_cases hz : z = k
    · rw [if_pos hz, hz]; exact (h1 _ (.head _)).symm
    · rw [if_neg hz]
      refine frm_at (fun kv hkv => h1 kv (.tail _ hkv)) fun hr ht => h2 ?_ ht
      simp only [List.map_cons, List.contains_cons, hr, Bool.or_false]
      exact beq_eq_false_iff_ne.mpr hz
theorem frm_of {temps : List Str} {m₀ m' : Str → Option Value} {kvs : List (Str × Value)} (h1 : ∀ kv ∈ kvs, m' kv.1 = some kv.2) (h2 : ∀ z, (kvs.map (·.1)).contains z = false → temps.contains z = false → m' z = m₀ z) : frm kvs temps m' m₀ = m' :=
  funext fun z => frm_at h1 (h2 z)

theorem off1 {I : Addr} : ∀ {l : List (Addr × Obj)}, (∀ p ∈ l, p.1 ≠ I) → LCg.Off1 I l
  | [], _ => trivial
  | p :: _, h => ⟨h p (.head _), off1 fun q hq => h q (.tail _ hq)⟩
theorem off_upd {I D : Addr} {o : Obj} {r : List (Addr × Obj)} (h : ∀ p ∈ (D, o) :: r, p.1 ≠ I) (o' : Obj) : ∀ p ∈ (D, o') :: r, p.1 ≠ I := fun p hp => by
  rcases List.mem_cons.mp hp with rfl | hp
  · exact h (D, o) (.head _)
  · exact h p (.tail _ hp)
theorem size_ne {h₀ h : Heap} {L I : Addr} {oI : Obj} {all : List (Addr × Obj)} (N : News h₀ L h all) (hm : (I, oI) ∈ all) : h.objs.size ≠ I := Nat.ne_of_gt (Heap.lt_size (N _ hm).1)
theorem fresh_ne {h₀ h : Heap} {L I a : Addr} {oI : Obj} {all : List (Addr × Obj)} (hn : h.get? a = none) (N : News h₀ L h all) (hm : (I, oI) ∈ all) : a ≠ I := fun q => by
  have := (N _ hm).1
  rw [← q, hn] at this; cases this
noncomputable def ItO (o : Obj) : Prop := o.cls ≠ .type "list" ∧ o.cls ≠ .type "tuple"
theorem ItO.mk' {o : Obj} {T : String} (h : o.cls = .type T) (h1 : T ≠ "list" := by decide) (h2 : T ≠ "tuple" := by decide) : ItO o := ⟨fun q => by rw [h] at q; exact h1 (Value.type.inj q), fun q => by rw [h] at q; exact h2 (Value.type.inj q)⟩
theorem list_ne {h₀ h : Heap} {L I a : Addr} {oI o : Obj} {all : List (Addr × Obj)} (N : News h₀ L h all) (hm : (I, oI) ∈ all) (ha : (a, o) ∈ all) (hI : ItO oI) (hc : o.cls = .type "list") : a ≠ I := fun q => by
  have h1 := (N _ hm).1
  have h2 := (N _ ha).1
  dsimp only at h1 h2
  rw [q, h1] at h2
  rw [← Option.some.inj h2] at hc
  exact hI.1 hc
noncomputable def Stop (P : Prop) : Prop := P
theorem Stop.go {P : Prop} (h : P) : Stop P := h

noncomputable def FTurn (h₀ : Heap) (L : Addr) (x : Str) (temps : List Str) (m₀ : Str → Option Value) (I : Addr) (oI : Obj) (Inv' : List (Str × Value) → List (Addr × Obj) → Prop) (s₁ : Shared) (Q : Flow → Shared → Prop) (f : Flow) (s₂ : Shared) : Prop :=
  match f with
  | .ret v => Q (.ret v) s₂
  | .brk => Q .next s₂
  | _ => ∃ h' tk m' kvs nx all, s₂ = { s₁ with heap := h', toks := tk } ∧ Fr h₀ L h' m' ∧ News h₀ L h' all ∧ (∀ p ∈ (I, oI) :: nx, p ∈ all) ∧ (∀ p ∈ nx, p.1 ≠ I) ∧ (∀ kv ∈ kvs, m' kv.1 = some kv.2) ∧
      (∀ z, (kvs.map (·.1)).contains z = false → (x :: temps).contains z = false → m' z = m₀ z) ∧ Inv' kvs nx
theorem FTurn.mk {h₀ : Heap} {L : Addr} {x : Str} {temps : List Str} {m₀ : Str → Option Value} {I : Addr} {oI : Obj} {Inv' : List (Str × Value) → List (Addr × Obj) → Prop} {s₁ : Shared} {Q : Flow → Shared → Prop} {h' : Heap} {tk : Nat} {m' : Str → Option Value} {all : List (Addr × Obj)}
    (F : Fr h₀ L h' m') (N : News h₀ L h' all) (kvs : List (Str × Value)) (nx : List (Addr × Obj)) (hs : ∀ p ∈ (I, oI) :: nx, p ∈ all) (ho : ∀ p ∈ nx, p.1 ≠ I) (h1 : ∀ kv ∈ kvs, m' kv.1 = some kv.2)
    (h2 : ∀ z, (kvs.map (·.1)).contains z = false → (x :: temps).contains z = false → m' z = m₀ z) (j : Inv' kvs nx) : FTurn h₀ L x temps m₀ I oI Inv' s₁ Q .next { s₁ with heap := h', toks := tk } :=
  ⟨h', tk, m', kvs, nx, all, rfl, F, N, hs, ho, h1, h2, j⟩
theorem FTurn.mkc {h₀ : Heap} {L : Addr} {x : Str} {temps : List Str} {m₀ : Str → Option Value} {I : Addr} {oI : Obj} {Inv' : List (Str × Value) → List (Addr × Obj) → Prop} {s₁ : Shared} {Q : Flow → Shared → Prop} {h' : Heap} {tk : Nat} {m' : Str → Option Value} {all : List (Addr × Obj)}
    (F : Fr h₀ L h' m') (N : News h₀ L h' all) (kvs : List (Str × Value)) (nx : List (Addr × Obj)) (hs : ∀ p ∈ (I, oI) :: nx, p ∈ all) (ho : ∀ p ∈ nx, p.1 ≠ I) (h1 : ∀ kv ∈ kvs, m' kv.1 = some kv.2)
    (h2 : ∀ z, (kvs.map (·.1)).contains z = false → (x :: temps).contains z = false → m' z = m₀ z) (j : Inv' kvs nx) : FTurn h₀ L x temps m₀ I oI Inv' s₁ Q .cont { s₁ with heap := h', toks := tk } :=
  ⟨h', tk, m', kvs, nx, all, rfl, F, N, hs, ho, h1, h2, j⟩

section
variable {prog : Program} {w : World} {A : Around} {E : Value → Shared → Prop} {s : Shared} {env : Env} {h₀ : Heap} {x : Str} {body : List Stmt} {Q : Flow → Shared → Prop} {m₀ : Str → Option Value} {news : List (Addr × Obj)}

/-- a loop, by what holds between its turns: the values of the names that it keeps, its ledger -/
theorem for_any {I : Addr} {fp : List Addr} {n : Nat} {P : Nat → Value → Prop} {St : Nat → Heap → Prop} (W : Walks prog w A I fp [I] n P St) (temps : List Str) (Inv : Nat → List (Str × Value) → List (Addr × Obj) → Prop)
    (hfp : ∀ b ∈ fp, b = I ∨ (∃ o, h₀.get? b = some o) ∨ (∃ o, ∀ i kvs nx, Inv i kvs nx → (b, o) ∈ nx))
    (hLf : env.locals ∉ fp) (hI : h₀.get? I = none) (hex : ∀ i h, St i h → ∃ o, h.get? I = some o ∧ ItO o) (hst : St 0 s.heap) (F : Fr h₀ env.locals s.heap m₀) (N : News h₀ env.locals s.heap news)
    (kvs₀ : List (Str × Value)) (nx₀ : List (Addr × Obj)) (hk₀ : ∀ kv ∈ kvs₀, m₀ kv.1 = some kv.2) (hn₀ : ∀ p ∈ nx₀, p ∈ news) (ho₀ : ∀ p ∈ nx₀, p.1 ≠ I) (h0 : Inv 0 kvs₀ nx₀)
    (turn : ∀ i v kvs nx u oI h tk, i < n → P i v → Inv i kvs nx → (∀ p ∈ nx, p.1 ≠ I) → ItO oI → Fr h₀ env.locals h (fun y => if y = x then some v else frm kvs (x :: temps) u m₀ y) → News h₀ env.locals h ((I, oI) :: nx) →
      wpAny (model prog w) A (execs body env) (FTurn h₀ env.locals x temps m₀ I oI (Inv (i + 1)) { s with heap := h, toks := tk } Q) E { s with heap := h, toks := tk })
    (done : ∀ kvs nx u h tk, Inv n kvs nx → Fr h₀ env.locals h (frm kvs (x :: temps) u m₀) → News h₀ env.locals h nx → Q .next { s with heap := h, toks := tk }) :
    LoopAtV prog w A h₀ env x body Q E (.ref I) s := by
  refine ⟨I, fp, [I], n, P, St, m₀, nx₀, fun i m nx => ∃ kvs, Inv i kvs nx ∧ (∀ kv ∈ kvs, m kv.1 = some kv.2) ∧ (∀ z, (kvs.map (·.1)).contains z = false → (x :: temps).contains z = false → m z = m₀ z),
    rfl, W, hLf, (fun b hb => by rw [List.mem_singleton.mp hb]; exact hI), (fun p hp q => ho₀ p hp (List.mem_singleton.mp q)), hst, F, (fun p hp => N p (hn₀ p hp)), ⟨kvs₀, h0, hk₀, fun _ _ _ => rfl⟩, ?_, ?_⟩
  · rintro i v m₁ nx s₁ own ⟨h, tk, rfl⟩ hi hP ⟨kvs, hinv, hk, hm⟩ hoff hown hget hmem hst₁ F₁ N₁
    obtain ⟨oI, heI, hIO⟩ := hex _ _ hst₁
    have hIf : I ∈ fp := W.sub I (List.mem_singleton.mpr rfl)
    have hIm : (I, oI) ∈ own := hmem I hIf hI oI heI
    have e : (fun y => if y = x then some v else m₁ y) = fun y => if y = x then some v else frm kvs (x :: temps) m₁ m₀ y := by rw [frm_of hk hm]
    rw [e] at F₁
    have N₂ : News h₀ env.locals h ((I, oI) :: nx) := fun p hp => by
      rcases List.mem_cons.mp hp with rfl | hp
      · exact N₁ _ (List.mem_append_left _ hIm)
      · exact N₁ _ (List.mem_append_right _ hp)
    have hoff' : ∀ p ∈ nx, p.1 ≠ I := fun p hp q => hoff p hp (List.mem_singleton.mpr q)
    refine wpAny_mono (turn i v kvs nx m₁ oI h tk hi hP hinv hoff' hIO F₁ N₂) (fun f s₂ p => ?_) fun _ _ e => e
    have fin : (∃ h' tk' m' kvs nx all, s₂ = { ({ s with heap := h, toks := tk } : Shared) with heap := h', toks := tk' } ∧ Fr h₀ env.locals h' m' ∧ News h₀ env.locals h' all ∧ (∀ p ∈ (I, oI) :: nx, p ∈ all) ∧ (∀ p ∈ nx, p.1 ≠ I) ∧ (∀ kv ∈ kvs, m' kv.1 = some kv.2) ∧
        (∀ z, (kvs.map (·.1)).contains z = false → (x :: temps).contains z = false → m' z = m₀ z) ∧ Inv (i + 1) kvs nx) →
        LoopStepU h₀ env.locals [I] own (fun m nx => ∃ kvs, Inv (i + 1) kvs nx ∧ (∀ kv ∈ kvs, m kv.1 = some kv.2) ∧ (∀ z, (kvs.map (·.1)).contains z = false → (x :: temps).contains z = false → m z = m₀ z)) { s with heap := h, toks := tk } .next s₂ := by
      rintro ⟨h', tk', m', kvs', nx', all, e, F', N', hs, ho, h1, h2, j⟩
      refine ⟨rfl, h', tk', m', nx', e, F', fun p hp => ?_, fun p hp q => ho p hp (List.mem_singleton.mp q), kvs', j, h1, h2⟩
      rcases List.mem_append.mp hp with hp | hp
      · -- what the loop owns
        have hgp := hget p hp
        have hnp := (N₁ p (List.mem_append_left _ hp)).2
        rcases hfp p.1 (hown p hp) with q | ⟨o, q⟩ | q
        · have : p = (I, oI) := by
            have hp2 : p.2 = oI := by
              rw [q] at hgp
              exact Option.some.inj (hgp.symm.trans heI)
            exact Prod.ext q hp2
          rw [this]
          exact N' _ (hs _ (.head _))
        · rw [hnp.2] at q; cases q
        · obtain ⟨o, ho'⟩ := q
          have g1 := (N₁ _ (List.mem_append_right _ (ho' i kvs nx hinv))).1
          have : p = (p.1, o) := Prod.ext rfl (Option.some.inj (hgp.symm.trans g1))
          rw [this]
          exact N' _ (hs _ (.tail _ (ho' (i + 1) kvs' nx' j)))
      · exact N' _ (hs _ (.tail _ hp))
    cases f with
    | ret v => exact p
    | brk => exact p
    | next => exact fin p
    | cont => exact fin p
  · rintro h' tk m' nx F' N' _ ⟨kvs, hinv, hk, hm⟩
    refine done kvs nx m' h' tk hinv ?_ N'
    rw [frm_of hk hm]
    exact F'

/-- over a list: the script's kind (of the base), or one of the ledger -/
theorem for_list {l : Addr} {its : Array Value} (hh : A.handled = none) (temps : List Str) (Inv : Nat → List (Str × Value) → List (Addr × Obj) → Prop) (F : Fr h₀ env.locals s.heap m₀) (N : News h₀ env.locals s.heap news)
    (hl : h₀.IsList l its ∨ ∃ k, (l, ({ cls := .type "list", data := .seq its k } : Obj)) ∈ news ∧ ∀ i kvs nx, Inv i kvs nx → (l, ({ cls := .type "list", data := .seq its k } : Obj)) ∈ nx)
    (kvs₀ : List (Str × Value)) (nx₀ : List (Addr × Obj)) (hk₀ : ∀ kv ∈ kvs₀, m₀ kv.1 = some kv.2) (hn₀ : ∀ p ∈ nx₀, p ∈ news) (h0 : Inv 0 kvs₀ nx₀)
    (turn : ∀ i v kvs nx u I oI h tk, i < its.size → its[i]? = some v → Inv i kvs nx → (∀ p ∈ nx, p.1 ≠ I) → ItO oI → Fr h₀ env.locals h (fun y => if y = x then some v else frm kvs (x :: temps) u m₀ y) → News h₀ env.locals h ((I, oI) :: nx) →
      wpAny (model prog w) A (execs body env) (FTurn h₀ env.locals x temps m₀ I oI (Inv (i + 1)) { s with heap := h, toks := tk } Q) E { s with heap := h, toks := tk })
    (done : ∀ kvs nx u h tk, Inv its.size kvs nx → Fr h₀ env.locals h (frm kvs (x :: temps) u m₀) → News h₀ env.locals h nx → Q .next { s with heap := h, toks := tk }) :
    wpAny (model prog w) A (pyIter (.ref l)) (fun it s₂ => LoopAtV prog w A h₀ env x body Q E it s₂) E s := by
  have hls : s.heap.IsList l its := by
    rcases hl with hl | ⟨k, hm, _⟩
    · exact hl.at fun o e => F.keep l o e
    · exact ⟨_, (N _ hm).1, rfl, k, rfl⟩
  obtain ⟨ol, hol, _⟩ := id hls
  have hlt : l < s.heap.objs.size := Heap.lt_size hol
  have hne : l ≠ s.heap.objs.size := Nat.ne_of_lt hlt
  refine wpAny_pyIter_list hls ?_
  have W := Walks.list (prog := prog) (w := w) hh s.heap.objs.size l hne its
  have hnl : ∀ p ∈ nx₀, p.1 ≠ s.heap.objs.size := fun p hp => Nat.ne_of_lt (Heap.lt_size (N p (hn₀ p hp)).1)
  have hLl : env.locals ≠ l := by
    rcases hl with hl | ⟨k, hm, _⟩
    · intro q
      obtain ⟨o, e, _⟩ := hl
      have := Heap.lt_size e
      rw [← q] at this
      exact absurd (Nat.lt_of_lt_of_le this F.above) (Nat.lt_irrefl _)
    · exact fun q => (N _ hm).2.1 q.symm
  refine for_any W temps Inv (fun b hb => ?_) (fun hm => ?_) (next_is_new F) (fun i h st => by obtain ⟨⟨o, e, c, _⟩, _⟩ := st; exact ⟨o, e, ItO.mk' c⟩) ⟨⟨_, Heap.get?_push_size _ rfl, rfl, rfl⟩, hls.at fun o e => Heap.get?_push_of_some _ e⟩ (F.push _)
    (fun p hp => ⟨Heap.get?_push_of_some _ (N p hp).1, (N p hp).2⟩) kvs₀ nx₀ hk₀ hn₀ hnl h0 (fun i v kvs nx u oI h tk => turn i v kvs nx u _ oI h tk) done
  · rcases List.mem_cons.mp hb with rfl | hb
    · exact .inl rfl
    · rw [List.mem_singleton.mp hb]
      rcases hl with ⟨o, e, _⟩ | ⟨k, hm, hj⟩
      · exact .inr (.inl ⟨o, e⟩)
      · exact .inr (.inr ⟨_, hj⟩)
  · rcases List.mem_cons.mp hm with e | hm
    · exact absurd F.ns.lt (e ▸ Nat.lt_irrefl _)
    · exact hLl (List.mem_singleton.mp hm)

theorem for_range {r : Addr} {a b c : Int} {t u₁ v₁ : Tok} {n : Nat} (hh : A.handled = none) (hr : IsRange s.heap r a b c t u₁ v₁) (hsm : Builtin.Range.small a b c = true) (hn : Builtin.Range.rangeSize a b c = ((n : Nat) : Int))
    (temps : List Str) (Inv : Nat → List (Str × Value) → List (Addr × Obj) → Prop) (F : Fr h₀ env.locals s.heap m₀) (N : News h₀ env.locals s.heap news)
    (kvs₀ : List (Str × Value)) (nx₀ : List (Addr × Obj)) (hk₀ : ∀ kv ∈ kvs₀, m₀ kv.1 = some kv.2) (hn₀ : ∀ p ∈ nx₀, p ∈ news) (h0 : Inv 0 kvs₀ nx₀)
    (turn : ∀ i t kvs nx u I oI h tk, i < n → Inv i kvs nx → (∀ p ∈ nx, p.1 ≠ I) → ItO oI → Fr h₀ env.locals h (fun y => if y = x then some (.int (a + (i : Nat) * c) t) else frm kvs (x :: temps) u m₀ y) → News h₀ env.locals h ((I, oI) :: nx) →
      wpAny (model prog w) A (execs body env) (FTurn h₀ env.locals x temps m₀ I oI (Inv (i + 1)) { s with heap := h, toks := tk } Q) E { s with heap := h, toks := tk })
    (done : ∀ kvs nx u h tk, Inv n kvs nx → Fr h₀ env.locals h (frm kvs (x :: temps) u m₀) → News h₀ env.locals h nx → Q .next { s with heap := h, toks := tk }) :
    wpAny (model prog w) A (pyIter (.ref r)) (fun it s₂ => LoopAtV prog w A h₀ env x body Q E it s₂) E s := by
  refine wpAny_pyIter_range hr hsm ?_
  have W := Walks.range (prog := prog) (w := w) hh s.heap.objs.size a c n
  refine for_any W temps Inv (fun b hb => .inl (List.mem_singleton.mp hb)) (fun hm => ?_) (next_is_new F) (fun i h st => ⟨_, st, ItO.mk' rfl⟩) (by show IsRangeIter _ _ _ _ _; rw [hn]; simpa using Heap.get?_push_size _ rfl) (F.push _)
    (fun p hp => ⟨Heap.get?_push_of_some _ (N p hp).1, (N p hp).2⟩) kvs₀ nx₀ hk₀ hn₀ (fun p hp => Nat.ne_of_lt (Heap.lt_size (N p (hn₀ p hp)).1)) h0 (fun i v kvs nx u oI h tk hi hP => ?_) done
  · exact absurd F.ns.lt ((List.mem_singleton.mp hm) ▸ Nat.lt_irrefl _)
  · obtain ⟨t', rfl⟩ := hP
    exact turn i t' kvs nx u _ oI h tk hi

theorem for_str {y : Str} {t : Tok} (hh : A.handled = none) (temps : List Str) (Inv : Nat → List (Str × Value) → List (Addr × Obj) → Prop) (F : Fr h₀ env.locals s.heap m₀) (N : News h₀ env.locals s.heap news)
    (kvs₀ : List (Str × Value)) (nx₀ : List (Addr × Obj)) (hk₀ : ∀ kv ∈ kvs₀, m₀ kv.1 = some kv.2) (hn₀ : ∀ p ∈ nx₀, p ∈ news) (h0 : Inv 0 kvs₀ nx₀)
    (turn : ∀ i c t' kvs nx u I oI h tk, i < y.cps.size → y.cps[i]? = some c → Inv i kvs nx → (∀ p ∈ nx, p.1 ≠ I) → ItO oI → Fr h₀ env.locals h (fun z => if z = x then some (.str ⟨#[c]⟩ t') else frm kvs (x :: temps) u m₀ z) → News h₀ env.locals h ((I, oI) :: nx) →
      wpAny (model prog w) A (execs body env) (FTurn h₀ env.locals x temps m₀ I oI (Inv (i + 1)) { s with heap := h, toks := tk } Q) E { s with heap := h, toks := tk })
    (done : ∀ kvs nx u h tk, Inv y.cps.size kvs nx → Fr h₀ env.locals h (frm kvs (x :: temps) u m₀) → News h₀ env.locals h nx → Q .next { s with heap := h, toks := tk }) :
    wpAny (model prog w) A (pyIter (.str y t)) (fun it s₂ => LoopAtV prog w A h₀ env x body Q E it s₂) E s := by
  have key : ∀ (T : String) (St : Nat → Heap → Prop) (W : Walks prog w A s.heap.objs.size [s.heap.objs.size] [s.heap.objs.size] y.cps.size (SignAt y) St) (hex : ∀ i h, St i h → ∃ o, h.get? s.heap.objs.size = some o ∧ ItO o) (oo : Obj) (hst : St 0 (s.heap.push oo)),
      LoopAtV prog w A h₀ env x body Q E (.ref s.heap.objs.size) { s with heap := s.heap.push oo } := by
    intro T St W hex oo hst
    refine for_any W temps Inv (fun b hb => .inl (List.mem_singleton.mp hb)) (fun hm => ?_) (next_is_new F) hex hst (F.push _)
      (fun p hp => ⟨Heap.get?_push_of_some _ (N p hp).1, (N p hp).2⟩) kvs₀ nx₀ hk₀ hn₀ (fun p hp => Nat.ne_of_lt (Heap.lt_size (N p (hn₀ p hp)).1)) h0 (fun i v kvs nx u oI h tk hi hP => ?_) done
    · exact absurd F.ns.lt ((List.mem_singleton.mp hm) ▸ Nat.lt_irrefl _)
    · obtain ⟨c, t', hc, rfl⟩ := hP
      exact turn i c t' kvs nx u _ oI h tk hi hc
  cases ha : y.cps.all (· < 128)
  · exact wpAny_pyIter_wide ha (key "" _ (Walks.strWide hh _ y t) (fun i h st => let ⟨o, e, c, _⟩ := st; ⟨o, e, ItO.mk' c⟩) _ ⟨_, Heap.get?_push_size _ rfl, rfl, rfl⟩)
  · exact wpAny_pyIter_ascii ha (key "" _ (Walks.strAscii hh _ y t) (fun i h st => let ⟨o, e, c, _⟩ := st; ⟨o, e, ItO.mk' c⟩) _ ⟨_, Heap.get?_push_size _ rfl, rfl, rfl⟩)

theorem for_bytes {y : Array UInt8} {t : Tok} (hh : A.handled = none) (temps : List Str) (Inv : Nat → List (Str × Value) → List (Addr × Obj) → Prop) (F : Fr h₀ env.locals s.heap m₀) (N : News h₀ env.locals s.heap news)
    (kvs₀ : List (Str × Value)) (nx₀ : List (Addr × Obj)) (hk₀ : ∀ kv ∈ kvs₀, m₀ kv.1 = some kv.2) (hn₀ : ∀ p ∈ nx₀, p ∈ news) (h0 : Inv 0 kvs₀ nx₀)
    (turn : ∀ i (c : UInt8) t' kvs nx u I oI h tk, i < y.size → y[i]? = some c → Inv i kvs nx → (∀ p ∈ nx, p.1 ≠ I) → ItO oI → Fr h₀ env.locals h (fun z => if z = x then some (.int (c.toNat : Int) t') else frm kvs (x :: temps) u m₀ z) → News h₀ env.locals h ((I, oI) :: nx) →
      wpAny (model prog w) A (execs body env) (FTurn h₀ env.locals x temps m₀ I oI (Inv (i + 1)) { s with heap := h, toks := tk } Q) E { s with heap := h, toks := tk })
    (done : ∀ kvs nx u h tk, Inv y.size kvs nx → Fr h₀ env.locals h (frm kvs (x :: temps) u m₀) → News h₀ env.locals h nx → Q .next { s with heap := h, toks := tk }) :
    wpAny (model prog w) A (pyIter (.bytes y t)) (fun it s₂ => LoopAtV prog w A h₀ env x body Q E it s₂) E s := by
  refine KBw.pyIter_bytes ?_
  have W := KBw.walks (prog := prog) (w := w) hh s.heap.objs.size y t
  refine for_any W temps Inv (fun b hb => .inl (List.mem_singleton.mp hb)) (fun hm => ?_) (next_is_new F) (fun i h st => let ⟨o, e, c, _⟩ := st; ⟨o, e, ItO.mk' c⟩) ⟨_, Heap.get?_push_size _ rfl, rfl, rfl⟩ (F.push _)
      (fun p hp => ⟨Heap.get?_push_of_some _ (N p hp).1, (N p hp).2⟩) kvs₀ nx₀ hk₀ hn₀ (fun p hp => Nat.ne_of_lt (Heap.lt_size (N p (hn₀ p hp)).1)) h0 (fun i v kvs nx u oI h tk hi hP => ?_) done
  · exact absurd F.ns.lt ((List.mem_singleton.mp hm) ▸ Nat.lt_irrefl _)
  · obtain ⟨c, t', hc, rfl⟩ := hP
    exact turn i c t' kvs nx u _ oI h tk hi hc

/-- the same, where the ledger is at each turn's end as it was -/
theorem for_rangeS {r : Addr} {a b c : Int} {t u₁ v₁ : Tok} {n : Nat} (hh : A.handled = none) (hr : IsRange s.heap r a b c t u₁ v₁) (hsm : Builtin.Range.small a b c = true) (hn : Builtin.Range.rangeSize a b c = ((n : Nat) : Int))
    (temps : List Str) (Inv : Nat → List (Str × Value) → Prop) (F : Fr h₀ env.locals s.heap m₀) (N : News h₀ env.locals s.heap news)
    (kvs₀ : List (Str × Value)) (hk₀ : ∀ kv ∈ kvs₀, m₀ kv.1 = some kv.2) (h0 : Inv 0 kvs₀)
    (turn : ∀ i t kvs u I oI h tk, i < n → Inv i kvs → (∀ p ∈ news, p.1 ≠ I) → ItO oI → Fr h₀ env.locals h (fun y => if y = x then some (.int (a + (i : Nat) * c) t) else frm kvs (x :: temps) u m₀ y) → News h₀ env.locals h ((I, oI) :: news) →
      wpAny (model prog w) A (execs body env) (FTurn h₀ env.locals x temps m₀ I oI (fun kvs nx => Inv (i + 1) kvs ∧ nx = news) { s with heap := h, toks := tk } Q) E { s with heap := h, toks := tk })
    (done : ∀ kvs u h tk, Inv n kvs → Fr h₀ env.locals h (frm kvs (x :: temps) u m₀) → News h₀ env.locals h news → Q .next { s with heap := h, toks := tk }) :
    wpAny (model prog w) A (pyIter (.ref r)) (fun it s₂ => LoopAtV prog w A h₀ env x body Q E it s₂) E s :=
  for_range hh hr hsm hn temps (fun i kvs nx => Inv i kvs ∧ nx = news) F N kvs₀ news hk₀ (fun _ h => h) ⟨h0, rfl⟩
    (fun i t kvs nx u I oI h tk hi hv ho hIO F' N' => by obtain ⟨hv, rfl⟩ := hv; exact turn i t kvs u I oI h tk hi hv ho hIO F' N')
    (fun kvs nx u h tk hv F' N' => by obtain ⟨hv, rfl⟩ := hv; exact done kvs u h tk hv F' N')
theorem for_listS {l : Addr} {its : Array Value} (hh : A.handled = none) (temps : List Str) (Inv : Nat → List (Str × Value) → Prop) (F : Fr h₀ env.locals s.heap m₀) (N : News h₀ env.locals s.heap news)
    (hl : h₀.IsList l its ∨ ∃ k, (l, ({ cls := .type "list", data := .seq its k } : Obj)) ∈ news)
    (kvs₀ : List (Str × Value)) (hk₀ : ∀ kv ∈ kvs₀, m₀ kv.1 = some kv.2) (h0 : Inv 0 kvs₀)
    (turn : ∀ i v kvs u I oI h tk, i < its.size → its[i]? = some v → Inv i kvs → (∀ p ∈ news, p.1 ≠ I) → ItO oI → Fr h₀ env.locals h (fun y => if y = x then some v else frm kvs (x :: temps) u m₀ y) → News h₀ env.locals h ((I, oI) :: news) →
      wpAny (model prog w) A (execs body env) (FTurn h₀ env.locals x temps m₀ I oI (fun kvs nx => Inv (i + 1) kvs ∧ nx = news) { s with heap := h, toks := tk } Q) E { s with heap := h, toks := tk })
    (done : ∀ kvs u h tk, Inv its.size kvs → Fr h₀ env.locals h (frm kvs (x :: temps) u m₀) → News h₀ env.locals h news → Q .next { s with heap := h, toks := tk }) :
    wpAny (model prog w) A (pyIter (.ref l)) (fun it s₂ => LoopAtV prog w A h₀ env x body Q E it s₂) E s :=
  for_list hh temps (fun i kvs nx => Inv i kvs ∧ nx = news) F N (hl.imp id fun ⟨k, hm⟩ => ⟨k, hm, fun i kvs nx h => h.2 ▸ hm⟩) kvs₀ news hk₀ (fun _ h => h) ⟨h0, rfl⟩
    (fun i v kvs nx u I oI h tk hi hv hj ho hIO F' N' => by obtain ⟨hj, rfl⟩ := hj; exact turn i v kvs u I oI h tk hi hv hj ho hIO F' N')
    (fun kvs nx u h tk hv F' N' => by obtain ⟨hv, rfl⟩ := hv; exact done kvs u h tk hv F' N')

theorem for_strD {y : Str} {t : Tok} {D : Addr} (hh : A.handled = none) (F : Fr h₀ env.locals s.heap m₀) (N : News h₀ env.locals s.heap news) (temps : List Str) (nm : Str) (hD : m₀ nm = some (.ref D)) (o₀ : Obj) (rest : List (Addr × Obj)) (Inv : Nat → List (Str × Value) → Obj → Prop)
    (kvs₀ : List (Str × Value)) (hk₀ : ∀ kv ∈ kvs₀, m₀ kv.1 = some kv.2) (hn₀ : ∀ p ∈ (D, o₀) :: rest, p ∈ news) (h0 : Inv 0 kvs₀ o₀)
    (turn : ∀ i c t' kvs o u I oI h tk, i < y.cps.size → y.cps[i]? = some c → Inv i kvs o → (∀ p ∈ (D, o) :: rest, p.1 ≠ I) → ItO oI → Fr h₀ env.locals h (fun z => if z = x then some (.str ⟨#[c]⟩ t') else frm kvs (x :: temps) u m₀ z) → News h₀ env.locals h ((I, oI) :: (D, o) :: rest) →
      wpAny (model prog w) A (execs body env) (FTurn h₀ env.locals x temps m₀ I oI (fun kvs nx => ∃ o, nx = (D, o) :: rest ∧ Inv (i + 1) kvs o) { s with heap := h, toks := tk } Q) E { s with heap := h, toks := tk })
    (done : ∀ kvs o u h tk, Inv y.cps.size kvs o → Fr h₀ env.locals h (frm kvs (x :: temps) u m₀) → News h₀ env.locals h ((D, o) :: rest) → Q .next { s with heap := h, toks := tk }) :
    wpAny (model prog w) A (pyIter (.str y t)) (fun it s₂ => LoopAtV prog w A h₀ env x body Q E it s₂) E s :=
  for_str hh temps (fun i kvs nx => ∃ o, nx = (D, o) :: rest ∧ Inv i kvs o) F N kvs₀ ((D, o₀) :: rest) hk₀ hn₀ ⟨o₀, rfl, h0⟩
    (fun i c t' kvs nx u I oI h tk hi hc hv ho hIO F' N' => by obtain ⟨o, rfl, hv⟩ := hv; exact turn i c t' kvs o u I oI h tk hi hc hv ho hIO F' N')
    (fun kvs nx u h tk hv F' N' => by obtain ⟨o, rfl, hv⟩ := hv; exact done kvs o u h tk hv F' N')
theorem for_bytesD {y : Array UInt8} {t : Tok} {D : Addr} (hh : A.handled = none) (F : Fr h₀ env.locals s.heap m₀) (N : News h₀ env.locals s.heap news) (temps : List Str) (nm : Str) (hD : m₀ nm = some (.ref D)) (o₀ : Obj) (rest : List (Addr × Obj)) (Inv : Nat → List (Str × Value) → Obj → Prop)
    (kvs₀ : List (Str × Value)) (hk₀ : ∀ kv ∈ kvs₀, m₀ kv.1 = some kv.2) (hn₀ : ∀ p ∈ (D, o₀) :: rest, p ∈ news) (h0 : Inv 0 kvs₀ o₀)
    (turn : ∀ i (c : UInt8) t' kvs o u I oI h tk, i < y.size → y[i]? = some c → Inv i kvs o → (∀ p ∈ (D, o) :: rest, p.1 ≠ I) → ItO oI → Fr h₀ env.locals h (fun z => if z = x then some (.int (c.toNat : Int) t') else frm kvs (x :: temps) u m₀ z) → News h₀ env.locals h ((I, oI) :: (D, o) :: rest) →
      wpAny (model prog w) A (execs body env) (FTurn h₀ env.locals x temps m₀ I oI (fun kvs nx => ∃ o, nx = (D, o) :: rest ∧ Inv (i + 1) kvs o) { s with heap := h, toks := tk } Q) E { s with heap := h, toks := tk })
    (done : ∀ kvs o u h tk, Inv y.size kvs o → Fr h₀ env.locals h (frm kvs (x :: temps) u m₀) → News h₀ env.locals h ((D, o) :: rest) → Q .next { s with heap := h, toks := tk }) :
    wpAny (model prog w) A (pyIter (.bytes y t)) (fun it s₂ => LoopAtV prog w A h₀ env x body Q E it s₂) E s :=
  for_bytes hh temps (fun i kvs nx => ∃ o, nx = (D, o) :: rest ∧ Inv i kvs o) F N kvs₀ ((D, o₀) :: rest) hk₀ hn₀ ⟨o₀, rfl, h0⟩
    (fun i c t' kvs nx u I oI h tk hi hc hv ho hIO F' N' => by obtain ⟨o, rfl, hv⟩ := hv; exact turn i c t' kvs o u I oI h tk hi hc hv ho hIO F' N')
    (fun kvs nx u h tk hv F' N' => by obtain ⟨o, rfl, hv⟩ := hv; exact done kvs o u h tk hv F' N')
theorem for_rangeD {r : Addr} {a b c : Int} {t u₁ v₁ : Tok} {n : Nat} {D : Addr} (hh : A.handled = none) (F : Fr h₀ env.locals s.heap m₀) (N : News h₀ env.locals s.heap news) (hr : IsRange s.heap r a b c t u₁ v₁) (hsm : Builtin.Range.small a b c = true) (hn : Builtin.Range.rangeSize a b c = ((n : Nat) : Int)) (temps : List Str) (nm : Str) (hD : m₀ nm = some (.ref D)) (o₀ : Obj) (rest : List (Addr × Obj)) (Inv : Nat → List (Str × Value) → Obj → Prop)
    (kvs₀ : List (Str × Value)) (hk₀ : ∀ kv ∈ kvs₀, m₀ kv.1 = some kv.2) (hn₀ : ∀ p ∈ (D, o₀) :: rest, p ∈ news) (h0 : Inv 0 kvs₀ o₀)
    (turn : ∀ i t' kvs o u I oI h tk, i < n → Inv i kvs o → (∀ p ∈ (D, o) :: rest, p.1 ≠ I) → ItO oI → Fr h₀ env.locals h (fun z => if z = x then some (.int (a + (i : Nat) * c) t') else frm kvs (x :: temps) u m₀ z) → News h₀ env.locals h ((I, oI) :: (D, o) :: rest) →
      wpAny (model prog w) A (execs body env) (FTurn h₀ env.locals x temps m₀ I oI (fun kvs nx => ∃ o, nx = (D, o) :: rest ∧ Inv (i + 1) kvs o) { s with heap := h, toks := tk } Q) E { s with heap := h, toks := tk })
    (done : ∀ kvs o u h tk, Inv n kvs o → Fr h₀ env.locals h (frm kvs (x :: temps) u m₀) → News h₀ env.locals h ((D, o) :: rest) → Q .next { s with heap := h, toks := tk }) :
    wpAny (model prog w) A (pyIter (.ref r)) (fun it s₂ => LoopAtV prog w A h₀ env x body Q E it s₂) E s :=
  for_range hh hr hsm hn temps (fun i kvs nx => ∃ o, nx = (D, o) :: rest ∧ Inv i kvs o) F N kvs₀ ((D, o₀) :: rest) hk₀ hn₀ ⟨o₀, rfl, h0⟩
    (fun i t' kvs nx u I oI h tk hi hv ho hIO F' N' => by obtain ⟨o, rfl, hv⟩ := hv; exact turn i t' kvs o u I oI h tk hi hv ho hIO F' N')
    (fun kvs nx u h tk hv F' N' => by obtain ⟨o, rfl, hv⟩ := hv; exact done kvs o u h tk hv F' N')
theorem for_listD {l : Addr} {its : Array Value} {D : Addr} (hh : A.handled = none) (F : Fr h₀ env.locals s.heap m₀) (N : News h₀ env.locals s.heap news) (temps : List Str) (nm : Str) (hD : m₀ nm = some (.ref D)) (o₀ : Obj) (rest : List (Addr × Obj)) (hl : h₀.IsList l its ∨ ∃ k, (l, ({ cls := .type "list", data := .seq its k } : Obj)) ∈ rest) (Inv : Nat → List (Str × Value) → Obj → Prop)
    (kvs₀ : List (Str × Value)) (hk₀ : ∀ kv ∈ kvs₀, m₀ kv.1 = some kv.2) (hn₀ : ∀ p ∈ (D, o₀) :: rest, p ∈ news) (h0 : Inv 0 kvs₀ o₀)
    (turn : ∀ i v kvs o u I oI h tk, i < its.size → its[i]? = some v → Inv i kvs o → (∀ p ∈ (D, o) :: rest, p.1 ≠ I) → ItO oI → Fr h₀ env.locals h (fun z => if z = x then some v else frm kvs (x :: temps) u m₀ z) → News h₀ env.locals h ((I, oI) :: (D, o) :: rest) →
      wpAny (model prog w) A (execs body env) (FTurn h₀ env.locals x temps m₀ I oI (fun kvs nx => ∃ o, nx = (D, o) :: rest ∧ Inv (i + 1) kvs o) { s with heap := h, toks := tk } Q) E { s with heap := h, toks := tk })
    (done : ∀ kvs o u h tk, Inv its.size kvs o → Fr h₀ env.locals h (frm kvs (x :: temps) u m₀) → News h₀ env.locals h ((D, o) :: rest) → Q .next { s with heap := h, toks := tk }) :
    wpAny (model prog w) A (pyIter (.ref l)) (fun it s₂ => LoopAtV prog w A h₀ env x body Q E it s₂) E s :=
  for_list hh temps (fun i kvs nx => ∃ o, nx = (D, o) :: rest ∧ Inv i kvs o) F N (hl.imp id fun ⟨k, hm⟩ => ⟨k, hn₀ _ (.tail _ hm), fun i kvs nx h => by obtain ⟨o, rfl, _⟩ := h; exact .tail _ hm⟩) kvs₀ ((D, o₀) :: rest) hk₀ hn₀ ⟨o₀, rfl, h0⟩
    (fun i v kvs nx u I oI h tk hi hc hv ho hIO F' N' => by obtain ⟨o, rfl, hv⟩ := hv; exact turn i v kvs o u I oI h tk hi hc hv ho hIO F' N')
    (fun kvs nx u h tk hv F' N' => by obtain ⟨o, rfl, hv⟩ := hv; exact done kvs o u h tk hv F' N')

/-- the For statement, held ahead of its iterator -/
theorem For_mine {m : Str → Option Value} {px pos : Pos} {iter : Expr} (F : Fr h₀ env.locals s.heap m) (hx : env.kindOf x = some .local)
    (hp : (env.scope.kind == .class || (env.scope.kind == .module && env.locals != env.globals)) = false)
    (h : wpAny (model prog w) A (eval iter env) (fun xv s₁ => Stop (wpAny (model prog w) A (pyIter xv) (fun it s₂ => LoopAtV prog w A h₀ env x body Q E it s₂) E s₁)) E s)
    (hs : ∀ x, foldedSetIterable iter env x = pure x := by intro _; rfl)
    (hE : PassesOwn (model prog w) A env E := by passes_own) :
    wpAny (model prog w) A (exec (.For (.Name x px) iter body [] pos) env) Q E s := For_invV h₀ hx hp h hs hE
end
section
variable {prog : Program} {w : World} {A : Around} {E : Value → Shared → Prop} {s : Shared}
theorem item_last {value slice : Expr} {a : Addr} {l : List Value} {x : Value} {u : Tok} {Q : Value → Shared → Prop} (hl : s.heap.IsList a (l ++ [x]).toArray) (h : Q x s)
    (hs : subscripted slice false (.ref a) (.int (-1) u) = operate [.ref a, .int (-1) u] (getItem (.ref a) (.int (-1) u)) := by with_unfolding_all rfl) :
    wpAny (model prog w) A (subscriptTail value slice (.ref a) (.int (-1) u)) Q E s :=
  tail_any hl.typeIs slot_list_getitem.lookup (wpAny_getItem_list_neg hl (by decide) (by rw [List.size_toArray, List.length_append, List.length_singleton]; omega) (by decide) (by rw [List.size_toArray, List.length_append, List.length_singleton, show (-1 + ((l.length + 1 : Nat) : Int)).toNat = l.length by omega]; simp) h) hs
theorem item_at {value slice : Expr} {a : Addr} {l : List Value} {x : Value} {k : Int} {u : Tok} {Q : Value → Shared → Prop} (hl : s.heap.IsList a l.toArray) (h0 : 0 ≤ k) (hfit : k < 2 ^ 63) (hx : l[k.toNat]? = some x) (h : Q x s)
    (hs : subscripted slice false (.ref a) (.int k u) = operate [.ref a, .int k u] (getItem (.ref a) (.int k u)) := by with_unfolding_all rfl) :
    wpAny (model prog w) A (subscriptTail value slice (.ref a) (.int k u)) Q E s :=
  tail_any hl.typeIs slot_list_getitem.lookup (wpAny_getItem_list hl h0 hfit (by simpa using hx) h) hs
end
end

-- Signs
theorem words3 : True := by
  k_with_none
  (k_with "MINE enter" => (refine' enter0 ?k1 ?k2 ?k3 ?k5 ?kA ?kF ?kK ?k6 ?k7 ?k8 ?k9 ?kB ?_ ?c2 ?c3 ?c4 ?c5; (case kA => exact rfl); (case kF => exact rfl); (case kK => assumption); (case k1 => k_asm); (case k2 => k_asm); (case k3 => k_asm); (case k5 => k_asm); (case k6 => k_is); (case k7 => k_is); (case k8 => ktr_room); (case k9 => exact BindsTo.of_eq rfl); (case c5 => decide); (case kB => exact locs rfl); (case c2 => exact rfl); (case c3 => exact rfl); (case c4 => exact rfl); k_whole; intro L' h' F' N' B' X' T'; (try dsimp only); (try k_fold)))
  (k_with "MINE open" => (
    unfold Spec
    intro dp un gd cn cs a ccd cl outer A₀ base h₀ L m s Q E B F X T hk hdp hu hpre hret
    revert X
    k_fill
    intro X
    refine wpAny_call ?_
    k_dflt (walk_at "MINE enter")
    clear F X T B))
  (k_with "MINE fin" => ((rename Back _ _ _ => hb9); (have hb8 := @Back.fin _ _ _ hb9); refine hb8 (by assumption) ?_))
  (k_with "MINE enterS" => (refine' enterS ?k1 ?k2 ?k3 ?k5 ?kA ?kF ?kK ?k6 ?k7 ?k8 ?kV ?kP ?kG ?kB ?_ ?c2 ?c3 ?c4 ?c5; (case kA => exact rfl); (case kF => exact rfl); (case kK => assumption); (case k1 => k_asm); (case k2 => k_asm); (case k3 => k_asm); (case k5 => k_asm); (case k6 => k_is); (case k7 => k_is); (case k8 => ktr_room); (case kV => kl_lit); (case kP => exact rfl); (case kG => exact fun _ => rfl); (case kB => exact fun _ => locs rfl); (case c5 => decide); (case c2 => exact rfl); (case c3 => exact rfl); (case c4 => exact rfl); k_whole; intro D' L' h' F' N' B' X' T'; (try dsimp only); (try k_fold)))
  (k_with "MINE openS" => (
    unfold Spec
    intro dp un gd cn cs a ccd cl outer A₀ base h₀ L m s Q E B F X T hk hdp hu hpre hret
    revert X
    k_fill
    intro X
    refine wpAny_call ?_
    k_dflt (walk_at "MINE enterS")
    clear F X T B))
  (k_with "MINE enterK" => (refine' enter0 ?k1 ?k2 ?k3 ?k5 ?kA ?kF ?kK ?k6 ?k7 ?k8 ?k9 ?kB ?_ ?c2 ?c3 ?c4 ?c5; (case kA => exact rfl); (case kF => exact rfl); (case kK => assumption); (case k1 => k_asm); (case k2 => k_asm); (case k3 => k_asm); (case k5 => k_asm); (case k6 => k_is); (case k7 => k_is); (case k8 => ktr_room); (case k9 => (refine kp_binds (by exact Frag.In.keeps (by assumption) (Fr.keep (by assumption))) (by exact fun _ => rfl))); (case c5 => decide); (case kB => exact locs rfl); (case c2 => exact rfl); (case c3 => exact rfl); (case c4 => exact rfl); k_whole; intro L' h' F' N' B' X' T'; (try dsimp only); (try k_fold)))
  (k_with "MINE openK" => (
    unfold SpecKw
    intro dp un gd cn cs a ccd cl outer A₀ base h₀ L m s Q E B F X T hk hdp hu hpre hret
    revert X
    k_fill
    intro X
    refine wpAny_call ?_
    k_dflt (walk_at "MINE enterK")
    clear F X T B))
  (k_with "MINE openD" => (
    unfold Spec
    intro dp un gd cn cs a ccd cl outer A₀ base h₀ L m s Q E B F X T hk hdp hu hpre hret
    revert X
    k_fill
    intro X
    refine wpAny_call ?_
    k_dflt (walk_at "MINE enterK")
    clear F X T B))
  exact True.intro

section
open PySem PySem.W PyProof.Rows PySem.Calls PySem.Spec
noncomputable def signsL : List Nat := [65,66,67,68,69,70,71,72,73,74,75,76,77,78,79,80,81,82,83,84,85,86,87,88,89,90,97,98,99,100,101,102,103,104,105,106,107,108,109,110,111,112,113,114,115,116,117,118,119,120,121,122,48,49,50,51,52,53,54,55,56,57,43,47]
set_option maxHeartbeats 8000000 in
theorem signs_spec (w : World) (mean : ExcName → Option Value) (mg mb : Str → Option Value) : Spec w mean mg mb 187 2 20 [] (fun _ => True)
   (fun h r h' => ∃ u, r = .str (Str.ofString "ABCDEFGHIJKLMNOPQRSTUVWXYZabcdefghijklmnopqrstuvwxyz0123456789+/") u) := by
  walk_at "MINE open"
  k_steps
  all_goals (walk_at "MINE fin"; exact ⟨_, rfl⟩)
end

-- Split
theorem words4 : True := by
  k_with_none
  (k_with "MINE enter" => (refine' enter0 ?k1 ?k2 ?k3 ?k5 ?kA ?kF ?kK ?k6 ?k7 ?k8 ?k9 ?kB ?_ ?c2 ?c3 ?c4 ?c5; (case kA => exact rfl); (case kF => exact rfl); (case kK => assumption); (case k1 => k_asm); (case k2 => k_asm); (case k3 => k_asm); (case k5 => k_asm); (case k6 => k_is); (case k7 => k_is); (case k8 => ktr_room); (case k9 => exact BindsTo.of_eq rfl); (case c5 => decide); (case kB => exact locs rfl); (case c2 => exact rfl); (case c3 => exact rfl); (case c4 => exact rfl); k_whole; intro L' h' F' N' B' X' T'; (try dsimp only); (try k_fold)))
  (k_with "MINE open" => (
    unfold Spec
    intro dp un gd cn cs a ccd cl outer A₀ base h₀ L m s Q E B F X T hk hdp hu hpre hret
    revert X
    k_fill
    intro X
    refine wpAny_call ?_
    k_dflt (walk_at "MINE enter")
    clear F X T B))
  (k_with "MINE fin" => ((rename Back _ _ _ => hb9); (have hb8 := @Back.fin _ _ _ hb9); refine hb8 (by assumption) ?_))
  (k_with "MINE enterS" => (refine' enterS ?k1 ?k2 ?k3 ?k5 ?kA ?kF ?kK ?k6 ?k7 ?k8 ?kV ?kP ?kG ?kB ?_ ?c2 ?c3 ?c4 ?c5; (case kA => exact rfl); (case kF => exact rfl); (case kK => assumption); (case k1 => k_asm); (case k2 => k_asm); (case k3 => k_asm); (case k5 => k_asm); (case k6 => k_is); (case k7 => k_is); (case k8 => ktr_room); (case kV => kl_lit); (case kP => exact rfl); (case kG => exact fun _ => rfl); (case kB => exact fun _ => locs rfl); (case c5 => decide); (case c2 => exact rfl); (case c3 => exact rfl); (case c4 => exact rfl); k_whole; intro D' L' h' F' N' B' X' T'; (try dsimp only); (try k_fold)))
  (k_with "MINE openS" => (
    unfold Spec
    intro dp un gd cn cs a ccd cl outer A₀ base h₀ L m s Q E B F X T hk hdp hu hpre hret
    revert X
    k_fill
    intro X
    refine wpAny_call ?_
    k_dflt (walk_at "MINE enterS")
    clear F X T B))
  (k_with "call ref" => (k_here; (with_reducible show wpAny _ _ (call (Value.ref 131) [Value.str _ _]) _ _ _); k_dflt (refine Spec.use (fspath_spec _ _ _ _ _ _) (by k_asm) (by k_asm) (by k_asm) (by k_asm) (by k_asm) (by first | exact rfl | assumption) (by ktr_room) (by ktr_units) (by exact True.intro) ?_; k_whole); intro r' h' tk' F' N' kp' hp'; subst hp'))
  (k_with "call ref" => (k_here; (with_reducible show wpAny _ _ (call (Value.ref 145) [Value.str _ _]) _ _ _); k_dflt (refine Spec.use (getsep_spec _ _ _ _ _ _) (by k_asm) (by k_asm) (by k_asm) (by k_asm) (by k_asm) (by first | exact rfl | assumption) (by ktr_room) (by ktr_units) (by exact True.intro) ?_; k_whole); intro r' h' tk' F' N' kp' hp'; (refine Exists.elim hp' ?_; clear hp'; intro t' hp'; subst hp')))
  exact True.intro

section
open PySem PySem.W PyProof.Rows PySem.Calls PySem.Spec
noncomputable def sl : Str := Str.ofString "/"
noncomputable def fstOf (p : Str) : Str := Txt.slice p none (some (Txt.rfind p (Str.ofString "/") + 1))
noncomputable def lastOf (p : Str) : Str := Txt.slice p (some (Txt.rfind p (Str.ofString "/") + 1)) none
noncomputable def headOf (p : Str) : Str := if ((fstOf p).length : Int) = 0 then fstOf p else if (fstOf p != Txt.mul (Str.ofString "/") ((fstOf p).length : Int)) = true then Txt.rstripChars (fstOf p) (Str.ofString "/") else fstOf p
theorem headOf_1 {p : Str} (h1 : ¬ (((Txt.slice p none (some (Txt.rfind p (Str.ofString "/") + 1))).length : Int) = 0)) (h2 : (Txt.slice p none (some (Txt.rfind p (Str.ofString "/") + 1)) != Txt.mul (Str.ofString "/") ((Txt.slice p none (some (Txt.rfind p (Str.ofString "/") + 1))).length : Int)) = true) :
    headOf p = Txt.rstripChars (Txt.slice p none (some (Txt.rfind p (Str.ofString "/") + 1))) (Str.ofString "/") := by unfold headOf fstOf; rw [if_neg h1, if_pos h2]
theorem headOf_2 {p : Str} (h1 : ¬ (((Txt.slice p none (some (Txt.rfind p (Str.ofString "/") + 1))).length : Int) = 0)) (h2 : (Txt.slice p none (some (Txt.rfind p (Str.ofString "/") + 1)) != Txt.mul (Str.ofString "/") ((Txt.slice p none (some (Txt.rfind p (Str.ofString "/") + 1))).length : Int)) = false) :
    headOf p = Txt.slice p none (some (Txt.rfind p (Str.ofString "/") + 1)) := by unfold headOf fstOf; rw [if_neg h1, if_neg (by rw [h2]; decide)]
theorem headOf_3 {p : Str} (h1 : (((Txt.slice p none (some (Txt.rfind p (Str.ofString "/") + 1))).length : Int) = 0)) : headOf p = Txt.slice p none (some (Txt.rfind p (Str.ofString "/") + 1)) := by unfold headOf fstOf; rw [if_pos h1]
noncomputable abbrev pairObj (a b : Str) (t u : Tok) : Obj := { cls := .type "tuple", data := .seq #[.str a t, .str b u] }

set_option maxHeartbeats 8000000 in
theorem split_spec (w : World) (mean : ExcName → Option Value) (mg mb : Str → Option Value) (p : Str) (t : Tok) : Spec w mean mg mb 159 8 100 [.str p t] (fun _ => p.length ≤ 1000)
   (fun h r h' => ∃ a t1 t2, r = .ref a ∧ h'.get? a = some (pairObj (headOf p) (lastOf p) t1 t2) ∧ h.get? a = none) := by
  walk_at "MINE open"
  k_steps
  all_goals (walk_at "MINE fin"; first | rw [headOf_1 (by assumption) (by assumption)] | rw [headOf_2 (by assumption) (by assumption)] | rw [headOf_3 (by assumption)])
  all_goals (exact ⟨_, _, _, rfl, News.get (by assumption) (List.Mem.head _), News.fresh (by assumption) (List.Mem.head _)⟩)
end

-- Join
theorem words5 : True := by
  k_with_none
  (k_with "MINE enter" => (refine' enter0 ?k1 ?k2 ?k3 ?k5 ?kA ?kF ?kK ?k6 ?k7 ?k8 ?k9 ?kB ?_ ?c2 ?c3 ?c4 ?c5; (case kA => exact rfl); (case kF => exact rfl); (case kK => assumption); (case k1 => k_asm); (case k2 => k_asm); (case k3 => k_asm); (case k5 => k_asm); (case k6 => k_is); (case k7 => k_is); (case k8 => ktr_room); (case k9 => exact BindsTo.of_eq rfl); (case c5 => decide); (case kB => exact locs rfl); (case c2 => exact rfl); (case c3 => exact rfl); (case c4 => exact rfl); k_whole; intro L' h' F' N' B' X' T'; (try dsimp only); (try k_fold)))
  (k_with "MINE open" => (
    unfold Spec
    intro dp un gd cn cs a ccd cl outer A₀ base h₀ L m s Q E B F X T hk hdp hu hpre hret
    revert X
    k_fill
    intro X
    refine wpAny_call ?_
    k_dflt (walk_at "MINE enter")
    clear F X T B))
  (k_with "MINE fin" => ((rename Back _ _ _ => hb9); (have hb8 := @Back.fin _ _ _ hb9); refine hb8 (by assumption) ?_))
  (k_with "MINE enterS" => (refine' enterS ?k1 ?k2 ?k3 ?k5 ?kA ?kF ?kK ?k6 ?k7 ?k8 ?kV ?kP ?kG ?kB ?_ ?c2 ?c3 ?c4 ?c5; (case kA => exact rfl); (case kF => exact rfl); (case kK => assumption); (case k1 => k_asm); (case k2 => k_asm); (case k3 => k_asm); (case k5 => k_asm); (case k6 => k_is); (case k7 => k_is); (case k8 => ktr_room); (case kV => kl_lit); (case kP => exact rfl); (case kG => exact fun _ => rfl); (case kB => exact fun _ => locs rfl); (case c5 => decide); (case c2 => exact rfl); (case c3 => exact rfl); (case c4 => exact rfl); k_whole; intro D' L' h' F' N' B' X' T'; (try dsimp only); (try k_fold)))
  (k_with "MINE openS" => (
    unfold Spec
    intro dp un gd cn cs a ccd cl outer A₀ base h₀ L m s Q E B F X T hk hdp hu hpre hret
    revert X
    k_fill
    intro X
    refine wpAny_call ?_
    k_dflt (walk_at "MINE enterS")
    clear F X T B))
  (k_with "MINE enterK" => (refine' enter0 ?k1 ?k2 ?k3 ?k5 ?kA ?kF ?kK ?k6 ?k7 ?k8 ?k9 ?kB ?_ ?c2 ?c3 ?c4 ?c5; (case kA => exact rfl); (case kF => exact rfl); (case kK => assumption); (case k1 => k_asm); (case k2 => k_asm); (case k3 => k_asm); (case k5 => k_asm); (case k6 => k_is); (case k7 => k_is); (case k8 => ktr_room); (case k9 => (refine kp_binds (by exact Frag.In.keeps (by assumption) (Fr.keep (by assumption))) (by exact fun _ => rfl))); (case c5 => decide); (case kB => exact locs rfl); (case c2 => exact rfl); (case c3 => exact rfl); (case c4 => exact rfl); k_whole; intro L' h' F' N' B' X' T'; (try dsimp only); (try k_fold)))
  (k_with "MINE openK" => (
    unfold SpecKw
    intro dp un gd cn cs a ccd cl outer A₀ base h₀ L m s Q E B F X T hk hdp hu hpre hret
    revert X
    k_fill
    intro X
    refine wpAny_call ?_
    k_dflt (walk_at "MINE enterK")
    clear F X T B))
  (k_with "MINE openD" => (
    unfold Spec
    intro dp un gd cn cs a ccd cl outer A₀ base h₀ L m s Q E B F X T hk hdp hu hpre hret
    revert X
    k_fill
    intro X
    refine wpAny_call ?_
    k_dflt (walk_at "MINE enterK")
    clear F X T B))
  (k_with "call ref" => (k_here; (with_reducible show wpAny _ _ (call (Value.ref 131) [Value.str _ _]) _ _ _); k_dflt (refine Spec.use (fspath_spec _ _ _ _ _ _) (by k_asm) (by k_asm) (by k_asm) (by k_asm) (by k_asm) (by first | exact rfl | assumption) (by ktr_room) (by ktr_units) (by exact True.intro) ?_; k_whole); intro r' h' tk' F' N' kp' hp'; subst hp'))
  (k_with "call ref" => (k_here; (with_reducible show wpAny _ _ (call (Value.ref 145) [Value.str _ _]) _ _ _); k_dflt (refine Spec.use (getsep_spec _ _ _ _ _ _) (by k_asm) (by k_asm) (by k_asm) (by k_asm) (by k_asm) (by first | exact rfl | assumption) (by ktr_room) (by ktr_units) (by exact True.intro) ?_; k_whole); intro r' h' tk' F' N' kp' hp'; (refine Exists.elim hp' ?_; clear hp'; intro t' hp'; subst hp')))
  exact True.intro

section
open PySem PySem.W PyProof.Rows PySem.Calls PySem.Spec
noncomputable def joinOf (p q : Str) : Str := if Txt.startswith q (Str.ofString "/") = true then q else if (p.length : Int) = 0 then q else if Txt.endswith p (Str.ofString "/") = true then p ++ q else p ++ (Str.ofString "/" ++ q)
theorem joinOf_1 {p q : Str} (h : Txt.startswith q (Str.ofString "/") = true) : joinOf p q = q := by unfold joinOf; rw [if_pos h]
theorem joinOf_2 {p q : Str} (h : Txt.startswith q (Str.ofString "/") = false) (h2 : (p.length : Int) = 0) : joinOf p q = q := by unfold joinOf; rw [if_neg (by rw [h]; decide), if_pos h2]
theorem joinOf_3 {p q : Str} (h : Txt.startswith q (Str.ofString "/") = false) (h2 : ¬ ((p.length : Int) = 0)) (h3 : Txt.endswith p (Str.ofString "/") = true) : joinOf p q = p ++ q := by unfold joinOf; rw [if_neg (by rw [h]; decide), if_neg h2, if_pos h3]
theorem joinOf_4 {p q : Str} (h : Txt.startswith q (Str.ofString "/") = false) (h2 : ¬ ((p.length : Int) = 0)) (h3 : Txt.endswith p (Str.ofString "/") = false) : joinOf p q = p ++ (Str.ofString "/" ++ q) := by unfold joinOf; rw [if_neg (by rw [h]; decide), if_neg h2, if_neg (by rw [h3]; decide)]
set_option maxHeartbeats 8000000 in
theorem join_spec (w : World) (mean : ExcName → Option Value) (mg mb : Str → Option Value) (p q : Str) (t u : Tok) : Spec w mean mg mb 152 8 100 [.str p t, .str q u] (fun h => p.length ≤ 1000 ∧ q.length ≤ 1000)
   (fun h r h' => ∃ v, r = .str (joinOf p q) v) := by
  walk_at "MINE openS"
  k_steps
  all_goals (walk_at "MINE fin"; first | rw [joinOf_1 (by assumption)] | rw [joinOf_3 (by assumption) (by assumption) (by assumption)] | rw [joinOf_4 (by assumption) (by assumption) (by assumption)] | rw [joinOf_2 (by assumption) (by assumption)])
  all_goals (exact ⟨_, rfl⟩)
end

-- Written
theorem words6 : True := by
  k_with_none
  (k_with "MINE enter" => (refine' enter0 ?k1 ?k2 ?k3 ?k5 ?kA ?kF ?kK ?k6 ?k7 ?k8 ?k9 ?kB ?_ ?c2 ?c3 ?c4 ?c5; (case kA => exact rfl); (case kF => exact rfl); (case kK => assumption); (case k1 => k_asm); (case k2 => k_asm); (case k3 => k_asm); (case k5 => k_asm); (case k6 => k_is); (case k7 => k_is); (case k8 => ktr_room); (case k9 => exact BindsTo.of_eq rfl); (case c5 => decide); (case kB => exact locs rfl); (case c2 => exact rfl); (case c3 => exact rfl); (case c4 => exact rfl); k_whole; intro L' h' F' N' B' X' T'; (try dsimp only); (try k_fold)))
  (k_with "MINE open" => (
    unfold Spec
    intro dp un gd cn cs a ccd cl outer A₀ base h₀ L m s Q E B F X T hk hdp hu hpre hret
    revert X
    k_fill
    intro X
    refine wpAny_call ?_
    k_dflt (walk_at "MINE enter")
    clear F X T B))
  (k_with "MINE fin" => ((rename Back _ _ _ => hb9); (have hb8 := @Back.fin _ _ _ hb9); refine hb8 (by assumption) ?_))
  (k_with "MINE enterS" => (refine' enterS ?k1 ?k2 ?k3 ?k5 ?kA ?kF ?kK ?k6 ?k7 ?k8 ?kV ?kP ?kG ?kB ?_ ?c2 ?c3 ?c4 ?c5; (case kA => exact rfl); (case kF => exact rfl); (case kK => assumption); (case k1 => k_asm); (case k2 => k_asm); (case k3 => k_asm); (case k5 => k_asm); (case k6 => k_is); (case k7 => k_is); (case k8 => ktr_room); (case kV => kl_lit); (case kP => exact rfl); (case kG => exact fun _ => rfl); (case kB => exact fun _ => locs rfl); (case c5 => decide); (case c2 => exact rfl); (case c3 => exact rfl); (case c4 => exact rfl); k_whole; intro D' L' h' F' N' B' X' T'; (try dsimp only); (try k_fold)))
  (k_with "MINE openS" => (
    unfold Spec
    intro dp un gd cn cs a ccd cl outer A₀ base h₀ L m s Q E B F X T hk hdp hu hpre hret
    revert X
    k_fill
    intro X
    refine wpAny_call ?_
    k_dflt (walk_at "MINE enterS")
    clear F X T B))
  (k_with "MINE enterK" => (refine' enter0 ?k1 ?k2 ?k3 ?k5 ?kA ?kF ?kK ?k6 ?k7 ?k8 ?k9 ?kB ?_ ?c2 ?c3 ?c4 ?c5; (case kA => exact rfl); (case kF => exact rfl); (case kK => assumption); (case k1 => k_asm); (case k2 => k_asm); (case k3 => k_asm); (case k5 => k_asm); (case k6 => k_is); (case k7 => k_is); (case k8 => ktr_room); (case k9 => (refine kp_binds (by exact Frag.In.keeps (by assumption) (Fr.keep (by assumption))) (by exact fun _ => rfl))); (case c5 => decide); (case kB => exact locs rfl); (case c2 => exact rfl); (case c3 => exact rfl); (case c4 => exact rfl); k_whole; intro L' h' F' N' B' X' T'; (try dsimp only); (try k_fold)))
  (k_with "MINE openK" => (
    unfold SpecKw
    intro dp un gd cn cs a ccd cl outer A₀ base h₀ L m s Q E B F X T hk hdp hu hpre hret
    revert X
    k_fill
    intro X
    refine wpAny_call ?_
    k_dflt (walk_at "MINE enterK")
    clear F X T B))
  (k_with "MINE openD" => (
    unfold Spec
    intro dp un gd cn cs a ccd cl outer A₀ base h₀ L m s Q E B F X T hk hdp hu hpre hret
    revert X
    k_fill
    intro X
    refine wpAny_call ?_
    k_dflt (walk_at "MINE enterK")
    clear F X T B))
  (k_with "exec For Name Call cons nil" => (k_here; (with_reducible show wpAny _ _ (exec (Stmt.For (Expr.Name _ _) (Expr.Call _ _ _ _) _ [] _) _) _ _ _); (rename Fr _ _ _ _ => lF9); (with_unfolding_all refine For_mine lF9 (by exact rfl) (by exact rfl) ?_; k_whole)))
  (k_with "exec For Name Name cons nil" => (k_here; (with_reducible show wpAny _ _ (exec (Stmt.For (Expr.Name _ _) (Expr.Name _ _) _ [] _) _) _ _ _); (rename Fr _ _ _ _ => lF9); (with_unfolding_all refine For_mine lF9 (by exact rfl) (by exact rfl) ?_; k_whole)))
  (k_with "call ref" => (k_here; (with_reducible show wpAny _ _ (call (Value.ref 187) _) _ _ _); k_dflt (refine Spec.use (signs_spec _ _ _ _) (by k_asm) (by k_asm) (by k_asm) (by k_asm) (by k_asm) (by first | exact rfl | assumption) (by ktr_room) (by ktr_units) (by exact True.intro) ?_; k_whole); intro r' h' tk' F' N' kp' hp'; (refine Exists.elim hp' ?_; clear hp'; intro t' hp'; subst hp')))
  exact True.intro

section
open PySem PySem.W PyProof.Rows PySem.Calls PySem.Spec
theorem spare_of (n : Nat) : ∃ sp : Nat, (-(n : Int)).fmod 3 = (sp : Int) ∧ sp ≤ 2 ∧ ∃ g, n + sp = 3 * g := by
  refine ⟨((-(n : Int)).fmod 3).toNat, ?_, ?_, ?_⟩
  · rw [Int.fmod_eq_emod_of_nonneg _ (by decide)]; omega
  · rw [Int.fmod_eq_emod_of_nonneg _ (by decide)]; omega
  · rw [Int.fmod_eq_emod_of_nonneg _ (by decide)]
    exact ⟨(n + ((-(n : Int)) % 3).toNat) / 3, by omega⟩
theorem flat_rep {α : Type} (k : Nat) (x : α) : (List.replicate k [x]).flatten = List.replicate k x := by
  induction k with
  | zero => rfl
  | succ k ih => rw [List.replicate_succ, List.flatten_cons, ih, List.replicate_succ]; rfl
theorem size3 (b : Int) (g : Nat) (h : b = ((3 * g : Nat) : Int)) : Builtin.Range.rangeSize 0 b 3 = ((g : Nat) : Int) := by
  subst h
  unfold Builtin.Range.rangeSize
  by_cases h0 : g = 0
  · subst h0; rfl
  · rw [if_pos (by decide), if_pos (by omega)]; omega
theorem small3 (b : Int) (g : Nat) (h : b = ((3 * g : Nat) : Int)) (hg : g < 20) : Builtin.Range.small 0 b 3 = true := by
  subst h
  have : ∀ g, g < 20 → Builtin.Range.small 0 ((3 * g : Nat) : Int) 3 = true := by decide +kernel
  exact this g hg
noncomputable abbrev SG : Str := Str.ofString "ABCDEFGHIJKLMNOPQRSTUVWXYZabcdefghijklmnopqrstuvwxyz0123456789+/"
noncomputable def three (fl : List Int) (i : Nat) : Int := fl.getD (0 + (i : Int) * 3).toNat 0 * 65536 + fl.getD (0 + (i : Int) * 3 + 1).toNat 0 * 256 + fl.getD (0 + (i : Int) * 3 + 2).toNat 0
noncomputable def wT (fl : List Int) : Nat → Str
  | 0 => Str.ofString ""
  | i + 1 => wT fl i ++ Txt.item SG (((three fl i).fdiv 262144).fmod 64) ++ Txt.item SG (((three fl i).fdiv 4096).fmod 64) ++ Txt.item SG (((three fl i).fdiv 64).fmod 64) ++ Txt.item SG (((three fl i).fdiv 1).fmod 64)
theorem wT_len (fl : List Int) (i : Nat) : (wT fl i).length = 4 * i := by
  induction i with
  | zero => rfl
  | succ i ih => simp only [wT, Str.length_append, ih, PyProof.Rows.len_item]; omega
noncomputable def spareOf (ns : List Int) : Nat := ((-(ns.length : Int)).fmod 3).toNat
noncomputable def fullOf (ns : List Int) : List Int := ns ++ List.replicate (spareOf ns) 0
noncomputable def writtenS (ns : List Int) : Str := Txt.slice (wT (fullOf ns) ((fullOf ns).length / 3)) none (some (((wT (fullOf ns) ((fullOf ns).length / 3)).length : Int) - (spareOf ns : Int))) ++ Txt.mul (Str.ofString "=") (spareOf ns : Int)
set_option maxHeartbeats 8000000 in
theorem written_spec (w : World) (mean : ExcName → Option Value) (mg mb : Str → Option Value) (l : Addr) (vs : List Value) (ns : List Int) : Spec w mean mg mb 208 8 100 [.ref l] (fun h => h.IsList l vs.toArray ∧ IntsAre vs ns ∧ ns.length ≤ 40)
   (fun h r h' => ∃ u, r = .str (writtenS ns) u) := by
  walk_at "MINE open"
  rename _ ∧ _ => hp9
  obtain ⟨hl, hi, hb⟩ := hp9
  k_steps
  obtain ⟨sp, hsp, hsp2, g, hg⟩ := spare_of ns.length
  have e1 : spareOf ns = sp := by unfold spareOf; rw [hsp]; rfl
  simp only [hsp, Int.toNat_natCast, flat_rep] at *
  have hfl : (ns ++ List.replicate sp (0 : Int)).length = 3 * g := by simp [hg]
  generalize hfu : ns ++ List.replicate sp (0 : Int) = fl at *
  k_steps
  refine Stop.go (for_rangeS (n := g) rfl (by assumption) ?sm ?sz [Str.ofString "three", Str.ofString "weight"] (fun i kvs => ∃ t, kvs = [(Str.ofString "text", .str (wT fl i) t)]) (by assumption) (by assumption) [(Str.ofString "text", .str (wT fl 0) ?tt)] ?k0 ⟨?tt, rfl⟩ ?tn ?dn)
  case k0 => exact List.forall_mem_cons.mpr ⟨by with_unfolding_all exact rfl, fun _ h => nomatch h⟩
  case sm => exact small3 _ _ (by rw [hfl]) (by omega)
  case sz => exact size3 _ _ (by rw [hfl])
  case tn =>
    intro i t9 kvs u9 I oI h9 tk9 hi9 hv9 ho9 hI9 F9 N9
    obtain ⟨t8, rfl⟩ := hv9
    have hTi := wT_len fl i
    have ho8 := ho9
    simp only [frm] at F9
    simp only [List.forall_mem_cons] at ho9
    k_steps
    refine FTurn.mk (by assumption) (by assumption) [(Str.ofString "text", .str (wT fl (i + 1)) ?tu)] _ ?hs ho8 ?h1 ?h2 ⟨⟨?tu, rfl⟩, rfl⟩
    case hs => lcg_sub
    case h1 => exact List.forall_mem_cons.mpr ⟨by with_unfolding_all exact rfl, fun _ h => nomatch h⟩
    case h2 =>
      intro z hz ht
      simp only [List.map_cons, List.map_nil, List.contains_cons, List.contains_nil, Bool.or_false, Bool.or_eq_false_iff, beq_eq_false_iff_ne, ne_eq] at hz ht
      simp [hz, ht]
  case dn =>
    intro kvs u9 h9 tk9 hv9 F9 N9
    obtain ⟨t8, rfl⟩ := hv9
    have hTi := wT_len fl g
    simp only [frm] at F9
    dsimp only
    k_steps
    walk_at "MINE fin"
    have e2 : fullOf ns = fl := by unfold fullOf; rw [e1, hfu]
    have e3 : fl.length / 3 = g := by rw [hfl]; omega
    unfold writtenS
    rw [e1, e2, e3]
    exact ⟨_, rfl⟩
end

-- Unwritten
theorem words7 : True := by
  k_with_none
  (k_with "MINE enter" => (refine' enter0 ?k1 ?k2 ?k3 ?k5 ?kA ?kF ?kK ?k6 ?k7 ?k8 ?k9 ?kB ?_ ?c2 ?c3 ?c4 ?c5; (case kA => exact rfl); (case kF => exact rfl); (case kK => assumption); (case k1 => k_asm); (case k2 => k_asm); (case k3 => k_asm); (case k5 => k_asm); (case k6 => k_is); (case k7 => k_is); (case k8 => ktr_room); (case k9 => exact BindsTo.of_eq rfl); (case c5 => decide); (case kB => exact locs rfl); (case c2 => exact rfl); (case c3 => exact rfl); (case c4 => exact rfl); k_whole; intro L' h' F' N' B' X' T'; (try dsimp only); (try k_fold)))
  (k_with "MINE open" => (
    unfold Spec
    intro dp un gd cn cs a ccd cl outer A₀ base h₀ L m s Q E B F X T hk hdp hu hpre hret
    revert X
    k_fill
    intro X
    refine wpAny_call ?_
    k_dflt (walk_at "MINE enter")
    clear F X T B))
  (k_with "MINE fin" => ((rename Back _ _ _ => hb9); (have hb8 := @Back.fin _ _ _ hb9); refine hb8 (by assumption) ?_))
  (k_with "MINE enterS" => (refine' enterS ?k1 ?k2 ?k3 ?k5 ?kA ?kF ?kK ?k6 ?k7 ?k8 ?kV ?kP ?kG ?kB ?_ ?c2 ?c3 ?c4 ?c5; (case kA => exact rfl); (case kF => exact rfl); (case kK => assumption); (case k1 => k_asm); (case k2 => k_asm); (case k3 => k_asm); (case k5 => k_asm); (case k6 => k_is); (case k7 => k_is); (case k8 => ktr_room); (case kV => kl_lit); (case kP => exact rfl); (case kG => exact fun _ => rfl); (case kB => exact fun _ => locs rfl); (case c5 => decide); (case c2 => exact rfl); (case c3 => exact rfl); (case c4 => exact rfl); k_whole; intro D' L' h' F' N' B' X' T'; (try dsimp only); (try k_fold)))
  (k_with "MINE openS" => (
    unfold Spec
    intro dp un gd cn cs a ccd cl outer A₀ base h₀ L m s Q E B F X T hk hdp hu hpre hret
    revert X
    k_fill
    intro X
    refine wpAny_call ?_
    k_dflt (walk_at "MINE enterS")
    clear F X T B))
  (k_with "MINE enterK" => (refine' enter0 ?k1 ?k2 ?k3 ?k5 ?kA ?kF ?kK ?k6 ?k7 ?k8 ?k9 ?kB ?_ ?c2 ?c3 ?c4 ?c5; (case kA => exact rfl); (case kF => exact rfl); (case kK => assumption); (case k1 => k_asm); (case k2 => k_asm); (case k3 => k_asm); (case k5 => k_asm); (case k6 => k_is); (case k7 => k_is); (case k8 => ktr_room); (case k9 => (refine kp_binds (by exact Frag.In.keeps (by assumption) (Fr.keep (by assumption))) (by exact fun _ => rfl))); (case c5 => decide); (case kB => exact locs rfl); (case c2 => exact rfl); (case c3 => exact rfl); (case c4 => exact rfl); k_whole; intro L' h' F' N' B' X' T'; (try dsimp only); (try k_fold)))
  (k_with "MINE openK" => (
    unfold SpecKw
    intro dp un gd cn cs a ccd cl outer A₀ base h₀ L m s Q E B F X T hk hdp hu hpre hret
    revert X
    k_fill
    intro X
    refine wpAny_call ?_
    k_dflt (walk_at "MINE enterK")
    clear F X T B))
  (k_with "MINE openD" => (
    unfold Spec
    intro dp un gd cn cs a ccd cl outer A₀ base h₀ L m s Q E B F X T hk hdp hu hpre hret
    revert X
    k_fill
    intro X
    refine wpAny_call ?_
    k_dflt (walk_at "MINE enterK")
    clear F X T B))
  (k_with "exec For Name Call cons nil" => (k_here; (with_reducible show wpAny _ _ (exec (Stmt.For (Expr.Name _ _) (Expr.Call _ _ _ _) _ [] _) _) _ _ _); (rename Fr _ _ _ _ => lF9); (with_unfolding_all refine For_mine lF9 (by exact rfl) (by exact rfl) ?_; k_whole)))
  (k_with "exec For Name Name cons nil" => (k_here; (with_reducible show wpAny _ _ (exec (Stmt.For (Expr.Name _ _) (Expr.Name _ _) _ [] _) _) _ _ _); (rename Fr _ _ _ _ => lF9); (with_unfolding_all refine For_mine lF9 (by exact rfl) (by exact rfl) ?_; k_whole)))
  (k_with "call ref" => (k_here; (with_reducible show wpAny _ _ (call (Value.ref 187) _) _ _ _); k_dflt (refine Spec.use (signs_spec _ _ _ _) (by k_asm) (by k_asm) (by k_asm) (by k_asm) (by k_asm) (by first | exact rfl | assumption) (by ktr_room) (by ktr_units) (by exact True.intro) ?_; k_whole); intro r' h' tk' F' N' kp' hp'; (refine Exists.elim hp' ?_; clear hp'; intro t' hp'; subst hp')))
  (k_with "call builtin:list.append" => (k_here; (with_reducible show wpAny _ _ (call (Value.builtin _) [Value.ref _, _]) _ _ _); k_dflt (refine append_K (by k_asm) (by k_asm) (by k_upd) ?_ (by (simp only [List.size_toArray, List.length_append, List.length_cons, List.length_nil, PySem.sizeLine_eq]; omega)); k_whole); intro h' F' N'))
  exact True.intro

section
open PySem PySem.W PyProof.Rows PySem.Calls PySem.Spec
structure US where
  o : List Int
  h : Int
  b : Nat
noncomputable def uFind (c : Nat) : Int := Txt.find (Str.ofString "ABCDEFGHIJKLMNOPQRSTUVWXYZabcdefghijklmnopqrstuvwxyz0123456789+/") ⟨#[c]⟩
noncomputable def uStep (s : US) (c : Nat) : US :=
  if ((⟨#[c]⟩ : Str) != Str.ofString "=") = true then
    if 8 ≤ s.b + 6 then ⟨s.o ++ [(s.h * 64 + uFind c).fdiv (2 ^ (s.b + 6 - 8))], (s.h * 64 + uFind c).fmod (2 ^ (s.b + 6 - 8)), s.b + 6 - 8⟩ else ⟨s.o, s.h * 64 + uFind c, s.b + 6⟩
  else s
noncomputable def uRun (x : Str) (i : Nat) : US := (x.cps.toList.take i).foldl uStep ⟨[], 0, 0⟩
theorem uFind_b (c : Nat) : -1 ≤ uFind c ∧ uFind c ≤ 64 := by
  have h := fact_find (Str.ofString "ABCDEFGHIJKLMNOPQRSTUVWXYZabcdefghijklmnopqrstuvwxyz0123456789+/") ⟨#[c]⟩
  have e : (Str.ofString "ABCDEFGHIJKLMNOPQRSTUVWXYZabcdefghijklmnopqrstuvwxyz0123456789+/").length = 64 := by decide +kernel
  rw [e] at h
  unfold uFind
  omega
noncomputable def UOk (s : US) : Prop := (s.b = 0 ∧ s.h = 0) ∨ ((s.b = 2 ∨ s.b = 4 ∨ s.b = 6) ∧ -1 ≤ s.h ∧ s.h ≤ 64)
theorem uStep_ok {s : US} (c : Nat) (h : UOk s) : UOk (uStep s c) := by
  have hf := uFind_b c
  unfold uStep
  split
  · split
    · rename_i h8
      have e : ∀ k : Nat, (s.h * 64 + uFind c).fmod (2 ^ k) = (s.h * 64 + uFind c) % (2 ^ k) := fun k => Int.fmod_eq_emod_of_nonneg _ (by exact Int.pow_nonneg (by decide))
      rw [e]
      unfold UOk at h ⊢
      rcases h with ⟨h1, h2⟩ | ⟨h1 | h1 | h1, h2⟩
      · omega
      · left; rw [h1]; dsimp only; refine ⟨rfl, ?_⟩; show (s.h * 64 + uFind c) % (2 ^ 0) = 0; omega
      · right; rw [h1]; dsimp only; refine ⟨.inl rfl, ?_⟩; show -1 ≤ (s.h * 64 + uFind c) % (2 ^ 2) ∧ (s.h * 64 + uFind c) % (2 ^ 2) ≤ 64; omega
      · right; rw [h1]; dsimp only; refine ⟨.inr (.inl rfl), ?_⟩; show -1 ≤ (s.h * 64 + uFind c) % (2 ^ 4) ∧ (s.h * 64 + uFind c) % (2 ^ 4) ≤ 64; omega
    · rename_i h8
      unfold UOk at h ⊢
      rcases h with ⟨h1, h2⟩ | ⟨h1 | h1 | h1, h2⟩
      · right; rw [h1, h2]; dsimp only; omega
      · omega
      · omega
      · omega
  · exact h
theorem uRun_zero (x : Str) : uRun x 0 = ⟨[], 0, 0⟩ := rfl
theorem uRun_succ {x : Str} {i c : Nat} (h : x.cps[i]? = some c) : uRun x (i + 1) = uStep (uRun x i) c := by
  unfold uRun
  have h' : x.cps.toList[i]? = some c := by simpa using h
  rw [List.take_add_one, h', Option.toList_some, List.foldl_append]
  rfl
theorem fold_ok : ∀ (l : List Nat) (s : US), UOk s → UOk (l.foldl uStep s)
  | [], _, h => h
  | c :: r, _, h => fold_ok r _ (uStep_ok c h)
theorem uRun_ok (x : Str) (i : Nat) : UOk (uRun x i) := fold_ok _ _ (.inl ⟨rfl, rfl⟩)
theorem uRun_b (x : Str) (i : Nat) : (uRun x i).b < 8 := by have h := uRun_ok x i; unfold UOk at h; omega
theorem uRun_h (x : Str) (i : Nat) : -1 ≤ (uRun x i).h ∧ (uRun x i).h ≤ 64 := by have h := uRun_ok x i; unfold UOk at h; omega
theorem uStep_len (s : US) (c : Nat) : (uStep s c).o.length ≤ s.o.length + 1 := by
  unfold uStep
  split
  · split
    · simp
    · simp
  · omega
theorem fold_len : ∀ (l : List Nat) (s : US), (l.foldl uStep s).o.length ≤ s.o.length + l.length
  | [], _ => Nat.le_refl _
  | c :: r, s => by have h1 := fold_len r (uStep s c); have h2 := uStep_len s c; simp only [List.foldl_cons, List.length_cons]; omega
theorem uRun_o (x : Str) (i : Nat) : (uRun x i).o.length ≤ i := by
  have h := fold_len (x.cps.toList.take i) ⟨[], 0, 0⟩
  have h2 : (x.cps.toList.take i).length ≤ i := by simp; omega
  simp only [List.length_nil, Nat.zero_add] at h
  exact Nat.le_trans h h2
/-- what the law's own hand reads -/
noncomputable def unwrittenS (x : Str) : List Int := (uRun x x.cps.size).o
noncomputable def uV (p : Str) (i c : Nat) : Int := ((uRun p i).h * 64 + Txt.find (Str.ofString "ABCDEFGHIJKLMNOPQRSTUVWXYZabcdefghijklmnopqrstuvwxyz0123456789+/") ⟨#[c]⟩).fdiv (2 ^ (((uRun p i).b : Int) + 6 - 8).toNat)
section
variable {p : Str} {i c : Nat}
theorem uA_h (hc : p.cps[i]? = some c) (h1 : ((⟨#[c]⟩ : Str) != Str.ofString "=") = true) (h2 : (8 : Int) ≤ ((uRun p i).b : Int) + 6) : (uRun p (i + 1)).h = ((uRun p i).h * 64 + Txt.find (Str.ofString "ABCDEFGHIJKLMNOPQRSTUVWXYZabcdefghijklmnopqrstuvwxyz0123456789+/") ⟨#[c]⟩).fmod (2 ^ (((uRun p i).b : Int) + 6 - 8).toNat) := by
  rw [uRun_succ hc]; unfold uStep; rw [if_pos h1, if_pos (by omega), show (((uRun p i).b : Int) + 6 - 8).toNat = (uRun p i).b + 6 - 8 by omega]; rfl
theorem uA_b (hc : p.cps[i]? = some c) (h1 : ((⟨#[c]⟩ : Str) != Str.ofString "=") = true) (h2 : (8 : Int) ≤ ((uRun p i).b : Int) + 6) : ((uRun p (i + 1)).b : Int) = ((uRun p i).b : Int) + 6 - 8 := by
  rw [uRun_succ hc]; unfold uStep; rw [if_pos h1, if_pos (by omega)]; dsimp only; omega
theorem uA_o (hc : p.cps[i]? = some c) (h1 : ((⟨#[c]⟩ : Str) != Str.ofString "=") = true) (h2 : (8 : Int) ≤ ((uRun p i).b : Int) + 6) : (uRun p (i + 1)).o = (uRun p i).o ++ [uV p i c] := by
  unfold uV
  rw [uRun_succ hc]; unfold uStep; rw [if_pos h1, if_pos (by omega), show (((uRun p i).b : Int) + 6 - 8).toNat = (uRun p i).b + 6 - 8 by omega]; rfl
theorem uB_h (hc : p.cps[i]? = some c) (h1 : ((⟨#[c]⟩ : Str) != Str.ofString "=") = true) (h2 : ¬ (8 : Int) ≤ ((uRun p i).b : Int) + 6) : (uRun p (i + 1)).h = (uRun p i).h * 64 + Txt.find (Str.ofString "ABCDEFGHIJKLMNOPQRSTUVWXYZabcdefghijklmnopqrstuvwxyz0123456789+/") ⟨#[c]⟩ := by
  rw [uRun_succ hc]; unfold uStep; rw [if_pos h1, if_neg (by omega)]; rfl
theorem uB_b (hc : p.cps[i]? = some c) (h1 : ((⟨#[c]⟩ : Str) != Str.ofString "=") = true) (h2 : ¬ (8 : Int) ≤ ((uRun p i).b : Int) + 6) : ((uRun p (i + 1)).b : Int) = ((uRun p i).b : Int) + 6 := by
  rw [uRun_succ hc]; unfold uStep; rw [if_pos h1, if_neg (by omega)]; dsimp only; omega
theorem uB_o (hc : p.cps[i]? = some c) (h1 : ((⟨#[c]⟩ : Str) != Str.ofString "=") = true) (h2 : ¬ (8 : Int) ≤ ((uRun p i).b : Int) + 6) : (uRun p (i + 1)).o = (uRun p i).o := by
  rw [uRun_succ hc]; unfold uStep; rw [if_pos h1, if_neg (by omega)]
theorem uC (hc : p.cps[i]? = some c) (h1 : ((⟨#[c]⟩ : Str) != Str.ofString "=") = false) : uRun p (i + 1) = uRun p i := by
  rw [uRun_succ hc]; unfold uStep; rw [if_neg (by rw [h1]; decide)]
end
set_option maxHeartbeats 8000000 in
theorem unwritten_spec (w : World) (mean : ExcName → Option Value) (mg mb : Str → Option Value) (p : Str) (t : Tok) : Spec w mean mg mb 215 8 100 [.str p t] (fun h => p.length ≤ 100)
   (fun h r h' => ∃ a ys k, r = .ref a ∧ h'.get? a = some (W.listOf ys.toArray k) ∧ h.get? a = none ∧ IntsAre ys (unwrittenS p)) := by
  walk_at "MINE open"
  k_steps
  refine Stop.go (for_strD rfl (by assumption) (by assumption) [] (Str.ofString "octets") (by with_unfolding_all exact rfl) (W.listOf #[] 0) [] (fun i kvs o => ∃ ys k th tb, kvs = [(Str.ofString "held", .int (uRun p i).h th), (Str.ofString "bits", .int ((uRun p i).b : Int) tb)] ∧ o = W.listOf ys.toArray k ∧ IntsAre ys (uRun p i).o) [(Str.ofString "held", .int (uRun p 0).h ?th), (Str.ofString "bits", .int ((uRun p 0).b : Int) ?tb)] ?k0 ?n0 ⟨[], 0, ?th, ?tb, rfl, rfl, .nil⟩ ?tn ?dn)
  case k0 => exact List.forall_mem_cons.mpr ⟨by with_unfolding_all exact rfl, List.forall_mem_cons.mpr ⟨by with_unfolding_all exact rfl, fun _ h => nomatch h⟩⟩
  case n0 => lcg_sub
  case tn =>
    intro i c t9 kvs o u9 I oI h9 tk9 hi9 hc9 hv9 ho9 hI9 F9 N9
    obtain ⟨ys, k9, th9, tb9, rfl, rfl, hy9⟩ := hv9
    have hub := uRun_b p i
    have huh := uRun_h p i
    have huo := uRun_o p i
    have hyl := hy9.length
    have ho8 := ho9
    simp only [frm] at F9
    have hne := off1 ho9
    simp only [LCg.Off1, and_true] at hne
    rename p.length ≤ 100 => hpl
    have hpl' : p.cps.size ≤ 100 := hpl
    have hz : ys.length ≤ 100 := by omega
    k_steps
    · rename (_ != _) = true => hA
      rename (8 : Int) ≤ _ => hB
      simp only [List.push_toArray] at *
      have e1 := uA_h hc9 hA hB
      have e2 := uA_b hc9 hA hB
      refine FTurn.mk (by assumption) (by assumption) [(Str.ofString "held", .int (uRun p (i + 1)).h ?ta), (Str.ofString "bits", .int ((uRun p (i + 1)).b : Int) ?tc)] [(_, W.listOf (ys ++ [Value.int (uV p i c) ?te]).toArray (k9 + 1))] ?hs ?ho ?h1 ?h2 ⟨W.listOf (ys ++ [Value.int (uV p i c) ?te]).toArray (k9 + 1), rfl, ys ++ [Value.int (uV p i c) ?te], k9 + 1, ?ta, ?tc, rfl, rfl, by rw [uA_o hc9 hA hB]; exact hy9.append (.cons _ _ .nil)⟩
      case ho => exact off_upd ho8 _
      case h1 => rw [e1, e2]; exact List.forall_mem_cons.mpr ⟨by with_unfolding_all exact rfl, List.forall_mem_cons.mpr ⟨by with_unfolding_all exact rfl, fun _ h => nomatch h⟩⟩
      case hs => lcg_sub
      case h2 =>
        intro z hz ht
        simp only [List.map_cons, List.map_nil, List.contains_cons, List.contains_nil, Bool.or_false, Bool.or_eq_false_iff, beq_eq_false_iff_ne, ne_eq] at hz ht
        simp [hz, ht]
    · rename (_ != _) = true => hA
      rename ¬ (8 : Int) ≤ _ => hB
      have e1 := uB_h hc9 hA hB
      have e2 := uB_b hc9 hA hB
      refine FTurn.mk (by assumption) (by assumption) [(Str.ofString "held", .int (uRun p (i + 1)).h ?ta1), (Str.ofString "bits", .int ((uRun p (i + 1)).b : Int) ?tc1)] [(_, W.listOf ys.toArray k9)] ?hs ho8 ?h1 ?h2 ⟨_, rfl, ys, k9, ?ta1, ?tc1, rfl, rfl, by rw [uB_o hc9 hA hB]; exact hy9⟩
      case h1 => rw [e1, e2]; exact List.forall_mem_cons.mpr ⟨by with_unfolding_all exact rfl, List.forall_mem_cons.mpr ⟨by with_unfolding_all exact rfl, fun _ h => nomatch h⟩⟩
      case hs => lcg_sub
      case h2 =>
        intro z hz ht
        simp only [List.map_cons, List.map_nil, List.contains_cons, List.contains_nil, Bool.or_false, Bool.or_eq_false_iff, beq_eq_false_iff_ne, ne_eq] at hz ht
        simp [hz, ht]
    · rename (_ != _) = false => hA
      have e1 := uC hc9 hA
      refine FTurn.mk (by assumption) (by assumption) [(Str.ofString "held", .int (uRun p i).h ?ta2), (Str.ofString "bits", .int ((uRun p i).b : Int) ?tc2)] [(_, W.listOf ys.toArray k9)] ?hs ho8 ?h1 ?h2 ⟨_, rfl, ys, k9, ?ta2, ?tc2, by rw [e1], rfl, by rw [e1]; exact hy9⟩
      case h1 => exact List.forall_mem_cons.mpr ⟨by with_unfolding_all exact rfl, List.forall_mem_cons.mpr ⟨by with_unfolding_all exact rfl, fun _ h => nomatch h⟩⟩
      case hs => lcg_sub
      case h2 =>
        intro z hz ht
        simp only [List.map_cons, List.map_nil, List.contains_cons, List.contains_nil, Bool.or_false, Bool.or_eq_false_iff, beq_eq_false_iff_ne, ne_eq] at hz ht
        simp [hz, ht]
  case dn =>
    intro kvs o u9 h9 tk9 hv9 F9 N9
    obtain ⟨ys, k9, th9, tb9, rfl, rfl, hy9⟩ := hv9
    simp only [frm] at F9
    dsimp only
    k_steps
    walk_at "MINE fin"
    exact ⟨_, ys, k9, rfl, News.get (by assumption) (List.Mem.head _), News.fresh (by assumption) (List.Mem.head _), hy9⟩
end

-- Oct
theorem words8 : True := by
  k_with_none
  (k_with "MINE enter" => (refine' enter0 ?k1 ?k2 ?k3 ?k5 ?kA ?kF ?kK ?k6 ?k7 ?k8 ?k9 ?kB ?_ ?c2 ?c3 ?c4 ?c5; (case kA => exact rfl); (case kF => exact rfl); (case kK => assumption); (case k1 => k_asm); (case k2 => k_asm); (case k3 => k_asm); (case k5 => k_asm); (case k6 => k_is); (case k7 => k_is); (case k8 => ktr_room); (case k9 => exact BindsTo.of_eq rfl); (case c5 => decide); (case kB => exact locs rfl); (case c2 => exact rfl); (case c3 => exact rfl); (case c4 => exact rfl); k_whole; intro L' h' F' N' B' X' T'; (try dsimp only); (try k_fold)))
  (k_with "MINE open" => (
    unfold Spec
    intro dp un gd cn cs a ccd cl outer A₀ base h₀ L m s Q E B F X T hk hdp hu hpre hret
    revert X
    k_fill
    intro X
    refine wpAny_call ?_
    k_dflt (walk_at "MINE enter")
    clear F X T B))
  (k_with "MINE fin" => ((rename Back _ _ _ => hb9); (have hb8 := @Back.fin _ _ _ hb9); refine hb8 (by assumption) ?_))
  (k_with "MINE enterS" => (refine' enterS ?k1 ?k2 ?k3 ?k5 ?kA ?kF ?kK ?k6 ?k7 ?k8 ?kV ?kP ?kG ?kB ?_ ?c2 ?c3 ?c4 ?c5; (case kA => exact rfl); (case kF => exact rfl); (case kK => assumption); (case k1 => k_asm); (case k2 => k_asm); (case k3 => k_asm); (case k5 => k_asm); (case k6 => k_is); (case k7 => k_is); (case k8 => ktr_room); (case kV => kl_lit); (case kP => exact rfl); (case kG => exact fun _ => rfl); (case kB => exact fun _ => locs rfl); (case c5 => decide); (case c2 => exact rfl); (case c3 => exact rfl); (case c4 => exact rfl); k_whole; intro D' L' h' F' N' B' X' T'; (try dsimp only); (try k_fold)))
  (k_with "MINE openS" => (
    unfold Spec
    intro dp un gd cn cs a ccd cl outer A₀ base h₀ L m s Q E B F X T hk hdp hu hpre hret
    revert X
    k_fill
    intro X
    refine wpAny_call ?_
    k_dflt (walk_at "MINE enterS")
    clear F X T B))
  (k_with "MINE enterK" => (refine' enter0 ?k1 ?k2 ?k3 ?k5 ?kA ?kF ?kK ?k6 ?k7 ?k8 ?k9 ?kB ?_ ?c2 ?c3 ?c4 ?c5; (case kA => exact rfl); (case kF => exact rfl); (case kK => assumption); (case k1 => k_asm); (case k2 => k_asm); (case k3 => k_asm); (case k5 => k_asm); (case k6 => k_is); (case k7 => k_is); (case k8 => ktr_room); (case k9 => (refine kp_binds (by exact Frag.In.keeps (by assumption) (Fr.keep (by assumption))) (by exact fun _ => rfl))); (case c5 => decide); (case kB => exact locs rfl); (case c2 => exact rfl); (case c3 => exact rfl); (case c4 => exact rfl); k_whole; intro L' h' F' N' B' X' T'; (try dsimp only); (try k_fold)))
  (k_with "MINE openK" => (
    unfold SpecKw
    intro dp un gd cn cs a ccd cl outer A₀ base h₀ L m s Q E B F X T hk hdp hu hpre hret
    revert X
    k_fill
    intro X
    refine wpAny_call ?_
    k_dflt (walk_at "MINE enterK")
    clear F X T B))
  (k_with "MINE openD" => (
    unfold Spec
    intro dp un gd cn cs a ccd cl outer A₀ base h₀ L m s Q E B F X T hk hdp hu hpre hret
    revert X
    k_fill
    intro X
    refine wpAny_call ?_
    k_dflt (walk_at "MINE enterK")
    clear F X T B))
  (k_with "exec For Name Call cons nil" => (k_here; (with_reducible show wpAny _ _ (exec (Stmt.For (Expr.Name _ _) (Expr.Call _ _ _ _) _ [] _) _) _ _ _); (rename Fr _ _ _ _ => lF9); (with_unfolding_all refine For_mine lF9 (by exact rfl) (by exact rfl) ?_; k_whole)))
  (k_with "exec For Name Name cons nil" => (k_here; (with_reducible show wpAny _ _ (exec (Stmt.For (Expr.Name _ _) (Expr.Name _ _) _ [] _) _) _ _ _); (rename Fr _ _ _ _ => lF9); (with_unfolding_all refine For_mine lF9 (by exact rfl) (by exact rfl) ?_; k_whole)))
  exact True.intro

section
open PySem PySem.W PyProof.Rows PySem.Calls PySem.Spec
noncomputable def octetsOf (v : Int) : List Int := if v < 64 then [v] else [64 + v.fdiv 64, v.fmod 64]
set_option maxHeartbeats 8000000 in
theorem octets_spec (w : World) (mean : ExcName → Option Value) (mg mb : Str → Option Value) (v : Int) (t : Tok) : Spec w mean mg mb 201 4 60 [.int v t] (fun _ => 0 ≤ v ∧ v < 4096)
   (fun h r h' => ∃ a ys k, r = .ref a ∧ h'.get? a = some (W.listOf ys.toArray k) ∧ h.get? a = none ∧ IntsAre ys (octetsOf v)) := by
  walk_at "MINE open"
  k_steps
  · have e : octetsOf v = [v] := by unfold octetsOf; rw [if_pos (by assumption)]
    walk_at "MINE fin"
    rw [e]
    exact ⟨_, [_], 0, rfl, News.get (by assumption) (List.Mem.head _), News.fresh (by assumption) (List.Mem.head _), .cons _ _ .nil⟩
  · have e : octetsOf v = [64 + v.fdiv 64, v.fmod 64] := by unfold octetsOf; rw [if_neg (by assumption)]
    walk_at "MINE fin"
    rw [e]
    exact ⟨_, [_, _], 0, rfl, News.get (by assumption) (List.Mem.head _), News.fresh (by assumption) (List.Mem.head _), .cons _ _ (.cons _ _ .nil)⟩
end

-- Buf
theorem words9 : True := by
  k_with_none
  (k_with "MINE enter" => (refine' enter0 ?k1 ?k2 ?k3 ?k5 ?kA ?kF ?kK ?k6 ?k7 ?k8 ?k9 ?kB ?_ ?c2 ?c3 ?c4 ?c5; (case kA => exact rfl); (case kF => exact rfl); (case kK => assumption); (case k1 => k_asm); (case k2 => k_asm); (case k3 => k_asm); (case k5 => k_asm); (case k6 => k_is); (case k7 => k_is); (case k8 => ktr_room); (case k9 => exact BindsTo.of_eq rfl); (case c5 => decide); (case kB => exact locs rfl); (case c2 => exact rfl); (case c3 => exact rfl); (case c4 => exact rfl); k_whole; intro L' h' F' N' B' X' T'; (try dsimp only); (try k_fold)))
  (k_with "MINE open" => (
    unfold Spec
    intro dp un gd cn cs a ccd cl outer A₀ base h₀ L m s Q E B F X T hk hdp hu hpre hret
    revert X
    k_fill
    intro X
    refine wpAny_call ?_
    k_dflt (walk_at "MINE enter")
    clear F X T B))
  (k_with "MINE fin" => ((rename Back _ _ _ => hb9); (have hb8 := @Back.fin _ _ _ hb9); refine hb8 (by assumption) ?_))
  (k_with "MINE enterS" => (refine' enterS ?k1 ?k2 ?k3 ?k5 ?kA ?kF ?kK ?k6 ?k7 ?k8 ?kV ?kP ?kG ?kB ?_ ?c2 ?c3 ?c4 ?c5; (case kA => exact rfl); (case kF => exact rfl); (case kK => assumption); (case k1 => k_asm); (case k2 => k_asm); (case k3 => k_asm); (case k5 => k_asm); (case k6 => k_is); (case k7 => k_is); (case k8 => ktr_room); (case kV => kl_lit); (case kP => exact rfl); (case kG => exact fun _ => rfl); (case kB => exact fun _ => locs rfl); (case c5 => decide); (case c2 => exact rfl); (case c3 => exact rfl); (case c4 => exact rfl); k_whole; intro D' L' h' F' N' B' X' T'; (try dsimp only); (try k_fold)))
  (k_with "MINE openS" => (
    unfold Spec
    intro dp un gd cn cs a ccd cl outer A₀ base h₀ L m s Q E B F X T hk hdp hu hpre hret
    revert X
    k_fill
    intro X
    refine wpAny_call ?_
    k_dflt (walk_at "MINE enterS")
    clear F X T B))
  (k_with "MINE enterK" => (refine' enter0 ?k1 ?k2 ?k3 ?k5 ?kA ?kF ?kK ?k6 ?k7 ?k8 ?k9 ?kB ?_ ?c2 ?c3 ?c4 ?c5; (case kA => exact rfl); (case kF => exact rfl); (case kK => assumption); (case k1 => k_asm); (case k2 => k_asm); (case k3 => k_asm); (case k5 => k_asm); (case k6 => k_is); (case k7 => k_is); (case k8 => ktr_room); (case k9 => (refine kp_binds (by exact Frag.In.keeps (by assumption) (Fr.keep (by assumption))) (by exact fun _ => rfl))); (case c5 => decide); (case kB => exact locs rfl); (case c2 => exact rfl); (case c3 => exact rfl); (case c4 => exact rfl); k_whole; intro L' h' F' N' B' X' T'; (try dsimp only); (try k_fold)))
  (k_with "MINE openK" => (
    unfold SpecKw
    intro dp un gd cn cs a ccd cl outer A₀ base h₀ L m s Q E B F X T hk hdp hu hpre hret
    revert X
    k_fill
    intro X
    refine wpAny_call ?_
    k_dflt (walk_at "MINE enterK")
    clear F X T B))
  (k_with "MINE openD" => (
    unfold Spec
    intro dp un gd cn cs a ccd cl outer A₀ base h₀ L m s Q E B F X T hk hdp hu hpre hret
    revert X
    k_fill
    intro X
    refine wpAny_call ?_
    k_dflt (walk_at "MINE enterK")
    clear F X T B))
  (k_with "call type:type" => ((with_reducible show wpAny _ _ (call (Value.type "type") [Value.bytes _ _]) _ _ _); refine call_type_of (Tx := "bytes") rfl (by decide +kernel) ?_))
  exact True.intro

section
open PySem PySem.W PyProof.Rows PySem.Calls PySem.Spec
set_option maxHeartbeats 8000000 in
theorem buffer_spec (w : World) (mean : ExcName → Option Value) (mg mb : Str → Option Value) (p : Array UInt8) (t : Tok) : Spec w mean mg mb 35 4 60 [.bytes p t] (fun _ => True)
   (fun h r h' => r = .bytes p t) := by
  walk_at "MINE open"
  k_steps

  all_goals (walk_at "MINE fin"; exact rfl)
set_option maxHeartbeats 8000000 in
theorem truth_spec (w : World) (mean : ExcName → Option Value) (mg mb : Str → Option Value) : Spec w mean mg mb 42 4 60 [.bool false] (fun _ => True)
   (fun h r h' => r = .bool false) := by
  walk_at "MINE open"
  k_steps

  all_goals (walk_at "MINE fin"; exact rfl)
end

-- B2a
theorem words10 : True := by
  k_with_none
  (k_with "MINE enter" => (refine' enter0 ?k1 ?k2 ?k3 ?k5 ?kA ?kF ?kK ?k6 ?k7 ?k8 ?k9 ?kB ?_ ?c2 ?c3 ?c4 ?c5; (case kA => exact rfl); (case kF => exact rfl); (case kK => assumption); (case k1 => k_asm); (case k2 => k_asm); (case k3 => k_asm); (case k5 => k_asm); (case k6 => k_is); (case k7 => k_is); (case k8 => ktr_room); (case k9 => exact BindsTo.of_eq rfl); (case c5 => decide); (case kB => exact locs rfl); (case c2 => exact rfl); (case c3 => exact rfl); (case c4 => exact rfl); k_whole; intro L' h' F' N' B' X' T'; (try dsimp only); (try k_fold)))
  (k_with "MINE open" => (
    unfold Spec
    intro dp un gd cn cs a ccd cl outer A₀ base h₀ L m s Q E B F X T hk hdp hu hpre hret
    revert X
    k_fill
    intro X
    refine wpAny_call ?_
    k_dflt (walk_at "MINE enter")
    clear F X T B))
  (k_with "MINE fin" => ((rename Back _ _ _ => hb9); (have hb8 := @Back.fin _ _ _ hb9); refine hb8 (by assumption) ?_))
  (k_with "MINE enterS" => (refine' enterS ?k1 ?k2 ?k3 ?k5 ?kA ?kF ?kK ?k6 ?k7 ?k8 ?kV ?kP ?kG ?kB ?_ ?c2 ?c3 ?c4 ?c5; (case kA => exact rfl); (case kF => exact rfl); (case kK => assumption); (case k1 => k_asm); (case k2 => k_asm); (case k3 => k_asm); (case k5 => k_asm); (case k6 => k_is); (case k7 => k_is); (case k8 => ktr_room); (case kV => kl_lit); (case kP => exact rfl); (case kG => exact fun _ => rfl); (case kB => exact fun _ => locs rfl); (case c5 => decide); (case c2 => exact rfl); (case c3 => exact rfl); (case c4 => exact rfl); k_whole; intro D' L' h' F' N' B' X' T'; (try dsimp only); (try k_fold)))
  (k_with "MINE openS" => (
    unfold Spec
    intro dp un gd cn cs a ccd cl outer A₀ base h₀ L m s Q E B F X T hk hdp hu hpre hret
    revert X
    k_fill
    intro X
    refine wpAny_call ?_
    k_dflt (walk_at "MINE enterS")
    clear F X T B))
  (k_with "MINE enterK" => (refine' enter0 ?k1 ?k2 ?k3 ?k5 ?kA ?kF ?kK ?k6 ?k7 ?k8 ?k9 ?kB ?_ ?c2 ?c3 ?c4 ?c5; (case kA => exact rfl); (case kF => exact rfl); (case kK => assumption); (case k1 => k_asm); (case k2 => k_asm); (case k3 => k_asm); (case k5 => k_asm); (case k6 => k_is); (case k7 => k_is); (case k8 => ktr_room); (case k9 => (refine kp_binds (by exact Frag.In.keeps (by assumption) (Fr.keep (by assumption))) (by exact fun _ => rfl))); (case c5 => decide); (case kB => exact locs rfl); (case c2 => exact rfl); (case c3 => exact rfl); (case c4 => exact rfl); k_whole; intro L' h' F' N' B' X' T'; (try dsimp only); (try k_fold)))
  (k_with "MINE openK" => (
    unfold SpecKw
    intro dp un gd cn cs a ccd cl outer A₀ base h₀ L m s Q E B F X T hk hdp hu hpre hret
    revert X
    k_fill
    intro X
    refine wpAny_call ?_
    k_dflt (walk_at "MINE enterK")
    clear F X T B))
  (k_with "MINE openD" => (
    unfold Spec
    intro dp un gd cn cs a ccd cl outer A₀ base h₀ L m s Q E B F X T hk hdp hu hpre hret
    revert X
    k_fill
    intro X
    refine wpAny_call ?_
    k_dflt (walk_at "MINE enterK")
    clear F X T B))
  (k_with "exec For Name Call cons nil" => (k_here; (with_reducible show wpAny _ _ (exec (Stmt.For (Expr.Name _ _) (Expr.Call _ _ _ _) _ [] _) _) _ _ _); (rename Fr _ _ _ _ => lF9); (with_unfolding_all refine For_mine lF9 (by exact rfl) (by exact rfl) ?_; k_whole)))
  (k_with "exec For Name Name cons nil" => (k_here; (with_reducible show wpAny _ _ (exec (Stmt.For (Expr.Name _ _) (Expr.Name _ _) _ [] _) _) _ _ _); (rename Fr _ _ _ _ => lF9); (with_unfolding_all refine For_mine lF9 (by exact rfl) (by exact rfl) ?_; k_whole)))
  (k_with "call builtin:list.append" => (k_here; (with_reducible show wpAny _ _ (call (Value.builtin _) [Value.ref _, _]) _ _ _); k_dflt (refine append_K (by k_asm) (by k_asm) (by k_upd) ?_ (by (simp only [List.size_toArray, List.length_append, List.length_cons, List.length_nil, PySem.sizeLine_eq]; omega)); k_whole); intro h' F' N'))
  (k_with "call ref" => (k_here; (with_reducible show wpAny _ _ (call (Value.ref 35) [Value.bytes _ _]) _ _ _); k_dflt (refine Spec.use (buffer_spec _ _ _ _ _ _) (by k_asm) (by k_asm) (by k_asm) (by k_asm) (by k_asm) (by first | exact rfl | assumption) (by ktr_room) (by ktr_units) (by exact True.intro) ?_; k_whole); intro r' h' tk' F' N' kp' hp'; subst hp'))
  (k_with "call ref" => (k_here; (with_reducible show wpAny _ _ (call (Value.ref 42) [Value.bool false]) _ _ _); k_dflt (refine Spec.use (truth_spec _ _ _ _) (by k_asm) (by k_asm) (by k_asm) (by k_asm) (by k_asm) (by first | exact rfl | assumption) (by ktr_room) (by ktr_units) (by exact True.intro) ?_; k_whole); intro r' h' tk' F' N' kp' hp'; subst hp'))
  (k_with "binaryOp LShift int int" => (k_here; (with_reducible show wpAny _ _ (binaryOp _ (Value.int (Builtin.bitAnd _ _) _) (Value.int _ _)) _ _ _); k_dflt (refine lshift_int_small (by decide) (by decide) (by first | exact sh3 _ | exact sh15 _) ?_; k_whole)))
  (k_with "subscriptTail" => (k_here; (with_reducible show wpAny _ _ (subscriptTail _ _ (Value.bytes _ _) (Value.int _ _)) _ _ _); k_dflt (refine KBy.item_N (by (simp only [List.length_cons, List.length_nil]; decide)) (by first | exact (ix63 _).1 | exact (ix3 _).1 | exact (ix15 _).1) (by first | exact (ix63 _).2 | exact (ix3 _).2 | exact (ix15 _).2) ?_; k_whole)))
  exact True.intro

section
open PySem PySem.W PyProof.Rows PySem.Calls PySem.Spec
theorem ix63 (x : Int) : 0 ≤ Builtin.bitAnd x 63 ∧ Builtin.bitAnd x 63 < ((64 : Nat) : Int) := by rw [bitAnd_m6]; omega
theorem ix3 (x : Int) : 0 ≤ Builtin.bitAnd x 3 * 2 ^ Int.toNat 4 ∧ Builtin.bitAnd x 3 * 2 ^ Int.toNat 4 < ((64 : Nat) : Int) := by rw [bitAnd_m2]; show 0 ≤ x % 4 * 16 ∧ x % 4 * 16 < 64; omega
theorem ix15 (x : Int) : 0 ≤ Builtin.bitAnd x 15 * 2 ^ Int.toNat 2 ∧ Builtin.bitAnd x 15 * 2 ^ Int.toNat 2 < ((64 : Nat) : Int) := by rw [bitAnd_m4]; show 0 ≤ x % 16 * 4 ∧ x % 16 * 4 < 64; omega
theorem sh3 (x : Int) : (Builtin.bitAnd x 3).natAbs < 2 ^ 64 := by rw [bitAnd_m2]; omega
theorem sh15 (x : Int) : (Builtin.bitAnd x 15).natAbs < 2 ^ 64 := by rw [bitAnd_m4]; omega

noncomputable def b64c (x : Int) : Int := ((([65, 66, 67, 68, 69, 70, 71, 72, 73, 74, 75, 76, 77, 78, 79, 80, 81, 82, 83, 84, 85, 86, 87, 88, 89, 90, 97, 98, 99, 100, 101, 102, 103, 104, 105, 106, 107, 108, 109, 110, 111, 112, 113, 114, 115, 116, 117, 118, 119, 120, 121, 122, 48, 49, 50, 51, 52, 53, 54, 55, 56, 57, 43, 47] : List UInt8).getD x.toNat 0).toNat : Int)
noncomputable def lcN (lc : Int) (c : UInt8) : Int := Builtin.bitAnd (Builtin.bitOr (lc * 2 ^ Int.toNat 8) (c.toNat : Int)) 65535
noncomputable def lcF (p : Array UInt8) : Nat → Int
  | 0 => 0
  | i + 1 => lcN (lcF p i) (p[i]?.getD 0)
noncomputable def loF (p : Array UInt8) : Nat → List Int
  | 0 => []
  | i + 1 => loF p i ++ (if i % 3 = 0 then [b64c (Builtin.bitAnd ((lcN (lcF p i) (p[i]?.getD 0)).fdiv (2 ^ (0 + 8 - 6 : Int).toNat)) 63)]
      else if i % 3 = 1 then [b64c (Builtin.bitAnd ((lcN (lcF p i) (p[i]?.getD 0)).fdiv (2 ^ (((2 : Nat) : Int) + 8 - 6 : Int).toNat)) 63)]
      else [b64c (Builtin.bitAnd ((lcN (lcF p i) (p[i]?.getD 0)).fdiv (2 ^ (((4 : Nat) : Int) + 8 - 6 : Int).toNat)) 63), b64c (Builtin.bitAnd ((lcN (lcF p i) (p[i]?.getD 0)).fdiv (2 ^ (((4 : Nat) : Int) + 8 - 6 - 6 : Int).toNat)) 63)])
noncomputable def b64tail (p : Array UInt8) : List Int := if p.size % 3 = 1 then [b64c (Builtin.bitAnd (lcF p p.size) 3 * 2 ^ Int.toNat 4), 61, 61] else if p.size % 3 = 2 then [b64c (Builtin.bitAnd (lcF p p.size) 15 * 2 ^ Int.toNat 2), 61] else []
noncomputable def b64all (p : Array UInt8) : List Int := loF p p.size ++ b64tail p
theorem lcF_b (p : Array UInt8) (i : Nat) : 0 ≤ lcF p i ∧ lcF p i < 65536 := by
  cases i with
  | zero => exact ⟨Int.le_refl 0, by show (0 : Int) < 65536; decide⟩
  | succ i => simp only [lcF, lcN]; rw [bitAnd_m16]; omega
theorem loF_len (p : Array UInt8) (i : Nat) : (loF p i).length ≤ 2 * i := by
  induction i with
  | zero => exact Nat.le_refl _
  | succ i ih =>
    simp only [loF, List.length_append]
    split
    · simp; omega
    · split
      · simp; omega
      · simp; omega
theorem b64c_b (x : Int) : 0 ≤ b64c x ∧ b64c x < 256 := by
  unfold b64c
  have := (([65, 66, 67, 68, 69, 70, 71, 72, 73, 74, 75, 76, 77, 78, 79, 80, 81, 82, 83, 84, 85, 86, 87, 88, 89, 90, 97, 98, 99, 100, 101, 102, 103, 104, 105, 106, 107, 108, 109, 110, 111, 112, 113, 114, 115, 116, 117, 118, 119, 120, 121, 122, 48, 49, 50, 51, 52, 53, 54, 55, 56, 57, 43, 47] : List UInt8).getD x.toNat 0).toNat_lt
  omega
theorem loF_b (p : Array UInt8) (i : Nat) : ∀ n ∈ loF p i, 0 ≤ n ∧ n < 256 := by
  induction i with
  | zero => intro n h; cases h
  | succ i ih =>
    intro n h
    simp only [loF, List.mem_append] at h
    rcases h with h | h
    · exact ih n h
    · split at h
      · rw [List.mem_singleton.mp h]; exact b64c_b _
      · split at h
        · rw [List.mem_singleton.mp h]; exact b64c_b _
        · simp only [List.mem_cons, List.not_mem_nil, or_false] at h
          rcases h with h | h <;> (rw [h]; exact b64c_b _)
theorem loF_s0 {p : Array UInt8} {i : Nat} {c : UInt8} (hc : p[i]? = some c) (h3 : i % 3 = 0) : loF p (i + 1) = loF p i ++ [b64c (Builtin.bitAnd ((lcN (lcF p i) c).fdiv (2 ^ (0 + 8 - 6 : Int).toNat)) 63)] := by
  simp only [loF, if_pos h3, hc, Option.getD_some]
theorem loF_s1 {p : Array UInt8} {i : Nat} {c : UInt8} (hc : p[i]? = some c) (h3 : i % 3 = 1) : loF p (i + 1) = loF p i ++ [b64c (Builtin.bitAnd ((lcN (lcF p i) c).fdiv (2 ^ (((2 : Nat) : Int) + 8 - 6 : Int).toNat)) 63)] := by
  simp only [loF, if_neg (by omega : ¬ i % 3 = 0), if_pos h3, hc, Option.getD_some]
theorem loF_s2 {p : Array UInt8} {i : Nat} {c : UInt8} (hc : p[i]? = some c) (h3 : i % 3 = 2) : loF p (i + 1) = loF p i ++ [b64c (Builtin.bitAnd ((lcN (lcF p i) c).fdiv (2 ^ (((4 : Nat) : Int) + 8 - 6 : Int).toNat)) 63), b64c (Builtin.bitAnd ((lcN (lcF p i) c).fdiv (2 ^ (((4 : Nat) : Int) + 8 - 6 - 6 : Int).toNat)) 63)] := by
  simp only [loF, if_neg (by omega : ¬ i % 3 = 0), if_neg (by omega : ¬ i % 3 = 1), hc, Option.getD_some]
theorem lcF_s {p : Array UInt8} {i : Nat} {c : UInt8} (hc : p[i]? = some c) : lcF p (i + 1) = lcN (lcF p i) c := by simp only [lcF, hc, Option.getD_some]
theorem tail_b {l : List Int} {x : Int} (h : ∀ n ∈ l, 0 ≤ n ∧ n < 256) (hx : 0 ≤ x ∧ x < 256) : ∀ n ∈ l ++ [x, 61, 61], 0 ≤ n ∧ n < 256 := by
  intro n hn
  simp only [List.mem_append, List.mem_cons, List.not_mem_nil, or_false] at hn
  rcases hn with hn | rfl | rfl | rfl
  · exact h n hn
  · exact hx
  · decide
  · decide
theorem tail_b2 {l : List Int} {x : Int} (h : ∀ n ∈ l, 0 ≤ n ∧ n < 256) (hx : 0 ≤ x ∧ x < 256) : ∀ n ∈ l ++ [x, 61], 0 ≤ n ∧ n < 256 := by
  intro n hn
  simp only [List.mem_append, List.mem_cons, List.not_mem_nil, or_false] at hn
  rcases hn with hn | rfl | rfl
  · exact h n hn
  · exact hx
  · decide
theorem ints2 {ys : List Value} {ns : List Int} (h : IntsAre ys ns) (a b : Int) (t u : Tok) : IntsAre (ys ++ [Value.int a t] ++ [Value.int b u]) (ns ++ [a, b]) := by
  have := h.append (.cons a t (.cons b u .nil))
  simpa using this
theorem ints3 {ys : List Value} {ns : List Int} (h : IntsAre ys ns) (a b c : Int) (t u v : Tok) : IntsAre (ys ++ [Value.int a t] ++ [Value.int b u] ++ [Value.int c v]) (ns ++ [a, b, c]) := by
  have := h.append (.cons a t (.cons b u (.cons c v .nil)))
  simpa using this
theorem push1 (ys : List Value) (a : Value) : ys.toArray.push a = (ys ++ [a]).toArray := List.push_toArray ..
set_option maxHeartbeats 8000000 in
theorem b2a_spec (w : World) (mean : ExcName → Option Value) (mg mb : Str → Option Value) (p : Array UInt8) (t : Tok) : SpecKw w mean mg mb 50 8 100 [.bytes p t] [(Str.ofString "newline", .bool false)] (fun _ => p.size ≤ 40)
   (fun h r h' => ∃ u, r = .bytes ((b64all p).map fun n => n.toNat.toUInt8).toArray u) := by
  walk_at "MINE openK"
  k_steps
  refine Stop.go (for_bytesD rfl (by assumption) (by assumption) [] (Str.ofString "out") (by with_unfolding_all exact rfl) (W.listOf #[] 0) [] (fun i kvs o => ∃ ys k th tb, kvs = [(Str.ofString "leftbits", .int ((2 * (i % 3) : Nat) : Int) th), (Str.ofString "leftchar", .int (lcF p i) tb)] ∧ o = W.listOf ys.toArray k ∧ IntsAre ys (loF p i)) [(Str.ofString "leftbits", .int 0 ?th), (Str.ofString "leftchar", .int 0 ?tb)] ?k0 ?n0 ⟨[], 0, ?th, ?tb, rfl, rfl, .nil⟩ ?tn ?dn)
  case k0 => exact List.forall_mem_cons.mpr ⟨by with_unfolding_all exact rfl, List.forall_mem_cons.mpr ⟨by with_unfolding_all exact rfl, fun _ h => nomatch h⟩⟩
  case n0 => lcg_sub
  case tn =>
    intro i c t9 kvs o u9 I oI h9 tk9 hi9 hc9 hv9 ho9 hI9 F9 N9
    obtain ⟨ys, k9, th9, tb9, rfl, rfl, hy9⟩ := hv9
    have hub := lcF_b p i
    have huo := loF_len p i
    have hyl := hy9.length
    have ho8 := ho9
    simp only [frm] at F9
    have hne := off1 ho9
    simp only [LCg.Off1, and_true] at hne
    rename p.size ≤ 40 => hpl
    have hz : ys.length ≤ 100 := by omega
    have hcc : (0 : Int) ≤ (c.toNat : Int) ∧ (c.toNat : Int) < 256 := by have := c.toNat_lt; omega
    have e1 := lcF_s hc9
    rcases (by omega : i % 3 = 0 ∨ i % 3 = 1 ∨ i % 3 = 2) with h3 | h3 | h3
    · rw [h3] at F9
      simp only [Nat.mul_zero, Nat.mul_one, Nat.reduceMul, Int.natCast_zero] at F9
      k_steps
      simp only [push1] at *
      have e3 : (i + 1) % 3 = 1 := by omega
      refine FTurn.mk (by assumption) (by assumption) [(Str.ofString "leftbits", .int ((2 * ((i + 1) % 3) : Nat) : Int) ?ta0), (Str.ofString "leftchar", .int (lcF p (i + 1)) ?tc0)] [(_, W.listOf (ys ++ [Value.int (b64c (Builtin.bitAnd ((lcN (lcF p i) c).fdiv (2 ^ (0 + 8 - 6 : Int).toNat)) 63)) ?te0]).toArray (k9 + 1))] ?hs ?ho ?h1 ?h2 ⟨W.listOf (ys ++ [Value.int (b64c (Builtin.bitAnd ((lcN (lcF p i) c).fdiv (2 ^ (0 + 8 - 6 : Int).toNat)) 63)) ?te0]).toArray (k9 + 1), rfl, ys ++ [Value.int (b64c (Builtin.bitAnd ((lcN (lcF p i) c).fdiv (2 ^ (0 + 8 - 6 : Int).toNat)) 63)) ?te0], k9 + 1, ?ta0, ?tc0, rfl, rfl, by rw [loF_s0 hc9 h3]; exact hy9.append (.cons _ _ .nil)⟩
      case h1 => rw [e1, e3]; exact List.forall_mem_cons.mpr ⟨by with_unfolding_all exact rfl, List.forall_mem_cons.mpr ⟨by with_unfolding_all exact rfl, fun _ h => nomatch h⟩⟩
      case hs => lcg_sub
      case ho => exact off_upd ho8 _
      case h2 =>
        intro z hz ht
        simp only [List.map_cons, List.map_nil, List.contains_cons, List.contains_nil, Bool.or_false, Bool.or_eq_false_iff, beq_eq_false_iff_ne, ne_eq] at hz ht
        simp [hz, ht]
    · rw [h3] at F9
      simp only [Nat.mul_zero, Nat.mul_one, Nat.reduceMul, Int.natCast_zero] at F9
      k_steps
      simp only [push1] at *
      have e3 : (i + 1) % 3 = 2 := by omega
      refine FTurn.mk (by assumption) (by assumption) [(Str.ofString "leftbits", .int ((2 * ((i + 1) % 3) : Nat) : Int) ?ta1), (Str.ofString "leftchar", .int (lcF p (i + 1)) ?tc1)] [(_, W.listOf (ys ++ [Value.int (b64c (Builtin.bitAnd ((lcN (lcF p i) c).fdiv (2 ^ (((2 : Nat) : Int) + 8 - 6 : Int).toNat)) 63)) ?te1]).toArray (k9 + 1))] ?hs ?ho ?h1 ?h2 ⟨W.listOf (ys ++ [Value.int (b64c (Builtin.bitAnd ((lcN (lcF p i) c).fdiv (2 ^ (((2 : Nat) : Int) + 8 - 6 : Int).toNat)) 63)) ?te1]).toArray (k9 + 1), rfl, ys ++ [Value.int (b64c (Builtin.bitAnd ((lcN (lcF p i) c).fdiv (2 ^ (((2 : Nat) : Int) + 8 - 6 : Int).toNat)) 63)) ?te1], k9 + 1, ?ta1, ?tc1, rfl, rfl, by rw [loF_s1 hc9 h3]; exact hy9.append (.cons _ _ .nil)⟩
      case h1 => rw [e1, e3]; exact List.forall_mem_cons.mpr ⟨by with_unfolding_all exact rfl, List.forall_mem_cons.mpr ⟨by with_unfolding_all exact rfl, fun _ h => nomatch h⟩⟩
      case hs => lcg_sub
      case ho => exact off_upd ho8 _
      case h2 =>
        intro z hz ht
        simp only [List.map_cons, List.map_nil, List.contains_cons, List.contains_nil, Bool.or_false, Bool.or_eq_false_iff, beq_eq_false_iff_ne, ne_eq] at hz ht
        simp [hz, ht]
    · rw [h3] at F9
      simp only [Nat.mul_zero, Nat.mul_one, Nat.reduceMul, Int.natCast_zero] at F9
      k_steps
      simp only [push1] at *
      have e3 : (i + 1) % 3 = 0 := by omega
      refine FTurn.mk (by assumption) (by assumption) [(Str.ofString "leftbits", .int ((2 * ((i + 1) % 3) : Nat) : Int) ?ta2), (Str.ofString "leftchar", .int (lcF p (i + 1)) ?tc2)] [(_, W.listOf ((ys ++ [Value.int (b64c (Builtin.bitAnd ((lcN (lcF p i) c).fdiv (2 ^ (((4 : Nat) : Int) + 8 - 6 : Int).toNat)) 63)) ?te2]) ++ [Value.int (b64c (Builtin.bitAnd ((lcN (lcF p i) c).fdiv (2 ^ (((4 : Nat) : Int) + 8 - 6 - 6 : Int).toNat)) 63)) ?tf2]).toArray (k9 + 1 + 1))] ?hs ?ho ?h1 ?h2 ⟨W.listOf ((ys ++ [Value.int (b64c (Builtin.bitAnd ((lcN (lcF p i) c).fdiv (2 ^ (((4 : Nat) : Int) + 8 - 6 : Int).toNat)) 63)) ?te2]) ++ [Value.int (b64c (Builtin.bitAnd ((lcN (lcF p i) c).fdiv (2 ^ (((4 : Nat) : Int) + 8 - 6 - 6 : Int).toNat)) 63)) ?tf2]).toArray (k9 + 1 + 1), rfl, (ys ++ [Value.int (b64c (Builtin.bitAnd ((lcN (lcF p i) c).fdiv (2 ^ (((4 : Nat) : Int) + 8 - 6 : Int).toNat)) 63)) ?te2]) ++ [Value.int (b64c (Builtin.bitAnd ((lcN (lcF p i) c).fdiv (2 ^ (((4 : Nat) : Int) + 8 - 6 - 6 : Int).toNat)) 63)) ?tf2], k9 + 1 + 1, ?ta2, ?tc2, rfl, rfl, by rw [loF_s2 hc9 h3]; exact by simpa using hy9.append (.cons _ _ (.cons _ _ .nil))⟩
      case h1 => rw [e1, e3]; exact List.forall_mem_cons.mpr ⟨by with_unfolding_all exact rfl, List.forall_mem_cons.mpr ⟨by with_unfolding_all exact rfl, fun _ h => nomatch h⟩⟩
      case hs => lcg_sub
      case ho => exact off_upd ho8 _
      case h2 =>
        intro z hz ht
        simp only [List.map_cons, List.map_nil, List.contains_cons, List.contains_nil, Bool.or_false, Bool.or_eq_false_iff, beq_eq_false_iff_ne, ne_eq] at hz ht
        simp [hz, ht]
  case dn =>
    intro kvs o u9 h9 tk9 hv9 F9 N9
    obtain ⟨ys, k9, th9, tb9, rfl, rfl, hy9⟩ := hv9
    have hub := lcF_b p p.size
    have huo := loF_len p p.size
    have hyl := hy9.length
    rename p.size ≤ 40 => hpl
    have hz : ys.length ≤ 100 := by omega
    simp only [frm] at F9
    rcases (by omega : p.size % 3 = 0 ∨ p.size % 3 = 1 ∨ p.size % 3 = 2) with h3 | h3 | h3
    · rw [h3] at F9
      simp only [Nat.mul_zero, Nat.mul_one, Nat.reduceMul, Int.natCast_zero] at F9
      dsimp only
      k_steps
      have e : b64all p = loF p p.size := by unfold b64all b64tail; rw [if_neg (by omega), if_neg (by omega)]; simp
      refine bytes_K (vs := ys) (by assumption) (by assumption) ⟨_, News.get (by assumption) (List.Mem.head _), rfl, _, rfl⟩ hy9 (loF_b p _) (by rw [sizeLine_eq]; omega) rfl ?_
      intro h' t' k' F' N' hB'
      k_steps
      walk_at "MINE fin"
      rw [e]
      exact ⟨_, rfl⟩
    · rw [h3] at F9
      simp only [Nat.mul_zero, Nat.mul_one, Nat.reduceMul, Int.natCast_zero] at F9
      dsimp only
      k_steps
      simp only [push1] at *
      have e : b64all p = loF p p.size ++ [b64c (Builtin.bitAnd (lcF p p.size) 3 * 2 ^ Int.toNat 4), 61, 61] := by unfold b64all b64tail; rw [if_pos h3]
      refine' bytes_K (ns := loF p p.size ++ [b64c (Builtin.bitAnd (lcF p p.size) 3 * 2 ^ Int.toNat 4), 61, 61]) ?F0 ?N0 ?l0 ?i0 ?r0 ?z0 ?h0 ?_
      case F0 => assumption
      case N0 => assumption
      case l0 => exact ⟨_, News.get (by assumption) (List.Mem.head _), rfl, _, rfl⟩
      case i0 => exact ints3 hy9 (b64c (Builtin.bitAnd (lcF p p.size) 3 * 2 ^ Int.toNat 4)) 61 61 _ _ _
      case r0 => exact tail_b (loF_b p _) (b64c_b _)
      case z0 => (simp; rw [sizeLine_eq]; omega)
      case h0 => with_unfolding_all rfl
      intro h' t' k' F' N' hB'
      k_steps
      walk_at "MINE fin"
      rw [e]
      exact ⟨_, rfl⟩
    · rw [h3] at F9
      simp only [Nat.mul_zero, Nat.mul_one, Nat.reduceMul, Int.natCast_zero] at F9
      dsimp only
      k_steps
      simp only [push1] at *
      have e : b64all p = loF p p.size ++ [b64c (Builtin.bitAnd (lcF p p.size) 15 * 2 ^ Int.toNat 2), 61] := by unfold b64all b64tail; rw [if_neg (by omega), if_pos h3]
      refine' bytes_K (ns := loF p p.size ++ [b64c (Builtin.bitAnd (lcF p p.size) 15 * 2 ^ Int.toNat 2), 61]) ?F1 ?N1 ?l1 ?i1 ?r1 ?z1 ?h1 ?_
      case F1 => assumption
      case N1 => assumption
      case l1 => exact ⟨_, News.get (by assumption) (List.Mem.head _), rfl, _, rfl⟩
      case i1 => exact ints2 hy9 (b64c (Builtin.bitAnd (lcF p p.size) 15 * 2 ^ Int.toNat 2)) 61 _ _
      case r1 => exact tail_b2 (loF_b p _) (b64c_b _)
      case z1 => (simp; rw [sizeLine_eq]; omega)
      case h1 => with_unfolding_all rfl
      intro h' t' k' F' N' hB'
      k_steps
      walk_at "MINE fin"
      rw [e]
      exact ⟨_, rfl⟩
end

-- B64
theorem words11 : True := by
  k_with_none
  (k_with "MINE enter" => (refine' enter0 ?k1 ?k2 ?k3 ?k5 ?kA ?kF ?kK ?k6 ?k7 ?k8 ?k9 ?kB ?_ ?c2 ?c3 ?c4 ?c5; (case kA => exact rfl); (case kF => exact rfl); (case kK => assumption); (case k1 => k_asm); (case k2 => k_asm); (case k3 => k_asm); (case k5 => k_asm); (case k6 => k_is); (case k7 => k_is); (case k8 => ktr_room); (case k9 => exact BindsTo.of_eq rfl); (case c5 => decide); (case kB => exact locs rfl); (case c2 => exact rfl); (case c3 => exact rfl); (case c4 => exact rfl); k_whole; intro L' h' F' N' B' X' T'; (try dsimp only); (try k_fold)))
  (k_with "MINE open" => (
    unfold Spec
    intro dp un gd cn cs a ccd cl outer A₀ base h₀ L m s Q E B F X T hk hdp hu hpre hret
    revert X
    k_fill
    intro X
    refine wpAny_call ?_
    k_dflt (walk_at "MINE enter")
    clear F X T B))
  (k_with "MINE fin" => ((rename Back _ _ _ => hb9); (have hb8 := @Back.fin _ _ _ hb9); refine hb8 (by assumption) ?_))
  (k_with "MINE enterS" => (refine' enterS ?k1 ?k2 ?k3 ?k5 ?kA ?kF ?kK ?k6 ?k7 ?k8 ?kV ?kP ?kG ?kB ?_ ?c2 ?c3 ?c4 ?c5; (case kA => exact rfl); (case kF => exact rfl); (case kK => assumption); (case k1 => k_asm); (case k2 => k_asm); (case k3 => k_asm); (case k5 => k_asm); (case k6 => k_is); (case k7 => k_is); (case k8 => ktr_room); (case kV => kl_lit); (case kP => exact rfl); (case kG => exact fun _ => rfl); (case kB => exact fun _ => locs rfl); (case c5 => decide); (case c2 => exact rfl); (case c3 => exact rfl); (case c4 => exact rfl); k_whole; intro D' L' h' F' N' B' X' T'; (try dsimp only); (try k_fold)))
  (k_with "MINE openS" => (
    unfold Spec
    intro dp un gd cn cs a ccd cl outer A₀ base h₀ L m s Q E B F X T hk hdp hu hpre hret
    revert X
    k_fill
    intro X
    refine wpAny_call ?_
    k_dflt (walk_at "MINE enterS")
    clear F X T B))
  (k_with "MINE enterK" => (refine' enter0 ?k1 ?k2 ?k3 ?k5 ?kA ?kF ?kK ?k6 ?k7 ?k8 ?k9 ?kB ?_ ?c2 ?c3 ?c4 ?c5; (case kA => exact rfl); (case kF => exact rfl); (case kK => assumption); (case k1 => k_asm); (case k2 => k_asm); (case k3 => k_asm); (case k5 => k_asm); (case k6 => k_is); (case k7 => k_is); (case k8 => ktr_room); (case k9 => (refine kp_binds (by exact Frag.In.keeps (by assumption) (Fr.keep (by assumption))) (by exact fun _ => rfl))); (case c5 => decide); (case kB => exact locs rfl); (case c2 => exact rfl); (case c3 => exact rfl); (case c4 => exact rfl); k_whole; intro L' h' F' N' B' X' T'; (try dsimp only); (try k_fold)))
  (k_with "MINE openK" => (
    unfold SpecKw
    intro dp un gd cn cs a ccd cl outer A₀ base h₀ L m s Q E B F X T hk hdp hu hpre hret
    revert X
    k_fill
    intro X
    refine wpAny_call ?_
    k_dflt (walk_at "MINE enterK")
    clear F X T B))
  (k_with "MINE openD" => (
    unfold Spec
    intro dp un gd cn cs a ccd cl outer A₀ base h₀ L m s Q E B F X T hk hdp hu hpre hret
    revert X
    k_fill
    intro X
    refine wpAny_call ?_
    k_dflt (walk_at "MINE enterK")
    clear F X T B))
  (k_with "call ref" => (k_here; (with_reducible show wpAny _ _ (call (Value.ref 50) [Value.bytes _ _] _) _ _ _); k_dflt (refine SpecKw.use (b2a_spec _ _ _ _ _ _) (by k_asm) (by k_asm) (by k_asm) (by k_asm) (by k_asm) (by first | exact rfl | assumption) (by ktr_room) (by ktr_units) (by assumption) ?_; k_whole); intro r' h' tk' F' N' kp' hp'; (refine Exists.elim hp' ?_; clear hp'; intro t' hp'; subst hp')))
  exact True.intro

section
open PySem PySem.W PyProof.Rows PySem.Calls PySem.Spec
set_option maxHeartbeats 8000000 in
theorem b64_spec (w : World) (mean : ExcName → Option Value) (mg mb : Str → Option Value) (p : Array UInt8) (t : Tok) : Spec w mean mg mb 58 12 200 [.bytes p t] (fun _ => p.size ≤ 40)
   (fun h r h' => ∃ u, r = .bytes ((b64all p).map fun n => n.toNat.toUInt8).toArray u) := by
  walk_at "MINE openD"
  k_steps
  all_goals (walk_at "MINE fin"; exact ⟨_, rfl⟩)
end

-- Dirn
theorem words12 : True := by
  k_with_none
  (k_with "MINE enter" => (refine' enter0 ?k1 ?k2 ?k3 ?k5 ?kA ?kF ?kK ?k6 ?k7 ?k8 ?k9 ?kB ?_ ?c2 ?c3 ?c4 ?c5; (case kA => exact rfl); (case kF => exact rfl); (case kK => assumption); (case k1 => k_asm); (case k2 => k_asm); (case k3 => k_asm); (case k5 => k_asm); (case k6 => k_is); (case k7 => k_is); (case k8 => ktr_room); (case k9 => exact BindsTo.of_eq rfl); (case c5 => decide); (case kB => exact locs rfl); (case c2 => exact rfl); (case c3 => exact rfl); (case c4 => exact rfl); k_whole; intro L' h' F' N' B' X' T'; (try dsimp only); (try k_fold)))
  (k_with "MINE open" => (
    unfold Spec
    intro dp un gd cn cs a ccd cl outer A₀ base h₀ L m s Q E B F X T hk hdp hu hpre hret
    revert X
    k_fill
    intro X
    refine wpAny_call ?_
    k_dflt (walk_at "MINE enter")
    clear F X T B))
  (k_with "MINE fin" => ((rename Back _ _ _ => hb9); (have hb8 := @Back.fin _ _ _ hb9); refine hb8 (by assumption) ?_))
  (k_with "MINE enterS" => (refine' enterS ?k1 ?k2 ?k3 ?k5 ?kA ?kF ?kK ?k6 ?k7 ?k8 ?kV ?kP ?kG ?kB ?_ ?c2 ?c3 ?c4 ?c5; (case kA => exact rfl); (case kF => exact rfl); (case kK => assumption); (case k1 => k_asm); (case k2 => k_asm); (case k3 => k_asm); (case k5 => k_asm); (case k6 => k_is); (case k7 => k_is); (case k8 => ktr_room); (case kV => kl_lit); (case kP => exact rfl); (case kG => exact fun _ => rfl); (case kB => exact fun _ => locs rfl); (case c5 => decide); (case c2 => exact rfl); (case c3 => exact rfl); (case c4 => exact rfl); k_whole; intro D' L' h' F' N' B' X' T'; (try dsimp only); (try k_fold)))
  (k_with "MINE openS" => (
    unfold Spec
    intro dp un gd cn cs a ccd cl outer A₀ base h₀ L m s Q E B F X T hk hdp hu hpre hret
    revert X
    k_fill
    intro X
    refine wpAny_call ?_
    k_dflt (walk_at "MINE enterS")
    clear F X T B))
  (k_with "MINE enterK" => (refine' enter0 ?k1 ?k2 ?k3 ?k5 ?kA ?kF ?kK ?k6 ?k7 ?k8 ?k9 ?kB ?_ ?c2 ?c3 ?c4 ?c5; (case kA => exact rfl); (case kF => exact rfl); (case kK => assumption); (case k1 => k_asm); (case k2 => k_asm); (case k3 => k_asm); (case k5 => k_asm); (case k6 => k_is); (case k7 => k_is); (case k8 => ktr_room); (case k9 => (refine kp_binds (by exact Frag.In.keeps (by assumption) (Fr.keep (by assumption))) (by exact fun _ => rfl))); (case c5 => decide); (case kB => exact locs rfl); (case c2 => exact rfl); (case c3 => exact rfl); (case c4 => exact rfl); k_whole; intro L' h' F' N' B' X' T'; (try dsimp only); (try k_fold)))
  (k_with "MINE openK" => (
    unfold SpecKw
    intro dp un gd cn cs a ccd cl outer A₀ base h₀ L m s Q E B F X T hk hdp hu hpre hret
    revert X
    k_fill
    intro X
    refine wpAny_call ?_
    k_dflt (walk_at "MINE enterK")
    clear F X T B))
  (k_with "MINE openD" => (
    unfold Spec
    intro dp un gd cn cs a ccd cl outer A₀ base h₀ L m s Q E B F X T hk hdp hu hpre hret
    revert X
    k_fill
    intro X
    refine wpAny_call ?_
    k_dflt (walk_at "MINE enterK")
    clear F X T B))
  (k_with "call ref" => (k_here; (with_reducible show wpAny _ _ (call (Value.ref 131) [Value.str _ _]) _ _ _); k_dflt (refine Spec.use (fspath_spec _ _ _ _ _ _) (by k_asm) (by k_asm) (by k_asm) (by k_asm) (by k_asm) (by first | exact rfl | assumption) (by ktr_room) (by ktr_units) (by exact True.intro) ?_; k_whole); intro r' h' tk' F' N' kp' hp'; subst hp'))
  (k_with "call ref" => (k_here; (with_reducible show wpAny _ _ (call (Value.ref 145) [Value.str _ _]) _ _ _); k_dflt (refine Spec.use (getsep_spec _ _ _ _ _ _) (by k_asm) (by k_asm) (by k_asm) (by k_asm) (by k_asm) (by first | exact rfl | assumption) (by ktr_room) (by ktr_units) (by exact True.intro) ?_; k_whole); intro r' h' tk' F' N' kp' hp'; (refine Exists.elim hp' ?_; clear hp'; intro t' hp'; subst hp')))
  exact True.intro

section
open PySem PySem.W PyProof.Rows PySem.Calls PySem.Spec
set_option maxHeartbeats 8000000 in
theorem dirname_spec (w : World) (mean : ExcName → Option Value) (mg mb : Str → Option Value) (p : Str) (t : Tok) : Spec w mean mg mb 173 8 100 [.str p t] (fun _ => p.length ≤ 1000)
   (fun h r h' => ∃ u, r = .str (headOf p) u) := by
  walk_at "MINE open"
  k_steps
  all_goals (walk_at "MINE fin"; first | rw [headOf_1 (by assumption) (by assumption)] | rw [headOf_2 (by assumption) (by assumption)] | rw [headOf_3 (by assumption)])
  all_goals (exact ⟨_, rfl⟩)
set_option maxHeartbeats 8000000 in
theorem splitroot_spec (w : World) (mean : ExcName → Option Value) (mg mb : Str → Option Value) (p : Str) (t : Tok) : Spec w mean mg mb 166 8 100 [.str p t] (fun _ => p.length ≤ 1000 ∧ (Txt.slice p none (some 1) != Str.ofString "/") = true)
   (fun h r h' => ∃ a t1 t2, r = .ref a ∧ h'.get? a = some { cls := .type "tuple", data := .seq #[.str (Str.ofString "") t1, .str (Str.ofString "") t2, .str p t] } ∧ h.get? a = none) := by
  walk_at "MINE open"
  rename _ ∧ _ => hp9
  obtain ⟨hl9, hs9⟩ := hp9
  k_steps
  · walk_at "MINE fin"
    exact ⟨_, _, _, rfl, News.get (by assumption) (List.Mem.head _), News.fresh (by assumption) (List.Mem.head _)⟩
  all_goals (rename (Txt.slice p none (some 1) != Str.ofString "/") = false => hf9; rw [hs9] at hf9; cases hf9)
end

-- Norm
theorem words13 : True := by
  k_with_none
  (k_with "MINE enter" => (refine' enter0 ?k1 ?k2 ?k3 ?k5 ?kA ?kF ?kK ?k6 ?k7 ?k8 ?k9 ?kB ?_ ?c2 ?c3 ?c4 ?c5; (case kA => exact rfl); (case kF => exact rfl); (case kK => assumption); (case k1 => k_asm); (case k2 => k_asm); (case k3 => k_asm); (case k5 => k_asm); (case k6 => k_is); (case k7 => k_is); (case k8 => ktr_room); (case k9 => exact BindsTo.of_eq rfl); (case c5 => decide); (case kB => exact locs rfl); (case c2 => exact rfl); (case c3 => exact rfl); (case c4 => exact rfl); k_whole; intro L' h' F' N' B' X' T'; (try dsimp only); (try k_fold)))
  (k_with "MINE open" => (
    unfold Spec
    intro dp un gd cn cs a ccd cl outer A₀ base h₀ L m s Q E B F X T hk hdp hu hpre hret
    revert X
    k_fill
    intro X
    refine wpAny_call ?_
    k_dflt (walk_at "MINE enter")
    clear F X T B))
  (k_with "MINE fin" => ((rename Back _ _ _ => hb9); (have hb8 := @Back.fin _ _ _ hb9); refine hb8 (by assumption) ?_))
  (k_with "MINE enterS" => (refine' enterS ?k1 ?k2 ?k3 ?k5 ?kA ?kF ?kK ?k6 ?k7 ?k8 ?kV ?kP ?kG ?kB ?_ ?c2 ?c3 ?c4 ?c5; (case kA => exact rfl); (case kF => exact rfl); (case kK => assumption); (case k1 => k_asm); (case k2 => k_asm); (case k3 => k_asm); (case k5 => k_asm); (case k6 => k_is); (case k7 => k_is); (case k8 => ktr_room); (case kV => kl_lit); (case kP => exact rfl); (case kG => exact fun _ => rfl); (case kB => exact fun _ => locs rfl); (case c5 => decide); (case c2 => exact rfl); (case c3 => exact rfl); (case c4 => exact rfl); k_whole; intro D' L' h' F' N' B' X' T'; (try dsimp only); (try k_fold)))
  (k_with "MINE openS" => (
    unfold Spec
    intro dp un gd cn cs a ccd cl outer A₀ base h₀ L m s Q E B F X T hk hdp hu hpre hret
    revert X
    k_fill
    intro X
    refine wpAny_call ?_
    k_dflt (walk_at "MINE enterS")
    clear F X T B))
  (k_with "MINE enterK" => (refine' enter0 ?k1 ?k2 ?k3 ?k5 ?kA ?kF ?kK ?k6 ?k7 ?k8 ?k9 ?kB ?_ ?c2 ?c3 ?c4 ?c5; (case kA => exact rfl); (case kF => exact rfl); (case kK => assumption); (case k1 => k_asm); (case k2 => k_asm); (case k3 => k_asm); (case k5 => k_asm); (case k6 => k_is); (case k7 => k_is); (case k8 => ktr_room); (case k9 => (refine kp_binds (by exact Frag.In.keeps (by assumption) (Fr.keep (by assumption))) (by exact fun _ => rfl))); (case c5 => decide); (case kB => exact locs rfl); (case c2 => exact rfl); (case c3 => exact rfl); (case c4 => exact rfl); k_whole; intro L' h' F' N' B' X' T'; (try dsimp only); (try k_fold)))
  (k_with "MINE openK" => (
    unfold SpecKw
    intro dp un gd cn cs a ccd cl outer A₀ base h₀ L m s Q E B F X T hk hdp hu hpre hret
    revert X
    k_fill
    intro X
    refine wpAny_call ?_
    k_dflt (walk_at "MINE enterK")
    clear F X T B))
  (k_with "MINE openD" => (
    unfold Spec
    intro dp un gd cn cs a ccd cl outer A₀ base h₀ L m s Q E B F X T hk hdp hu hpre hret
    revert X
    k_fill
    intro X
    refine wpAny_call ?_
    k_dflt (walk_at "MINE enterK")
    clear F X T B))
  (k_with "exec For Name Call cons nil" => (k_here; (with_reducible show wpAny _ _ (exec (Stmt.For (Expr.Name _ _) (Expr.Call _ _ _ _) _ [] _) _) _ _ _); (rename Fr _ _ _ _ => lF9); (with_unfolding_all refine For_mine lF9 (by exact rfl) (by exact rfl) ?_; k_whole)))
  (k_with "exec For Name Name cons nil" => (k_here; (with_reducible show wpAny _ _ (exec (Stmt.For (Expr.Name _ _) (Expr.Name _ _) _ [] _) _) _ _ _); (rename Fr _ _ _ _ => lF9); (with_unfolding_all refine For_mine lF9 (by exact rfl) (by exact rfl) ?_; k_whole)))
  (k_with "call ref" => (k_here; (with_reducible show wpAny _ _ (call (Value.ref 131) [Value.str _ _]) _ _ _); k_dflt (refine Spec.use (fspath_spec _ _ _ _ _ _) (by k_asm) (by k_asm) (by k_asm) (by k_asm) (by k_asm) (by first | exact rfl | assumption) (by ktr_room) (by ktr_units) (by exact True.intro) ?_; k_whole); intro r' h' tk' F' N' kp' hp'; subst hp'))
  (k_with "call ref" => (k_here; (with_reducible show wpAny _ _ (call (Value.ref 166) [Value.str _ _]) _ _ _); k_dflt (refine Spec.use (splitroot_spec _ _ _ _ _ _) (by k_asm) (by k_asm) (by k_asm) (by k_asm) (by k_asm) (by first | exact rfl | assumption) (by ktr_room) (by ktr_units) (by assumption) ?_; k_whole); intro r' h' tk' F' N' kp' hp'; (obtain ⟨a', t1', t2', e', hg', hn'⟩ := hp'; subst e'; have N' := News.fresh2 (by assumption) N' kp' hg' hn' rfl)))
  (k_with "call builtin:list.append" => (k_here; (with_reducible show wpAny _ _ (call (Value.builtin _) [Value.ref _, _]) _ _ _); k_dflt (refine append_K (by k_asm) (by k_asm) (by k_upd) ?_ (by (simp only [List.size_toArray, List.length_append, List.length_cons, List.length_nil, PySem.sizeLine_eq]; omega)); k_whole); intro h' F' N'))
  exact True.intro

section
open PySem PySem.W PyProof.Rows PySem.Calls PySem.Spec
noncomputable def full? (c : Str) : Bool := !(c.length == 0)
noncomputable def npL (p : Str) (i : Nat) : List Str := ((Txt.split p (Str.ofString "/")).take i).filter full?
noncomputable def npOf (p : Str) : Str := Txt.join (Str.ofString "/") ((Txt.split p (Str.ofString "/")).filter full?)
theorem npL_len (p : Str) (i : Nat) : (npL p i).length ≤ (Txt.split p (Str.ofString "/")).length := by
  unfold npL
  exact Nat.le_trans (List.length_filter_le ..) (by simp; omega)
theorem strs_app : ∀ {vs ws : List Value} {ns ms : List Str}, StrsAre vs ns → StrsAre ws ms → StrsAre (vs ++ ws) (ns ++ ms)
  | _, _, _, _, .nil, h => h
  | _, _, _, _, .cons y t r, h => .cons y t (strs_app r h)
theorem sum_le : ∀ (l : List Str), (∀ c ∈ l, c.length ≤ 100) → (l.map (·.length)).sum ≤ 100 * l.length
  | [], _ => Nat.le_refl _
  | c :: r, h => by
    have h1 := sum_le r fun x hx => h x (.tail _ hx)
    have h2 := h c (.head _)
    simp only [List.map_cons, List.sum_cons, List.length_cons]; omega
theorem join_fits (l : List Str) (h : ∀ c ∈ l, c.length ≤ 100) (hl : l.length ≤ 100) : (l.map (·.length)).sum + l.length * (Str.ofString "/").length ≤ 16777216 := by
  have h1 := sum_le l h
  have h2 : (Str.ofString "/").length = 1 := rfl
  rw [h2]; omega
set_option maxHeartbeats 8000000 in
theorem normpath_spec (w : World) (mean : ExcName → Option Value) (mg mb : Str → Option Value) (p : Str) (t : Tok) : Spec w mean mg mb 180 12 200 [.str p t] (fun _ => ((p.length ≤ 1000 ∧ (Txt.slice p none (some 1) != Str.ofString "/") = true) ∧ p.length ≠ 0) ∧ (∀ c ∈ Txt.split p (Str.ofString "/"), (c == Str.ofString ".") = false ∧ (c != Str.ofString "..") = true ∧ c.length ≤ 100) ∧ (Txt.split p (Str.ofString "/")).length ≤ 100 ∧ (npOf p).length ≠ 0)
   (fun h r h' => ∃ u, r = .str (npOf p) u) := by
  walk_at "MINE open"
  rename ((_ ∧ _) ∧ _) ∧ _ => hp9
  obtain ⟨⟨hpq, hz9⟩, hdot9, hlen9, hnp9⟩ := hp9
  have hl9 := hpq.1
  k_steps
  · rename StrsAre _ _ => hS9
    rename List.map _ _ = Txt.split p _ => hT9
    rw [hT9] at hS9
    refine Stop.go (for_listD rfl (by assumption) (by assumption) [] (Str.ofString "new_comps") (by with_unfolding_all exact rfl) (W.listOf #[] 0) _ (by exact .inr ⟨0, by k_mem⟩) (fun i kvs o => kvs = [] ∧ ∃ ys k, o = W.listOf ys.toArray k ∧ StrsAre ys (npL p i)) [] ?k0 (fun _ h => h) ?h0 ?tn ?dn)
    case h0 => exact ⟨rfl, [], 0, rfl, .nil⟩
    case k0 => exact fun _ h => nomatch h
    case tn =>
      intro i v9 kvs o u9 I oI h9 tk9 hi9 hc9 hv9 ho9 hI9 F9 N9
      obtain ⟨rfl, ys, k9, rfl, hy9⟩ := hv9
      obtain ⟨c, tc, rfl, hc8⟩ := hS9.item i _ (by simpa using hc9)
      obtain ⟨hcd1, hcd2, hcd3⟩ := hdot9 c (List.mem_of_getElem? hc8)
      have hny := npL_len p i
      have hz : ys.length ≤ 100 := by rw [hy9.len_eq]; omega
      have hyl := hy9.len_eq
      have ho8 := ho9
      simp only [frm] at F9
      have hne := off1 ho9
      simp only [LCg.Off1, and_true] at hne
      k_steps
      · have e1 : npL p (i + 1) = npL p i ++ [c] := by
          unfold npL
          rw [List.take_add_one, hc8, Option.toList_some, List.filter_append]
          have hf : full? c = true := by unfold full?; simp only [Bool.not_eq_true', beq_eq_false_iff_ne]; omega
          simp [hf]
        simp only [List.push_toArray] at *
        refine FTurn.mk (by assumption) (by assumption) [] ((_, W.listOf (ys ++ [Value.str c tc]).toArray (k9 + 1)) :: _) ?hs (off_upd ho8 _) (fun _ h => nomatch h) ?h2 ⟨W.listOf (ys ++ [Value.str c tc]).toArray (k9 + 1), rfl, rfl, ys ++ [Value.str c tc], k9 + 1, rfl, by rw [e1]; exact strs_app hy9 (.cons _ _ .nil)⟩
        case hs => lcg_sub
        case h2 =>
          intro z hz ht
          simp only [List.map_cons, List.map_nil, List.contains_cons, List.contains_nil, Bool.or_false, Bool.or_eq_false_iff, beq_eq_false_iff_ne, ne_eq] at hz ht
          simp [hz, ht]
      · have e1 : npL p (i + 1) = npL p i := by
          unfold npL
          rw [List.take_add_one, hc8, Option.toList_some, List.filter_append]
          have hf : full? c = false := by unfold full?; simp only [Bool.not_eq_false', beq_iff_eq]; omega
          simp [hf]
        refine FTurn.mkc (by assumption) (by assumption) [] ((_, W.listOf ys.toArray k9) :: _) ?hs (off_upd ho8 _) (fun _ h => nomatch h) ?h2 ⟨W.listOf ys.toArray k9, rfl, rfl, ys, k9, rfl, by rw [e1]; exact hy9⟩
        case hs => lcg_sub
        case h2 =>
          intro z hz ht
          simp only [List.map_cons, List.map_nil, List.contains_cons, List.contains_nil, Bool.or_false, Bool.or_eq_false_iff, beq_eq_false_iff_ne, ne_eq] at hz ht
          simp [hz, ht]
    case dn =>
      intro kvs o u9 h9 tk9 hv9 F9 N9
      obtain ⟨rfl, ys, k9, rfl, hy9⟩ := hv9
      simp only [frm] at F9
      dsimp only
      k_steps
      have hsz := hS9.len_eq
      rw [List.size_toArray, hsz] at hy9
      unfold npL at hy9
      rw [List.take_length] at hy9
      refine join_list ⟨_, News.get (by assumption) (by k_mem), rfl, _, rfl⟩ (by simpa using hy9) (join_fits _ (fun c hc => (hdot9 c (List.mem_filter.mp hc).1).2.2) (Nat.le_trans (List.length_filter_le ..) hlen9)) ?_
      intro t' k'
      have hok8 := join_fits _ (fun c hc => (hdot9 c (List.mem_filter.mp hc).1).2.2) (Nat.le_trans (List.length_filter_le full? (Txt.split p (Str.ofString "/"))) hlen9)
      have hjl := joinFit_length (Bool.not_eq_true' _ ▸ (joinOk_of hok8) : _)
      have hnp8 : (Txt.join (Str.ofString "/") ((Txt.split p (Str.ofString "/")).filter full?)).length ≠ 0 := hnp9
      k_steps
      rw [show (Str.ofString "" ++ Txt.join (Str.ofString "/") ((Txt.split p (Str.ofString "/")).filter full?)) = Txt.join (Str.ofString "/") ((Txt.split p (Str.ofString "/")).filter full?) from Str.empty_append _]
      refine KXt.truthy_pos (by omega) hjl (by rw [sizeLine_eq]; exact Nat.le_refl _) ?_
      intro k8
      k_steps
      walk_at "MINE fin"
      exact ⟨_, rfl⟩
  · exfalso; omega
end

-- Pieces
theorem words14 : True := by
  k_with_none
  (k_with "MINE enter" => (refine' enter0 ?k1 ?k2 ?k3 ?k5 ?kA ?kF ?kK ?k6 ?k7 ?k8 ?k9 ?kB ?_ ?c2 ?c3 ?c4 ?c5; (case kA => exact rfl); (case kF => exact rfl); (case kK => assumption); (case k1 => k_asm); (case k2 => k_asm); (case k3 => k_asm); (case k5 => k_asm); (case k6 => k_is); (case k7 => k_is); (case k8 => ktr_room); (case k9 => exact BindsTo.of_eq rfl); (case c5 => decide); (case kB => exact locs rfl); (case c2 => exact rfl); (case c3 => exact rfl); (case c4 => exact rfl); k_whole; intro L' h' F' N' B' X' T'; (try dsimp only); (try k_fold)))
  (k_with "MINE open" => (
    unfold Spec
    intro dp un gd cn cs a ccd cl outer A₀ base h₀ L m s Q E B F X T hk hdp hu hpre hret
    revert X
    k_fill
    intro X
    refine wpAny_call ?_
    k_dflt (walk_at "MINE enter")
    clear F X T B))
  (k_with "MINE fin" => ((rename Back _ _ _ => hb9); (have hb8 := @Back.fin _ _ _ hb9); refine hb8 (by assumption) ?_))
  (k_with "MINE enterS" => (refine' enterS ?k1 ?k2 ?k3 ?k5 ?kA ?kF ?kK ?k6 ?k7 ?k8 ?kV ?kP ?kG ?kB ?_ ?c2 ?c3 ?c4 ?c5; (case kA => exact rfl); (case kF => exact rfl); (case kK => assumption); (case k1 => k_asm); (case k2 => k_asm); (case k3 => k_asm); (case k5 => k_asm); (case k6 => k_is); (case k7 => k_is); (case k8 => ktr_room); (case kV => kl_lit); (case kP => exact rfl); (case kG => exact fun _ => rfl); (case kB => exact fun _ => locs rfl); (case c5 => decide); (case c2 => exact rfl); (case c3 => exact rfl); (case c4 => exact rfl); k_whole; intro D' L' h' F' N' B' X' T'; (try dsimp only); (try k_fold)))
  (k_with "MINE openS" => (
    unfold Spec
    intro dp un gd cn cs a ccd cl outer A₀ base h₀ L m s Q E B F X T hk hdp hu hpre hret
    revert X
    k_fill
    intro X
    refine wpAny_call ?_
    k_dflt (walk_at "MINE enterS")
    clear F X T B))
  (k_with "MINE enterK" => (refine' enter0 ?k1 ?k2 ?k3 ?k5 ?kA ?kF ?kK ?k6 ?k7 ?k8 ?k9 ?kB ?_ ?c2 ?c3 ?c4 ?c5; (case kA => exact rfl); (case kF => exact rfl); (case kK => assumption); (case k1 => k_asm); (case k2 => k_asm); (case k3 => k_asm); (case k5 => k_asm); (case k6 => k_is); (case k7 => k_is); (case k8 => ktr_room); (case k9 => (refine kp_binds (by exact Frag.In.keeps (by assumption) (Fr.keep (by assumption))) (by exact fun _ => rfl))); (case c5 => decide); (case kB => exact locs rfl); (case c2 => exact rfl); (case c3 => exact rfl); (case c4 => exact rfl); k_whole; intro L' h' F' N' B' X' T'; (try dsimp only); (try k_fold)))
  (k_with "MINE openK" => (
    unfold SpecKw
    intro dp un gd cn cs a ccd cl outer A₀ base h₀ L m s Q E B F X T hk hdp hu hpre hret
    revert X
    k_fill
    intro X
    refine wpAny_call ?_
    k_dflt (walk_at "MINE enterK")
    clear F X T B))
  (k_with "MINE openD" => (
    unfold Spec
    intro dp un gd cn cs a ccd cl outer A₀ base h₀ L m s Q E B F X T hk hdp hu hpre hret
    revert X
    k_fill
    intro X
    refine wpAny_call ?_
    k_dflt (walk_at "MINE enterK")
    clear F X T B))
  (k_with "exec For Name Call cons nil" => (k_here; (with_reducible show wpAny _ _ (exec (Stmt.For (Expr.Name _ _) (Expr.Call _ _ _ _) _ [] _) _) _ _ _); (rename Fr _ _ _ _ => lF9); (with_unfolding_all refine For_mine lF9 (by exact rfl) (by exact rfl) ?_; k_whole)))
  (k_with "exec For Name Name cons nil" => (k_here; (with_reducible show wpAny _ _ (exec (Stmt.For (Expr.Name _ _) (Expr.Name _ _) _ [] _) _) _ _ _); (rename Fr _ _ _ _ => lF9); (with_unfolding_all refine For_mine lF9 (by exact rfl) (by exact rfl) ?_; k_whole)))
  (k_with "call ref" => (k_here; (with_reducible show wpAny _ _ (call (Value.ref 159) [Value.str _ _]) _ _ _); k_dflt (refine Spec.use (split_spec _ _ _ _ _ _) (by k_asm) (by k_asm) (by k_asm) (by k_asm) (by k_asm) (by first | exact rfl | assumption) (by ktr_room) (by ktr_units) (by (first | assumption | omega)) ?_; k_whole); intro r' h' tk' F' N' kp' hp'; (obtain ⟨a', t1', t2', e', hg', hn'⟩ := hp'; subst e'; have N' := News.fresh2 (by assumption) N' kp' hg' hn' rfl)))
  exact True.intro

section
open PySem PySem.W PyProof.Rows PySem.Calls PySem.Spec
structure PS where
  head : Str
  ps : List Str
noncomputable def pStep (s : PS) : PS := if (s.head != Str.ofString "") = true then ⟨headOf s.head, lastOf s.head :: s.ps⟩ else s
noncomputable def pRun (p : Str) : Nat → PS
  | 0 => ⟨headOf p, [lastOf p]⟩
  | i + 1 => pStep (pRun p i)
theorem headOf_le (p : Str) : (headOf p).length ≤ p.length := by
  unfold headOf fstOf
  have h := Txt.slice_le p none (some (Txt.rfind p (Str.ofString "/") + 1))
  split
  · exact h
  · split
    · exact Nat.le_trans (len_rstripChars _ _) h
    · exact h
theorem lastOf_le (p : Str) : (lastOf p).length ≤ p.length := Txt.slice_le p _ _
theorem pRun_head (p : Str) (i : Nat) : (pRun p i).head.length ≤ p.length := by
  induction i with
  | zero => exact headOf_le p
  | succ i ih =>
    simp only [pRun, pStep]
    split
    · exact Nat.le_trans (headOf_le _) ih
    · exact ih
theorem pRun_len (p : Str) (i : Nat) : (pRun p i).ps.length ≤ i + 1 := by
  induction i with
  | zero => exact Nat.le_refl _
  | succ i ih =>
    simp only [pRun, pStep]
    split
    · simp only [List.length_cons]; omega
    · omega
theorem size1 (b : Int) (g : Nat) (h : b = ((g : Nat) : Int)) : Builtin.Range.rangeSize 0 b 1 = ((g : Nat) : Int) := by
  subst h
  unfold Builtin.Range.rangeSize
  by_cases h0 : g = 0
  · subst h0; rfl
  · rw [if_pos (by decide), if_pos (by omega)]; omega
theorem small1 (b : Int) (g : Nat) (h : b = ((g : Nat) : Int)) (hg : g < 200) : Builtin.Range.small 0 b 1 = true := by
  subst h
  have : ∀ g, g < 200 → Builtin.Range.small 0 ((g : Nat) : Int) 1 = true := by decide +kernel
  exact this g hg
set_option maxHeartbeats 8000000 in
theorem pieces_spec (w : World) (mean : ExcName → Option Value) (mg mb : Str → Option Value) (p : Str) (t : Tok) : Spec w mean mg mb 222 20 300 [.str p t] (fun _ => p.length ≤ 100)
   (fun h r h' => ∃ a ys k, r = .ref a ∧ h'.get? a = some (W.listOf ys.toArray k) ∧ h.get? a = none ∧ StrsAre ys (pRun p p.length).ps) := by
  walk_at "MINE open"
  rename p.length ≤ 100 => hp9
  have hp8 : p.length ≤ 1000 := by omega
  k_steps
  refine Stop.go (for_range (n := p.length) rfl (by assumption) ?sm ?sz [] (fun i kvs nx => ∃ a D ta tb l ys k, kvs = [(Str.ofString "pair", .ref a), (Str.ofString "pieces", .ref D)] ∧ nx = [(D, W.listOf ys.toArray k), (a, pairObj (pRun p i).head l ta tb)] ∧ StrsAre ys (pRun p i).ps) (by assumption) (by assumption) [(Str.ofString "pair", .ref ?a0), (Str.ofString "pieces", .ref ?d0)] _ ?k0 (fun _ h => h) ?h0 ?tn ?dn)
  case k0 => exact List.forall_mem_cons.mpr ⟨by with_unfolding_all exact rfl, List.forall_mem_cons.mpr ⟨by with_unfolding_all exact rfl, fun _ h => nomatch h⟩⟩
  case h0 => exact ⟨_, _, _, _, _, [_], _, rfl, rfl, .cons _ _ .nil⟩
  case sm => exact small1 _ _ rfl (by omega)
  case sz => exact size1 _ _ rfl
  case tn =>
    intro i t9 kvs nx u9 I oI h9 tk9 hi9 hv9 ho9 hI9 F9 N9
    obtain ⟨a9, D9, ta9, tb9, l9, ys, k9, rfl, rfl, hy9⟩ := hv9
    have hyl := hy9.len_eq
    have hpl := pRun_len p i
    have hph := pRun_head p i
    have hz : ys.length ≤ 200 := by omega
    have hhead : (pRun p i).head.length ≤ 1000 := by omega
    have ho8 := ho9
    simp only [frm] at F9
    have hne := off1 ho9
    simp only [LCg.Off1, and_true] at hne
    k_steps
    · rename (_ != _) = true => hA
      have e1 : pRun p (i + 1) = ⟨headOf (pRun p i).head, lastOf (pRun p i).head :: (pRun p i).ps⟩ := by simp only [pRun, pStep, if_pos hA]
      refine FTurn.mk (by assumption) (by assumption) [(Str.ofString "pair", .ref ?a1), (Str.ofString "pieces", .ref ?d1)] [(?d1, W.listOf (Value.str (lastOf (pRun p i).head) ?t1 :: ys).toArray 0), (?a1, pairObj (headOf (pRun p i).head) (lastOf (pRun p i).head) ?ta1 ?t1)] ?hs ?ho ?h1 ?h2 ⟨?a1, ?d1, ?ta1, ?t1, _, _, 0, rfl, by rw [e1], by rw [e1]; exact .cons _ _ (by assumption)⟩
      case h1 => exact List.forall_mem_cons.mpr ⟨by with_unfolding_all exact rfl, List.forall_mem_cons.mpr ⟨by with_unfolding_all exact rfl, fun _ h => nomatch h⟩⟩
      case hs => lcg_sub
      case ho =>
        refine List.forall_mem_cons.mpr ⟨?_, List.forall_mem_cons.mpr ⟨?_, fun _ h => nomatch h⟩⟩
        · dsimp only
          refine list_ne (by assumption) (by k_mem) (List.Mem.head _) hI9 rfl
        · dsimp only
          exact fresh_ne (by assumption) (by assumption) (List.Mem.head _)
      case h2 =>
        intro z hz ht
        simp only [List.map_cons, List.map_nil, List.contains_cons, List.contains_nil, Bool.or_false, Bool.or_eq_false_iff, beq_eq_false_iff_ne, ne_eq] at hz ht
        simp [hz, ht]
    · rename (_ != _) = false => hA
      have e1 : pRun p (i + 1) = pRun p i := by simp only [pRun, pStep]; rw [if_neg (by rw [hA]; decide)]
      refine FTurn.mk (by assumption) (by assumption) [(Str.ofString "pair", .ref a9), (Str.ofString "pieces", .ref D9)] _ ?hs ho8 ?h1 ?h2 ⟨a9, D9, ta9, tb9, l9, ys, k9, rfl, by rw [e1], by rw [e1]; exact hy9⟩
      case h1 => exact List.forall_mem_cons.mpr ⟨by with_unfolding_all exact rfl, List.forall_mem_cons.mpr ⟨by with_unfolding_all exact rfl, fun _ h => nomatch h⟩⟩
      case hs => lcg_sub
      case h2 =>
        intro z hz ht
        simp only [List.map_cons, List.map_nil, List.contains_cons, List.contains_nil, Bool.or_false, Bool.or_eq_false_iff, beq_eq_false_iff_ne, ne_eq] at hz ht
        simp [hz, ht]
  case dn =>
    intro kvs nx u9 h9 tk9 hv9 F9 N9
    obtain ⟨a9, D9, ta9, tb9, l9, ys, k9, rfl, rfl, hy9⟩ := hv9
    simp only [frm] at F9
    dsimp only
    k_steps
    walk_at "MINE fin"
    exact ⟨_, ys, k9, rfl, News.get (by assumption) (List.Mem.head _), News.fresh (by assumption) (List.Mem.head _), hy9⟩
end

-- Fronts
theorem words15 : True := by
  k_with_none
  (k_with "MINE enter" => (refine' enter0 ?k1 ?k2 ?k3 ?k5 ?kA ?kF ?kK ?k6 ?k7 ?k8 ?k9 ?kB ?_ ?c2 ?c3 ?c4 ?c5; (case kA => exact rfl); (case kF => exact rfl); (case kK => assumption); (case k1 => k_asm); (case k2 => k_asm); (case k3 => k_asm); (case k5 => k_asm); (case k6 => k_is); (case k7 => k_is); (case k8 => ktr_room); (case k9 => exact BindsTo.of_eq rfl); (case c5 => decide); (case kB => exact locs rfl); (case c2 => exact rfl); (case c3 => exact rfl); (case c4 => exact rfl); k_whole; intro L' h' F' N' B' X' T'; (try dsimp only); (try k_fold)))
  (k_with "MINE open" => (
    unfold Spec
    intro dp un gd cn cs a ccd cl outer A₀ base h₀ L m s Q E B F X T hk hdp hu hpre hret
    revert X
    k_fill
    intro X
    refine wpAny_call ?_
    k_dflt (walk_at "MINE enter")
    clear F X T B))
  (k_with "MINE fin" => ((rename Back _ _ _ => hb9); (have hb8 := @Back.fin _ _ _ hb9); refine hb8 (by assumption) ?_))
  (k_with "MINE enterS" => (refine' enterS ?k1 ?k2 ?k3 ?k5 ?kA ?kF ?kK ?k6 ?k7 ?k8 ?kV ?kP ?kG ?kB ?_ ?c2 ?c3 ?c4 ?c5; (case kA => exact rfl); (case kF => exact rfl); (case kK => assumption); (case k1 => k_asm); (case k2 => k_asm); (case k3 => k_asm); (case k5 => k_asm); (case k6 => k_is); (case k7 => k_is); (case k8 => ktr_room); (case kV => kl_lit); (case kP => exact rfl); (case kG => exact fun _ => rfl); (case kB => exact fun _ => locs rfl); (case c5 => decide); (case c2 => exact rfl); (case c3 => exact rfl); (case c4 => exact rfl); k_whole; intro D' L' h' F' N' B' X' T'; (try dsimp only); (try k_fold)))
  (k_with "MINE openS" => (
    unfold Spec
    intro dp un gd cn cs a ccd cl outer A₀ base h₀ L m s Q E B F X T hk hdp hu hpre hret
    revert X
    k_fill
    intro X
    refine wpAny_call ?_
    k_dflt (walk_at "MINE enterS")
    clear F X T B))
  (k_with "MINE enterK" => (refine' enter0 ?k1 ?k2 ?k3 ?k5 ?kA ?kF ?kK ?k6 ?k7 ?k8 ?k9 ?kB ?_ ?c2 ?c3 ?c4 ?c5; (case kA => exact rfl); (case kF => exact rfl); (case kK => assumption); (case k1 => k_asm); (case k2 => k_asm); (case k3 => k_asm); (case k5 => k_asm); (case k6 => k_is); (case k7 => k_is); (case k8 => ktr_room); (case k9 => (refine kp_binds (by exact Frag.In.keeps (by assumption) (Fr.keep (by assumption))) (by exact fun _ => rfl))); (case c5 => decide); (case kB => exact locs rfl); (case c2 => exact rfl); (case c3 => exact rfl); (case c4 => exact rfl); k_whole; intro L' h' F' N' B' X' T'; (try dsimp only); (try k_fold)))
  (k_with "MINE openK" => (
    unfold SpecKw
    intro dp un gd cn cs a ccd cl outer A₀ base h₀ L m s Q E B F X T hk hdp hu hpre hret
    revert X
    k_fill
    intro X
    refine wpAny_call ?_
    k_dflt (walk_at "MINE enterK")
    clear F X T B))
  (k_with "MINE openD" => (
    unfold Spec
    intro dp un gd cn cs a ccd cl outer A₀ base h₀ L m s Q E B F X T hk hdp hu hpre hret
    revert X
    k_fill
    intro X
    refine wpAny_call ?_
    k_dflt (walk_at "MINE enterK")
    clear F X T B))
  (k_with "exec For Name Call cons nil" => (k_here; (with_reducible show wpAny _ _ (exec (Stmt.For (Expr.Name _ _) (Expr.Call _ _ _ _) _ [] _) _) _ _ _); (rename Fr _ _ _ _ => lF9); (with_unfolding_all refine For_mine lF9 (by exact rfl) (by exact rfl) ?_; k_whole)))
  (k_with "exec For Name Name cons nil" => (k_here; (with_reducible show wpAny _ _ (exec (Stmt.For (Expr.Name _ _) (Expr.Name _ _) _ [] _) _) _ _ _); (rename Fr _ _ _ _ => lF9); (with_unfolding_all refine For_mine lF9 (by exact rfl) (by exact rfl) ?_; k_whole)))
  (k_with "exec For Name Subscript cons nil" => (k_here; (with_reducible show wpAny _ _ (exec (Stmt.For (Expr.Name _ _) (Expr.Subscript _ _ _) _ [] _) _) _ _ _); (rename Fr _ _ _ _ => lF9); (with_unfolding_all refine For_mine lF9 (by exact rfl) (by exact rfl) ?_; k_whole)))
  (k_with "exec For Name" => (k_here; (with_reducible show wpAny _ _ (exec (Stmt.For (Expr.Name _ _) (Expr.Subscript _ _ _) _ [] _) _) _ _ _); (rename Fr _ _ _ _ => lF9); (with_unfolding_all refine For_mine lF9 (by exact rfl) (by exact rfl) ?_; k_whole)))
  (k_with "call ref" => (k_here; (with_reducible show wpAny _ _ (call (Value.ref 152) [Value.str _ _, Value.str _ _]) _ _ _); k_dflt (refine Spec.use (join_spec _ _ _ _ _ _ _ _) (by k_asm) (by k_asm) (by k_asm) (by k_asm) (by k_asm) (by first | exact rfl | assumption) (by ktr_room) (by ktr_units) (by (refine ⟨?_, ?_⟩ <;> first | assumption | omega)) ?_; k_whole); intro r' h' tk' F' N' kp' hp'; (refine Exists.elim hp' ?_; clear hp'; intro t' hp'; subst hp')))
  (k_with "call builtin:list.append" => (k_here; (with_reducible show wpAny _ _ (call (Value.builtin _) [Value.ref _, _]) _ _ _); k_dflt (refine append_K (by k_asm) (by k_asm) (by k_upd) ?_ (by (simp only [List.size_toArray, List.length_append, List.length_cons, List.length_nil, PySem.sizeLine_eq]; omega)); k_whole); intro h' F' N'))
  (k_with "subscriptTail" => (k_here; (with_reducible show wpAny _ _ (subscriptTail _ _ (Value.ref _) (Value.int 0 _)) _ _ _); (refine item_at ?a (by decide) (by decide) ?d ?_ ?hs); (case a => exact Keeps.list (Fr.keep (by assumption)) (by assumption)); (case d => exact rfl); (case hs => with_unfolding_all rfl)))
  (k_with "subscriptTail Name Slice ref ref" => (k_here; (with_reducible show wpAny _ _ (subscriptTail _ (PySem.Expr.Slice _ _ none _) (Value.ref _) (Value.ref _)) _ _ _); k_dflt (refine kmk_slice_lit (by k_asm) (by k_asm) (by exact Keeps.list (Fr.keep (by assumption)) (by assumption)) (by kmk_part) (by kmk_part) (slice_tail _ _) ?_ (by with_unfolding_all rfl) (by kmk_pure) (by (simp only [List.size_toArray, List.length_cons, sizeLine_eq]; omega))); intro D' h' F' N' l1; (try k_lt l1)))
  exact True.intro

section
open PySem PySem.W PyProof.Rows PySem.Calls PySem.Spec
theorem slice_tail (x : Value) (vs : List Value) : (slicePick (x :: vs).toArray (some 1) none none).toList = vs := by
  have := slicePick_from' (x :: vs).toArray 1
  exact (congrArg Array.toList this)

theorem strs_app2 : ∀ {vs ws : List Value} {ns ms : List Str}, StrsAre vs ns → StrsAre ws ms → StrsAre (vs ++ ws) (ns ++ ms)
  | _, _, _, _, .nil, h => h
  | _, _, _, _, .cons y t r, h => .cons y t (strs_app2 r h)
noncomputable def fcur (c : Str) (r : List Str) (i : Nat) : Str := (r.take i).foldl joinOf c
theorem fcur_succ {c : Str} {r : List Str} {i : Nat} {x : Str} (h : r[i]? = some x) : fcur c r (i + 1) = joinOf (fcur c r i) x := by
  unfold fcur; rw [List.take_add_one, h, Option.toList_some, List.foldl_append]; rfl
noncomputable def fall (c : Str) (r : List Str) : List Str := (List.range (r.length + 1)).map (fcur c r)
set_option maxHeartbeats 8000000 in
theorem fronts_spec (w : World) (mean : ExcName → Option Value) (mg mb : Str → Option Value) (l : Addr) (vs : List Value) (c : Str) (r : List Str) : Spec w mean mg mb 229 20 300 [.ref l] (fun h => h.IsList l vs.toArray ∧ StrsAre vs (c :: r) ∧ r.length ≤ 40 ∧ (∀ i, i ≤ r.length → (fcur c r i).length ≤ 500) ∧ ∀ x ∈ r, x.length ≤ 500)
   (fun h q h' => ∃ a ys k, q = .ref a ∧ h'.get? a = some (W.listOf ys.toArray k) ∧ h.get? a = none ∧ StrsAre ys (fall c r)) := by
  walk_at "MINE open"
  rename _ ∧ _ => hp9
  obtain ⟨hl, hi, hb, hlen, hc⟩ := hp9
  obtain ⟨t9, vs9, rfl, hi9⟩ : ∃ t vs', vs = Value.str c t :: vs' ∧ StrsAre vs' r := by cases hi with | cons _ t h => exact ⟨t, _, rfl, h⟩
  have hvl := hi9.len_eq
  k_steps
  refine Stop.go (for_listD rfl (by assumption) (by assumption) [] (Str.ofString "fronts") (by with_unfolding_all exact rfl) (W.listOf #[.str c t9] 0) [(?dd, W.listOf vs9.toArray 0)] (.inr ⟨0, List.Mem.head _⟩) (fun i kvs o => kvs = [] ∧ ∃ ys f tf k, o = W.listOf (ys ++ [Value.str f tf]).toArray k ∧ StrsAre ys ((List.range i).map (fcur c r)) ∧ f = fcur c r i) [] (fun _ h => nomatch h) (by lcg_sub) ⟨rfl, [], c, t9, 0, rfl, .nil, rfl⟩ ?tn ?dn)
  case tn =>
    intro i v9 kvs o u9 I oI h9 tk9 hi8 hc9 hv9 ho9 hI9 F9 N9
    obtain ⟨rfl, ys, f, tf, k9, rfl, hy9, rfl⟩ := hv9
    obtain ⟨x, tx, rfl, hx8⟩ := hi9.item i _ (by simpa using hc9)
    have hir : i ≤ r.length := by simp at hi8; omega
    have hxl := hc x (List.mem_of_getElem? hx8)
    have hfl := hlen i hir
    have hp1 : (fcur c r i).length ≤ 1000 := by omega
    have hp2 : x.length ≤ 1000 := by omega
    have hyl := hy9.len_eq
    rw [List.length_map, List.length_range] at hyl
    have ho8 := ho9
    simp only [frm] at F9
    have hne := off1 ho9
    simp only [LCg.Off1, and_true] at hne
    k_steps
    refine item_last (l := ys) (x := Value.str (fcur c r i) tf) ?a ?_ ?hs
    case a => exact ⟨_, News.get (by assumption) (.tail _ (.head _)), rfl, _, rfl⟩
    case hs => with_unfolding_all rfl
    k_steps
    have e1 := fcur_succ (c := c) hx8
    simp only [List.push_toArray] at *
    refine FTurn.mk (by assumption) (by assumption) [] ((_, W.listOf (ys ++ [Value.str (fcur c r i) tf] ++ [Value.str (joinOf (fcur c r i) x) ?ta]).toArray (k9 + 1)) :: _) ?hs (off_upd ho8 _) (fun _ h => nomatch h) ?h2 ⟨W.listOf (ys ++ [Value.str (fcur c r i) tf] ++ [Value.str (joinOf (fcur c r i) x) ?ta]).toArray (k9 + 1), rfl, rfl, ys ++ [Value.str (fcur c r i) tf], joinOf (fcur c r i) x, ?ta, k9 + 1, rfl, by rw [List.range_succ, List.map_append]; exact strs_app2 hy9 (.cons _ _ .nil), by rw [e1]⟩
    case hs => lcg_sub
    case h2 =>
      intro z hz ht
      simp only [List.map_cons, List.map_nil, List.contains_cons, List.contains_nil, Bool.or_false, Bool.or_eq_false_iff, beq_eq_false_iff_ne, ne_eq] at hz ht
      simp [hz, ht]
  case dn =>
    intro kvs o u9 h9 tk9 hv9 F9 N9
    obtain ⟨rfl, ys, f, tf, k9, rfl, hy9, rfl⟩ := hv9
    simp only [frm] at F9
    dsimp only
    k_steps
    walk_at "MINE fin"
    have hsz : vs9.toArray.size = r.length := by rw [List.size_toArray, hvl]
    rw [hsz] at hy9
    exact ⟨_, _, k9, rfl, News.get (by assumption) (List.Mem.head _), News.fresh (by assumption) (List.Mem.head _), by unfold fall; rw [List.range_succ, List.map_append, hsz]; exact strs_app2 hy9 (.cons _ _ .nil)⟩
end

-- Iter

section
open PySem PySem.W PyProof.Rows PySem.Calls PySem.Spec
noncomputable def itObj (l : Addr) (i : Nat) : Obj := { cls := .type "list_iterator", data := .fields #[.ref l, .int i 0] }
noncomputable def itEnd (i : Nat) : Obj := { cls := .type "list_iterator", data := .fields #[.none, .int i 0] }
section
variable {prog : Program} {w : World} {A : Around} {E : Value → Shared → Prop} {s : Shared} {h₀ : Heap} {L l it : Addr} {m : Str → Option Value} {news news' : List (Addr × Obj)} {its : Array Value} {x : Value} {i : Nat}
theorem iter_list {Q : Value → Shared → Prop} (F : Fr h₀ L s.heap m) (N : News h₀ L s.heap news) (hl : s.heap.IsList l its)
    (h : ∀ (I : Addr) h', Fr h₀ L h' m → News h₀ L h' ((I, itObj l 0) :: news) → (∀ p ∈ news, p.1 < I) → Q (.ref I) { s with heap := h' }) :
    wpAny (model prog w) A (call (.builtin "iter") [.ref l]) Q E s := by
  refine call_function_entry (by decide +kernel) (by decide +kernel) kdk_entry_iter (kdk_args_iter _) ?_
  unfold Builtin.«iter»
  refine wpAny_bind (m := someArgs "iter" 1 2 _) (wpAny_of_eq (a := [Value.ref l]) (by first | rfl | kernel_rfl!) ?_)
  show wpAny _ _ (pyIter (.ref l) >>= _) _ _ _
  refine wpAny_bind (wpAny_pyIter_list hl ?_)
  exact wpAny_pure ⟨_, rfl, h _ _ (F.push _) (News.push F N _ rfl) (fun q hq => Heap.lt_size (N q hq).1)⟩

theorem next_special {Q : Option Value → Shared → Prop} (ho : s.heap.get? it = some (itObj l i)) (hl : s.heap.IsList l its) (hx : its[i]? = some x)
    (hQ : ∀ h', h'.get? it = some (itObj l (i + 1)) → Heap.SameBut it s.heap h' → Q (some x) { s with heap := h' }) :
    wpAny (model prog w) A (callSpecial? (.ref it) (Str.ofString "__next__")) Q E s := by
  have hT : s.TypeIs (.ref it) "list_iterator" := ⟨_, ho, rfl⟩
  have hd : (itObj l i).data = .fields #[.ref l, .int i 0] := rfl
  obtain ⟨ol, hol, _, nl, hdl⟩ := hl
  refine wpAny_callSpecial?_slot (name := Str.ofString "__next__") hT slot_listiter_next
    (wpAny_call_entry slot_listiter_next hT entry_listiter_next ?_ (args_listiter_next _))
  show wpAny _ _ (field (.ref it) 0 >>= _) _ _ s
  refine wpAny_bind (wpAny_field ho hd (x := .ref l) rfl ?_)
  show wpAny _ _ (if (Value.ref l == Value.none) = true then _ else _) _ _ s
  rw [if_neg (show ¬ ((Value.ref l == Value.none) = true) from Bool.false_ne_true)]
  show wpAny _ _ (field (.ref it) 1 >>= _) _ _ s
  refine wpAny_bind (wpAny_field ho hd (x := .int i 0) rfl ?_)
  show wpAny _ _ (seqItems? (.ref l) >>= _) _ _ s
  refine wpAny_bind (wpAny_seqItems hol hdl ?_)
  simp only [Int.toNat_natCast, hx]
  refine wpAny_bind (wpAny_setField ho hd (by simp) (wpAny_pure ⟨x, rfl, hQ _ ?_ (Heap.SameBut.update ..)⟩))
  have e := Heap.get?_update_self (Obj.mapFields (·.setIfInBounds 1 (rawInt ((i : Int) + 1)))) ho (Obj.isFreed_of_fields (Obj.data_mapFields hd _))
  rw [e]
  rfl

theorem next_item {Q : Value → Shared → Prop} (F : Fr h₀ L s.heap m) (N : News h₀ L s.heap news) (U : Upd it (itObj l i) (itObj l (i + 1)) news news') (hl : s.heap.IsList l its) (hx : its[i]? = some x)
    (h : ∀ h', Fr h₀ L h' m → News h₀ L h' news' → Q x { s with heap := h' }) : wpAny (model prog w) A (call (.builtin "next") [.ref it]) Q E s := by
  obtain ⟨pre, post, rfl, rfl, a, b⟩ := U.split
  have hm := N (it, itObj l i) (List.mem_append_right _ (.head _))
  have hT : s.TypeIs (.ref it) "list_iterator" := ⟨_, hm.1, rfl⟩
  refine call_function_entry (by decide +kernel) (by decide +kernel) kdk_entry_next (kdk_args_next _) ?_
  unfold Builtin.«next»
  refine wpAny_bind (m := someArgs "next" 1 2 _) (wpAny_of_eq (a := [Value.ref it]) (by first | rfl | kernel_rfl!) ?_)
  dsimp only
  refine wpAny_bind (wpAny_specialOf (name := Str.ofString "__next__") hT slot_listiter_next.lookup ?_)
  refine wpAny_ite_split (fun hab => absurd hab (by decide)) (fun _ => ?_)
  refine wpAny_bind (next_special hm.1 hl hx fun h' ho' hs => ?_)
  exact wpAny_pure ⟨_, rfl, h h' (F.change hs hm.2.1 hm.2.2) (news_set N a b hs ho')⟩

theorem next_special_end {Q : Option Value → Shared → Prop} (hh : A.handled = none) (ho : s.heap.get? it = some (itObj l i)) (hl : s.heap.IsList l its) (hx : its[i]? = none)
    (hE : ∀ h₁ h' e, h₁.get? it = some (itEnd i) → Heap.SameBut it s.heap h₁ → Heap.NewExc h₁ h' e "StopIteration" → E (.ref e) { s with heap := h' }) :
    wpAny (model prog w) A (callSpecial? (.ref it) (Str.ofString "__next__")) Q E s := by
  have hT : s.TypeIs (.ref it) "list_iterator" := ⟨_, ho, rfl⟩
  have hd : (itObj l i).data = .fields #[.ref l, .int i 0] := rfl
  obtain ⟨ol, hol, _, nl, hdl⟩ := hl
  refine wpAny_callSpecial?_slot (name := Str.ofString "__next__") hT slot_listiter_next
    (wpAny_call_entry slot_listiter_next hT entry_listiter_next ?_ (args_listiter_next _))
  show wpAny _ _ (field (.ref it) 0 >>= _) _ _ s
  refine wpAny_bind (wpAny_field ho hd (x := .ref l) rfl ?_)
  show wpAny _ _ (if (Value.ref l == Value.none) = true then _ else _) _ _ s
  rw [if_neg (show ¬ ((Value.ref l == Value.none) = true) from Bool.false_ne_true)]
  show wpAny _ _ (field (.ref it) 1 >>= _) _ _ s
  refine wpAny_bind (wpAny_field ho hd (x := .int i 0) rfl ?_)
  show wpAny _ _ (seqItems? (.ref l) >>= _) _ _ s
  refine wpAny_bind (wpAny_seqItems hol hdl ?_)
  simp only [Int.toNat_natCast, hx]
  refine wpAny_bind (wpAny_rule (wpAny_bind (wpAny_setField ho hd (by simp) ?_)))
  have e := Heap.get?_update_self (Obj.mapFields (·.setIfInBounds 0 Value.none)) ho (Obj.isFreed_of_fields (Obj.data_mapFields hd _))
  have hsb : Heap.SameBut it s.heap (s.heap.update it (Obj.mapFields (·.setIfInBounds 0 Value.none))) := Heap.SameBut.update ..
  have e' : (s.heap.update it (Obj.mapFields (·.setIfInBounds 0 Value.none))).get? it = some (itEnd i) := by rw [e]; rfl
  show wpAny _ _ (newExc (.type "StopIteration") [] >>= _) _ _ _
  refine wpAny_bind ?_
  simp only [newExc, newTuple]
  refine wpAny_bind (wpAny_newObj_type ?_ (by size_fits))
  refine wpAny_bind (m := firstArgMember _ _) (wpAny_of_eq (a := Value.none) (by first | rfl | (simp only [firstArgMember]; rfl)) ?_)
  refine wpAny_newObj_type ?_ (by size_fits)
  simp only [raiseNew]
  refine wpAny_bind (wpAny_handled ?_)
  rw [show A.in1.handled = none from hh]
  refine wpAny_bind (wpAny_pure (wpAny_throw ?_))
  refine hE _ _ _ e' hsb ⟨fun b o q => Heap.get?_push_of_some _ (Heap.get?_push_of_some _ q), ?_, ⟨_, _, Heap.get?_push_size _ rfl, rfl, rfl⟩⟩
  cases z : (s.heap.update it (Obj.mapFields (·.setIfInBounds 0 Value.none))).get? _ with
  | none => rfl
  | some o => exact absurd (Nat.lt_trans (Heap.lt_size z) (by rw [Heap.size_push]; exact Nat.lt_succ_self _)) (Nat.lt_irrefl _)

theorem next_end {Q : Value → Shared → Prop} (hh : A.handled = none) (F : Fr h₀ L s.heap m) (N : News h₀ L s.heap news) (U : Upd it (itObj l i) (itEnd i) news news') (hl : s.heap.IsList l its) (hx : its[i]? = none)
    (h : ∀ h₁ h' e, Fr h₀ L h₁ m → News h₀ L h₁ news' → Heap.NewExc h₁ h' e "StopIteration" → E (.ref e) { s with heap := h' }) : wpAny (model prog w) A (call (.builtin "next") [.ref it]) Q E s := by
  obtain ⟨pre, post, rfl, rfl, a, b⟩ := U.split
  have hm := N (it, itObj l i) (List.mem_append_right _ (.head _))
  have hT : s.TypeIs (.ref it) "list_iterator" := ⟨_, hm.1, rfl⟩
  refine call_function_entry (by decide +kernel) (by decide +kernel) kdk_entry_next (kdk_args_next _) ?_
  unfold Builtin.«next»
  refine wpAny_bind (m := someArgs "next" 1 2 _) (wpAny_of_eq (a := [Value.ref it]) (by first | rfl | kernel_rfl!) ?_)
  dsimp only
  refine wpAny_bind (wpAny_specialOf (name := Str.ofString "__next__") hT slot_listiter_next.lookup ?_)
  refine wpAny_ite_split (fun hab => absurd hab (by decide)) (fun _ => ?_)
  refine wpAny_bind (next_special_end hh hm.1 hl hx fun h₁ h' e ho' hs hx' => ?_)
  exact h h₁ h' e (F.change hs hm.2.1 hm.2.2) (news_set N a b hs ho') hx'
end
end

-- CatchX
theorem words16 : True := by
  k_with_none
  (k_with "MINE enter" => (refine' enter0 ?k1 ?k2 ?k3 ?k5 ?kA ?kF ?kK ?k6 ?k7 ?k8 ?k9 ?kB ?_ ?c2 ?c3 ?c4 ?c5; (case kA => exact rfl); (case kF => exact rfl); (case kK => assumption); (case k1 => k_asm); (case k2 => k_asm); (case k3 => k_asm); (case k5 => k_asm); (case k6 => k_is); (case k7 => k_is); (case k8 => ktr_room); (case k9 => exact BindsTo.of_eq rfl); (case c5 => decide); (case kB => exact locs rfl); (case c2 => exact rfl); (case c3 => exact rfl); (case c4 => exact rfl); k_whole; intro L' h' F' N' B' X' T'; (try dsimp only); (try k_fold)))
  (k_with "MINE open" => (
    unfold Spec
    intro dp un gd cn cs a ccd cl outer A₀ base h₀ L m s Q E B F X T hk hdp hu hpre hret
    revert X
    k_fill
    intro X
    refine wpAny_call ?_
    k_dflt (walk_at "MINE enter")
    clear F X T B))
  (k_with "MINE fin" => ((rename Back _ _ _ => hb9); (have hb8 := @Back.fin _ _ _ hb9); refine hb8 (by assumption) ?_))
  (k_with "MINE enterS" => (refine' enterS ?k1 ?k2 ?k3 ?k5 ?kA ?kF ?kK ?k6 ?k7 ?k8 ?kV ?kP ?kG ?kB ?_ ?c2 ?c3 ?c4 ?c5; (case kA => exact rfl); (case kF => exact rfl); (case kK => assumption); (case k1 => k_asm); (case k2 => k_asm); (case k3 => k_asm); (case k5 => k_asm); (case k6 => k_is); (case k7 => k_is); (case k8 => ktr_room); (case kV => kl_lit); (case kP => exact rfl); (case kG => exact fun _ => rfl); (case kB => exact fun _ => locs rfl); (case c5 => decide); (case c2 => exact rfl); (case c3 => exact rfl); (case c4 => exact rfl); k_whole; intro D' L' h' F' N' B' X' T'; (try dsimp only); (try k_fold)))
  (k_with "MINE openS" => (
    unfold Spec
    intro dp un gd cn cs a ccd cl outer A₀ base h₀ L m s Q E B F X T hk hdp hu hpre hret
    revert X
    k_fill
    intro X
    refine wpAny_call ?_
    k_dflt (walk_at "MINE enterS")
    clear F X T B))
  (k_with "MINE enterK" => (refine' enter0 ?k1 ?k2 ?k3 ?k5 ?kA ?kF ?kK ?k6 ?k7 ?k8 ?k9 ?kB ?_ ?c2 ?c3 ?c4 ?c5; (case kA => exact rfl); (case kF => exact rfl); (case kK => assumption); (case k1 => k_asm); (case k2 => k_asm); (case k3 => k_asm); (case k5 => k_asm); (case k6 => k_is); (case k7 => k_is); (case k8 => ktr_room); (case k9 => (refine kp_binds (by exact Frag.In.keeps (by assumption) (Fr.keep (by assumption))) (by exact fun _ => rfl))); (case c5 => decide); (case kB => exact locs rfl); (case c2 => exact rfl); (case c3 => exact rfl); (case c4 => exact rfl); k_whole; intro L' h' F' N' B' X' T'; (try dsimp only); (try k_fold)))
  (k_with "MINE openK" => (
    unfold SpecKw
    intro dp un gd cn cs a ccd cl outer A₀ base h₀ L m s Q E B F X T hk hdp hu hpre hret
    revert X
    k_fill
    intro X
    refine wpAny_call ?_
    k_dflt (walk_at "MINE enterK")
    clear F X T B))
  (k_with "MINE openD" => (
    unfold Spec
    intro dp un gd cn cs a ccd cl outer A₀ base h₀ L m s Q E B F X T hk hdp hu hpre hret
    revert X
    k_fill
    intro X
    refine wpAny_call ?_
    k_dflt (walk_at "MINE enterK")
    clear F X T B))
  exact True.intro

section
open PySem PySem.W PyProof.Rows PySem.Calls PySem.Spec
noncomputable def BackX (h₀ : Heap) (L : Addr) (m : Str → Option Value) (s : Shared) (Post : Heap → Value → Heap → Prop) (Q : Value → Shared → Prop) : Prop :=
  ∀ r h' tk', Fr h₀ L h' m → (∀ b o, b ≠ L → s.heap.get? b = some o → h'.get? b = some o) → Post s.heap r h' → Q r { s with heap := h', toks := tk' }
noncomputable def SpecX (w : World) (mean : ExcName → Option Value) (mg mb : Str → Option Value) (f : Addr) (dd uu : Nat) (args : List Value) (Pre : Heap → Prop) (Post : Heap → Value → Heap → Prop) : Prop :=
  ∀ (dp un : Nat) (gd : Option (List Code)) (cn : Str) (cs : Scope) (a : Addr) (ccd : Value) (cl : List (Str × Addr)) (A₀ : Around) (h₀ : Heap) (L : Addr) (m : Str → Option Value) (s : Shared) (Q E : Value → Shared → Prop),
    Below A₀ h₀ [] h₀ → Fr h₀ L s.heap m → (hd.heap_39 w.params).In h₀ → Top hd.view_39 Ls mean mg mb h₀ → cs.kind = .function →
    dp + dd < recursionLimit → un + uu < cLine → Pre s.heap →
    BackX h₀ L m s Post Q →
    wpAny (model PySem.Challenge.rw_pd0184_01.row.toRowW.prog w) (ktrTop dp un gd cn cs L a ccd cl []) (call (.ref f) args) Q E s
theorem hideB {A : Around} {base h : Heap} {env : Env} {L : Addr} (B : Below A base [env] h) (hf : env.frame = some L) : Below A (hideAll h [L]) [env] h :=
  ⟨B.stack, fun b o e => of_hideAll _ e, funFrames_hide B.frames fun e he a ha => by
    rw [List.mem_singleton] at he
    subst he
    rw [hf] at ha
    cases ha
    exact .head _⟩
theorem hideK {h₀ h : Heap} {L : Addr} {m : Str → Option Value} (F : Fr h₀ L h m) : Keeps h₀ (hideAll h [L]) := fun b o e => hideAll_get _ (F.keep b o e) fun hm => by
  rw [List.mem_singleton] at hm
  subst hm
  exact absurd (Nat.lt_of_lt_of_le (Heap.lt_size e) F.above) (Nat.lt_irrefl _)
theorem hideUp {h h' : Heap} {L : Addr} (k : Keeps (hideAll h [L]) h') : ∀ b o, b ≠ L → h.get? b = some o → h'.get? b = some o := fun b o hb e => k b o (hideAll_get _ e fun hm => hb (List.mem_singleton.mp hm))
section
variable {prog : Program} {w : World} {A₀ : Around} {E : Value → Shared → Prop} {s' : Shared} {base h₀ h : Heap} {outer : List Env} {L a e : Addr} {m : Str → Option Value} {name : Str} {scope : Scope} {cd : Value}
  {b₀ : Stmt} {suite : List Stmt} {pos np : Pos} {rest : List ExceptHandler} {Q : Flow → Shared → Prop} {news : List (Addr × Obj)}
  {p : Program} {loose : List Str} {mean : ExcName → Option Value} {mg mb : Str → Option Value} {x : Str} {X T' : String}
theorem caughtX (K : Below A₀ base outer h₀) (hz : base.objs.size ≤ h₀.objs.size) (F : Fr h₀ L h m) (hsm : h.UpToSlots s'.heap) (R : RaisedN base (envOf name scope L a cd :: outer) e (.type X) news s'.heap)
    (T : TopRead p loose mg mb base) (hv : bootBuiltins x = some (.type T'))
    (hexc : isSubtype (.type T') (.type "BaseException") = pure true) (hnt : isSubtype (.type ((Manifest.find? T').elim "type" fun y => y.metatype)) (.type "tuple") = pure false) (hsub : isSubtype (.type X) (.type T') = pure true)
    (k : ∀ h', Fr base L h' m → News base L h' news → h.UpToSlots h' →
      wpAny (model prog w) ((A₀.deeper (envOf name scope L a cd)).mark (some (.ref e))) (execs (b₀ :: suite) (envOf name scope L a cd)) Q E { s' with heap := h' })
    (h1 : x ∉ startupNames := by decide +kernel) (h2 : x ∉ loose := by decide +kernel) (h3 : x ∉ (recsOf p).map (·.name) := by decide +kernel) (h4 : x ∉ (litsOf p).map (·.1) := by decide +kernel) (h4c : x ∉ (clssOf p loose).map (·.name) := by decide +kernel) (hn : x ≠ "__name__" := by decide +kernel)
    (hk : scope.kind = .function := by rfl) (hx : (envOf name scope L a cd).kindOf x = some .globalImplicit := by rfl) (hd : (x == ("__debug__" : Str)) = false := by decide)
    (hE : PassesOwnAt (model prog w) ((A₀.deeper (envOf name scope L a cd)).mark (some (.ref e))) (A₀.deeper (envOf name scope L a cd)) (envOf name scope L a cd) E := by passes_own) :
    wpAny (model prog w) (A₀.deeper (envOf name scope L a cd)) (noteFrame (.ref e) (envOf name scope L a cd))
      (fun _ s₂ => wpAny (model prog w) (A₀.deeper (envOf name scope L a cd)) (setFlight (.ref e) none) (fun _ s₃ =>
        wpAny (model prog w) (A₀.deeper (envOf name scope L a cd)) (handleBy (.ref e) (envOf name scope L a cd) (.ExceptHandler (some (.Name x np)) none (b₀ :: suite) pos :: rest)) Q E s₃) E s₂) E s' := by
  obtain ⟨B, a0, hB, hl, hfl⟩ := R
  have hL : B.get? L = none := by
    obtain ⟨_, ⟨_, _, hf, hn', _⟩, _⟩ := hfl.2.2.1
    obtain rfl := Option.some.inj hf
    exact hn'
  have Fb : Fr base L h m := ⟨F.ns, fun b o q => F.keep b o (K.stays b o q), Nat.le_trans hz F.above⟩
  refine wpAny_looks_onW (Around.frames_deeper K.stack) rfl hfl fun h₄ hheld₄ hsm₄ => ?_
  refine wpAny_landsW hheld₄ fun h₅ hheld hsm₅' => ?_
  have up := hsm₄.trans hsm₅'
  have low := flyingW_base hB hheld
  have F₅ := Fb.of_stays low.1 (hsm.trans up)
  obtain ⟨ob, hob, hobc⟩ := low.there
  refine wpAny_handleBy_builtin (X := X) (T := T') (b := true) hexc hnt hsub (ld_builtin_at F₅ T.g (T.free x h1 h2 h3 h4 h4c) T.b ((T.builtins x hn).trans hv) ⟨rfl, ⟨ob, hob, hobc⟩, ?_⟩ hk hx hd)
  refine lands_againW hheld fun h₆ hfl₆ hsm₆ => ?_
  have up₆ := (hsm.trans up).trans hsm₆
  exact wpAny_passesOwnAt hE (k h₆ (Fb.of_stays (flyingW_base hB hfl₆).1 up₆) (fun q hq => ⟨hfl₆.1 _ _ (hl q hq).1, (fun z => by have := (hl q hq).1; rw [z, hL] at this; cases this), (hl q hq).2⟩) up₆)
end
end

-- Varint
theorem words17 : True := by
  k_with_none
  (k_with "MINE enter" => (refine' enter0 ?k1 ?k2 ?k3 ?k5 ?kA ?kF ?kK ?k6 ?k7 ?k8 ?k9 ?kB ?_ ?c2 ?c3 ?c4 ?c5; (case kA => exact rfl); (case kF => exact rfl); (case kK => assumption); (case k1 => k_asm); (case k2 => k_asm); (case k3 => k_asm); (case k5 => k_asm); (case k6 => k_is); (case k7 => k_is); (case k8 => ktr_room); (case k9 => exact BindsTo.of_eq rfl); (case c5 => decide); (case kB => exact locs rfl); (case c2 => exact rfl); (case c3 => exact rfl); (case c4 => exact rfl); k_whole; intro L' h' F' N' B' X' T'; (try dsimp only); (try k_fold)))
  (k_with "MINE open" => (
    unfold Spec
    intro dp un gd cn cs a ccd cl outer A₀ base h₀ L m s Q E B F X T hk hdp hu hpre hret
    revert X
    k_fill
    intro X
    refine wpAny_call ?_
    k_dflt (walk_at "MINE enter")
    clear F X T B))
  (k_with "MINE fin" => ((rename Back _ _ _ => hb9); (have hb8 := @Back.fin _ _ _ hb9); refine hb8 (by assumption) ?_))
  (k_with "MINE enterS" => (refine' enterS ?k1 ?k2 ?k3 ?k5 ?kA ?kF ?kK ?k6 ?k7 ?k8 ?kV ?kP ?kG ?kB ?_ ?c2 ?c3 ?c4 ?c5; (case kA => exact rfl); (case kF => exact rfl); (case kK => assumption); (case k1 => k_asm); (case k2 => k_asm); (case k3 => k_asm); (case k5 => k_asm); (case k6 => k_is); (case k7 => k_is); (case k8 => ktr_room); (case kV => kl_lit); (case kP => exact rfl); (case kG => exact fun _ => rfl); (case kB => exact fun _ => locs rfl); (case c5 => decide); (case c2 => exact rfl); (case c3 => exact rfl); (case c4 => exact rfl); k_whole; intro D' L' h' F' N' B' X' T'; (try dsimp only); (try k_fold)))
  (k_with "MINE openS" => (
    unfold Spec
    intro dp un gd cn cs a ccd cl outer A₀ base h₀ L m s Q E B F X T hk hdp hu hpre hret
    revert X
    k_fill
    intro X
    refine wpAny_call ?_
    k_dflt (walk_at "MINE enterS")
    clear F X T B))
  (k_with "MINE enterK" => (refine' enter0 ?k1 ?k2 ?k3 ?k5 ?kA ?kF ?kK ?k6 ?k7 ?k8 ?k9 ?kB ?_ ?c2 ?c3 ?c4 ?c5; (case kA => exact rfl); (case kF => exact rfl); (case kK => assumption); (case k1 => k_asm); (case k2 => k_asm); (case k3 => k_asm); (case k5 => k_asm); (case k6 => k_is); (case k7 => k_is); (case k8 => ktr_room); (case k9 => (refine kp_binds (by exact Frag.In.keeps (by assumption) (Fr.keep (by assumption))) (by exact fun _ => rfl))); (case c5 => decide); (case kB => exact locs rfl); (case c2 => exact rfl); (case c3 => exact rfl); (case c4 => exact rfl); k_whole; intro L' h' F' N' B' X' T'; (try dsimp only); (try k_fold)))
  (k_with "MINE openK" => (
    unfold SpecKw
    intro dp un gd cn cs a ccd cl outer A₀ base h₀ L m s Q E B F X T hk hdp hu hpre hret
    revert X
    k_fill
    intro X
    refine wpAny_call ?_
    k_dflt (walk_at "MINE enterK")
    clear F X T B))
  (k_with "MINE openD" => (
    unfold Spec
    intro dp un gd cn cs a ccd cl outer A₀ base h₀ L m s Q E B F X T hk hdp hu hpre hret
    revert X
    k_fill
    intro X
    refine wpAny_call ?_
    k_dflt (walk_at "MINE enterK")
    clear F X T B))
  (k_with "exec For Name Call cons nil" => (k_here; (with_reducible show wpAny _ _ (exec (Stmt.For (Expr.Name _ _) (Expr.Call _ _ _ _) _ [] _) _) _ _ _); (rename Fr _ _ _ _ => lF9); (with_unfolding_all refine For_mine lF9 (by exact rfl) (by exact rfl) ?_; k_whole)))
  (k_with "exec For Name Name cons nil" => (k_here; (with_reducible show wpAny _ _ (exec (Stmt.For (Expr.Name _ _) (Expr.Name _ _) _ [] _) _) _ _ _); (rename Fr _ _ _ _ => lF9); (with_unfolding_all refine For_mine lF9 (by exact rfl) (by exact rfl) ?_; k_whole)))
  (k_with "call builtin:iter" => (k_here; (with_reducible show wpAny _ _ (call (Value.builtin "iter") [Value.ref _]) _ _ _); k_dflt (refine iter_list (by k_asm) (by k_asm) (by first | exact Keeps.list (Fr.keep (by assumption)) (by assumption) | exact Keeps.list (Fr.keep (by assumption)) (Keeps.list (Fr.keep (by assumption)) (by assumption))) ?_; k_whole); intro D' h' F' N' l1; (try k_lt l1)))
  (k_with "call builtin:next" => (k_here; (with_reducible show wpAny _ _ (call (Value.builtin "next") [Value.ref _]) _ _ _); k_dflt (first
    | (refine next_item (by k_asm) (by k_asm) (by k_upd) (by first | exact Keeps.list (Fr.keep (by assumption)) (by assumption) | exact Keeps.list (Fr.keep (by assumption)) (Keeps.list (Fr.keep (by assumption)) (by assumption))) (by assumption) ?_; k_whole; intro h' F' N')
    | (refine next_end (by with_unfolding_all rfl) (by k_asm) (by k_asm) (by k_upd) (by first | exact Keeps.list (Fr.keep (by assumption)) (by assumption) | exact Keeps.list (Fr.keep (by assumption)) (Keeps.list (Fr.keep (by assumption)) (by assumption))) (by assumption) ?_; k_whole; intro h1' h' e' F' N' hx'))))
  (k_with "call ref" => (k_here; (with_reducible show wpAny _ _ (call (Value.ref 28) [Value.ref _]) _ _ _); refine wpAny_call ?_; k_dflt (refine' code_def ?k1 ?k2 ?k3 ?k4 ?k5 ?kA ?kF ?kK ?k6 ?k7 ?k8 ?k9 ?kB ?_ ?c2 ?c3 ?c4 ?c5; (case kA => exact rfl); (case kF => exact rfl); (case kK => first | exact rfl | assumption); (case k1 => k_asm); (case k2 => k_asm); (case k3 => k_asm); (case k4 => k_asm); (case k5 => k_asm); (case k6 => k_is); (case k7 => k_is); (case k8 => ktr_room); (case k9 => exact BindsTo.of_eq rfl); (case c5 => decide); (case kB => exact locs rfl); (case c2 => exact rfl); (case c3 => exact rfl); (case c4 => exact rfl); k_whole; intro g' L' h' FG' F' N' B' X' T'; (try dsimp only); (try k_fold))))
  (k_with "call builtin:list.append" => (k_here; (with_reducible show wpAny _ _ (call (Value.builtin _) [Value.ref _, _]) _ _ _); k_dflt (refine append_K (by k_asm) (by k_asm) (by k_upd) ?_ (by (simp only [List.size_toArray, List.length_append, List.length_cons, List.length_nil, PySem.sizeLine_eq]; omega)); k_whole); intro h' F' N'))
  (k_with "exec" => (k_here; (with_reducible show wpAny _ _ (exec (Stmt.While (Expr.BinOp _ _ _ _) _ _ _) _) _ _ _); k_dflt (refine whl_start 100 ?_)))
  (k_with "WhlIf" => (first | refine WhlIf.yes (by assumption) ?_ | refine WhlIf.no (by assumption) ?_))
  (k_with "noteFrame ref" => (k_here; (with_reducible show wpAny _ _ (noteFrame _ _) (fun _ s₂ => wpAny _ _ (setFlight _ none) (fun _ s₃ => wpAny _ _ (handleBy _ _ (ExceptHandler.ExceptHandler (some (Expr.Name ("StopIteration" : Str) _)) none _ _ :: _)) _ _ s₃) _ s₂) _ _); k_dflt (refine caughtX (p := hd.view_39) (loose := Ls) (T' := "StopIteration") (by assumption) (Nat.le_of_eq (hideAll_size _ _)) (by assumption) (by assumption) (by assumption) (by first | exact topRead_of (by assumption) | exact topRead_of (mean := mean) (by assumption)) PyProof.Rows.Boot.«StopIteration» owsi_raise.isExc notTuple_Stop (by rw [isSubtype_type]; kernel_rfl) ?_; k_whole); intro h' F' N' U'))
  (k_with "inplaceOp LShift int int" => (k_here; k_dflt (refine ilshift_int_small (by decide) (by decide) (by assumption) ?_; k_whole)))
  exact True.intro

section
open PySem PySem.W PyProof.Rows PySem.Calls PySem.Spec
theorem notTuple_Stop : isSubtype (.type ((Manifest.find? "StopIteration").elim "type" fun x => x.metatype)) (.type "tuple") = pure false := by
  rw [show ((Manifest.find? "StopIteration").elim "type" fun x => x.metatype) = "type" from by kernel_rfl, isSubtype_type]; kernel_rfl

theorem band63 (a : Int) (h0 : 0 ≤ a) (h1 : a < 128) : Builtin.bitAnd a 63 = a % 64 := by
  obtain ⟨k, rfl⟩ := Int.eq_ofNat_of_zero_le h0
  have h : ∀ k : Fin 128, Builtin.bitAnd (k.val : Int) 63 = (k.val : Int) % 64 := by decide +kernel
  exact h ⟨k, by omega⟩
theorem band64 (a : Int) (h0 : 0 ≤ a) (h1 : a < 128) : Builtin.bitAnd a 64 = a / 64 * 64 := by
  obtain ⟨k, rfl⟩ := Int.eq_ofNat_of_zero_le h0
  have h : ∀ k : Fin 128, Builtin.bitAnd (k.val : Int) 64 = (k.val : Int) / 64 * 64 := by decide +kernel
  exact h ⟨k, by omega⟩
theorem bor6 (a b : Int) (h0 : 0 ≤ a) (h1 : a < 64) (h2 : 0 ≤ b) (h3 : b < 64) : Builtin.bitOr (a * 64) b = a * 64 + b := by
  obtain ⟨k, rfl⟩ := Int.eq_ofNat_of_zero_le h0
  obtain ⟨n, rfl⟩ := Int.eq_ofNat_of_zero_le h2
  have h : ∀ k : Fin 64, ∀ n : Fin 64, Builtin.bitOr ((k.val : Int) * 64) (n.val : Int) = (k.val : Int) * 64 + (n.val : Int) := by decide +kernel
  exact h ⟨k, by omega⟩ ⟨n, by omega⟩
theorem shA (a : Int) (h0 : 0 ≤ a) (h1 : a < 128) : (Builtin.bitAnd a 63).natAbs < 2 ^ 64 := by
  rw [band63 a h0 h1]; omega
noncomputable def readAll : List Int → List Int
  | [] => []
  | a :: r => if a < 64 then a :: readAll r else match r with
    | [] => []
    | b :: r' => ((a - 64) * 64 + b) :: readAll r'

theorem readAll_lt {a : Int} {r : List Int} (h : a < 64) : readAll (a :: r) = a :: readAll r := by cases r <;> simp [readAll, h]
theorem readAll_one {a : Int} (h : ¬a < 64) : readAll [a] = [] := by simp [readAll, h]
theorem readAll_ge {a b : Int} {r : List Int} (h : ¬a < 64) : readAll (a :: b :: r) = ((a - 64) * 64 + b) :: readAll r := by simp [readAll, h]
theorem drop2 {ns : List Int} {j : Nat} {a b : Int} (ha : ns[j]? = some a) (hb : ns[j + 1]? = some b) : ns.drop j = a :: b :: ns.drop (j + 1 + 1) := by
  obtain ⟨h1, e1⟩ := List.getElem?_eq_some_iff.mp ha
  obtain ⟨h2, e2⟩ := List.getElem?_eq_some_iff.mp hb
  rw [List.drop_eq_getElem_cons h1, List.drop_eq_getElem_cons h2, e1, e2]
theorem bor7 (a b : Int) (h0 : 0 ≤ a) (h1 : a < 64) (h2 : 0 ≤ b) (h3 : b < 64) : Builtin.bitOr (a * 2 ^ (6 : Int).toNat) b = a * 64 + b := bor6 a b h0 h1 h2 h3
set_option maxHeartbeats 8000000 in
theorem numbers_spec (w : World) (mean : ExcName → Option Value) (mg mb : Str → Option Value) (l : Addr) (vs : List Value) (ns : List Int) : SpecX w mean mg mb 236 20 300 [.ref l] (fun h => h.IsList l vs.toArray ∧ IntsAre vs ns ∧ ns.length ≤ 40 ∧ (∀ x ∈ ns, 0 ≤ x ∧ x < 128) ∧ ∀ (j : Nat) (a b : Int), ns[j]? = some a → 64 ≤ a → ns[j + 1]? = some b → b < 64)
   (fun h r h' => ∃ a ys k, r = .ref a ∧ h'.get? a = some (W.listOf ys.toArray k) ∧ h.get? a = none ∧ IntsAre ys (readAll ns)) := by
  unfold SpecX
  intro dp un gd cn cs a ccd cl A₀ h₀ L m s Q E B F X T hk hdp hu hp9 hret
  obtain ⟨hl, hi, hb, hr, hw⟩ := hp9
  revert X
  k_fill
  intro X
  refine wpAny_call ?_
  k_dflt (walk_at "MINE enter")
  rename Below _ _ _ s.heap => B9
  have BH := hideB B9 (L := L) rfl
  have XH := X.keeps (hideK F)
  have TH := T.keeps (hideK F)
  clear X T B B9
  have hvl := hi.length
  k_steps
  refine Stop.go (for_range (n := ns.length + 1) rfl (by assumption) ?sm ?sz [] (fun i kvs nx => ∃ D it ys nums k j, kvs = [(Str.ofString "numbers", .ref D), (Str.ofString "source", .ref it)] ∧ nx = [(D, W.listOf ys.toArray k), (it, itObj l j)] ∧ D ≠ it ∧ s.heap.get? D = none ∧ IntsAre ys nums ∧ nums ++ readAll (ns.drop j) = readAll ns ∧ i ≤ j ∧ j ≤ ns.length ∧ ys.length ≤ j) (by assumption) (by assumption) [(Str.ofString "numbers", .ref ?dd), (Str.ofString "source", .ref ?ii)] _ ?k0 (fun _ h => h) ?h0 ?tn ?dn)
  case k0 => exact List.forall_mem_cons.mpr ⟨by with_unfolding_all exact rfl, List.forall_mem_cons.mpr ⟨by with_unfolding_all exact rfl, fun _ h => nomatch h⟩⟩
  case h0 => exact ⟨_, _, [], [], 0, 0, rfl, rfl, by refine neN ?_; omega, ((by assumption : News s.heap _ _ _) _ (.head _)).2.2, .nil, rfl, Nat.le_refl _, Nat.zero_le _, Nat.le_refl _⟩
  case sm => exact small1 _ (ns.length + 1) (by rw [← hvl]; rfl) (by omega)
  case sz => exact size1 _ (ns.length + 1) (by rw [← hvl]; rfl)
  case tn =>
    intro i t9 kvs nx u9 I oI h9 tk9 hi9 hv9 ho9 hI9 F9 N9
    obtain ⟨D, it, ys, nums, k9, j, rfl, rfl, hDi, hDn, hy9, hread, hij, hjn, hyj⟩ := hv9
    have hDi' := neN hDi
    have hyl := hy9.length
    have hz : ys.length ≤ 40 := by omega
    have ho8 := ho9
    simp only [frm] at F9
    have hne := off1 ho9
    simp only [LCg.Off1, and_true] at hne
    cases hj : ns[j]? with
    | none =>
      have hx : vs.toArray[j]? = none := by
        rw [List.getElem?_toArray]
        exact List.getElem?_eq_none (by have := List.getElem?_eq_none_iff.mp hj; omega)
      k_steps
      rename Fr (hideAll s.heap [L]) _ _ _ => F7
      rename News (hideAll s.heap [L]) _ _ _ => N7
      rename Heap.UpToSlots _ _ => U7
      have up7 : s.heap.UpToSlots _ := Heap.UpToSlots.trans (Heap.UpToSlots.of_keeps (Fr.keep (by assumption))) U7
      refine hret _ _ _ (F.of_stays (fun b o e => F7.keep b o (hideK F b o e)) up7) (hideUp F7.keep) ⟨D, ys, k9, rfl, (N7 _ (List.mem_cons_of_mem _ (.head _))).1, hDn, ?_⟩
      have hdr : ns.drop j = [] := List.drop_eq_nil_of_le (List.getElem?_eq_none_iff.mp hj)
      rw [hdr] at hread
      simp only [readAll, List.append_nil] at hread
      rw [← hread]
      exact hy9
    | some a =>
      have hra := hr a (List.mem_of_getElem? hj)
      obtain ⟨ta, hxa⟩ := hi.get j a hj
      have hx : vs.toArray[j]? = some (.int a ta) := by rw [List.getElem?_toArray]; exact hxa
      have hjl := (List.getElem?_eq_some_iff.mp hj).1
      have hsh := shA a hra.1 hra.2
      by_cases ha : a < 64
      · have hand : (Builtin.bitAnd a 64 != 0) = false := by rw [band64 a hra.1 hra.2, show a / 64 = 0 by omega]; decide
        k_steps
        simp only [List.push_toArray] at *
        refine FTurn.mk (by assumption) (by assumption) [(Str.ofString "numbers", .ref D), (Str.ofString "source", .ref it)] [(D, W.listOf (ys ++ [Value.int (Builtin.bitAnd a 63) ?ta]).toArray (k9 + 1)), (it, itObj l (j + 1))] ?hsa ?hoa ?h1a ?h2a ⟨D, it, ys ++ [Value.int (Builtin.bitAnd a 63) ?ta], nums ++ [Builtin.bitAnd a 63], k9 + 1, j + 1, rfl, rfl, hDi, hDn, hy9.append (.cons _ _ .nil), ?hra, by omega, by omega, by rw [List.length_append]; simp only [List.length_cons, List.length_nil]; omega⟩
        case hsa => lcg_sub
        case hoa => exact List.forall_mem_cons.mpr ⟨neN hne.1, List.forall_mem_cons.mpr ⟨neN hne.2, fun _ h => nomatch h⟩⟩
        case h1a => exact List.forall_mem_cons.mpr ⟨by with_unfolding_all exact rfl, List.forall_mem_cons.mpr ⟨by with_unfolding_all exact rfl, fun _ h => nomatch h⟩⟩
        case h2a =>
          intro z hz ht
          simp only [List.map_cons, List.map_nil, List.contains_cons, List.contains_nil, Bool.or_false, Bool.or_eq_false_iff, beq_eq_false_iff_ne, ne_eq] at hz ht
          simp [hz, ht]
        case hra => rw [← hread, List.drop_eq_getElem_cons hjl, (List.getElem?_eq_some_iff.mp hj).2, readAll_lt ha, band63 a hra.1 hra.2, show a % 64 = a by omega, List.append_assoc]; rfl
      · have hand : (Builtin.bitAnd a 64 != 0) = true := by rw [band64 a hra.1 hra.2, show a / 64 = 1 by omega]; decide
        cases hj2 : ns[j + 1]? with
        | none =>
          have hx2 : vs.toArray[j + 1]? = none := by
            rw [List.getElem?_toArray]
            exact List.getElem?_eq_none (by have := List.getElem?_eq_none_iff.mp hj2; omega)
          k_steps
          rename Fr (hideAll s.heap [L]) _ _ _ => F7
          rename News (hideAll s.heap [L]) _ _ _ => N7
          rename Heap.UpToSlots _ _ => U7
          have up7 : s.heap.UpToSlots _ := Heap.UpToSlots.trans (Heap.UpToSlots.of_keeps (Fr.keep (by assumption))) U7
          refine hret _ _ _ (F.of_stays (fun b o e => F7.keep b o (hideK F b o e)) up7) (hideUp F7.keep) ⟨D, ys, k9, rfl, (N7 _ (List.mem_cons_of_mem _ (.head _))).1, hDn, ?_⟩
          have hdr : ns.drop (j + 1) = [] := List.drop_eq_nil_of_le (List.getElem?_eq_none_iff.mp hj2)
          rw [List.drop_eq_getElem_cons hjl, (List.getElem?_eq_some_iff.mp hj).2, hdr, readAll_one (by omega), List.append_nil] at hread
          rw [← hread]
          exact hy9
        | some b =>
          have hrb := hr b (List.mem_of_getElem? hj2)
          have hlb := hw j a b hj (by omega) hj2
          have hjl2 := (List.getElem?_eq_some_iff.mp hj2).1
          obtain ⟨tb, hxb⟩ := hi.get (j + 1) b hj2
          have hx2 : vs.toArray[j + 1]? = some (.int b tb) := by rw [List.getElem?_toArray]; exact hxb
          have hand2 : (Builtin.bitAnd b 64 != 0) = false := by rw [band64 b hrb.1 hrb.2, show b / 64 = 0 by omega]; decide
          k_steps
          simp only [List.push_toArray] at *
          refine FTurn.mk (by assumption) (by assumption) [(Str.ofString "numbers", .ref D), (Str.ofString "source", .ref it)] [(D, W.listOf (ys ++ [Value.int (Builtin.bitOr (Builtin.bitAnd a 63 * 2 ^ (6 : Int).toNat) (Builtin.bitAnd b 63)) ?tb]).toArray (k9 + 1)), (it, itObj l (j + 1 + 1))] ?hsb ?hob ?h1b ?h2b ⟨D, it, ys ++ [Value.int (Builtin.bitOr (Builtin.bitAnd a 63 * 2 ^ (6 : Int).toNat) (Builtin.bitAnd b 63)) ?tb], nums ++ [Builtin.bitOr (Builtin.bitAnd a 63 * 2 ^ (6 : Int).toNat) (Builtin.bitAnd b 63)], k9 + 1, j + 1 + 1, rfl, rfl, hDi, hDn, hy9.append (.cons _ _ .nil), ?hrb, by omega, by omega, by rw [List.length_append]; simp only [List.length_cons, List.length_nil]; omega⟩
          case hsb => lcg_sub
          case hob => exact List.forall_mem_cons.mpr ⟨neN hne.1, List.forall_mem_cons.mpr ⟨neN hne.2, fun _ h => nomatch h⟩⟩
          case h1b => exact List.forall_mem_cons.mpr ⟨by with_unfolding_all exact rfl, List.forall_mem_cons.mpr ⟨by with_unfolding_all exact rfl, fun _ h => nomatch h⟩⟩
          case h2b =>
            intro z hz ht
            simp only [List.map_cons, List.map_nil, List.contains_cons, List.contains_nil, Bool.or_false, Bool.or_eq_false_iff, beq_eq_false_iff_ne, ne_eq] at hz ht
            simp [hz, ht]
          case hrb => rw [← hread, drop2 hj hj2, readAll_ge (by omega), band63 a hra.1 hra.2, band63 b hrb.1 hrb.2, bor7 _ _ (by omega) (by omega) (by omega) (by omega), show a % 64 = a - 64 by omega, show b % 64 = b by omega, List.append_assoc]; rfl
  case dn =>
    intro kvs nx u9 h9 tk9 hv9 F9 N9
    obtain ⟨D, it, ys, nums, k9, j, rfl, rfl, hDi, hDn, hy9, hread, hij, hjn, hyj⟩ := hv9
    omega
end

-- Comp

section
open PySem PySem.W PyProof.Rows PySem.Calls PySem.Spec
/-- the end of a comprehension's turn: what was there, with what its ledger is now -/
noncomputable def CTurn (h₀ : Heap) (L : Addr) (m : Str → Option Value) (s₁ : Shared) (I : Addr) (oI : Obj) (C : Addr) (oC : Obj) (D : Addr) (oD : Obj) (Inv' : Value → List (Addr × Obj) → Prop) (y : Value) (s₂ : Shared) : Prop :=
  ∃ h' tk nx all, s₂ = { s₁ with heap := h', toks := tk } ∧ Fr h₀ L h' m ∧ News h₀ L h' all ∧ (∀ p ∈ (I, oI) :: (C, oC) :: (D, oD) :: nx, p ∈ all) ∧ LCg.Off3 I C D nx ∧ Inv' y nx
theorem CTurn.mk {h₀ : Heap} {L I C D : Addr} {m : Str → Option Value} {s₁ : Shared} {oI oC oD : Obj} {Inv' : Value → List (Addr × Obj) → Prop} {y : Value} {h' : Heap} {tk : Nat} {all : List (Addr × Obj)}
    (F : Fr h₀ L h' m) (N : News h₀ L h' all) (nx : List (Addr × Obj)) (sub : ∀ p ∈ (I, oI) :: (C, oC) :: (D, oD) :: nx, p ∈ all) (off : LCg.Off3 I C D nx) (r : Inv' y nx) :
    CTurn h₀ L m s₁ I oI C oC D oD Inv' y { s₁ with heap := h', toks := tk } := ⟨h', tk, nx, all, rfl, F, N, sub, off, r⟩
noncomputable def CSkip (h₀ : Heap) (L : Addr) (m : Str → Option Value) (s₁ : Shared) (I : Addr) (oI : Obj) (C : Addr) (oC : Obj) (D : Addr) (oD : Obj) (Inv' : List (Addr × Obj) → Prop) (s₂ : Shared) : Prop :=
  CTurn h₀ L m s₁ I oI C oC D oD (fun _ => Inv') .none s₂
theorem CSkip.mk {h₀ : Heap} {L I C D : Addr} {m : Str → Option Value} {s₁ : Shared} {oI oC oD : Obj} {Inv' : List (Addr × Obj) → Prop} {h' : Heap} {tk : Nat} {all : List (Addr × Obj)}
    (F : Fr h₀ L h' m) (N : News h₀ L h' all) (nx : List (Addr × Obj)) (sub : ∀ p ∈ (I, oI) :: (C, oC) :: (D, oD) :: nx, p ∈ all) (off : LCg.Off3 I C D nx) (r : Inv' nx) :
    CSkip h₀ L m s₁ I oI C oC D oD Inv' { s₁ with heap := h', toks := tk } := ⟨h', tk, nx, all, rfl, F, N, sub, off, r⟩
structure CDone (h₀ : Heap) (L : Addr) (m : Str → Option Value) (h : Heap) (D C : Addr) (m' : Str → Option Value) (ys : List Value) (nx : List (Addr × Obj)) : Prop where
  F : Fr h₀ L h m
  N : News h₀ L h ((D, LCg.lst ys) :: nx)
  o : LCg.Off1 D nx
  n : h.Ns C m'
  C₀ : h₀.get? C = none
  CL : C ≠ L
  CD : C ≠ D
  offC : ∀ p ∈ nx, p.1 ≠ C
theorem off1m {D : Addr} : ∀ {l : List (Addr × Obj)}, LCg.Off1 D l → ∀ p ∈ l, p.1 ≠ D
  | [], _, _, h => nomatch h
  | _ :: _, x, p, h => by
    rcases List.mem_cons.mp h with rfl | h
    · exact x.1
    · exact off1m x.2 p h
theorem whlT {T F : Prop} (h : WhlIf true T F) : T := by
  unfold WhlIf at h
  rw [if_pos rfl] at h
  exact h
theorem whlF {T F : Prop} (h : WhlIf false T F) : F := by
  unfold WhlIf at h
  rw [if_neg Bool.false_ne_true] at h
  exact h
noncomputable abbrev tests (prog : Program) (w : World) (A : Around) (ifs : List Expr) (cenv : Env) : Sem Bool := forIn ifs true fun c r => if r = true then do let ok ← isTrue c cenv (eval c cenv); pure (ForInStep.yield ok) else pure (ForInStep.yield r)

section
variable {prog : Program} {w : World} {A : Around} {E : Value → Shared → Prop} {s : Shared} {h₀ : Heap} {L : Addr} {m : Str → Option Value} {env : Env} {elt iter : Expr} {x : Str} {px : Pos} {ifs : List Expr} {scope : Scope} {cl : List (Str × Addr)} {pos : Pos} {RR : Value → Addr → Result → Shared → Prop}

noncomputable def CompAt (prog : Program) (w : World) (A : Around) (env : Env) (elt iter : Expr) (x : Str) (px : Pos) (ifs : List Expr) (scope : Scope) (pos : Pos) (cl : List (Str × Addr)) (E : Value → Shared → Prop) (RR : Value → Addr → Result → Shared → Prop) (it : Value) (s₂ : Shared) : Prop :=
  wpAny (model prog w) A (newList []) (fun acc s₃ => wpAny (model prog w) A (newFunctionEnv scope env.globals cl [] env.qual none .none (some env)) (fun cenv s₄ =>
      codeAny (model prog w) A (.compStart (.ListComp elt [⟨.Name x px, iter, ifs, 0⟩] scope pos) 0 it acc { cenv with scope := relabel scope env }) (RR acc cenv.locals) s₄) E s₃) E s₂

theorem comp_any {I : Addr} {fp : List Addr} {n : Nat} {P : Nat → Value → Prop} {St : Nat → Heap → Prop} {news : List (Addr × Obj)} (W : Walks prog w A I fp [I] n P St) (hsz : n ≤ sizeLine) (Inv : Nat → List Value → List (Addr × Obj) → Prop)
    (hylen : ∀ i ys nx, Inv i ys nx → ys.length ≤ i)
    (hfp : ∀ b ∈ fp, b = I ∨ (∃ o, h₀.get? b = some o) ∨ (∃ o, ∀ i ys nx, Inv i ys nx → (b, o) ∈ nx)) (hfs : ∀ b ∈ fp, b < s.heap.objs.size)
    (hex : ∀ i h, St i h → ∃ o, h.get? I = some o) (hcell : ∀ y ∈ scope.names, y.2 ≠ .cell) (hkind : scope.kind = .function) (hx : scope.names.lookup x = some .local) (hst : St 0 s.heap)
    (F : Fr h₀ L s.heap m) (N : News h₀ L s.heap news) (hIL : L ≠ I) (hI : h₀.get? I = none) (nx₀ : List (Addr × Obj)) (hn₀ : ∀ p ∈ nx₀, p ∈ news) (ho₀ : ∀ p ∈ nx₀, p.1 ≠ I) (h0 : Inv 0 [] nx₀)
    (turn : ∀ i v ys nx oI C oC D m₂ h tk (E' : Value → Shared → Prop), i < n → P i v → Inv i ys nx → LCg.NsObj oC m₂ → m₂ x = some v → Fr h₀ L h m → News h₀ L h ((I, oI) :: (C, oC) :: (D, LCg.lst ys) :: nx) → LCg.Off3 I C D nx → ((@Ne Nat I C) ∧ (@Ne Nat I D) ∧ (@Ne Nat C D)) →
      wpAny (model prog w) A (tests prog w A ifs (compEnvC scope cl C env)) (fun ok s₂ => WhlIf ok
        (wpAny (model prog w) A (eval elt (compEnvC scope cl C env)) (CTurn h₀ L m { s with heap := h, toks := tk } I oI C oC D (LCg.lst ys) (fun y nx => Inv (i + 1) (ys ++ [y]) nx)) E' s₂)
        (CSkip h₀ L m { s with heap := h, toks := tk } I oI C oC D (LCg.lst ys) (fun nx => Inv (i + 1) ys nx) s₂)) E' { s with heap := h, toks := tk })
    (done : ∀ D C h tk m' ys nx, CDone h₀ L m h D C m' ys nx → Inv n ys nx → RR (.ref D) C (.ok .next) { s with heap := h, toks := tk }) :
    CompAt prog w A env elt iter x px ifs scope pos cl E RR (.ref I) s := by
  refine wpAny_newObj_type (wpAny_newFunctionEnv hcell (by intro y hy; simp at hy) (fun h₁ hns₁ hsb₁ => ?_) hkind)
  dsimp only at hns₁ hsb₁ ⊢
  generalize hH2 : s.heap.push { cls := .type "list", dict := none, data := .seq ([] : List Value).toArray } = H2 at hns₁ hsb₁ ⊢
  have hC : H2.objs.size = s.heap.objs.size + 1 := by rw [← hH2, Heap.size_push]
  have hDC : s.heap.objs.size ≠ H2.objs.size := by rw [hC]; exact Nat.ne_of_lt (Nat.lt_succ_self _)
  have below : ∀ b, b < s.heap.objs.size → b ≠ H2.objs.size ∧ b ≠ s.heap.objs.size := fun b hb => ⟨by rw [hC]; exact Nat.ne_of_lt (Nat.lt_succ_of_lt hb), Nat.ne_of_lt hb⟩
  have hIlt : I < s.heap.objs.size := hfs I (W.sub I (List.mem_singleton.mpr rfl))
  have old : ∀ b o, s.heap.get? b = some o → h₁.get? b = some o := fun b o e => hsb₁.extBut b o (below b (Heap.lt_size e)).1 (Heap.get?_push_of_some _ (hH2 ▸ Heap.get?_push_of_some _ e))
  have hacc : h₁.get? s.heap.objs.size = some (LCg.lst []) := hsb₁.extBut _ _ hDC (Heap.get?_push_of_some _ (hH2 ▸ Heap.get?_push_size _ rfl))
  have fresh : ∀ a, s.heap.objs.size ≤ a → h₀.get? a = none := fun a ha => by
    cases e : h₀.get? a with
    | none => rfl
    | some o' => exact absurd (Heap.lt_size (F.keep a o' e)) (Nat.not_lt.mpr ha)
  have hD₀ : h₀.get? s.heap.objs.size = none := fresh _ (Nat.le_refl _)
  have hC₀ : h₀.get? H2.objs.size = none := fresh _ (by rw [hC]; exact Nat.le_succ _)
  have hLlt : L < s.heap.objs.size := F.ns.lt
  have hDL : s.heap.objs.size ≠ L := Ne.symm (below L hLlt).2
  have hCL : H2.objs.size ≠ L := Ne.symm (below L hLlt).1
  have hIC : I ≠ H2.objs.size := (below I hIlt).1
  have hID : I ≠ s.heap.objs.size := (below I hIlt).2
  have offs : LCg.Off3 I H2.objs.size s.heap.objs.size nx₀ := LCg.Off3.of fun p hp => ⟨ho₀ p hp, (below _ (Heap.lt_size (N p (hn₀ p hp)).1)).1, (below _ (Heap.lt_size (N p (hn₀ p hp)).1)).2⟩
  have hCf : ∀ b ∈ fp, b ≠ H2.objs.size ∧ b ≠ s.heap.objs.size := fun b hb => below b (hfs b hb)
  have hDf : s.heap.objs.size ∉ fp := fun hm => (hCf _ hm).2 rfl
  have loop : ∀ s₃ : Shared, s₃ = { s with heap := h₁, toks := s.toks + ([] : List (Str × Value)).length } →
      codeAny (model prog w) A (.compLoop (.ListComp elt [⟨.Name x px, iter, ifs, 0⟩] scope pos) 0 (.ref I) (.ref s.heap.objs.size) (compEnvC scope cl H2.objs.size env))
        (RR (.ref s.heap.objs.size) H2.objs.size) s₃ := by
    rintro s₃ rfl
    refine codeAny_compLoop_tests
      (fun k s' => ∃ h' tk i ys m' nx, s' = { s with heap := h', toks := tk } ∧ i ≤ n ∧ k = n + 1 - i ∧ St i h' ∧ Fr h₀ L h' m ∧ h'.Ns H2.objs.size m' ∧ News h₀ L h' ((s.heap.objs.size, LCg.lst ys) :: nx) ∧
        LCg.Off3 I H2.objs.size s.heap.objs.size nx ∧ Inv i ys nx) ?_ (n + 1)
      ⟨h₁, _, 0, [], _, nx₀, rfl, Nat.zero_le _, rfl, W.frame _ _ _ hst fun b _ o e => old b o e, F.keeps old, hns₁, fun p hp => ?_, offs, h0⟩
    · rintro k s' ⟨h', tk, i, ys, m', nx, rfl, hi, rfl, hst', F', hn', N', off', hinv⟩
      by_cases hlt : i < n
      · refine W.item i _ _ _ hlt hst' fun v h₂ tk₂ hPv hst₂ hk₂ => ?_
        refine wpAny_assign_Name (wpAny_storeName_local (lookup_relabel_local hx) (hn'.at' fun o e => hk₂ _ o (by simpa using Ne.symm hIC) e) (fun h₃ hn₃ hs₃ => ?_) (by simp [compEnvC, relabel, hkind]))
        have hst₃ : St (i + 1) h₃ := W.frame _ _ _ hst₂ fun b hb o e => hs₃.extBut b o (hCf b hb).1 e
        obtain ⟨oI, heI⟩ := hex _ _ hst₃
        obtain ⟨oC, heC, hoC⟩ := LCg.ns_obj hn₃
        have F₃ : Fr h₀ L h₃ m := (LCg.fr_but F' hk₂ hIL hI).change hs₃ hCL hC₀
        have off3 := off'.mem
        have N₂ : News h₀ L h₂ ((s.heap.objs.size, LCg.lst ys) :: nx) := LCg.news_but N' hk₂ fun p hp => by
          rcases List.mem_cons.mp hp with rfl | hp
          · exact Ne.symm hID
          · exact (off3 p hp).1
        have N₃ : News h₀ L h₃ ((I, oI) :: (H2.objs.size, oC) :: (s.heap.objs.size, LCg.lst ys) :: nx) := fun p hp => by
          rcases List.mem_cons.mp hp with rfl | hp
          · exact ⟨heI, Ne.symm hIL, hI⟩
          · rcases List.mem_cons.mp hp with rfl | hp
            · exact ⟨heC, hCL, hC₀⟩
            · have z := N₂ p hp
              refine ⟨hs₃.extBut _ _ ?_ z.1, z.2⟩
              rcases List.mem_cons.mp hp with rfl | hp
              · exact hDC
              · exact (off3 p hp).2.1
        have T := turn i v ys nx oI H2.objs.size oC s.heap.objs.size _ h₃ (tk₂ + 1) (notedBy (model prog w) A (compEnvC scope cl H2.objs.size env) fun e s' => RR (.ref s.heap.objs.size) H2.objs.size (.error e) s') hlt hPv hinv hoC (by simp) F₃ N₃ off' ⟨hIC, hID, Ne.symm hDC⟩
        -- from the turn's end to the loop's next turn
        have after : ∀ (nx₄ : List (Addr × Obj)) (ys₄ : List Value) (h₄ : Heap) (all : List (Addr × Obj)), Fr h₀ L h₄ m → News h₀ L h₄ all → (∀ p ∈ (I, oI) :: (H2.objs.size, oC) :: (s.heap.objs.size, LCg.lst ys) :: nx₄, p ∈ all) → LCg.Off3 I H2.objs.size s.heap.objs.size nx₄ → Inv (i + 1) ys₄ nx₄ →
            St (i + 1) h₄ ∧ h₄.get? s.heap.objs.size = some (LCg.lst ys) ∧ h₄.Ns H2.objs.size (fun y => if y = x then some v else m' y) ∧ News h₀ L h₄ nx₄ := by
          intro nx₄ ys₄ h₄ all F₄ N₄ sub off₄ hinv₄
          have N₄' : News h₀ L h₄ ((I, oI) :: (H2.objs.size, oC) :: (s.heap.objs.size, LCg.lst ys) :: nx₄) := fun p hp => N₄ p (sub p hp)
          refine ⟨W.frame _ _ _ hst₃ fun b hb o e => ?_, (N₄' _ (.tail _ (.tail _ (.head _)))).1, hoC.ns (N₄' _ (.tail _ (.head _))).1, fun p hp => N₄' p (.tail _ (.tail _ (.tail _ hp)))⟩
          rcases hfp b hb with rfl | ⟨o', q⟩ | ⟨o', q⟩
          · rw [heI] at e
            rw [← e]
            exact (N₄' _ (.head _)).1
          · have e' := F₃.keep _ _ q
            rw [e'] at e
            rw [← e]
            exact F₄.keep _ _ q
          · have e' := (N₃ _ (.tail _ (.tail _ (.tail _ (q _ _ _ hinv))))).1
            dsimp only at e'
            rw [e'] at e
            rw [← e]
            exact (N₄' _ (.tail _ (.tail _ (.tail _ (q _ _ _ hinv₄))))).1
        refine wpAny_mono T (fun ok s₄ h₄ => ?_) fun _ _ e => e
        cases ok with
        | false =>
          have h₅ := whlF h₄
          obtain ⟨h', tk', nx₄, all, rfl, F₄, N₄, sub, off₄, hinv₄⟩ := h₅
          obtain ⟨a1, a2, a3, a4⟩ := after nx₄ ys h' all F₄ N₄ sub off₄ hinv₄
          simp only [Bool.false_eq_true, if_false]
          exact ⟨n + 1 - (i + 1), by omega, h', tk', i + 1, ys, _, nx₄, rfl, hlt, rfl, a1, F₄, a3, fun p hp => N₄ p (sub p (.tail _ (.tail _ hp))), off₄, hinv₄⟩
        | true =>
          have h₅ := whlT h₄
          simp only [if_true]
          refine wpAny_mono h₅ (fun y s₅ h₆ => ?_) fun _ _ e => e
          obtain ⟨h', tk', nx₄, all, rfl, F₄, N₄, sub, off₄, hinv₄⟩ := h₆
          obtain ⟨a1, a2, a3, a4⟩ := after nx₄ (ys ++ [y]) h' all F₄ N₄ sub off₄ hinv₄
          refine append_at (hsz := by show ys.toArray.size ≤ sizeLine; rw [List.size_toArray]; exact Nat.le_trans (hylen _ _ _ hinv) (Nat.le_trans hi hsz)) a2 fun h₅ hs₅ hD₅ => ?_
          have off4 := off₄.mem
          refine ⟨n + 1 - (i + 1), by omega, h₅, tk', i + 1, ys ++ [y], _, nx₄, rfl, hlt, rfl, W.frame _ _ _ a1 fun b hb o e => hs₅.extBut b o (hCf b hb).2 e, F₄.change hs₅ hDL hD₀, a3.sameBut hs₅ (Ne.symm hDC), fun p hp => ?_, off₄, hinv₄⟩
          rcases List.mem_cons.mp hp with rfl | hp
          · exact ⟨hD₅.trans (congrArg some (LCg.lst_snoc ys y)), hDL, hD₀⟩
          · exact ⟨hs₅.extBut _ _ (off4 p hp).2.2 (a4 p hp).1, (a4 p hp).2⟩
      · obtain rfl : i = n := Nat.le_antisymm hi (Nat.not_lt.mp hlt)
        refine W.done _ _ _ hst' fun h₂ tk₂ hk₂ => ?_
        have off3 := off'.mem
        exact done _ _ h₂ tk₂ _ ys nx ⟨LCg.fr_but F' hk₂ hIL hI, LCg.news_but N' hk₂ fun p hp => by
          rcases List.mem_cons.mp hp with rfl | hp
          · exact Ne.symm hID
          · exact (off3 p hp).1, off'.one, hn'.at' fun o e => hk₂ _ o (by simpa using Ne.symm hIC) e, hC₀, hCL, Ne.symm hDC, fun p hp => (off3 p hp).2.1⟩ hinv
    · rcases List.mem_cons.mp hp with rfl | hp
      · exact ⟨hacc, hDL, hD₀⟩
      · exact ⟨old _ _ (N p (hn₀ p hp)).1, (N p (hn₀ p hp)).2⟩
  exact codeAny_compStart_list (loop _ rfl) (W.self 0 _ _ _ (W.frame _ _ _ hst fun b _ o e => old b o e) (loop _ rfl))

theorem tests0 {cenv : Env} {E' : Value → Shared → Prop} {T G : Shared → Prop} {s₁ : Shared} (h : T s₁) : wpAny (model prog w) A (tests prog w A [] cenv) (fun ok s₂ => WhlIf ok (T s₂) (G s₂)) E' s₁ :=
  wpAny_tests_nil (WhlIf.yes rfl h)
theorem tests1 {c : Expr} {cenv : Env} {E' : Value → Shared → Prop} {T G : Shared → Prop} {s₁ : Shared} (h : wpAny (model prog w) A (isTrue c cenv (eval c cenv)) (fun ok s₂ => WhlIf ok (T s₂) (G s₂)) E' s₁) : wpAny (model prog w) A (tests prog w A [c] cenv) (fun ok s₂ => WhlIf ok (T s₂) (G s₂)) E' s₁ :=
  wpAny_tests_one h

theorem comp_list {l : Addr} {its : Array Value} {news : List (Addr × Obj)} (hh : A.handled = none) (F : Fr h₀ L s.heap m) (N : News h₀ L s.heap news) (hcell : ∀ y ∈ scope.names, y.2 ≠ .cell) (hkind : scope.kind = .function) (hx : scope.names.lookup x = some .local)
    (Inv : Nat → List Value → List (Addr × Obj) → Prop) (hsz : its.size ≤ sizeLine) (hylen : ∀ i ys nx, Inv i ys nx → ys.length ≤ i)
    (hl : h₀.IsList l its ∨ ∃ k, (l, ({ cls := .type "list", data := .seq its k } : Obj)) ∈ news ∧ ∀ i ys nx, Inv i ys nx → (l, ({ cls := .type "list", data := .seq its k } : Obj)) ∈ nx)
    (nx₀ : List (Addr × Obj)) (hn₀ : ∀ p ∈ nx₀, p ∈ news) (h0 : Inv 0 [] nx₀)
    (turn : ∀ i v ys nx I oI C oC D m₂ h tk (E' : Value → Shared → Prop), i < its.size → its[i]? = some v → Inv i ys nx → LCg.NsObj oC m₂ → m₂ x = some v → Fr h₀ L h m → News h₀ L h ((I, oI) :: (C, oC) :: (D, LCg.lst ys) :: nx) → LCg.Off3 I C D nx → ((@Ne Nat I C) ∧ (@Ne Nat I D) ∧ (@Ne Nat C D)) →
      wpAny (model prog w) A (tests prog w A ifs (compEnvC scope cl C env)) (fun ok s₂ => WhlIf ok
        (wpAny (model prog w) A (eval elt (compEnvC scope cl C env)) (CTurn h₀ L m { s with heap := h, toks := tk } I oI C oC D (LCg.lst ys) (fun y nx => Inv (i + 1) (ys ++ [y]) nx)) E' s₂)
        (CSkip h₀ L m { s with heap := h, toks := tk } I oI C oC D (LCg.lst ys) (fun nx => Inv (i + 1) ys nx) s₂)) E' { s with heap := h, toks := tk })
    (done : ∀ D C h tk m' ys nx, CDone h₀ L m h D C m' ys nx → Inv its.size ys nx → RR (.ref D) C (.ok .next) { s with heap := h, toks := tk }) :
    wpAny (model prog w) A (pyIter (.ref l)) (fun it s₂ => CompAt prog w A env elt iter x px ifs scope pos cl E RR it s₂) E s := by
  have hls : s.heap.IsList l its := by
    rcases hl with hl | ⟨k, hm, _⟩
    · exact hl.at fun o e => F.keep l o e
    · exact ⟨_, (N _ hm).1, rfl, k, rfl⟩
  obtain ⟨ol, hol, _⟩ := id hls
  have hlt : l < s.heap.objs.size := Heap.lt_size hol
  have hne : l ≠ s.heap.objs.size := Nat.ne_of_lt hlt
  refine wpAny_pyIter_list hls ?_
  have W := Walks.list (prog := prog) (w := w) hh s.heap.objs.size l hne its
  refine comp_any W hsz Inv hylen (fun b hb => ?_) (fun b hb => ?_) (fun i h st => by obtain ⟨⟨o, e, _⟩, _⟩ := st; exact ⟨o, e⟩) hcell hkind hx ⟨⟨_, Heap.get?_push_size _ rfl, rfl, rfl⟩, hls.at fun o e => Heap.get?_push_of_some _ e⟩ (F.push _)
    (fun p hp => ⟨Heap.get?_push_of_some _ (N p hp).1, (N p hp).2⟩) (Nat.ne_of_lt F.ns.lt) (next_is_new F) nx₀ hn₀ (fun p hp => Nat.ne_of_lt (Heap.lt_size (N p (hn₀ p hp)).1)) h0 (fun i v ys nx oI C oC D m₂ h tk E' => turn i v ys nx _ oI C oC D m₂ h tk E') done
  · rcases List.mem_cons.mp hb with rfl | hb
    · exact .inl rfl
    · rw [List.mem_singleton.mp hb]
      rcases hl with ⟨o, e, _⟩ | ⟨k, hm, hj⟩
      · exact .inr (.inl ⟨o, e⟩)
      · exact .inr (.inr ⟨_, hj⟩)
  · show b < (s.heap.push _).objs.size
    rw [Heap.size_push]
    rcases List.mem_cons.mp hb with rfl | hb
    · exact Nat.lt_succ_self _
    · rw [List.mem_singleton.mp hb]; exact Nat.lt_succ_of_lt hlt

theorem comp_range {r : Addr} {a b c : Int} {t u₁ v₁ : Tok} {n : Nat} {news : List (Addr × Obj)} (hh : A.handled = none) (F : Fr h₀ L s.heap m) (N : News h₀ L s.heap news) (hr : IsRange s.heap r a b c t u₁ v₁) (hcell : ∀ y ∈ scope.names, y.2 ≠ .cell) (hkind : scope.kind = .function) (hx : scope.names.lookup x = some .local)
    (hsm : Builtin.Range.small a b c = true) (hn : Builtin.Range.rangeSize a b c = ((n : Nat) : Int))
    (Inv : Nat → List Value → List (Addr × Obj) → Prop) (hsz : n ≤ sizeLine) (hylen : ∀ i ys nx, Inv i ys nx → ys.length ≤ i)
    (nx₀ : List (Addr × Obj)) (hn₀ : ∀ p ∈ nx₀, p ∈ news) (h0 : Inv 0 [] nx₀)
    (turn : ∀ i t ys nx I oI C oC D m₂ h tk (E' : Value → Shared → Prop), i < n → Inv i ys nx → LCg.NsObj oC m₂ → m₂ x = some (.int (a + (i : Nat) * c) t) → Fr h₀ L h m → News h₀ L h ((I, oI) :: (C, oC) :: (D, LCg.lst ys) :: nx) → LCg.Off3 I C D nx → ((@Ne Nat I C) ∧ (@Ne Nat I D) ∧ (@Ne Nat C D)) →
      wpAny (model prog w) A (tests prog w A ifs (compEnvC scope cl C env)) (fun ok s₂ => WhlIf ok
        (wpAny (model prog w) A (eval elt (compEnvC scope cl C env)) (CTurn h₀ L m { s with heap := h, toks := tk } I oI C oC D (LCg.lst ys) (fun y nx => Inv (i + 1) (ys ++ [y]) nx)) E' s₂)
        (CSkip h₀ L m { s with heap := h, toks := tk } I oI C oC D (LCg.lst ys) (fun nx => Inv (i + 1) ys nx) s₂)) E' { s with heap := h, toks := tk })
    (done : ∀ D C h tk m' ys nx, CDone h₀ L m h D C m' ys nx → Inv n ys nx → RR (.ref D) C (.ok .next) { s with heap := h, toks := tk }) :
    wpAny (model prog w) A (pyIter (.ref r)) (fun it s₂ => CompAt prog w A env elt iter x px ifs scope pos cl E RR it s₂) E s := by
  refine wpAny_pyIter_range hr hsm ?_
  have W := Walks.range (prog := prog) (w := w) hh s.heap.objs.size a c n
  refine comp_any W hsz Inv hylen (fun b hb => .inl (List.mem_singleton.mp hb)) (fun b hb => ?_) (fun i h st => ⟨_, st⟩) hcell hkind hx (by show IsRangeIter _ _ _ _ _; rw [hn]; simpa using Heap.get?_push_size _ rfl) (F.push _)
    (fun p hp => ⟨Heap.get?_push_of_some _ (N p hp).1, (N p hp).2⟩) (Nat.ne_of_lt F.ns.lt) (next_is_new F) nx₀ hn₀ (fun p hp => Nat.ne_of_lt (Heap.lt_size (N p (hn₀ p hp)).1)) h0 (fun i v ys nx oI C oC D m₂ h tk E' hi hP => ?_) done
  · rw [List.mem_singleton.mp hb]
    show s.heap.objs.size < (s.heap.push _).objs.size
    rw [Heap.size_push]; exact Nat.lt_succ_self _
  · obtain ⟨t', rfl⟩ := hP
    exact turn i t' ys nx _ oI C oC D m₂ h tk E' hi

theorem comp_bytes {y : Array UInt8} {t : Tok} {news : List (Addr × Obj)} (hh : A.handled = none) (F : Fr h₀ L s.heap m) (N : News h₀ L s.heap news) (hcell : ∀ y ∈ scope.names, y.2 ≠ .cell) (hkind : scope.kind = .function) (hx : scope.names.lookup x = some .local)
    (Inv : Nat → List Value → List (Addr × Obj) → Prop) (hsz : y.size ≤ sizeLine) (hylen : ∀ i ys nx, Inv i ys nx → ys.length ≤ i)
    (nx₀ : List (Addr × Obj)) (hn₀ : ∀ p ∈ nx₀, p ∈ news) (h0 : Inv 0 [] nx₀)
    (turn : ∀ i (c : UInt8) t' ys nx I oI C oC D m₂ h tk (E' : Value → Shared → Prop), i < y.size → y[i]? = some c → Inv i ys nx → LCg.NsObj oC m₂ → m₂ x = some (.int (c.toNat : Int) t') → Fr h₀ L h m → News h₀ L h ((I, oI) :: (C, oC) :: (D, LCg.lst ys) :: nx) → LCg.Off3 I C D nx → ((@Ne Nat I C) ∧ (@Ne Nat I D) ∧ (@Ne Nat C D)) →
      wpAny (model prog w) A (tests prog w A ifs (compEnvC scope cl C env)) (fun ok s₂ => WhlIf ok
        (wpAny (model prog w) A (eval elt (compEnvC scope cl C env)) (CTurn h₀ L m { s with heap := h, toks := tk } I oI C oC D (LCg.lst ys) (fun y nx => Inv (i + 1) (ys ++ [y]) nx)) E' s₂)
        (CSkip h₀ L m { s with heap := h, toks := tk } I oI C oC D (LCg.lst ys) (fun nx => Inv (i + 1) ys nx) s₂)) E' { s with heap := h, toks := tk })
    (done : ∀ D C h tk m' ys nx, CDone h₀ L m h D C m' ys nx → Inv y.size ys nx → RR (.ref D) C (.ok .next) { s with heap := h, toks := tk }) :
    wpAny (model prog w) A (pyIter (.bytes y t)) (fun it s₂ => CompAt prog w A env elt iter x px ifs scope pos cl E RR it s₂) E s := by
  refine KBw.pyIter_bytes ?_
  have W := KBw.walks (prog := prog) (w := w) hh s.heap.objs.size y t
  refine comp_any W hsz Inv hylen (fun b hb => .inl (List.mem_singleton.mp hb)) (fun b hb => ?_) (fun i h st => let ⟨o, e, _⟩ := st; ⟨o, e⟩) hcell hkind hx ⟨_, Heap.get?_push_size _ rfl, rfl, rfl⟩ (F.push _)
    (fun p hp => ⟨Heap.get?_push_of_some _ (N p hp).1, (N p hp).2⟩) (Nat.ne_of_lt F.ns.lt) (next_is_new F) nx₀ hn₀ (fun p hp => Nat.ne_of_lt (Heap.lt_size (N p (hn₀ p hp)).1)) h0 (fun i v ys nx oI C oC D m₂ h tk E' hi hP => ?_) done
  · rw [List.mem_singleton.mp hb]
    show s.heap.objs.size < (s.heap.push _).objs.size
    rw [Heap.size_push]; exact Nat.lt_succ_self _
  · obtain ⟨c, t', hc, rfl⟩ := hP
    exact turn i c t' ys nx _ oI C oC D m₂ h tk E' hi hc

theorem finE {Q : Value → Shared → Prop} {D C : Addr} {h : Heap} {tk : Nat} {m' : Str → Option Value} {ys : List Value} {nx : List (Addr × Obj)} (d : CDone h₀ L m h D C m' ys nx)
    (k : ∀ h', Fr h₀ L h' m → News h₀ L h' ((D, LCg.lst ys) :: nx) → LCg.Off1 D nx → Q (.ref D) { s with heap := h', toks := tk }) :
    compPost (model prog w) A E none Q (.ref D) C (.ok .next) { s with heap := h, toks := tk } :=
  ⟨m', d.n, fun h'' hs'' => k h'' (d.F.change hs'' d.CL d.C₀) (fun p hp => by
    refine ⟨hs''.extBut _ _ ?_ (d.N p hp).1, (d.N p hp).2⟩
    rcases List.mem_cons.mp hp with rfl | hp
    · exact Ne.symm d.CD
    · exact d.offC p hp) d.o⟩
theorem finA {Q : Flow → Shared → Prop} {y : Str} {py : Pos} {D C : Addr} {h : Heap} {tk : Nat} {m' : Str → Option Value} {ys : List Value} {nx : List (Addr × Obj)} (hy : env.kindOf y = some .local) (hp : (env.scope.kind == .class || (env.scope.kind == .module && env.locals != env.globals)) = false) (d : CDone h₀ env.locals m h D C m' ys nx)
    (k : ∀ h' tk', Fr h₀ env.locals h' (fun z => if z = y then some (.ref D) else m z) → News h₀ env.locals h' ((D, LCg.lst ys) :: nx) → LCg.Off1 D nx → Q .next { s with heap := h', toks := tk' }) :
    compPost (model prog w) A E (some (assign (.Name y py) env)) (fun _ s' => Q .next s') (.ref D) C (.ok .next) { s with heap := h, toks := tk } := by
  show wpAny _ A (assign (.Name y py) env (.ref D)) _ _ _
  refine wpAny_assign_Name (wpAny_storeName_local hy d.F.ns (fun h₂ hn₂ hs₂ => ?_) hp)
  have hL₀ : h₀.get? env.locals = none := Heap.get?_none_of_le d.F.above
  have F₂ : Fr h₀ env.locals h₂ (fun z => if z = y then some (.ref D) else m z) := ⟨hn₂, fun b o e => hs₂.extBut b o (fun q => by rw [q, hL₀] at e; cases e) (d.F.keep b o e), d.F.above⟩
  refine ⟨m', d.n.sameBut hs₂ d.CL, fun h'' hs'' => k h'' _ (F₂.change hs'' d.CL d.C₀) (fun p hp => ?_) d.o⟩
  have z : h₂.get? p.1 = some p.2 := hs₂.extBut _ _ (d.N p hp).2.1 (d.N p hp).1
  refine ⟨hs''.extBut _ _ ?_ z, (d.N p hp).2⟩
  rcases List.mem_cons.mp hp with rfl | hp
  · exact Ne.symm d.CD
  · exact d.offC p hp

/-- a comprehension of one clause, held ahead of its iterator -/
theorem Comp_mine {Q : Value → Shared → Prop} (hclos : closureFor scope env = pure cl) (hkind : scope.kind = .function) (hnames : ∀ y ∈ scope.names, y.2 = .local → scope.names.lookup y.1 = some .local)
    (h : wpAny (model prog w) A (eval iter env) (fun xv s₁ => Stop (wpAny (model prog w) A (pyIter xv) (fun it s₂ => CompAt prog w A env elt iter x px ifs scope pos cl E (compPost (model prog w) A E none Q) it s₂) E s₁)) E s)
    (hs : ∀ x, foldedSetIterable iter env x = pure x := by intro _; rfl) :
    wpAny (model prog w) A (eval (.ListComp elt [⟨.Name x px, iter, ifs, 0⟩] scope pos) env) Q E s := by
  rw [eval_ListComp]
  exact wpAny_comprehension_free (use := none) rfl hs hclos hkind hnames h
theorem CompA_mine {Q : Flow → Shared → Prop} {y : Str} {py spos : Pos} (hsw : swapsWith (.ListComp elt [⟨.Name x px, iter, ifs, 0⟩] scope pos) (some (.Name y py)) spos.line env = pure true)
    (hclos : closureFor scope env = pure cl) (hkind : scope.kind = .function) (hnames : ∀ y ∈ scope.names, y.2 = .local → scope.names.lookup y.1 = some .local)
    (h : wpAny (model prog w) A (eval iter env) (fun xv s₁ => Stop (wpAny (model prog w) A (pyIter xv) (fun it s₂ => CompAt prog w A env elt iter x px ifs scope pos cl E (compPost (model prog w) A E (some (assign (.Name y py) env)) (fun _ s' => Q .next s')) it s₂) E s₁)) E s)
    (hs : ∀ x, foldedSetIterable iter env x = pure x := by intro _; rfl) :
    wpAny (model prog w) A (exec (.Assign [.Name y py] (.ListComp elt [⟨.Name x px, iter, ifs, 0⟩] scope pos) spos) env) Q E s := by
  rw [exec_Assign_Name_used _ _ _ _ hsw]
  refine wpAny_bind (wpAny_standAt (wpAny_bind ?_))
  show wpAny _ A (do let _ ← comprehension (.ListComp elt [⟨.Name x px, iter, ifs, 0⟩] scope pos) scope env _ (newList []) false (eval iter env) (some (assign (.Name y py) env))) _ _ s
  exact wpAny_bind (wpAny_mono (wpAny_comprehension_free (use := some (assign (.Name y py) env)) (Q := fun _ s' => Q .next s') rfl hs hclos hkind hnames h) (fun _ s' hq => wpAny_pure (wpAny_pure hq)) fun _ _ e => e)
end
end

-- Comp2

section
open PySem PySem.W PyProof.Rows PySem.Calls PySem.Spec
section
variable {prog : Program} {w : World} {A : Around} {E : Value → Shared → Prop} {R : Result → Shared → Prop} {s : Shared} {elt t0 i0 t1 i1 : Expr} {scope : Scope} {pos : Pos} {it acc : Value} {env : Env}

theorem turn2o : compTurn (.ListComp elt [⟨t0, i0, [], 0⟩, ⟨t1, i1, [], 0⟩] scope pos) 0 it acc env = (standAt i0.pos >>= fun _ => pyNext it >>= fun r => match r with
      | none => pure (.done .next)
      | some v => letOwnedTupleGo t0 it v >>= fun _ => assign t0 env v >>= fun _ => eval i1 env >>= fun x => standAt i1.pos >>= fun _ => foldedSetIterable i1 env x >>= fun x =>
          holding [x] (pyIter x) >>= fun it2 => runOwn (.compStart (.ListComp elt [⟨t0, i0, [], 0⟩, ⟨t1, i1, [], 0⟩] scope pos) 1 it2 acc env) env >>= fun _ =>
          again (.compLoop (.ListComp elt [⟨t0, i0, [], 0⟩, ⟨t1, i1, [], 0⟩] scope pos) 0 it acc env)) := by rfl
theorem turn2i : compTurn (.ListComp elt [⟨t0, i0, [], 0⟩, ⟨t1, i1, [], 0⟩] scope pos) 1 it acc env = (standAt i1.pos >>= fun _ => pyNext it >>= fun r => match r with
      | none => pure (.done .next)
      | some v => letOwnedTupleGo t1 it v >>= fun _ => assign t1 env v >>= fun _ =>
        (eval elt env >>= fun x => call (.builtin "list.append") [acc, x] >>= fun _ => pure ()) >>= fun _ =>
          again (.compLoop (.ListComp elt [⟨t0, i0, [], 0⟩, ⟨t1, i1, [], 0⟩] scope pos) 1 it acc env)) := by rfl
theorem loop2i (I : Nat → Shared → Prop)
    (turn : ∀ n s, I n s → wpAny (model prog w) A (pyNext it) (fun r s₁ => match r with
      | none => R (.ok .next) s₁
      | some v => wpAny (model prog w) A (assign t1 env v) (fun _ s₂ => wpAny (model prog w) A (eval elt env) (fun x s₃ =>
          wpAny (model prog w) A (call (.builtin "list.append") [acc, x]) (fun _ s₄ => ∃ m, m < n ∧ I m s₄) (notedBy (model prog w) A env fun e s' => R (.error e) s') s₃)
          (notedBy (model prog w) A env fun e s' => R (.error e) s') s₂) (notedBy (model prog w) A env fun e s' => R (.error e) s') s₁) (notedBy (model prog w) A env fun e s' => R (.error e) s') s)
    (n : Nat) (h : I n s) (ht : ∀ v, letOwnedTupleGo t1 it v = pure () := by intro _; rfl) :
    codeAny (model prog w) A (.compLoop (.ListComp elt [⟨t0, i0, [], 0⟩, ⟨t1, i1, [], 0⟩] scope pos) 1 it acc env) R s := by
  refine codeAny_loop rfl I (fun n s hI => ?_) n h
  show wpAny _ _ ((compTurn (.ListComp elt [⟨t0, i0, [], 0⟩, ⟨t1, i1, [], 0⟩] scope pos) 1 it acc env).onRaise (fun x => do noteFrame x env; theTreesLotGoes x)) _ _ s
  refine wpAny_noted ?_
  rw [turn2i]
  refine wpAny_bind (wpAny_standAt (wpAny_bind (wpAny_mono (turn n s hI) (fun r s₁ h₁ => ?_) fun _ _ h' => h')))
  cases r with
  | none => exact wpAny_pure h₁
  | some v =>
    refine wpAny_bind (wpAny_of_eq (ht v) ?_)
    exact wpAny_bind (wpAny_mono h₁ (fun _ s₂ h₂ => wpAny_bind (wpAny_bind (wpAny_mono h₂ (fun x s₃ h₃ => wpAny_bind (wpAny_mono h₃
      (fun _ s₄ h₄ => wpAny_pure (wpAny_pure ⟨rfl, h₄⟩)) fun _ _ h' => h')) fun _ _ h' => h'))) fun _ _ h' => h')
theorem start2i
    (h0 : codeAny (model prog w) A (.compLoop (.ListComp elt [⟨t0, i0, [], 0⟩, ⟨t1, i1, [], 0⟩] scope pos) 1 it acc env) R s)
    (h : wpAny (model prog w) A (pyIter it) (fun it' s' => codeAny (model prog w) A (.compLoop (.ListComp elt [⟨t0, i0, [], 0⟩, ⟨t1, i1, [], 0⟩] scope pos) 1 it' acc env) R s')
      (notedBy (model prog w) A env fun x s' => R (.error x) s') s) :
    codeAny (model prog w) A (.compStart (.ListComp elt [⟨t0, i0, [], 0⟩, ⟨t1, i1, [], 0⟩] scope pos) 1 it acc env) R s := by
  refine codeAny_of_tree ?_
  show wpAny _ _ ((compStart (.ListComp elt [⟨t0, i0, [], 0⟩, ⟨t1, i1, [], 0⟩] scope pos) 1 it acc env).onRaise (fun x => do noteFrame x env; standAt theWindowsPlace)) _ _ s
  refine wpAny_notedAt ?_
  unfold compStart
  show wpAny _ _ (ask >>= _) _ _ s
  refine wpAny_bind (wpAny_askSetting (wpAny_ite ?_))
  split
  · first
      | exact wpAny_bind (wpAny_pure (wpAny_pure (And.intro rfl h0)))
      | exact wpAny_pure (And.intro rfl h0)
  · first
      | exact wpAny_bind (wpAny_rule (wpAny_bind (wpAny_standAt (wpAny_bind (wpAny_mono h (fun it' s' h' => wpAny_pure (And.intro rfl h')) fun _ _ x => x)))))
      | (refine wpAny_bind (wpAny_rule ?_); show wpAny _ _ (standAt i1.pos >>= _) _ _ s; exact wpAny_bind (wpAny_standAt (wpAny_bind (wpAny_mono h (fun it' s' h' => wpAny_pure (And.intro rfl h')) fun _ _ x => x))))
theorem loop2o (I : Nat → Shared → Prop) (hs : ∀ x, foldedSetIterable i1 env x = pure x)
    (turn : ∀ n s, I n s → wpAny (model prog w) A (pyNext it) (fun r s₁ => match r with
      | none => R (.ok .next) s₁
      | some v => wpAny (model prog w) A (assign t0 env v) (fun _ s₂ => wpAny (model prog w) A (eval i1 env) (fun x s₃ => wpAny (model prog w) A (pyIter x) (fun it2 s₄ =>
          codeAny (model prog w) (A.mark none) (.compStart (.ListComp elt [⟨t0, i0, [], 0⟩, ⟨t1, i1, [], 0⟩] scope pos) 1 it2 acc env)
            (fun r s' => match r with | .ok _ => ∃ m, m < n ∧ I m s' | .error e => cameBackBy (model prog w) A env (notedBy (model prog w) A env fun e s' => R (.error e) s') e s') s₄) (notedBy (model prog w) A env fun e s' => R (.error e) s') s₃)
          (notedBy (model prog w) A env fun e s' => R (.error e) s') s₂) (notedBy (model prog w) A env fun e s' => R (.error e) s') s₁) (notedBy (model prog w) A env fun e s' => R (.error e) s') s)
    (n : Nat) (h : I n s) (ht : ∀ v, letOwnedTupleGo t0 it v = pure () := by intro _; rfl) :
    codeAny (model prog w) A (.compLoop (.ListComp elt [⟨t0, i0, [], 0⟩, ⟨t1, i1, [], 0⟩] scope pos) 0 it acc env) R s := by
  refine codeAny_loop rfl I (fun n s hI => ?_) n h
  show wpAny _ _ ((compTurn (.ListComp elt [⟨t0, i0, [], 0⟩, ⟨t1, i1, [], 0⟩] scope pos) 0 it acc env).onRaise (fun x => do noteFrame x env; theTreesLotGoes x)) _ _ s
  refine wpAny_noted ?_
  rw [turn2o]
  refine wpAny_bind (wpAny_standAt (wpAny_bind (wpAny_mono (turn n s hI) (fun r s₁ h₁ => ?_) fun _ _ h' => h')))
  cases r with
  | none => exact wpAny_pure h₁
  | some v =>
    refine wpAny_bind (wpAny_of_eq (ht v) ?_)
    refine wpAny_bind (wpAny_mono h₁ (fun _ s₂ h₂ => wpAny_bind (wpAny_mono h₂ (fun x s₃ h₃ => wpAny_bind (wpAny_standAt (wpAny_bind (wpAny_of_eq (hs x) (wpAny_bind (wpAny_holding (wpAny_mono h₃ (fun it2 s₄ h₄ => ?_) fun _ _ h' => h'))))))) fun _ _ h' => h')) fun _ _ h' => h')
    refine wpAny_bind (wpAny_runOwn (codeAny_mono h₄ fun r s' hr => ?_) (by intro h; cases h))
    cases r with
    | ok f => exact wpAny_pure ⟨rfl, hr⟩
    | error e => exact hr
end

theorem iter_at {h h' : Heap} {I l : Addr} {i : Nat} (x : h.IsListIter I l i) (k : ∀ o, h.get? I = some o → h'.get? I = some o) : h'.IsListIter I l i := let ⟨o, e, r⟩ := x; ⟨o, k o e, r⟩
theorem markn {A : Around} (hh : A.handled = none) : (A.mark none).handled = none := by first | rfl | exact hh | simp [Around.mark, hh]
noncomputable def C2Mid (h₀ : Heap) (L : Addr) (m : Str → Option Value) (s₁ : Shared) (I : Addr) (oI : Obj) (C : Addr) (oC : Obj) (D : Addr) (oD : Obj) (Inv' : List Value → List (Addr × Obj) → Prop) (y : Value) (s₂ : Shared) : Prop :=
  ∃ ax its k h' tk nx all, y = .ref ax ∧ s₂ = { s₁ with heap := h', toks := tk } ∧ Fr h₀ L h' m ∧ News h₀ L h' all ∧ (∀ p ∈ (I, oI) :: (C, oC) :: (D, oD) :: (ax, ({ cls := .type "list", data := .seq its k } : Obj)) :: nx, p ∈ all) ∧ LCg.Off3 I C D ((ax, ({ cls := .type "list", data := .seq its k } : Obj)) :: nx) ∧ its.size ≤ 1000 ∧ Inv' its.toList nx
theorem C2Mid.mk {h₀ : Heap} {L I C D : Addr} {m : Str → Option Value} {s₁ : Shared} {oI oC oD : Obj} {Inv' : List Value → List (Addr × Obj) → Prop} {h' : Heap} {tk : Nat} {all : List (Addr × Obj)} {ax : Addr} {its : Array Value} {k : Nat}
    (F : Fr h₀ L h' m) (N : News h₀ L h' all) (nx : List (Addr × Obj)) (sub : ∀ p ∈ (I, oI) :: (C, oC) :: (D, oD) :: (ax, ({ cls := .type "list", data := .seq its k } : Obj)) :: nx, p ∈ all) (off : LCg.Off3 I C D ((ax, ({ cls := .type "list", data := .seq its k } : Obj)) :: nx)) (hz : its.size ≤ 1000) (r : Inv' its.toList nx) :
    C2Mid h₀ L m s₁ I oI C oC D oD Inv' (.ref ax) { s₁ with heap := h', toks := tk } := ⟨ax, its, k, h', tk, nx, all, rfl, rfl, F, N, sub, off, hz, r⟩

section
variable {prog : Program} {w : World} {A : Around} {E : Value → Shared → Prop} {s : Shared} {h₀ : Heap} {L : Addr} {m : Str → Option Value} {env : Env} {i0 i1 : Expr} {x0 x1 : Str} {p0 p1 p2 : Pos} {scope : Scope} {cl : List (Str × Addr)} {pos : Pos}

theorem inner2 {R : Result → Shared → Prop} {C I2 D ax : Addr} {its : Array Value} {ys : List Value} {news : List (Addr × Obj)} {m' : Str → Option Value} (hh : A.handled = none) (hkind : scope.kind = .function) (hx : scope.names.lookup x1 = some .local) (hd : (x1 == ("__debug__" : Str)) = false)
    (hit : s.heap.IsListIter I2 ax 0) (hl : s.heap.IsList ax its) (hn : s.heap.Ns C m') (F : Fr h₀ L s.heap m) (hD : s.heap.get? D = some (LCg.lst ys)) (N : News h₀ L s.heap news)
    (hIC : I2 ≠ C) (hID : I2 ≠ D) (hIa : I2 ≠ ax) (hIL : I2 ≠ L) (haC : ax ≠ C) (haD : ax ≠ D) (hCD : C ≠ D) (hCL : C ≠ L) (hDL : D ≠ L) (hI₀ : h₀.get? I2 = none) (hC₀ : h₀.get? C = none) (hD₀ : h₀.get? D = none) (off : ∀ p ∈ news, p.1 ≠ I2 ∧ p.1 ≠ C ∧ p.1 ≠ D) (hz : ys.length + its.size ≤ sizeLine)
    (done : ∀ h' tk m'', Fr h₀ L h' m → News h₀ L h' news → h'.Ns C m'' → h'.get? D = some (LCg.lst (ys ++ its.toList)) → R (.ok .next) { s with heap := h', toks := tk }) :
    codeAny (model prog w) A (.compStart (.ListComp (.Name x1 p2) [⟨.Name x0 p0, i0, [], 0⟩, ⟨.Name x1 p1, i1, [], 0⟩] scope pos) 1 (.ref I2) (.ref D) (compEnvC scope cl C env)) R s := by
  have loop : codeAny (model prog w) A (.compLoop (.ListComp (.Name x1 p2) [⟨.Name x0 p0, i0, [], 0⟩, ⟨.Name x1 p1, i1, [], 0⟩] scope pos) 1 (.ref I2) (.ref D) (compEnvC scope cl C env)) R s := by
    refine loop2i (fun k s' => ∃ h' tk j m'', s' = { s with heap := h', toks := tk } ∧ j ≤ its.size ∧ k = its.size + 1 - j ∧ h'.IsListIter I2 ax j ∧ h'.IsList ax its ∧ h'.Ns C m'' ∧ Fr h₀ L h' m ∧ h'.get? D = some (LCg.lst (ys ++ its.toList.take j)) ∧ News h₀ L h' news) ?_ (its.size + 1)
      ⟨s.heap, s.toks, 0, m', rfl, Nat.zero_le _, rfl, hit, hl, hn, F, by simpa using hD, N⟩
    rintro k s' ⟨h', tk, j, m'', rfl, hj, rfl, hit', hl', hn', F', hD', N'⟩
    cases hv : its[j]? with
    | none =>
      have hje : its.size ≤ j := by simpa using hv
      refine wpAny_pyNext_list_end hh hit' hl' hv fun h₁ he₁ => ?_
      have he : ∀ b o, b ∉ [I2] → h'.get? b = some o → h₁.get? b = some o := fun b o hb e => he₁ b o (by simpa using hb) e
      refine done h₁ tk m'' (LCg.fr_but F' he (Ne.symm hIL) hI₀) (LCg.news_but N' he fun p hp => (off p hp).1) (hn'.at' fun o e => he₁ _ o (Ne.symm hIC) e) ?_
      rw [List.take_of_length_le (by simpa using hje)] at hD'
      exact he₁ _ _ (Ne.symm hID) hD'
    | some v =>
      have hlt : j < its.size := (Array.getElem?_eq_some_iff.mp hv).1
      have hvl : its.toList[j]? = some v := by simpa using hv
      refine wpAny_pyNext_list_item hit' hl' hv fun h₁ hit₁ hs₁ => ?_
      refine wpAny_assign_Name (wpAny_storeName_local (lookup_relabel_local hx) (hn'.sameBut hs₁ (Ne.symm hIC)) (fun h₂ hn₂ hs₂ => ?_) (by simp [compEnvC, relabel, hkind]))
      refine ldVarK (v := v) hn₂ (by simp) ?_ hkind (lookup_relabel_local hx) hd
      have hD₂ : h₂.get? D = some (LCg.lst (ys ++ its.toList.take j)) := hs₂.extBut _ _ (Ne.symm hCD) (hs₁.extBut _ _ (Ne.symm hID) hD')
      refine append_at (hsz := by
        show (ys ++ its.toList.take j).toArray.size ≤ sizeLine
        simp only [List.size_toArray, List.length_append, List.length_take, Array.length_toList]
        omega) hD₂ fun h₃ hs₃ hD₃ => ?_
      have F₁ : Fr h₀ L h₁ m := F'.change hs₁ hIL hI₀
      have F₂ : Fr h₀ L h₂ m := F₁.change hs₂ hCL hC₀
      refine ⟨its.size + 1 - (j + 1), by omega, h₃, _, j + 1, _, rfl, hlt, rfl, iter_at hit₁ fun o e => hs₃.extBut _ o hID (hs₂.extBut _ o hIC e), hl'.at fun o e => hs₃.extBut _ o haD (hs₂.extBut _ o haC (hs₁.extBut _ o (Ne.symm hIa) e)), hn₂.sameBut hs₃ hCD, F₂.change hs₃ hDL hD₀, ?_, fun p hp => ?_⟩
      · rw [hD₃, List.take_add_one, hvl, Option.toList_some, ← List.append_assoc]
        exact congrArg some (LCg.lst_snoc _ v)
      · have z := off p hp
        exact ⟨hs₃.extBut _ _ z.2.2 (hs₂.extBut _ _ z.2.1 (hs₁.extBut _ _ z.1 (N' p hp).1)), (N' p hp).2⟩
  exact start2i loop (wpAny_pyIter_listiter hit loop)

noncomputable def CompAt2 (prog : Program) (w : World) (A : Around) (env : Env) (i0 i1 : Expr) (x0 x1 : Str) (p0 p1 p2 : Pos) (scope : Scope) (pos : Pos) (cl : List (Str × Addr)) (E : Value → Shared → Prop) (RR : Value → Addr → Result → Shared → Prop) (it : Value) (s₂ : Shared) : Prop :=
  wpAny (model prog w) A (newList []) (fun acc s₃ => wpAny (model prog w) A (newFunctionEnv scope env.globals cl [] env.qual none .none (some env)) (fun cenv s₄ =>
      codeAny (model prog w) A (.compStart (.ListComp (.Name x1 p2) [⟨.Name x0 p0, i0, [], 0⟩, ⟨.Name x1 p1, i1, [], 0⟩] scope pos) 0 it acc { cenv with scope := relabel scope env }) (RR acc cenv.locals) s₄) E s₃) E s₂

theorem comp2_any {RR : Value → Addr → Result → Shared → Prop} {I : Addr} {fp : List Addr} {n : Nat} {P : Nat → Value → Prop} {St : Nat → Heap → Prop} {news : List (Addr × Obj)} (hh : A.handled = none) (W : Walks prog w A I fp [I] n P St) (Inv : Nat → List Value → List (Addr × Obj) → Prop)
    (hylen : ∀ i ys nx, Inv i ys nx → ys.length ≤ 1000)
    (hfp : ∀ b ∈ fp, b = I ∨ (∃ o, h₀.get? b = some o) ∨ (∃ o, ∀ i ys nx, Inv i ys nx → (b, o) ∈ nx)) (hfs : ∀ b ∈ fp, b < s.heap.objs.size)
    (hex : ∀ i h, St i h → ∃ o, h.get? I = some o) (hcell : ∀ y ∈ scope.names, y.2 ≠ .cell) (hkind : scope.kind = .function) (hx0 : scope.names.lookup x0 = some .local) (hx1 : scope.names.lookup x1 = some .local) (hd1 : (x1 == ("__debug__" : Str)) = false) (hs1 : ∀ C x, foldedSetIterable i1 (compEnvC scope cl C env) x = pure x) (hst : St 0 s.heap)
    (F : Fr h₀ L s.heap m) (N : News h₀ L s.heap news) (hIL : L ≠ I) (hI : h₀.get? I = none) (nx₀ : List (Addr × Obj)) (hn₀ : ∀ p ∈ nx₀, p ∈ news) (ho₀ : ∀ p ∈ nx₀, p.1 ≠ I) (h0 : Inv 0 [] nx₀)
    (turn : ∀ i v ys nx oI C oC D m₂ h tk (E' : Value → Shared → Prop), i < n → P i v → Inv i ys nx → LCg.NsObj oC m₂ → m₂ x0 = some v → Fr h₀ L h m → News h₀ L h ((I, oI) :: (C, oC) :: (D, LCg.lst ys) :: nx) → LCg.Off3 I C D nx → ((@Ne Nat I C) ∧ (@Ne Nat I D) ∧ (@Ne Nat C D)) →
      wpAny (model prog w) A (eval i1 (compEnvC scope cl C env)) (C2Mid h₀ L m { s with heap := h, toks := tk } I oI C oC D (LCg.lst ys) (fun zs nx => Inv (i + 1) (ys ++ zs) nx)) E' { s with heap := h, toks := tk })
    (done : ∀ D C h tk m' ys nx, CDone h₀ L m h D C m' ys nx → Inv n ys nx → RR (.ref D) C (.ok .next) { s with heap := h, toks := tk }) :
    CompAt2 prog w A env i0 i1 x0 x1 p0 p1 p2 scope pos cl E RR (.ref I) s := by
  refine wpAny_newObj_type (wpAny_newFunctionEnv hcell (by intro y hy; simp at hy) (fun h₁ hns₁ hsb₁ => ?_) hkind)
  dsimp only at hns₁ hsb₁ ⊢
  generalize hH2 : s.heap.push { cls := .type "list", dict := none, data := .seq ([] : List Value).toArray } = H2 at hns₁ hsb₁ ⊢
  have hC : H2.objs.size = s.heap.objs.size + 1 := by rw [← hH2, Heap.size_push]
  have hDC : s.heap.objs.size ≠ H2.objs.size := by rw [hC]; exact Nat.ne_of_lt (Nat.lt_succ_self _)
  have below : ∀ b, b < s.heap.objs.size → b ≠ H2.objs.size ∧ b ≠ s.heap.objs.size := fun b hb => ⟨by rw [hC]; exact Nat.ne_of_lt (Nat.lt_succ_of_lt hb), Nat.ne_of_lt hb⟩
  have hIlt : I < s.heap.objs.size := hfs I (W.sub I (List.mem_singleton.mpr rfl))
  have old : ∀ b o, s.heap.get? b = some o → h₁.get? b = some o := fun b o e => hsb₁.extBut b o (below b (Heap.lt_size e)).1 (Heap.get?_push_of_some _ (hH2 ▸ Heap.get?_push_of_some _ e))
  have hacc : h₁.get? s.heap.objs.size = some (LCg.lst []) := hsb₁.extBut _ _ hDC (Heap.get?_push_of_some _ (hH2 ▸ Heap.get?_push_size _ rfl))
  have fresh : ∀ a, s.heap.objs.size ≤ a → h₀.get? a = none := fun a ha => by
    cases e : h₀.get? a with
    | none => rfl
    | some o' => exact absurd (Heap.lt_size (F.keep a o' e)) (Nat.not_lt.mpr ha)
  have hD₀ : h₀.get? s.heap.objs.size = none := fresh _ (Nat.le_refl _)
  have hC₀ : h₀.get? H2.objs.size = none := fresh _ (by rw [hC]; exact Nat.le_succ _)
  have hLlt : L < s.heap.objs.size := F.ns.lt
  have hDL : s.heap.objs.size ≠ L := Ne.symm (below L hLlt).2
  have hCL : H2.objs.size ≠ L := Ne.symm (below L hLlt).1
  have hIC : I ≠ H2.objs.size := (below I hIlt).1
  have hID : I ≠ s.heap.objs.size := (below I hIlt).2
  have offs : LCg.Off3 I H2.objs.size s.heap.objs.size nx₀ := LCg.Off3.of fun p hp => ⟨ho₀ p hp, (below _ (Heap.lt_size (N p (hn₀ p hp)).1)).1, (below _ (Heap.lt_size (N p (hn₀ p hp)).1)).2⟩
  have hCf : ∀ b ∈ fp, b ≠ H2.objs.size ∧ b ≠ s.heap.objs.size := fun b hb => below b (hfs b hb)
  have loop : ∀ s₃ : Shared, s₃ = { s with heap := h₁, toks := s.toks + ([] : List (Str × Value)).length } →
      codeAny (model prog w) A (.compLoop (.ListComp (.Name x1 p2) [⟨.Name x0 p0, i0, [], 0⟩, ⟨.Name x1 p1, i1, [], 0⟩] scope pos) 0 (.ref I) (.ref s.heap.objs.size) (compEnvC scope cl H2.objs.size env))
        (RR (.ref s.heap.objs.size) H2.objs.size) s₃ := by
    rintro s₃ rfl
    refine loop2o
      (fun k s' => ∃ h' tk i ys m' nx, s' = { s with heap := h', toks := tk } ∧ i ≤ n ∧ k = n + 1 - i ∧ St i h' ∧ Fr h₀ L h' m ∧ h'.Ns H2.objs.size m' ∧ News h₀ L h' ((s.heap.objs.size, LCg.lst ys) :: nx) ∧
        LCg.Off3 I H2.objs.size s.heap.objs.size nx ∧ Inv i ys nx) (hs1 _) ?_ (n + 1)
      ⟨h₁, _, 0, [], _, nx₀, rfl, Nat.zero_le _, rfl, W.frame _ _ _ hst fun b _ o e => old b o e, F.keeps old, hns₁, fun p hp => ?_, offs, h0⟩
    · rintro k s' ⟨h', tk, i, ys, m', nx, rfl, hi, rfl, hst', F', hn', N', off', hinv⟩
      by_cases hlt : i < n
      · refine W.item i _ _ _ hlt hst' fun v h₂ tk₂ hPv hst₂ hk₂ => ?_
        refine wpAny_assign_Name (wpAny_storeName_local (lookup_relabel_local hx0) (hn'.at' fun o e => hk₂ _ o (by simpa using Ne.symm hIC) e) (fun h₃ hn₃ hs₃ => ?_) (by simp [compEnvC, relabel, hkind]))
        have hst₃ : St (i + 1) h₃ := W.frame _ _ _ hst₂ fun b hb o e => hs₃.extBut b o (hCf b hb).1 e
        obtain ⟨oI, heI⟩ := hex _ _ hst₃
        obtain ⟨oC, heC, hoC⟩ := LCg.ns_obj hn₃
        have F₃ : Fr h₀ L h₃ m := (LCg.fr_but F' hk₂ hIL hI).change hs₃ hCL hC₀
        have off3 := off'.mem
        have N₂ : News h₀ L h₂ ((s.heap.objs.size, LCg.lst ys) :: nx) := LCg.news_but N' hk₂ fun p hp => by
          rcases List.mem_cons.mp hp with rfl | hp
          · exact Ne.symm hID
          · exact (off3 p hp).1
        have N₃ : News h₀ L h₃ ((I, oI) :: (H2.objs.size, oC) :: (s.heap.objs.size, LCg.lst ys) :: nx) := fun p hp => by
          rcases List.mem_cons.mp hp with rfl | hp
          · exact ⟨heI, Ne.symm hIL, hI⟩
          · rcases List.mem_cons.mp hp with rfl | hp
            · exact ⟨heC, hCL, hC₀⟩
            · have z := N₂ p hp
              refine ⟨hs₃.extBut _ _ ?_ z.1, z.2⟩
              rcases List.mem_cons.mp hp with rfl | hp
              · exact hDC
              · exact (off3 p hp).2.1
        have T := turn i v ys nx oI H2.objs.size oC s.heap.objs.size _ h₃ (tk₂ + 1) (notedBy (model prog w) A (compEnvC scope cl H2.objs.size env) fun e s' => RR (.ref s.heap.objs.size) H2.objs.size (.error e) s') hlt hPv hinv hoC (by simp) F₃ N₃ off' ⟨hIC, hID, Ne.symm hDC⟩
        refine wpAny_mono T (fun y s₄ h₄ => ?_) fun _ _ e => e
        obtain ⟨ax, its, k, h₄, tk₄, nx₄, all, rfl, rfl, F₄, N₄, sub, off₄, hz, hinv₄⟩ := h₄
        have N₄' : News h₀ L h₄ ((I, oI) :: (H2.objs.size, oC) :: (s.heap.objs.size, LCg.lst ys) :: (ax, ({ cls := .type "list", data := .seq its k } : Obj)) :: nx₄) := fun p hp => N₄ p (sub p hp)
        have zI := (N₄' _ (.head _)).1
        have zC := (N₄' _ (.tail _ (.head _))).1
        have zD := (N₄' _ (.tail _ (.tail _ (.head _)))).1
        have zx := (N₄' _ (.tail _ (.tail _ (.tail _ (.head _))))).1
        have zn : ∀ p ∈ nx₄, h₄.get? p.1 = some p.2 := fun p hp => (N₄' p (.tail _ (.tail _ (.tail _ (.tail _ hp))))).1
        have hlx : h₄.IsList ax its := ⟨_, zx, rfl, k, rfl⟩
        have offx := off₄.1
        have off4 := off₄.2.mem
        have nI : h₄.objs.size ≠ I := Nat.ne_of_gt (Heap.lt_size zI)
        have nC : h₄.objs.size ≠ H2.objs.size := Nat.ne_of_gt (Heap.lt_size zC)
        have nD : h₄.objs.size ≠ s.heap.objs.size := Nat.ne_of_gt (Heap.lt_size zD)
        have nx' : h₄.objs.size ≠ ax := Nat.ne_of_gt (Heap.lt_size zx)
        have nL : h₄.objs.size ≠ L := Nat.ne_of_gt F₄.ns.lt
        have up : ∀ b o, h₄.get? b = some o → (h₄.push { cls := .type "list_iterator", data := .fields #[.ref ax, .int 0 0] }).get? b = some o := fun b o e => Heap.get?_push_of_some _ e
        refine wpAny_pyIter_list hlx ?_
        have hz4 : ys.length + its.size ≤ sizeLine := by
          have := hylen _ _ _ hinv
          have : 2000 ≤ sizeLine := by size_fits
          omega
        refine inner2 (m := m) (h₀ := h₀) (L := L) (news := (I, oI) :: nx₄) (markn hh) hkind hx1 hd1 ⟨_, Heap.get?_push_size _ rfl, rfl, rfl⟩ (hlx.push _) ((hoC.ns zC).keeps up) (F₄.keeps up) (up _ _ zD) (fun p hp => ⟨up _ _ ?_, ?_⟩)
          nC nD nx' nL offx.2.1 offx.2.2 (Ne.symm hDC) hCL hDL (next_is_new F₄) hC₀ hD₀ (fun p hp => ?_) hz4 (fun h₅ tk₅ m₅ F₅ N₅ hn₅ hD₅ => ?_)
        · rcases List.mem_cons.mp hp with rfl | hp
          · exact zI
          · exact zn p hp
        · rcases List.mem_cons.mp hp with rfl | hp
          · exact (N₄' _ (.head _)).2
          · exact (N₄' _ (.tail _ (.tail _ (.tail _ (.tail _ hp))))).2
        · rcases List.mem_cons.mp hp with rfl | hp
          · exact ⟨Ne.symm nI, hIC, hID⟩
          · exact ⟨Nat.ne_of_lt (Heap.lt_size (zn p hp)), (off4 p hp).2.1, (off4 p hp).2.2⟩
        · refine ⟨n + 1 - (i + 1), by omega, h₅, tk₅, i + 1, ys ++ its.toList, m₅, nx₄, rfl, hlt, rfl, W.frame _ _ _ hst₃ fun b hb o e => ?_, F₅, hn₅, fun p hp => ?_, off₄.2, hinv₄⟩
          · rcases hfp b hb with rfl | ⟨o', q⟩ | ⟨o', q⟩
            · rw [heI] at e
              rw [← e]
              exact (N₅ _ (.head _)).1
            · have e' := F₃.keep _ _ q
              rw [e'] at e
              rw [← e]
              exact F₅.keep _ _ q
            · have e' := (N₃ _ (.tail _ (.tail _ (.tail _ (q _ _ _ hinv))))).1
              dsimp only at e'
              rw [e'] at e
              rw [← e]
              exact (N₅ _ (.tail _ (q _ _ _ hinv₄))).1
          · rcases List.mem_cons.mp hp with rfl | hp
            · exact ⟨hD₅, hDL, hD₀⟩
            · exact N₅ p (.tail _ hp)
      · obtain rfl : i = n := Nat.le_antisymm hi (Nat.not_lt.mp hlt)
        refine W.done _ _ _ hst' fun h₂ tk₂ hk₂ => ?_
        have off3 := off'.mem
        exact done _ _ h₂ tk₂ _ ys nx ⟨LCg.fr_but F' hk₂ hIL hI, LCg.news_but N' hk₂ fun p hp => by
          rcases List.mem_cons.mp hp with rfl | hp
          · exact Ne.symm hID
          · exact (off3 p hp).1, off'.one, hn'.at' fun o e => hk₂ _ o (by simpa using Ne.symm hIC) e, hC₀, hCL, Ne.symm hDC, fun p hp => (off3 p hp).2.1⟩ hinv
    · rcases List.mem_cons.mp hp with rfl | hp
      · exact ⟨hacc, hDL, hD₀⟩
      · exact ⟨old _ _ (N p (hn₀ p hp)).1, (N p (hn₀ p hp)).2⟩
  exact codeAny_compStart_list (loop _ rfl) (W.self 0 _ _ _ (W.frame _ _ _ hst fun b _ o e => old b o e) (loop _ rfl))

theorem comp2_list {RR : Value → Addr → Result → Shared → Prop} {l : Addr} {its : Array Value} {news : List (Addr × Obj)} (hh : A.handled = none) (F : Fr h₀ L s.heap m) (N : News h₀ L s.heap news) (hcell : ∀ y ∈ scope.names, y.2 ≠ .cell) (hkind : scope.kind = .function) (hx0 : scope.names.lookup x0 = some .local) (hx1 : scope.names.lookup x1 = some .local) (hd1 : (x1 == ("__debug__" : Str)) = false) (hs1 : ∀ C x, foldedSetIterable i1 (compEnvC scope cl C env) x = pure x)
    (Inv : Nat → List Value → List (Addr × Obj) → Prop) (hylen : ∀ i ys nx, Inv i ys nx → ys.length ≤ 1000)
    (hl : h₀.IsList l its ∨ ∃ k, (l, ({ cls := .type "list", data := .seq its k } : Obj)) ∈ news ∧ ∀ i ys nx, Inv i ys nx → (l, ({ cls := .type "list", data := .seq its k } : Obj)) ∈ nx)
    (nx₀ : List (Addr × Obj)) (hn₀ : ∀ p ∈ nx₀, p ∈ news) (h0 : Inv 0 [] nx₀)
    (turn : ∀ i v ys nx I oI C oC D m₂ h tk (E' : Value → Shared → Prop), i < its.size → its[i]? = some v → Inv i ys nx → LCg.NsObj oC m₂ → m₂ x0 = some v → Fr h₀ L h m → News h₀ L h ((I, oI) :: (C, oC) :: (D, LCg.lst ys) :: nx) → LCg.Off3 I C D nx → ((@Ne Nat I C) ∧ (@Ne Nat I D) ∧ (@Ne Nat C D)) →
      wpAny (model prog w) A (eval i1 (compEnvC scope cl C env)) (C2Mid h₀ L m { s with heap := h, toks := tk } I oI C oC D (LCg.lst ys) (fun zs nx => Inv (i + 1) (ys ++ zs) nx)) E' { s with heap := h, toks := tk })
    (done : ∀ D C h tk m' ys nx, CDone h₀ L m h D C m' ys nx → Inv its.size ys nx → RR (.ref D) C (.ok .next) { s with heap := h, toks := tk }) :
    wpAny (model prog w) A (pyIter (.ref l)) (fun it s₂ => CompAt2 prog w A env i0 i1 x0 x1 p0 p1 p2 scope pos cl E RR it s₂) E s := by
  have hls : s.heap.IsList l its := by
    rcases hl with hl | ⟨k, hm, _⟩
    · exact hl.at fun o e => F.keep l o e
    · exact ⟨_, (N _ hm).1, rfl, k, rfl⟩
  obtain ⟨ol, hol, _⟩ := id hls
  have hlt : l < s.heap.objs.size := Heap.lt_size hol
  have hne : l ≠ s.heap.objs.size := Nat.ne_of_lt hlt
  refine wpAny_pyIter_list hls ?_
  have W := Walks.list (prog := prog) (w := w) hh s.heap.objs.size l hne its
  refine comp2_any hh W Inv hylen (fun b hb => ?_) (fun b hb => ?_) (fun i h st => by obtain ⟨⟨o, e, _⟩, _⟩ := st; exact ⟨o, e⟩) hcell hkind hx0 hx1 hd1 hs1 ⟨⟨_, Heap.get?_push_size _ rfl, rfl, rfl⟩, hls.at fun o e => Heap.get?_push_of_some _ e⟩ (F.push _)
    (fun p hp => ⟨Heap.get?_push_of_some _ (N p hp).1, (N p hp).2⟩) (Nat.ne_of_lt F.ns.lt) (next_is_new F) nx₀ hn₀ (fun p hp => Nat.ne_of_lt (Heap.lt_size (N p (hn₀ p hp)).1)) h0 (fun i v ys nx oI C oC D m₂ h tk E' => turn i v ys nx _ oI C oC D m₂ h tk E') done
  · rcases List.mem_cons.mp hb with rfl | hb
    · exact .inl rfl
    · rw [List.mem_singleton.mp hb]
      rcases hl with ⟨o, e, _⟩ | ⟨k, hm, hj⟩
      · exact .inr (.inl ⟨o, e⟩)
      · exact .inr (.inr ⟨_, hj⟩)
  · show b < (s.heap.push _).objs.size
    rw [Heap.size_push]
    rcases List.mem_cons.mp hb with rfl | hb
    · exact Nat.lt_succ_self _
    · rw [List.mem_singleton.mp hb]; exact Nat.lt_succ_of_lt hlt
theorem Comp2_mine {Q : Value → Shared → Prop} (hclos : closureFor scope env = pure cl) (hkind : scope.kind = .function) (hnames : ∀ y ∈ scope.names, y.2 = .local → scope.names.lookup y.1 = some .local)
    (h : wpAny (model prog w) A (eval i0 env) (fun xv s₁ => Stop (wpAny (model prog w) A (pyIter xv) (fun it s₂ => CompAt2 prog w A env i0 i1 x0 x1 p0 p1 p2 scope pos cl E (compPost (model prog w) A E none Q) it s₂) E s₁)) E s)
    (hs : ∀ x, foldedSetIterable i0 env x = pure x := by intro _; rfl) :
    wpAny (model prog w) A (eval (.ListComp (.Name x1 p2) [⟨.Name x0 p0, i0, [], 0⟩, ⟨.Name x1 p1, i1, [], 0⟩] scope pos) env) Q E s := by
  rw [eval_ListComp]
  exact wpAny_comprehension_free (use := none) rfl hs hclos hkind hnames h

/-- the same, where the ledger is at each turn's end as it was -/
theorem comp2_listS {RR : Value → Addr → Result → Shared → Prop} {l : Addr} {its : Array Value} {news : List (Addr × Obj)} (hh : A.handled = none) (F : Fr h₀ L s.heap m) (N : News h₀ L s.heap news) (hcell : ∀ y ∈ scope.names, y.2 ≠ .cell) (hkind : scope.kind = .function) (hx0 : scope.names.lookup x0 = some .local) (hx1 : scope.names.lookup x1 = some .local) (hd1 : (x1 == ("__debug__" : Str)) = false) (hs1 : ∀ C x, foldedSetIterable i1 (compEnvC scope cl C env) x = pure x)
    (hl : h₀.IsList l its ∨ ∃ k, (l, ({ cls := .type "list", data := .seq its k } : Obj)) ∈ news) (Inv : Nat → List Value → Prop) (hylen : ∀ i ys, Inv i ys → ys.length ≤ 1000) (h0 : Inv 0 [])
    (turn : ∀ i v ys I oI C oC D m₂ h tk (E' : Value → Shared → Prop), i < its.size → its[i]? = some v → Inv i ys → LCg.NsObj oC m₂ → m₂ x0 = some v → Fr h₀ L h m → News h₀ L h ((I, oI) :: (C, oC) :: (D, LCg.lst ys) :: news) → LCg.Off3 I C D news → ((@Ne Nat I C) ∧ (@Ne Nat I D) ∧ (@Ne Nat C D)) →
      wpAny (model prog w) A (eval i1 (compEnvC scope cl C env)) (C2Mid h₀ L m { s with heap := h, toks := tk } I oI C oC D (LCg.lst ys) (fun zs nx => nx = news ∧ Inv (i + 1) (ys ++ zs))) E' { s with heap := h, toks := tk })
    (done : ∀ D C h tk m' ys, CDone h₀ L m h D C m' ys news → Inv its.size ys → RR (.ref D) C (.ok .next) { s with heap := h, toks := tk }) :
    wpAny (model prog w) A (pyIter (.ref l)) (fun it s₂ => CompAt2 prog w A env i0 i1 x0 x1 p0 p1 p2 scope pos cl E RR it s₂) E s :=
  comp2_list hh F N hcell hkind hx0 hx1 hd1 hs1 (fun i ys nx => nx = news ∧ Inv i ys) (fun i ys nx h => hylen i ys h.2) (hl.imp id fun ⟨k, hm⟩ => ⟨k, hm, fun i ys nx h => h.1 ▸ hm⟩) news (fun _ h => h) ⟨rfl, h0⟩
    (fun i v ys nx I oI C oC D m₂ h tk E' hi hv hj => by obtain ⟨rfl, hj⟩ := hj; exact turn i v ys I oI C oC D m₂ h tk E' hi hv hj)
    (fun D C h tk m' ys nx d hj => by obtain ⟨rfl, hj⟩ := hj; exact done D C h tk m' ys d hj)
variable {elt iter : Expr} {x : Str} {px : Pos} {ifs : List Expr}
theorem comp_listS {RR : Value → Addr → Result → Shared → Prop} {l : Addr} {its : Array Value} {news : List (Addr × Obj)} (hh : A.handled = none) (F : Fr h₀ L s.heap m) (N : News h₀ L s.heap news) (hcell : ∀ y ∈ scope.names, y.2 ≠ .cell) (hkind : scope.kind = .function) (hx : scope.names.lookup x = some .local)
    (hl : h₀.IsList l its ∨ ∃ k, (l, ({ cls := .type "list", data := .seq its k } : Obj)) ∈ news) (hsz : its.size ≤ sizeLine) (Inv : Nat → List Value → Prop) (hylen : ∀ i ys, Inv i ys → ys.length ≤ i) (h0 : Inv 0 [])
    (turn : ∀ i v ys I oI C oC D m₂ h tk (E' : Value → Shared → Prop), i < its.size → its[i]? = some v → Inv i ys → LCg.NsObj oC m₂ → m₂ x = some v → Fr h₀ L h m → News h₀ L h ((I, oI) :: (C, oC) :: (D, LCg.lst ys) :: news) → LCg.Off3 I C D news → ((@Ne Nat I C) ∧ (@Ne Nat I D) ∧ (@Ne Nat C D)) →
      wpAny (model prog w) A (tests prog w A ifs (compEnvC scope cl C env)) (fun ok s₂ => WhlIf ok
        (wpAny (model prog w) A (eval elt (compEnvC scope cl C env)) (CTurn h₀ L m { s with heap := h, toks := tk } I oI C oC D (LCg.lst ys) (fun y nx => nx = news ∧ Inv (i + 1) (ys ++ [y]))) E' s₂)
        (CSkip h₀ L m { s with heap := h, toks := tk } I oI C oC D (LCg.lst ys) (fun nx => nx = news ∧ Inv (i + 1) ys) s₂)) E' { s with heap := h, toks := tk })
    (done : ∀ D C h tk m' ys, CDone h₀ L m h D C m' ys news → Inv its.size ys → RR (.ref D) C (.ok .next) { s with heap := h, toks := tk }) :
    wpAny (model prog w) A (pyIter (.ref l)) (fun it s₂ => CompAt prog w A env elt iter x px ifs scope pos cl E RR it s₂) E s :=
  comp_list hh F N hcell hkind hx (fun i ys nx => nx = news ∧ Inv i ys) hsz (fun i ys nx h => hylen i ys h.2) (hl.imp id fun ⟨k, hm⟩ => ⟨k, hm, fun i ys nx h => h.1 ▸ hm⟩) news (fun _ h => h) ⟨rfl, h0⟩
    (fun i v ys nx I oI C oC D m₂ h tk E' hi hv hj => by obtain ⟨rfl, hj⟩ := hj; exact turn i v ys I oI C oC D m₂ h tk E' hi hv hj)
    (fun D C h tk m' ys nx d hj => by obtain ⟨rfl, hj⟩ := hj; exact done D C h tk m' ys d hj)
theorem comp_rangeS {RR : Value → Addr → Result → Shared → Prop} {r : Addr} {a b c : Int} {t u₁ v₁ : Tok} {n : Nat} {news : List (Addr × Obj)} (hh : A.handled = none) (F : Fr h₀ L s.heap m) (N : News h₀ L s.heap news) (hr : IsRange s.heap r a b c t u₁ v₁) (hcell : ∀ y ∈ scope.names, y.2 ≠ .cell) (hkind : scope.kind = .function) (hx : scope.names.lookup x = some .local)
    (hsm : Builtin.Range.small a b c = true) (hn : Builtin.Range.rangeSize a b c = ((n : Nat) : Int)) (hsz : n ≤ sizeLine) (Inv : Nat → List Value → Prop) (hylen : ∀ i ys, Inv i ys → ys.length ≤ i) (h0 : Inv 0 [])
    (turn : ∀ i t ys I oI C oC D m₂ h tk (E' : Value → Shared → Prop), i < n → Inv i ys → LCg.NsObj oC m₂ → m₂ x = some (.int (a + (i : Nat) * c) t) → Fr h₀ L h m → News h₀ L h ((I, oI) :: (C, oC) :: (D, LCg.lst ys) :: news) → LCg.Off3 I C D news → ((@Ne Nat I C) ∧ (@Ne Nat I D) ∧ (@Ne Nat C D)) →
      wpAny (model prog w) A (tests prog w A ifs (compEnvC scope cl C env)) (fun ok s₂ => WhlIf ok
        (wpAny (model prog w) A (eval elt (compEnvC scope cl C env)) (CTurn h₀ L m { s with heap := h, toks := tk } I oI C oC D (LCg.lst ys) (fun y nx => nx = news ∧ Inv (i + 1) (ys ++ [y]))) E' s₂)
        (CSkip h₀ L m { s with heap := h, toks := tk } I oI C oC D (LCg.lst ys) (fun nx => nx = news ∧ Inv (i + 1) ys) s₂)) E' { s with heap := h, toks := tk })
    (done : ∀ D C h tk m' ys, CDone h₀ L m h D C m' ys news → Inv n ys → RR (.ref D) C (.ok .next) { s with heap := h, toks := tk }) :
    wpAny (model prog w) A (pyIter (.ref r)) (fun it s₂ => CompAt prog w A env elt iter x px ifs scope pos cl E RR it s₂) E s :=
  comp_range hh F N hr hcell hkind hx hsm hn (fun i ys nx => nx = news ∧ Inv i ys) hsz (fun i ys nx h => hylen i ys h.2) news (fun _ h => h) ⟨rfl, h0⟩
    (fun i v ys nx I oI C oC D m₂ h tk E' hi hj => by obtain ⟨rfl, hj⟩ := hj; exact turn i v ys I oI C oC D m₂ h tk E' hi hj)
    (fun D C h tk m' ys nx d hj => by obtain ⟨rfl, hj⟩ := hj; exact done D C h tk m' ys d hj)
theorem comp_bytesS {RR : Value → Addr → Result → Shared → Prop} {y : Array UInt8} {t : Tok} {news : List (Addr × Obj)} (hh : A.handled = none) (F : Fr h₀ L s.heap m) (N : News h₀ L s.heap news) (hcell : ∀ y ∈ scope.names, y.2 ≠ .cell) (hkind : scope.kind = .function) (hx : scope.names.lookup x = some .local)
    (hsz : y.size ≤ sizeLine) (Inv : Nat → List Value → Prop) (hylen : ∀ i ys, Inv i ys → ys.length ≤ i) (h0 : Inv 0 [])
    (turn : ∀ i (c : UInt8) t' ys I oI C oC D m₂ h tk (E' : Value → Shared → Prop), i < y.size → y[i]? = some c → Inv i ys → LCg.NsObj oC m₂ → m₂ x = some (.int (c.toNat : Int) t') → Fr h₀ L h m → News h₀ L h ((I, oI) :: (C, oC) :: (D, LCg.lst ys) :: news) → LCg.Off3 I C D news → ((@Ne Nat I C) ∧ (@Ne Nat I D) ∧ (@Ne Nat C D)) →
      wpAny (model prog w) A (tests prog w A ifs (compEnvC scope cl C env)) (fun ok s₂ => WhlIf ok
        (wpAny (model prog w) A (eval elt (compEnvC scope cl C env)) (CTurn h₀ L m { s with heap := h, toks := tk } I oI C oC D (LCg.lst ys) (fun y nx => nx = news ∧ Inv (i + 1) (ys ++ [y]))) E' s₂)
        (CSkip h₀ L m { s with heap := h, toks := tk } I oI C oC D (LCg.lst ys) (fun nx => nx = news ∧ Inv (i + 1) ys) s₂)) E' { s with heap := h, toks := tk })
    (done : ∀ D C h tk m' ys, CDone h₀ L m h D C m' ys news → Inv y.size ys → RR (.ref D) C (.ok .next) { s with heap := h, toks := tk }) :
    wpAny (model prog w) A (pyIter (.bytes y t)) (fun it s₂ => CompAt prog w A env elt iter x px ifs scope pos cl E RR it s₂) E s :=
  comp_bytes hh F N hcell hkind hx (fun i ys nx => nx = news ∧ Inv i ys) hsz (fun i ys nx h => hylen i ys h.2) news (fun _ h => h) ⟨rfl, h0⟩
    (fun i v t' ys nx I oI C oC D m₂ h tk E' hi hv hj => by obtain ⟨rfl, hj⟩ := hj; exact turn i v t' ys I oI C oC D m₂ h tk E' hi hv hj)
    (fun D C h tk m' ys nx d hj => by obtain ⟨rfl, hj⟩ := hj; exact done D C h tk m' ys d hj)
end
end

-- LawA
theorem words18 : True := by
  k_with_none
  (k_with "MINE enter" => (refine' enter0 ?k1 ?k2 ?k3 ?k5 ?kA ?kF ?kK ?k6 ?k7 ?k8 ?k9 ?kB ?_ ?c2 ?c3 ?c4 ?c5; (case kA => exact rfl); (case kF => exact rfl); (case kK => assumption); (case k1 => k_asm); (case k2 => k_asm); (case k3 => k_asm); (case k5 => k_asm); (case k6 => k_is); (case k7 => k_is); (case k8 => ktr_room); (case k9 => exact BindsTo.of_eq rfl); (case c5 => decide); (case kB => exact locs rfl); (case c2 => exact rfl); (case c3 => exact rfl); (case c4 => exact rfl); k_whole; intro L' h' F' N' B' X' T'; (try dsimp only); (try k_fold)))
  (k_with "MINE open" => (
    unfold Spec
    intro dp un gd cn cs a ccd cl outer A₀ base h₀ L m s Q E B F X T hk hdp hu hpre hret
    revert X
    k_fill
    intro X
    refine wpAny_call ?_
    k_dflt (walk_at "MINE enter")
    clear F X T B))
  (k_with "MINE fin" => ((rename Back _ _ _ => hb9); (have hb8 := @Back.fin _ _ _ hb9); refine hb8 (by assumption) ?_))
  (k_with "MINE enterS" => (refine' enterS ?k1 ?k2 ?k3 ?k5 ?kA ?kF ?kK ?k6 ?k7 ?k8 ?kV ?kP ?kG ?kB ?_ ?c2 ?c3 ?c4 ?c5; (case kA => exact rfl); (case kF => exact rfl); (case kK => assumption); (case k1 => k_asm); (case k2 => k_asm); (case k3 => k_asm); (case k5 => k_asm); (case k6 => k_is); (case k7 => k_is); (case k8 => ktr_room); (case kV => kl_lit); (case kP => exact rfl); (case kG => exact fun _ => rfl); (case kB => exact fun _ => locs rfl); (case c5 => decide); (case c2 => exact rfl); (case c3 => exact rfl); (case c4 => exact rfl); k_whole; intro D' L' h' F' N' B' X' T'; (try dsimp only); (try k_fold)))
  (k_with "MINE openS" => (
    unfold Spec
    intro dp un gd cn cs a ccd cl outer A₀ base h₀ L m s Q E B F X T hk hdp hu hpre hret
    revert X
    k_fill
    intro X
    refine wpAny_call ?_
    k_dflt (walk_at "MINE enterS")
    clear F X T B))
  (k_with "MINE enterK" => (refine' enter0 ?k1 ?k2 ?k3 ?k5 ?kA ?kF ?kK ?k6 ?k7 ?k8 ?k9 ?kB ?_ ?c2 ?c3 ?c4 ?c5; (case kA => exact rfl); (case kF => exact rfl); (case kK => assumption); (case k1 => k_asm); (case k2 => k_asm); (case k3 => k_asm); (case k5 => k_asm); (case k6 => k_is); (case k7 => k_is); (case k8 => ktr_room); (case k9 => (refine kp_binds (by exact Frag.In.keeps (by assumption) (Fr.keep (by assumption))) (by exact fun _ => rfl))); (case c5 => decide); (case kB => exact locs rfl); (case c2 => exact rfl); (case c3 => exact rfl); (case c4 => exact rfl); k_whole; intro L' h' F' N' B' X' T'; (try dsimp only); (try k_fold)))
  (k_with "MINE openK" => (
    unfold SpecKw
    intro dp un gd cn cs a ccd cl outer A₀ base h₀ L m s Q E B F X T hk hdp hu hpre hret
    revert X
    k_fill
    intro X
    refine wpAny_call ?_
    k_dflt (walk_at "MINE enterK")
    clear F X T B))
  (k_with "MINE openD" => (
    unfold Spec
    intro dp un gd cn cs a ccd cl outer A₀ base h₀ L m s Q E B F X T hk hdp hu hpre hret
    revert X
    k_fill
    intro X
    refine wpAny_call ?_
    k_dflt (walk_at "MINE enterK")
    clear F X T B))
  exact True.intro

section
open PySem PySem.W PyProof.Rows PySem.Calls PySem.Spec
noncomputable def valF (k' : Int) : Int := if k'.fmod 4 = 0 then 63 else if k'.fmod 4 = 1 then 64 * ((k'.fdiv 4).fmod 63 + 1) + 63 else if k'.fmod 4 = 2 then 4032 + (k'.fdiv 4).fmod 64 else (k'.fdiv 4).fmod 4096
noncomputable def valsOf (l : List Int) : List Int := (l.take 10).map valF ++ [200, 63, 63, 63]
theorem valF_bound (k : Int) : 0 ≤ valF k ∧ valF k < 4096 := by
  unfold valF
  have h63 := Int.fmod_lt_of_pos (k.fdiv 4) (show (0 : Int) < 63 by decide)
  have h63' := Int.fmod_nonneg_of_pos (k.fdiv 4) (show (0 : Int) < 63 by decide)
  have h64 := Int.fmod_lt_of_pos (k.fdiv 4) (show (0 : Int) < 64 by decide)
  have h64' := Int.fmod_nonneg_of_pos (k.fdiv 4) (show (0 : Int) < 64 by decide)
  have h4 := Int.fmod_lt_of_pos (k.fdiv 4) (show (0 : Int) < 4096 by decide)
  have h4' := Int.fmod_nonneg_of_pos (k.fdiv 4) (show (0 : Int) < 4096 by decide)
  split
  · omega
  · split
    · omega
    · split <;> omega
theorem valsOf_bound (l : List Int) : ∀ v ∈ valsOf l, 0 ≤ v ∧ v < 4096 := fun v hv => by
  unfold valsOf at hv
  rcases List.mem_append.mp hv with h | h
  · obtain ⟨k, _, rfl⟩ := List.mem_map.mp h
    exact valF_bound k
  · simp only [List.mem_cons, List.not_mem_nil, or_false] at h
    omega
theorem valsOf_len (l : List Int) : (valsOf l).length ≤ 14 := by
  unfold valsOf
  simp only [List.length_append, List.length_map, List.length_take, List.length_cons, List.length_nil]
  omega
theorem octetsOf_len (v : Int) : (octetsOf v).length ≤ 2 := by unfold octetsOf; split <;> simp
theorem octs_len : ∀ l : List Int, (l.flatMap octetsOf).length ≤ 2 * l.length
  | [] => by simp
  | v :: l => by
    have := octetsOf_len v
    have := octs_len l
    simp only [List.flatMap_cons, List.length_append, List.length_cons]
    omega
theorem take_succ' {α : Type} {l : List α} {i : Nat} {v : α} (h : l[i]? = some v) : l.take (i + 1) = l.take i ++ [v] := by rw [List.take_add_one, h, Option.toList_some]

theorem ne_of_get {h : Heap} {a b : Addr} {o : Obj} (hn : h.get? a = none) (hb : h.get? b = some o) : @Ne Nat a b := fun q => by
  have q' : a = b := q
  rw [q', hb] at hn
  cases hn
theorem oct_step {ys zs : List Value} {VS : List Int} {i : Nat} {n : Int} (hn : VS[i]? = some n) (hy : IntsAre ys ((VS.take i).flatMap octetsOf)) (hz : IntsAre zs (octetsOf n)) : IntsAre (ys ++ zs.toArray.toList) ((VS.take (i + 1)).flatMap octetsOf) := by
  rw [take_succ' hn, List.flatMap_append]
  simpa using hy.append hz

noncomputable def endOf (VS : List Int) (k : Nat) : Int := (((VS.take (k + 1)).map fun v => ((octetsOf v).length : Int))).sum

theorem len_step {zs ys : List Value} {WS : List Int} {j : Nat} {n : Int} {t : Tok} (hn : WS[j]? = some n) (hz : IntsAre zs ((WS.take j).map fun v => ((octetsOf v).length : Int))) (hy : IntsAre ys (octetsOf n)) : IntsAre (zs ++ [.int (ys.toArray.size : Int) t]) ((WS.take (j + 1)).map fun v => ((octetsOf v).length : Int)) := by
  rw [take_succ' hn, List.map_append]
  have e : ((ys.toArray.size : Nat) : Int) = ((octetsOf n).length : Int) := by rw [List.size_toArray, hy.length]
  rw [e]
  exact hz.append (.cons _ _ .nil)

theorem end_step {ys : List Value} {VS : List Int} {i : Nat} {t : Tok} (hy : IntsAre ys ((List.range i).map (endOf VS))) : IntsAre (ys ++ [.int (((VS.take (i + 1)).map fun v => ((octetsOf v).length : Int))).sum t]) ((List.range (i + 1)).map (endOf VS)) := by
  rw [List.range_succ, List.map_append]
  exact hy.append (.cons _ _ .nil)
/-- where a stretch ends: the last octet's low six bits are all set -/
noncomputable def markAt (OS : List Int) (k : Int) : Bool := (OS.getD (k - 1).toNat 0).fmod 64 == 63
theorem sizeT (b : Int) (g : Nat) (h : b = ((g : Nat) : Int) + 1) (hg : g < 100) : Builtin.Range.rangeSize 3 b 3 = ((g / 3 : Nat) : Int) := by
  subst h
  have : ∀ g, g < 100 → Builtin.Range.rangeSize 3 (((g : Nat) : Int) + 1) 3 = ((g / 3 : Nat) : Int) := by decide +kernel
  exact this g hg
theorem smallT (b : Int) (g : Nat) (h : b = ((g : Nat) : Int) + 1) (hg : g < 100) : Builtin.Range.small 3 b 3 = true := by
  subst h
  have : ∀ g, g < 100 → Builtin.Range.small 3 (((g : Nat) : Int) + 1) 3 = true := by decide +kernel
  exact this g hg

noncomputable def marksOf (OS : List Int) : List Int := ((List.range (OS.length / 3)).map fun k : Nat => (3 + (k : Int) * 3)).filter (markAt OS)
theorem marks_len (OS : List Int) : (marksOf OS).length ≤ OS.length / 3 := by
  unfold marksOf
  refine Nat.le_trans (List.length_filter_le _ _) ?_
  simp
theorem mark_yes {OS : List Int} {ys : List Value} {i : Nat} {t : Tok} (hy : IntsAre ys (((List.range i).map fun k : Nat => (3 + (k : Int) * 3)).filter (markAt OS))) (h : markAt OS (3 + (i : Nat) * 3) = true) : IntsAre (ys ++ [.int (3 + (i : Nat) * 3) t]) (((List.range (i + 1)).map fun k : Nat => (3 + (k : Int) * 3)).filter (markAt OS)) := by
  rw [List.range_succ, List.map_append, List.filter_append]
  have e : List.filter (markAt OS) (List.map (fun k : Nat => (3 + (k : Int) * 3)) [i]) = [3 + (i : Int) * 3] := by simp [h]
  rw [e]
  exact hy.append (.cons _ _ .nil)
theorem mark_no {OS : List Int} {ys : List Value} {i : Nat} (hy : IntsAre ys (((List.range i).map fun k : Nat => (3 + (k : Int) * 3)).filter (markAt OS))) (h : markAt OS (3 + (i : Nat) * 3) = false) : IntsAre ys (((List.range (i + 1)).map fun k : Nat => (3 + (k : Int) * 3)).filter (markAt OS)) := by
  rw [List.range_succ, List.map_append, List.filter_append]
  have e : List.filter (markAt OS) (List.map (fun k : Nat => (3 + (k : Int) * 3)) [i]) = [] := by simp [h]
  rw [e, List.append_nil]
  exact hy

noncomputable def Kept (news : List (Addr × Obj)) (c : Addr) (keep : List (Addr × Obj)) : Prop := ∀ p ∈ keep, p ∈ news ∧ p.1 ≠ c
theorem Kept.nil {news : List (Addr × Obj)} {c : Addr} : Kept news c [] := fun _ h => nomatch h
theorem Kept.cons {news : List (Addr × Obj)} {c : Addr} {p : Addr × Obj} {keep : List (Addr × Obj)} (h1 : p ∈ news) (h2 : p.1 ≠ c) (h : Kept news c keep) : Kept news c (p :: keep) := fun q hq => by
  rcases List.mem_cons.mp hq with rfl | hq
  · exact ⟨h1, h2⟩
  · exact h q hq
theorem nek (n k : Nat) (hk : (k == 0) = false) : @Ne Nat (n + k) n := by
  have : k ≠ 0 := by simpa using hk
  omega
theorem nek' (n k : Nat) (hk : (k == 0) = false) : @Ne Nat n (n + k) := by
  have : k ≠ 0 := by simpa using hk
  omega
theorem Stop.out {P : Prop} (h : Stop P) : P := h
section
variable {M : Model} {A : Around} {E : Value → Shared → Prop} {s : Shared} {h₀ : Heap} {L a c : Addr} {m : Str → Option Value} {news : List (Addr × Obj)} {name : Str} {scope : Scope} {cd : Value} {x : Str} {v : Value} {o : Obj} {v₀ : Option Value}
theorem storeC {Q : Unit → Shared → Prop} (F : Fr h₀ L s.heap m) (N : News h₀ L s.heap news) (hc : (cellsFrom (L + 1) scope.names []).lookup x = some c) (hm : (c, o) ∈ news) (hd : o.data = .cell v₀)
    (keep : List (Addr × Obj)) (hn : Kept news c keep)
    (h : ∀ h' o', Fr h₀ L h' m → News h₀ L h' ((c, o') :: keep) → o'.data = .cell (some v) → Q () { s with heap := h' })
    (hk : scope.kind = .function := by rfl) (hx : (envOfC name scope L a cd).kindOf x = some .cell := by rfl) : wpAny M A (storeName (envOfC name scope L a cd) x v) Q E s := by
  have hmem := N (c, o) hm
  have hk' : (envOfC name scope L a cd).scope.kind = .function := hk
  have hc' : (envOfC name scope L a cd).cells.lookup x = some c := hc
  unfold storeName
  simp only [hx, hk']
  refine wpAny_bind (wpAny_cellOf hc' (wpAny_cellSet ⟨o, hmem.1, hd⟩ fun h' hv hs => ?_))
  obtain ⟨o', ho', hd'⟩ := hv
  refine h h' o' ⟨F.ns.sameBut hs (Ne.symm hmem.2.1), fun b ob e => (hs.2 b (fun q => ?_)).trans (F.keep b ob e), F.above⟩ (fun p hp => ?_) hd'
  · rw [q, hmem.2.2] at e; cases e
  · rcases List.mem_cons.mp hp with rfl | hp
    · exact ⟨ho', hmem.2⟩
    · have z := hn p hp
      exact ⟨hs.extBut _ _ z.2 (N p z.1).1, (N p z.1).2⟩
theorem memOf {h : Heap} {p : Addr × Obj} (N : News h₀ L h news) (hp : p ∈ news) : p ∈ news := hp
theorem ne_list {h : Heap} {p : Addr × Obj} (N : News h₀ L h news) (hp : p ∈ news) (hc : (c, o) ∈ news) (hd : o.data = .cell v₀) {its : Array Value} {k : Nat} (hq : p.2.data = .seq its k) : p.1 ≠ c := fun q => by
  have h1 := (N p hp).1
  have h2 := (N _ hc).1
  dsimp only at h2
  rw [q, h2] at h1
  rw [← Option.some.inj h1, hd] at hq
  cases hq
end
end

-- PlA

section
open PySem PySem.W PyProof.Rows PySem.Builtin PySem.Builtin.Str
noncomputable abbrev mkS (l : List Nat) : Str := ⟨l.toArray⟩
theorem sl47 : Str.ofString "/" = mkS [47] := by decide +kernel
theorem mkS_len (l : List Nat) : (mkS l).length = l.length := by simp [Str.length]
theorem mkS_cps (l : List Nat) : (mkS l).cps.toList = l := rfl
theorem mkS_inj {a b : List Nat} (h : mkS a = mkS b) : a = b := congrArg (fun x : Str => x.cps.toList) h
theorem mkS_app (a b : List Nat) : mkS a ++ mkS b = mkS (a ++ b) := Str.ext' (by show a.toArray ++ b.toArray = (a ++ b).toArray; simp)
theorem slice_to (l : List Nat) (j : Nat) (h : j ≤ l.length) : Txt.slice (mkS l) none (some (j : Int)) = mkS (l.take j) := by
  have := StrLaws.sliceText_to (x := mkS l) (j := (j : Int)) ⟨by omega, by simpa using h⟩
  rw [show Txt.slice (mkS l) none (some (j : Int)) = StrLaws.sliceText (mkS l) none (some (j : Int)) from rfl, this]
  simp [mkS]
theorem slice_from (l : List Nat) (j : Nat) (h : j ≤ l.length) : Txt.slice (mkS l) (some (j : Int)) none = mkS (l.drop j) := by
  have := StrLaws.sliceText_from (x := mkS l) (i := (j : Int)) ⟨by omega, by simpa using h⟩
  rw [show Txt.slice (mkS l) (some (j : Int)) none = StrLaws.sliceText (mkS l) (some (j : Int)) none from rfl, this]
  have e : ((l.length : Int) - (j : Int)).toNat = l.length - j := by omega
  rw [mkS_cps, e, Int.toNat_natCast, List.take_of_length_le (by simp)]
theorem At47 (l : List Nat) (i : Nat) : StrLaws.At (mkS l) (mkS [47]) (mkS l).length i ↔ l[i]? = some 47 := StrLaws.subAt_one (mkS l) 47 i
theorem rfind_cut {p q : List Nat} (hq : 47 ∉ q) : Txt.rfind (mkS (p ++ 47 :: q)) (mkS [47]) = (p.length : Int) := by
  have hp : (p ++ 47 :: q)[p.length]? = some 47 := by simp
  rcases rfind_whole (mkS (p ++ 47 :: q)) (mkS [47]) with ⟨_, hn⟩ | ⟨i, h0, hi, hn⟩
  · exact absurd ((At47 _ _).mpr hp) (hn _)
  · rw [h0]
    have hi' := (At47 _ _).mp hi
    rcases Nat.lt_trichotomy i p.length with h | h | h
    · exact absurd ((At47 _ _).mpr hp) (hn _ h)
    · rw [h]
    · exfalso
      rw [List.getElem?_append_right (by omega)] at hi'
      obtain ⟨k, hk⟩ : ∃ k, i - p.length = k + 1 := ⟨i - p.length - 1, by omega⟩
      rw [hk, List.getElem?_cons_succ] at hi'
      exact hq (List.mem_of_getElem? hi')
theorem rfind_no {q : List Nat} (hq : 47 ∉ q) : Txt.rfind (mkS q) (mkS [47]) = -1 := by
  rcases rfind_whole (mkS q) (mkS [47]) with ⟨h0, _⟩ | ⟨i, h0, hi, hn⟩
  · exact h0
  · exact absurd (List.mem_of_getElem? ((At47 _ _).mp hi)) hq
theorem fst_cut {p q : List Nat} (hq : 47 ∉ q) : fstOf (mkS (p ++ 47 :: q)) = mkS (p ++ [47]) := by
  unfold fstOf
  rw [sl47, rfind_cut hq, show ((p.length : Int) + 1) = ((p.length + 1 : Nat) : Int) by omega, slice_to _ _ (by simp)]
  congr 1
  rw [List.take_append, List.take_of_length_le (by omega)]
  simp
theorem last_cut {p q : List Nat} (hq : 47 ∉ q) : lastOf (mkS (p ++ 47 :: q)) = mkS q := by
  unfold lastOf
  rw [sl47, rfind_cut hq, show ((p.length : Int) + 1) = ((p.length + 1 : Nat) : Int) by omega, slice_from _ _ (by simp)]
  congr 1
  rw [List.drop_append]
  simp
theorem fst_no {q : List Nat} (hq : 47 ∉ q) : fstOf (mkS q) = mkS [] := by
  unfold fstOf
  rw [sl47, rfind_no hq]
  exact slice_to q 0 (by simp)
theorem last_no {q : List Nat} (hq : 47 ∉ q) : lastOf (mkS q) = mkS q := by
  unfold lastOf
  rw [sl47, rfind_no hq]
  exact slice_from q 0 (by simp)
theorem head_no {q : List Nat} (hq : 47 ∉ q) : headOf (mkS q) = mkS [] := by
  unfold headOf
  rw [fst_no hq]
  rfl
theorem rstrip_one {p : List Nat} (hp : p.getLast? ≠ some 47) : Txt.rstripChars (mkS (p ++ [47])) (mkS [47]) = mkS p := by
  have e1 : ((p ++ [47]).reverse.takeWhile (fun c => ([47] : List Nat).toArray.contains c)).length = 1 := by
    rw [List.reverse_append]
    simp only [List.reverse_cons, List.reverse_nil, List.nil_append, List.singleton_append]
    rw [List.takeWhile_cons_of_pos (by decide +kernel)]
    cases hr : p.reverse with
    | nil => rfl
    | cons a r =>
      have : p.getLast? = some a := by rw [List.getLast?_eq_head?_reverse, hr]; rfl
      have hne : a ≠ 47 := fun h => hp (by rw [this, h])
      rw [List.takeWhile_cons_of_neg (by simpa using hne)]
      rfl
  have e2 : stripHi (fun c => ([47] : List Nat).toArray.contains c) true (mkS (p ++ [47])) 0 = p.length := by
    unfold stripHi
    rw [if_pos rfl, List.drop_zero, mkS_cps, e1, mkS_len]
    simp
  unfold Txt.rstripChars Txt.stripBy stripSame PySem.stripped
  have e3 : stripLo (mkS [47]).cps.contains false (mkS (p ++ [47])) = 0 := rfl
  have e2' : stripHi (mkS [47]).cps.contains true (mkS (p ++ [47])) 0 = p.length := e2
  rw [e3, e2', mkS_len, if_neg (by simp)]
  apply Str.ext'
  apply Array.toList_inj.mp
  rw [StrLaws.strSub_toList]
  simp
theorem mul_one47 (n : Nat) : (Txt.mul (mkS [47]) (n : Int)).cps.toList = List.replicate n 47 := by
  unfold Txt.mul
  split
  · rename_i h
    have : n = 0 := by omega
    rw [this]; rfl
  · split
    · rename_i h
      have h1 : (n : Int) = 1 := by simpa [mkS, Str.length] using h
      have : n = 1 := by omega
      rw [this]; rfl
    · rw [Int.toNat_natCast]
      have : ∀ (n : Nat) (a : Array Nat), ((List.replicate n (mkS [47]).cps).foldl (· ++ ·) a).toList = a.toList ++ List.replicate n 47 := by
        intro n
        induction n with
        | zero => intro a; simp
        | succ n ih => intro a; rw [List.replicate_succ, List.foldl_cons, ih]; simp [List.replicate_succ]
      simpa using this n #[]
theorem head_cut {p q : List Nat} (hp : p ≠ []) (hl : p.getLast? ≠ some 47) (hq : 47 ∉ q) : headOf (mkS (p ++ 47 :: q)) = mkS p := by
  unfold headOf
  rw [fst_cut hq, sl47, rstrip_one hl]
  have h1 : ¬ (((mkS (p ++ [47])).length : Int) = 0) := by rw [mkS_len]; simp; omega
  rw [if_neg h1, if_pos]
  rw [bne_iff_ne]
  intro h
  have h2 := congrArg (fun x : Str => x.cps.toList) h
  dsimp only at h2
  rw [mul_one47] at h2
  have h3 : ∀ x ∈ p ++ [47], x = 47 := by
    intro x hx
    have : x ∈ (mkS (p ++ [47])).cps.toList := hx
    rw [h2] at this
    exact List.eq_of_mem_replicate this
  cases hr : p.getLast? with
  | none => exact hp (List.getLast?_eq_none_iff.mp hr)
  | some a => exact hl (by rw [hr, h3 a (List.mem_append_left _ (List.mem_of_getLast? hr))])
end

-- PlB

section
open PySem PySem.W PyProof.Rows PySem.Builtin PySem.Builtin.Str
theorem or256 (a : Int) (c : UInt8) (h0 : 0 ≤ a) : Builtin.bitOr (a * 256) (c.toNat : Int) = a * 256 + (c.toNat : Int) := by
  obtain ⟨k, rfl⟩ := Int.eq_ofNat_of_zero_le h0
  have hc := c.toNat_lt
  rw [bitOr_and, bitAnd_pp (by omega) (by omega)]
  have e : ((k : Int) * 256).toNat = 2 ^ 8 * k := by omega
  rw [e, Int.toNat_natCast]
  have h1 := nat_or_add_and (2 ^ 8 * k) c.toNat
  rw [← Nat.two_pow_add_eq_or_of_lt (by omega)] at h1
  omega
theorem lcN_eq (lc : Int) (c : UInt8) (h0 : 0 ≤ lc) : lcN lc c = (lc * 256 + (c.toNat : Int)) % 65536 := by
  unfold lcN
  rw [show (2 : Int) ^ Int.toNat 8 = 256 from rfl, or256 lc c h0, bitAnd_m16]
/-- the sign of a sextet -/
noncomputable def sg (v : Int) : Nat := signsL.getD v.toNat 0
noncomputable def quad (a b c : Int) : List Nat := [sg (a / 4), sg (a % 4 * 16 + b / 16), sg (b % 16 * 4 + c / 64), sg (c % 64)]
noncomputable def enc : List Int → List Nat
  | a :: b :: c :: r => quad a b c ++ enc r
  | [a, b] => [sg (a / 4), sg (a % 4 * 16 + b / 16), sg (b % 16 * 4), 61]
  | [a] => [sg (a / 4), sg (a % 4 * 16), 61, 61]
  | [] => []
theorem b64c_sg (v : Int) : b64c v = (sg v : Int) := by
  by_cases h : v.toNat < 64
  · have : ∀ k : Fin 64, b64c (k.val : Int) = (sg (k.val : Int) : Int) := by decide +kernel
    have e := this ⟨v.toNat, h⟩
    unfold b64c sg at *
    simp only [Int.toNat_natCast] at e
    exact e
  · unfold b64c sg
    rw [List.getD_eq_getElem?_getD, List.getElem?_eq_none (by show 64 ≤ v.toNat; omega), List.getD_eq_getElem?_getD, List.getElem?_eq_none (by show signsL.length ≤ _; rw [show signsL.length = 64 from rfl]; omega)]
    rfl
noncomputable def byt (l : List Int) : Array UInt8 := (l.map fun n => n.toNat.toUInt8).toArray
theorem byt_get {l : List Int} (h : ∀ x ∈ l, 0 ≤ x ∧ x < 256) {i : Nat} {a : Int} (ha : l[i]? = some a) : ∃ c, (byt l)[i]? = some c ∧ (c.toNat : Int) = a := by
  refine ⟨a.toNat.toUInt8, ?_, ?_⟩
  · simp [byt, ha]
  · have := h a (List.mem_of_getElem? ha)
    simp
    omega
theorem byt_size (l : List Int) : (byt l).size = l.length := by simp [byt]
theorem b64_at0 (l : List Int) (h : ∀ x ∈ l, 0 ≤ x ∧ x < 256) {i : Nat} {a : Int} (ha : l[i]? = some a) (h3 : i % 3 = 0) :
    loF (byt l) (i + 1) = loF (byt l) i ++ [(sg (a / 4) : Int)] ∧ lcF (byt l) (i + 1) % 256 = a := by
  obtain ⟨c, hc, ec⟩ := byt_get h ha
  have hb := h a (List.mem_of_getElem? ha)
  have hl := lcF_b (byt l) i
  rw [loF_s0 hc h3, lcF_s hc, lcN_eq _ _ hl.1, b64c_sg, show (2 : Int) ^ (0 + 8 - 6 : Int).toNat = 4 from rfl, bitAnd_m6, ec, Int.fdiv_eq_ediv_of_nonneg _ (by decide)]
  refine ⟨?_, by omega⟩
  congr 4
  omega
theorem b64_at1 (l : List Int) (h : ∀ x ∈ l, 0 ≤ x ∧ x < 256) {i : Nat} {a b : Int} (hb : l[i]? = some b) (h3 : i % 3 = 1) (hl : lcF (byt l) i % 256 = a) :
    loF (byt l) (i + 1) = loF (byt l) i ++ [(sg (a % 4 * 16 + b / 16) : Int)] ∧ lcF (byt l) (i + 1) = a * 256 + b := by
  obtain ⟨c, hc, ec⟩ := byt_get h hb
  have hbb := h b (List.mem_of_getElem? hb)
  have hl2 := lcF_b (byt l) i
  rw [loF_s1 hc h3, lcF_s hc, lcN_eq _ _ hl2.1, b64c_sg, show (2 : Int) ^ (((2 : Nat) : Int) + 8 - 6 : Int).toNat = 16 from rfl, bitAnd_m6, ec, Int.fdiv_eq_ediv_of_nonneg _ (by decide)]
  refine ⟨?_, by omega⟩
  congr 4
  omega
theorem b64_at2 (l : List Int) (h : ∀ x ∈ l, 0 ≤ x ∧ x < 256) {i : Nat} {a b d : Int} (hd : l[i]? = some d) (h3 : i % 3 = 2) (hb : 0 ≤ b ∧ b < 256) (hl : lcF (byt l) i = a * 256 + b) :
    loF (byt l) (i + 1) = loF (byt l) i ++ [(sg (b % 16 * 4 + d / 64) : Int), (sg (d % 64) : Int)] := by
  obtain ⟨c, hc, ec⟩ := byt_get h hd
  have hdb := h d (List.mem_of_getElem? hd)
  have hl2 := lcF_b (byt l) i
  rw [loF_s2 hc h3, lcN_eq _ _ hl2.1, b64c_sg, b64c_sg, show (2 : Int) ^ (((4 : Nat) : Int) + 8 - 6 : Int).toNat = 64 from rfl, show (2 : Int) ^ (((4 : Nat) : Int) + 8 - 6 - 6 : Int).toNat = 1 from rfl, bitAnd_m6, bitAnd_m6, ec, Int.fdiv_eq_ediv_of_nonneg _ (by decide), Int.fdiv_eq_ediv_of_nonneg _ (by decide)]
  have e1 : (lcF (byt l) i * 256 + d) % 65536 / 64 % 64 = b % 16 * 4 + d / 64 := by omega
  have e2 : (lcF (byt l) i * 256 + d) % 65536 / 1 % 64 = d % 64 := by omega
  rw [e1, e2]
theorem b64_run (l : List Int) (h : ∀ x ∈ l, 0 ≤ x ∧ x < 256) : ∀ (m : List Int) (j : Nat), 3 * j ≤ l.length → l.drop (3 * j) = m → loF (byt l) (3 * j) ++ (enc m).map (fun n : Nat => (n : Int)) = b64all (byt l) := by
  intro m
  induction m using enc.induct with
  | case1 a b c r ih =>
    intro j hle hj
    have g : ∀ k, (l.drop (3 * j))[k]? = l[3 * j + k]? := fun k => List.getElem?_drop
    have ha : l[3 * j]? = some a := by rw [← Nat.add_zero (3 * j), ← g, hj]; rfl
    have hb : l[3 * j + 1]? = some b := by rw [← g, hj]; rfl
    have hc : l[3 * j + 1 + 1]? = some c := by rw [Nat.add_assoc, ← g, hj]; rfl
    have A := b64_at0 l h ha (by omega)
    have B := b64_at1 l h hb (by omega) A.2
    have C := b64_at2 l h hc (by omega) (h b (List.mem_of_getElem? hb)) B.2
    have e := ih (j + 1) (by have := congrArg List.length hj; simp at this; omega) (by
      rw [show 3 * (j + 1) = 3 * j + 3 by omega, ← List.drop_drop, hj]; rfl)
    rw [show 3 * (j + 1) = 3 * j + 1 + 1 + 1 by omega, C, B.1, A.1] at e
    rw [← e]
    simp [enc, quad]
  | case2 a b =>
    intro j hle hj
    have g : ∀ k, (l.drop (3 * j))[k]? = l[3 * j + k]? := fun k => List.getElem?_drop
    have ha : l[3 * j]? = some a := by rw [← Nat.add_zero (3 * j), ← g, hj]; rfl
    have hb : l[3 * j + 1]? = some b := by rw [← g, hj]; rfl
    have A := b64_at0 l h ha (by omega)
    have B := b64_at1 l h hb (by omega) A.2
    have hab := h a (List.mem_of_getElem? ha)
    have hbb := h b (List.mem_of_getElem? hb)
    have hs : (byt l).size = 3 * j + 1 + 1 := by
      rw [byt_size]
      have := congrArg List.length hj
      simp at this; omega
    unfold b64all b64tail
    rw [hs, if_neg (by omega), if_pos (by omega), B.1, A.1, B.2, bitAnd_m4, b64c_sg]
    simp only [enc, List.map_cons, List.map_nil, List.append_assoc, List.cons_append, List.nil_append]
    rw [show (a * 256 + b) % 16 * 2 ^ Int.toNat 2 = b % 16 * 4 by rw [show (2 : Int) ^ Int.toNat 2 = 4 from rfl]; omega]
    rfl
  | case3 a =>
    intro j hle hj
    have g : ∀ k, (l.drop (3 * j))[k]? = l[3 * j + k]? := fun k => List.getElem?_drop
    have ha : l[3 * j]? = some a := by rw [← Nat.add_zero (3 * j), ← g, hj]; rfl
    have A := b64_at0 l h ha (by omega)
    have hab := h a (List.mem_of_getElem? ha)
    have hs : (byt l).size = 3 * j + 1 := by
      rw [byt_size]
      have := congrArg List.length hj
      simp at this; omega
    unfold b64all b64tail
    rw [hs, if_pos (by omega), A.1, bitAnd_m2, b64c_sg]
    simp only [enc, List.map_cons, List.map_nil, List.append_assoc, List.cons_append, List.nil_append]
    rw [show lcF (byt l) (3 * j + 1) % 4 * 2 ^ Int.toNat 4 = a % 4 * 16 by rw [show (2 : Int) ^ Int.toNat 4 = 16 from rfl]; have := A.2; omega]
    rfl
  | case4 =>
    intro j hle hj
    have hl : l.length ≤ 3 * j := by
      have := congrArg List.length hj
      simp at this; omega
    have hs : (byt l).size = 3 * j := by rw [byt_size]; omega
    unfold b64all b64tail
    rw [hs, if_neg (by omega), if_neg (by omega)]
    rfl
theorem b64all_enc (l : List Int) (h : ∀ x ∈ l, 0 ≤ x ∧ x < 256) : b64all (byt l) = (enc l).map (fun n : Nat => (n : Int)) := by
  have := b64_run l h l 0 (by omega) rfl
  rw [← this]; rfl
theorem item_sg {v : Int} (h0 : 0 ≤ v) (h1 : v < 64) : Txt.item SG v = mkS [sg v] := by
  obtain ⟨k, rfl⟩ := Int.eq_ofNat_of_zero_le h0
  have : ∀ k : Fin 64, Txt.item SG (k.val : Int) = mkS [sg (k.val : Int)] := by decide +kernel
  exact this ⟨k, by omega⟩
theorem wT_one {a b c : Int} (r : List Int) (ha : 0 ≤ a ∧ a < 256) (hb : 0 ≤ b ∧ b < 256) (hc : 0 ≤ c ∧ c < 256) : wT (a :: b :: c :: r) 1 = mkS (quad a b c) := by
  have e : three (a :: b :: c :: r) 0 = a * 65536 + b * 256 + c := rfl
  simp only [wT, e]
  rw [Int.fmod_eq_emod_of_nonneg _ (by decide), Int.fmod_eq_emod_of_nonneg _ (by decide), Int.fmod_eq_emod_of_nonneg _ (by decide), Int.fmod_eq_emod_of_nonneg _ (by decide),
    Int.fdiv_eq_ediv_of_nonneg _ (by decide), Int.fdiv_eq_ediv_of_nonneg _ (by decide), Int.fdiv_eq_ediv_of_nonneg _ (by decide), Int.fdiv_eq_ediv_of_nonneg _ (by decide)]
  rw [show (a * 65536 + b * 256 + c) / 262144 % 64 = a / 4 by omega, show (a * 65536 + b * 256 + c) / 4096 % 64 = a % 4 * 16 + b / 16 by omega,
    show (a * 65536 + b * 256 + c) / 64 % 64 = b % 16 * 4 + c / 64 by omega, show (a * 65536 + b * 256 + c) / 1 % 64 = c % 64 by omega]
  rw [item_sg (by omega) (by omega), item_sg (by omega) (by omega), item_sg (by omega) (by omega), item_sg (by omega) (by omega), show Str.ofString "" = mkS [] from by decide +kernel]
  simp only [mkS_app, List.nil_append, List.cons_append, quad]
theorem three_s (a b c : Int) (r : List Int) (i : Nat) : three (a :: b :: c :: r) (i + 1) = three r i := by
  unfold three
  rw [show (0 + ((i + 1 : Nat) : Int) * 3).toNat = i * 3 + 3 by omega, show (0 + ((i + 1 : Nat) : Int) * 3 + 1).toNat = i * 3 + 1 + 3 by omega, show (0 + ((i + 1 : Nat) : Int) * 3 + 2).toNat = i * 3 + 2 + 3 by omega,
    show (0 + ((i : Nat) : Int) * 3).toNat = i * 3 by omega, show (0 + ((i : Nat) : Int) * 3 + 1).toNat = i * 3 + 1 by omega, show (0 + ((i : Nat) : Int) * 3 + 2).toNat = i * 3 + 2 by omega]
  rfl
theorem wT_cons {a b c : Int} (r : List Int) (ha : 0 ≤ a ∧ a < 256) (hb : 0 ≤ b ∧ b < 256) (hc : 0 ≤ c ∧ c < 256) : ∀ i, wT (a :: b :: c :: r) (i + 1) = mkS (quad a b c) ++ wT r i
  | 0 => by
    rw [wT_one r ha hb hc]
    show _ = _ ++ Str.ofString ""
    rw [show Str.ofString "" = Str.empty from by decide +kernel, Str.append_empty]
  | i + 1 => by
    show wT (a :: b :: c :: r) (i + 1) ++ _ ++ _ ++ _ ++ _ = _ ++ (wT r i ++ _ ++ _ ++ _ ++ _)
    rw [wT_cons r ha hb hc i, three_s]
    simp only [Str.append_assoc]
theorem spare_cons (a b c : Int) (r : List Int) : spareOf (a :: b :: c :: r) = spareOf r := by
  unfold spareOf
  rw [Int.fmod_eq_emod_of_nonneg _ (by decide), Int.fmod_eq_emod_of_nonneg _ (by decide)]
  simp only [List.length_cons]
  omega
noncomputable def ful (ns : List Int) : List Nat := (wT (fullOf ns) ((fullOf ns).length / 3)).cps.toList
theorem mkS_eta (x : Str) : mkS x.cps.toList = x := rfl
theorem mul61 (n : Nat) : Txt.mul (Str.ofString "=") (n : Int) = mkS (List.replicate n 61) := by
  rw [show Str.ofString "=" = mkS [61] from by decide +kernel]
  rw [← mkS_eta (Txt.mul _ _)]
  congr 1
  unfold Txt.mul
  split
  · rename_i h
    have : n = 0 := by omega
    rw [this]; rfl
  · split
    · rename_i h
      have h1 : (n : Int) = 1 := by simpa [mkS, Str.length] using h
      have : n = 1 := by omega
      rw [this]; rfl
    · rw [Int.toNat_natCast]
      have : ∀ (n : Nat) (a : Array Nat), ((List.replicate n (mkS [61]).cps).foldl (· ++ ·) a).toList = a.toList ++ List.replicate n 61 := by
        intro n
        induction n with
        | zero => intro a; simp
        | succ n ih => intro a; rw [List.replicate_succ, List.foldl_cons, ih]; simp [List.replicate_succ]
      simpa using this n #[]
theorem ful_len (ns : List Int) : (ful ns).length = 4 * ((fullOf ns).length / 3) := by
  have := wT_len (fullOf ns) ((fullOf ns).length / 3)
  simpa [ful, Str.length] using this
theorem spare_le (ns : List Int) : spareOf ns ≤ 2 ∧ (spareOf ns = 0 ∨ 1 ≤ ns.length) := by
  unfold spareOf
  rw [Int.fmod_eq_emod_of_nonneg _ (by decide)]
  omega
theorem spare_ful (ns : List Int) : spareOf ns ≤ (ful ns).length := by
  have h := spare_le ns
  rw [ful_len]
  have : (fullOf ns).length = ns.length + spareOf ns := by simp [fullOf]
  have h3 : (ns.length + spareOf ns) % 3 = 0 := by
    unfold spareOf
    rw [Int.fmod_eq_emod_of_nonneg _ (by decide)]
    omega
  omega
theorem written_eq (ns : List Int) : writtenS ns = mkS ((ful ns).take ((ful ns).length - spareOf ns) ++ List.replicate (spareOf ns) 61) := by
  have h := spare_ful ns
  unfold writtenS
  rw [mul61, ← mkS_app]
  congr 1
  have e : ((wT (fullOf ns) ((fullOf ns).length / 3)).length : Int) - (spareOf ns : Int) = (((ful ns).length - spareOf ns : Nat) : Int) := by
    have : (ful ns).length = (wT (fullOf ns) ((fullOf ns).length / 3)).length := by simp [ful, Str.length]
    omega
  rw [e]
  exact slice_to (ful ns) _ (by omega)
theorem ful_cons {a b c : Int} (r : List Int) (ha : 0 ≤ a ∧ a < 256) (hb : 0 ≤ b ∧ b < 256) (hc : 0 ≤ c ∧ c < 256) : ful (a :: b :: c :: r) = quad a b c ++ ful r := by
  unfold ful
  have e : fullOf (a :: b :: c :: r) = a :: b :: c :: fullOf r := by unfold fullOf; rw [spare_cons]; rfl
  rw [e, show (a :: b :: c :: fullOf r).length / 3 = (fullOf r).length / 3 + 1 by simp only [List.length_cons]; omega, wT_cons _ ha hb hc]
  simp [Str.cps_append]
theorem written_enc : ∀ ns : List Int, (∀ x ∈ ns, 0 ≤ x ∧ x < 256) → writtenS ns = mkS (enc ns) := by
  intro ns
  induction ns using enc.induct with
  | case1 a b c r ih =>
    intro h
    have e := ih fun x hx => h x (.tail _ (.tail _ (.tail _ hx)))
    rw [written_eq] at e ⊢
    have e := mkS_inj e
    have hs := spare_ful r
    rw [ful_cons r (h a (.head _)) (h b (.tail _ (.head _))) (h c (.tail _ (.tail _ (.head _)))), spare_cons]
    congr 1
    rw [enc, ← e, List.take_append, List.take_of_length_le (by simp [quad]; omega), List.append_assoc]
    congr 3
    simp [quad]; omega
  | case2 a b =>
    intro h
    have ha := h a (.head _)
    have hb := h b (.tail _ (.head _))
    rw [written_eq]
    congr 1
    have es : spareOf [a, b] = 1 := rfl
    have ef : ful [a, b] = quad a b 0 := by
      have e : fullOf [a, b] = [a, b, 0] := by unfold fullOf; rw [es]; rfl
      unfold ful
      rw [e]
      rw [show [a, b, 0].length / 3 = 1 by simp, wT_one [] ha hb (by decide)]
    rw [es, ef]
    simp [quad, enc]
  | case3 a =>
    intro h
    have ha := h a (.head _)
    rw [written_eq]
    congr 1
    have es : spareOf [a] = 2 := rfl
    have ef : ful [a] = quad a 0 0 := by
      have e : fullOf [a] = [a, 0, 0] := by unfold fullOf; rw [es]; rfl
      unfold ful
      rw [e]
      rw [show [a, 0, 0].length / 3 = 1 by simp, wT_one [] ha (by decide) (by decide)]
    rw [es, ef]
    simp [quad, enc]
  | case4 =>
    intro _
    rw [written_eq]
    rfl
end

-- PlC

section
open PySem PySem.W PyProof.Rows PySem.Builtin PySem.Builtin.Str
theorem uFind_sg {v : Int} (h0 : 0 ≤ v) (h1 : v < 64) : uFind (sg v) = v := by
  obtain ⟨k, rfl⟩ := Int.eq_ofNat_of_zero_le h0
  have : ∀ k : Fin 64, uFind (sg (k.val : Int)) = (k.val : Int) := by decide +kernel
  exact this ⟨k, by omega⟩
theorem sg_ne61 {v : Int} (h0 : 0 ≤ v) (h1 : v < 64) : ((⟨#[sg v]⟩ : Str) != Str.ofString "=") = true := by
  obtain ⟨k, rfl⟩ := Int.eq_ofNat_of_zero_le h0
  have : ∀ k : Fin 64, ((⟨#[sg (k.val : Int)]⟩ : Str) != Str.ofString "=") = true := by decide +kernel
  exact this ⟨k, by omega⟩
theorem sg_47 {v : Int} (h0 : 0 ≤ v) (h1 : v < 63) : sg v ≠ 47 := by
  obtain ⟨k, rfl⟩ := Int.eq_ofNat_of_zero_le h0
  have : ∀ k : Fin 63, sg (k.val : Int) ≠ 47 := by decide +kernel
  exact this ⟨k, by omega⟩
theorem sg_46 {v : Int} : sg v ≠ 46 := by
  by_cases h : v.toNat < 64
  · have : ∀ k : Fin 64, sg (k.val : Int) ≠ 46 := by decide +kernel
    have e := this ⟨v.toNat, h⟩
    unfold sg at *
    simp only [Int.toNat_natCast] at e
    exact e
  · unfold sg
    rw [List.getD_eq_getElem?_getD, List.getElem?_eq_none (by show 64 ≤ v.toNat; omega)]
    decide
theorem sg_lt {v : Int} : sg v < 128 := by
  by_cases h : v.toNat < 64
  · have : ∀ k : Fin 64, sg (k.val : Int) < 128 := by decide +kernel
    have e := this ⟨v.toNat, h⟩
    unfold sg at *
    simp only [Int.toNat_natCast] at e
    exact e
  · unfold sg
    rw [List.getD_eq_getElem?_getD, List.getElem?_eq_none (by show 64 ≤ v.toNat; omega)]
    decide
theorem uStep_sg {s : US} {v : Int} (h0 : 0 ≤ v) (h1 : v < 64) : uStep s (sg v) = if 8 ≤ s.b + 6 then ⟨s.o ++ [(s.h * 64 + v) / (2 ^ (s.b + 6 - 8))], (s.h * 64 + v) % (2 ^ (s.b + 6 - 8)), s.b + 6 - 8⟩ else ⟨s.o, s.h * 64 + v, s.b + 6⟩ := by
  unfold uStep
  rw [if_pos (sg_ne61 h0 h1), uFind_sg h0 h1, Int.fdiv_eq_ediv_of_nonneg _ (Int.pow_nonneg (by decide)), Int.fmod_eq_emod_of_nonneg _ (Int.pow_nonneg (by decide))]
theorem uStep_61 (s : US) : uStep s 61 = s := by
  unfold uStep
  rw [if_neg (by decide +kernel)]
theorem u1 (o : List Int) {v : Int} (h0 : 0 ≤ v) (h1 : v < 64) : uStep ⟨o, 0, 0⟩ (sg v) = ⟨o, v, 6⟩ := by
  rw [uStep_sg h0 h1, if_neg (by dsimp only; omega)]; simp
theorem u2 (o : List Int) (h : Int) {v : Int} (h0 : 0 ≤ v) (h1 : v < 64) : uStep ⟨o, h, 6⟩ (sg v) = ⟨o ++ [(h * 64 + v) / 16], (h * 64 + v) % 16, 4⟩ := by
  rw [uStep_sg h0 h1, if_pos (by dsimp only; omega)]; rfl
theorem u3 (o : List Int) (h : Int) {v : Int} (h0 : 0 ≤ v) (h1 : v < 64) : uStep ⟨o, h, 4⟩ (sg v) = ⟨o ++ [(h * 64 + v) / 4], (h * 64 + v) % 4, 2⟩ := by
  rw [uStep_sg h0 h1, if_pos (by dsimp only; omega)]; rfl
theorem u4 (o : List Int) (h : Int) {v : Int} (h0 : 0 ≤ v) (h1 : v < 64) : uStep ⟨o, h, 2⟩ (sg v) = ⟨o ++ [(h * 64 + v) / 1], (h * 64 + v) % 1, 0⟩ := by
  rw [uStep_sg h0 h1, if_pos (by dsimp only; omega)]; rfl
theorem u_ab (o : List Int) {a b : Int} (ha : 0 ≤ a ∧ a < 256) (hb : 0 ≤ b ∧ b < 256) : uStep (uStep ⟨o, 0, 0⟩ (sg (a / 4))) (sg (a % 4 * 16 + b / 16)) = ⟨o ++ [a], b / 16, 4⟩ := by
  rw [u1 o (by omega) (by omega), u2 _ _ (by omega) (by omega)]
  rw [show (a / 4 * 64 + (a % 4 * 16 + b / 16)) / 16 = a by omega, show (a / 4 * 64 + (a % 4 * 16 + b / 16)) % 16 = b / 16 by omega]
theorem u_quad (o : List Int) {a b c : Int} (ha : 0 ≤ a ∧ a < 256) (hb : 0 ≤ b ∧ b < 256) (hc : 0 ≤ c ∧ c < 256) : (quad a b c).foldl uStep ⟨o, 0, 0⟩ = ⟨o ++ [a, b, c], 0, 0⟩ := by
  simp only [quad, List.foldl_cons, List.foldl_nil]
  rw [u_ab o ha hb, u3 _ _ (by omega) (by omega), u4 _ _ (by omega) (by omega)]
  rw [show (b / 16 * 64 + (b % 16 * 4 + c / 64)) / 4 = b by omega, show (b / 16 * 64 + (b % 16 * 4 + c / 64)) % 4 = c / 64 by omega, show (c / 64 * 64 + c % 64) / 1 = c by omega, show (c / 64 * 64 + c % 64) % 1 = 0 by omega]
  simp
theorem u_enc : ∀ (l : List Int), (∀ x ∈ l, 0 ≤ x ∧ x < 256) → ∀ o, ((enc l).foldl uStep ⟨o, 0, 0⟩).o = o ++ l := by
  intro l
  induction l using enc.induct with
  | case1 a b c r ih =>
    intro h o
    rw [enc, List.foldl_append, u_quad o (h a (.head _)) (h b (.tail _ (.head _))) (h c (.tail _ (.tail _ (.head _)))), ih fun x hx => h x (.tail _ (.tail _ (.tail _ hx)))]
    simp
  | case2 a b =>
    intro h o
    have ha := h a (.head _)
    have hb := h b (.tail _ (.head _))
    simp only [enc, List.foldl_cons, List.foldl_nil]
    rw [uStep_61, u_ab o ha hb, u3 _ _ (by omega) (by omega), show (b / 16 * 64 + b % 16 * 4) / 4 = b by omega]
    simp
  | case3 a =>
    intro h o
    have ha := h a (.head _)
    simp only [enc, List.foldl_cons, List.foldl_nil]
    rw [uStep_61, uStep_61, u1 _ (by omega) (by omega), u2 _ _ (by omega) (by omega), show (a / 4 * 64 + a % 4 * 16) / 16 = a by omega]
  | case4 => intro _ o; simp [enc]
theorem unwritten_enc (l : List Int) (h : ∀ x ∈ l, 0 ≤ x ∧ x < 256) : unwrittenS (mkS (enc l)) = l := by
  unfold unwrittenS uRun
  rw [mkS_cps, List.take_of_length_le (by simp)]
  have := u_enc l h []
  simpa using this
noncomputable def fr (c : List Nat) (r : List (List Nat)) : List Nat := r.foldl (fun a x => a ++ 47 :: x) c
theorem fr_snoc (c : List Nat) (r : List (List Nat)) (x : List Nat) : fr c (r ++ [x]) = fr c r ++ 47 :: x := by simp [fr, List.foldl_append]
theorem fr_app (p c : List Nat) (r : List (List Nat)) : fr (p ++ c) r = p ++ fr c r := by
  induction r generalizing c with
  | nil => rfl
  | cons x r ih =>
    show fr (p ++ c ++ 47 :: x) r = p ++ fr (c ++ 47 :: x) r
    rw [List.append_assoc]; exact ih _
theorem fr_cons (c x : List Nat) (r : List (List Nat)) : fr c (x :: r) = c ++ 47 :: fr x r := by
  show fr (c ++ 47 :: x) r = _
  rw [show c ++ 47 :: x = (c ++ [47]) ++ x by simp, fr_app]; simp
theorem fr_len (c : List Nat) (r : List (List Nat)) : c.length + r.length ≤ (fr c r).length := by
  induction r generalizing c with
  | nil => exact Nat.le_refl _
  | cons x r ih =>
    have := ih (c ++ 47 :: x)
    show _ ≤ (fr (c ++ 47 :: x) r).length
    simp only [List.length_append, List.length_cons] at *
    omega
theorem last_ne {g : List Nat} (h : 47 ∉ g) : g.getLast? ≠ some 47 := fun e => h (List.mem_of_getLast? e)
theorem fr_last {c : List Nat} {r : List (List Nat)} (hc : c ≠ [] ∧ 47 ∉ c) (hr : ∀ x ∈ r, x ≠ [] ∧ 47 ∉ x) : fr c r ≠ [] ∧ (fr c r).getLast? ≠ some 47 := by
  rcases List.eq_nil_or_concat r with rfl | ⟨r', y, rfl⟩
  · exact ⟨hc.1, last_ne hc.2⟩
  · rw [List.concat_eq_append, fr_snoc]
    have hy := hr y (by simp)
    refine ⟨by simp, ?_⟩
    rw [List.getLast?_append, List.getLast?_cons]
    cases hg : y.getLast? with
    | none => exact absurd (List.getLast?_eq_none_iff.mp hg) hy.1
    | some a => 
      have := last_ne hy.2
      rw [hg] at this
      simpa using this
theorem join_cut {p q : List Nat} (hp : p ≠ []) (hl : p.getLast? ≠ some 47) (hq : 47 ∉ q) : joinOf (mkS p) (mkS q) = mkS (p ++ 47 :: q) := by
  have h1 : Txt.startswith (mkS q) (mkS [47]) = false := by
    cases q with
    | nil => rfl
    | cons a q =>
      have : Txt.startswith (mkS (a :: q)) (mkS [47]) ≠ true := fun h => by
        unfold Txt.startswith at h
        rw [Bool.and_eq_true] at h
        have := (StrLaws.subAt_one (mkS (a :: q)) 47 0).mp ⟨by simpa using h.1, h.2⟩
        exact hq (by have e : a = 47 := by simpa using this
                     rw [e]; exact .head _)
      simpa using this
  have h2 : ¬ (((mkS p).length : Int) = 0) := by
    rw [mkS_len]
    have := List.length_pos_iff.mpr hp
    omega
  have h3 : Txt.endswith (mkS p) (mkS [47]) = false := by
    have : Txt.endswith (mkS p) (mkS [47]) ≠ true := fun h => by
      unfold Txt.endswith at h
      rw [Bool.and_eq_true] at h
      have e := (StrLaws.subAt_one (mkS p) 47 ((mkS p).length - (mkS [47]).length)).mp ⟨by
        have := List.length_pos_iff.mpr hp
        have e1 : (mkS p).length = p.length := mkS_len p
        have e2 : (⟨#[47]⟩ : Str).length = 1 := rfl
        have e3 : (mkS [47]).length = 1 := rfl
        omega, h.2⟩
      apply hl
      rw [List.getLast?_eq_getElem?, ← e]
      rw [mkS_len, mkS_len]
      rfl
    simpa using this
  have e := joinOf_4 (p := mkS p) (q := mkS q) (by rw [sl47]; exact h1) h2 (by rw [sl47]; exact h3)
  rw [e, sl47, mkS_app, mkS_app]; rfl
theorem fcur_fr {c : List Nat} {r : List (List Nat)} (hc : c ≠ [] ∧ 47 ∉ c) (hr : ∀ x ∈ r.dropLast, x ≠ []) (h47 : ∀ x ∈ r, 47 ∉ x) : ∀ i, i ≤ r.length → fcur (mkS c) (r.map mkS) i = mkS (fr c (r.take i))
  | 0, _ => by simp [fcur, fr]
  | i + 1, hi => by
    have hx : r[i]? = some (r[i]'(by omega)) := List.getElem?_eq_getElem (by omega)
    generalize r[i]'(by omega) = x at hx
    rw [fcur_succ (x := mkS x) (by rw [List.getElem?_map, hx]; rfl), fcur_fr hc hr h47 i (by omega), List.take_add_one, hx, Option.toList_some, fr_snoc]
    have hl := fr_last (c := c) (r := r.take i) hc (fun y hy => ⟨hr y (by
      rw [List.dropLast_eq_take]
      exact (List.take_subset_take_left r (by omega)) hy), h47 y (List.mem_of_mem_take hy)⟩)
    exact join_cut hl.1 hl.2 (h47 x (List.mem_of_getElem? hx))
noncomputable def pIt : Nat → PS → PS
  | 0, s => s
  | n + 1, s => pIt n (pStep s)
theorem pIt_step : ∀ (n : Nat) (s : PS), pStep (pIt n s) = pIt n (pStep s)
  | 0, _ => rfl
  | n + 1, s => pIt_step n (pStep s)
theorem pRun_it (p : Str) : ∀ n, pRun p n = pIt n ⟨headOf p, [lastOf p]⟩
  | 0 => rfl
  | n + 1 => by
    show pStep (pRun p n) = pIt n (pStep _)
    rw [pRun_it p n, pIt_step]
theorem emp : Str.ofString "" = mkS [] := by decide +kernel
theorem pStep_nil (ps : List Str) : pStep ⟨mkS [], ps⟩ = ⟨mkS [], ps⟩ := by
  unfold pStep
  rw [emp, if_neg (by simp)]
theorem pIt_nil : ∀ (n : Nat) (ps : List Str), pIt n ⟨mkS [], ps⟩ = ⟨mkS [], ps⟩
  | 0, _ => rfl
  | n + 1, ps => by show pIt n (pStep _) = _; rw [pStep_nil, pIt_nil n ps]
theorem pStep_cut {g : List Nat} (hg : g ≠ []) (ps : List Str) : pStep ⟨mkS g, ps⟩ = ⟨headOf (mkS g), lastOf (mkS g) :: ps⟩ := by
  unfold pStep
  rw [emp, if_pos]
  rw [bne_iff_ne]
  exact fun h => hg (mkS_inj h)
theorem pIt_fr {c : List Nat} (hc : c ≠ [] ∧ 47 ∉ c) : ∀ (k : Nat) (r : List (List Nat)) (ps : List Str) (n : Nat), r.length = k → (∀ x ∈ r, x ≠ [] ∧ 47 ∉ x) → k < n → pIt n ⟨mkS (fr c r), ps⟩ = ⟨mkS [], mkS c :: r.map mkS ++ ps⟩
  | 0, r, ps, n + 1, hk, hr, hn => by
    obtain rfl := List.length_eq_zero_iff.mp hk
    show pIt n (pStep ⟨mkS c, ps⟩) = _
    rw [pStep_cut hc.1, head_no hc.2, last_no hc.2, pIt_nil]
    rfl
  | k + 1, r, ps, n + 1, hk, hr, hn => by
    rcases List.eq_nil_or_concat r with rfl | ⟨r', y, rfl⟩
    · cases hk
    · rw [List.concat_eq_append] at *
      have hr' : ∀ x ∈ r', x ≠ [] ∧ 47 ∉ x := fun x hx => hr x (List.mem_append_left _ hx)
      have hy := hr y (by simp)
      have hl := fr_last hc hr'
      show pIt n (pStep ⟨mkS (fr c (r' ++ [y])), ps⟩) = _
      rw [pStep_cut (by rw [fr_snoc]; simp), fr_snoc, head_cut hl.1 hl.2 hy.2, last_cut hy.2]
      rw [pIt_fr hc k r' _ n (by simpa using hk) hr' (by omega)]
      simp
theorem pieces_fr {c : List Nat} {r : List (List Nat)} (hc : c ≠ [] ∧ 47 ∉ c) (hr : ∀ x ∈ r.dropLast, x ≠ []) (h47 : ∀ x ∈ r, 47 ∉ x) (n : Nat) (hn : r.length ≤ n) : (pRun (mkS (fr c r)) n).ps = mkS c :: r.map mkS := by
  rw [pRun_it]
  rcases List.eq_nil_or_concat r with rfl | ⟨r', y, rfl⟩
  · show (pIt n ⟨headOf (mkS c), [lastOf (mkS c)]⟩).ps = _
    rw [head_no hc.2, last_no hc.2, pIt_nil]
    rfl
  · rw [List.concat_eq_append] at *
    have hr' : ∀ x ∈ r', x ≠ [] ∧ 47 ∉ x := fun x hx => ⟨hr x (by simpa using hx), h47 x (List.mem_append_left _ hx)⟩
    have hy := h47 y (by simp)
    have hl := fr_last hc hr'
    rw [fr_snoc, head_cut hl.1 hl.2 hy, last_cut hy, pIt_fr hc _ r' _ n rfl hr' (by simp at hn; omega)]
    simp
theorem heads_fr {c : List Nat} {r : List (List Nat)} (hc : c ≠ [] ∧ 47 ∉ c) (hr : ∀ x ∈ r.dropLast, x ≠ []) (h47 : ∀ x ∈ r, 47 ∉ x) : (fall (mkS c) (r.map mkS)).map headOf = mkS [] :: (fall (mkS c) (r.map mkS)).dropLast := by
  unfold fall
  rw [List.length_map]
  have e : (List.range (r.length + 1)).map (fcur (mkS c) (r.map mkS)) = (List.range (r.length + 1)).map fun i => mkS (fr c (r.take i)) :=
    List.map_congr_left fun i hi => fcur_fr hc hr h47 i (by have := List.mem_range.mp hi; omega)
  rw [e, List.map_map]
  have e2 : ((List.range (r.length + 1)).map fun i => mkS (fr c (r.take i))).dropLast = (List.range r.length).map fun i => mkS (fr c (r.take i)) := by
    rw [List.range_succ, List.map_append, List.map_singleton, List.dropLast_concat]
  rw [e2, List.range_succ_eq_map, List.map_cons, List.map_map]
  congr 1
  · exact head_no hc.2
  · refine List.map_congr_left fun i hi => ?_
    have hi := List.mem_range.mp hi
    show headOf (mkS (fr c (r.take (i + 1)))) = mkS (fr c (r.take i))
    have hx : r[i]? = some (r[i]'(by omega)) := List.getElem?_eq_getElem (by omega)
    rw [List.take_add_one, hx, Option.toList_some, fr_snoc]
    have hl := fr_last (c := c) (r := r.take i) hc (fun y hy => ⟨hr y (by
      rw [List.dropLast_eq_take]
      exact (List.take_subset_take_left r (by omega)) hy), h47 y (List.mem_of_mem_take hy)⟩)
    exact head_cut hl.1 hl.2 (h47 _ (List.mem_of_getElem? hx))
end

-- PlD

section
open PySem PySem.W PyProof.Rows PySem.Builtin PySem.Builtin.Str
theorem cut_inj : ∀ {c c' a b : List Nat}, 47 ∉ c → 47 ∉ c' → c ++ 47 :: a = c' ++ 47 :: b → c = c' ∧ a = b
  | [], [], a, b, _, _, h => ⟨rfl, (List.cons.inj h).2⟩
  | [], y :: c', a, b, _, h2, h => absurd ((List.cons.inj h).1 ▸ List.Mem.head _) h2
  | x :: c, [], a, b, h1, _, h => absurd ((List.cons.inj h).1 ▸ List.Mem.head _) h1
  | x :: c, y :: c', a, b, h1, h2, h => by
    obtain ⟨e1, e2⟩ := List.cons.inj h
    obtain ⟨e3, e4⟩ := cut_inj (fun m => h1 (.tail _ m)) (fun m => h2 (.tail _ m)) e2
    exact ⟨by rw [e1, e3], e4⟩
theorem fr_inj : ∀ {r r' : List (List Nat)} {c c' : List Nat}, 47 ∉ c → 47 ∉ c' → (∀ x ∈ r, 47 ∉ x) → (∀ x ∈ r', 47 ∉ x) → fr c r = fr c' r' → c = c' ∧ r = r'
  | [], [], c, c', _, _, _, _, h => ⟨h, rfl⟩
  | [], x :: r', c, c', h1, _, _, _, h => by
    rw [fr_cons] at h
    exact absurd (by rw [show c = _ from h]; simp) h1
  | x :: r, [], c, c', _, h2, _, _, h => by
    rw [fr_cons] at h
    exact absurd (by rw [← show _ = c' from h]; simp) h2
  | x :: r, y :: r', c, c', h1, h2, h3, h4, h => by
    rw [fr_cons, fr_cons] at h
    obtain ⟨e1, e2⟩ := cut_inj h1 h2 h
    obtain ⟨e3, e4⟩ := fr_inj (h3 x (.head _)) (h4 y (.head _)) (fun z hz => h3 z (.tail _ hz)) (fun z hz => h4 z (.tail _ hz)) e2
    exact ⟨e1, by rw [e3, e4]⟩
theorem join_fr : ∀ (r : List (List Nat)) (c : List Nat), Str.join (mkS [47]) (mkS c :: r.map mkS) = mkS (fr c r)
  | [], c => rfl
  | x :: r, c => by
    show mkS c ++ mkS [47] ++ Str.join (mkS [47]) (mkS x :: r.map mkS) = _
    rw [join_fr r x, mkS_app, mkS_app, fr_cons]; simp
theorem split_fr {c : List Nat} {r : List (List Nat)} (hc : c ≠ [] ∧ 47 ∉ c) (h47 : ∀ x ∈ r, 47 ∉ x) : Txt.split (mkS (fr c r)) (mkS [47]) = mkS c :: r.map mkS := by
  have h1 := StrLaws.join_split (mkS (fr c r)) (mkS [47])
  have h2 : ∀ p ∈ Txt.split (mkS (fr c r)) (mkS [47]), 47 ∉ p.cps.toList := StrLaws.split_free (mkS (fr c r)) 47
  generalize Txt.split (mkS (fr c r)) (mkS [47]) = ps at h1 h2
  cases ps with
  | nil =>
    have e : mkS [] = mkS (fr c r) := h1
    have h0 : fr c r = [] := (mkS_inj e).symm
    have h3 := fr_len c r
    rw [h0, List.length_nil] at h3
    have := List.length_pos_iff.mpr hc.1
    omega
  | cons p ps =>
    have e1 : p :: ps = mkS p.cps.toList :: (ps.map fun x => x.cps.toList).map mkS := by
      rw [List.map_map]
      congr 1
      conv => lhs; rw [← List.map_id ps]
      exact List.map_congr_left fun x _ => rfl
    rw [e1, join_fr] at h1
    obtain ⟨e2, e3⟩ := fr_inj (h2 p (.head _)) hc.2 (fun x hx => by
      obtain ⟨y, hy, rfl⟩ := List.mem_map.mp hx
      exact h2 y (.tail _ hy)) h47 (mkS_inj h1)
    rw [e1, e2, e3]
noncomputable def segsC : List Int → List Nat × List (List Nat)
  | a :: b :: c :: r => if c % 64 = 63 then ([sg (a / 4), sg (a % 4 * 16 + b / 16), sg (b % 16 * 4 + c / 64)], (segsC r).1 :: (segsC r).2) else (quad a b c ++ (segsC r).1, (segsC r).2)
  | l => (enc l, [])
noncomputable def mkN : List Int → List Nat
  | a :: b :: c :: r => if c % 64 = 63 then 3 :: (mkN r).map (· + 3) else (mkN r).map (· + 3)
  | _ => []
theorem sg63 : sg 63 = 47 := by decide +kernel
theorem segs_fr : ∀ l : List Int, fr (segsC l).1 (segsC l).2 = enc l := by
  intro l
  induction l using enc.induct with
  | case1 a b c r ih =>
    rw [segsC]
    split
    · rename_i h
      rw [fr_cons, ih, enc, quad, h, sg63]
      rfl
    · rw [fr_app, ih, enc]
  | _ => rfl
theorem segs_free : ∀ l : List Int, (∀ x ∈ l, 0 ≤ x ∧ x < 128) → 47 ∉ (segsC l).1 ∧ ∀ x ∈ (segsC l).2, 47 ∉ x := by
  intro l
  induction l using enc.induct with
  | case1 a b c r ih =>
    intro h
    have ha := h a (.head _)
    have hb := h b (.tail _ (.head _))
    have hc := h c (.tail _ (.tail _ (.head _)))
    obtain ⟨i1, i2⟩ := ih fun x hx => h x (.tail _ (.tail _ (.tail _ hx)))
    have g1 : sg (a / 4) ≠ 47 := sg_47 (by omega) (by omega)
    have g2 : sg (a % 4 * 16 + b / 16) ≠ 47 := sg_47 (by omega) (by omega)
    have g3 : sg (b % 16 * 4 + c / 64) ≠ 47 := sg_47 (by omega) (by omega)
    rw [segsC]
    split
    · refine ⟨?_, fun x hx => ?_⟩
      · simp [Ne.symm g1, Ne.symm g2, Ne.symm g3]
      · rcases List.mem_cons.mp hx with rfl | hx
        · exact i1
        · exact i2 x hx
    · rename_i hm
      have g4 : sg (c % 64) ≠ 47 := sg_47 (by omega) (by omega)
      refine ⟨?_, i2⟩
      simp [quad, Ne.symm g1, Ne.symm g2, Ne.symm g3, Ne.symm g4, i1]
  | case2 a b =>
    intro h
    have ha := h a (.head _)
    have hb := h b (.tail _ (.head _))
    have g1 : sg (a / 4) ≠ 47 := sg_47 (by omega) (by omega)
    have g2 : sg (a % 4 * 16 + b / 16) ≠ 47 := sg_47 (by omega) (by omega)
    have g3 : sg (b % 16 * 4) ≠ 47 := sg_47 (by omega) (by omega)
    refine ⟨?_, fun x hx => nomatch hx⟩
    simp [segsC, enc, Ne.symm g1, Ne.symm g2, Ne.symm g3]
  | case3 a =>
    intro h
    have ha := h a (.head _)
    have g1 : sg (a / 4) ≠ 47 := sg_47 (by omega) (by omega)
    have g2 : sg (a % 4 * 16) ≠ 47 := sg_47 (by omega) (by omega)
    refine ⟨?_, fun x hx => nomatch hx⟩
    simp [segsC, enc, Ne.symm g1, Ne.symm g2]
  | case4 =>
    intro _
    exact ⟨by simp [segsC, enc], fun x hx => nomatch hx⟩
theorem segs_ne : ∀ l : List Int, (l ≠ [] → (segsC l).1 ≠ []) ∧ ∀ x ∈ (segsC l).2.dropLast, x ≠ [] := by
  intro l
  induction l using enc.induct with
  | case1 a b c r ih =>
    rw [segsC]
    split
    · refine ⟨fun _ => by simp, fun x hx => ?_⟩
      dsimp only at hx
      cases hs : (segsC r).2 with
      | nil => rw [hs] at hx; cases hx
      | cons y ys =>
        rw [hs, List.dropLast_cons_cons] at hx
        rcases List.mem_cons.mp hx with rfl | hx
        · refine ih.1 fun hr => ?_
          rw [hr] at hs; cases hs
        · exact ih.2 x (by rw [hs]; exact hx)
    · exact ⟨fun _ => by simp [quad], ih.2⟩
  | case2 a b => exact ⟨fun _ => by simp [segsC, enc], fun x hx => nomatch hx⟩
  | case3 a => exact ⟨fun _ => by simp [segsC, enc], fun x hx => nomatch hx⟩
  | case4 => exact ⟨fun h => absurd rfl h, fun x hx => nomatch hx⟩
theorem mkN_b : ∀ l : List Int, ∀ m ∈ mkN l, 3 ≤ m ∧ m ≤ l.length := by
  intro l
  induction l using enc.induct with
  | case1 a b c r ih =>
    intro m hm
    rw [mkN] at hm
    have key : ∀ m ∈ (mkN r).map (· + 3), 3 ≤ m ∧ m ≤ (a :: b :: c :: r).length := fun m hm => by
      obtain ⟨k, hk, rfl⟩ := List.mem_map.mp hm
      have := ih k hk
      simp only [List.length_cons]; omega
    split at hm
    · rcases List.mem_cons.mp hm with rfl | hm
      · simp only [List.length_cons]; omega
      · exact key m hm
    · exact key m hm
  | _ => intro m hm; cases hm
noncomputable def textsL : List Nat → List (List Nat) → List (List Nat)
  | c, [] => [c]
  | c, x :: r => (c ++ [47]) :: (textsL x r).map ((c ++ [47]) ++ ·)
theorem textsL_app (p : List Nat) : ∀ (r : List (List Nat)) (c : List Nat), textsL (p ++ c) r = (textsL c r).map (p ++ ·)
  | [], c => rfl
  | x :: r, c => by
    simp only [textsL, List.map_cons, List.map_map]
    congr 1
    · simp
    · exact List.map_congr_left fun y _ => by simp
theorem textsL_eq : ∀ (r : List (List Nat)) (c : List Nat), textsL c r = (List.range r.length).map (fun i => fr c (r.take i) ++ [47]) ++ [fr c r]
  | [], c => rfl
  | x :: r, c => by
    rw [textsL, textsL_eq r x, List.length_cons, List.range_succ_eq_map]
    simp only [List.map_cons, List.map_append, List.map_map, List.cons_append, List.map_nil]
    congr 1
    congr 1
    · refine List.map_congr_left fun i _ => ?_
      simp [fr_cons]
    · simp [fr_cons]
theorem enc_app3 (a b c : Int) (r : List Int) (t : Nat) : enc ((a :: b :: c :: r).take (t + 3)) = quad a b c ++ enc (r.take t) := by
  simp [enc]
theorem texts_segs : ∀ l : List Int, textsL (segsC l).1 (segsC l).2 = (mkN l ++ [l.length]).map fun t => enc (l.take t) := by
  intro l
  induction l using enc.induct with
  | case1 a b c r ih =>
    rw [segsC, mkN]
    have key : (textsL (segsC r).1 (segsC r).2).map (quad a b c ++ ·) = ((mkN r).map (· + 3) ++ [(a :: b :: c :: r).length]).map fun t => enc ((a :: b :: c :: r).take t) := by
      rw [ih]
      have e : (a :: b :: c :: r).length = r.length + 3 := rfl
      rw [e]
      simp only [List.map_append, List.map_map, List.map_cons, List.map_nil, enc_app3]
      congr 1
    split
    · rename_i h
      simp only [textsL]
      have q : [sg (a / 4), sg (a % 4 * 16 + b / 16), sg (b % 16 * 4 + c / 64)] ++ [47] = quad a b c := by
        rw [quad, h, sg63]; rfl
      rw [q, key]
      simp [enc]
    · dsimp only
      rw [textsL_app, key]
  | case2 a b => simp [segsC, mkN, textsL]
  | case3 a => simp [segsC, mkN, textsL]
  | case4 => simp [segsC, mkN, textsL]
noncomputable def dueF (l : List Int) (s t : Nat) : List Nat := (enc ((l.drop s).take (t - s))).dropLast
noncomputable def dueL (l : List Int) (ss ts : List Nat) : List (List Nat) := List.zipWith (dueF l) ss ts
theorem dueF_s (a b c : Int) (r : List Int) (s t : Nat) : dueF (a :: b :: c :: r) (s + 3) (t + 3) = dueF r s t := by
  unfold dueF
  rw [show t + 3 - (s + 3) = t - s by omega]; rfl
theorem dueL_s (a b c : Int) (r : List Int) : ∀ (ss ts : List Nat), dueL (a :: b :: c :: r) (ss.map (· + 3)) (ts.map (· + 3)) = dueL r ss ts
  | [], _ => by simp [dueL]
  | _ :: _, [] => by simp [dueL]
  | s :: ss, t :: ts => by
    have := dueL_s a b c r ss ts
    unfold dueL at *
    simp only [List.map_cons, List.zipWith_cons_cons, this, dueF_s]
noncomputable def lastN (l : List Nat) : Nat := l.getLastD 0
theorem lastN_map : ∀ (l : List Nat) (d : Nat), (l.map (· + 3)).getLastD (d + 3) = l.getLastD d + 3
  | [], d => rfl
  | x :: l, d => by rw [List.map_cons, List.getLastD_cons, List.getLastD_cons]; exact lastN_map l x
theorem due_segs : ∀ l : List Int, dueL l (0 :: mkN l) (mkN l) ++ [enc (l.drop ((mkN l).getLastD 0))] = (segsC l).1 :: (segsC l).2 := by
  intro l
  induction l using enc.induct with
  | case1 a b c r ih =>
    rw [segsC, mkN]
    split
    · rename_i h
      have e1 : dueL (a :: b :: c :: r) (0 :: 3 :: (mkN r).map (· + 3)) (3 :: (mkN r).map (· + 3)) = dueF (a :: b :: c :: r) 0 3 :: dueL (a :: b :: c :: r) ((0 :: mkN r).map (· + 3)) ((mkN r).map (· + 3)) := rfl
      have e2 : dueF (a :: b :: c :: r) 0 3 = [sg (a / 4), sg (a % 4 * 16 + b / 16), sg (b % 16 * 4 + c / 64)] := by
        simp [dueF, enc, quad]
      have e3 : (3 :: (mkN r).map (· + 3)).getLastD 0 = (mkN r).getLastD 0 + 3 := by rw [List.getLastD_cons]; exact lastN_map (mkN r) 0
      rw [e1, e2, dueL_s, e3]
      show _ :: (dueL r (0 :: mkN r) (mkN r) ++ [enc (r.drop ((mkN r).getLastD 0))]) = _
      rw [ih]
    · cases hm : mkN r with
      | nil =>
        rw [hm] at ih
        obtain ⟨i1, i2⟩ := List.cons.inj (show enc (r.drop 0) :: [] = _ from ih)
        show enc (a :: b :: c :: r) :: [] = _
        rw [← i1, ← i2]
        rfl
      | cons m M =>
        rw [hm] at ih
        have hmb := mkN_b r m (by rw [hm]; exact .head _)
        have e0 : dueL r (0 :: m :: M) (m :: M) = dueF r 0 m :: dueL r (m :: M) M := rfl
        rw [e0] at ih
        obtain ⟨i1, i2⟩ := List.cons.inj (show dueF r 0 m :: (dueL r (m :: M) M ++ [enc (r.drop ((m :: M).getLastD 0))]) = _ from ih)
        have e1 : dueL (a :: b :: c :: r) (0 :: (m :: M).map (· + 3)) ((m :: M).map (· + 3)) = dueF (a :: b :: c :: r) 0 (m + 3) :: dueL (a :: b :: c :: r) ((m :: M).map (· + 3)) (M.map (· + 3)) := rfl
        have e2 : dueF (a :: b :: c :: r) 0 (m + 3) = quad a b c ++ dueF r 0 m := by
          unfold dueF
          rw [List.drop_zero, List.drop_zero, Nat.sub_zero, Nat.sub_zero, enc_app3, List.dropLast_append_of_ne_nil]
          intro h0
          have : r.take m ≠ [] := by
            intro h1
            rcases List.take_eq_nil_iff.mp h1 with h2 | h2
            · omega
            · rw [h2, List.length_nil] at hmb; omega
          revert h0 this
          cases r.take m with
          | nil => intro _ h; exact absurd rfl h
          | cons x xs => 
            rcases xs with _ | ⟨y, _ | ⟨z, w⟩⟩ <;> simp [enc, quad]
        have e3 : ((m :: M).map (· + 3)).getLastD 0 = (m :: M).getLastD 0 + 3 := by rw [List.map_cons, List.getLastD_cons, List.getLastD_cons]; exact lastN_map M m
        rw [e1, e2, dueL_s, e3]
        show (quad a b c ++ dueF r 0 m) :: (dueL r (m :: M) M ++ [enc (r.drop ((m :: M).getLastD 0))]) = _
        rw [i1, i2]
  | case2 a b => rfl
  | case3 a => rfl
  | case4 => rfl
end

-- LawB

section
open PySem PySem.W PyProof.Rows PySem.Calls PySem.Spec
theorem Spec.mono {w : World} {mean : ExcName → Option Value} {mg mb : Str → Option Value} {f : Addr} {dd uu : Nat} {args : List Value} {Pre Pre' : Heap → Prop} {Post Post' : Heap → Value → Heap → Prop}
    (S : Spec w mean mg mb f dd uu args Pre Post) (hp : ∀ h, Pre' h → Pre h) (hq : ∀ h r h', Pre' h → Post h r h' → Post' h r h') : Spec w mean mg mb f dd uu args Pre' Post' := by
  intro dp un gd cn cs a ccd cl outer A₀ base h₀ L m s Q E B F X T hk hdp hu hpre hret
  exact S dp un gd cn cs a ccd cl outer A₀ base h₀ L m s Q E B F X T hk hdp hu (hp _ hpre) fun r h' tk' hk hP => hret r h' tk' hk (hq _ _ _ hpre hP)
theorem written_len (ns : List Int) (h : ns.length ≤ 40) : (writtenS ns).length ≤ 100 := by
  rw [written_eq, mkS_len, List.length_append, List.length_take, List.length_replicate, ful_len]
  have := spare_le ns
  have : (fullOf ns).length = ns.length + spareOf ns := by simp [fullOf]
  omega
theorem written_spec2 (w : World) (mean : ExcName → Option Value) (mg mb : Str → Option Value) (l : Addr) (vs : List Value) (ns : List Int) : Spec w mean mg mb 208 8 100 [.ref l] (fun h => h.IsList l vs.toArray ∧ IntsAre vs ns ∧ ns.length ≤ 40)
   (fun h r h' => ∃ y u, r = .str y u ∧ y = writtenS ns ∧ y.length ≤ 100) :=
  Spec.mono (written_spec w mean mg mb l vs ns) (fun _ h => h) fun h r h' hp ⟨u, e⟩ => ⟨_, u, e, rfl, written_len ns hp.2.2⟩
noncomputable def dropS (x : Str) : Str := Txt.slice x none (some (-1))
noncomputable def dueAt (OS ST SP : List Int) (k : Nat) : Str := dropS (writtenS ((OS.drop (ST.getD k 0).toNat).take (min (SP.getD k 0).toNat OS.length - (ST.getD k 0).toNat)))
theorem marks_b {OS MS : List Int} (h : MS = marksOf OS) : ∀ m ∈ MS, 3 ≤ m ∧ m ≤ OS.length := by
  subst h
  intro m hm
  obtain ⟨k, hk, rfl⟩ := List.mem_map.mp (List.mem_filter.mp hm).1
  have := List.mem_range.mp hk
  omega
theorem starts_b {OS MS : List Int} (h : ∀ m ∈ MS, 3 ≤ m ∧ m ≤ OS.length) : ∀ k, 0 ≤ (0 :: MS).getD k 0 ∧ (0 :: MS).getD k 0 ≤ OS.length := by
  intro k
  rw [List.getD_eq_getElem?_getD]
  cases e : (0 :: MS)[k]? with
  | none => simp
  | some m =>
    rcases List.mem_cons.mp (List.mem_of_getElem? e) with rfl | hm
    · simp
    · have := h m hm
      simp only [Option.getD_some]; omega
theorem stops_b {OS MS : List Int} (h : ∀ m ∈ MS, 3 ≤ m ∧ m ≤ OS.length) : ∀ k, 0 ≤ (MS ++ [(OS.length : Int)]).getD k 0 ∧ (MS ++ [(OS.length : Int)]).getD k 0 ≤ OS.length := by
  intro k
  rw [List.getD_eq_getElem?_getD]
  cases e : (MS ++ [(OS.length : Int)])[k]? with
  | none => simp
  | some m =>
    rcases List.mem_append.mp (List.mem_of_getElem? e) with hm | hm
    · have := h m hm
      simp only [Option.getD_some]; omega
    · rw [List.mem_singleton.mp hm]; simp
theorem ints_to {vs : List Value} {ns ms : List Int} (h : IntsAre vs ns) (e : ns = ms) : IntsAre vs ms := e ▸ h
theorem due_step {ys : List Value} {i : Nat} {f : Nat → Str} {y : Str} {t : Tok} (h : StrsAre ys ((List.range i).map f)) (e : y = f i) : StrsAre (ys ++ [.str y t]) ((List.range (i + 1)).map f) := by
  subst e
  rw [List.range_succ, List.map_append]
  exact strs_app h (.cons _ _ .nil)
section
variable {prog : Program} {w : World} {A : Around} {E : Value → Shared → Prop} {s : Shared} {h₀ : Heap} {m : Str → Option Value} {env : Env}
theorem finA2 {R : Shared → Prop} {L : Addr} {y : Str} {py : Pos} {D C : Addr} {h : Heap} {tk : Nat} {m' : Str → Option Value} {ys : List Value} {nx : List (Addr × Obj)} (d : CDone h₀ L m h D C m' ys nx)
    (k : ∀ h' tk', Fr h₀ L h' (fun z => if z = y then some (.ref D) else m z) → News h₀ L h' ((D, LCg.lst ys) :: nx) → LCg.Off1 D nx → R { s with heap := h', toks := tk' })
    (hL : env.locals = L := by rfl) (hy : env.kindOf y = some .local := by rfl) (hp : (env.scope.kind == .class || (env.scope.kind == .module && env.locals != env.globals)) = false := by rfl) :
    compPost (model prog w) A E (some (assign (.Name y py) env)) (fun _ s' => R s') (.ref D) C (.ok .next) { s with heap := h, toks := tk } := by
  subst hL
  exact finA (Q := fun _ s' => R s') hy hp d k
end
theorem octs_b {VS : List Int} (h : ∀ v ∈ VS, 0 ≤ v ∧ v < 4096) : ∀ x ∈ VS.flatMap octetsOf, 0 ≤ x ∧ x < 128 := by
  intro x hx
  obtain ⟨v, hv, hx⟩ := List.mem_flatMap.mp hx
  have := h v hv
  unfold octetsOf at hx
  rw [Int.fdiv_eq_ediv_of_nonneg _ (by decide), Int.fmod_eq_emod_of_nonneg _ (by decide)] at hx
  split at hx
  · rw [List.mem_singleton.mp hx]; omega
  · simp only [List.mem_cons, List.not_mem_nil, or_false] at hx
    omega
theorem b64tail_len (p : Array UInt8) : (b64tail p).length ≤ 3 := by
  unfold b64tail
  split
  · simp
  · split <;> simp
theorem b64_spec2 (w : World) (mean : ExcName → Option Value) (mg mb : Str → Option Value) (p : Array UInt8) (t : Tok) : Spec w mean mg mb 58 12 200 [.bytes p t] (fun _ => p.size ≤ 40)
   (fun h r h' => ∃ W u, r = .bytes W u ∧ W = ((b64all p).map fun n => n.toNat.toUInt8).toArray ∧ W.size ≤ 100) :=
  Spec.mono (b64_spec w mean mg mb p t) (fun _ h => h) fun h r h' hp ⟨u, e⟩ => ⟨_, u, e, rfl, by
    have := loF_len p p.size
    have := b64tail_len p
    simp only [List.size_toArray, List.length_map, b64all, List.length_append]
    omega⟩
noncomputable def chrS (c : UInt8) : Str := mkS [c.toNat]
end

-- PlE

section
open PySem PySem.W PyProof.Rows PySem.Builtin PySem.Builtin.Str
theorem marks_mkN : ∀ OS : List Int, marksOf OS = (mkN OS).map (fun n : Nat => (n : Int)) := by
  intro l
  induction l using enc.induct with
  | case1 a b c r ih =>
    have e1 : (a :: b :: c :: r).length / 3 = r.length / 3 + 1 := by simp only [List.length_cons]; omega
    have e2 : ∀ k : Nat, markAt (a :: b :: c :: r) (3 + ((k + 1 : Nat) : Int) * 3) = markAt r (3 + (k : Int) * 3) := fun k => by
      unfold markAt
      rw [show (3 + ((k + 1 : Nat) : Int) * 3 - 1).toNat = (3 + (k : Int) * 3 - 1).toNat + 3 by omega]
      rfl
    have e3 : ∀ l : List Nat, (l.map fun k : Nat => (3 + ((k + 1 : Nat) : Int) * 3)).filter (markAt (a :: b :: c :: r)) = ((l.map fun k : Nat => (3 + (k : Int) * 3)).filter (markAt r)).map (· + 3) := by
      intro l
      induction l with
      | nil => rfl
      | cons k l ih2 =>
        simp only [List.map_cons, List.filter_cons, e2, ih2]
        split
        · rw [List.map_cons]; congr 1; omega
        · rfl
    have e4 : ((List.range (r.length / 3)).map fun k : Nat => (3 + ((k + 1 : Nat) : Int) * 3)).filter (markAt (a :: b :: c :: r)) = ((mkN r).map (fun n : Nat => (n : Int))).map (· + 3) := by
      rw [e3, ← ih]; rfl
    have e5 : ((mkN r).map (fun n : Nat => (n : Int))).map (· + 3) = ((mkN r).map (· + 3)).map (fun n : Nat => (n : Int)) := by
      rw [List.map_map, List.map_map]
      exact List.map_congr_left fun n _ => by simp
    have e6 : markAt (a :: b :: c :: r) (3 + ((0 : Nat) : Int) * 3) = (c % 64 == 63) := by
      show (c.fmod 64 == 63) = _
      rw [Int.fmod_eq_emod_of_nonneg _ (by decide)]
    rw [e5] at e4
    unfold marksOf
    rw [e1, List.range_succ_eq_map, List.map_cons, List.map_map, List.filter_cons, e6, mkN]
    by_cases h : c % 64 = 63
    · rw [if_pos h, if_pos (by simpa using h)]
      rw [List.map_cons]
      congr 1
    · rw [if_neg h, if_neg (by simpa using h)]
      exact e4
  | case2 a b => simp [marksOf, mkN]
  | case3 a => simp [marksOf, mkN]
  | case4 => rfl
theorem dropS_mk (l : List Nat) : dropS (mkS l) = mkS l.dropLast := by
  unfold dropS
  cases l with
  | nil => decide +kernel
  | cons a l =>
    have h := StrLaws.sliceText_to_neg (x := mkS (a :: l)) (j := -1) (by decide) (by rw [mkS_len]; simp only [List.length_cons]; omega)
    rw [show Txt.slice (mkS (a :: l)) none (some (-1)) = StrLaws.sliceText (mkS (a :: l)) none (some (-1)) from rfl, h]
    rw [mkS_len, mkS_cps, List.dropLast_eq_take, List.drop_zero]
    rw [show (-1 + ((a :: l).length : Int) - 0).toNat = (a :: l).length - 1 by simp only [List.length_cons]; omega]
theorem due_all {OS : List Int} (hO : ∀ x ∈ OS, 0 ≤ x ∧ x < 128) {ST SP MS : List Int} (hM : MS = marksOf OS) (hST : ST = 0 :: MS) (hSP : SP = MS ++ [(OS.length : Int)]) :
    (List.range MS.length).map (dueAt OS ST SP) ++ [writtenS (OS.drop (ST.getLastD 0).toNat)] = mkS (segsC OS).1 :: (segsC OS).2.map mkS := by
  have hO2 : ∀ x ∈ OS, 0 ≤ x ∧ x < 256 := fun x hx => ⟨(hO x hx).1, by have := (hO x hx).2; omega⟩
  have hd := due_segs OS
  have e1 : mkS (segsC OS).1 :: (segsC OS).2.map mkS = ((segsC OS).1 :: (segsC OS).2).map mkS := rfl
  rw [e1, ← hd, List.map_append, List.map_singleton]
  have hM2 : MS = (mkN OS).map (fun n : Nat => (n : Int)) := hM.trans (marks_mkN OS)
  have hl : MS.length = (mkN OS).length := by rw [hM2, List.length_map]
  congr 1
  · apply List.ext_getElem
    · simp [dueL, hl]
    · intro i h1 h2
      have hi : i < (mkN OS).length := by simpa [hl] using h1
      have hmb := mkN_b OS ((mkN OS)[i]) (List.getElem_mem hi)
      simp only [List.getElem_map, List.getElem_range, dueL, List.getElem_zipWith]
      have es : (ST.getD i 0).toNat = (0 :: mkN OS)[i]'(by simp; omega) := by
        rw [hST, hM2]
        cases i with
        | zero => rfl
        | succ j => simp [List.getD_eq_getElem?_getD, List.getElem?_eq_getElem (show j < (mkN OS).length by omega)]
      have et : (SP.getD i 0).toNat = (mkN OS)[i] := by
        rw [hSP, hM2, List.getD_eq_getElem?_getD, List.getElem?_append_left (by simpa using hi)]
        simp [List.getElem?_eq_getElem hi]
      unfold dueAt dueF
      rw [es, et, written_enc _ (fun x hx => hO2 x (List.mem_of_mem_drop (List.mem_of_mem_take hx))), dropS_mk]
      congr 4
      omega
  · congr 1
    rw [written_enc _ (fun x hx => hO2 x (List.mem_of_mem_drop hx))]
    congr 3
    rw [hST, List.getLastD_cons, hM2]
    have : ∀ (l : List Nat) (d : Nat), ((l.map (fun n : Nat => (n : Int))).getLastD (d : Int)).toNat = l.getLastD d := by
      intro l
      induction l with
      | nil => intro d; simp
      | cons a l ih => intro d; rw [List.map_cons, List.getLastD_cons, List.getLastD_cons]; exact ih a
    exact this (mkN OS) 0
theorem enc_len : ∀ l : List Int, (enc l).length ≤ 4 * ((l.length + 2) / 3) := by
  intro l
  induction l using enc.induct with
  | case1 a b c r ih => simp only [enc, quad, List.length_append, List.length_cons, List.length_nil] at *; omega
  | case2 a b => simp [enc]
  | case3 a => simp [enc]
  | case4 => simp [enc]
theorem path_eq {OS : List Int} (hO : ∀ x ∈ OS, 0 ≤ x ∧ x < 256) {W : Array UInt8} (hW : W = ((b64all (byteArr OS)).map fun n => n.toNat.toUInt8).toArray) :
    Txt.join (Str.ofString "") (W.toList.map chrS) = mkS (enc OS) := by
  have e : W.toList = (enc OS).map fun n : Nat => n.toUInt8 := by
    rw [hW, show byteArr OS = byt OS from rfl, b64all_enc OS hO, List.map_map]
    rfl
  have hlt : ∀ l : List Int, ∀ n ∈ enc l, n < 128 := by
    intro l
    induction l using enc.induct with
    | case1 a b c r ih =>
      intro n hn
      simp only [enc, quad, List.cons_append, List.nil_append, List.mem_cons] at hn
      rcases hn with rfl | rfl | rfl | rfl | hn
      · exact sg_lt
      · exact sg_lt
      · exact sg_lt
      · exact sg_lt
      · exact ih n hn
    | case2 a b =>
      intro n hn
      simp only [enc, List.mem_cons, List.not_mem_nil, or_false] at hn
      rcases hn with rfl | rfl | rfl | rfl
      · exact sg_lt
      · exact sg_lt
      · exact sg_lt
      · decide
    | case3 a =>
      intro n hn
      simp only [enc, List.mem_cons, List.not_mem_nil, or_false] at hn
      rcases hn with rfl | rfl | rfl | rfl
      · exact sg_lt
      · exact sg_lt
      · decide
      · decide
    | case4 => intro n hn; simp [enc] at hn
  rw [e, List.map_map]
  have e2 : (enc OS).map (chrS ∘ fun n : Nat => n.toUInt8) = (enc OS).map fun n => mkS [n] := List.map_congr_left fun n hn => by
    have := hlt OS n hn
    show mkS [n.toUInt8.toNat] = _
    congr 2
    simp
    omega
  rw [e2]
  show glued _ _ = _
  rw [StrLaws.glued_eq_join, emp]
  generalize enc OS = l
  have : ∀ (l : List Nat), Str.join (mkS []) (l.map fun n => mkS [n]) = mkS l := by
    intro l
    induction l with
    | nil => rfl
    | cons a l ih =>
      cases l with
      | nil => rfl
      | cons b l =>
        show mkS [a] ++ mkS [] ++ Str.join (mkS []) ((b :: l).map fun n => mkS [n]) = _
        rw [ih, mkS_app, mkS_app]; simp
  exact this l
end

-- LawC

section
open PySem PySem.W PyProof.Rows PySem.Calls PySem.Spec PyProof.V
theorem chr_fits (l : List UInt8) (h : l.length ≤ 100) : ((l.map chrS).map (·.length)).sum + (l.map chrS).length * (Str.ofString "").length ≤ 16777216 := by
  have : ∀ l : List UInt8, ((l.map chrS).map (·.length)).sum = l.length := by
    intro l
    induction l with
    | nil => rfl
    | cons a l ih =>
      simp only [List.map_cons, List.sum_cons, ih, List.length_cons]
      have : (chrS a).length = 1 := rfl
      omega
  rw [this, emp, mkS_len]
  simp only [List.length_nil, Nat.mul_zero]
  omega
noncomputable def okS (x : Str) : Prop := ∀ n ∈ x.cps.toList, n < 128
theorem okS_ok {x : Str} (h : okS x) : PyData.strOk x = true := by
  unfold PyData.strOk
  rw [← Array.all_toList, List.all_eq_true]
  intro n hn
  have := h n hn
  simp only [decide_eq_true_eq]
  omega
theorem canLay_strs : ∀ ns : List Str, (∀ x ∈ ns, okS x) → PyData.canLayAll0 (ns.map PyData.str) = true
  | [], _ => rfl
  | x :: r, h => by simp [PyData.canLayAll0, PyData.canLay0, canLay_strs r fun y hy => h y (.tail _ hy), okS_ok (h x (.head _))]
theorem depth_strs : ∀ ns : List Str, PyData.depthAll (ns.map PyData.str) = 0
  | [] => rfl
  | _ :: r => by simp [PyData.depthAll, PyData.depth, depth_strs r]
theorem shaped_strs (ns : List Str) (h : ∀ x ∈ ns, okS x) : SeqAt.shaped (.list (ns.map PyData.str)) = true := by
  simp [SeqAt.shaped, PyData.canLay0, PyData.depth, canLay_strs ns h, depth_strs]
theorem same_strs : ∀ ns ms : List Str, PySem.Spec.sameAll (ns.map PyData.str) (ms.map PyData.str) = decide (ns = ms)
  | [], [] => by simp [PySem.Spec.sameAll]
  | [], _ :: _ => by simp [PySem.Spec.sameAll]
  | _ :: _, [] => by simp [PySem.Spec.sameAll]
  | a :: r, b :: t => by
    simp only [List.map_cons, PySem.Spec.sameAll, PySem.Spec.same, same_strs r t]
    by_cases h : a = b <;> by_cases h' : r = t <;> simp [h, h']
theorem carried_strs : ∀ {vs : List Value} {ns : List Str}, StrsAre vs ns → CarriedAll vs (ns.map PyData.str)
  | _, _, .nil => .nil
  | _, _, .cons _ t r => .cons (.str _ t) (carried_strs r)
section
variable {prog : Program} {w : World} {A : Around} {E : Value → Shared → Prop} {s : Shared} {a b : Addr} {xs ys : List Value} {ns ms : List Str} {Q : Value → Shared → Prop}
theorem ne_strs (ha : s.heap.IsList a xs.toArray) (hb : s.heap.IsList b ys.toArray) (hi : StrsAre xs ns) (hj : StrsAre ys ns) (hok : ∀ x ∈ ns, okS x) (hu : A.units + 64 < cLine) (h : Q (.bool false) s) :
    wpAny (model prog w) A (compareOp .NotEq (.ref a) (.ref b)) Q E s :=
  ne_dataH_same (reads_newData ha (carried_strs hi)) (reads_newData hb (carried_strs hj)) (shaped_strs _ hok) (shaped_strs _ hok) hu (SeqAt.noMix_of_shape (.list .str) rfl _ _ (list_map_has fun _ => rfl) (list_map_has fun _ => rfl)) (by rw [show PySem.Spec.same (.list (ns.map PyData.str)) (.list (ns.map PyData.str)) = true from by simp only [PySem.Spec.same]; rw [same_strs ns ns]; simp]; exact h)
end
theorem canLay_intss : ∀ nss : List (List Int), PyData.canLayAll0 (nss.map fun ns => PyData.list (ns.map PyData.int)) = true
  | [] => rfl
  | ns :: r => by simp [PyData.canLayAll0, PyData.canLay0, canLay_intss r, ke_canLayAll0]
theorem depth_intss : ∀ nss : List (List Int), PyData.depthAll (nss.map fun ns => PyData.list (ns.map PyData.int)) ≤ 1
  | [] => by simp [PyData.depthAll]
  | ns :: r => by
    have := depth_intss r
    simp only [List.map_cons, PyData.depthAll, PyData.depth, ke_depthAll]
    omega
theorem shaped_intss (nss : List (List Int)) : SeqAt.shaped (.list (nss.map fun ns => PyData.list (ns.map PyData.int))) = true := by
  have := depth_intss nss
  simp only [SeqAt.shaped, PyData.canLay0, PyData.depth, canLay_intss]
  simp
  omega
theorem same_intss : ∀ ns ms : List (List Int), PySem.Spec.sameAll (ns.map fun ns => PyData.list (ns.map PyData.int)) (ms.map fun ns => PyData.list (ns.map PyData.int)) = decide (ns = ms)
  | [], [] => by simp [PySem.Spec.sameAll]
  | [], _ :: _ => by simp [PySem.Spec.sameAll]
  | _ :: _, [] => by simp [PySem.Spec.sameAll]
  | a :: r, b :: t => by
    simp only [List.map_cons, PySem.Spec.sameAll, ke_same, same_intss r t]
    by_cases h : a = b <;> by_cases h' : r = t <;> simp [h, h']
/-- a list's items are lists of ints, each in the ledger -/
inductive IntLs (nx : List (Addr × Obj)) : List Value → List (List Int) → Prop
  | nil : IntLs nx [] []
  | cons {a : Addr} {zs : List Value} {k : Nat} {ns : List Int} {vs : List Value} {nss : List (List Int)} : (a, W.listOf zs.toArray k) ∈ nx → IntsAre zs ns → IntLs nx vs nss → IntLs nx (.ref a :: vs) (ns :: nss)
theorem IntLs.weaken {nx nx' : List (Addr × Obj)} (hs : ∀ p ∈ nx, p ∈ nx') : ∀ {vs : List Value} {nss : List (List Int)}, IntLs nx vs nss → IntLs nx' vs nss
  | _, _, .nil => .nil
  | _, _, .cons h i r => .cons (hs _ h) i (r.weaken hs)
theorem IntLs.app {nx : List (Addr × Obj)} : ∀ {vs ws : List Value} {ns ms : List (List Int)}, IntLs nx vs ns → IntLs nx ws ms → IntLs nx (vs ++ ws) (ns ++ ms)
  | _, _, _, _, .nil, h => h
  | _, _, _, _, .cons h i r, k => .cons h i (r.app k)
theorem IntLs.len_eq {nx : List (Addr × Obj)} : ∀ {vs : List Value} {ns : List (List Int)}, IntLs nx vs ns → vs.length = ns.length
  | _, _, .nil => rfl
  | _, _, .cons _ _ r => by simp [r.len_eq]
theorem IntLs.reads {h₀ h : Heap} {L : Addr} {nx : List (Addr × Obj)} (N : News h₀ L h nx) : ∀ {vs : List Value} {nss : List (List Int)}, IntLs nx vs nss → ∃ as, ReadsAll h vs (nss.map fun ns => PyData.list (ns.map PyData.int)) as
  | _, _, .nil => ⟨_, .nil⟩
  | _, _, .cons hm hi r => by
    obtain ⟨as, hr⟩ := IntLs.reads N r
    exact ⟨_, .cons (reads_newData (N.isList hm) (ke_carried hi)) hr⟩
section
variable {prog : Program} {w : World} {A : Around} {E : Value → Shared → Prop} {s : Shared} {h₀ : Heap} {L a b : Addr} {xs ys : List Value} {ns ms : List (List Int)} {Q : Value → Shared → Prop} {news : List (Addr × Obj)} {k j : Nat}
theorem eq_intss (N : News h₀ L s.heap news) (ha : (a, W.listOf xs.toArray k) ∈ news) (hb : (b, W.listOf ys.toArray j) ∈ news) (hi : IntLs news xs ns) (hj : IntLs news ys ms) (hu : A.units + 64 < cLine) (h : Q (.bool (decide (ns = ms))) s) :
    wpAny (model prog w) A (compareOp .Eq (.ref a) (.ref b)) Q E s := by
  obtain ⟨as, ra⟩ := hi.reads N
  obtain ⟨bs, rb⟩ := hj.reads N
  refine eq_dataH_same (reads_list_at (News.get N ha) rfl rfl ra) (reads_list_at (News.get N hb) rfl rfl rb) (shaped_intss _) (shaped_intss _) hu (SeqAt.noMix_of_shape (.list (.list .int)) rfl _ _ (list_map_has fun _ => list_map_has fun _ => rfl) (list_map_has fun _ => list_map_has fun _ => rfl)) ?_
  rw [show PySem.Spec.same (.list (ns.map fun ns => PyData.list (ns.map PyData.int))) (.list (ms.map fun ns => PyData.list (ns.map PyData.int))) = decide (ns = ms) from by simp only [PySem.Spec.same]; exact same_intss ns ms]
  exact h
end
theorem octs_ne {VS : List Int} (h : VS ≠ []) : VS.flatMap octetsOf ≠ [] := by
  cases VS with
  | nil => exact absurd rfl h
  | cons v l =>
    intro e
    rw [List.flatMap_cons] at e
    have := (List.append_eq_nil_iff.mp e).1
    unfold octetsOf at this
    split at this <;> cases this
theorem vals_ne (l : List Int) : valsOf l ≠ [] := by unfold valsOf; simp
theorem chr_step {W : Array UInt8} {ys : List Value} {i : Nat} {c : UInt8} {t : Tok} (h : StrsAre ys ((W.toList.take i).map chrS)) (hc : W[i]? = some c) : StrsAre (ys ++ [.str ⟨#[((c.toNat : Nat) : Int).toNat]⟩ t]) ((W.toList.take (i + 1)).map chrS) := by
  rw [take_succ' (by simpa using hc), List.map_append]
  exact strs_app h (.cons _ _ .nil)
theorem enc_lt : ∀ l : List Int, ∀ n ∈ enc l, n < 128 := by
  intro l
  induction l using enc.induct with
  | case1 a b c r ih =>
    intro n hn
    simp only [enc, quad, List.cons_append, List.nil_append, List.mem_cons] at hn
    rcases hn with rfl | rfl | rfl | rfl | hn
    · exact sg_lt
    · exact sg_lt
    · exact sg_lt
    · exact sg_lt
    · exact ih n hn
  | case2 a b =>
    intro n hn
    simp only [enc, List.mem_cons, List.not_mem_nil, or_false] at hn
    rcases hn with rfl | rfl | rfl | rfl
    · exact sg_lt
    · exact sg_lt
    · exact sg_lt
    · decide
  | case3 a =>
    intro n hn
    simp only [enc, List.mem_cons, List.not_mem_nil, or_false] at hn
    rcases hn with rfl | rfl | rfl | rfl
    · exact sg_lt
    · exact sg_lt
    · decide
    · decide
  | case4 => intro n hn; simp [enc] at hn
theorem enc_46 : ∀ l : List Int, 46 ∉ enc l := by
  intro l
  have g : ∀ v, ¬ 46 = sg v := fun v e => sg_46 e.symm
  induction l using enc.induct with
  | case1 a b c r ih => simp [enc, quad, g, ih]
  | case2 a b => simp [enc, g]
  | case3 a => simp [enc, g]
  | case4 => simp [enc]
theorem fr_mem : ∀ (r : List (List Nat)) (c : List Nat), (∀ n ∈ c, n ∈ fr c r) ∧ ∀ x ∈ r, ∀ n ∈ x, n ∈ fr c r
  | [], c => ⟨fun n h => h, fun x hx => nomatch hx⟩
  | x :: r, c => by
    have ih := fr_mem r x
    rw [fr_cons]
    refine ⟨fun n hn => List.mem_append_left _ hn, fun y hy n hn => List.mem_append_right _ (.tail _ ?_)⟩
    rcases List.mem_cons.mp hy with rfl | hy
    · exact ih.1 n hn
    · exact ih.2 y hy n hn
theorem fr_take (c : List Nat) (r : List (List Nat)) (i : Nat) : ∃ q, fr c r = fr c (r.take i) ++ q := by
  have e : r = r.take i ++ r.drop i := (List.take_append_drop i r).symm
  have h : ∀ (r1 r2 : List (List Nat)) (c : List Nat), ∃ q, fr c (r1 ++ r2) = fr c r1 ++ q := by
    intro r1 r2 c
    induction r2 generalizing r1 with
    | nil => exact ⟨[], by simp⟩
    | cons x r2 ih =>
      obtain ⟨q, hq⟩ := ih (r1 ++ [x])
      refine ⟨47 :: x ++ q, ?_⟩
      rw [List.append_assoc] at hq
      rw [show r1 ++ x :: r2 = r1 ++ ([x] ++ r2) from rfl, hq, fr_snoc]
      simp
  obtain ⟨q, hq⟩ := h (r.take i) (r.drop i) c
  exact ⟨q, by rw [← hq, List.take_append_drop]⟩
theorem getD_last (l : List Int) (h : l ≠ []) : l.getD (-1 + (l.length : Int)).toNat 0 = l.getLastD 0 := by
  have hl := List.length_pos_iff.mpr h
  rw [show (-1 + (l.length : Int)).toNat = l.length - 1 by omega, List.getD_eq_getElem?_getD, ← List.getLast?_eq_getElem?]
  rw [List.getLastD_eq_getLast?]
/-- what the walk is told of the pieces -/
structure Plain (OS MS ST SP : List Int) (c : List Nat) (r : List (List Nat)) : Prop where
  cc : c ≠ [] ∧ 47 ∉ c
  r47 : ∀ x ∈ r, 47 ∉ x
  rne : ∀ x ∈ r.dropLast, x ≠ []
  efr : enc OS = fr c r
  due : (List.range MS.length).map (dueAt OS ST SP) ++ [writtenS (OS.drop (ST.getD (-1 + (ST.length : Int)).toNat 0).toNat)] = mkS c :: r.map mkS
  len : (fr c r).length ≤ 40
  rl : r.length = MS.length
  txt : (List.range r.length).map (fun i => fr c (r.take i) ++ [47]) ++ [fr c r] = (mkN OS ++ [OS.length]).map fun t => enc (OS.take t)
  lt : ∀ n ∈ fr c r, n < 128
theorem plain {OS MS ST SP : List Int} (hO : ∀ x ∈ OS, 0 ≤ x ∧ x < 128) (hne : OS ≠ []) (hl : OS.length ≤ 28) (hM : MS = marksOf OS) (hST : ST = 0 :: MS) (hSP : SP = MS ++ [(OS.length : Int)]) : ∃ c r, Plain OS MS ST SP c r := by
  have hd := due_all hO hM hST hSP
  have hs : ST ≠ [] := by rw [hST]; simp
  rw [← getD_last ST hs] at hd
  refine ⟨(segsC OS).1, (segsC OS).2, ⟨(segs_ne OS).1 hne, (segs_free OS hO).1⟩, (segs_free OS hO).2, (segs_ne OS).2, (segs_fr OS).symm, hd, ?_, ?_, ?_, ?_⟩
  · rw [segs_fr]
    have := enc_len OS
    omega
  · have := congrArg List.length hd
    simp at this
    omega
  · rw [← textsL_eq, texts_segs]
  · rw [segs_fr]; exact enc_lt OS
section
variable {OS MS ST SP : List Int} {c : List Nat} {r : List (List Nat)} (p : Plain OS MS ST SP c r)
include p
theorem Plain.okP : ∀ x ∈ mkS c :: r.map mkS, okS x := by
  intro x hx n hn
  rcases List.mem_cons.mp hx with rfl | hx
  · exact p.lt n ((fr_mem r c).1 n hn)
  · obtain ⟨y, hy, rfl⟩ := List.mem_map.mp hx
    exact p.lt n ((fr_mem r c).2 y hy n hn)
theorem Plain.front (i : Nat) : (fr c (r.take i)).length ≤ 40 ∧ okS (mkS (fr c (r.take i))) := by
  obtain ⟨q, hq⟩ := fr_take c r i
  have h1 := p.len
  have h2 := p.lt
  rw [hq] at h1 h2
  rw [List.length_append] at h1
  exact ⟨by omega, fun n hn => h2 n (List.mem_append_left _ hn)⟩
theorem Plain.fc (i : Nat) (h : i ≤ r.length) : fcur (mkS c) (r.map mkS) i = mkS (fr c (r.take i)) := fcur_fr p.cc p.rne p.r47 i h
theorem Plain.rx : ∀ x ∈ r.map mkS, x.length ≤ 500 := by
  intro x hx
  obtain ⟨y, hy, rfl⟩ := List.mem_map.mp hx
  have : ∀ (r : List (List Nat)) (c : List Nat), ∀ y ∈ r, y.length ≤ (fr c r).length := by
    intro r
    induction r with
    | nil => intro c y hy; cases hy
    | cons z r ih =>
      intro c y hy
      rw [fr_cons, List.length_append, List.length_cons]
      rcases List.mem_cons.mp hy with rfl | hy
      · have := fr_len y r; omega
      · have := ih z y hy; omega
  have h1 := this r c y hy
  have h2 := p.len
  rw [mkS_len]; omega
theorem Plain.pieces {P : Str} (hP : P = mkS (fr c r)) : (pRun P P.length).ps = mkS c :: r.map mkS := by
  subst hP
  refine pieces_fr p.cc p.rne p.r47 _ ?_
  rw [mkS_len]
  have := fr_len c r
  omega
theorem Plain.heads : (fall (mkS c) (r.map mkS)).map headOf = mkS [] :: (fall (mkS c) (r.map mkS)).dropLast := heads_fr p.cc p.rne p.r47
theorem Plain.fall_eq : fall (mkS c) (r.map mkS) = (List.range r.length).map (fun i => mkS (fr c (r.take i))) ++ [mkS (fr c r)] := by
  unfold fall
  rw [List.length_map, List.range_succ, List.map_append, List.map_singleton]
  congr 1
  · exact List.map_congr_left fun i hi => p.fc i (Nat.le_of_lt (List.mem_range.mp hi))
  · rw [p.fc _ (Nat.le_refl _), List.take_length]
theorem Plain.okF : ∀ x ∈ mkS [] :: (fall (mkS c) (r.map mkS)).dropLast, okS x := by
  intro x hx
  rcases List.mem_cons.mp hx with rfl | hx
  · intro n hn; cases hn
  · rw [p.fall_eq, List.dropLast_concat] at hx
    obtain ⟨i, _, rfl⟩ := List.mem_map.mp hx
    exact (p.front i).2
theorem Plain.fl : ∀ x ∈ fall (mkS c) (r.map mkS), x.length ≤ 40 := by
  intro x hx
  rw [p.fall_eq] at hx
  rcases List.mem_append.mp hx with hx | hx
  · obtain ⟨i, _, rfl⟩ := List.mem_map.mp hx
    rw [mkS_len]; exact (p.front i).1
  · rw [List.mem_singleton.mp hx, mkS_len]; exact p.len
end
theorem strs_snoc : ∀ {ys : List Value} {l : List Str} {x : Str}, StrsAre ys (l ++ [x]) → ∃ ys' t, ys = ys' ++ [.str x t] ∧ StrsAre ys' l
  | _, [], _, .cons _ t .nil => ⟨[], t, rfl, .nil⟩
  | _, _ :: l, x, .cons y t r => by
    obtain ⟨ys', u, rfl, h⟩ := strs_snoc r
    exact ⟨_ :: ys', u, rfl, .cons y t h⟩
section
variable {prog : Program} {w : World} {A : Around} {E : Value → Shared → Prop} {s : Shared} {h₀ : Heap} {L a b : Addr} {m : Str → Option Value} {news : List (Addr × Obj)} {vs ws : List Value} {ns ms : List Str}
theorem add_strs {Q : Value → Shared → Prop} (F : Fr h₀ L s.heap m) (N : News h₀ L s.heap news) (ha : s.heap.IsList a vs.toArray) (hb : s.heap.IsList b ws.toArray) (hi : StrsAre vs ns) (hj : StrsAre ws ms)
    (h : ∀ D us h', Fr h₀ L h' m → News h₀ L h' ((D, W.listOf (List.toArray us) 0) :: news) → (∀ p ∈ news, p.1 < D) → StrsAre us (ns ++ ms) → Q (.ref D) { s with heap := h' })
    (hz : vs.length + ws.length ≤ sizeLine) : wpAny (model prog w) A (binaryOp .Add (.ref a) (.ref b)) Q E s :=
  add_lists F N ha hb (fun h' F' N' => h _ _ h' F' N' (fun p hp => Heap.lt_size (N p hp).1) (strs_app hi hj)) hz
end
theorem pick_init (ys : List Value) (x : Value) : slicePick (ys ++ [x]).toArray none (some (-1)) none = ys.toArray := by
  rw [kmk_pick_nat _ (kms_bounds none (some (-1)) (ys ++ [x]).toArray.size)]
  simp [kms_lo, kms_hi]
section
variable {prog : Program} {w : World} {A : Around} {E : Value → Shared → Prop} {s : Shared} {h₀ : Heap} {L l : Addr} {m : Str → Option Value} {news : List (Addr × Obj)} {vs ws : List Value} {vl vu : Value} {x : Value} {value slice : Expr}
theorem slice_init {Q : Value → Shared → Prop} (F : Fr h₀ L s.heap m) (N : News h₀ L s.heap news) (hl : s.heap.IsList l (vs ++ [x]).toArray) (pl : IsPart vl none) (pu : IsPart vu (some (-1)))
    (h : ∀ D h', Fr h₀ L h' m → News h₀ L h' ((D, W.listOf vs.toArray 0) :: news) → (∀ p ∈ news, p.1 < D) → Q (.ref D) { s with heap := h' })
    (hs : subscripted slice false (.ref l) (.ref s.heap.objs.size) = operate [.ref s.heap.objs.size, .ref l] (getItem (.ref l) (.ref s.heap.objs.size))) (ht : ∀ r, letTemporaryGo value (.ref l) r = pure ()) (hz : (vs ++ [x]).toArray.size ≤ sizeLine) :
    wpAny (model prog w) A (subscriptTail value slice (.ref l) (.ref s.heap.objs.size)) Q E { s with heap := s.heap.push { cls := .type "slice", data := .fields #[vl, vu, .none] } } :=
  kmk_slice F N hl pl pu (fun D h' F' N' l1 => h D h' F' (by rw [pick_init] at N'; exact N') l1) hs ht hz
end
noncomputable def Sub (news keep : List (Addr × Obj)) : Prop := ∀ p ∈ keep, p ∈ news
theorem Sub.nil {news : List (Addr × Obj)} : Sub news [] := fun _ h => nomatch h
theorem Sub.cons {news : List (Addr × Obj)} {p : Addr × Obj} {keep : List (Addr × Obj)} (h1 : p ∈ news) (h : Sub news keep) : Sub news (p :: keep) := fun q hq => by
  rcases List.mem_cons.mp hq with rfl | hq
  · exact h1
  · exact h q hq
theorem newsSub {h₀ h : Heap} {L : Addr} {news keep : List (Addr × Obj)} (N : News h₀ L h news) (hs : Sub news keep) : News h₀ L h keep := fun p hp => N p (hs p hp)
theorem head_step {ys : List Value} {F : List Str} {i : Nat} {x : Str} {t : Tok} (h : StrsAre ys ((F.take i).map headOf)) (hx : F[i]? = some x) : StrsAre (ys ++ [.str (headOf x) t]) ((F.take (i + 1)).map headOf) := by
  rw [take_succ' hx, List.map_append]
  exact strs_app h (.cons _ _ .nil)
theorem Plain.frl {OS MS ST SP : List Int} {c : List Nat} {r : List (List Nat)} (p : Plain OS MS ST SP c r) : ∀ i, i ≤ (r.map mkS).length → (fcur (mkS c) (r.map mkS) i).length ≤ 500 := fun i hi => by
  rw [p.fc i (by simpa using hi), mkS_len]
  have := (p.front i).1
  omega
theorem fr_head {c : List Nat} {r : List (List Nat)} (hc : c ≠ []) : ∃ a l, c = a :: l ∧ (fr c r).take 1 = [a] := by
  cases c with
  | nil => exact absurd rfl hc
  | cons a l =>
    refine ⟨a, l, rfl, ?_⟩
    cases r with
    | nil => rfl
    | cons x r => rw [fr_cons]; rfl
theorem join_len (sep x : Str) : ∀ l : List Str, x.length ≤ (Str.join sep (x :: l)).length
  | [] => Nat.le_refl _
  | y :: l => by
    show _ ≤ (x ++ sep ++ Str.join sep (y :: l)).length
    rw [Str.length_append, Str.length_append]; omega
section
variable {OS MS ST SP : List Int} {c : List Nat} {r : List (List Nat)} (p : Plain OS MS ST SP c r)
include p
theorem Plain.nil_init : [Str.ofString ""] ++ (List.range r.length).map (fun i => mkS (fr c (r.take i))) = mkS [] :: (fall (mkS c) (r.map mkS)).dropLast := by
  rw [p.fall_eq, List.dropLast_concat, emp]; rfl
theorem Plain.split : Txt.split (mkS (fr c r)) (Str.ofString "/") = mkS c :: r.map mkS := by
  rw [sl47]; exact split_fr p.cc p.r47
theorem Plain.norm {P : Str} (hP : P = mkS (fr c r)) (hM : MS.length ≤ 9) : ((P.length ≤ 1000 ∧ (Txt.slice P none (some 1) != Str.ofString "/") = true) ∧ P.length ≠ 0) ∧ (∀ c ∈ Txt.split P (Str.ofString "/"), (c == Str.ofString ".") = false ∧ (c != Str.ofString "..") = true ∧ c.length ≤ 100) ∧ (Txt.split P (Str.ofString "/")).length ≤ 100 ∧ (npOf P).length ≠ 0 := by
  subst hP
  have hlen := p.len
  have hc0 := List.length_pos_iff.mpr p.cc.1
  have hfl := fr_len c r
  have h46 : 46 ∉ fr c r := p.efr ▸ enc_46 OS
  refine ⟨⟨⟨by rw [mkS_len]; omega, ?_⟩, by rw [mkS_len]; omega⟩, ?_, ?_, ?_⟩
  · obtain ⟨a, l, e1, e2⟩ := fr_head (r := r) p.cc.1
    have e3 := slice_to (fr c r) 1 (by omega)
    rw [show ((1 : Nat) : Int) = 1 from rfl] at e3
    rw [e3, e2, sl47, bne_iff_ne]
    intro h
    have h1 := mkS_inj h
    have : a = 47 := by simpa using h1
    exact p.cc.2 (by rw [e1, this]; exact .head _)
  · rw [p.split]
    have key : ∀ g : List Nat, 46 ∉ g → g.length ≤ 100 → (mkS g == Str.ofString ".") = false ∧ (mkS g != Str.ofString "..") = true ∧ (mkS g).length ≤ 100 := by
      intro g hg hl
      refine ⟨?_, ?_, by rw [mkS_len]; exact hl⟩
      · rw [beq_eq_false_iff_ne, show Str.ofString "." = mkS [46] from by decide +kernel]
        intro h
        exact hg (by rw [mkS_inj h]; exact .head _)
      · rw [bne_iff_ne, show Str.ofString ".." = mkS [46, 46] from by decide +kernel]
        intro h
        exact hg (by rw [mkS_inj h]; exact .head _)
    intro x hx
    rcases List.mem_cons.mp hx with rfl | hx
    · exact key c (fun h => h46 ((fr_mem r c).1 46 h)) (by omega)
    · have hl := p.rx x hx
      obtain ⟨y, hy, rfl⟩ := List.mem_map.mp hx
      refine key y (fun h => h46 ((fr_mem r c).2 y hy 46 h)) ?_
      have : ∀ (r : List (List Nat)) (c : List Nat), ∀ y ∈ r, y.length ≤ (fr c r).length := by
        intro r
        induction r with
        | nil => intro c y hy; cases hy
        | cons z r ih =>
          intro c y hy
          rw [fr_cons, List.length_append, List.length_cons]
          rcases List.mem_cons.mp hy with rfl | hy
          · have := fr_len y r; omega
          · have := ih z y hy; omega
      have := this r c y hy
      omega
  · rw [p.split]
    have := p.rl
    simp only [List.length_cons, List.length_map]
    omega
  · unfold npOf
    rw [p.split]
    have hf : full? (mkS c) = true := by
      unfold full?
      rw [mkS_len]
      simp
      exact p.cc.1
    rw [List.filter_cons, if_pos hf]
    show (Builtin.Str.glued _ _).length ≠ 0
    rw [StrLaws.glued_eq_join]
    have := join_len (Str.ofString "/") (mkS c) ((r.map mkS).filter full?)
    rw [mkS_len] at this
    omega
theorem Plain.norm_eq {P : Str} (hP : P = mkS (fr c r)) : npOf P = Txt.join (Str.ofString "/") ((mkS c :: r.map mkS).filter full?) := by
  subst hP
  unfold npOf
  rw [p.split]
theorem Plain.pieces_fit (hM : MS.length ≤ 9) : (((mkS c :: r.map mkS).filter full?).map (·.length)).sum + ((mkS c :: r.map mkS).filter full?).length * (Str.ofString "/").length ≤ 16777216 := by
  have hn := p.norm rfl hM
  rw [p.split] at hn
  exact join_fits _ (fun x hx => (hn.2.1 x (List.mem_filter.mp hx).1).2.2) (Nat.le_trans (List.length_filter_le ..) hn.2.2.1)
end
theorem full_ne (x : Str) : (x != Str.ofString "") = full? x := by
  unfold full?
  rw [emp]
  by_cases h : x.length = 0
  · have : x = mkS [] := empty_of_len h
    subst this
    rfl
  · have : x ≠ mkS [] := fun e => h (by rw [e]; rfl)
    rw [show (x != mkS []) = true from bne_iff_ne.mpr this, show (x.length == 0) = false from by simpa using h]; rfl
theorem normpath_spec2 (w : World) (mean : ExcName → Option Value) (mg mb : Str → Option Value) (p : Str) (t : Tok) : Spec w mean mg mb 180 12 200 [.str p t] (fun _ => ((p.length ≤ 1000 ∧ (Txt.slice p none (some 1) != Str.ofString "/") = true) ∧ p.length ≠ 0) ∧ (∀ c ∈ Txt.split p (Str.ofString "/"), (c == Str.ofString ".") = false ∧ (c != Str.ofString "..") = true ∧ c.length ≤ 100) ∧ (Txt.split p (Str.ofString "/")).length ≤ 100 ∧ (npOf p).length ≠ 0)
   (fun h r h' => ∃ y u, r = .str y u ∧ y = npOf p) :=
  Spec.mono (normpath_spec w mean mg mb p t) (fun _ h => h) fun h r h' hp ⟨u, e⟩ => ⟨_, u, e, rfl⟩
theorem full_yes {ys : List Value} {F : List Str} {i : Nat} {x : Str} {t : Tok} (h : StrsAre ys ((F.take i).filter full?)) (hx : F[i]? = some x) (hf : full? x = true) : StrsAre (ys ++ [.str x t]) ((F.take (i + 1)).filter full?) := by
  rw [take_succ' hx, List.filter_append]
  exact strs_app h (by simp only [List.filter_cons, hf, if_true, List.filter_nil]; exact .cons _ _ .nil)
theorem full_no {ys : List Value} {F : List Str} {i : Nat} {x : Str} (h : StrsAre ys ((F.take i).filter full?)) (hx : F[i]? = some x) (hf : full? x = false) : StrsAre ys ((F.take (i + 1)).filter full?) := by
  rw [take_succ' hx, List.filter_append]
  simp only [List.filter_cons, hf, List.filter_nil, Bool.false_eq_true, if_false, List.append_nil]
  exact h
theorem strs_size {ys : List Value} {l : List Str} (h : StrsAre ys l) (hl : l.length ≤ 100) (hS : 1000 ≤ sizeLine) : ys.toArray.size ≤ sizeLine := by
  rw [List.size_toArray, h.len_eq]; omega
section
variable {OS MS ST SP : List Int} {c : List Nat} {r : List (List Nat)} (p : Plain OS MS ST SP c r)
include p
theorem Plain.il : ∀ x ∈ (List.range r.length).map (fun i => mkS (fr c (r.take i))), x.length ≤ 40 := by
  intro x hx
  obtain ⟨i, _, rfl⟩ := List.mem_map.mp hx
  rw [mkS_len]; exact (p.front i).1
theorem Plain.texts {P : Str} (hP : P = mkS (fr c r)) : ((List.range r.length).map (fun i => mkS (fr c (r.take i)))).map (fun x => x ++ Str.ofString "/") ++ [P] = (mkN OS ++ [OS.length]).map fun t => mkS (enc (OS.take t)) := by
  have h := congrArg (List.map mkS) p.txt
  rw [List.map_append, List.map_map, List.map_map] at h
  rw [List.map_map, hP, sl47]
  have e : ((fun x : Str => x ++ mkS [47]) ∘ fun i => mkS (fr c (r.take i))) = mkS ∘ fun i => fr c (r.take i) ++ [47] := by
    funext i
    exact mkS_app _ _
  rw [e]
  exact h
end
theorem text_step {ys : List Value} {F : List Str} {i : Nat} {x : Str} {t : Tok} (h : StrsAre ys ((F.take i).map fun x => x ++ Str.ofString "/")) (hx : F[i]? = some x) : StrsAre (ys ++ [.str (x ++ Str.ofString "/") t]) ((F.take (i + 1)).map fun x => x ++ Str.ofString "/") := by
  rw [take_succ' hx, List.map_append]
  exact strs_app h (.cons _ _ .nil)
theorem News.fresh3 {h₀ h h' : Heap} {L a : Addr} {o : Obj} {m : Str → Option Value} {news : List (Addr × Obj)} (F : Fr h₀ L h m) (N : News h₀ L h' news) (e : h'.get? a = some o) (n : h.get? a = none) :
    News h₀ L h' ((a, o) :: news) := fun p hp => by
  rcases List.mem_cons.mp hp with rfl | hp
  · refine ⟨e, fun q => ?_, ?_⟩
    · obtain ⟨oL, _, _, hL, _⟩ := F.ns
      have q' : a = L := q
      rw [← q', n] at hL; cases hL
    · cases z : h₀.get? a with
      | none => rfl
      | some o' => have := F.keep _ _ z; rw [n] at this; cases this
  · exact N p hp
theorem SpecX.use {w : World} {mean : ExcName → Option Value} {mg mb : Str → Option Value} {f : Addr} {dd uu : Nat} {args : List Value} {Pre : Heap → Prop} {Post : Heap → Value → Heap → Prop}
    {dp un : Nat} {gd : Option (List Code)} {cn : Str} {cs : Scope} {a : Addr} {ccd : Value} {cl : List (Str × Addr)} {A₀ : Around} {h₀ : Heap} {L : Addr} {m : Str → Option Value} {s : Shared} {Q E : Value → Shared → Prop} {news : List (Addr × Obj)}
    (S : SpecX w mean mg mb f dd uu args Pre Post)
    (B : Below A₀ h₀ [] h₀) (F : Fr h₀ L s.heap m) (X : (hd.heap_39 w.params).In h₀) (N : News h₀ L s.heap news) (T : Top hd.view_39 Ls mean mg mb h₀) (hk : cs.kind = .function)
    (hdp : dp + dd < recursionLimit) (hu : un + uu < cLine) (hpre : Pre s.heap)
    (ret : ∀ r h' tk', Fr h₀ L h' m → News h₀ L h' news → Post s.heap r h' → Q r { s with heap := h', toks := tk' }) :
    wpAny (model PySem.Challenge.rw_pd0184_01.row.toRowW.prog w) (ktrTop dp un gd cn cs L a ccd cl []) (call (.ref f) args) Q E s :=
  S _ _ _ _ _ _ _ _ _ _ _ _ _ _ _ B F X T hk hdp hu hpre fun r h' tk' F' k p => ret r h' tk' F' (fun q hq => ⟨k q.1 q.2 (N q hq).2.1 (N q hq).1, (N q hq).2⟩) p
end

-- CompC

section
open PySem PySem.W PyProof.Rows PySem.Calls PySem.Spec
noncomputable def CTurnC (h₀ : Heap) (L : Addr) (m : Str → Option Value) (s₁ : Shared) (I : Addr) (oI : Obj) (C : Addr) (oC : Obj) (c : Addr) (co : Obj) (D : Addr) (oD : Obj) (Inv' : Value → List (Addr × Obj) → Prop) (y : Value) (s₂ : Shared) : Prop :=
  ∃ h' tk nx all, s₂ = { s₁ with heap := h', toks := tk } ∧ Fr h₀ L h' m ∧ News h₀ L h' all ∧ (∀ p ∈ (I, oI) :: (C, oC) :: (c, co) :: (D, oD) :: nx, p ∈ all) ∧ LCg.Off3 I C D nx ∧ (∀ p ∈ nx, p.1 ≠ c) ∧ Inv' y nx
theorem CTurnC.mk {h₀ : Heap} {L I C c D : Addr} {m : Str → Option Value} {s₁ : Shared} {oI oC co oD : Obj} {Inv' : Value → List (Addr × Obj) → Prop} {y : Value} {h' : Heap} {tk : Nat} {all : List (Addr × Obj)}
    (F : Fr h₀ L h' m) (N : News h₀ L h' all) (nx : List (Addr × Obj)) (sub : ∀ p ∈ (I, oI) :: (C, oC) :: (c, co) :: (D, oD) :: nx, p ∈ all) (off : LCg.Off3 I C D nx) (offc : ∀ p ∈ nx, p.1 ≠ c) (r : Inv' y nx) :
    CTurnC h₀ L m s₁ I oI C oC c co D oD Inv' y { s₁ with heap := h', toks := tk } := ⟨h', tk, nx, all, rfl, F, N, sub, off, offc, r⟩
section
variable {prog : Program} {w : World} {A : Around} {E : Value → Shared → Prop} {s : Shared} {h₀ : Heap} {L : Addr} {m : Str → Option Value} {env : Env} {elt iter : Expr} {x : Str} {px : Pos} {scope : Scope} {cl : List (Str × Addr)} {pos : Pos} {RR : Value → Addr → Result → Shared → Prop}
noncomputable abbrev cellObj : Obj := { cls := .type "cell", data := .cell none }
noncomputable abbrev dictObj0 : Obj := { cls := .type "dict", data := .dict #[] }
theorem newEnvCell {M : Model} {globals : Addr} {qual : Str} {builtins : Addr} {Q : Env → Shared → Prop} (hcf : ∀ n, cellsFrom n scope.names cl = (x, n) :: cl) (hpc : ∀ h, pushCells h scope.names = h.push cellObj)
    (hQ : Q (newEnv scope s.heap.objs.size globals ((x, s.heap.objs.size + 1) :: cl) qual none .none (some env) builtins) { s with heap := (s.heap.push dictObj0).push cellObj }) :
    wpAny M A (newFunctionEnv scope globals cl [] qual none .none (some env) builtins) Q E s := by
  simp only [newFunctionEnv, Option.isSome_some, if_true]
  refine wpAny_bind (wpAny_alloc ?_)
  refine wpAny_bind (wpAny_layCells _ (fun name kind cells => by cases kind == NameKind.cell <;> simp) _ _ _ _ ?_)
  rw [show ({ s with heap := s.heap.push { cls := .type "dict", data := .dict #[] } } : Shared).heap.objs.size = s.heap.objs.size + 1 from Heap.size_push .., hcf, hpc]
  rw [List.forIn_nil]
  exact wpAny_bind (wpAny_pure (wpAny_pure hQ))

theorem comp_cell {I : Addr} {fp : List Addr} {n : Nat} {P : Nat → Value → Prop} {St : Nat → Heap → Prop} {news : List (Addr × Obj)} (W : Walks prog w A I fp [I] n P St) (hsz : n ≤ sizeLine) (Inv : Nat → List Value → List (Addr × Obj) → Prop)
    (hylen : ∀ i ys nx, Inv i ys nx → ys.length ≤ i)
    (hfp : ∀ b ∈ fp, b = I ∨ (∃ o, h₀.get? b = some o) ∨ (∃ o, ∀ i ys nx, Inv i ys nx → (b, o) ∈ nx)) (hfs : ∀ b ∈ fp, b < s.heap.objs.size)
    (hex : ∀ i h, St i h → ∃ o, h.get? I = some o) (hcf : ∀ n, cellsFrom n scope.names cl = (x, n) :: cl) (hpc : ∀ h, pushCells h scope.names = h.push cellObj) (hkind : scope.kind = .function)
    (hx : ∀ C c, (compEnvC scope ((x, c) :: cl) C env).kindOf x = some .cell) (hst : St 0 s.heap)
    (F : Fr h₀ L s.heap m) (N : News h₀ L s.heap news) (hIL : L ≠ I) (hI : h₀.get? I = none) (nx₀ : List (Addr × Obj)) (hn₀ : ∀ p ∈ nx₀, p ∈ news) (ho₀ : ∀ p ∈ nx₀, p.1 ≠ I) (h0 : Inv 0 [] nx₀)
    (turn : ∀ i v ys nx oI C oC c co D h tk (E' : Value → Shared → Prop), i < n → P i v → Inv i ys nx → co.data = .cell (some v) → Fr h₀ L h m → News h₀ L h ((I, oI) :: (C, oC) :: (c, co) :: (D, LCg.lst ys) :: nx) → LCg.Off3 I C D nx → (∀ p ∈ nx, p.1 ≠ c) →
        wpAny (model prog w) A (eval elt (compEnvC scope ((x, c) :: cl) C env)) (CTurnC h₀ L m { s with heap := h, toks := tk } I oI C oC c co D (LCg.lst ys) (fun y nx => Inv (i + 1) (ys ++ [y]) nx)) E' { s with heap := h, toks := tk })
    (done : ∀ D C h tk m' ys nx, CDone h₀ L m h D C m' ys nx → Inv n ys nx → RR (.ref D) C (.ok .next) { s with heap := h, toks := tk }) :
    CompAt prog w A env elt iter x px [] scope pos cl E RR (.ref I) s := by
  refine wpAny_newObj_type (newEnvCell hcf hpc ?_)
  dsimp only
  generalize hH2 : s.heap.push { cls := .type "list", dict := none, data := .seq ([] : List Value).toArray } = H2
  have hC : H2.objs.size = s.heap.objs.size + 1 := by rw [← hH2, Heap.size_push]
  have hns₁ : ((H2.push dictObj0).push cellObj).Ns H2.objs.size (fun _ => none) := (Heap.Ns.new H2 (.type "dict")).keeps fun b o e => Heap.get?_push_of_some _ e
  have hcell₁ : ((H2.push dictObj0).push cellObj).get? (H2.objs.size + 1) = some cellObj := by
    have e0 : (H2.push dictObj0).objs.size = H2.objs.size + 1 := Heap.size_push ..
    rw [← e0]
    exact Heap.get?_push_size _ rfl
  generalize hh₁ : (H2.push dictObj0).push cellObj = h₁ at hns₁ hcell₁ ⊢
  have hDC : s.heap.objs.size ≠ H2.objs.size := by rw [hC]; exact Nat.ne_of_lt (Nat.lt_succ_self _)
  have hDc : s.heap.objs.size ≠ H2.objs.size + 1 := by rw [hC]; omega
  have hCc : H2.objs.size ≠ H2.objs.size + 1 := Nat.ne_of_lt (Nat.lt_succ_self _)
  have below : ∀ b, b < s.heap.objs.size → b ≠ H2.objs.size ∧ b ≠ s.heap.objs.size ∧ b ≠ H2.objs.size + 1 := fun b hb => ⟨by rw [hC]; exact Nat.ne_of_lt (Nat.lt_succ_of_lt hb), Nat.ne_of_lt hb, by rw [hC]; omega⟩
  have hIlt : I < s.heap.objs.size := hfs I (W.sub I (List.mem_singleton.mpr rfl))
  have up : ∀ b o, H2.get? b = some o → h₁.get? b = some o := fun b o e => hh₁ ▸ Heap.get?_push_of_some _ (Heap.get?_push_of_some _ e)
  have old : ∀ b o, s.heap.get? b = some o → h₁.get? b = some o := fun b o e => up b o (hH2 ▸ Heap.get?_push_of_some _ e)
  have hacc : h₁.get? s.heap.objs.size = some (LCg.lst []) := up _ _ (hH2 ▸ Heap.get?_push_size _ rfl)
  have fresh : ∀ a, s.heap.objs.size ≤ a → h₀.get? a = none := fun a ha => by
    cases e : h₀.get? a with
    | none => rfl
    | some o' => exact absurd (Heap.lt_size (F.keep a o' e)) (Nat.not_lt.mpr ha)
  have hD₀ : h₀.get? s.heap.objs.size = none := fresh _ (Nat.le_refl _)
  have hC₀ : h₀.get? H2.objs.size = none := fresh _ (by rw [hC]; exact Nat.le_succ _)
  have hc₀ : h₀.get? (H2.objs.size + 1) = none := fresh _ (by rw [hC]; omega)
  have hLlt : L < s.heap.objs.size := F.ns.lt
  have hDL : s.heap.objs.size ≠ L := Ne.symm (below L hLlt).2.1
  have hCL : H2.objs.size ≠ L := Ne.symm (below L hLlt).1
  have hcL : H2.objs.size + 1 ≠ L := Ne.symm (below L hLlt).2.2
  have hIC : I ≠ H2.objs.size := (below I hIlt).1
  have hID : I ≠ s.heap.objs.size := (below I hIlt).2.1
  have hIc : I ≠ H2.objs.size + 1 := (below I hIlt).2.2
  have offs : LCg.Off3 I H2.objs.size s.heap.objs.size nx₀ := LCg.Off3.of fun p hp => ⟨ho₀ p hp, (below _ (Heap.lt_size (N p (hn₀ p hp)).1)).1, (below _ (Heap.lt_size (N p (hn₀ p hp)).1)).2.1⟩
  have offc : ∀ p ∈ nx₀, p.1 ≠ H2.objs.size + 1 := fun p hp => (below _ (Heap.lt_size (N p (hn₀ p hp)).1)).2.2
  have hCf : ∀ b ∈ fp, b ≠ H2.objs.size ∧ b ≠ s.heap.objs.size ∧ b ≠ H2.objs.size + 1 := fun b hb => below b (hfs b hb)
  have loop : ∀ s₃ : Shared, s₃ = { s with heap := h₁ } →
      codeAny (model prog w) A (.compLoop (.ListComp elt [⟨.Name x px, iter, [], 0⟩] scope pos) 0 (.ref I) (.ref s.heap.objs.size) (compEnvC scope ((x, H2.objs.size + 1) :: cl) H2.objs.size env))
        (RR (.ref s.heap.objs.size) H2.objs.size) s₃ := by
    rintro s₃ rfl
    refine codeAny_compLoop_tests
      (fun k s' => ∃ h' tk i ys nx co v₀, s' = { s with heap := h', toks := tk } ∧ i ≤ n ∧ k = n + 1 - i ∧ St i h' ∧ Fr h₀ L h' m ∧ h'.Ns H2.objs.size (fun _ => none) ∧ News h₀ L h' ((H2.objs.size + 1, co) :: (s.heap.objs.size, LCg.lst ys) :: nx) ∧ co.data = .cell v₀ ∧
        LCg.Off3 I H2.objs.size s.heap.objs.size nx ∧ (∀ p ∈ nx, p.1 ≠ H2.objs.size + 1) ∧ Inv i ys nx) ?_ (n + 1)
      ⟨h₁, _, 0, [], nx₀, cellObj, none, rfl, Nat.zero_le _, rfl, W.frame _ _ _ hst fun b _ o e => old b o e, F.keeps old, hns₁, fun p hp => ?_, rfl, offs, offc, h0⟩
    · rintro k s' ⟨h', tk, i, ys, nx, co, v₀, rfl, hi, rfl, hst', F', hn', N', hco, off', offc', hinv⟩
      by_cases hlt : i < n
      · refine W.item i _ _ _ hlt hst' fun v h₂ tk₂ hPv hst₂ hk₂ => ?_
        have off3 := off'.mem
        have N₂ : News h₀ L h₂ ((H2.objs.size + 1, co) :: (s.heap.objs.size, LCg.lst ys) :: nx) := LCg.news_but N' hk₂ fun p hp => by
          rcases List.mem_cons.mp hp with rfl | hp
          · exact Ne.symm hIc
          · rcases List.mem_cons.mp hp with rfl | hp
            · exact Ne.symm hID
            · exact (off3 p hp).1
        have hn₂ : h₂.Ns H2.objs.size (fun _ => none) := hn'.at' fun o e => hk₂ _ o (by simpa using Ne.symm hIC) e
        refine wpAny_assign_Name (wpAny_storeName_cell (c := H2.objs.size + 1) (by simp [compEnvC, relabel, hkind]) (hx _ _) (by simp [compEnvC]) ⟨co, (N₂ _ (.head _)).1, hco⟩ fun h₃ hc₃ hs₃ => ?_)
        obtain ⟨co', heo', hdo'⟩ := hc₃
        have hst₃ : St (i + 1) h₃ := W.frame _ _ _ hst₂ fun b hb o e => hs₃.extBut b o (hCf b hb).2.2 e
        obtain ⟨oI, heI⟩ := hex _ _ hst₃
        have hn₃ : h₃.Ns H2.objs.size (fun _ => none) := hn₂.sameBut hs₃ hCc
        obtain ⟨oC, heC, hoC⟩ := LCg.ns_obj hn₃
        have F₃ : Fr h₀ L h₃ m := (LCg.fr_but F' hk₂ hIL hI).change hs₃ hcL hc₀
        have N₃ : News h₀ L h₃ ((I, oI) :: (H2.objs.size, oC) :: (H2.objs.size + 1, co') :: (s.heap.objs.size, LCg.lst ys) :: nx) := fun p hp => by
          rcases List.mem_cons.mp hp with rfl | hp
          · exact ⟨heI, Ne.symm hIL, hI⟩
          · rcases List.mem_cons.mp hp with rfl | hp
            · exact ⟨heC, hCL, hC₀⟩
            · rcases List.mem_cons.mp hp with rfl | hp
              · exact ⟨heo', hcL, hc₀⟩
              · have z := N₂ p (.tail _ hp)
                refine ⟨hs₃.extBut _ _ ?_ z.1, z.2⟩
                rcases List.mem_cons.mp hp with rfl | hp
                · exact hDc
                · exact offc' p hp
        have T := turn i v ys nx oI H2.objs.size oC (H2.objs.size + 1) co' s.heap.objs.size h₃ tk₂ (notedBy (model prog w) A (compEnvC scope ((x, H2.objs.size + 1) :: cl) H2.objs.size env) fun e s' => RR (.ref s.heap.objs.size) H2.objs.size (.error e) s') hlt hPv hinv hdo' F₃ N₃ off' offc'
        refine wpAny_tests_nil ?_
        simp only [if_true]
        refine wpAny_mono T (fun y s₅ h₆ => ?_) fun _ _ e => e
        obtain ⟨h₄, tk', nx₄, all, rfl, F₄, N₄, sub, off₄, offc₄, hinv₄⟩ := h₆
        have N₄' : News h₀ L h₄ ((I, oI) :: (H2.objs.size, oC) :: (H2.objs.size + 1, co') :: (s.heap.objs.size, LCg.lst ys) :: nx₄) := fun p hp => N₄ p (sub p hp)
        have a1 : St (i + 1) h₄ := W.frame _ _ _ hst₃ fun b hb o e => by
          rcases hfp b hb with rfl | ⟨o', q⟩ | ⟨o', q⟩
          · rw [heI] at e
            rw [← e]
            exact (N₄' _ (.head _)).1
          · have e' := F₃.keep _ _ q
            rw [e'] at e
            rw [← e]
            exact F₄.keep _ _ q
          · have e' := (N₃ _ (.tail _ (.tail _ (.tail _ (.tail _ (q _ _ _ hinv)))))).1
            dsimp only at e'
            rw [e'] at e
            rw [← e]
            exact (N₄' _ (.tail _ (.tail _ (.tail _ (.tail _ (q _ _ _ hinv₄)))))).1
        have a2 := (N₄' _ (.tail _ (.tail _ (.tail _ (.head _))))).1
        have a3 := hoC.ns (N₄' _ (.tail _ (.head _))).1
        refine append_at (hsz := by show ys.toArray.size ≤ sizeLine; rw [List.size_toArray]; exact Nat.le_trans (hylen _ _ _ hinv) (Nat.le_trans hi hsz)) a2 fun h₅ hs₅ hD₅ => ?_
        have off4 := off₄.mem
        refine ⟨n + 1 - (i + 1), by omega, h₅, tk', i + 1, ys ++ [y], nx₄, co', some v, rfl, hlt, rfl, W.frame _ _ _ a1 fun b hb o e => hs₅.extBut b o (hCf b hb).2.1 e, F₄.change hs₅ hDL hD₀, a3.sameBut hs₅ (Ne.symm hDC), fun p hp => ?_, hdo', off₄, offc₄, hinv₄⟩
        rcases List.mem_cons.mp hp with rfl | hp
        · exact ⟨hs₅.extBut _ _ (Ne.symm hDc) (N₄' _ (.tail _ (.tail _ (.head _)))).1, hcL, hc₀⟩
        · rcases List.mem_cons.mp hp with rfl | hp
          · exact ⟨hD₅.trans (congrArg some (LCg.lst_snoc ys y)), hDL, hD₀⟩
          · have z := N₄' p (.tail _ (.tail _ (.tail _ (.tail _ hp))))
            exact ⟨hs₅.extBut _ _ (off4 p hp).2.2 z.1, z.2⟩
      · obtain rfl : i = n := Nat.le_antisymm hi (Nat.not_lt.mp hlt)
        refine W.done _ _ _ hst' fun h₂ tk₂ hk₂ => ?_
        have off3 := off'.mem
        exact done _ _ h₂ tk₂ _ ys nx ⟨LCg.fr_but F' hk₂ hIL hI, fun p hp => LCg.news_but N' hk₂ (fun p hp => by
          rcases List.mem_cons.mp hp with rfl | hp
          · exact Ne.symm hIc
          · rcases List.mem_cons.mp hp with rfl | hp
            · exact Ne.symm hID
            · exact (off3 p hp).1) p (.tail _ hp), off'.one, hn'.at' fun o e => hk₂ _ o (by simpa using Ne.symm hIC) e, hC₀, hCL, Ne.symm hDC, fun p hp => (off3 p hp).2.1⟩ hinv
    · rcases List.mem_cons.mp hp with rfl | hp
      · exact ⟨hcell₁, hcL, hc₀⟩
      · rcases List.mem_cons.mp hp with rfl | hp
        · exact ⟨hacc, hDL, hD₀⟩
        · exact ⟨old _ _ (N p (hn₀ p hp)).1, (N p (hn₀ p hp)).2⟩
  exact codeAny_compStart_list (loop _ rfl) (W.self 0 _ _ _ (W.frame _ _ _ hst fun b _ o e => old b o e) (loop _ rfl))

theorem comp_list_cell {l : Addr} {its : Array Value} {news : List (Addr × Obj)} (hh : A.handled = none) (F : Fr h₀ L s.heap m) (N : News h₀ L s.heap news) (hcf : ∀ n, cellsFrom n scope.names cl = (x, n) :: cl) (hpc : ∀ h, pushCells h scope.names = h.push cellObj) (hkind : scope.kind = .function)
    (hx : ∀ C c, (compEnvC scope ((x, c) :: cl) C env).kindOf x = some .cell)
    (Inv : Nat → List Value → List (Addr × Obj) → Prop) (hsz : its.size ≤ sizeLine) (hylen : ∀ i ys nx, Inv i ys nx → ys.length ≤ i)
    (hl : ∃ k, (l, ({ cls := .type "list", data := .seq its k } : Obj)) ∈ news ∧ ∀ i ys nx, Inv i ys nx → (l, ({ cls := .type "list", data := .seq its k } : Obj)) ∈ nx)
    (nx₀ : List (Addr × Obj)) (hn₀ : ∀ p ∈ nx₀, p ∈ news) (h0 : Inv 0 [] nx₀)
    (turn : ∀ i v ys nx I oI C oC c co D h tk (E' : Value → Shared → Prop), i < its.size → its[i]? = some v → Inv i ys nx → co.data = .cell (some v) → Fr h₀ L h m → News h₀ L h ((I, oI) :: (C, oC) :: (c, co) :: (D, LCg.lst ys) :: nx) → LCg.Off3 I C D nx → (∀ p ∈ nx, p.1 ≠ c) →
        wpAny (model prog w) A (eval elt (compEnvC scope ((x, c) :: cl) C env)) (CTurnC h₀ L m { s with heap := h, toks := tk } I oI C oC c co D (LCg.lst ys) (fun y nx => Inv (i + 1) (ys ++ [y]) nx)) E' { s with heap := h, toks := tk })
    (done : ∀ D C h tk m' ys nx, CDone h₀ L m h D C m' ys nx → Inv its.size ys nx → RR (.ref D) C (.ok .next) { s with heap := h, toks := tk }) :
    wpAny (model prog w) A (pyIter (.ref l)) (fun it s₂ => CompAt prog w A env elt iter x px [] scope pos cl E RR it s₂) E s := by
  obtain ⟨k, hm, hj⟩ := hl
  have hls : s.heap.IsList l its := ⟨_, (N _ hm).1, rfl, k, rfl⟩
  obtain ⟨ol, hol, _⟩ := id hls
  have hlt : l < s.heap.objs.size := Heap.lt_size hol
  have hne : l ≠ s.heap.objs.size := Nat.ne_of_lt hlt
  refine wpAny_pyIter_list hls ?_
  have W := Walks.list (prog := prog) (w := w) hh s.heap.objs.size l hne its
  refine comp_cell W hsz Inv hylen (fun b hb => ?_) (fun b hb => ?_) (fun i h st => by obtain ⟨⟨o, e, _⟩, _⟩ := st; exact ⟨o, e⟩) hcf hpc hkind hx ⟨⟨_, Heap.get?_push_size _ rfl, rfl, rfl⟩, hls.at fun o e => Heap.get?_push_of_some _ e⟩ (F.push _)
    (fun p hp => ⟨Heap.get?_push_of_some _ (N p hp).1, (N p hp).2⟩) (Nat.ne_of_lt F.ns.lt) (next_is_new F) nx₀ hn₀ (fun p hp => Nat.ne_of_lt (Heap.lt_size (N p (hn₀ p hp)).1)) h0 (fun i v ys nx oI C oC c co D h tk E' => turn i v ys nx _ oI C oC c co D h tk E') done
  · rcases List.mem_cons.mp hb with rfl | hb
    · exact .inl rfl
    · rw [List.mem_singleton.mp hb]
      exact .inr (.inr ⟨_, hj⟩)
  · show b < (s.heap.push _).objs.size
    rw [Heap.size_push]
    rcases List.mem_cons.mp hb with rfl | hb
    · exact Nat.lt_succ_self _
    · rw [List.mem_singleton.mp hb]; exact Nat.lt_succ_of_lt hlt
end
end

-- LawD

section
open PySem PySem.W PyProof.Rows PySem.Calls PySem.Spec
section
variable {prog : Program} {w : World} {A : Around} {E : Value → Shared → Prop} {s : Shared} {h₀ : Heap} {L : Addr} {m : Str → Option Value} {env : Env} {elt iter : Expr} {x : Str} {px : Pos} {ifs : List Expr} {scope : Scope} {cl : List (Str × Addr)} {pos : Pos} {RR : Value → Addr → Result → Shared → Prop}
theorem comp_listG {l : Addr} {its : Array Value} {news : List (Addr × Obj)} (hh : A.handled = none) (F : Fr h₀ L s.heap m) (N : News h₀ L s.heap news) (hcell : ∀ y ∈ scope.names, y.2 ≠ .cell) (hkind : scope.kind = .function) (hx : scope.names.lookup x = some .local)
    (hl : ∃ k, (l, ({ cls := .type "list", data := .seq its k } : Obj)) ∈ news) (hsz : its.size ≤ sizeLine) (Inv : Nat → List Value → List (Addr × Obj) → Prop) (hylen : ∀ i ys pre, Inv i ys pre → ys.length ≤ i) (h0 : Inv 0 [] [])
    (turn : ∀ i v ys pre I oI C oC D m₂ h tk (E' : Value → Shared → Prop), i < its.size → its[i]? = some v → Inv i ys pre → LCg.NsObj oC m₂ → m₂ x = some v → Fr h₀ L h m → News h₀ L h ((I, oI) :: (C, oC) :: (D, LCg.lst ys) :: (news ++ pre)) → LCg.Off3 I C D (news ++ pre) → ((@Ne Nat I C) ∧ (@Ne Nat I D) ∧ (@Ne Nat C D)) →
      wpAny (model prog w) A (tests prog w A ifs (compEnvC scope cl C env)) (fun ok s₂ => WhlIf ok
        (wpAny (model prog w) A (eval elt (compEnvC scope cl C env)) (CTurn h₀ L m { s with heap := h, toks := tk } I oI C oC D (LCg.lst ys) (fun y nx => ∃ pre', nx = news ++ pre' ∧ Inv (i + 1) (ys ++ [y]) pre')) E' s₂)
        (CSkip h₀ L m { s with heap := h, toks := tk } I oI C oC D (LCg.lst ys) (fun nx => ∃ pre', nx = news ++ pre' ∧ Inv (i + 1) ys pre') s₂)) E' { s with heap := h, toks := tk })
    (done : ∀ D C h tk m' ys pre, CDone h₀ L m h D C m' ys (news ++ pre) → Inv its.size ys pre → RR (.ref D) C (.ok .next) { s with heap := h, toks := tk }) :
    wpAny (model prog w) A (pyIter (.ref l)) (fun it s₂ => CompAt prog w A env elt iter x px ifs scope pos cl E RR it s₂) E s :=
  comp_list hh F N hcell hkind hx (fun i ys nx => ∃ pre, nx = news ++ pre ∧ Inv i ys pre) hsz (fun i ys nx ⟨pre, _, h⟩ => hylen i ys pre h)
    (.inr (let ⟨k, hm⟩ := hl; ⟨k, hm, fun i ys nx ⟨pre, e, _⟩ => e ▸ List.mem_append_left _ hm⟩)) news (fun _ h => h) ⟨[], (List.append_nil _).symm, h0⟩
    (fun i v ys nx I oI C oC D m₂ h tk E' hi hv hj => by obtain ⟨pre, rfl, hj⟩ := hj; exact turn i v ys pre I oI C oC D m₂ h tk E' hi hv hj)
    (fun D C h tk m' ys nx d hj => by obtain ⟨pre, rfl, hj⟩ := hj; exact done D C h tk m' ys pre d hj)
theorem comp_cellG {l : Addr} {its : Array Value} {news : List (Addr × Obj)} (hh : A.handled = none) (F : Fr h₀ L s.heap m) (N : News h₀ L s.heap news) (hcf : ∀ n, cellsFrom n scope.names cl = (x, n) :: cl) (hpc : ∀ h, pushCells h scope.names = h.push cellObj) (hkind : scope.kind = .function)
    (hx : ∀ C c, (compEnvC scope ((x, c) :: cl) C env).kindOf x = some .cell)
    (hl : ∃ k, (l, ({ cls := .type "list", data := .seq its k } : Obj)) ∈ news) (hsz : its.size ≤ sizeLine) (Inv : Nat → List Value → List (Addr × Obj) → Prop) (hylen : ∀ i ys pre, Inv i ys pre → ys.length ≤ i) (h0 : Inv 0 [] [])
    (turn : ∀ i v ys pre I oI C oC c co D h tk (E' : Value → Shared → Prop), i < its.size → its[i]? = some v → Inv i ys pre → co.data = .cell (some v) → Fr h₀ L h m → News h₀ L h ((I, oI) :: (C, oC) :: (c, co) :: (D, LCg.lst ys) :: (news ++ pre)) → LCg.Off3 I C D (news ++ pre) → (∀ p ∈ news ++ pre, p.1 ≠ c) →
        wpAny (model prog w) A (eval elt (compEnvC scope ((x, c) :: cl) C env)) (CTurnC h₀ L m { s with heap := h, toks := tk } I oI C oC c co D (LCg.lst ys) (fun y nx => ∃ pre', nx = news ++ pre' ∧ Inv (i + 1) (ys ++ [y]) pre')) E' { s with heap := h, toks := tk })
    (done : ∀ D C h tk m' ys pre, CDone h₀ L m h D C m' ys (news ++ pre) → Inv its.size ys pre → RR (.ref D) C (.ok .next) { s with heap := h, toks := tk }) :
    wpAny (model prog w) A (pyIter (.ref l)) (fun it s₂ => CompAt prog w A env elt iter x px [] scope pos cl E RR it s₂) E s :=
  comp_list_cell hh F N hcf hpc hkind hx (fun i ys nx => ∃ pre, nx = news ++ pre ∧ Inv i ys pre) hsz (fun i ys nx ⟨pre, _, h⟩ => hylen i ys pre h)
    (let ⟨k, hm⟩ := hl; ⟨k, hm, fun i ys nx ⟨pre, e, _⟩ => e ▸ List.mem_append_left _ hm⟩) news (fun _ h => h) ⟨[], (List.append_nil _).symm, h0⟩
    (fun i v ys nx I oI C oC c co D h tk E' hi hv hj => by obtain ⟨pre, rfl, hj⟩ := hj; exact turn i v ys pre I oI C oC c co D h tk E' hi hv hj)
    (fun D C h tk m' ys nx d hj => by obtain ⟨pre, rfl, hj⟩ := hj; exact done D C h tk m' ys pre d hj)
end
theorem off_new {I C D : Addr} {new : Addr × Obj} {news pre : List (Addr × Obj)} (off : LCg.Off3 I C D (news ++ pre)) (h : new.1 ≠ I ∧ new.1 ≠ C ∧ new.1 ≠ D) : LCg.Off3 I C D (news ++ new :: pre) :=
  LCg.Off3.of fun p hp => by
    rcases List.mem_append.mp hp with hp | hp
    · exact off.mem p (List.mem_append_left _ hp)
    · rcases List.mem_cons.mp hp with rfl | hp
      · exact h
      · exact off.mem p (List.mem_append_right _ hp)
theorem mem_new {p new : Addr × Obj} {news pre all : List (Addr × Obj)} (h : ∀ p ∈ news ++ pre, p ∈ all) (hn : new ∈ all) (hp : p ∈ news ++ new :: pre) : p ∈ all := by
  rcases List.mem_append.mp hp with hp | hp
  · exact h p (List.mem_append_left _ hp)
  · rcases List.mem_cons.mp hp with rfl | hp
    · exact hn
    · exact h p (List.mem_append_right _ hp)
theorem CTurn.new {h₀ : Heap} {L I C D : Addr} {m : Str → Option Value} {s₁ : Shared} {oI oC oD : Obj} {Inv' : Value → List (Addr × Obj) → Prop} {y : Value} {h' : Heap} {tk : Nat} {all news pre : List (Addr × Obj)} {new : Addr × Obj}
    (F : Fr h₀ L h' m) (N : News h₀ L h' all) (hall : ∀ p ∈ (I, oI) :: (C, oC) :: (D, oD) :: (news ++ pre), p ∈ all) (hn : new ∈ all) (off : LCg.Off3 I C D (news ++ pre)) (hne : new.1 ≠ I ∧ new.1 ≠ C ∧ new.1 ≠ D) (r : Inv' y (new :: pre)) :
    CTurn h₀ L m s₁ I oI C oC D oD (fun y nx => ∃ pre', nx = news ++ pre' ∧ Inv' y pre') y { s₁ with heap := h', toks := tk } :=
  CTurn.mk F N (news ++ new :: pre) (fun p hp => by
    rcases List.mem_cons.mp hp with rfl | hp
    · exact hall _ (.head _)
    · rcases List.mem_cons.mp hp with rfl | hp
      · exact hall _ (.tail _ (.head _))
      · rcases List.mem_cons.mp hp with rfl | hp
        · exact hall _ (.tail _ (.tail _ (.head _)))
        · exact mem_new (fun p hp => hall p (.tail _ (.tail _ (.tail _ hp)))) hn hp) (off_new off hne) ⟨_, rfl, r⟩
theorem CTurnC.new {h₀ : Heap} {L I C c D : Addr} {m : Str → Option Value} {s₁ : Shared} {oI oC co oD : Obj} {Inv' : Value → List (Addr × Obj) → Prop} {y : Value} {h' : Heap} {tk : Nat} {all news pre : List (Addr × Obj)} {new : Addr × Obj}
    (F : Fr h₀ L h' m) (N : News h₀ L h' all) (hall : ∀ p ∈ (I, oI) :: (C, oC) :: (c, co) :: (D, oD) :: (news ++ pre), p ∈ all) (hn : new ∈ all) (off : LCg.Off3 I C D (news ++ pre)) (offc : ∀ p ∈ news ++ pre, p.1 ≠ c) (hne : new.1 ≠ I ∧ new.1 ≠ C ∧ new.1 ≠ D) (hc : new.1 ≠ c) (r : Inv' y (new :: pre)) :
    CTurnC h₀ L m s₁ I oI C oC c co D oD (fun y nx => ∃ pre', nx = news ++ pre' ∧ Inv' y pre') y { s₁ with heap := h', toks := tk } :=
  CTurnC.mk F N (news ++ new :: pre) (fun p hp => by
    rcases List.mem_cons.mp hp with rfl | hp
    · exact hall _ (.head _)
    · rcases List.mem_cons.mp hp with rfl | hp
      · exact hall _ (.tail _ (.head _))
      · rcases List.mem_cons.mp hp with rfl | hp
        · exact hall _ (.tail _ (.tail _ (.head _)))
        · rcases List.mem_cons.mp hp with rfl | hp
          · exact hall _ (.tail _ (.tail _ (.tail _ (.head _))))
          · exact mem_new (fun p hp => hall p (.tail _ (.tail _ (.tail _ (.tail _ hp))))) hn hp) (off_new off hne) (fun p hp => by
    rcases List.mem_append.mp hp with hp | hp
    · exact offc p (List.mem_append_left _ hp)
    · rcases List.mem_cons.mp hp with rfl | hp
      · exact hc
      · exact offc p (List.mem_append_right _ hp)) ⟨_, rfl, r⟩
theorem ints_step {α : Type} {T : List α} {f : α → List Int} {pre : List (Addr × Obj)} {ys zs : List Value} {i : Nat} {t : α} {a : Addr} {k : Nat} (h : IntLs pre ys ((T.take i).map f)) (ht : T[i]? = some t) (hz : IntsAre zs (f t)) : IntLs ((a, W.listOf zs.toArray k) :: pre) (ys ++ [.ref a]) ((T.take (i + 1)).map f) := by
  rw [take_succ' ht, List.map_append]
  exact (h.weaken fun _ h => .tail _ h).app (.cons (.head _) hz .nil)
theorem octs_next : ∀ {VS : List Int}, (∀ v ∈ VS, 0 ≤ v ∧ v < 4096) → ∀ (j : Nat) (a b : Int), (VS.flatMap octetsOf)[j]? = some a → 64 ≤ a → (VS.flatMap octetsOf)[j + 1]? = some b → b < 64 := by
  intro VS
  induction VS with
  | nil => intro _ j a b ha; simp at ha
  | cons v VS ih =>
    intro h j a b ha h64 hb
    have hv := h v (.head _)
    have ih' := ih fun x hx => h x (.tail _ hx)
    have e : octetsOf v = if v < 64 then [v] else [64 + v / 64, v % 64] := by
      unfold octetsOf
      rw [Int.fdiv_eq_ediv_of_nonneg _ (by decide), Int.fmod_eq_emod_of_nonneg _ (by decide)]
    rw [List.flatMap_cons, e] at ha hb
    by_cases hlt : v < 64
    · rw [if_pos hlt] at ha hb
      cases j with
      | zero => simp at ha; omega
      | succ j => exact ih' j a b (by simpa using ha) h64 (by simpa using hb)
    · rw [if_neg hlt] at ha hb
      match j with
      | 0 => simp at hb; omega
      | 1 => simp at ha; omega
      | j + 2 => exact ih' j a b (by simpa using ha) h64 (by simpa using hb)
theorem octs_nextT {VS OS : List Int} (hOS : OS = VS.flatMap octetsOf) (h : ∀ v ∈ VS, 0 ≤ v ∧ v < 4096) (t : Nat) : ∀ (j : Nat) (a b : Int), (OS.take t)[j]? = some a → 64 ≤ a → (OS.take t)[j + 1]? = some b → b < 64 := by
  intro j a b ha h64 hb
  subst hOS
  rw [List.getElem?_take] at ha hb
  split at ha
  · split at hb
    · exact octs_next h j a b ha h64 hb
    · cases hb
  · cases ha
theorem text_at {OS : List Int} {TS : List Nat} {i : Nat} {x : Str} (h : (TS.map fun t => mkS (enc (OS.take t)))[i]? = some x) (hl : OS.length ≤ 28) : ∃ t, TS[i]? = some t ∧ x = mkS (enc (OS.take t)) ∧ x.length ≤ 100 := by
  rw [List.getElem?_map] at h
  cases e : TS[i]? with
  | none => rw [e] at h; cases h
  | some t =>
    rw [e] at h
    have hx : mkS (enc (OS.take t)) = x := Option.some.inj h
    refine ⟨t, rfl, hx.symm, ?_⟩
    rw [← hx, mkS_len]
    have h1 := enc_len (OS.take t)
    have h2 : (OS.take t).length ≤ OS.length := List.length_take_le' _ _
    omega
end

-- LawE

section
open PySem PySem.W PyProof.Rows PySem.Calls PySem.Spec
noncomputable def selAt (VS : List Int) (st : Int) : List Int := ((List.range VS.length).filter (fun k => decide (endOf VS k ≤ st))).map (fun k => VS.getD k 0)
theorem endOf_s (v : Int) (VS : List Int) (k : Nat) : endOf (v :: VS) (k + 1) = ((octetsOf v).length : Int) + endOf VS k := by
  unfold endOf
  rw [List.take_succ_cons, List.map_cons, List.sum_cons]
theorem endOf_0 (v : Int) (VS : List Int) : endOf (v :: VS) 0 = ((octetsOf v).length : Int) := by
  unfold endOf
  simp
theorem endOf_nn : ∀ (VS : List Int) (k : Nat), 0 ≤ endOf VS k := by
  intro VS
  induction VS with
  | nil => intro k; simp [endOf]
  | cons v VS ih =>
    intro k
    cases k with
    | zero => rw [endOf_0]; omega
    | succ k => rw [endOf_s]; have := ih k; omega
theorem sel_cons_no {v : Int} {VS : List Int} {st : Int} (h : st < ((octetsOf v).length : Int)) : selAt (v :: VS) st = [] := by
  unfold selAt
  rw [List.map_eq_nil_iff, List.filter_eq_nil_iff]
  intro k _
  rw [decide_eq_true_eq]
  cases k with
  | zero => rw [endOf_0]; omega
  | succ k => rw [endOf_s]; have := endOf_nn VS k; omega
theorem sel_cons_yes {v : Int} {VS : List Int} {st : Int} (h : ((octetsOf v).length : Int) ≤ st) : selAt (v :: VS) st = v :: selAt VS (st - (octetsOf v).length) := by
  unfold selAt
  rw [List.length_cons, List.range_succ_eq_map, List.filter_cons, endOf_0, if_pos (by simpa using h), List.map_cons, List.filter_map, List.map_map]
  congr 1
  have e : ((fun k => decide (endOf (v :: VS) k ≤ st)) ∘ Nat.succ) = fun k => decide (endOf VS k ≤ st - (octetsOf v).length) := by
    funext k
    show decide (endOf (v :: VS) (k + 1) ≤ st) = _
    rw [endOf_s]
    by_cases h1 : endOf VS k ≤ st - (octetsOf v).length
    · rw [decide_eq_true h1, decide_eq_true (by omega)]
    · rw [decide_eq_false h1, decide_eq_false (by omega)]
  rw [e]
  exact List.map_congr_left fun k _ => rfl
theorem told_eq : ∀ (VS : List Int), (∀ v ∈ VS, 0 ≤ v ∧ v < 4096) → ∀ t : Nat, readAll ((VS.flatMap octetsOf).take t) = selAt VS (t : Int) := by
  intro VS
  induction VS with
  | nil => intro _ t; simp [readAll, selAt]
  | cons v VS ih =>
    intro h t
    have hv := h v (.head _)
    have ih' := ih fun x hx => h x (.tail _ hx)
    have e : octetsOf v = if v < 64 then [v] else [64 + v / 64, v % 64] := by
      unfold octetsOf
      rw [Int.fdiv_eq_ediv_of_nonneg _ (by decide), Int.fmod_eq_emod_of_nonneg _ (by decide)]
    rw [List.flatMap_cons]
    by_cases hlt : v < 64
    · rw [if_pos hlt] at e
      cases t with
      | zero =>
        rw [sel_cons_no (by rw [e]; simp)]
        simp [readAll]
      | succ t =>
        rw [sel_cons_yes (by rw [e]; simp; omega), e]
        simp only [List.cons_append, List.nil_append, List.take_succ_cons, List.length_singleton]
        rw [readAll_lt hlt, ih', show ((t + 1 : Nat) : Int) - ((1 : Nat) : Int) = (t : Int) by omega]
    · rw [if_neg hlt] at e
      match t with
      | 0 =>
        rw [sel_cons_no (by rw [e]; simp)]
        simp [readAll]
      | 1 =>
        rw [sel_cons_no (by rw [e]; simp), e]
        simp only [List.cons_append, List.nil_append, List.take_succ_cons, List.take_zero]
        exact readAll_one (by omega)
      | t + 2 =>
        rw [sel_cons_yes (by rw [e]; simp; omega), e]
        simp only [List.cons_append, List.nil_append, List.take_succ_cons, List.length_cons, List.length_nil]
        rw [readAll_ge (by omega), ih', show ((t + 2 : Nat) : Int) - ((0 + 1 + 1 : Nat) : Int) = (t : Int) by omega, show (64 + v / 64 - 64) * 64 + v % 64 = v by omega]
theorem told_all {VS OS MS SP : List Int} (hOS : OS = VS.flatMap octetsOf) (hV : ∀ v ∈ VS, 0 ≤ v ∧ v < 4096) (hM : MS = marksOf OS) (hSP : SP = MS ++ [(OS.length : Int)]) : ((mkN OS ++ [OS.length]).map fun t => readAll (OS.take t)) = SP.map (selAt VS) := by
  have e : SP = (mkN OS ++ [OS.length]).map (fun n : Nat => (n : Int)) := by
    rw [hSP, hM, marks_mkN, List.map_append]; rfl
  rw [e, List.map_map]
  refine List.map_congr_left fun t _ => ?_
  show _ = selAt VS (t : Int)
  rw [hOS]
  exact told_eq VS hV t
theorem sel_yes {ys : List Value} {j : Nat} {p : Nat → Bool} {f : Nat → Int} {n : Int} {t : Tok} (h : IntsAre ys (((List.range j).filter p).map f)) (hp : p j = true) (hn : n = f j) : IntsAre (ys ++ [.int n t]) (((List.range (j + 1)).filter p).map f) := by
  subst hn
  rw [List.range_succ, List.filter_append, List.map_append]
  have e : List.map f (List.filter p [j]) = [f j] := by simp [hp]
  rw [e]
  exact h.append (.cons _ _ .nil)
theorem sel_no {ys : List Value} {j : Nat} {p : Nat → Bool} {f : Nat → Int} (h : IntsAre ys (((List.range j).filter p).map f)) (hp : p j = false) : IntsAre ys (((List.range (j + 1)).filter p).map f) := by
  rw [List.range_succ, List.filter_append, List.map_append]
  have e : List.map f (List.filter p [j]) = [] := by simp [hp]
  rw [e, List.append_nil]
  exact h
theorem ends_get {VS : List Int} {j : Nat} (h : j < VS.length) : ((List.range VS.length).map (endOf VS)).getD j 0 = endOf VS j := by
  rw [List.getD_eq_getElem?_getD, List.getElem?_map, List.getElem?_range h]; rfl
theorem ints_size {ys : List Value} {l : List Int} (h : IntsAre ys l) (hl : l.length ≤ 100) (hS : 1000 ≤ sizeLine) : ys.toArray.size ≤ sizeLine := by
  rw [List.size_toArray, h.length]; omega
end

theorem words19 : True := by
  k_with_none
  (k_with "MINE enter" => (refine' enter0 ?k1 ?k2 ?k3 ?k5 ?kA ?kF ?kK ?k6 ?k7 ?k8 ?k9 ?kB ?_ ?c2 ?c3 ?c4 ?c5; (case kA => exact rfl); (case kF => exact rfl); (case kK => assumption); (case k1 => k_asm); (case k2 => k_asm); (case k3 => k_asm); (case k5 => k_asm); (case k6 => k_is); (case k7 => k_is); (case k8 => ktr_room); (case k9 => exact BindsTo.of_eq rfl); (case c5 => decide); (case kB => exact locs rfl); (case c2 => exact rfl); (case c3 => exact rfl); (case c4 => exact rfl); k_whole; intro L' h' F' N' B' X' T'; (try dsimp only); (try k_fold)))
  (k_with "MINE open" => (
    unfold Spec
    intro dp un gd cn cs a ccd cl outer A₀ base h₀ L m s Q E B F X T hk hdp hu hpre hret
    revert X
    k_fill
    intro X
    refine wpAny_call ?_
    k_dflt (walk_at "MINE enter")
    clear F X T B))
  (k_with "MINE fin" => ((rename Back _ _ _ => hb9); (have hb8 := @Back.fin _ _ _ hb9); refine hb8 (by assumption) ?_))
  (k_with "MINE enterS" => (refine' enterS ?k1 ?k2 ?k3 ?k5 ?kA ?kF ?kK ?k6 ?k7 ?k8 ?kV ?kP ?kG ?kB ?_ ?c2 ?c3 ?c4 ?c5; (case kA => exact rfl); (case kF => exact rfl); (case kK => assumption); (case k1 => k_asm); (case k2 => k_asm); (case k3 => k_asm); (case k5 => k_asm); (case k6 => k_is); (case k7 => k_is); (case k8 => ktr_room); (case kV => kl_lit); (case kP => exact rfl); (case kG => exact fun _ => rfl); (case kB => exact fun _ => locs rfl); (case c5 => decide); (case c2 => exact rfl); (case c3 => exact rfl); (case c4 => exact rfl); k_whole; intro D' L' h' F' N' B' X' T'; (try dsimp only); (try k_fold)))
  (k_with "MINE openS" => (
    unfold Spec
    intro dp un gd cn cs a ccd cl outer A₀ base h₀ L m s Q E B F X T hk hdp hu hpre hret
    revert X
    k_fill
    intro X
    refine wpAny_call ?_
    k_dflt (walk_at "MINE enterS")
    clear F X T B))
  (k_with "MINE enterK" => (refine' enter0 ?k1 ?k2 ?k3 ?k5 ?kA ?kF ?kK ?k6 ?k7 ?k8 ?k9 ?kB ?_ ?c2 ?c3 ?c4 ?c5; (case kA => exact rfl); (case kF => exact rfl); (case kK => assumption); (case k1 => k_asm); (case k2 => k_asm); (case k3 => k_asm); (case k5 => k_asm); (case k6 => k_is); (case k7 => k_is); (case k8 => ktr_room); (case k9 => (refine kp_binds (by exact Frag.In.keeps (by assumption) (Fr.keep (by assumption))) (by exact fun _ => rfl))); (case c5 => decide); (case kB => exact locs rfl); (case c2 => exact rfl); (case c3 => exact rfl); (case c4 => exact rfl); k_whole; intro L' h' F' N' B' X' T'; (try dsimp only); (try k_fold)))
  (k_with "MINE openK" => (
    unfold SpecKw
    intro dp un gd cn cs a ccd cl outer A₀ base h₀ L m s Q E B F X T hk hdp hu hpre hret
    revert X
    k_fill
    intro X
    refine wpAny_call ?_
    k_dflt (walk_at "MINE enterK")
    clear F X T B))
  (k_with "MINE openD" => (
    unfold Spec
    intro dp un gd cn cs a ccd cl outer A₀ base h₀ L m s Q E B F X T hk hdp hu hpre hret
    revert X
    k_fill
    intro X
    refine wpAny_call ?_
    k_dflt (walk_at "MINE enterK")
    clear F X T B))
  (k_with "eval ListComp" => (k_here; (with_reducible show wpAny _ _ (eval (Expr.ListComp _ [_] _ _) _) _ _ _); (fail_if_success (with_reducible show wpAny _ _ (eval (Expr.ListComp _ [⟨Expr.Name "x" _, _, _, _⟩] _ _) _) _ _ _)); k_dflt (refine Comp_mine (by exact rfl) (by exact rfl) (by decide) ?_ (by exact fun _ => rfl); k_whole)))
  (k_with "eval ListComp Name cons" => (k_here; (with_reducible show wpAny _ _ (eval (Expr.ListComp _ [_, _] _ _) _) _ _ _); k_dflt (refine Comp2_mine (by exact rfl) (by exact rfl) (by decide) ?_ (by exact fun _ => rfl); k_whole)))
  (k_with "exec Assign cons ListComp" => (k_here; (with_reducible show wpAny _ _ (exec (Stmt.Assign _ (Expr.ListComp _ [_] _ _) _) _) _ _ _); k_dflt (refine CompA_mine (by with_unfolding_all rfl) (by exact rfl) (by exact rfl) (by decide) ?_ (by exact fun _ => rfl); k_whole)))
  (k_with "call ref" => (k_here; (with_reducible show wpAny _ _ (call (Value.ref 201) [Value.int _ _]) _ _ _); k_dflt (refine Spec.use (octets_spec _ _ _ _ _ _) (by k_asm) (by k_asm) (by k_asm) (by k_asm) (by k_asm) (by first | exact rfl | assumption) (by ktr_room) (by ktr_units) (by assumption) ?_; k_whole); intro r' h' tk' F' N' kp' hp'; (obtain ⟨a', y', q', e', hg', hn', hy'⟩ := hp'; subst e'; have hyk' := Nat.le_trans (Nat.le_of_eq (IntsAre.length hy')) (octetsOf_len _); have N' := News.fresh2 (by assumption) N' kp' hg' hn' rfl)))
  (k_with "call builtin:len" => (k_here; (with_reducible show wpAny _ _ (call (Value.builtin "len") [Value.ref _]) _ _ _); k_dflt (refine PyProof.Rows.len_list (by exact News.isList (by k_asm) (by k_mem)) (by (simp only [List.size_toArray]; omega)) ?_; k_whole)))
  (k_with "WhlIf" => (first | refine WhlIf.yes (by assumption) ?_ | refine WhlIf.no (by assumption) ?_))
  (k_with "storeName" => (k_here; (with_reducible show wpAny _ _ (storeName (envOfC _ _ _ _ _) _ _) _ _ _); (first | (with_reducible show wpAny _ _ (storeName _ ("values" : Str) _) _ _ _) | (with_reducible show wpAny _ _ (storeName _ ("octets" : Str) _) _ _ _) | (with_reducible show wpAny _ _ (storeName _ ("ends" : Str) _) _ _ _) | (with_reducible show wpAny _ _ (storeName _ ("stops" : Str) _) _ _ _) | (with_reducible show wpAny _ _ (storeName _ ("starts" : Str) _) _ _ _)); refine Stop.out ?_))
  (k_with "call ref" => (k_here; (with_reducible show wpAny _ _ (call (Value.ref 208) [Value.ref _]) _ _ _); k_dflt (refine Spec.use (written_spec2 _ _ _ _ _ _ _) (by k_asm) (by k_asm) (by k_asm) (by k_asm) (by k_asm) (by first | exact rfl | assumption) (by ktr_room) (by ktr_units) (by (refine ⟨by is_list, by l_ints, ?_⟩; (first | assumption | omega | (simp only [List.length_take, List.length_drop]; omega)))) ?_; k_whole); intro r' h' tk' F' N' kp' hp'; (obtain ⟨y', t', hp', hy', hyl'⟩ := hp'; subst hp')))
  (k_with "call ref" => (k_here; (with_reducible show wpAny _ _ (call (Value.ref 58) [Value.bytes _ _]) _ _ _); k_dflt (refine Spec.use (b64_spec2 _ _ _ _ _ _) (by k_asm) (by k_asm) (by k_asm) (by k_asm) (by k_asm) (by first | exact rfl | assumption) (by ktr_room) (by ktr_units) (by (first | assumption | omega | (simp only [List.size_toArray, List.length_map]; omega))) ?_; k_whole); intro r' h' tk' F' N' kp' hp'; (obtain ⟨W', t', hp', hW', hWl'⟩ := hp'; subst hp')))
  (k_with "call ref" => (k_here; (with_reducible show wpAny _ _ (call (Value.ref 222) [Value.str _ _]) _ _ _); k_dflt (refine Spec.use (pieces_spec _ _ _ _ _ _) (by k_asm) (by k_asm) (by k_asm) (by k_asm) (by k_asm) (by first | exact rfl | assumption) (by ktr_room) (by ktr_units) (by assumption) ?_; k_whole); intro r' h' tk' F' N' kp' hp'; (obtain ⟨a', y', q', e', hg', hn', hy'⟩ := hp'; subst e'; have N' := News.fresh2 (by assumption) N' kp' hg' hn' rfl)))
  (k_with "call ref" => (k_here; (with_reducible show wpAny _ _ (call (Value.ref 229) [Value.ref _]) _ _ _); refine Stop.out ?_))
  (k_with "binaryOp Add ref ref" => (k_here; (with_reducible show wpAny _ _ (binaryOp _ (Value.ref _) (Value.ref _)) _ _ _); (have q9 : True := (fun (_ : Plain _ _ _ _ _ _) => True.intro) (by assumption)); clear q9; refine Stop.out ?_))
  (k_with "subscriptTail Name Slice ref ref" => (k_here; (with_reducible show wpAny _ _ (subscriptTail _ (PySem.Expr.Slice (some _) none none _) (Value.ref _) (Value.ref _)) _ _ _); (have q9 : True := (fun (_ : Plain _ _ _ _ _ _) => True.intro) (by assumption)); clear q9; k_dflt (refine kmk_slice_ints (by k_asm) (by k_asm) (by kmk_list) (by kmk_part) (by kmk_part) (by assumption) (by exact kmk_from (by assumption) (by assumption)) (by kmk_len) ?_ (by with_unfolding_all rfl) (by kmk_pure) (by (simp only [List.size_toArray]; omega))); intro D' ws' h' F' N' l1 hI' hC' hL'; (try k_lt l1)))
  (k_with "compareOp NotEq ref ref" => (k_here; (with_reducible show wpAny _ _ (compareOp CmpOp.NotEq (Value.ref _) (Value.ref _)) _ _ _); (have q9 : True := (fun (_ : Plain _ _ _ _ _ _) => True.intro) (by assumption)); clear q9; k_dflt (refine ne_strs (by exact News.isList (by k_asm) (by k_mem)) (by exact News.isList (by k_asm) (by k_mem)) (by assumption) (by assumption) (by assumption) (by ke_room) ?_; k_whole)))
  (k_with "call ref" => (k_here; (with_reducible show wpAny _ _ (call (Value.ref 173) [Value.str _ _]) _ _ _); k_dflt (refine Spec.use (dirname_spec _ _ _ _ _ _) (by k_asm) (by k_asm) (by k_asm) (by k_asm) (by k_asm) (by first | exact rfl | assumption) (by ktr_room) (by ktr_units) (by omega) ?_; k_whole); intro r' h' tk' F' N' kp' hp'; (obtain ⟨t', hp'⟩ := hp'; subst hp')))
  (k_with "subscriptTail Name UnaryOp ref int" => (k_here; (with_reducible show wpAny _ _ (subscriptTail _ _ (Value.ref _) (Value.int _ _)) _ _ _); (have q9 : True := (fun (_ : Plain _ _ _ _ _ _) => True.intro) (by assumption)); clear q9; k_dflt (refine item_last (News.isList (by k_asm) (by k_mem)) ?_)))
  (k_with "subscriptTail Name Slice ref ref" => (k_here; (with_reducible show wpAny _ _ (subscriptTail _ (PySem.Expr.Slice none (some _) none _) (Value.ref _) (Value.ref _)) _ _ _); (have q9 : True := (fun (_ : Plain _ _ _ _ _ _) => True.intro) (by assumption)); clear q9; k_dflt (refine slice_init (by k_asm) (by k_asm) (by exact News.isList (by k_asm) (by k_mem)) (by kmk_part) (by kmk_part) ?_ (by with_unfolding_all rfl) (by kmk_pure) (by assumption)); intro D' h' F' N' l1; (try k_lt l1)))
  (k_with "call ref" => (k_here; (with_reducible show wpAny _ _ (call (Value.ref 180) [Value.str _ _]) _ _ _); refine Stop.out ?_))
  (k_with "call ref" => (k_here; (with_reducible show wpAny _ _ (call (Value.ref 215) [Value.str _ _]) _ _ _); k_dflt (refine Spec.use (unwritten_spec _ _ _ _ _ _) (by k_asm) (by k_asm) (by k_asm) (by k_asm) (by k_asm) (by first | exact rfl | assumption) (by ktr_room) (by ktr_units) (by assumption) ?_; k_whole); intro r' h' tk' F' N' kp' hp'; (obtain ⟨a', y', q', e', hg', hn', hiu'⟩ := hp'; subst e'; have N' := News.fresh2 (by assumption) N' kp' hg' hn' rfl)))
  (k_with "call ref" => (k_here; (with_reducible show wpAny _ _ (call (Value.ref 236) [Value.ref _]) _ _ _); refine Stop.out ?_))
  (k_with "compareOp Eq ref ref" => (k_here; (with_reducible show wpAny _ _ (compareOp CmpOp.Eq (Value.ref _) (Value.ref _)) _ _ _); refine Stop.out ?_))
  exact True.intro

section
set_option maxHeartbeats 0 in
theorem law_holds : PySem.Challenge.rw_pd0184_01.Holds := hd (by
  k_go0
  (all_goals try k_fold)
  k_steps
  rename News _ _ _ _ => N9
  have mc := memOf N9 (.tail _ (.tail _ (.tail _ (.tail _ (.tail _ (.tail _ (.tail _ (.tail _ (.head _)))))))))
  have m0 := memOf N9 (.head _)
  have m4 := memOf N9 (.tail _ (.tail _ (.tail _ (.tail _ (.head _)))))
  have m5 := memOf N9 (.tail _ (.tail _ (.tail _ (.tail _ (.tail _ (.head _))))))
  have m6 := memOf N9 (.tail _ (.tail _ (.tail _ (.tail _ (.tail _ (.tail _ (.head _)))))))
  have m7 := memOf N9 (.tail _ (.tail _ (.tail _ (.tail _ (.tail _ (.tail _ (.tail _ (.head _))))))))
  refine' Stop.go (storeC (by assumption) N9 ?hcS8 mc ?hdS8 _ (Kept.cons m0 (ne_list N9 m0 mc (by assumption) rfl) (Kept.cons m4 (by with_unfolding_all exact nek _ 4 rfl) (Kept.cons m5 (by with_unfolding_all exact nek _ 3 rfl) (Kept.cons m6 (by with_unfolding_all exact nek _ 2 rfl) (Kept.cons m7 (by with_unfolding_all exact nek _ 1 rfl) (Kept.nil)))))) ?_)
  case hcS8 => with_unfolding_all exact rfl
  case hdS8 => assumption
  clear N9 mc m0 m4 m5 m6 m7
  intro h' o' F' N' d'
  repeat (rename (@Ne Nat _ _ ∧ _) => z9; clear z9)
  repeat (rename (@LT.lt Nat _ _ _ ∧ _) => z9; clear z9)
  k_steps
  rename IntsAre _ (_ ++ [200, 63, 63, 63]) => hV0
  rename List Int => ns
  have hV : IntsAre _ (valsOf ns) := hV0
  clear hV0
  obtain ⟨VS, hVS⟩ : ∃ VS, VS = valsOf ns := ⟨_, rfl⟩
  rw [← hVS] at hV
  have hVb : ∀ v ∈ VS, 0 ≤ v ∧ v < 4096 := hVS ▸ valsOf_bound ns
  have hVl : VS.length ≤ 14 := hVS ▸ valsOf_len ns
  have hVn := hV.length
  refine Stop.go (comp2_listS rfl (by assumption) (by assumption) (by decide) rfl rfl rfl rfl (fun _ _ => rfl) (.inr ⟨_, by with_unfolding_all exact List.Mem.tail _ (List.Mem.head _)⟩) (fun i ys => IntsAre ys ((VS.take i).flatMap octetsOf)) ?len .nil ?turn ?done)

  case len =>
    intro i ys hy
    have := hy.length
    have := octs_len (VS.take i)
    have := List.length_take_le' i VS
    omega
  case turn =>
    intro i v ys I oI C oC D m₂ h tk E' hi hv hy hC hx F' N' off ne
    obtain ⟨n, hn⟩ : ∃ n, VS[i]? = some n := ⟨_, List.getElem?_eq_getElem (by simpa [hVn] using hi)⟩
    obtain ⟨tv, htv⟩ := hV.get i n hn
    have hv2 : v = .int n tv := by
      rw [List.getElem?_toArray, htv] at hv
      exact (Option.some.inj hv).symm
    subst hv2
    have hnb := hVb n (List.mem_of_getElem? hn)
    have gI := (N' _ (.head _)).1
    have gC := (N' _ (.tail _ (.head _))).1
    have gD := (N' _ (.tail _ (.tail _ (.head _)))).1
    k_steps
    rename IntsAre _ (octetsOf n) => hz9
    rename Heap.get? h _ = none => hf9
    have hz8 := hz9.length
    have hz7 := octetsOf_len n
    refine' C2Mid.mk (by assumption) (by assumption) _ ?sub ⟨⟨ne_of_get hf9 gI, ne_of_get hf9 gC, ne_of_get hf9 gD⟩, off⟩ ?hz ⟨rfl, oct_step hn hy hz9⟩
    case sub => lcg_sub
    case hz => simp only [List.size_toArray]; omega
  case done => 
    intro D C h tk m' ys hd9 hy
    have hy1 : IntsAre ys (VS.flatMap octetsOf) := by
      rw [List.take_of_length_le (by simp [hVn])] at hy
      exact hy
    clear hy
    obtain ⟨OS, hOS⟩ : ∃ OS, OS = VS.flatMap octetsOf := ⟨_, rfl⟩
    rw [← hOS] at hy1
    have hOl : OS.length ≤ 28 := by
      have := octs_len VS
      rw [hOS]; omega
    have hyl := hy1.length
    refine finE hd9 ?_
    clear hd9
    intro h' F' N' o1
    simp only [LCg.Off1, and_true] at o1
    k_steps
    rename News _ _ _ _ => N9
    have mc := memOf N9 (.tail _ (.tail _ (.tail _ (.tail _ (.tail _ (.tail _ (.head _)))))))
    have m0 := memOf N9 (.head _)
    have m1 := memOf N9 (.tail _ (.head _))
    have m2 := memOf N9 (.tail _ (.tail _ (.head _)))
    have m3 := memOf N9 (.tail _ (.tail _ (.tail _ (.head _))))
    have m4 := memOf N9 (.tail _ (.tail _ (.tail _ (.tail _ (.head _)))))
    have m5 := memOf N9 (.tail _ (.tail _ (.tail _ (.tail _ (.tail _ (.head _))))))
    refine' Stop.go (storeC (by assumption) N9 ?hcS6 mc ?hdS6 _ (Kept.cons m0 (ne_list N9 m0 mc (by assumption) rfl) (Kept.cons m1 (by with_unfolding_all exact nek' _ 1 rfl) (Kept.cons m2 (ne_list N9 m2 mc (by assumption) rfl) (Kept.cons m3 (by with_unfolding_all exact nek _ 3 rfl) (Kept.cons m4 (by with_unfolding_all exact nek _ 2 rfl) (Kept.cons m5 (by with_unfolding_all exact nek _ 1 rfl) (Kept.nil))))))) ?_)
    case hcS6 => with_unfolding_all exact rfl
    case hdS6 => assumption
    clear N9 mc m0 m1 m2 m3 m4 m5
    intro h' o' F' N' d'
    repeat (rename (@Ne Nat _ _ ∧ _) => z9; clear z9)
    repeat (rename (@LT.lt Nat _ _ _ ∧ _) => z9; clear z9)
    k_steps
    refine Stop.go (comp_rangeS (n := VS.length) rfl (by assumption) (by assumption) (by assumption) (by decide) rfl rfl ?sm3 ?sz3 ?sl3 (fun i ys => IntsAre ys ((List.range i).map (endOf VS))) ?len3 .nil ?turn3 ?done3)
    case sm3 => exact small1 _ VS.length (by rw [← hVn]) (by omega)
    case sz3 => exact size1 _ VS.length (by rw [← hVn])
    case sl3 => 
      have : 1000 ≤ sizeLine := by size_fits
      omega
    case len3 =>
      intro i ys hy
      rw [hy.length]; simp
    case turn3 =>
      intro i t ys3 I oI C oC D3 m₂ h tk E' hi hy hC hx F' N' off ne
      refine tests0 ?_
      k_steps
      rename IntsAre _ (List.take _ VS) => hs3
      rw [show (0 + (i : Int) * 1 + 1).toNat = i + 1 by omega] at hs3
      have hs3l := hs3.length
      have hs3k : (VS.take (i + 1)).length ≤ VS.length := List.length_take_le' _ _
      refine Stop.go (comp_listS rfl (by assumption) (by assumption) (by decide) rfl rfl (.inr ⟨_, by with_unfolding_all exact List.Mem.head _⟩) ?sl4 (fun j zs => IntsAre zs (((VS.take (i + 1)).take j).map fun v => ((octetsOf v).length : Int))) ?len4 .nil ?turn4 ?done4)
      case sl4 =>
        have : 1000 ≤ sizeLine := by size_fits
        simp only [List.size_toArray]
        omega
      case len4 =>
        intro j zs hz
        rw [hz.length, List.length_map]
        exact List.length_take_le _ _
      case turn4 =>
        intro j v zs I4 oI4 C4 oC4 D4 m₄ h4 tk4 E4 hj hv hz hC4 hx4 F4 N4 off4 ne4
        obtain ⟨n, hn⟩ : ∃ n, (VS.take (i + 1))[j]? = some n := ⟨_, List.getElem?_eq_getElem (by simpa [hs3l] using hj)⟩
        obtain ⟨tv, htv⟩ := hs3.get j n hn
        have hv2 : v = .int n tv := by
          rw [List.getElem?_toArray, htv] at hv
          exact (Option.some.inj hv).symm
        subst hv2
        have hnb := hVb n (List.mem_of_mem_take (List.mem_of_getElem? hn))
        refine tests0 ?_
        k_steps
        rename IntsAre _ (octetsOf n) => hz9
        refine' CTurn.mk (by assumption) (by assumption) _ ?sub off4 ⟨rfl, len_step hn hz hz9⟩
        case sub => lcg_sub
      case done4 =>
        intro D4 C4 h4 tk4 m4 zs hd4 hz
        have hz1 : IntsAre zs ((VS.take (i + 1)).map fun v => ((octetsOf v).length : Int)) := by
          rw [List.take_of_length_le (by simp [hs3l])] at hz
          exact hz
        clear hz
        have hz1l := hz1.length
        refine finE hd4 ?_
        clear hd4
        intro h5 F5 N5 o5
        simp only [LCg.Off1, and_true] at o5
        k_steps
        refine' CTurn.mk (by assumption) (by assumption) _ ?sub off ⟨rfl, end_step hy⟩
        case sub => lcg_sub
    case done3 =>
      intro D3 C3 h3 tk3 m3 ys3 hd3 hy
      have hyl3 := hy.length
      refine finE hd3 ?_
      clear hd3
      intro h' F' N' o1
      simp only [LCg.Off1, and_true] at o1
      k_steps
      rename News _ _ _ _ => N9
      have mc := memOf N9 (.tail _ (.tail _ (.tail _ (.tail _ (.tail _ (.tail _ (.tail _ (.head _))))))))
      have m0 := memOf N9 (.head _)
      have m1 := memOf N9 (.tail _ (.head _))
      have m2 := memOf N9 (.tail _ (.tail _ (.head _)))
      have m3 := memOf N9 (.tail _ (.tail _ (.tail _ (.head _))))
      have m4 := memOf N9 (.tail _ (.tail _ (.tail _ (.tail _ (.head _)))))
      have m5 := memOf N9 (.tail _ (.tail _ (.tail _ (.tail _ (.tail _ (.head _))))))
      have m6 := memOf N9 (.tail _ (.tail _ (.tail _ (.tail _ (.tail _ (.tail _ (.head _)))))))
      refine' Stop.go (storeC (by assumption) N9 ?hcS7 mc ?hdS7 _ (Kept.cons m0 (ne_list N9 m0 mc (by assumption) rfl) (Kept.cons m1 (by with_unfolding_all exact nek' _ 1 rfl) (Kept.cons m2 (ne_list N9 m2 mc (by assumption) rfl) (Kept.cons m3 (by with_unfolding_all exact nek' _ 2 rfl) (Kept.cons m4 (ne_list N9 m4 mc (by assumption) rfl) (Kept.cons m5 (by with_unfolding_all exact nek _ 2 rfl) (Kept.cons m6 (by with_unfolding_all exact nek _ 1 rfl) (Kept.nil)))))))) ?_)
      case hcS7 => with_unfolding_all exact rfl
      case hdS7 => assumption
      clear N9 mc m0 m1 m2 m3 m4 m5 m6
      intro h' o' F' N' d'
      repeat (rename (@Ne Nat _ _ ∧ _) => z9; clear z9)
      repeat (rename (@LT.lt Nat _ _ _ ∧ _) => z9; clear z9)
      k_steps
      refine Stop.go (comp_rangeS (n := OS.length / 3) rfl (by assumption) (by assumption) (by assumption) (by decide) rfl rfl ?sm5 ?sz5 ?sl5 (fun i ys => IntsAre ys (((List.range i).map fun k : Nat => (3 + (k : Int) * 3)).filter (markAt OS))) ?len5 .nil ?turn5 ?done5)
      case sm5 => exact smallT _ OS.length (by rw [← hyl]; rfl) (by omega)
      case sz5 => exact sizeT _ OS.length (by rw [← hyl]; rfl) (by omega)
      case sl5 =>
        have : 1000 ≤ sizeLine := by size_fits
        omega
      case len5 =>
        intro i ys hy
        rw [hy.length]
        refine Nat.le_trans (List.length_filter_le _ _) ?_
        simp
      case turn5 =>
        intro i t ys5 I oI C oC D5 m₂ h tk E' hi hy hC hx F' N' off ne
        refine tests1 ?_
        obtain ⟨o, ho⟩ : ∃ o, OS[3 * i + 2]? = some o := ⟨_, List.getElem?_eq_getElem (by omega)⟩
        cases hmk : markAt OS (3 + (i : Nat) * 3) with
        | true =>
          k_steps
          refine' CTurn.mk (by assumption) (by assumption) _ ?sub off ⟨rfl, mark_yes hy hmk⟩
          case sub => lcg_sub
        | false =>
          k_steps
          refine' CSkip.mk (by assumption) (by assumption) _ ?sub off ⟨rfl, mark_no hy hmk⟩
          case sub => lcg_sub
      case done5 =>
        intro D5 C5 h5 tk5 m5 ys5 hd5 hy
        have hy5 : IntsAre ys5 (marksOf OS) := hy
        clear hy
        obtain ⟨MS, hMS⟩ : ∃ MS, MS = marksOf OS := ⟨_, rfl⟩
        rw [← hMS] at hy5
        have hyl5 := hy5.length
        have hMl : MS.length ≤ 9 := by
          have := marks_len OS
          rw [hMS]; omega
        refine finE hd5 ?_
        clear hd5
        intro h' F' N' o1
        simp only [LCg.Off1, and_true] at o1
        k_steps
        rename News _ _ _ _ => N9
        have mc := memOf N9 (.tail _ (.tail _ (.tail _ (.tail _ (.tail _ (.tail _ (.tail _ (.tail _ (.tail _ (.tail _ (.head _)))))))))))
        have m0 := memOf N9 (.head _)
        have m3 := memOf N9 (.tail _ (.tail _ (.tail _ (.head _))))
        have m4 := memOf N9 (.tail _ (.tail _ (.tail _ (.tail _ (.head _)))))
        have m5 := memOf N9 (.tail _ (.tail _ (.tail _ (.tail _ (.tail _ (.head _))))))
        have m6 := memOf N9 (.tail _ (.tail _ (.tail _ (.tail _ (.tail _ (.tail _ (.head _)))))))
        have m7 := memOf N9 (.tail _ (.tail _ (.tail _ (.tail _ (.tail _ (.tail _ (.tail _ (.head _))))))))
        have m8 := memOf N9 (.tail _ (.tail _ (.tail _ (.tail _ (.tail _ (.tail _ (.tail _ (.tail _ (.head _)))))))))
        have m9 := memOf N9 (.tail _ (.tail _ (.tail _ (.tail _ (.tail _ (.tail _ (.tail _ (.tail _ (.tail _ (.head _))))))))))
        refine' Stop.go (storeC (by assumption) N9 ?hcS10 mc ?hdS10 _ (Kept.cons m0 (ne_list N9 m0 mc (by assumption) rfl) (Kept.cons m3 (by with_unfolding_all exact nek' _ 1 rfl) (Kept.cons m4 (ne_list N9 m4 mc (by assumption) rfl) (Kept.cons m5 (by with_unfolding_all exact nek' _ 2 rfl) (Kept.cons m6 (ne_list N9 m6 mc (by assumption) rfl) (Kept.cons m7 (by with_unfolding_all exact nek' _ 3 rfl) (Kept.cons m8 (ne_list N9 m8 mc (by assumption) rfl) (Kept.cons m9 (by with_unfolding_all exact nek _ 1 rfl) (Kept.nil))))))))) ?_)
        case hcS10 => with_unfolding_all exact rfl
        case hdS10 => assumption
        clear N9 mc m0 m3 m4 m5 m6 m7 m8 m9
        intro h' o' F' N' d'
        repeat (rename (@Ne Nat _ _ ∧ _) => z9; clear z9)
        repeat (rename (@LT.lt Nat _ _ _ ∧ _) => z9; clear z9)
        k_steps
        rename News _ _ _ _ => N9
        have mc := memOf N9 (.tail _ (.tail _ (.tail _ (.tail _ (.tail _ (.tail _ (.tail _ (.tail _ (.tail _ (.tail _ (.tail _ (.head _))))))))))))
        have m0 := memOf N9 (.head _)
        have m3 := memOf N9 (.tail _ (.tail _ (.tail _ (.head _))))
        have m4 := memOf N9 (.tail _ (.tail _ (.tail _ (.tail _ (.head _)))))
        have m5 := memOf N9 (.tail _ (.tail _ (.tail _ (.tail _ (.tail _ (.head _))))))
        have m6 := memOf N9 (.tail _ (.tail _ (.tail _ (.tail _ (.tail _ (.tail _ (.head _)))))))
        have m7 := memOf N9 (.tail _ (.tail _ (.tail _ (.tail _ (.tail _ (.tail _ (.tail _ (.head _))))))))
        have m8 := memOf N9 (.tail _ (.tail _ (.tail _ (.tail _ (.tail _ (.tail _ (.tail _ (.tail _ (.head _)))))))))
        have m9 := memOf N9 (.tail _ (.tail _ (.tail _ (.tail _ (.tail _ (.tail _ (.tail _ (.tail _ (.tail _ (.head _))))))))))
        have m10 := memOf N9 (.tail _ (.tail _ (.tail _ (.tail _ (.tail _ (.tail _ (.tail _ (.tail _ (.tail _ (.tail _ (.head _)))))))))))
        refine' Stop.go (storeC (by assumption) N9 ?hcS11 mc ?hdS11 _ (Kept.cons m0 (ne_list N9 m0 mc (by assumption) rfl) (Kept.cons m3 (by with_unfolding_all exact nek' _ 1 rfl) (Kept.cons m4 (ne_list N9 m4 mc (by assumption) rfl) (Kept.cons m5 (by with_unfolding_all exact nek' _ 2 rfl) (Kept.cons m6 (ne_list N9 m6 mc (by assumption) rfl) (Kept.cons m7 (by with_unfolding_all exact nek' _ 3 rfl) (Kept.cons m8 (ne_list N9 m8 mc (by assumption) rfl) (Kept.cons m9 (by with_unfolding_all exact nek' _ 4 rfl) (Kept.cons m10 (ne_list N9 m10 mc (by assumption) rfl) (Kept.nil)))))))))) ?_)
        case hcS11 => with_unfolding_all exact rfl
        case hdS11 => assumption
        clear N9 mc m0 m3 m4 m5 m6 m7 m8 m9 m10
        intro h' o' F' N' d'
        repeat (rename (@Ne Nat _ _ ∧ _) => z9; clear z9)
        repeat (rename (@LT.lt Nat _ _ _ ∧ _) => z9; clear z9)
        k_steps
        rename IntsAre _ ([0] ++ _) => hST0
        have hST := ints_to hST0 (show _ = 0 :: MS by simp)
        clear hST0
        rename IntsAre _ (List.take _ (MS ++ _)) => hz0
        clear hz0
        rename IntsAre _ (MS ++ _) => hSP0
        have hSP := ints_to hSP0 (show _ = MS ++ [(OS.length : Int)] by rw [List.size_toArray, hyl])
        clear hSP0
        obtain ⟨ST, hSTe⟩ : ∃ ST, ST = 0 :: MS := ⟨_, rfl⟩
        obtain ⟨SP, hSPe⟩ : ∃ SP, SP = MS ++ [(OS.length : Int)] := ⟨_, rfl⟩
        rw [← hSTe] at hST
        rw [← hSPe] at hSP
        have hMb := marks_b hMS
        have hSTb : ∀ k, 0 ≤ ST.getD k 0 ∧ ST.getD k 0 ≤ OS.length := hSTe ▸ starts_b hMb
        have hSPb : ∀ k, 0 ≤ SP.getD k 0 ∧ SP.getD k 0 ≤ OS.length := hSPe ▸ stops_b hMb
        have hSTl : ST.length = MS.length + 1 := by rw [hSTe]; rfl
        have hSPl : SP.length = MS.length + 1 := by rw [hSPe]; simp
        refine Stop.go (comp_rangeS (n := MS.length) rfl (by assumption) (by assumption) (by assumption) (by decide) rfl rfl ?sm6 ?sz6 ?sl6 (fun i ys => StrsAre ys ((List.range i).map (dueAt OS ST SP))) ?len6 .nil ?turn6 ?done6)
        case sm6 => exact small1 _ MS.length (by omega) (by omega)
        case sz6 => exact size1 _ MS.length (by omega)
        case sl6 =>
          have : 1000 ≤ sizeLine := by size_fits
          omega
        case len6 =>
          intro i ys hy
          rw [hy.len_eq]; simp
        case turn6 =>
          intro i t ys6 I oI C oC D6 m₂ h tk E' hi hy hC hx F' N' off ne
          refine tests0 ?_
          have b1 := hSTb (0 + (i : Int) * 1).toNat
          have b2 := hSPb (0 + (i : Int) * 1).toNat
          k_steps
          rename _ = writtenS _ => hyw
          rename StrsAre ys6 _ => hyS
          refine' CTurn.mk (by assumption) (by assumption) _ ?sub off ⟨rfl, due_step hyS (by rw [hyw, show (0 + (i : Int) * 1).toNat = i by omega]; rfl)⟩
          case sub => lcg_sub
        case done6 =>
          intro D6 C6 h6 tk6 m6 ys6 hd6 hy
          have hyl6 := hy.len_eq
          refine finA2 hd6 ?_
          clear hd6
          intro h' tk' F' N' o1
          simp only [LCg.Off1, and_true] at o1
          have hOb : ∀ x ∈ OS, 0 ≤ x ∧ x < 128 := hOS ▸ octs_b hVb
          have hO2 : ∀ x ∈ OS, 0 ≤ x ∧ x < 256 := fun x hx => ⟨(hOb x hx).1, by have := (hOb x hx).2; omega⟩
          have hbS : (byteArr OS).size ≤ 40 := by rw [byteArr_size]; omega
          k_steps
          rename Array UInt8 => W
          rename W = _ => hW
          rename W.size ≤ 100 => hWl
          have hW2 : W.size ≤ sizeLine := by
            have : 1000 ≤ sizeLine := by size_fits
            omega
          refine Stop.go (comp_bytesS rfl (by assumption) (by assumption) (by decide) rfl rfl hW2 (fun i ys => StrsAre ys ((W.toList.take i).map chrS)) ?len7 .nil ?turn7 ?done7)
          case len7 =>
            intro i ys hy
            rw [hy.len_eq]; simp; omega
          case turn7 =>
            intro i c t ys7 I oI C oC D7 m₂ h tk E' hi hc hy hC hx F' N' off ne
            refine tests0 ?_
            have hcl := c.toNat_lt
            k_steps
            refine' CTurn.mk (by assumption) (by assumption) _ ?sub off ⟨rfl, chr_step hy hc⟩
            case sub => lcg_sub
          case done7 =>
            intro D7 C7 h7 tk7 m7 ys7 hd7 hy
            have hyl7 := hy.len_eq
            refine finE hd7 ?_
            clear hd7
            intro h' F' N' o1
            simp only [LCg.Off1, and_true] at o1
            k_steps
            rename StrsAre ys7 _ => hyP
            rw [List.take_of_length_le (by simp)] at hyP
            obtain ⟨P, hP⟩ : ∃ P, P = Txt.join (Str.ofString "") (W.toList.map chrS) := ⟨_, rfl⟩
            refine join_list ⟨_, News.get (by assumption) (by k_mem), rfl, _, rfl⟩ (by simpa using hyP) (chr_fits W.toList (by simpa using hWl)) ?_
            rw [← hP]
            intro t' k'
            have hPe : P = mkS (enc OS) := hP.trans (path_eq hO2 hW)
            have hPl : P.length ≤ 100 := by
              rw [hPe, mkS_len]
              have := enc_len OS
              omega
            clear hP hyP hyl7
            repeat (rename (@Ne Nat _ _ ∧ _) => z9; clear z9)
            repeat (rename (@LT.lt Nat _ _ _ ∧ _) => z9; clear z9)
            have hOne : OS ≠ [] := hOS ▸ octs_ne (hVS ▸ vals_ne ns)
            obtain ⟨c, r, hpl⟩ := plain hOb hOne hOl hMS hSTe hSPe
            have hPfr : P = mkS (fr c r) := by rw [hPe, hpl.efr]
            have hSL : 1000 ≤ sizeLine := by rw [sizeLine_eq]; decide
            clear hW hWl hW2 hbS hPe hO2 hOne
            rename StrsAre ys6 _ => hy6
            have hy6l : ys6.length ≤ 9 := by
              have := hy6.len_eq
              simp at this
              omega
            obtain ⟨b3, b3'⟩ := hSTb (-1 + (ST.length : Int)).toNat
            k_steps
            rename _ = writtenS _ => hyw
            rename StrsAre _ (pRun P P.length).ps => hpc
            refine Stop.go (add_strs (by assumption) (by assumption) (News.isList (by assumption) (by k_mem)) (News.isList (by assumption) (by k_mem)) hy6 (.cons _ _ .nil) ?_ ?hz4)
            case hz4 => (simp only [List.length_cons, List.length_nil]; omega)
            intro D8 us8 h' F' N' l1 hu8
            rw [hyw, hpl.due] at hu8
            rw [hpl.pieces hPfr] at hpc
            clear l1 hyw hy6
            have hok := hpl.okP
            have hrl : (r.map mkS).length ≤ 40 := by
              rw [List.length_map, hpl.rl]; omega
            have hfl := hpl.frl
            have hrx := hpl.rx
            k_steps
            refine' Stop.go (Spec.use (fronts_spec _ _ _ _ _ _ (mkS c) (r.map mkS)) ?k1 ?k2 ?k3 ?k4 ?k5 ?k6 ?k7 ?k8 ?k9 ?_)
            case k1 => k_asm
            case k2 => k_asm
            case k3 => k_asm
            case k4 => k_asm
            case k5 => k_asm
            case k6 => exact rfl
            case k7 => ktr_room
            case k8 => ktr_units
            case k9 => exact ⟨News.isList (by k_asm) (by k_mem), hpc, hrl, hfl, hrx⟩
            intro q' h' tk' F' N' kp' hp'
            obtain ⟨a', y', k', e', hg', hn', hfa⟩ := hp'
            subst e'
            have N' := News.fresh2 (by assumption) N' kp' hg' hn' rfl
            clear hg' hn' kp' hu8 hfl hrx hok
            rename News _ _ _ _ => N9
            have N10 := newsSub N9 (Sub.cons (.head _) (Sub.cons (.tail _ (.tail _ (.tail _ (.tail _ (.head _))))) (Sub.cons (.tail _ (.tail _ (.tail _ (.tail _ (.tail _ (.tail _ (.tail _ (.tail _ (.tail _ (.head _)))))))))) (Sub.cons (.tail _ (.tail _ (.tail _ (.tail _ (.tail _ (.tail _ (.tail _ (.tail _ (.tail _ (.tail _ (.head _))))))))))) (Sub.cons (.tail _ (.tail _ (.tail _ (.tail _ (.tail _ (.tail _ (.tail _ (.tail _ (.tail _ (.tail _ (.tail _ (.head _)))))))))))) (Sub.cons (.tail _ (.tail _ (.tail _ (.tail _ (.tail _ (.tail _ (.tail _ (.tail _ (.tail _ (.tail _ (.tail _ (.tail _ (.head _))))))))))))) (Sub.cons (.tail _ (.tail _ (.tail _ (.tail _ (.tail _ (.tail _ (.tail _ (.tail _ (.tail _ (.tail _ (.tail _ (.tail _ (.tail _ (.tail _ (.tail _ (.head _)))))))))))))))) (Sub.cons (.tail _ (.tail _ (.tail _ (.tail _ (.tail _ (.tail _ (.tail _ (.tail _ (.tail _ (.tail _ (.tail _ (.tail _ (.tail _ (.tail _ (.tail _ (.tail _ (.head _))))))))))))))))) (Sub.nil)))))))))
            clear N9
            repeat (rename (@Ne Nat _ _ ∧ _) => z9; clear z9)
            repeat (rename (@LT.lt Nat _ _ _ ∧ _) => z9; clear z9)
            have hfa2 := hfa
            rw [hpl.fall_eq, ← hPfr] at hfa2
            obtain ⟨ys', tl, e9, hys⟩ := strs_snoc hfa2
            subst e9
            clear hfa2
            have hyl' := hys.len_eq
            rw [List.length_map, List.length_range, hpl.rl] at hyl'
            have hzl : (ys' ++ [Value.str P tl]).toArray.size ≤ sizeLine := by
              rw [List.size_toArray, List.length_append, List.length_singleton]; omega
            have hPP : (P != P) = false := by simp
            k_steps
            refine Stop.go (comp_listS rfl (by assumption) (by assumption) (by decide) rfl rfl (.inr ⟨_, by with_unfolding_all exact List.Mem.head _⟩) hzl (fun i ys => StrsAre ys (((fall (mkS c) (r.map mkS)).take i).map headOf)) ?len9 .nil ?turn9 ?done9)
            case len9 =>
              intro i ys hy
              rw [hy.len_eq, List.length_map]
              exact List.length_take_le _ _
            case turn9 =>
              intro i v ys9 I oI C oC D9 m₂ h tk E' hi hv hy hC hx F' N' off ne
              obtain ⟨x, tx, rfl, hx8⟩ := hfa.item i v (by simpa using hv)
              have hxl := hpl.fl x (List.mem_of_getElem? hx8)
              refine tests0 ?_
              k_steps
              rename StrsAre ys9 _ => hyS
              refine' CTurn.mk (by assumption) (by assumption) _ ?sub off ⟨rfl, head_step hyS hx8⟩
              case sub => lcg_sub
            case done9 =>
              intro D9 C9 h9 tk9 m9 ys9 hd9 hy
              refine finE hd9 ?_
              clear hd9
              intro h' F' N' o1
              clear o1
              rw [List.take_of_length_le (by rw [List.size_toArray, hfa.len_eq]; exact Nat.le_refl _), hpl.heads] at hy
              clear hfa
              k_steps
              refine Stop.go (add_strs (by assumption) (by assumption) (News.isList (by assumption) (by k_mem)) (News.isList (by assumption) (by k_mem)) (.cons _ _ .nil) hys ?_ ?hz5)
              case hz5 => (simp only [List.length_cons, List.length_nil]; omega)
              intro D8 us8 h' F' N' l1 hu8
              rw [hpl.nil_init] at hu8
              clear l1
              have hok := hpl.okF
              k_steps
              clear hok hu8 hy hPP
              rename News _ _ _ _ => N9
              have N10 := newsSub N9 (Sub.cons (.tail _ (.tail _ (.tail _ (.tail _ (.head _))))) (Sub.cons (.tail _ (.tail _ (.tail _ (.tail _ (.tail _ (.head _)))))) (Sub.cons (.tail _ (.tail _ (.tail _ (.tail _ (.tail _ (.tail _ (.head _))))))) (Sub.cons (.tail _ (.tail _ (.tail _ (.tail _ (.tail _ (.tail _ (.tail _ (.head _)))))))) (Sub.cons (.tail _ (.tail _ (.tail _ (.tail _ (.tail _ (.tail _ (.tail _ (.tail _ (.head _))))))))) (Sub.cons (.tail _ (.tail _ (.tail _ (.tail _ (.tail _ (.tail _ (.tail _ (.tail _ (.tail _ (.head _)))))))))) (Sub.cons (.tail _ (.tail _ (.tail _ (.tail _ (.tail _ (.tail _ (.tail _ (.tail _ (.tail _ (.tail _ (.head _))))))))))) (Sub.cons (.tail _ (.tail _ (.tail _ (.tail _ (.tail _ (.tail _ (.tail _ (.tail _ (.tail _ (.tail _ (.tail _ (.head _)))))))))))) (Sub.nil)))))))))
              clear N9
              repeat (rename (@Ne Nat _ _ ∧ _) => z9; clear z9)
              repeat (rename (@LT.lt Nat _ _ _ ∧ _) => z9; clear z9)
              have hnm := hpl.norm hPfr hMl
              refine' Stop.go (Spec.use (normpath_spec2 _ _ _ _ _ _) ?k1 ?k2 ?k3 ?k4 ?k5 ?k6 ?k7 ?k8 ?k9 ?_)
              case k1 => k_asm
              case k2 => k_asm
              case k3 => k_asm
              case k4 => k_asm
              case k5 => k_asm
              case k6 => exact rfl
              case k7 => ktr_room
              case k8 => ktr_units
              case k9 => exact hnm
              intro q' h' tk' F' N' kp' hp'
              obtain ⟨Y, ut, e', hY⟩ := hp'
              subst e'
              clear hnm kp'
              rename StrsAre _ (mkS c :: _) => hpc
              have hpcl : (mkS c :: r.map mkS).length ≤ 100 := by
                simp only [List.length_cons, List.length_map, hpl.rl]; omega
              have hzp := strs_size hpc hpcl hSL
              k_steps
              refine Stop.go (comp_listS rfl (by assumption) (by assumption) (by decide) rfl rfl (.inr ⟨_, by with_unfolding_all exact List.Mem.tail _ (List.Mem.head _)⟩) hzp (fun i ys => StrsAre ys (((mkS c :: r.map mkS).take i).filter full?)) ?len10 .nil ?turn10 ?done10)
              case len10 =>
                intro i ys hy
                rw [hy.len_eq]
                exact Nat.le_trans (List.length_filter_le _ _) (List.length_take_le _ _)
              case turn10 =>
                intro i v ys10 I oI C oC D10 m₂ h tk E' hi hv hy hC hx F' N' off ne
                obtain ⟨x, tx, rfl, hx8⟩ := hpc.item i v (by simpa using hv)
                refine tests1 ?_
                cases hfx : full? x with
                | true =>
                  have hne : (x != Str.ofString "") = true := (full_ne x).trans hfx
                  k_steps
                  rename StrsAre ys10 _ => hyS
                  refine' CTurn.mk (by assumption) (by assumption) _ ?sub off ⟨rfl, full_yes hyS hx8 hfx⟩
                  case sub => lcg_sub
                | false =>
                  have hne : (x != Str.ofString "") = false := (full_ne x).trans hfx
                  k_steps
                  rename StrsAre ys10 _ => hyS
                  refine' CSkip.mk (by assumption) (by assumption) _ ?sub off ⟨rfl, full_no hyS hx8 hfx⟩
                  case sub => lcg_sub
              case done10 =>
                intro D10 C10 h10 tk10 m10 ys10 hd10 hy
                refine finE hd10 ?_
                clear hd10
                intro h' F' N' o1
                clear o1
                rw [List.take_of_length_le (by rw [List.size_toArray, hpc.len_eq]; exact Nat.le_refl _)] at hy
                obtain ⟨J, hJ⟩ : ∃ J, J = Txt.join (Str.ofString "/") ((mkS c :: r.map mkS).filter full?) := ⟨_, rfl⟩
                have hYJ : J = Y := hJ.trans ((hpl.norm_eq hPfr).symm.trans hY.symm)
                k_steps
                rename StrsAre ys10 _ => hyJ
                refine join_list ⟨_, News.get (by assumption) (by k_mem), rfl, _, rfl⟩ (by simpa using hyJ) (hpl.pieces_fit hMl) ?_
                rw [← hJ, hYJ]
                intro t9 k9
                have hYY : (Y != Y) = false := by simp
                clear hJ hYJ hyJ hY
                k_steps
                clear hYY
                have hzi := strs_size hys (by rw [List.length_map, List.length_range, hpl.rl]; omega) hSL
                refine Stop.go (comp_listS rfl (by assumption) (by assumption) (by decide) rfl rfl (.inr ⟨_, by with_unfolding_all exact List.Mem.head _⟩) hzi (fun i ys => StrsAre ys ((((List.range r.length).map (fun i => mkS (fr c (r.take i)))).take i).map fun x => x ++ Str.ofString "/")) ?len11 .nil ?turn11 ?done11)
                case len11 =>
                  intro i ys hy
                  rw [hy.len_eq, List.length_map]
                  exact List.length_take_le _ _
                case turn11 =>
                  intro i v ys11 I oI C oC D11 m₂ h tk E' hi hv hy hC hx F' N' off ne
                  obtain ⟨x, tx, rfl, hx8⟩ := hys.item i v (by simpa using hv)
                  have hxl := hpl.il x (List.mem_of_getElem? hx8)
                  refine tests0 ?_
                  k_steps
                  rename StrsAre ys11 _ => hyS
                  refine' CTurn.mk (by assumption) (by assumption) _ ?sub off ⟨rfl, text_step hyS hx8⟩
                  case sub => lcg_sub
                case done11 =>
                  intro D11 C11 h11 tk11 m11 ys11 hd11 hy
                  refine finE hd11 ?_
                  clear hd11
                  intro h' F' N' o1
                  clear o1
                  rw [List.take_of_length_le (by rw [List.size_toArray, hys.len_eq]; exact Nat.le_refl _)] at hy
                  have hyl11 := hy.len_eq
                  rw [List.length_map, List.length_map, List.length_range, hpl.rl] at hyl11
                  k_steps
                  rename StrsAre ys11 _ => hyT
                  refine Stop.go (add_strs (by assumption) (by assumption) (News.isList (by assumption) (by k_mem)) (News.isList (by assumption) (by k_mem)) hyT (.cons _ _ .nil) ?_ ?hz6)
                  case hz6 => (simp only [List.length_cons, List.length_nil]; omega)
                  intro D12 us12 h' F' N' l1 hu12
                  rw [hpl.texts hPfr] at hu12
                  clear l1 hys hyT hpc
                  rename News _ _ _ _ => N9
                  have N10 := newsSub N9 (Sub.cons (.head _) (Sub.cons (.tail _ (.tail _ (.tail _ (.tail _ (.tail _ (.tail _ (.tail _ (.head _)))))))) (Sub.cons (.tail _ (.tail _ (.tail _ (.tail _ (.tail _ (.tail _ (.tail _ (.tail _ (.head _))))))))) (Sub.cons (.tail _ (.tail _ (.tail _ (.tail _ (.tail _ (.tail _ (.tail _ (.tail _ (.tail _ (.head _)))))))))) (Sub.cons (.tail _ (.tail _ (.tail _ (.tail _ (.tail _ (.tail _ (.tail _ (.tail _ (.tail _ (.tail _ (.head _))))))))))) (Sub.cons (.tail _ (.tail _ (.tail _ (.tail _ (.tail _ (.tail _ (.tail _ (.tail _ (.tail _ (.tail _ (.tail _ (.head _)))))))))))) (Sub.cons (.tail _ (.tail _ (.tail _ (.tail _ (.tail _ (.tail _ (.tail _ (.tail _ (.tail _ (.tail _ (.tail _ (.tail _ (.head _))))))))))))) (Sub.nil))))))))
                  clear N9
                  repeat (rename (@Ne Nat _ _ ∧ _) => z9; clear z9)
                  repeat (rename (@LT.lt Nat _ _ _ ∧ _) => z9; clear z9)
                  have hTl : ((mkN OS ++ [OS.length]).map fun t => mkS (enc (OS.take t))).length ≤ 100 := by
                    have := congrArg List.length (hMS.trans (marks_mkN OS))
                    simp only [List.length_map, List.length_append, List.length_singleton] at this ⊢
                    omega
                  have hTz := strs_size hu12 hTl hSL
                  k_steps
                  refine Stop.go (comp_listG rfl (by assumption) (by assumption) (by decide) rfl rfl ⟨_, by with_unfolding_all exact List.Mem.head _⟩ hTz (fun i ys pre => IntLs pre ys (((mkN OS ++ [OS.length]).take i).map fun t => readAll (OS.take t))) ?len12 .nil ?turn12 ?done12)
                  case len12 =>
                    intro i ys pre hy
                    rw [hy.len_eq, List.length_map]
                    exact List.length_take_le _ _
                  case turn12 =>
                    intro i v ys13 pre I oI C oC D13 m₂ h tk E' hi hv hinv hC hx F' N' off ne
                    obtain ⟨x, tx, rfl, hx8⟩ := hu12.item i v (by simpa using hv)
                    obtain ⟨t, ht, hxt, hxl⟩ := text_at hx8 hOl
                    refine tests0 ?_
                    simp only [List.cons_append, List.nil_append] at N'
                    k_steps
                    rename IntsAre _ (unwrittenS x) => hiu
                    have hO2 : ∀ x ∈ OS.take t, 0 ≤ x ∧ x < 256 := fun x hx => ⟨(hOb x (List.mem_of_mem_take hx)).1, by have := (hOb x (List.mem_of_mem_take hx)).2; omega⟩
                    rw [hxt, unwritten_enc _ hO2] at hiu
                    rename News _ _ _ _ => NB
                    have gI := (NB _ (.tail _ (.head _))).1
                    have gC := (NB _ (.tail _ (.tail _ (.head _)))).1
                    have gD := (NB _ (.tail _ (.tail _ (.tail _ (.head _))))).1
                    have hF9 := Fr.ns (by assumption)
                    refine' Stop.go (SpecX.use (numbers_spec _ _ _ _ _ _ (OS.take t)) ?k1 ?k2 ?k3 ?k4 ?k5 ?k6 ?k7 ?k8 ?k9 ?_)
                    case k1 => k_asm
                    case k2 => k_asm
                    case k3 => k_asm
                    case k4 => k_asm
                    case k5 => k_asm
                    case k6 => exact rfl
                    case k7 => ktr_room
                    case k8 => ktr_units
                    case k9 => exact ⟨News.isList (by k_asm) (by k_mem), hiu, Nat.le_trans (List.length_take_le' _ _) (by omega), fun x hx => hOb x (List.mem_of_mem_take hx), octs_nextT hOS hVb t⟩
                    intro q' h' tk' F' N' hp'
                    obtain ⟨a', y', k', e', hg', hn', hin⟩ := hp'
                    subst e'
                    have N' := News.fresh3 (by assumption) N' hg' hn'
                    exact CTurn.new (by assumption) N' (fun p hp => .tail _ (.tail _ hp)) (.head _) off ⟨ne_of_get hn' gI, ne_of_get hn' gC, ne_of_get hn' gD⟩ (ints_step hinv ht hin)
                  case done12 =>
                    intro D13 C13 h13 tk13 m13 ys13 pre hd13 hy
                    refine finA2 hd13 ?_
                    clear hd13
                    intro h' tk' F' N' o1
                    clear o1
                    simp only [List.cons_append, List.nil_append] at N'
                    rw [List.take_of_length_le (by rw [List.size_toArray, hu12.len_eq, List.length_map]; exact Nat.le_refl _)] at hy
                    clear hu12 hTz hTl
                    repeat (rename (@Ne Nat _ _ ∧ _) => z9; clear z9)
                    repeat (rename (@LT.lt Nat _ _ _ ∧ _) => z9; clear z9)
                    have hSPz : 0 ≤ 0 := Nat.le_refl _
                    obtain ⟨EN, hENe⟩ : ∃ EN, EN = (List.range VS.length).map (endOf VS) := ⟨_, rfl⟩
                    rename IntsAre ys3 _ => hEN
                    rw [← hENe] at hEN
                    have hENl : EN.length = VS.length := by rw [hENe]; simp
                    have hENg : ∀ j, j < VS.length → EN.getD j 0 = endOf VS j := fun j hj => by rw [hENe]; exact ends_get hj
                    clear hENe
                    rename IntsAre _ SP => hSP9
                    have hSPs := ints_size hSP9 (by omega) hSL
                    k_steps
                    refine Stop.go (comp_cellG rfl (by assumption) (by assumption) (fun _ => rfl) (fun _ => rfl) rfl (fun _ _ => rfl) ⟨_, by with_unfolding_all exact List.Mem.tail _ (List.Mem.tail _ (List.Mem.tail _ (List.Mem.head _)))⟩ hSPs (fun i ys pre => IntLs pre ys ((SP.take i).map (selAt VS))) ?len13 .nil ?turn13 ?done13)
                    case len13 =>
                      intro i ys pre hy
                      rw [hy.len_eq, List.length_map]
                      exact List.length_take_le _ _
                    case turn13 =>
                      intro i v ys14 pre2 I oI C oC c co D14 h tk E' hi hv hinv hco F' N' off offc
                      simp only [List.cons_append, List.nil_append] at N'
                      obtain ⟨st, hst⟩ : ∃ st, SP[i]? = some st := ⟨_, List.getElem?_eq_getElem (by rw [← hSP9.length]; simpa using hi)⟩
                      obtain ⟨tv, htv⟩ := hSP9.get i st hst
                      have hv2 : v = .int st tv := by
                        rw [List.getElem?_toArray, htv] at hv
                        exact (Option.some.inj hv).symm
                      subst hv2
                      k_steps
                      refine Stop.go (comp_rangeS (n := VS.length) rfl (by assumption) (by assumption) (by assumption) (by decide) rfl rfl ?sm14 ?sz14 ?sl14 (fun j zs => IntsAre zs (((List.range j).filter (fun k => decide (endOf VS k ≤ st))).map fun k => VS.getD k 0)) ?len14 .nil ?turn14 ?done14)
                      case sm14 => exact small1 _ VS.length (by rw [← hVn]) (by omega)
                      case sz14 => exact size1 _ VS.length (by rw [← hVn])
                      case sl14 => omega
                      case len14 =>
                        intro j zs hz
                        rw [hz.length, List.length_map]
                        refine Nat.le_trans (List.length_filter_le _ _) ?_
                        simp
                      case turn14 =>
                        intro j t zs I4 oI4 C4 oC4 D4 m₄ h4 tk4 E4 hj hz hC4 hx4 F4 N4 off4 ne4
                        refine tests1 ?_
                        have hg := hENg j hj
                        have hj0 : (0 + (j : Int) * 1).toNat = j := by omega
                        cases hle : decide (endOf VS j ≤ st) with
                        | true =>
                          have hle2 : decide (EN.getD (0 + (j : Int) * 1).toNat 0 ≤ st) = true := by rw [hj0, hg]; exact hle
                          k_steps
                          rename IntsAre zs _ => hzS
                          refine' CTurn.mk (by assumption) (by assumption) _ ?sub off4 ⟨rfl, sel_yes hzS hle (by rw [hj0])⟩
                          case sub => first | exact fun p hp => hp | lcg_sub
                        | false =>
                          have hle2 : decide (EN.getD (0 + (j : Int) * 1).toNat 0 ≤ st) = false := by rw [hj0, hg]; exact hle
                          k_steps
                          rename IntsAre zs _ => hzS
                          refine' CSkip.mk (by assumption) (by assumption) _ ?sub off4 ⟨rfl, sel_no hzS hle⟩
                          case sub => first | exact fun p hp => hp | lcg_sub
                      case done14 =>
                        intro D4 C4 h4 tk4 m4 zs hd4 hz
                        refine finE hd4 ?_
                        clear hd4
                        intro h5 F5 N5 o5
                        have q1 := off1m o5 (I, oI) (.head _)
                        have q2 := off1m o5 (C, oC) (.tail _ (.head _))
                        have q3 := off1m o5 (c, co) (.tail _ (.tail _ (.head _)))
                        have q4 := off1m o5 (D14, LCg.lst ys14) (.tail _ (.tail _ (.tail _ (.head _))))
                        exact CTurnC.new (by assumption) N5 (fun p hp => .tail _ hp) (.head _) off offc ⟨Ne.symm q1, Ne.symm q2, Ne.symm q4⟩ (Ne.symm q3) (ints_step (zs := zs) (k := zs.length) hinv hst hz)
                    case done13 =>
                      intro D14 C14 h14 tk14 m14 ys14 pre2 hd14 hinv
                      refine finE hd14 ?_
                      clear hd14
                      intro h' F' N' o1
                      clear o1
                      simp only [List.cons_append, List.nil_append] at N'
                      have hfin := told_all hOS hVb hMS hSPe
                      rw [List.take_of_length_le (by rw [List.size_toArray, hSP9.length]; exact Nat.le_refl _)] at hinv
                      k_steps
                      rename IntLs _ ys13 _ => hyT
                      rename IntLs _ ys14 _ => hyS
                      rename News _ _ _ _ => N9
                      refine Stop.go (eq_intss (k := ys13.length) (j := ys14.length) N9 (by with_unfolding_all exact List.Mem.tail _ (List.Mem.head _)) (by with_unfolding_all exact List.Mem.head _) (hyT.weaken fun p hp => by simp [hp]) (hyS.weaken fun p hp => by simp [hp]) (by ke_room) ?_)
                      rw [decide_eq_true hfin]
                      k_steps)
end
end Mine

theorem PySem.Challenge.cw_pd0184_01_holds : PySem.Challenge.rw_pd0184_01.Holds :=
  Mine.law_holds
