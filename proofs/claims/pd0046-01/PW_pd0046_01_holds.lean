import PyProof.Rows.All
import Wide.All
import OpenK.AllK
import Wide.FinOn
import PySem.Challenge.RW_pd0046_01
open PySem PySem.W PyProof.Rows PySem.Calls
set_option Elab.async false
set_option maxRecDepth 100000
set_option maxHeartbeats 8000000
set_option linter.all false
namespace Mine
noncomputable def hd.view_39 : Program := view PySem.Challenge.rw_pd0046_01.row.toRowW.prog [0, 2, 3, 5, 7, 9, 10, 12, 14, 16, 17, 18, 20, 21, 22, 23, 24, 25, 26, 27]
theorem left_boot {p q : Program} {loose : List Str} {Xt : Shared → Bool} {α : Type} {Yf : Shared → α} {Ya : World → α} {N : Nat} {g0 : Bool}
    (e : opening p = plainProg p.main.scope.names) (hN : Nat.ble 600 N = true) (f : ∀ s, fenceModules? p s = some s)
    (h : ∀ w : World, (fun os => (topFrom treeTable p w N ⟨boot_heap w.params, Array.mk [], boot_drawn, boot_toks, os⟩).map (fun s => (openSeen q loose (importedModules p.main.body) Xt g0 s, Yf s))) = fun _ => some (openGood q loose, Ya w)) :
    LeftO p q loose Xt Yf Ya N g0 := fun w => by
  obtain ⟨⟨h', gs, d, k, os⟩, e, e'⟩ := Option.map_eq_some_iff.mp (boot_open e hN f w)
  obtain ⟨rfl, rfl, rfl, rfl⟩ : h' = boot_heap w.params ∧ gs = Array.mk [] ∧ d = boot_drawn ∧ k = boot_toks := by simpa using e'
  unfold openEnds
  rw [e]
  exact congrFun (h w) os
theorem said : PySem.Challenge.rw_pd0046_01.wellSaid = true := by rw [PySem.W.Fast.te9446332074065402090]; kernel_rfl
section
local macro_rules | `(tactic| o_law) => `(tactic| refine holds_law said fun _ => ?_)
local macro_rules | `(tactic| o_head $H) => `(tactic| (refine holds_open (q := hd.view_39) (loose := []) (Xt := fun s => xlAt hd.view_39 [] s && recOk (RowW.records PySem.Challenge.rw_pd0046_01.row.toRowW) s) (XP := XL hd.view_39 []) (Yf := Hook.obs $H) (Ya := Hook.val $H) (YP := Hook.says $H) (N := 2384) ?hl (Hook.of $H) (Hook.keeps $H) (fun s e => xl_of s (Bool.and_eq_true_iff.mp e).1) XL.keeps (by rfl) (by rfl) (by rfl) (fun s e => recFacts_of (Bool.and_eq_true_iff.mp e).2) (by rfl) (by first | assumption | decide +kernel) (by decide +kernel) ⟨rfl, rfl, rfl, rfl, rfl, by decide +kernel⟩ ?hw ?hc; (case hl => (refine left_boot (by kernel_rfl) (by kernel_rfl) (fun s => by kernel_rfl) ?_; unfold topFrom; rw [PySem.W.Fast.te14082659384304107361, PySem.W.Fast.te14364793385576792824, PySem.W.Fast.te4187177175401517315]; intro w; kernel_rfl))))
open_top hd for PySem.Challenge.rw_pd0046_01
end
local macro_rules | `(tactic| walk_at $s:str) => `(tactic| k_extra $s)
section
section
variable {prog : Program} {w : World} {A : Around} {E : Value → Shared → Prop} {s : Shared}
theorem isc_kind : builtinKind "issubclass.nested" = none := by decide +kernel
theorem isc_plain : plainId "issubclass.nested" = true := by decide +kernel
theorem isc_args (a b c : Value) : argsOk "issubclass.nested" ⟨[a, b, c], []⟩ := by unfold argsOk; kernel_rfl
theorem isc_str_str {dep : Int} {tk : Tok} {Q : PySem.Fin → Shared → Prop} (hq : Q (.done (.ret (.bool true))) s) :
    wpAny (model prog w) A (Builtin.«issubclass.nested» ⟨[.type "str", .type "str", .int dep tk], []⟩) Q E s := by
  repeat (any_goals (first | assumption | wp_step))
  rw [isSubtype_str_str]
  repeat (any_goals (first | assumption | wp_step))
theorem isc_tuple {D : Addr} {n : Nat} {Q : PySem.Fin → Shared → Prop} (htp : s.heap.get? D = some { cls := .type "tuple", data := .seq #[.type "str", .type "bytes"] n }) (hq : Q (.done (.ret (.bool true))) s) :
    wpAny (model prog w) A (Builtin.«issubclass.nested» ⟨[.type "str", .ref D, rawInt 0], []⟩) Q E s := by
  obtain ⟨h, g, d, t, os⟩ := s
  have hT2 : (⟨h, g, d, t, os⟩ : Shared).TypeIs (.ref D) "tuple" := ⟨_, htp, rfl⟩
  have f1 := F.isi_sub_tuple
  repeat (any_goals (first | assumption | (refine Calls.call_function_entry isc_kind isc_plain F.entry_issubclass_nested (isc_args _ _ _) (isc_str_str ⟨_, rfl, ?_⟩)) | wp_step))
theorem call_isc {D : Addr} {n : Nat} {Q : Value → Shared → Prop} (htp : s.heap.get? D = some { cls := .type "tuple", data := .seq #[.type "str", .type "bytes"] n }) (h : Q (.bool true) s) :
    wpAny (model prog w) A (call (.builtin "issubclass") [.type "str", .ref D]) Q E s :=
  call_issubclass (S := fun _ R s => (∃ n, s.heap.get? D = some { cls := .type "tuple", data := .seq #[.type "str", .type "bytes"] n }) ∧ R (.ok (.ret (.bool true))) s)
    (fun _ _ _ _ _ hs => issubclass_outer (isc_tuple hs.1.choose_spec hs.2)) ⟨⟨n, htp⟩, h⟩
end
end
section
theorem peek1_at {α : Type} {K : Frag} {M : Model} {A : Around} {E : Value → Shared → Prop} {Q : α → Shared → Prop} {s : Shared} {o : Obj} {r : Addr → α}
    (X : K.In s.heap) (q : Q (r s.heap.objs.size) { s with heap := s.heap.push o }) :
    ∀ (t : Sem α) (g : Addr → Option α), peek1 K ⟨M.prog, M.w.params⟩ t = some (o, g) → (∀ D, g D = some (r D)) → wpAny M A t Q E s := by
  intro t
  induction t with
  | rule _ k ih => intro g e hg Γ p hΓ; exact ih () g e hg Γ p hΓ
  | point _ k ih => intro g e hg Γ p hΓ; exact ih () g e hg Γ p hΓ
  | ask k ih => intro g e hg Γ p hΓ; exact ih _ g e hg Γ p hΓ
  | load a _ k ih =>
    intro g e hg Γ p hΓ
    simp only [peek1] at e
    split at e
    · rename_i ob ho; exact ⟨ob, X _ _ ho, ih ob g e hg Γ p hΓ⟩
    · cases e
  | alloc ob k _ =>
    intro g e hg
    have e : some (ob, fun D => peek K ⟨M.prog, M.w.params⟩ (k D)) = some (o, g) := e
    obtain ⟨e1, e2⟩ := Prod.mk.inj (Option.some.inj e)
    subst e1
    subst e2
    have X' : K.In (s.heap.push ob) := X.keeps fun b x hb => Heap.get?_push_of_some _ hb
    show wpAny M A (alloc ob >>= k) Q E s
    refine wpAny_bind (wpAny_alloc ?_)
    exact (Looks.of_peek (M := M) (h := s.heap.push ob) X' (hg s.heap.objs.size)).here (s := { s with heap := s.heap.push ob }) q
  | _ => intro g e; cases e
section
variable {prog : Program} {w : World} {A : Around} {s : Shared} {K : Frag} {mg mb : Str → Option Value} {p : Program} {loose : List Str} {mean : ExcName → Option Value}
  {R : Result → Shared → Prop} {name qual : Str} {params : Arguments} {body : List Stmt} {scope : Scope} {dV kV doc pm cdv ct oc : Value} {an od : Option Addr} {osl : Array (Option Value)} {f : Addr} {args : Args}
abbrev Keep (h h' : Heap) : Prop := ∀ b o, h.get? b = some o → h'.get? b = some o
/-- what stands behind a body that has been entered -/
abbrev Body (prog : Program) (w : World) (A : Around) (R : Result → Shared → Prop) (body : List Stmt) (env : Env) (s : Shared) : Prop :=
  wpAny (model prog w) (A.deeper env) (execs body env) (fun fl s' => R (.ok (.ret (match fl with | .ret v => v | _ => .none))) s')
    (fun e s' => wpAny (model prog w) (A.deeper env) (leaving env e) (fun _ s'' => R (.error e) s'') (fun e' s'' => R (.error e') s'') s') s
/-- a plain def is entered: all of the heap is ground, the ledger is empty -/
theorem enter0 {binds : List (Str × Value)} (X : K.In s.heap) (T : Top p loose mean mg mb s.heap)
    (ho : K.lookup f = some ⟨oc, od, .func (fnOf name qual params body scope dV kV doc pm an cdv ct), osl⟩) (hcd : codeIn K cdv qual = true) (hroom : A.depth < recursionLimit)
    (hbind : BindsTo s (fnOf name qual params body scope dV kV doc pm an cdv ct) args binds) (hloc : ∀ y ∈ binds, scope.names.lookup y.1 = some .local)
    (h : ∀ g L' h₁, Keep s.heap g → K.In g → Top p loose mean mg mb g → Fr g L' h₁ (fun y => binds.reverse.lookup y) → News g L' h₁ [] →
      Body prog w A R body (envOf qual scope L' f cdv) { s with heap := h₁, toks := s.toks + binds.length })
    (hco : scope.isCoroutine = false) (hgen : scope.isGenerator = false) (hk : scope.kind = .function)
    (hcell : ∀ x ∈ scope.names, x.2 ≠ .cell) : codeAny (model prog w) A (.call (.ref f) args) R s :=
  codeAny_call_def (fd := fnOf name qual params body scope dV kV doc pm an cdv ct) (body := body) (binds := binds) hroom (X _ _ ho) rfl T.nolimit (codeRec_of X hcd) rfl hbind hcell hloc
    (fun h₁ hns hk₁ => h s.heap s.heap.objs.size h₁ (fun _ _ e => e) X T ⟨hns, hk₁, Nat.le_refl _⟩ News.nil) hco hgen hk
/-- a def with a star parameter is entered: the ledger is the tuple alone -/
theorem enter0_rest {vs : List Value} {g₁ : Addr → Option (List (Str × Value))} {binds : Addr → List (Str × Value)} (X : K.In s.heap) (T : Top p loose mean mg mb s.heap)
    (ho : K.lookup f = some ⟨oc, od, .func (fnOf name qual params body scope dV kV doc pm an cdv ct), osl⟩) (hcd : codeIn K cdv qual = true) (hroom : A.depth < recursionLimit)
    (hv : args.pos.drop (params.posonlyargs.length + params.args.length) = vs)
    (hp : peek1 K ⟨prog, w.params⟩ (bindArgs (fnOf name qual params body scope dV kV doc pm an cdv ct) args) = some (({ cls := .type "tuple", data := .seq vs.toArray } : Obj), g₁))
    (hg : ∀ D, g₁ D = some (binds D)) (hloc : ∀ D, ∀ y ∈ binds D, scope.names.lookup y.1 = some .local)
    (h : ∀ D g L' h₁, Keep s.heap g → K.In g → Top p loose mean mg mb g → Fr g L' h₁ (fun y => (binds D).reverse.lookup y) → News g L' h₁ [(D, ({ cls := .type "tuple", data := .seq vs.toArray } : Obj))] →
      Body prog w A R body (envOf qual scope L' f cdv) { s with heap := h₁, toks := s.toks + (binds D).length })
    (hco : scope.isCoroutine = false) (hgen : scope.isGenerator = false) (hk : scope.kind = .function)
    (hcell : ∀ x ∈ scope.names, x.2 ≠ .cell) : codeAny (model prog w) A (.call (.ref f) args) R s := by
  have _ := hv
  refine codeAny_call_function (fd := fnOf name qual params body scope dV kV doc pm an cdv ct) (body := body) hroom (X _ _ ho) rfl hco hgen rfl (codeRec_of X hcd) ?_
  refine peek1_at (o := ({ cls := .type "tuple", data := .seq vs.toArray } : Obj)) X (r := binds) ?_ _ g₁ hp hg
  have up : Keep s.heap (s.heap.push { cls := .type "tuple", data := .seq vs.toArray }) := fun b o e => Heap.get?_push_of_some _ e
  refine wpAny_newFunctionEnv hcell (hloc s.heap.objs.size) (fun h₁ hns hsb => ⟨(T.nolimit.keeps up).fresh _ hsb, codeAny_func ?_⟩) hk
  have hk₁ : ∀ b o, (s.heap.push { cls := .type "tuple", data := .seq vs.toArray }).get? b = some o → h₁.get? b = some o := fun b o e => hsb.extBut b o (Nat.ne_of_lt (Heap.lt_size e)) (Heap.get?_push_of_some _ e)
  have hnew : (s.heap.push { cls := .type "tuple", data := .seq vs.toArray }).get? s.heap.objs.size = some { cls := .type "tuple", data := .seq vs.toArray } := Heap.get?_push_size _ rfl
  refine h s.heap.objs.size s.heap (s.heap.push { cls := .type "tuple", data := .seq vs.toArray }).objs.size h₁ (fun _ _ e => e) X T ⟨hns, fun b o e => hk₁ b o (up b o e), ?_⟩ (fun q hq => ?_)
  · show s.heap.objs.size ≤ (s.heap.push _).objs.size
    rw [Heap.size_push]; exact Nat.le_succ _
  · rw [List.mem_singleton.mp hq]
    refine ⟨hk₁ _ _ hnew, Nat.ne_of_lt (Heap.lt_size hnew), ?_⟩
    cases e : s.heap.get? s.heap.objs.size with
    | none => rfl
    | some o => exact absurd (Heap.lt_size e) (Nat.lt_irrefl _)
/-- a def whose locals are cells in part is entered: the ledger is its cells -/
theorem enter0_cells {binds : List (Str × Value)} (X : K.In s.heap) (T : Top p loose mean mg mb s.heap)
    (ho : K.lookup f = some ⟨oc, od, .func (fnOf name qual params body scope dV kV doc pm an cdv ct), osl⟩) (hcd : codeIn K cdv qual = true) (hroom : A.depth < recursionLimit)
    (hbind : BindsTo s (fnOf name qual params body scope dV kV doc pm an cdv ct) args binds)
    (hkind : (binds.all fun y => scope.names.lookup y.1 == some .local || scope.names.lookup y.1 == some .cell) = true) (hnd : ((cellsFrom 0 scope.names []).map (·.1)).Nodup)
    (h : ∀ g L' h₁ tk cells, Keep s.heap g → K.In g → Top p loose mean mg mb g → Fr g L' h₁ (bindL (envOfC qual scope L' f cdv).kindOf binds fun _ => none) → News g L' h₁ cells →
      CellsAre (bindC (envOfC qual scope L' f cdv).kindOf binds fun _ => none) (cellsFrom (L' + 1) scope.names []) cells →
      Body prog w A R body (envOfC qual scope L' f cdv) { s with heap := h₁, toks := tk })
    (hco : scope.isCoroutine = false) (hgen : scope.isGenerator = false) (hk : scope.kind = .function) : codeAny (model prog w) A (.call (.ref f) args) R s := by
  refine codeAny_call_function (fd := fnOf name qual params body scope dV kV doc pm an cdv ct) (body := body) hroom (X _ _ ho) rfl hco hgen rfl (codeRec_of X hcd) (hbind _ _ _ _ ?_)
  refine wpAny_newFunctionEnv_cells hk (kindsX hkind _) fun env' he s' x => ?_
  subst he
  refine ⟨T.nolimit.keeps x.toInCall.keep, codeAny_func ?_⟩
  obtain ⟨h₁, tk, rfl, _⟩ := x.done
  obtain ⟨cells, NC, Y⟩ := Cl.news (h₀ := s.heap) (Nat.le_refl _) fun n c hm => ⟨x.cell n c (lookup_of_mem_nodup (cellsFrom_names scope.names 0 (s.heap.objs.size + 1) [] [] rfl ▸ hnd) hm), x.above n c hm⟩
  exact h s.heap s.heap.objs.size h₁ tk cells (fun _ _ e => e) X T ⟨x.toInCall.ns, x.toInCall.keep, Nat.le_refl _⟩ NC Y
end
end
section
theorem retS {s : Shared} {Q : Value → Shared → Prop} {x y : Str} {t : Tok} {h' : Heap} {tk' : Nat}
    (hret : ∀ (t9 : Tok) (h' : Heap) (tk' : Nat), Keep s.heap h' → Q (.str x t9) { s with heap := h', toks := tk' }) (e : y = x)
    (k : Keep s.heap h') : Q (.str y t) { s with heap := h', toks := tk' } := by
  subst e; exact hret t h' tk' k
theorem c_fspath {w : World} {mean : ExcName → Option Value} {mg mb : Str → Option Value} {dp un : Nat} {gd : Option (List Code)} {fr : Option (List Env)} {s : Shared} {Q E : Value → Shared → Prop} {p : Str} {t : Tok}
    (X : (hd.heap_1 w.params).In s.heap) (T : Top hd.view_39 (looseW hd.view_39 []) mean mg mb s.heap)
    (hdp : dp + 1 < recursionLimit) (hun : un + 8 < cLine) 
    (hret : ∀ (t9 : Tok) (h' : Heap) (tk' : Nat), Keep s.heap h' → Q (.str (p) t9) { s with heap := h', toks := tk' }) :
    wpAny (model Challenge.rw_pd0046_01.row.prog w) ({ handled := none, depth := dp, frames := fr, guards := gd, units := un } : Around) (call (.ref 108) [.str p t]) Q E s := by
  w_top off
  k_with_none
  (k_with "call builtin:issubclass" => (k_here; (with_reducible show wpAny _ _ (call (Value.builtin _) [Value.type _, Value.ref _]) _ _ _); k_dflt (refine call_isc (News.get (by k_asm) (by k_mem)) ?_)))
  revert X T hret
  k_fill
  intro X T hret
  ((refine wpAny_call ?_; k_dflt (refine' enter0 ?k1 ?k2 ?k6 ?k7 ?k8 ?k9 ?kB ?_ ?c2 ?c3 ?c4 ?c5; (case k1 => k_asm); (case k2 => k_asm); (case k6 => k_is); (case k7 => k_is); (case k8 => ktr_room); (case k9 => exact BindsTo.of_eq rfl); (case c5 => decide); (case kB => exact locs rfl); (case c2 => exact rfl); (case c3 => exact rfl); (case c4 => exact rfl); k_whole)))
  intro g' L' h' kG' X' T' F' N'
  (((try unfold Body); (try dsimp only); (try k_fold)))
  k_steps
  exact hret _ _ _ (fun b o e => Fr.keep (h₀ := g') (by assumption) b o (kG' b o e))
theorem c_fspath_N {w : World} {mean : ExcName → Option Value} {mg mb : Str → Option Value} {dp un : Nat} {gd : Option (List Code)} {fr : Option (List Env)} {s : Shared} {Q E : Value → Shared → Prop} {h₀ : Heap} {L : Addr} {m : Str → Option Value} {news : List (Addr × Obj)} {p : Str} {t : Tok}
    (F : Fr h₀ L s.heap m) (X : (hd.heap_1 w.params).In h₀) (T : Top hd.view_39 (looseW hd.view_39 []) mean mg mb h₀) (N : News h₀ L s.heap news)
    (hdp : dp + 1 < recursionLimit) (hun : un + 8 < cLine) 
    (hret : ∀ (t9 : Tok) (h' : Heap) (tk' : Nat), Keep s.heap h' → Fr h₀ L h' m → News h₀ L h' news → Q (.str (p) t9) { s with heap := h', toks := tk' }) :
    wpAny (model Challenge.rw_pd0046_01.row.prog w) ({ handled := none, depth := dp, frames := fr, guards := gd, units := un } : Around) (call (.ref 108) [.str p t]) Q E s :=
  c_fspath (X.keeps F.keep) (T.keeps F.keep) hdp hun  fun x0 h' tk' k  => hret x0 h' tk' k (F.keeps k) (N.grown k) 
theorem c_get_sep {w : World} {mean : ExcName → Option Value} {mg mb : Str → Option Value} {dp un : Nat} {gd : Option (List Code)} {fr : Option (List Env)} {s : Shared} {Q E : Value → Shared → Prop} {p : Str} {t : Tok}
    (X : (hd.heap_1 w.params).In s.heap) (T : Top hd.view_39 (looseW hd.view_39 []) mean mg mb s.heap)
    (hdp : dp + 1 < recursionLimit) (hun : un + 8 < cLine) 
    (hret : ∀ (t9 : Tok) (h' : Heap) (tk' : Nat), Keep s.heap h' → Q (.str (Str.ofString "/") t9) { s with heap := h', toks := tk' }) :
    wpAny (model Challenge.rw_pd0046_01.row.prog w) ({ handled := none, depth := dp, frames := fr, guards := gd, units := un } : Around) (call (.ref 122) [.str p t]) Q E s := by
  revert X T hret
  k_fill
  intro X T hret
  ((refine wpAny_call ?_; k_dflt (refine' enter0 ?k1 ?k2 ?k6 ?k7 ?k8 ?k9 ?kB ?_ ?c2 ?c3 ?c4 ?c5; (case k1 => k_asm); (case k2 => k_asm); (case k6 => k_is); (case k7 => k_is); (case k8 => ktr_room); (case k9 => exact BindsTo.of_eq rfl); (case c5 => decide); (case kB => exact locs rfl); (case c2 => exact rfl); (case c3 => exact rfl); (case c4 => exact rfl); k_whole)))
  intro g' L' h' kG' X' T' F' N'
  (((try unfold Body); (try dsimp only); (try k_fold)))
  k_steps
  exact hret _ _ _ (fun b o e => Fr.keep (h₀ := g') (by assumption) b o (kG' b o e))
theorem c_get_sep_N {w : World} {mean : ExcName → Option Value} {mg mb : Str → Option Value} {dp un : Nat} {gd : Option (List Code)} {fr : Option (List Env)} {s : Shared} {Q E : Value → Shared → Prop} {h₀ : Heap} {L : Addr} {m : Str → Option Value} {news : List (Addr × Obj)} {p : Str} {t : Tok}
    (F : Fr h₀ L s.heap m) (X : (hd.heap_1 w.params).In h₀) (T : Top hd.view_39 (looseW hd.view_39 []) mean mg mb h₀) (N : News h₀ L s.heap news)
    (hdp : dp + 1 < recursionLimit) (hun : un + 8 < cLine) 
    (hret : ∀ (t9 : Tok) (h' : Heap) (tk' : Nat), Keep s.heap h' → Fr h₀ L h' m → News h₀ L h' news → Q (.str (Str.ofString "/") t9) { s with heap := h', toks := tk' }) :
    wpAny (model Challenge.rw_pd0046_01.row.prog w) ({ handled := none, depth := dp, frames := fr, guards := gd, units := un } : Around) (call (.ref 122) [.str p t]) Q E s :=
  c_get_sep (X.keeps F.keep) (T.keeps F.keep) hdp hun  fun x0 h' tk' k  => hret x0 h' tk' k (F.keeps k) (N.grown k) 
noncomputable def dirnameF (p : Str) : Str :=
  let head := Txt.slice p none (some (Txt.rfind p (Str.ofString "/") + 1))
  if (head.length : Int) = 0 then head else if (head != Txt.mul (Str.ofString "/") head.length) = true then Txt.rstripChars head (Str.ofString "/") else head
theorem dirnameF_1 {p : Str} (h1 : ((Txt.slice p none (some (Txt.rfind p (Str.ofString "/") + 1))).length : Int) = 0) : Txt.slice p none (some (Txt.rfind p (Str.ofString "/") + 1)) = dirnameF p := by
  unfold dirnameF; rw [if_pos h1]
theorem dirnameF_2 {p : Str} (h1 : ((Txt.slice p none (some (Txt.rfind p (Str.ofString "/") + 1))).length : Int) ≠ 0)
    (h2 : (Txt.slice p none (some (Txt.rfind p (Str.ofString "/") + 1)) != Txt.mul (Str.ofString "/") (Txt.slice p none (some (Txt.rfind p (Str.ofString "/") + 1))).length) = true) :
    Txt.rstripChars (Txt.slice p none (some (Txt.rfind p (Str.ofString "/") + 1))) (Str.ofString "/") = dirnameF p := by
  unfold dirnameF; rw [if_neg h1, if_pos h2]
theorem dirnameF_3 {p : Str} (h1 : ((Txt.slice p none (some (Txt.rfind p (Str.ofString "/") + 1))).length : Int) ≠ 0)
    (h2 : (Txt.slice p none (some (Txt.rfind p (Str.ofString "/") + 1)) != Txt.mul (Str.ofString "/") (Txt.slice p none (some (Txt.rfind p (Str.ofString "/") + 1))).length) = false) :
    Txt.slice p none (some (Txt.rfind p (Str.ofString "/") + 1)) = dirnameF p := by
  unfold dirnameF; rw [if_neg h1, if_neg (by rw [h2]; exact Bool.false_ne_true)]
theorem c_dirname {w : World} {mean : ExcName → Option Value} {mg mb : Str → Option Value} {dp un : Nat} {gd : Option (List Code)} {fr : Option (List Env)} {s : Shared} {Q E : Value → Shared → Prop} {p : Str} {t : Tok}
    (X : (hd.heap_1 w.params).In s.heap) (T : Top hd.view_39 (looseW hd.view_39 []) mean mg mb s.heap)
    (hdp : dp + 3 < recursionLimit) (hun : un + 24 < cLine) (hp : p.length ≤ 1000)
    (hret : ∀ (t9 : Tok) (h' : Heap) (tk' : Nat), Keep s.heap h' → Q (.str (dirnameF p) t9) { s with heap := h', toks := tk' }) :
    wpAny (model Challenge.rw_pd0046_01.row.prog w) ({ handled := none, depth := dp, frames := fr, guards := gd, units := un } : Around) (call (.ref 136) [.str p t]) Q E s := by
  (k_with "call ref" => (k_here; (with_reducible show wpAny _ _ (call (Value.ref 108) _) _ _ _); k_dflt (refine' c_fspath_N ?k1_k ?k2_k ?k3_k ?k4_k ?kd_k ?ku_k  ?_; (case k1_k => k_asm); (case k2_k => k_asm); (case k3_k => k_asm); (case k4_k => k_asm); (case kd_k => ktr_room); (case ku_k => ktr_units); k_whole); intro v09_k h9_k tk9_k hk9_k F9_k N9_k ; (try dsimp only); (try k_fold); (try k_sweep)))
  (k_with "call ref" => (k_here; (with_reducible show wpAny _ _ (call (Value.ref 122) _) _ _ _); k_dflt (refine' c_get_sep_N ?k1_k ?k2_k ?k3_k ?k4_k ?kd_k ?ku_k  ?_; (case k1_k => k_asm); (case k2_k => k_asm); (case k3_k => k_asm); (case k4_k => k_asm); (case kd_k => ktr_room); (case ku_k => ktr_units); k_whole); intro v09_k h9_k tk9_k hk9_k F9_k N9_k ; (try dsimp only); (try k_fold); (try k_sweep)))
  revert X T hret
  k_fill
  intro X T hret
  ((refine wpAny_call ?_; k_dflt (refine' enter0 ?k1 ?k2 ?k6 ?k7 ?k8 ?k9 ?kB ?_ ?c2 ?c3 ?c4 ?c5; (case k1 => k_asm); (case k2 => k_asm); (case k6 => k_is); (case k7 => k_is); (case k8 => ktr_room); (case k9 => exact BindsTo.of_eq rfl); (case c5 => decide); (case kB => exact locs rfl); (case c2 => exact rfl); (case c3 => exact rfl); (case c4 => exact rfl); k_whole)))
  intro g' L' h' kG' X' T' F' N'
  (((try unfold Body); (try dsimp only); (try k_fold)))
  k_steps
  all_goals (first | rw [dirnameF_1 (by assumption)] | rw [dirnameF_2 (by assumption) (by assumption)] | rw [dirnameF_3 (by assumption) (by assumption)])
  all_goals exact hret _ _ _ (fun b o e => Fr.keep (h₀ := g') (by assumption) b o (kG' b o e))
theorem c_dirname_N {w : World} {mean : ExcName → Option Value} {mg mb : Str → Option Value} {dp un : Nat} {gd : Option (List Code)} {fr : Option (List Env)} {s : Shared} {Q E : Value → Shared → Prop} {h₀ : Heap} {L : Addr} {m : Str → Option Value} {news : List (Addr × Obj)} {p : Str} {t : Tok}
    (F : Fr h₀ L s.heap m) (X : (hd.heap_1 w.params).In h₀) (T : Top hd.view_39 (looseW hd.view_39 []) mean mg mb h₀) (N : News h₀ L s.heap news)
    (hdp : dp + 3 < recursionLimit) (hun : un + 24 < cLine) (hp : p.length ≤ 1000)
    (hret : ∀ (t9 : Tok) (h' : Heap) (tk' : Nat), Keep s.heap h' → Fr h₀ L h' m → News h₀ L h' news → Q (.str (dirnameF p) t9) { s with heap := h', toks := tk' }) :
    wpAny (model Challenge.rw_pd0046_01.row.prog w) ({ handled := none, depth := dp, frames := fr, guards := gd, units := un } : Around) (call (.ref 136) [.str p t]) Q E s :=
  c_dirname (X.keeps F.keep) (T.keeps F.keep) hdp hun hp fun x0 h' tk' k  => hret x0 h' tk' k (F.keeps k) (N.grown k) 
noncomputable def joinF (p q : Str) : Str :=
  if Txt.startswith q (Str.ofString "/") = true then q else if (p.length : Int) = 0 then q else if Txt.endswith p (Str.ofString "/") = true then p ++ q else p ++ (Str.ofString "/" ++ q)
theorem joinF_1 {p q : Str} (h : Txt.startswith q (Str.ofString "/") = true) : q = joinF p q := by
  unfold joinF; rw [if_pos h]
theorem joinF_2 {p q : Str} (h : Txt.startswith q (Str.ofString "/") = false) (h2 : (p.length : Int) = 0) : q = joinF p q := by
  unfold joinF; rw [if_neg (by rw [h]; exact Bool.false_ne_true), if_pos h2]
theorem joinF_3 {p q : Str} (h : Txt.startswith q (Str.ofString "/") = false) (h2 : (p.length : Int) ≠ 0) (h3 : Txt.endswith p (Str.ofString "/") = true) : p ++ q = joinF p q := by
  unfold joinF; rw [if_neg (by rw [h]; exact Bool.false_ne_true), if_neg h2, if_pos h3]
theorem joinF_4 {p q : Str} (h : Txt.startswith q (Str.ofString "/") = false) (h2 : (p.length : Int) ≠ 0) (h3 : Txt.endswith p (Str.ofString "/") = false) : p ++ (Str.ofString "/" ++ q) = joinF p q := by
  unfold joinF; rw [if_neg (by rw [h]; exact Bool.false_ne_true), if_neg h2, if_neg (by rw [h3]; exact Bool.false_ne_true)]
theorem c_join {w : World} {mean : ExcName → Option Value} {mg mb : Str → Option Value} {dp un : Nat} {gd : Option (List Code)} {fr : Option (List Env)} {s : Shared} {Q E : Value → Shared → Prop} {p q : Str} {t u : Tok}
    (X : (hd.heap_1 w.params).In s.heap) (T : Top hd.view_39 (looseW hd.view_39 []) mean mg mb s.heap)
    (hdp : dp + 3 < recursionLimit) (hun : un + 24 < cLine) (hp : p.length ≤ 1000) (hq : q.length ≤ 1000)
    (hret : ∀ (t9 : Tok) (h' : Heap) (tk' : Nat), Keep s.heap h' → Q (.str (joinF p q) t9) { s with heap := h', toks := tk' }) :
    wpAny (model Challenge.rw_pd0046_01.row.prog w) ({ handled := none, depth := dp, frames := fr, guards := gd, units := un } : Around) (call (.ref 129) [.str p t, .str q u]) Q E s := by
  revert X T hret
  k_fill
  intro X T hret
  ((refine wpAny_call ?_; k_dflt (refine' enter0_rest ?k1 ?k2 ?k6 ?k7 ?k8 ?kV ?kP ?kG ?kB ?_ ?c2 ?c3 ?c4 ?c5; (case k1 => k_asm); (case k2 => k_asm); (case k6 => k_is); (case k7 => k_is); (case k8 => ktr_room); (case kV => kl_lit); (case kP => exact rfl); (case kG => exact fun _ => rfl); (case kB => exact fun _ => locs rfl); (case c5 => decide); (case c2 => exact rfl); (case c3 => exact rfl); (case c4 => exact rfl); k_whole)))
  intro D' g' L' h' kG' X' T' F' N'
  (((try unfold Body); (try dsimp only); (try k_fold)))
  k_steps
  all_goals (refine retS hret ?_ (fun b o e => Fr.keep (h₀ := g') (by assumption) b o (kG' b o e)))
  all_goals (first | exact joinF_1 (by assumption) | exact joinF_2 (by assumption) (by assumption) | exact joinF_3 (by assumption) (by assumption) (by assumption) | exact joinF_4 (by assumption) (by assumption) (by assumption))
theorem c_join_N {w : World} {mean : ExcName → Option Value} {mg mb : Str → Option Value} {dp un : Nat} {gd : Option (List Code)} {fr : Option (List Env)} {s : Shared} {Q E : Value → Shared → Prop} {h₀ : Heap} {L : Addr} {m : Str → Option Value} {news : List (Addr × Obj)} {p q : Str} {t u : Tok}
    (F : Fr h₀ L s.heap m) (X : (hd.heap_1 w.params).In h₀) (T : Top hd.view_39 (looseW hd.view_39 []) mean mg mb h₀) (N : News h₀ L s.heap news)
    (hdp : dp + 3 < recursionLimit) (hun : un + 24 < cLine) (hp : p.length ≤ 1000) (hq : q.length ≤ 1000)
    (hret : ∀ (t9 : Tok) (h' : Heap) (tk' : Nat), Keep s.heap h' → Fr h₀ L h' m → News h₀ L h' news → Q (.str (joinF p q) t9) { s with heap := h', toks := tk' }) :
    wpAny (model Challenge.rw_pd0046_01.row.prog w) ({ handled := none, depth := dp, frames := fr, guards := gd, units := un } : Around) (call (.ref 129) [.str p t, .str q u]) Q E s :=
  c_join (X.keeps F.keep) (T.keeps F.keep) hdp hun hp hq fun x0 h' tk' k  => hret x0 h' tk' k (F.keeps k) (N.grown k) 
noncomputable def nameF (k : Int) : Str :=
  if k.fmod 7 = 0 then Str.ofString "b" else if k.fmod 7 = 1 then Str.ofString "a-" else if k.fmod 7 = 2 then Str.ofString "a" else if k.fmod 7 = 3 then Str.ofString "ab" else if k.fmod 7 = 4 then Str.ofString "A" else if k.fmod 7 = 5 then Str.ofString "a.b" else Str.ofString ".a"
theorem c_law_name {w : World} {mean : ExcName → Option Value} {mg mb : Str → Option Value} {dp un : Nat} {gd : Option (List Code)} {fr : Option (List Env)} {s : Shared} {Q E : Value → Shared → Prop} {k : Int} {t : Tok}
    (X : (hd.heap_1 w.params).In s.heap) (T : Top hd.view_39 (looseW hd.view_39 []) mean mg mb s.heap)
    (hdp : dp + 1 < recursionLimit) (hun : un + 16 < cLine) 
    (hret : ∀ (t9 : Tok) (h' : Heap) (tk' : Nat), Keep s.heap h' → Q (.str (nameF k) t9) { s with heap := h', toks := tk' }) :
    wpAny (model Challenge.rw_pd0046_01.row.prog w) ({ handled := none, depth := dp, frames := fr, guards := gd, units := un } : Around) (call (.ref 143) [.int k t]) Q E s := by
  revert X T hret
  k_fill
  intro X T hret
  ((refine wpAny_call ?_; k_dflt (refine' enter0 ?k1 ?k2 ?k6 ?k7 ?k8 ?k9 ?kB ?_ ?c2 ?c3 ?c4 ?c5; (case k1 => k_asm); (case k2 => k_asm); (case k6 => k_is); (case k7 => k_is); (case k8 => ktr_room); (case k9 => exact BindsTo.of_eq rfl); (case c5 => decide); (case kB => exact locs rfl); (case c2 => exact rfl); (case c3 => exact rfl); (case c4 => exact rfl); k_whole)))
  intro g' L' h' kG' X' T' F' N'
  (((try unfold Body); (try dsimp only); (try k_fold)))
  k_steps
  all_goals (refine retS hret ?_ (fun b o e => Fr.keep (h₀ := g') (by assumption) b o (kG' b o e)))
  all_goals (unfold nameF; simp_all)
theorem c_law_name_N {w : World} {mean : ExcName → Option Value} {mg mb : Str → Option Value} {dp un : Nat} {gd : Option (List Code)} {fr : Option (List Env)} {s : Shared} {Q E : Value → Shared → Prop} {h₀ : Heap} {L : Addr} {m : Str → Option Value} {news : List (Addr × Obj)} {k : Int} {t : Tok}
    (F : Fr h₀ L s.heap m) (X : (hd.heap_1 w.params).In h₀) (T : Top hd.view_39 (looseW hd.view_39 []) mean mg mb h₀) (N : News h₀ L s.heap news)
    (hdp : dp + 1 < recursionLimit) (hun : un + 16 < cLine) 
    (hret : ∀ (t9 : Tok) (h' : Heap) (tk' : Nat), Keep s.heap h' → Fr h₀ L h' m → News h₀ L h' news → Q (.str (nameF k) t9) { s with heap := h', toks := tk' }) :
    wpAny (model Challenge.rw_pd0046_01.row.prog w) ({ handled := none, depth := dp, frames := fr, guards := gd, units := un } : Around) (call (.ref 143) [.int k t]) Q E s :=
  c_law_name (X.keeps F.keep) (T.keeps F.keep) hdp hun  fun x0 h' tk' k  => hret x0 h' tk' k (F.keeps k) (N.grown k) 
end
section
section
variable {prog : Program} {w : World} {A : Around} {E : Value → Shared → Prop} {s : Shared} {env : Env} {test : PySem.Expr} {body orelse : List Stmt} {Q : Flow → Shared → Prop}
/-- what a turn of a while leaves, under an invariant that counts down -/
noncomputable def WPost (I : Nat → Shared → Prop) (Q : Flow → Shared → Prop) (n : Nat) (f : Flow) (s : Shared) : Prop :=
  match f with
  | .next => ∃ k, k < n ∧ I k s
  | .cont => ∃ k, k < n ∧ I k s
  | .brk => Q .next s
  | .ret v => Q (.ret v) s
theorem wpost_brk {I : Nat → Shared → Prop} {n : Nat} (h : Q .next s) : WPost I Q n .brk s := h
theorem wpost_ret {I : Nat → Shared → Prop} {n : Nat} {v : Value} (h : Q (.ret v) s) : WPost I Q n (.ret v) s := h
theorem while_inv {pos : Pos} (I : Nat → Shared → Prop) (hE : PassesOwn (model prog w) A env E)
    (turn : ∀ n s, I n s → wpAny (model prog w) A (isTrue test env (eval test env))
      (fun b s₂ => WhlIf b (wpAny (model prog w) A (execs body env) (WPost I Q n) E s₂) (wpAny (model prog w) A (execs orelse env) Q E s₂)) E s)
    (n : Nat) (h : I n s) : wpAny (model prog w) A (exec (.While test body orelse pos) env) Q E s := by
  refine whl_start 0 ?_
  have all : ∀ (n : Nat) (s : Shared), I n s → WhlRest prog w A E env test body orelse Q 0 s := by
    intro n
    induction n using Nat.strongRecOn with
    | ind n ih =>
      intro s h
      refine (whl_turn (k := 0) hE (wpAny_mono (turn n s h) (fun b s₂ h₂ => ?_) fun _ _ e => e) : WhlRest prog w A E env test body orelse Q 1 s)
      unfold WhlIf at h₂ ⊢
      split
      · rename_i hb
        rw [if_pos hb] at h₂
        refine wpAny_mono h₂ (fun f s₃ h₃ => ?_) fun _ _ e => e
        cases f with
        | next => obtain ⟨k, hk, hI⟩ := h₃; exact ih k hk s₃ hI
        | cont => obtain ⟨k, hk, hI⟩ := h₃; exact ih k hk s₃ hI
        | brk => exact h₃
        | ret v => exact h₃
      · rename_i hb
        rw [if_neg hb] at h₂
        exact h₂
  exact all n s h
end
theorem fr_set {h₀ h : Heap} {L : Addr} {m : Str → Option Value} {x : Str} {v : Value} (F : Fr h₀ L h m) (e : m x = some v) : Fr h₀ L h (fun y => if y = x then some v else m y) := by
  have q : (fun y => if y = x then some v else m y) = m := by
    funext y
    by_cases hy : y = x
    · rw [if_pos hy, hy, e]
    · rw [if_neg hy]
  rw [q]; exact F
section
variable {prog : Program} {w : World} {A : Around} {E : Value → Shared → Prop} {s : Shared}
theorem item_strs {value slice : PySem.Expr} {l : Addr} {vs : List Value} {xs : List Str} {i : Nat} {e : Str} {u : Tok} {Q : Value → Shared → Prop}
    (hl : s.heap.IsList l vs.toArray) (hs : StrsAre vs xs) (hx : xs[i]? = some e) (hi : i < 2 ^ 62) (h : ∀ t, Q (.str e t) s)
    (hsl : subscripted slice false (.ref l) (.int (i : Int) u) = operate [.ref l, .int (i : Int) u] (getItem (.ref l) (.int (i : Int) u)) := by with_unfolding_all rfl) :
    wpAny (model prog w) A (subscriptTail value slice (.ref l) (.int (i : Int) u)) Q E s := by
  obtain ⟨t, ht⟩ := hs.get i e hx
  exact tail_any hl.typeIs slot_list_getitem.lookup (wpAny_getItem_list hl (Int.natCast_nonneg i) (by omega) (by simpa using ht) (h t)) hsl
theorem item_strs_out {value slice : PySem.Expr} {l : Addr} {vs : List Value} {xs : List Str} {i : Nat} {u : Tok} {Q : Value → Shared → Prop} (hA : A.handled = none)
    (hl : s.heap.IsList l vs.toArray) (hs : StrsAre vs xs) (hx : xs[i]? = none) (hi : i < 2 ^ 62)
    (hE : ∀ h' tk e, Heap.NewExc s.heap h' e "IndexError" → E (.ref e) { s with heap := h', toks := tk })
    (hsl : subscripted slice false (.ref l) (.int (i : Int) u) = operate [.ref l, .int (i : Int) u] (getItem (.ref l) (.int (i : Int) u)) := by with_unfolding_all rfl) :
    wpAny (model prog w) A (subscriptTail value slice (.ref l) (.int (i : Int) u)) Q E s := by
  have hle : xs.length ≤ i := List.getElem?_eq_none_iff.mp hx
  have hlen := hs.length
  refine item_outK hA hl (.inr ?_) (by omega) (by omega) hE hsl
  simp only [List.size_toArray]
  omega
end
end
section
open PyProof.Rows.TI (Frs SameUp gone gone_get gone_none gone_some frames_at frames_are tail_sub base_apart none_of)
structure NewX (h h' : Heap) (e : Addr) (X : String) (ctx : Value) : Prop where
  keeps : Keep h h'
  new : h.get? e = none
  there : ∃ ob t, h'.get? e = some ob ∧ ob.cls = .type X ∧ ob.data = .fields #[t, .none, ctx, .none, .bool false, .none]
theorem NewX.of {h h' : Heap} {e : Addr} {X : String} (x : Heap.NewExc h h' e X) : NewX h h' e X .none := ⟨x.keeps, x.new, x.there⟩
noncomputable def IsExc (X : String) (ctx : Value) (T : Addr) (oe : Obj) : Prop := oe.cls = .type X ∧ ∃ t, oe.data = .fields #[t, .ref T, ctx, .none, .bool false, .none]
noncomputable def IsTb (fl : Value) (oT : Obj) : Prop := ∃ ts, oT.data = .fields ts ∧ ts[3]? = some fl
section
variable {prog : Program} {w : World} {A : Around} {E : Value → Shared → Prop} {s' : Shared} {hb h : Heap} {L a e T : Addr} {m : Str → Option Value} {name : Str} {scope : Scope} {cd : Value} {X : String} {ctx : Value} {l : List Env} {frs new : List (Addr × Obj)} {oe oT : Obj}
theorem noteX {Q : Unit → Shared → Prop} (hfr : A.frames = some (envOf name scope L a cd :: l)) (Fs : Frs l frs) (hx : NewX h s'.heap e X ctx) (F : Fr hb L h m) (N : News hb L h (new ++ frs)) (hap : ∀ q ∈ frs, ∀ p ∈ new, p.1 ≠ q.1)
    (k : ∀ h' T oe oT frs', SameUp frs frs' → Frs l frs' → Fr hb L h' m → News hb L h' ((e, oe) :: (T, oT) :: (new ++ frs')) → IsExc X ctx T oe → IsTb (rawInt L) oT → e ≠ T → (∀ p ∈ new ++ frs', p.1 ≠ e ∧ p.1 ≠ T) → Q () { s' with heap := h' })
    (hk : scope.kind = .function := by rfl) : wpAny (model prog w) A (noteFrame (.ref e) (envOf name scope L a cd)) Q E s' := by
  replace hap : ∀ p ∈ new, p.1 ∉ L :: frs.map (·.1) := fun p hp hm => by
    rcases List.mem_cons.mp hm with q | hm
    · exact (N p (List.mem_append_left _ hp)).2.1 q
    · obtain ⟨q, hq, e1⟩ := List.mem_map.mp hm
      exact hap q hq p hp e1.symm
  obtain ⟨ob, tp, he, hcls, hd⟩ := hx.there
  obtain ⟨hff, hNs, frs₁, SU, ht⟩ := frames_at (name := name) (a := a) (cd := cd) (h' := s'.heap) (base := gone h (L :: frs.map (·.1))) hk Fs F N tail_sub (fun b o hb' => ⟨o.slots, hx.keeps b o hb'⟩) fun b hm => gone_none hm
  have hfm : (envOf name scope L a cd :: l).filterMap (·.frame) = L :: frs.map (·.1) := frames_are Fs
  have heL : L ≠ e := fun q => by
    obtain ⟨oL, _, _, hL, _⟩ := F.ns
    have := hx.new
    rw [← q, hL] at this; cases this
  have heF : e ∉ L :: frs.map (·.1) := fun hm => by
    rcases List.mem_cons.mp hm with q | hm
    · exact heL q.symm
    · obtain ⟨p, hp, q⟩ := List.mem_map.mp hm
      have := (N p (tail_sub p hp)).1
      have q' : p.1 = e := q
      rw [q', hx.new] at this; cases this
  unfold noteFrame
  simp only [show (envOf name scope L a cd).frame = some L from rfl]
  refine wpAny_bind (wpAny_field he hd (x := .none) rfl ?_)
  rw [if_neg (by decide)]
  refine wpAny_bind (wpAny_frameOf_fun hfr hff rfl fun h₁ hs₁ => ?_)
  rw [hfm] at hs₁
  refine wpAny_bind (wpAny_entryPlaceOf fun pl hpl => ?_)
  unfold EntryCells.newEntry newFields
  refine wpAny_bind (wpAny_newObj_type ?_ (hpl.sizeOk5 _ _ _ _ _))
  have he₁ : h₁.get? e = some ob := (hs₁.2.1 e heF).trans he
  have he₂ := Heap.get?_push_of_some (h := h₁) { cls := .type "traceback", dict := none, data := .fields ([Value.none, .ref L, .none, rawInt L, .none] ++ (if pl.isEmpty then List.replicate 6 Value.none else pl)).toArray } he₁
  have hsz : 1 < (#[tp, Value.none, ctx, Value.none, Value.bool false, Value.none] : Array Value).size := by simp
  have hTe : h₁.objs.size ≠ e := Nat.ne_of_gt (Heap.lt_size he₁)
  have hd₃ := Obj.data_mapFields hd (·.setIfInBounds 1 (Value.ref h₁.objs.size))
  have he₃ := Heap.get?_update_self (Obj.mapFields (·.setIfInBounds 1 (Value.ref h₁.objs.size))) he₂ (Obj.isFreed_of_fields hd₃)
  have hT₃ := (Heap.get?_update_other (h₁.push { cls := .type "traceback", dict := none, data := .fields ([Value.none, .ref L, .none, rawInt L, .none] ++ (if pl.isEmpty then List.replicate 6 Value.none else pl)).toArray })
    (Obj.mapFields (·.setIfInBounds 1 (Value.ref h₁.objs.size))) (Ne.symm hTe)).trans (Heap.get?_push_size h₁ rfl)
  have keep : ∀ b o, b ≠ e → h₁.get? b = some o →
      ((h₁.push { cls := .type "traceback", dict := none, data := .fields ([Value.none, .ref L, .none, rawInt L, .none] ++ (if pl.isEmpty then List.replicate 6 Value.none else pl)).toArray }).update e (Obj.mapFields (·.setIfInBounds 1 (Value.ref h₁.objs.size)))).get? b = some o :=
    fun b o hbe hb => by
      rw [Heap.get?_update_other _ _ (Ne.symm hbe)]
      exact Heap.get?_push_of_some _ hb
  -- what is neither a frame nor the exception
  have plain : ∀ b o, b ∉ L :: frs.map (·.1) → h.get? b = some o → h₁.get? b = some o := fun b o hn ho => (hs₁.2.1 b hn).trans (hx.keeps b o ho)
  have nee : ∀ b o, h.get? b = some o → b ≠ e := fun b o ho q => by rw [q, hx.new] at ho; cases ho
  have neT : ∀ b o, h.get? b = some o → b ≠ h₁.objs.size := fun b o ho q => by
    obtain ⟨sl, e1⟩ := hs₁.2.2 b o (hx.keeps b o ho)
    exact absurd (Heap.lt_size e1) (by rw [q]; exact Nat.lt_irrefl _)
  obtain ⟨frs₂, SU₂, ht₂⟩ := PyProof.Rows.TI.sameUp_of (frs := frs) (h' := h₁) fun p hp => hs₁.2.2 p.1 p.2 (hx.keeps _ _ (N p (tail_sub p hp)).1)
  obtain ⟨oL, esL, epL, hL, hLd, hLk, hLf⟩ := F.ns
  obtain ⟨slL, hL₁⟩ := hs₁.2.2 L oL (hx.keeps _ _ hL)
  have neg : ∀ b, hb.get? b = none → hb.get? b = none := fun _ q => q
  have freshE : hb.get? e = none := none_of F.keep hx.new
  have freshT : hb.get? h₁.objs.size = none := by
    cases q : hb.get? h₁.objs.size with
    | none => rfl
    | some o => exact absurd rfl (neT _ o (F.keep _ o q))
  have LT : h₁.objs.size ≠ L := fun q => neT L oL hL q.symm
  refine wpAny_setField he₂ hd hsz (k _ h₁.objs.size (Obj.mapFields (·.setIfInBounds 1 (Value.ref h₁.objs.size)) ob) { cls := .type "traceback", dict := none, data := .fields ([Value.none, .ref L, .none, rawInt L, .none] ++ (if pl.isEmpty then List.replicate 6 Value.none else pl)).toArray } frs₂ SU₂ (Fs.up SU₂) ⟨⟨_, esL, epL, keep L _ heL hL₁, hLd, hLk, hLf⟩, fun b o q => keep b o (nee b o (F.keep b o q)) (plain b o (base_apart F N tail_sub q) (F.keep b o q)), F.above⟩ (fun p hp => ?_) ⟨(Obj.cls_mapFields _ _).trans hcls, tp, ?_⟩ ⟨_, rfl, ?_⟩ (Ne.symm hTe) (fun p hp => ?_))
  · rcases List.mem_cons.mp hp with rfl | hp
    · exact ⟨he₃, Ne.symm heL, freshE⟩
    rcases List.mem_cons.mp hp with rfl | hp
    · exact ⟨hT₃, LT, freshT⟩
    rcases List.mem_append.mp hp with hp | hp
    · obtain ⟨p1, p2, p3⟩ := N p (List.mem_append_left _ hp)
      exact ⟨keep _ _ (nee _ _ p1) (plain _ _ (hap p hp) p1), p2, p3⟩
    · obtain ⟨q, hq, e1⟩ := SU₂.fwd p hp
      obtain ⟨p1, p2, p3⟩ := N q (tail_sub q hq)
      exact ⟨keep _ _ (by rw [e1]; exact nee _ _ p1) (ht₂ p hp), by rw [e1]; exact p2, by rw [e1]; exact p3⟩
  · rw [hd₃]; rfl
  · first | (simp; done) | (rcases hpl with rfl | ⟨_, _, _, _, _, _, _, rfl⟩ <;> simp)
  · rcases List.mem_append.mp hp with hp | hp
    · have p1 := (N p (List.mem_append_left _ hp)).1
      exact ⟨nee _ _ p1, neT _ _ p1⟩
    · obtain ⟨q, hq, e1⟩ := SU₂.fwd p hp
      have p1 := (N q (tail_sub q hq)).1
      exact ⟨by rw [e1]; exact nee _ _ p1, by rw [e1]; exact neT _ _ p1⟩
theorem noteAgain {M : Model} {Q : Unit → Shared → Prop} (he : s'.heap.get? e = some oe) (hE : IsExc X ctx T oe) (hT : s'.heap.get? T = some oT) (hB : IsTb (rawInt L) oT) (k : Q () s') :
    wpAny M A (noteFrame (.ref e) (envOf name scope L a cd)) Q E s' := by
  obtain ⟨_, t, hd⟩ := hE
  obtain ⟨ts, hdT, h3⟩ := hB
  unfold noteFrame
  simp only [show (envOf name scope L a cd).frame = some L from rfl]
  refine wpAny_bind (wpAny_field he hd (x := .ref T) rfl ?_)
  rw [if_pos (show (Value.ref T != Value.none) = true from by simp)]
  refine wpAny_bind (wpAny_field hT hdT h3 ?_)
  rw [if_pos (by simp)]
  exact wpAny_pure k
theorem flightX {M : Model} {fo : Option Addr} {Q : Unit → Shared → Prop} {rest : List (Addr × Obj)} {fl : Value} (F : Fr hb L s'.heap m) (N : News hb L s'.heap ((e, oe) :: (T, oT) :: rest)) (hE : IsExc X ctx T oe) (hB : IsTb fl oT) (heT : e ≠ T) (hr : ∀ p ∈ rest, p.1 ≠ T)
    (k : ∀ h' oT', Fr hb L h' m → News hb L h' ((e, oe) :: (T, oT') :: rest) → IsTb (fo.elim .none fun f => rawInt f) oT' → Q () { s' with heap := h' }) :
    wpAny M A (setFlight (.ref e) fo) Q E s' := by
  obtain ⟨_, t, hd⟩ := hE
  obtain ⟨ts, hdT, h3⟩ := hB
  have he := (N (e, oe) (.head _)).1
  have hT := (N (T, oT) (.tail _ (.head _))).1
  have hsz : 3 < ts.size := (Array.getElem?_eq_some_iff.mp h3).1
  unfold setFlight
  refine wpAny_bind (wpAny_field he hd (x := .ref T) rfl ?_)
  rw [if_pos (show (Value.ref T != Value.none) = true from by simp)]
  refine wpAny_setField hT hdT hsz ?_
  have hd' := Obj.data_mapFields hdT (·.setIfInBounds 3 (fo.elim Value.none fun f => rawInt f))
  obtain ⟨F', N'⟩ := news_upd (pre := [(e, oe)]) (post := rest) (o' := Obj.mapFields (·.setIfInBounds 3 (fo.elim Value.none fun f => rawInt f)) oT) (f := Obj.mapFields (·.setIfInBounds 3 (fo.elim Value.none fun f => rawInt f))) F N
    (fun p hp => by rw [List.mem_singleton.mp hp]; exact heT) hr rfl (Obj.isFreed_of_fields hd')
  exact k _ _ F' N' ⟨_, hd', by simp [Array.getElem?_setIfInBounds, hsz]⟩
variable {x : Str} {np pos : Pos} {b₀ : Stmt} {suite : List Stmt} {hs : List ExceptHandler} {Q : Flow → Shared → Prop} {p : Program} {loose : List Str} {mean : ExcName → Option Value} {mg mb : Str → Option Value}
theorem handleX {fl : Value} {rest : List (Addr × Obj)} (F : Fr hb L s'.heap m) (N : News hb L s'.heap ((e, oe) :: (T, oT) :: rest)) (hE : IsExc X ctx T oe) (hB : IsTb fl oT) (heT : e ≠ T) (hr : ∀ p ∈ rest, p.1 ≠ T) (Tp : Top p loose mean mg mb hb)
    (k : ∀ h', Fr hb L h' m → News hb L h' rest → wpAny (model prog w) (A.mark (some (.ref e))) (execs (b₀ :: suite) (envOf name scope L a cd)) Q E { s' with heap := h' })
    (t1 : x ∉ startupNames := by decide +kernel) (t2 : x ∉ loose := by decide +kernel) (t3 : x ∉ (recsOf p).map (·.name) := by decide +kernel) (t4 : x ∉ (litsOf p).map (·.1) := by decide +kernel) (t5 : x ∉ (clssOf p loose).map (·.name) := by decide +kernel)
    (h3 : subB X (.type x.toString) = some true := by decide +kernel) (hv : bootBuiltins x = some (.type x.toString) := by decide +kernel) (h1 : subB x.toString (.type "BaseException") = some true := by decide +kernel)
    (h2 : subB ((Manifest.find? x.toString).elim "type" fun y => y.metatype) (.type "tuple") = some false := by decide +kernel) (hn : x ≠ "__name__" := by decide)
    (hk : scope.kind = .function := by rfl) (hxk : (envOf name scope L a cd).kindOf x = some .globalImplicit := by rfl) (hdb : (x == ("__debug__" : Str)) = false := by decide)
    (hP : PassesOwnAt (model prog w) (A.mark (some (.ref e))) A (envOf name scope L a cd) E := by passes_own) :
    wpAny (model prog w) A (handleBy (.ref e) (envOf name scope L a cd) (.ExceptHandler (some (.Name x np)) none (b₀ :: suite) pos :: hs)) Q E s' := by
  refine wpAny_handleBy_builtin (X := X) (T := x.toString) (b := true) (isSubtype_of_subB h1) (isSubtype_of_subB h2) (isSubtype_of_subB h3) (wpAny_passesOwnAt hP (TT.class_top F Tp t1 t2 t3 t4 t5 hv ⟨rfl, ⟨oe, (N (e, oe) (.head _)).1, hE.1⟩, ?_⟩ hn hk hxk hdb))
  rw [if_pos rfl]
  exact wpAny_passesOwnAt hP (flightX F N hE hB heT hr fun h' oT' F' N' _ => wpAny_passesOwnAt hP (k h' F' fun q hq => N' q (.tail _ (.tail _ hq))))
/-- a new exception of the try's own frame is caught -/
theorem caughtX (hfr : A.frames = some (envOf name scope L a cd :: l)) (Fs : Frs l frs) (hx : NewX h s'.heap e X ctx) (F : Fr hb L h m) (N : News hb L h (new ++ frs)) (hap : ∀ q ∈ frs, ∀ p ∈ new, p.1 ≠ q.1) (Tp : Top p loose mean mg mb hb)
    (k : ∀ h' frs', SameUp frs frs' → Frs l frs' → Fr hb L h' m → News hb L h' (new ++ frs') → wpAny (model prog w) (A.mark (some (.ref e))) (execs (b₀ :: suite) (envOf name scope L a cd)) Q E { s' with heap := h' })
    (t1 : x ∉ startupNames := by decide +kernel) (t2 : x ∉ loose := by decide +kernel) (t3 : x ∉ (recsOf p).map (·.name) := by decide +kernel) (t4 : x ∉ (litsOf p).map (·.1) := by decide +kernel) (t5 : x ∉ (clssOf p loose).map (·.name) := by decide +kernel)
    (h3 : subB X (.type x.toString) = some true := by decide +kernel) (hv : bootBuiltins x = some (.type x.toString) := by decide +kernel) (h1 : subB x.toString (.type "BaseException") = some true := by decide +kernel)
    (h2 : subB ((Manifest.find? x.toString).elim "type" fun y => y.metatype) (.type "tuple") = some false := by decide +kernel) (hn : x ≠ "__name__" := by decide)
    (hk : scope.kind = .function := by rfl) (hxk : (envOf name scope L a cd).kindOf x = some .globalImplicit := by rfl) (hdb : (x == ("__debug__" : Str)) = false := by decide)
    (hP : PassesOwnAt (model prog w) (A.mark (some (.ref e))) A (envOf name scope L a cd) E := by passes_own) :
    wpAny (model prog w) A (noteFrame (.ref e) (envOf name scope L a cd)) (fun _ s₂ => wpAny (model prog w) A (setFlight (.ref e) none) (fun _ s₃ =>
      wpAny (model prog w) A (handleBy (.ref e) (envOf name scope L a cd) (.ExceptHandler (some (.Name x np)) none (b₀ :: suite) pos :: hs)) Q E s₃) E s₂) E s' := by
  refine noteX hfr Fs hx F N hap (fun h₁ T oe oT frs₁ SU Fs₁ F₁ N₁ hE hB heT hne => ?_) hk
  refine flightX (s' := { s' with heap := h₁ }) F₁ N₁ hE hB heT (fun q hq => (hne q hq).2) fun h₂ oT' F₂ N₂ hB₂ => ?_
  exact handleX (s' := { s' with heap := h₂ }) F₂ N₂ hE hB₂ heT (fun q hq => (hne q hq).2) Tp (fun h₃ F₃ N₃ => k h₃ frs₁ SU Fs₁ F₃ N₃) t1 t2 t3 t4 t5 h3 hv h1 h2 hn hk hxk hdb hP
/-- an exception that flew by a finally goes on into the except above it, in the same frame -/
theorem passX {fl : Value} {rest : List (Addr × Obj)} {what : String} (F : Fr hb L s'.heap m) (N : News hb L s'.heap ((e, oe) :: (T, oT) :: rest)) (hE : IsExc X ctx T oe) (hB : IsTb fl oT) (heT : e ≠ T) (hr : ∀ p ∈ rest, p.1 ≠ T) (Tp : Top p loose mean mg mb hb) {Q₀ Q : Flow → Shared → Prop}
    (k : ∀ h', Fr hb L h' m → News hb L h' rest → wpAny (model prog w) (A.mark (some (.ref e))) (execs (b₀ :: suite) (envOf name scope L a cd)) Q E { s' with heap := h' })
    (t1 : x ∉ startupNames := by decide +kernel) (t2 : x ∉ loose := by decide +kernel) (t3 : x ∉ (recsOf p).map (·.name) := by decide +kernel) (t4 : x ∉ (litsOf p).map (·.1) := by decide +kernel) (t5 : x ∉ (clssOf p loose).map (·.name) := by decide +kernel)
    (h3 : subB X (.type x.toString) = some true := by decide +kernel) (hv : bootBuiltins x = some (.type x.toString) := by decide +kernel) (h1 : subB x.toString (.type "BaseException") = some true := by decide +kernel)
    (h2 : subB ((Manifest.find? x.toString).elim "type" fun y => y.metatype) (.type "tuple") = some false := by decide +kernel) (hn : x ≠ "__name__" := by decide)
    (hk : scope.kind = .function := by rfl) (hxk : (envOf name scope L a cd).kindOf x = some .globalImplicit := by rfl) (hdb : (x == ("__debug__" : Str)) = false := by decide)
    (hP : PassesOwnAt (model prog w) (A.mark (some (.ref e))) A (envOf name scope L a cd) E := by passes_own) :
    wpAny (model prog w) A (PySem.passOn what (.ref e) (envOf name scope L a cd)) Q₀ (fun e s₁ => wpAny (model prog w) A (noteFrame e (envOf name scope L a cd)) (fun _ s₂ => wpAny (model prog w) A (setFlight e none) (fun _ s₃ =>
      wpAny (model prog w) A (handleBy e (envOf name scope L a cd) (.ExceptHandler (some (.Name x np)) none (b₀ :: suite) pos :: hs)) Q E s₃) E s₂) E s₁) s' := by
  unfold PySem.passOn
  obtain ⟨c1, t, hd⟩ := id hE
  refine wpAny_bind (wpAny_field (N (e, oe) (.head _)).1 hd (x := .ref T) rfl ?_)
  rw [if_neg (by simp)]
  refine wpAny_bind (flightX (fo := some L) F N hE hB heT hr fun h₁ oT₁ F₁ N₁ hB₁ => ?_)
  refine wpAny_throw ?_
  refine noteAgain (s' := { s' with heap := h₁ }) (N₁ (e, oe) (.head _)).1 hE (N₁ (T, oT₁) (.tail _ (.head _))).1 hB₁ ?_
  refine flightX (s' := { s' with heap := h₁ }) F₁ N₁ hE hB₁ heT hr fun h₂ oT₂ F₂ N₂ hB₂ => ?_
  exact handleX (s' := { s' with heap := h₂ }) F₂ N₂ hE hB₂ heT hr Tp k t1 t2 t3 t4 t5 h3 hv h1 h2 hn hk hxk hdb hP
/-- a new exception inside a try with a finally: the finally runs, the exception at hand -/
theorem finallyX {f₀ : Stmt} {fs : List Stmt} {E₁ : Value → Shared → Prop} (hfr : A.frames = some (envOf name scope L a cd :: l)) (Fs : Frs l frs) (hx : NewX h s'.heap e X ctx) (F : Fr hb L h m) (N : News hb L h (new ++ frs)) (hap : ∀ q ∈ frs, ∀ p ∈ new, p.1 ≠ q.1)
    (k : ∀ h' T oe oT frs', SameUp frs frs' → Frs l frs' → Fr hb L h' m → News hb L h' ((e, oe) :: (T, oT) :: (new ++ frs')) → IsExc X ctx T oe → IsTb .none oT → e ≠ T → (∀ p ∈ new ++ frs', p.1 ≠ e ∧ p.1 ≠ T) →
      wpAny (model prog w) (A.mark (some (.ref e))) (execs (f₀ :: fs) (envOf name scope L a cd))
        (fun g s₂ => match g with | .next => wpAny (model prog w) A (PySem.passOn "try.finally" (.ref e) (envOf name scope L a cd)) Q E s₂ | g => wpAny (model prog w) A (setFlight (.ref e) none) (fun _ s₃ => Q g s₃) E s₂) E { s' with heap := h' })
    (hk : scope.kind = .function := by rfl)
    (hP : PassesOwnAt (model prog w) (A.mark (some (.ref e))) A (envOf name scope L a cd) E := by passes_own) :
    wpAny (model prog w) A (noteFrame (.ref e) (envOf name scope L a cd)) (fun _ s₂ => FinallyRaised prog w A E (envOf name scope L a cd) (f₀ :: fs) Q (.ref e) s₂) E₁ s' := by
  refine noteX hfr Fs hx F N hap (fun h₁ T oe oT frs₁ SU Fs₁ F₁ N₁ hE hB heT hne => ?_) hk
  refine ⟨ref_ne_byPass e, noteAgain (s' := { s' with heap := h₁ }) (N₁ (e, oe) (.head _)).1 hE (N₁ (T, oT) (.tail _ (.head _))).1 hB ?_⟩
  refine flightX (s' := { s' with heap := h₁ }) F₁ N₁ hE hB heT (fun q hq => (hne q hq).2) fun h₂ oT' F₂ N₂ hB₂ => ?_
  exact wpAny_passesOwnAt hP (k h₂ T oe oT' frs₁ SU Fs₁ F₂ N₂ hE hB₂ heT hne)
end
end
section
theorem entry_unchain : entryFor table "proto.unchain" = some Builtin.«proto.unchain» := entryFor_of_tree (by kernel_rfl)
section
variable {prog : Program} {w : World} {A : Around} {E : Value → Shared → Prop} {s : Shared}
/-- a raise while another exception is at hand, which has none behind it -/
theorem raiseCtx {α : Type} {cls msg X : String} {e1 T1 : Addr} {oe1 : Obj} {Q : α → Shared → Prop} (hp : PlainExc cls) (hh : A.handled = some (.ref e1)) (he1 : s.heap.get? e1 = some oe1) (hE1 : IsExc X .none T1 oe1)
    (h : ∀ h' tk e, NewX s.heap h' e cls (.ref e1) → E (.ref e) { s with heap := h', toks := tk }) :
    wpAny (model prog w) A (raiseErrorWords cls msg : Sem α) Q E s := by
  obtain ⟨_, t1, hd1⟩ := hE1
  unfold raiseErrorWords
  refine wpAny_bind (wpAny_mkText (wpAny_bind ?_))
  unfold newExc newTuple
  refine wpAny_bind (wpAny_newObj_type ?_)
  refine wpAny_bind (m := firstArgMember _ _) (wpAny_of_eq (a := Value.none) (by simp only [firstArgMember, hp.first]; rfl) ?_)
  rw [hp.own]
  refine wpAny_newObj_type ?_
  unfold raiseNew
  refine wpAny_bind (wpAny_handled ?_)
  rw [hh]
  dsimp only
  have hlt : e1 < s.heap.objs.size := Heap.lt_size he1
  have hne : e1 ≠ (s.heap.push { cls := Value.type "tuple", data := Data.seq #[Value.str (Str.ofString msg) s.toks] }).objs.size := by
    rw [Heap.size_push]
    exact Nat.ne_of_lt (Nat.lt_succ_of_lt hlt)
  rw [if_pos (show (Value.ref e1 != Value.ref _) = true from by
    simp only [bne_iff_ne, ne_eq, Value.ref.injEq]
    exact hne)]
  refine wpAny_bind (wpAny_holding (wpAny_runValue (codeAny_builtin entry_unchain ?_)))
  unfold Builtin.«proto.unchain»
  refine wpAny_bind (wpAny_field (Heap.get?_push_of_some _ (Heap.get?_push_of_some _ he1)) hd1 (x := .none) rfl ?_)
  rw [if_pos (by rfl)]
  refine wpAny_bind (wpAny_pure (wpAny_pure ?_))
  have hd2 : ({ cls := Value.type cls, data := Data.fields (#[Value.ref s.heap.objs.size, Value.none, Value.none, Value.none, Value.bool false, Value.none] ++ #[]) } : Obj).data = .fields #[Value.ref s.heap.objs.size, Value.none, Value.none, Value.none, Value.bool false, Value.none] := by simp
  have hnew := Heap.get?_push_size (s.heap.push { cls := Value.type "tuple", data := Data.seq #[Value.str (Str.ofString msg) s.toks] }) (o := { cls := Value.type cls, data := Data.fields (#[Value.ref s.heap.objs.size, Value.none, Value.none, Value.none, Value.bool false, Value.none] ++ #[]) }) rfl
  refine wpAny_bind (wpAny_setField hnew hd2 (by simp) (wpAny_throw (h _ _ _ ⟨fun b o hb => ?_, Heap.get?_none_of_le (by simp), _, .ref s.heap.objs.size, Heap.get?_update_self _ hnew ?_, rfl, ?_⟩)))
  · have hbl := Heap.lt_size hb
    rw [Heap.get?_update_other _ _ (fun q => by rw [Heap.size_push] at q; exact absurd hbl (by rw [← q]; exact Nat.not_lt.mpr (Nat.le_succ _)))]
    exact Heap.get?_push_of_some _ (Heap.get?_push_of_some _ hb)
  · exact Obj.isFreed_of_fields (Obj.data_mapFields hd2 _)
  · rw [Obj.data_mapFields hd2]; rfl
theorem getItem_outX {l : Addr} {items : Array Value} {k : Nat} {t : Tok} {X : String} {e1 T1 : Addr} {oe1 : Obj} {Q : Value → Shared → Prop} (hh : A.handled = some (.ref e1)) (he1 : s.heap.get? e1 = some oe1) (hE1 : IsExc X .none T1 oe1) (hl : s.heap.IsList l items)
    (hout : items.size ≤ k) (hhi : k < 2 ^ 62)
    (hE : ∀ h' tk e, NewX s.heap h' e "IndexError" (.ref e1) → E (.ref e) { s with heap := h', toks := tk }) :
    wpAny (model prog w) A (getItem (.ref l) (.int (k : Int) t)) Q E s := by
  obtain ⟨o, ho, hc, ne, hd⟩ := id hl
  have hfit : Builtin.List.listFitsIndex (k : Int) = true := fitsIndex_both (by omega) (by omega)
  clear hhi
  obtain ⟨kk, hkk⟩ : ∃ kk : Int, kk = Int.ofNat k := ⟨_, rfl⟩
  rw [show ((k : Nat) : Int) = kk from hkk.symm] at hfit ⊢
  unfold getItem
  try with_reducible refine wpAny_holding ?_
  first | refine wpAny_bind (wpAny_pure ?_) | skip
  refine wpAny_bind (wpAny_sequenceKey hl.typeIs (by decide) ?_)
  refine wpAny_bind (wpAny_callSpecial?_slot (name := Str.ofString "__getitem__") hl.typeIs slot_list_getitem
    (wpAny_call_entry slot_list_getitem hl.typeIs entry_list_getitem ?_ (args_list_getitem _ _)))
  show wpAny _ _ (Builtin.List.listSubscript? (.int kk t) >>= _) _ _ s
  refine wpAny_bind (wpAny_listSubscript_int hfit ?_)
  subst hkk
  have hx : items[k]? = none := Array.getElem?_eq_none hout
  show wpAny _ _ ((seqItemAt l k >>= fun r => pure (r.map (k, ·))) >>= _) _ _ s
  refine wpAny_bind (wpAny_bind (wpAny_seqItemAt ho hd (wpAny_pure ?_)))
  rw [hx]
  have raise : ∀ {α : Type} {Q : α → Shared → Prop} {msg : String}, wpAny (model prog w) A.in1 (raiseErrorWords "IndexError" msg : Sem α) Q E s := fun {α} {Q} {msg} => raiseCtx (A := A.in1) plainExc_IndexError hh he1 hE1 hE
  first
    | exact wpAny_bind (wpAny_rule raise)
    | exact wpAny_bind (wpAny_rule (wpAny_bind raise))
    | exact wpAny_bind (wpAny_bind (wpAny_rule raise))
    | exact wpAny_rule raise
theorem item_strs_outX {value slice : PySem.Expr} {l : Addr} {vs : List Value} {xs : List Str} {i : Nat} {u : Tok} {X : String} {e1 T1 : Addr} {oe1 : Obj} {Q : Value → Shared → Prop} (hh : A.handled = some (.ref e1)) (he1 : s.heap.get? e1 = some oe1) (hE1 : IsExc X .none T1 oe1)
    (hl : s.heap.IsList l vs.toArray) (hs : StrsAre vs xs) (hx : xs[i]? = none) (hi : i < 2 ^ 62)
    (hE : ∀ h' tk e, NewX s.heap h' e "IndexError" (.ref e1) → E (.ref e) { s with heap := h', toks := tk })
    (hsl : subscripted slice false (.ref l) (.int (i : Int) u) = operate [.ref l, .int (i : Int) u] (getItem (.ref l) (.int (i : Int) u)) := by with_unfolding_all rfl) :
    wpAny (model prog w) A (subscriptTail value slice (.ref l) (.int (i : Int) u)) Q E s := by
  have hle : xs.length ≤ i := List.getElem?_eq_none_iff.mp hx
  have hlen := hs.length
  refine tail_any hl.typeIs slot_list_getitem.lookup (getItem_outX hh he1 hE1 hl ?_ hi hE) hsl
  simp only [List.size_toArray]
  omega
end
end
section
open PyProof.Rows.TI (Frs SameUp)
abbrev KeepBut (fs : List Addr) (h h' : Heap) : Prop := ∀ b o, h.get? b = some o → b ∉ fs → h'.get? b = some o
section
variable {prog : Program} {w : World} {A : Around} {s : Shared} {K : Frag} {mg mb : Str → Option Value} {p : Program} {loose : List Str} {mean : ExcName → Option Value} {base : Heap} {frs : List (Addr × Obj)}
  {R : Result → Shared → Prop} {name qual : Str} {params : Arguments} {body : List Stmt} {scope : Scope} {dV kV doc pm cdv ct oc : Value} {an od : Option Addr} {osl : Array (Option Value)} {f : Addr} {args : Args}
theorem hide_base (hb : Keep base s.heap) (hf : ∀ q ∈ frs, s.heap.get? q.1 = some q.2 ∧ base.get? q.1 = none) : Keep base (hideAll s.heap (frs.map (·.1))) := fun b o e => hideAll_get _ (hb b o e) fun hm => by
  obtain ⟨q, hq, rfl⟩ := List.mem_map.mp hm
  rw [(hf q hq).2] at e; cases e
/-- a def is entered, the frames below it in its ledger -/
theorem enterF {binds : List (Str × Value)} (X : K.In base) (T : Top p loose mean mg mb base) (hb : Keep base s.heap) (hf : ∀ q ∈ frs, s.heap.get? q.1 = some q.2 ∧ base.get? q.1 = none)
    (ho : K.lookup f = some ⟨oc, od, .func (fnOf name qual params body scope dV kV doc pm an cdv ct), osl⟩) (hcd : codeIn K cdv qual = true) (hroom : A.depth < recursionLimit)
    (hbind : BindsTo s (fnOf name qual params body scope dV kV doc pm an cdv ct) args binds) (hloc : ∀ y ∈ binds, scope.names.lookup y.1 = some .local)
    (h : ∀ g L' h₁, KeepBut (frs.map (·.1)) s.heap g → K.In g → Top p loose mean mg mb g → Fr g L' h₁ (fun y => binds.reverse.lookup y) → News g L' h₁ frs → (∀ q ∈ frs, q.1 < L') →
      Body prog w A R body (envOf qual scope L' f cdv) { s with heap := h₁, toks := s.toks + binds.length })
    (hco : scope.isCoroutine = false) (hgen : scope.isGenerator = false) (hk : scope.kind = .function)
    (hcell : ∀ x ∈ scope.names, x.2 ≠ .cell) : codeAny (model prog w) A (.call (.ref f) args) R s :=
  have kg := hide_base hb hf
  codeAny_call_def (fd := fnOf name qual params body scope dV kV doc pm an cdv ct) (body := body) (binds := binds) hroom (X.keeps hb _ _ ho) rfl (T.nolimit.keeps hb) (codeRec_of (X.keeps hb) hcd) rfl hbind hcell hloc
    (fun h₁ hns hk₁ => h (hideAll s.heap (frs.map (·.1))) s.heap.objs.size h₁ (fun b o e hn => hideAll_get _ e hn) (X.keeps kg) (T.keeps kg)
      ⟨hns, fun b o e => hk₁ b o (of_hideAll _ e), Nat.le_of_eq (hideAll_size _ _)⟩
      (fun q hq => ⟨hk₁ _ _ (hf q hq).1, Nat.ne_of_lt (Heap.lt_size (hf q hq).1), hideAll_none _ (List.mem_map_of_mem hq)⟩) fun q hq => Heap.lt_size (hf q hq).1) hco hgen hk
theorem enterF_cells {binds : List (Str × Value)} (X : K.In base) (T : Top p loose mean mg mb base) (hb : Keep base s.heap) (hf : ∀ q ∈ frs, s.heap.get? q.1 = some q.2 ∧ base.get? q.1 = none)
    (ho : K.lookup f = some ⟨oc, od, .func (fnOf name qual params body scope dV kV doc pm an cdv ct), osl⟩) (hcd : codeIn K cdv qual = true) (hroom : A.depth < recursionLimit)
    (hbind : BindsTo s (fnOf name qual params body scope dV kV doc pm an cdv ct) args binds)
    (hkind : (binds.all fun y => scope.names.lookup y.1 == some .local || scope.names.lookup y.1 == some .cell) = true) (hnd : ((cellsFrom 0 scope.names []).map (·.1)).Nodup)
    (h : ∀ g L' h₁ tk cells, KeepBut (frs.map (·.1)) s.heap g → K.In g → Top p loose mean mg mb g → Fr g L' h₁ (bindL (envOfC qual scope L' f cdv).kindOf binds fun _ => none) → News g L' h₁ (cells ++ frs) →
      CellsAre (bindC (envOfC qual scope L' f cdv).kindOf binds fun _ => none) (cellsFrom (L' + 1) scope.names []) cells → (∀ q ∈ frs, q.1 < L') →
      Body prog w A R body (envOfC qual scope L' f cdv) { s with heap := h₁, toks := tk })
    (hco : scope.isCoroutine = false) (hgen : scope.isGenerator = false) (hk : scope.kind = .function) : codeAny (model prog w) A (.call (.ref f) args) R s := by
  have kg := hide_base hb hf
  refine codeAny_call_function (fd := fnOf name qual params body scope dV kV doc pm an cdv ct) (body := body) hroom (X.keeps hb _ _ ho) rfl hco hgen rfl (codeRec_of (X.keeps hb) hcd) (hbind _ _ _ _ ?_)
  refine wpAny_newFunctionEnv_cells hk (kindsX hkind _) fun env' he s' x => ?_
  subst he
  refine ⟨(T.nolimit.keeps hb).keeps x.toInCall.keep, codeAny_func ?_⟩
  obtain ⟨h₁, tk, rfl, _⟩ := x.done
  have hk₁ := x.toInCall.keep
  obtain ⟨cells, NC, Y⟩ := Cl.news (h₀ := s.heap) (Nat.le_refl _) fun n c hm => ⟨x.cell n c (lookup_of_mem_nodup (cellsFrom_names scope.names 0 (s.heap.objs.size + 1) [] [] rfl ▸ hnd) hm), x.above n c hm⟩
  refine h (hideAll s.heap (frs.map (·.1))) s.heap.objs.size h₁ tk cells (fun b o e hn => hideAll_get _ e hn) (X.keeps kg) (T.keeps kg)
    ⟨x.toInCall.ns, fun b o e => hk₁ b o (of_hideAll _ e), Nat.le_of_eq (hideAll_size _ _)⟩ (fun q hq => ?_) Y fun q hq => Heap.lt_size (hf q hq).1
  rcases List.mem_append.mp hq with hq | hq
  · refine ⟨(NC q hq).1, (NC q hq).2.1, ?_⟩
    cases e : (hideAll s.heap (frs.map (·.1))).get? q.1 with
    | none => rfl
    | some o => have := of_hideAll _ e; rw [(NC q hq).2.2] at this; cases this
  · exact ⟨hk₁ _ _ (hf q hq).1, Nat.ne_of_lt (Heap.lt_size (hf q hq).1), hideAll_none _ (List.mem_map_of_mem hq)⟩
end
end
section
open PyProof.Rows.TI (Frs SameUp)
section
variable {prog : Program} {w : World} {A : Around} {E : Value → Shared → Prop} {s' : Shared} {hb h : Heap} {L a e T : Addr} {m : Str → Option Value} {name : Str} {scope : Scope} {cd : Value} {ctx : Value} {l : List Env} {frs new : List (Addr × Obj)} {oe oT : Obj}
  {np pos : Pos} {b₀ : Stmt} {suite : List Stmt} {hs : List ExceptHandler} {Q : Flow → Shared → Prop} {mean : ExcName → Option Value} {mg mb : Str → Option Value}
theorem sd_IndexError_1 : (Str.ofString "IndexError") ∉ startupNames := by decide +kernel
theorem sd_IndexError_2 : (Str.ofString "IndexError") ∉ looseW hd.view_39 [] := by decide +kernel
theorem sd_IndexError_3 : (Str.ofString "IndexError") ∉ (recsOf hd.view_39).map (·.name) := by decide +kernel
theorem sd_IndexError_4 : (Str.ofString "IndexError") ∉ (litsOf hd.view_39).map (·.1) := by decide +kernel
theorem sd_IndexError_5 : (Str.ofString "IndexError") ∉ (clssOf hd.view_39 (looseW hd.view_39 [])).map (·.name) := by decide +kernel
theorem sd_IndexError_6 : subB "IndexError" (.type (Str.ofString "IndexError").toString) = some true := by decide +kernel
theorem sd_IndexError_7 : bootBuiltins (Str.ofString "IndexError") = some (.type (Str.ofString "IndexError").toString) := by decide +kernel
theorem sd_IndexError_8 : subB (Str.ofString "IndexError").toString (.type "BaseException") = some true := by decide +kernel
theorem sd_IndexError_9 : subB ((Manifest.find? (Str.ofString "IndexError").toString).elim "type" fun y => y.metatype) (.type "tuple") = some false := by decide +kernel
theorem caught_IndexError (hfr : A.frames = some (envOf name scope L a cd :: l)) (Fs : Frs l frs) (hx : NewX h s'.heap e "IndexError" ctx) (F : Fr hb L h m) (N : News hb L h (new ++ frs)) (hap : ∀ q ∈ frs, ∀ p ∈ new, p.1 ≠ q.1) (Tp : Top hd.view_39 (looseW hd.view_39 []) mean mg mb hb)
    (k : ∀ h' frs', SameUp frs frs' → Frs l frs' → Fr hb L h' m → News hb L h' (new ++ frs') → wpAny (model prog w) (A.mark (some (.ref e))) (execs (b₀ :: suite) (envOf name scope L a cd)) Q E { s' with heap := h' })
    (hk : scope.kind = .function := by rfl) (hxk : (envOf name scope L a cd).kindOf (Str.ofString "IndexError") = some .globalImplicit := by rfl)
    (hP : PassesOwnAt (model prog w) (A.mark (some (.ref e))) A (envOf name scope L a cd) E := by passes_own) :
    wpAny (model prog w) A (noteFrame (.ref e) (envOf name scope L a cd)) (fun _ s₂ => wpAny (model prog w) A (setFlight (.ref e) none) (fun _ s₃ =>
      wpAny (model prog w) A (handleBy (.ref e) (envOf name scope L a cd) (.ExceptHandler (some (.Name (Str.ofString "IndexError") np)) none (b₀ :: suite) pos :: hs)) Q E s₃) E s₂) E s' :=
  caughtX hfr Fs hx F N hap Tp k sd_IndexError_1 sd_IndexError_2 sd_IndexError_3 sd_IndexError_4 sd_IndexError_5 sd_IndexError_6 sd_IndexError_7 sd_IndexError_8 sd_IndexError_9 (by decide) hk hxk (by decide) hP
theorem pass_IndexError {fl : Value} {rest : List (Addr × Obj)} {what : String} (F : Fr hb L s'.heap m) (N : News hb L s'.heap ((e, oe) :: (T, oT) :: rest)) (hE : IsExc "IndexError" ctx T oe) (hB : IsTb fl oT) (heT : e ≠ T) (hr : ∀ p ∈ rest, p.1 ≠ T) (Tp : Top hd.view_39 (looseW hd.view_39 []) mean mg mb hb) {Q₀ Q : Flow → Shared → Prop}
    (k : ∀ h', Fr hb L h' m → News hb L h' rest → wpAny (model prog w) (A.mark (some (.ref e))) (execs (b₀ :: suite) (envOf name scope L a cd)) Q E { s' with heap := h' })
    (hk : scope.kind = .function := by rfl) (hxk : (envOf name scope L a cd).kindOf (Str.ofString "IndexError") = some .globalImplicit := by rfl)
    (hP : PassesOwnAt (model prog w) (A.mark (some (.ref e))) A (envOf name scope L a cd) E := by passes_own) :
    wpAny (model prog w) A (PySem.passOn what (.ref e) (envOf name scope L a cd)) Q₀ (fun e s₁ => wpAny (model prog w) A (noteFrame e (envOf name scope L a cd)) (fun _ s₂ => wpAny (model prog w) A (setFlight e none) (fun _ s₃ =>
      wpAny (model prog w) A (handleBy e (envOf name scope L a cd) (.ExceptHandler (some (.Name (Str.ofString "IndexError") np)) none (b₀ :: suite) pos :: hs)) Q E s₃) E s₂) E s₁) s' :=
  passX F N hE hB heT hr Tp k sd_IndexError_1 sd_IndexError_2 sd_IndexError_3 sd_IndexError_4 sd_IndexError_5 sd_IndexError_6 sd_IndexError_7 sd_IndexError_8 sd_IndexError_9 (by decide) hk hxk (by decide) hP
theorem sd_ValueError_1 : (Str.ofString "ValueError") ∉ startupNames := by decide +kernel
theorem sd_ValueError_2 : (Str.ofString "ValueError") ∉ looseW hd.view_39 [] := by decide +kernel
theorem sd_ValueError_3 : (Str.ofString "ValueError") ∉ (recsOf hd.view_39).map (·.name) := by decide +kernel
theorem sd_ValueError_4 : (Str.ofString "ValueError") ∉ (litsOf hd.view_39).map (·.1) := by decide +kernel
theorem sd_ValueError_5 : (Str.ofString "ValueError") ∉ (clssOf hd.view_39 (looseW hd.view_39 [])).map (·.name) := by decide +kernel
theorem sd_ValueError_6 : subB "ValueError" (.type (Str.ofString "ValueError").toString) = some true := by decide +kernel
theorem sd_ValueError_7 : bootBuiltins (Str.ofString "ValueError") = some (.type (Str.ofString "ValueError").toString) := by decide +kernel
theorem sd_ValueError_8 : subB (Str.ofString "ValueError").toString (.type "BaseException") = some true := by decide +kernel
theorem sd_ValueError_9 : subB ((Manifest.find? (Str.ofString "ValueError").toString).elim "type" fun y => y.metatype) (.type "tuple") = some false := by decide +kernel
theorem caught_ValueError (hfr : A.frames = some (envOf name scope L a cd :: l)) (Fs : Frs l frs) (hx : NewX h s'.heap e "ValueError" ctx) (F : Fr hb L h m) (N : News hb L h (new ++ frs)) (hap : ∀ q ∈ frs, ∀ p ∈ new, p.1 ≠ q.1) (Tp : Top hd.view_39 (looseW hd.view_39 []) mean mg mb hb)
    (k : ∀ h' frs', SameUp frs frs' → Frs l frs' → Fr hb L h' m → News hb L h' (new ++ frs') → wpAny (model prog w) (A.mark (some (.ref e))) (execs (b₀ :: suite) (envOf name scope L a cd)) Q E { s' with heap := h' })
    (hk : scope.kind = .function := by rfl) (hxk : (envOf name scope L a cd).kindOf (Str.ofString "ValueError") = some .globalImplicit := by rfl)
    (hP : PassesOwnAt (model prog w) (A.mark (some (.ref e))) A (envOf name scope L a cd) E := by passes_own) :
    wpAny (model prog w) A (noteFrame (.ref e) (envOf name scope L a cd)) (fun _ s₂ => wpAny (model prog w) A (setFlight (.ref e) none) (fun _ s₃ =>
      wpAny (model prog w) A (handleBy (.ref e) (envOf name scope L a cd) (.ExceptHandler (some (.Name (Str.ofString "ValueError") np)) none (b₀ :: suite) pos :: hs)) Q E s₃) E s₂) E s' :=
  caughtX hfr Fs hx F N hap Tp k sd_ValueError_1 sd_ValueError_2 sd_ValueError_3 sd_ValueError_4 sd_ValueError_5 sd_ValueError_6 sd_ValueError_7 sd_ValueError_8 sd_ValueError_9 (by decide) hk hxk (by decide) hP
theorem pass_ValueError {fl : Value} {rest : List (Addr × Obj)} {what : String} (F : Fr hb L s'.heap m) (N : News hb L s'.heap ((e, oe) :: (T, oT) :: rest)) (hE : IsExc "ValueError" ctx T oe) (hB : IsTb fl oT) (heT : e ≠ T) (hr : ∀ p ∈ rest, p.1 ≠ T) (Tp : Top hd.view_39 (looseW hd.view_39 []) mean mg mb hb) {Q₀ Q : Flow → Shared → Prop}
    (k : ∀ h', Fr hb L h' m → News hb L h' rest → wpAny (model prog w) (A.mark (some (.ref e))) (execs (b₀ :: suite) (envOf name scope L a cd)) Q E { s' with heap := h' })
    (hk : scope.kind = .function := by rfl) (hxk : (envOf name scope L a cd).kindOf (Str.ofString "ValueError") = some .globalImplicit := by rfl)
    (hP : PassesOwnAt (model prog w) (A.mark (some (.ref e))) A (envOf name scope L a cd) E := by passes_own) :
    wpAny (model prog w) A (PySem.passOn what (.ref e) (envOf name scope L a cd)) Q₀ (fun e s₁ => wpAny (model prog w) A (noteFrame e (envOf name scope L a cd)) (fun _ s₂ => wpAny (model prog w) A (setFlight e none) (fun _ s₃ =>
      wpAny (model prog w) A (handleBy e (envOf name scope L a cd) (.ExceptHandler (some (.Name (Str.ofString "ValueError") np)) none (b₀ :: suite) pos :: hs)) Q E s₃) E s₂) E s₁) s' :=
  passX F N hE hB heT hr Tp k sd_ValueError_1 sd_ValueError_2 sd_ValueError_3 sd_ValueError_4 sd_ValueError_5 sd_ValueError_6 sd_ValueError_7 sd_ValueError_8 sd_ValueError_9 (by decide) hk hxk (by decide) hP
end
theorem sameUp_nil {fr : List (Addr × Obj)} (h : SameUp [] fr) : fr = [] := by
  cases fr with
  | nil => rfl
  | cons _ _ => exact False.elim h
theorem sameUp_cons {a : Addr} {oa : Obj} {l fr : List (Addr × Obj)} (h : SameUp ((a, oa) :: l) fr) : ∃ oa' fr', fr = (a, oa') :: fr' ∧ SameUp l fr' := by
  cases fr with
  | nil => exact False.elim h
  | cons q fr' =>
    obtain ⟨h1, _, h2⟩ := h
    exact ⟨q.2, fr', by rw [← (show q.1 = a from h1)], h2⟩
theorem sameUp1 {a : Addr} {oa : Obj} {fr : List (Addr × Obj)} (h : SameUp [(a, oa)] fr) : ∃ oa', fr = [(a, oa')] := by
  obtain ⟨oa', f1, rfl, h2⟩ := sameUp_cons h
  exact ⟨oa', by rw [sameUp_nil h2]⟩
theorem sameUp2 {a b : Addr} {oa ob : Obj} {fr : List (Addr × Obj)} (h : SameUp [(a, oa), (b, ob)] fr) : ∃ oa' ob', fr = [(a, oa'), (b, ob')] := by
  obtain ⟨oa', f1, rfl, h2⟩ := sameUp_cons h
  obtain ⟨ob', e⟩ := sameUp1 h2
  exact ⟨oa', ob', by rw [e]⟩
theorem sameUp3 {a b c : Addr} {oa ob oc : Obj} {fr : List (Addr × Obj)} (h : SameUp [(a, oa), (b, ob), (c, oc)] fr) : ∃ oa' ob' oc', fr = [(a, oa'), (b, ob'), (c, oc')] := by
  obtain ⟨oa', f1, rfl, h2⟩ := sameUp_cons h
  obtain ⟨ob', oc', e⟩ := sameUp2 h2
  exact ⟨oa', ob', oc', by rw [e]⟩
end
section
open PyProof.Rows.TI (Frs SameUp)
noncomputable def ltS (x y : Str) : Bool := decide (x.cps.toList < y.cps.toList)
noncomputable def skipF (xs : List Str) (e : Str) (i : Nat) : Nat := i + ((xs.drop i).takeWhile (fun x => x == e)).length
theorem name1 {g h : Heap} {L a : Addr} {oa : Obj} {r : List (Addr × Obj)} (N : News g L h ((a, oa) :: r)) : ∃ x, x = a := ⟨_, rfl⟩
theorem name2 {g h : Heap} {L a b : Addr} {oa ob : Obj} {r : List (Addr × Obj)} (N : News g L h ((a, oa) :: (b, ob) :: r)) : ∃ x y, x = a ∧ y = b := ⟨_, _, rfl, rfl⟩
theorem skipF_end {xs : List Str} {e : Str} {i : Nat} (h : xs[i]? = none) : skipF xs e i = i := by
  have : xs.length ≤ i := List.getElem?_eq_none_iff.mp h
  unfold skipF
  rw [List.drop_eq_nil_of_le this]; rfl
theorem drop_of_get {α : Type} {xs : List α} {i : Nat} {y : α} (h : xs[i]? = some y) : xs.drop i = y :: xs.drop (i + 1) := by
  obtain ⟨hi, rfl⟩ := List.getElem?_eq_some_iff.mp h
  exact List.drop_eq_getElem_cons hi
theorem skipF_eq {xs : List Str} {e y : Str} {i : Nat} (h : xs[i]? = some y) (hy : (y == e) = true) : skipF xs e i = skipF xs e (i + 1) := by
  unfold skipF
  rw [drop_of_get h, List.takeWhile_cons_of_pos (p := fun x => x == e) hy, List.length_cons]
  omega
theorem skipF_ne {xs : List Str} {e y : Str} {i : Nat} (h : xs[i]? = some y) (hy : (y == e) = false) : skipF xs e i = i := by
  unfold skipF
  rw [drop_of_get h, List.takeWhile_cons_of_neg (p := fun x => x == e) (by rw [hy]; exact Bool.false_ne_true), List.length_nil]; rfl
theorem skipF_ge {xs : List Str} {e : Str} {i : Nat} : i ≤ skipF xs e i := Nat.le_add_right _ _
theorem skipF_le {xs : List Str} {e : Str} {i : Nat} (h : i ≤ xs.length) : skipF xs e i ≤ xs.length := by
  unfold skipF
  have h1 := (List.takeWhile_sublist (l := xs.drop i) (fun x => x == e)).length_le
  rw [List.length_drop] at h1
  omega
section
variable {prog : Program} {w : World} {A : Around} {E : Value → Shared → Prop} {s : Shared} {g : Heap} {L a : Addr} {cd : Value} {name : Str} {scope : Scope}
theorem skip_loop {m : Str → Option Value} {x : Addr} {vs : List Value} {xs : List Str} {e : Str} {te ti : Tok} {i : Nat} {news : List (Addr × Obj)} {ctx : Value} {Q : Flow → Shared → Prop} {X k v : Str} {p1 p2 p3 p4 p5 p6 p7 p8 p9 : Pos} {c0 : Nat}
    (hk : scope.kind = .function) (lX : (envOf name scope L a cd).kindOf X = some .local) (lk : (envOf name scope L a cd).kindOf k = some .local) (lv : (envOf name scope L a cd).kindOf v = some .local)
    (dX : (X == ("__debug__" : Str)) = false) (dk : (k == ("__debug__" : Str)) = false) (dv : (v == ("__debug__" : Str)) = false) (hXk : X ≠ k) (hvk : v ≠ k)
    (hE : PassesOwn (model prog w) A (envOf name scope L a cd) E)
    (F : Fr g L s.heap (fun z => if z = k then some (.int (i : Int) ti) else m z)) (N : News g L s.heap news) (mX : m X = some (.ref x)) (mv : m v = some (.str e te))
    (hl : g.IsList x vs.toArray) (hs : StrsAre vs xs) (hlen : xs.length ≤ 1000) (hi : i ≤ xs.length)
    (hout : ∀ (s : Shared) (j : Nat) (u : Tok) (Q : Value → Shared → Prop), xs[j]? = none → j ≤ 1000 → s.heap.IsList x vs.toArray → News g L s.heap news →
      (∀ h' tk e', NewX s.heap h' e' "IndexError" ctx → E (.ref e') { s with heap := h', toks := tk }) → wpAny (model prog w) A (subscriptTail (.Name X p1) (.Name k p2) (.ref x) (.int (j : Int) u)) Q E s)
    (hok : ∀ t h' tk', skipF xs e i < xs.length → Fr g L h' (fun z => if z = k then some (.int (skipF xs e i : Nat) t) else m z) → News g L h' news → Q .next { s with heap := h', toks := tk' })
    (herr : ∀ t h1 tk h' e', ¬ skipF xs e i < xs.length → Fr g L h1 (fun z => if z = k then some (.int (skipF xs e i : Nat) t) else m z) → News g L h1 news → NewX h1 h' e' "IndexError" ctx → E (.ref e') { s with heap := h', toks := tk }) :
    wpAny (model prog w) A (exec (.While (.Compare (.Subscript (.Name X p1) (.Name k p2) p3) [.Eq] [.Name v p4] p5) [.AugAssign (.Name k p6) .Add (.Constant (.int 1) c0 p7) p8] [] p9) (envOf name scope L a cd)) Q E s := by
  refine while_inv (fun n s' => ∃ (i₁ : Nat) (t : Tok) (h : Heap) (tk : Nat), s' = { s with heap := h, toks := tk } ∧ Fr g L h (fun z => if z = k then some (.int (i₁ : Int) t) else m z) ∧ News g L h news ∧ i ≤ i₁ ∧ i₁ ≤ xs.length ∧ skipF xs e i₁ = skipF xs e i ∧ n = xs.length - i₁) hE ?_ (xs.length - i) ⟨i, ti, s.heap, s.toks, rfl, F, N, Nat.le_refl _, hi, rfl, rfl⟩
  rintro n s' ⟨i₁, t, h, tk, rfl, F₁, N₁, hge, hle, hsk, rfl⟩
  have hl₁ : ({ s with heap := h, toks := tk } : Shared).heap.IsList x vs.toArray := hl.at fun o e => F₁.keep x o e
  refine wpAny_isTrue_Compare1 (Subscript_ (ld F₁ (by rw [if_neg hXk]; exact mX) (ld F₁ (by rw [if_pos rfl]) ?_ hk lk dk) hk lX dX))
  cases hx : xs[i₁]? with
  | none =>
    refine hout _ i₁ t _ hx (by omega) hl₁ N₁ fun h' tk' e' hn => ?_
    have hq : skipF xs e i = i₁ := hsk.symm.trans (skipF_end hx)
    have hend : xs.length ≤ i₁ := List.getElem?_eq_none_iff.mp hx
    refine herr t h tk' h' e' (by omega) ?_ N₁ hn
    rw [hq]; exact F₁
  | some y =>
    have hlt : i₁ < xs.length := (List.getElem?_eq_some_iff.mp hx).1
    refine item_strs hl₁ hs hx (by omega) fun ty => ld F₁ (by rw [if_neg hvk]; exact mv) (PyProof.Rows.eq_str (wpAny_truthy_bool ?_)) hk lv dv
    cases hy : (y == e) with
    | false =>
      refine WhlIf.no rfl (wpAny_execs_nil (hok t h tk ?_ ?_ N₁))
      · rw [← hsk, skipF_ne hx hy]; exact hlt
      · rw [← hsk, skipF_ne hx hy]; exact F₁
    | true =>
      refine WhlIf.yes rfl (wpAny_execs_cons (wpAny_AugAssign_Name (ldn F₁ (by rw [if_pos rfl]) (wpAny_Constant_int (PyProof.Rows.iadd_int (stN F₁ N₁ (fun h' F' N' => wpAny_execs_nil ?_) hk lk))) hk lk)))
      refine ⟨xs.length - (i₁ + 1), by omega, i₁ + 1, tk + 1, h', _, rfl, ?_, N', by omega, hlt, (skipF_eq hx hy).symm.trans hsk, rfl⟩
      have q : (fun z => if z = k then some (Value.int ((i₁ + 1 : Nat) : Int) (tk + 1)) else m z) = fun z => if z = k then some (Value.int ((i₁ : Int) + 1) (tk + 1)) else if z = k then some (Value.int (i₁ : Int) t) else m z := by
        funext z
        by_cases hz : z = k
        · rw [if_pos hz, if_pos hz]; rfl
        · rw [if_neg hz, if_neg hz, if_neg hz]
      rw [q]; exact F'
/-- a slice from a place on, of a list of texts -/
theorem slice_strs {h₀ : Heap} {value slice : PySem.Expr} {l : Addr} {m : Str → Option Value} {news : List (Addr × Obj)} {vs : List Value} {xs : List Str} {i : Nat} {u : Tok} {Q : Value → Shared → Prop}
    (F : Fr h₀ L s.heap m) (N : News h₀ L s.heap news) (hl : s.heap.IsList l vs.toArray) (hs : StrsAre vs xs) (hz : xs.length ≤ 1000)
    (h : ∀ D h', Fr h₀ L h' m → News h₀ L h' ((D, listOf (vs.drop i).toArray 0) :: news) → (∀ p ∈ news, p.1 < D) → Q (.ref D) { s with heap := h' })
    (hsl : subscripted slice false (.ref l) (.ref s.heap.objs.size) = operate [.ref s.heap.objs.size, .ref l] (getItem (.ref l) (.ref s.heap.objs.size)) := by with_unfolding_all rfl) (ht : ∀ r, letTemporaryGo value (.ref l) r = pure () := by intro _; with_unfolding_all rfl) :
    wpAny (model prog w) A (subscriptTail value slice (.ref l) (.ref s.heap.objs.size)) Q E { s with heap := s.heap.push { cls := .type "slice", data := .fields #[.int (i : Int) u, .none, .none] } } := by
  refine kmk_slice F N hl (IsPart.int (i : Int) u) IsPart.none (fun D h' F' N' l1 => h D h' F' ?_ l1) hsl ht ?_
  · rw [slicePick_from'] at N'; exact N'
  · rw [List.size_toArray, hs.length, sizeLine_eq]; omega
/-- list.extend by another list of the ledger -/
theorem extendK {h₀ : Heap} {D b : Addr} {m : Str → Option Value} {news news' : List (Addr × Obj)} {its its2 : Array Value} {n n2 : Nat} {Q : Value → Shared → Prop} (F : Fr h₀ L s.heap m) (N : News h₀ L s.heap news) (hb : (b, listOf its2 n2) ∈ news)
    (U : Upd D (listOf its n) (listOf (its ++ its2) (if (its ++ its2).size == its.size then n else n + 1)) news news') (hz : its.size + its2.size ≤ 1000)
    (h : ∀ h', Fr h₀ L h' m → News h₀ L h' news' → Q .none { s with heap := h' }) : wpAny (model prog w) A (call (.builtin "list.extend") [.ref D, .ref b]) Q E s := by
  obtain ⟨pre, post, rfl, rfl, a, c⟩ := U.split
  have z := N (D, listOf its n) (List.mem_append.mpr (.inr (.head _)))
  have h1 : its.size + its2.size ≤ sizeLine := by rw [sizeLine_eq]; omega
  refine call_meets PySem.F.slot_list_extend ⟨_, z.1, rfl⟩ PySem.F.entry_list_extend (PySem.F.args_list_extend_2 _ _) (PySem.AutoSeq1.list_extend_list_list_0 D its n b its2 n2 ?_ (by omega) (by omega)) ⟨z.1, (N _ hb).1, h _ (F.change (Heap.SameBut.update ..) z.2.1 z.2.2) (news_set N a c (Heap.SameBut.update ..) (Heap.get?_update_self _ z.1 rfl))⟩
  intro q
  rw [Bool.and_eq_true] at q
  have := q.2
  revert this
  unfold Builtin.List.listTooLong
  simp
  omega
end
end
section
open PyProof.Rows.TI (Frs SameUp)
noncomputable def sldF (xs ys : List Str) : Nat → Nat → Nat → List Str → List Str → Option (List Str × List Str)
  | 0, _, _, _, _ => none
  | n + 1, i, j, ms, us =>
    match xs[i]?, ys[j]? with
    | some e, some a =>
      if ltS e a = true then
        (if skipF xs e (i + 1) < xs.length then sldF xs ys n (skipF xs e (i + 1)) j (ms ++ [e]) us else some (ms ++ [e] ++ xs.drop (skipF xs e (i + 1)), us ++ ys.drop j))
      else if ltS a e = true then
        (if skipF ys a (j + 1) < ys.length then sldF xs ys n i (skipF ys a (j + 1)) ms (us ++ [a]) else some (ms ++ xs.drop i, us ++ [a] ++ ys.drop (skipF ys a (j + 1))))
      else if skipF xs e (i + 1) < xs.length ∧ skipF ys a (j + 1) < ys.length then sldF xs ys n (skipF xs e (i + 1)) (skipF ys a (j + 1)) ms us
      else some (ms ++ xs.drop (skipF xs e (i + 1)), us ++ ys.drop (skipF ys a (j + 1)))
    | _, _ => some (ms ++ xs.drop i, us ++ ys.drop j)
noncomputable def InvS (s : Shared) (g' : Heap) (L' lm lu x y L0 L1 L2 : Addr) (o0 o1 o2 : Obj) (xs ys : List Str) (rs : List Str × List Str) (n : Nat) (s' : Shared) : Prop := ∃ (i j : Nat) (ti tj : Tok) (mv uv : List Value) (ms us : List Str) (km ku : Nat) (u : Str → Option Value) (h : Heap) (tk : Nat),
    s' = { s with heap := h, toks := tk } ∧
    Fr g' L' h (fun z => if z = Str.ofString "i" then some (.int (i : Int) ti) else if z = Str.ofString "j" then some (.int (j : Int) tj) else if z = Str.ofString "missing" then some (.ref lm) else if z = Str.ofString "unexpected" then some (.ref lu) else if z = Str.ofString "expected" then some (.ref x) else if z = Str.ofString "actual" then some (.ref y) else u z) ∧
    News g' L' h [(lu, listOf uv.toArray ku), (lm, listOf mv.toArray km), (L0, o0), (L1, o1), (L2, o2)] ∧ StrsAre mv ms ∧ StrsAre uv us ∧ ms.length ≤ i ∧ us.length ≤ j ∧ i ≤ xs.length ∧ j ≤ ys.length ∧
    sldF xs ys n i j ms us = some rs
local macro_rules | `(tactic| passes_own) => `(tactic| first | exact PySem.PassesOwn.looking | exact PySem.PassesOwnAt.looking | exact PySem.PassesOwnAt.lookingOf (by first | exact PySem.SameStack.mark _ _ | exact PySem.SameStack.unmark _ _))
theorem c_sld {w : World} {mean : ExcName → Option Value} {mg mb : Str → Option Value} {dp un : Nat} {gd : Option (List Code)} {base : Heap} {s : Shared} {Q E : Value → Shared → Prop} {e0 e1 e2 : Env} {L0 L1 L2 : Addr} {o0 o1 o2 : Obj} {x y : Addr} {vs us : List Value} {n k : Nat} {xs ys : List Str} {rs : List Str × List Str}
    (X : (hd.heap_1 w.params).In base) (T : Top hd.view_39 (looseW hd.view_39 []) mean mg mb base) (hb : Keep base s.heap) (Fs : Frs [e0, e1, e2] [(L0, o0), (L1, o1), (L2, o2)])
    (hf : ∀ q ∈ [(L0, o0), (L1, o1), (L2, o2)], s.heap.get? q.1 = some q.2 ∧ base.get? q.1 = none)
    (hdp : dp + 1 < recursionLimit) (hun : un + 40 < cLine) (hx : s.heap.get? x = some (listOf vs.toArray n)) (hxs : StrsAre vs xs) (hxf : x ∉ [L0, L1, L2]) (hy : s.heap.get? y = some (listOf us.toArray k)) (hys : StrsAre us ys) (hyf : y ∉ [L0, L1, L2]) (hlx : xs.length ≤ 100) (hly : ys.length ≤ 100) (hr : sldF xs ys 300 0 0 [] [] = some rs)
    (hret : ∀ (t lm lu : Addr) (mv uv : List Value) (km ku : Nat) (h' : Heap) (tk' : Nat) (frs' : List (Addr × Obj)), SameUp [(L0, o0), (L1, o1), (L2, o2)] frs' → (∀ q ∈ frs', h'.get? q.1 = some q.2) → KeepBut [L0, L1, L2] s.heap h' → (h'.get? t = some { cls := .type "tuple", data := .seq #[.ref lm, .ref lu] }) → (h'.get? lm = some (listOf mv.toArray km)) → (h'.get? lu = some (listOf uv.toArray ku)) → (StrsAre mv rs.1) → (StrsAre uv rs.2) → (s.heap.get? t = none) → (s.heap.get? lm = none) → (s.heap.get? lu = none) → (lm < lu ∧ lu < t) → Q (.ref t) { s with heap := h', toks := tk' }) :
    wpAny (model Challenge.rw_pd0046_01.row.prog w) ({ handled := none, depth := dp, frames := some [e0, e1, e2], guards := gd, units := un } : Around) (call (.ref 28) [.ref x, .ref y]) Q E s := by
  w_top off
  k_with_none
  (k_with "call builtin:issubclass" => (k_here; (with_reducible show wpAny _ _ (call (Value.builtin _) [Value.type _, Value.ref _]) _ _ _); k_dflt (refine call_isc (News.get (by k_asm) (by k_mem)) ?_)))
  (k_with "subscriptTail Name Name ref int" => (k_here; (with_unfolding_all refine' item_strs ?k1_k ?k2_k ?k3_k ?k4_k ?_ ?k6_k; (case k1_k => is_list); (case k2_k => assumption); (case k3_k => assumption); (case k4_k => omega); (case k6_k => with_unfolding_all rfl)); intro t9_k))
  (k_with "subscriptTail Name Name ref int" => (k_here; (with_unfolding_all refine' item_strs_out ?k0_k ?k1_k ?k2_k ?k3_k ?k4_k ?_ ?k6_k; (case k0_k => rfl); (case k1_k => is_list); (case k2_k => assumption); (case k3_k => assumption); (case k4_k => omega); (case k6_k => with_unfolding_all rfl)); intro h9_k tk9_k e9_k x9_k; (replace x9_k := NewX.of x9_k)))
  (k_with "WhlIf" => (refine WhlIf.yes (by first | rfl | assumption) ?_))
  (k_with "WhlIf" => (refine WhlIf.no (by first | rfl | assumption) ?_))
  (k_with "subscriptTail Name Slice ref ref" => (k_here; (with_reducible show wpAny _ _ (subscriptTail _ (PySem.Expr.Slice _ _ none _) (Value.ref _) (Value.ref _)) _ _ _); k_dflt (refine' slice_strs ?F_k ?N_k ?l_k ?s_k ?z_k ?_ ?c1_k ?c2_k; (case F_k => k_asm); (case N_k => k_asm); (case l_k => kmk_list); (case s_k => assumption); (case z_k => omega); (case c1_k => with_unfolding_all rfl); (case c2_k => kmk_pure)); intro Dp_k hp_k Fp_k Np_k l1_k; (try k_lt l1_k); (try k_sweep)))
  (k_with "call builtin:list.extend" => (k_here; (with_reducible show wpAny _ _ (call (Value.builtin _) [Value.ref _, Value.ref _]) _ _ _); k_dflt (refine' extendK ?F_k ?N_k ?b_k ?U_k ?z_k ?_; (case F_k => k_asm); (case N_k => k_asm); (case b_k => k_mem); (case U_k => k_upd); (case z_k => (simp only [List.size_toArray, Array.size_push, List.length_drop, Array.size_append]; omega))); intro h9_k F9_k N9_k; (try k_sweep)))
  (k_with "WPost brk" => (refine wpost_brk ?_))
  (k_with "MINE caught" => (k_here; (rename NewX _ _ _ _ _ => x9_k); k_dflt (refine' caught_IndexError (new := [_, _]) ?k1_k ?k2_k x9_k ?k3_k ?k4_k ?k5_k ?k6_k ?_; (case k1_k => exact rfl); (case k2_k => assumption); (case k3_k => assumption); (case k4_k => assumption); (case k5_k => exact List.forall_mem_cons.mpr ⟨by k_all, List.forall_mem_cons.mpr ⟨by k_all, List.forall_mem_cons.mpr ⟨by k_all, List.forall_mem_nil _⟩⟩⟩); (case k6_k => k_asm)); intro h9_k fr9_k SU9_k Fs9_k F9_k N9_k; (obtain ⟨oa9_k, ob9_k, oc9_k, q9_k⟩ := sameUp3 SU9_k); subst q9_k; (try simp only [List.cons_append, List.nil_append] at N9_k); (try dsimp only)))
  (k_with "noteFrame ref" => walk_at "MINE caught")
  revert X T hret
  k_fill
  intro X T hret
  ((refine wpAny_call ?_; k_dflt (refine' enterF ?k1 ?k2 ?k3 ?k4 ?k6 ?k7 ?k8 ?k9 ?kB ?_ ?c2 ?c3 ?c4 ?c5; (case k1 => k_asm); (case k2 => k_asm); (case k3 => assumption); (case k4 => assumption); (case k6 => k_is); (case k7 => k_is); (case k8 => ktr_room); (case k9 => exact BindsTo.of_eq rfl); (case c5 => decide); (case kB => exact locs rfl); (case c2 => exact rfl); (case c3 => exact rfl); (case c4 => exact rfl); k_whole)))
  intro g' L' h' kG' X' T' F' N' hlt'
  (replace hlt' := allLt_of hlt'); (try simp only [AllLt, and_true] at hlt')
  (((try unfold Body); (try dsimp only); (try k_fold)))
  have hx' : g'.IsList x vs.toArray := ⟨_, kG' _ _ hx hxf, rfl, _, rfl⟩
  have hy' : g'.IsList y us.toArray := ⟨_, kG' _ _ hy hyf, rfl, _, rfl⟩
  obtain ⟨u0, F'⟩ : ∃ u0 : Str → Option Value, Fr g' L' h' (fun z => if z = Str.ofString "expected" then some (.ref x) else if z = Str.ofString "actual" then some (.ref y) else u0 z) := ⟨_, fr_set (fr_set F' rfl) rfl⟩
  (repeat' ((fail_if_success (with_reducible show wpAny _ _ (exec (Stmt.While _ _ _ _) _) _ _ _)); first | (k_unfold; (try dsimp only)) | walk1 | (dsimp only; walk1) | (leave1; walk_say "STEP leave1"; try dsimp only) | fail "no step"))
  rename News _ _ _ _ => N0
  rename Fr _ _ _ _ => F0
  obtain ⟨lu, lm, e8, f8⟩ := name2 N0
  subst e8 f8
  have hltm : @LT.lt Nat _ L0 lm ∧ @LT.lt Nat _ L1 lm ∧ @LT.lt Nat _ L2 lm := by assumption
  have hltu : @LT.lt Nat _ lm lu ∧ @LT.lt Nat _ L0 lu ∧ @LT.lt Nat _ L1 lu ∧ @LT.lt Nat _ L2 lu := by assumption
  have fin : ∀ (t : Addr) (B1 B2 : Array Value) (k1 k2 : Nat) (h : Heap) (tk : Nat) (fr : List (Addr × Obj)) (m2 : Str → Option Value) (news2 : List (Addr × Obj)), Fr g' L' h m2 → News g' L' h news2 →
      (t, ({ cls := .type "tuple", data := .seq #[.ref lm, .ref lu] } : Obj)) ∈ news2 → (lm, listOf B1 k1) ∈ news2 → (lu, listOf B2 k2) ∈ news2 → SameUp [(L0, o0), (L1, o1), (L2, o2)] fr → (∀ q ∈ fr, q ∈ news2) → StrsAre B1.toList rs.1 → StrsAre B2.toList rs.2 → lu < t →
      Q (.ref t) { s with heap := h, toks := tk } := by
    intro t B1 B2 k1 k2 h tk fr m2 news2 Fz Nz ht hm hu hSU hfr h1 h2 hlt
    have fresh : ∀ b o, (b, o) ∈ news2 → L0 < b ∧ L1 < b ∧ L2 < b → s.heap.get? b = none := fun b o hm' hbl => by
      cases e : s.heap.get? b with
      | none => rfl
      | some o' =>
        have q := kG' b o' e (by simp only [List.map_cons, List.map_nil, List.mem_cons, List.not_mem_nil, or_false, not_or]; exact ⟨Nat.ne_of_gt hbl.1, Nat.ne_of_gt hbl.2.1, Nat.ne_of_gt hbl.2.2⟩)
        rw [(Nz _ hm').2.2] at q; cases q
    exact hret t lm lu B1.toList B2.toList k1 k2 h tk fr hSU (fun q hq => (Nz q (hfr q hq)).1) (fun b o e hn => Fz.keep b o (kG' b o e hn)) (Nz _ ht).1
      (by rw [Array.toArray_toList]; exact (Nz _ hm).1) (by rw [Array.toArray_toList]; exact (Nz _ hu).1) h1 h2 (fresh _ _ ht ⟨Nat.lt_trans hltu.2.1 hlt, Nat.lt_trans hltu.2.2.1 hlt, Nat.lt_trans hltu.2.2.2 hlt⟩) (fresh _ _ hm hltm) (fresh _ _ hu hltu.2) ⟨hltu.1, hlt⟩
  have hvl := hxs.length
  have hul := hys.length
  refine while_inv (InvS s g' L' lm lu x y L0 L1 L2 o0 o1 o2 xs ys rs) ?hE ?turn 300 ?start
  case hE => passes_own
  case start => unfold InvS; exact ⟨0, 0, _, _, [], [], [], [], 0, 0, _, _, _, rfl, fr_set (fr_set (fr_set (fr_set (fr_set (fr_set F0 rfl) rfl) rfl) rfl) rfl) rfl, N0, .nil, .nil, Nat.le_refl _, Nat.le_refl _, Nat.zero_le _, Nat.zero_le _, hr⟩
  case turn =>
    clear F0 N0 hr hret
    intro n' s' hI
    obtain ⟨i, j, ti, tj, mv, uv, ms, us', km, ku, u, h1, tk1, rfl, F1, N1, hmv, huv, hmi, huj, hix, hjy, hF⟩ := hI
    have hml := hmv.length
    have hnl := huv.length
    cases n' with
    | zero => simp [sldF] at hF
    | succ n' =>
      rw [sldF] at hF
      cases he : xs[i]? with
      | none =>
        rw [he] at hF
        obtain rfl := Option.some.inj hF
        clear hF
        (repeat' ((fail_if_success (with_reducible show wpAny _ _ (exec (Stmt.While _ _ _ _) _) _ _ _)); first | (k_unfold; (try dsimp only)) | walk1 | (dsimp only; walk1) | (leave1; walk_say "STEP leave1"; try dsimp only) | fail "no step"))
        exact fin _ _ _ _ _ _ _ _ _ _ (by assumption) (by assumption) (by k_mem) (by k_mem) (by k_mem) (by assumption) (List.forall_mem_cons.mpr ⟨by k_mem, List.forall_mem_cons.mpr ⟨by k_mem, List.forall_mem_cons.mpr ⟨by k_mem, List.forall_mem_nil _⟩⟩⟩) (by simpa using hmv.append' (hxs.drop' i)) (by simpa using huv.append' (hys.drop' j)) (by refine ltN ?_; omega)
      | some e =>
        cases ha : ys[j]? with
        | none =>
          rw [he, ha] at hF
          obtain rfl := Option.some.inj hF
          clear hF
          (repeat' ((fail_if_success (with_reducible show wpAny _ _ (exec (Stmt.While _ _ _ _) _) _ _ _)); first | (k_unfold; (try dsimp only)) | walk1 | (dsimp only; walk1) | (leave1; walk_say "STEP leave1"; try dsimp only) | fail "no step"))
          exact fin _ _ _ _ _ _ _ _ _ _ (by assumption) (by assumption) (by k_mem) (by k_mem) (by k_mem) (by assumption) (List.forall_mem_cons.mpr ⟨by k_mem, List.forall_mem_cons.mpr ⟨by k_mem, List.forall_mem_cons.mpr ⟨by k_mem, List.forall_mem_nil _⟩⟩⟩) (by simpa using hmv.append' (hxs.drop' i)) (by simpa using huv.append' (hys.drop' j)) (by refine ltN ?_; omega)
        | some a' =>
          have hi1 : i < xs.length := (List.getElem?_eq_some_iff.mp he).1
          have hj1 : j < ys.length := (List.getElem?_eq_some_iff.mp ha).1
          have hi2 := skipF_ge (xs := xs) (e := e) (i := i + 1)
          have hj2 := skipF_ge (xs := ys) (e := a') (i := j + 1)
          have hi3 := skipF_le (e := e) (show i + 1 ≤ xs.length from hi1)
          have hj3 := skipF_le (e := a') (show j + 1 ≤ ys.length from hj1)
          rw [he, ha] at hF
          dsimp only at hF
          (repeat' ((fail_if_success (with_reducible show wpAny _ _ (exec (Stmt.While _ _ _ _) _) _ _ _)); first | (k_unfold; (try dsimp only)) | walk1 | (dsimp only; walk1) | (leave1; walk_say "STEP leave1"; try dsimp only) | fail "no step"))
          · rename e.cps.toList < a'.cps.toList => hlt
            rename News _ _ _ _ => N2
            rename Fr _ _ _ _ => F2
            rw [if_pos (show ltS e a' = true from decide_eq_true hlt)] at hF
            have hmv2 := fun t9 => hmv.append' (StrsAre.cons e t9 .nil)
            refine skip_loop (i := i + 1) (ctx := .none) rfl rfl rfl rfl (by decide) (by decide) (by decide) (by decide) (by decide) (by passes_own) F2 N2 rfl rfl hx' hxs (by omega) hi1 (fun s9 j9 u9 Q9 hn9 hj9 hl9 _ k9 => item_strs_out rfl hl9 hxs hn9 (by omega) fun h9 tk9 e9 x9 => k9 h9 tk9 e9 (NewX.of x9)) ?_ ?_
            · intro t3 h3 tk3 hlt3 F3 N3
              rw [if_pos hlt3] at hF
              clear F2 N2
              (repeat' ((fail_if_success (with_reducible show wpAny _ _ (exec (Stmt.While _ _ _ _) _) _ _ _)); first | (k_unfold; (try dsimp only)) | walk1 | (dsimp only; walk1) | (leave1; walk_say "STEP leave1"; try dsimp only) | fail "no step"))
              rw [List.push_toArray] at N3
              refine ⟨n', Nat.lt_succ_self _, ?_⟩; unfold InvS; exact ⟨skipF xs e (i + 1), j, _, _, mv ++ [_], uv, ms ++ [e], us', _, _, _, h3, _, rfl, fr_set (fr_set (fr_set (fr_set (fr_set (fr_set F3 rfl) rfl) rfl) rfl) rfl) rfl, N3, hmv2 _, huv, (by simp only [List.length_append, List.length_cons, List.length_nil]; omega), huj, hi3, hjy, hF⟩
            · intro t3 h3 tk3 h4 e4 hge F3 N3 x4
              rw [if_neg hge] at hF
              obtain rfl := Option.some.inj hF
              clear F2 N2
              (repeat' ((fail_if_success (with_reducible show wpAny _ _ (exec (Stmt.While _ _ _ _) _) _ _ _)); first | (k_unfold; (try dsimp only)) | walk1 | (dsimp only; walk1) | (leave1; walk_say "STEP leave1"; try dsimp only) | fail "no step"))
              exact fin _ _ _ _ _ _ _ _ _ _ (by assumption) (by assumption) (by k_mem) (by k_mem) (by k_mem) (by assumption) (List.forall_mem_cons.mpr ⟨by k_mem, List.forall_mem_cons.mpr ⟨by k_mem, List.forall_mem_cons.mpr ⟨by k_mem, List.forall_mem_nil _⟩⟩⟩) (by simpa using (hmv2 _).append' (hxs.drop' (skipF xs e (i + 1)))) (by simpa using huv.append' (hys.drop' j)) (by refine ltN ?_; omega)
          · rename ¬ e.cps.toList < a'.cps.toList => hnlt
            rename a'.cps.toList < e.cps.toList => hlt
            rename News _ _ _ _ => N2
            rename Fr _ _ _ _ => F2
            rw [if_neg (show ¬ ltS e a' = true from fun q => hnlt (of_decide_eq_true q)), if_pos (show ltS a' e = true from decide_eq_true hlt)] at hF
            have huv2 := fun t9 => huv.append' (StrsAre.cons a' t9 .nil)
            refine skip_loop (i := j + 1) (ctx := .none) rfl rfl rfl rfl (by decide) (by decide) (by decide) (by decide) (by decide) (by passes_own) F2 N2 rfl rfl hy' hys (by omega) hj1 (fun s9 j9 u9 Q9 hn9 hj9 hl9 _ k9 => item_strs_out rfl hl9 hys hn9 (by omega) fun h9 tk9 e9 x9 => k9 h9 tk9 e9 (NewX.of x9)) ?_ ?_
            · intro t3 h3 tk3 hlt3 F3 N3
              rw [if_pos hlt3] at hF
              clear F2 N2
              (repeat' ((fail_if_success (with_reducible show wpAny _ _ (exec (Stmt.While _ _ _ _) _) _ _ _)); first | (k_unfold; (try dsimp only)) | walk1 | (dsimp only; walk1) | (leave1; walk_say "STEP leave1"; try dsimp only) | fail "no step"))
              rw [List.push_toArray] at N3
              refine ⟨n', Nat.lt_succ_self _, ?_⟩; unfold InvS; exact ⟨i, skipF ys a' (j + 1), _, _, mv, uv ++ [_], ms, us' ++ [a'], _, _, _, h3, _, rfl, fr_set (fr_set (fr_set (fr_set (fr_set (fr_set F3 rfl) rfl) rfl) rfl) rfl) rfl, N3, hmv, huv2 _, hmi, (by simp only [List.length_append, List.length_cons, List.length_nil]; omega), hix, hj3, hF⟩
            · intro t3 h3 tk3 h4 e4 hge F3 N3 x4
              rw [if_neg hge] at hF
              obtain rfl := Option.some.inj hF
              clear F2 N2
              (repeat' ((fail_if_success (with_reducible show wpAny _ _ (exec (Stmt.While _ _ _ _) _) _ _ _)); first | (k_unfold; (try dsimp only)) | walk1 | (dsimp only; walk1) | (leave1; walk_say "STEP leave1"; try dsimp only) | fail "no step"))
              exact fin _ _ _ _ _ _ _ _ _ _ (by assumption) (by assumption) (by k_mem) (by k_mem) (by k_mem) (by assumption) (List.forall_mem_cons.mpr ⟨by k_mem, List.forall_mem_cons.mpr ⟨by k_mem, List.forall_mem_cons.mpr ⟨by k_mem, List.forall_mem_nil _⟩⟩⟩) (by simpa using hmv.append' (hxs.drop' i)) (by simpa using (huv2 _).append' (hys.drop' (skipF ys a' (j + 1)))) (by refine ltN ?_; omega)
          · rename ¬ e.cps.toList < a'.cps.toList => hnlt
            rename ¬ a'.cps.toList < e.cps.toList => hngt
            rename News _ _ _ _ => N2
            rename Fr _ _ _ _ => F2
            rw [if_neg (show ¬ ltS e a' = true from fun q => hnlt (of_decide_eq_true q)), if_neg (show ¬ ltS a' e = true from fun q => hngt (of_decide_eq_true q))] at hF
            refine skip_loop (i := i + 1) (ctx := .none) rfl rfl rfl rfl (by decide) (by decide) (by decide) (by decide) (by decide) (by passes_own) F2 N2 rfl rfl hx' hxs (by omega) hi1 (fun s9 j9 u9 Q9 hn9 hj9 hl9 _ k9 => item_strs_out rfl hl9 hxs hn9 (by omega) fun h9 tk9 e9 x9 => k9 h9 tk9 e9 (NewX.of x9)) ?_ ?_
            · intro t3 h3 tk3 hlt3 F3 N3
              clear F2 N2
              (repeat' ((fail_if_success (with_reducible show wpAny _ _ (exec (Stmt.While _ _ _ _) _) _ _ _)); first | (k_unfold; (try dsimp only)) | walk1 | (dsimp only; walk1) | (leave1; walk_say "STEP leave1"; try dsimp only) | fail "no step"))
              rename News _ _ _ _ => N4
              rename Fr _ _ _ _ => F4
              refine wpAny_passesOwn (by passes_own) ?_
              refine skip_loop (i := j + 1) (ctx := .none) rfl rfl rfl rfl (by decide) (by decide) (by decide) (by decide) (by decide) (by passes_own) F4 N4 rfl rfl hy' hys (by omega) hj1 (fun s9 j9 u9 Q9 hn9 hj9 hl9 _ k9 => item_strs_out rfl hl9 hys hn9 (by omega) fun h9 tk9 e9 x9 => k9 h9 tk9 e9 (NewX.of x9)) ?_ ?_
              · intro t5 h5 tk5 hlt5 F5 N5
                rw [if_pos ⟨hlt3, hlt5⟩] at hF
                clear F4 N4
                (repeat' ((fail_if_success (with_reducible show wpAny _ _ (exec (Stmt.While _ _ _ _) _) _ _ _)); first | (k_unfold; (try dsimp only)) | walk1 | (dsimp only; walk1) | (leave1; walk_say "STEP leave1"; try dsimp only) | fail "no step"))
                refine ⟨n', Nat.lt_succ_self _, ?_⟩; unfold InvS; exact ⟨skipF xs e (i + 1), skipF ys a' (j + 1), _, _, mv, uv, ms, us', _, _, _, h5, _, rfl, fr_set (fr_set (fr_set (fr_set (fr_set (fr_set F5 rfl) rfl) rfl) rfl) rfl) rfl, N5, hmv, huv, by omega, by omega, hi3, hj3, hF⟩
              · intro t5 h5 tk5 h6 e6 hge F5 N5 x6
                rw [if_neg (fun q => hge q.2)] at hF
                obtain rfl := Option.some.inj hF
                clear F4 N4
                (repeat' ((fail_if_success (with_reducible show wpAny _ _ (exec (Stmt.While _ _ _ _) _) _ _ _)); first | (k_unfold; (try dsimp only)) | walk1 | (dsimp only; walk1) | (leave1; walk_say "STEP leave1"; try dsimp only) | fail "no step"))
                exact fin _ _ _ _ _ _ _ _ _ _ (by assumption) (by assumption) (by k_mem) (by k_mem) (by k_mem) (by assumption) (List.forall_mem_cons.mpr ⟨by k_mem, List.forall_mem_cons.mpr ⟨by k_mem, List.forall_mem_cons.mpr ⟨by k_mem, List.forall_mem_nil _⟩⟩⟩) (by simpa using hmv.append' (hxs.drop' (skipF xs e (i + 1)))) (by simpa using huv.append' (hys.drop' (skipF ys a' (j + 1)))) (by refine ltN ?_; omega)
            · intro t3 h3 tk3 h4 e4 hge F3 N3 x4
              rw [if_neg (fun q => hge q.1)] at hF
              obtain rfl := Option.some.inj hF
              clear F2 N2
              refine finallyX (new := [_, _]) rfl Fs x4 F3 N3 (List.forall_mem_cons.mpr ⟨by k_all, List.forall_mem_cons.mpr ⟨by k_all, List.forall_mem_cons.mpr ⟨by k_all, List.forall_mem_nil _⟩⟩⟩) ?_
              intro h5 T5 oe5 oT5 fr5 SU5 Fs5 F5 N5 hE5 hB5 hne5 hd5
              obtain ⟨oa5, ob5, oc5, q5⟩ := sameUp3 SU5
              subst q5
              simp only [List.cons_append, List.nil_append] at N5
              (repeat' ((fail_if_success (with_reducible show wpAny _ _ (exec (Stmt.While _ _ _ _) _) _ _ _)); first | (k_unfold; (try dsimp only)) | walk1 | (dsimp only; walk1) | (leave1; walk_say "STEP leave1"; try dsimp only) | fail "no step"))
              rename News _ _ _ _ => N6
              rename Fr _ _ _ _ => F6
              refine skip_loop (i := j + 1) (ctx := .ref e4) rfl rfl rfl rfl (by decide) (by decide) (by decide) (by decide) (by decide) (by passes_own) F6 N6 rfl rfl hy' hys (by omega) hj1 (fun s9 j9 u9 Q9 hn9 hj9 hl9 Nn9 k9 => item_strs_outX rfl (Nn9 _ (.head _)).1 hE5 hl9 hys hn9 (by omega) k9) ?_ ?_
              · intro t7 h7 tk7 hlt7 F7 N7
                refine wpAny_execs_nil ?_
                dsimp only
                refine pass_IndexError F7 N7 hE5 hB5 hne5 (fun p hp => (hd5 p hp).2) T' ?_
                intro h8 F8 N8
                simp only [List.cons_append, List.nil_append] at N8
                clear F6 N6 F7 N7
                (try clear F5); (try clear N5); (try clear F3); (try clear N3)
                (repeat' ((fail_if_success (with_reducible show wpAny _ _ (exec (Stmt.While _ _ _ _) _) _ _ _)); first | (k_unfold; (try dsimp only)) | walk1 | (dsimp only; walk1) | (leave1; walk_say "STEP leave1"; try dsimp only) | fail "no step"))
                exact fin _ _ _ _ _ _ _ _ _ _ (by assumption) (by assumption) (by k_mem) (by k_mem) (by k_mem) (by assumption) (List.forall_mem_cons.mpr ⟨by k_mem, List.forall_mem_cons.mpr ⟨by k_mem, List.forall_mem_cons.mpr ⟨by k_mem, List.forall_mem_nil _⟩⟩⟩) (by simpa using hmv.append' (hxs.drop' (skipF xs e (i + 1)))) (by simpa using huv.append' (hys.drop' (skipF ys a' (j + 1)))) (by refine ltN ?_; omega)
              · intro t7 h7 tk7 h8 e8 hge7 F7 N7 x8
                have N8 : News g' L' h7 [(lu, _), (lm, _), (L0, oa5), (L1, ob5), (L2, oc5)] := fun q hq => N7 q (.tail _ (.tail _ hq))
                clear F6 N6 N7 x4 Fs
                (try clear F5); (try clear N5); (try clear F3); (try clear N3)
                (repeat' ((fail_if_success (with_reducible show wpAny _ _ (exec (Stmt.While _ _ _ _) _) _ _ _)); first | (k_unfold; (try dsimp only)) | walk1 | (dsimp only; walk1) | (leave1; walk_say "STEP leave1"; try dsimp only) | fail "no step"))
                exact fin _ _ _ _ _ _ _ _ _ _ (by assumption) (by assumption) (by k_mem) (by k_mem) (by k_mem) (PyProof.Rows.TI.SameUp.trans SU5 (by assumption)) (List.forall_mem_cons.mpr ⟨by k_mem, List.forall_mem_cons.mpr ⟨by k_mem, List.forall_mem_cons.mpr ⟨by k_mem, List.forall_mem_nil _⟩⟩⟩) (by simpa using hmv.append' (hxs.drop' (skipF xs e (i + 1)))) (by simpa using huv.append' (hys.drop' (skipF ys a' (j + 1)))) (by refine ltN ?_; omega)
end
section
open PyProof.Rows.TI (Frs SameUp)
theorem strs_snoc {us : List Value} {ys : List Str} {e : Str} (h : StrsAre us (ys ++ [e])) : ∃ us₀ t, us = us₀ ++ [.str e t] ∧ StrsAre us₀ ys := by
  induction ys generalizing us with
  | nil =>
    obtain ⟨t, vs', rfl, h'⟩ := h.cons_inv
    rw [h'.nil_inv]
    exact ⟨[], t, rfl, .nil⟩
  | cons y ys ih =>
    obtain ⟨t, vs', rfl, h'⟩ := h.cons_inv
    obtain ⟨us₀, t', rfl, h''⟩ := ih h'
    exact ⟨.str y t :: us₀, t', rfl, .cons y t h''⟩
theorem strs_remove {us : List Value} {ys : List Str} {e : Str} (h : StrsAre us ys) (hm : ys.contains e = true) :
    ∃ j, ∃ hj : j < us.length, isStrOf e us[j] = true ∧ (∀ i (hi : i < us.length), i < j → isStrOf e us[i] = false) ∧ StrsAre (us.eraseIdx j) (ys.erase e) := by
  induction h with
  | nil => simp at hm
  | @cons y t vs ys h ih =>
    by_cases hy : (y == e) = true
    · refine ⟨0, by simp, ?_, fun i _ hlt => absurd hlt (Nat.not_lt_zero _), ?_⟩
      · show isStrOf e (.str y t) = true
        exact hy
      · rw [List.eraseIdx_zero, List.tail_cons, List.erase_cons, if_pos hy]
        exact h
    · have hm' : ys.contains e = true := by
        rw [List.contains_cons, Bool.or_eq_true] at hm
        rcases hm with hm | hm
        · exact absurd (by rw [beq_iff_eq] at hm ⊢; exact hm.symm) hy
        · exact hm
      obtain ⟨j, hj, h1, h2, h3⟩ := ih hm'
      refine ⟨j + 1, by simpa using hj, by simpa using h1, fun i hi hlt => ?_, ?_⟩
      · cases i with
        | zero =>
          show isStrOf e (.str y t) = false
          exact Bool.eq_false_iff.mpr hy
        | succ i => simpa using h2 i (by simpa using hi) (Nat.lt_of_succ_lt_succ hlt)
      · rw [List.eraseIdx_cons_succ, List.erase_cons, if_neg hy]
        exact .cons y t h3
theorem strs_noRemove {us : List Value} {ys : List Str} {e : Str} (h : StrsAre us ys) (hm : ys.contains e = false) : ∀ y ∈ us, isStrOf e y = false := by
  induction h with
  | nil => intro y hy; cases hy
  | @cons y t vs ys h ih =>
    rw [List.contains_cons, Bool.or_eq_false_iff] at hm
    intro v hv
    rcases List.mem_cons.mp hv with rfl | hv
    · show (y == e) = false
      rw [← hm.1]
      exact Bool.eq_iff_iff.mpr (by rw [beq_iff_eq, beq_iff_eq]; exact eq_comm)
    · exact ih hm.2 v hv
section
variable {prog : Program} {w : World} {A : Around} {E : Value → Shared → Prop} {s : Shared} {h₀ : Heap} {L D : Addr} {m : Str → Option Value} {news news' : List (Addr × Obj)} {n : Nat}
theorem pop_strs {us₀ : List Value} {e : Str} {t : Tok} {Q : Value → Shared → Prop} (F : Fr h₀ L s.heap m) (N : News h₀ L s.heap news) (U : Upd D (listOf (us₀ ++ [Value.str e t]).toArray n) (listOf us₀.toArray (n + 1)) news news') (hz : us₀.length ≤ 1000)
    (h : ∀ h', Fr h₀ L h' m → News h₀ L h' news' → Q (.str e t) { s with heap := h' }) : wpAny (model prog w) A (call (.builtin "list.pop") [.ref D]) Q E s := by
  refine kl_pop F N (p := us₀) (y := .str e t) ?_ U ?_ h
  · simpa using kpa_last (.str e t) us₀
  · rw [sizeLine_eq]; simp; omega
theorem remove_strs {us : List Value} {ys : List Str} {e : Str} {t : Tok} {Q : Value → Shared → Prop} (F : Fr h₀ L s.heap m) (N : News h₀ L s.heap news) (hs : StrsAre us ys) (hm : ys.contains e = true) (hz : us.length ≤ 1000)
    (h : ∀ us' h', StrsAre us' (ys.erase e) → (∀ news', Upd D (listOf us.toArray n) (listOf us'.toArray (n + 1)) news news' → Fr h₀ L h' m ∧ News h₀ L h' news') → Q .none { s with heap := h' })
    (hD : (D, listOf us.toArray n) ∈ news) : wpAny (model prog w) A (call (.builtin "list.remove") [.ref D, .str e t]) Q E s := by
  obtain ⟨j, hj, h1, h2, h3⟩ := strs_remove hs hm
  have z := N _ hD
  refine call_meets PySem.F.slot_list_remove ⟨_, z.1, rfl⟩ PySem.F.entry_list_remove (PySem.F.args_list_remove_2 _ _)
    (MeetsSeq.list_remove D us.toArray n (.str e t) (isStrOf e) (fun y hy => eq_isStrOf e t hs y (by simpa using hy)) j (by simpa using hj) (by simpa using h1) (fun i hi hlt => by simpa using h2 i (by simpa using hi) hlt) (by rw [List.size_toArray, sizeLine_eq]; omega))
    ⟨z.1, h (us.eraseIdx j) _ h3 fun news' U => ?_⟩
  obtain ⟨pre, post, rfl, rfl, a', b'⟩ := U.split
  refine ⟨F.change (Heap.SameBut.update ..) z.2.1 z.2.2, ki_turn _ N a' b' ?_ ?_⟩
  · show us.toArray.eraseIdxIfInBounds j = (us.eraseIdx j).toArray
    apply Array.toList_inj.mp
    simp [Array.toList_eraseIdxIfInBounds]
  · rw [if_neg (by simp only [List.size_toArray, List.length_eraseIdx, beq_iff_eq]; rw [if_pos hj]; omega)]
theorem remove_none {us : List Value} {ys : List Str} {e : Str} {t : Tok} {Q : Value → Shared → Prop} (hA : A.handled = none) (hs : StrsAre us ys) (hm : ys.contains e = false)
    (hD : s.heap.get? D = some (listOf us.toArray n)) (h : ∀ h' tk e', NewX s.heap h' e' "ValueError" .none → E (.ref e') { s with heap := h', toks := tk }) :
    wpAny (model prog w) A (call (.builtin "list.remove") [.ref D, .str e t]) Q E s := by
  have no := strs_noRemove hs hm
  refine call_meets PySem.F.slot_list_remove ⟨_, hD, rfl⟩ PySem.F.entry_list_remove (PySem.F.args_list_remove_2 _ _)
    (MeetsSeq.list_remove_none D us.toArray n (.str e t) (isStrOf e) (fun y hy => eq_isStrOf e t hs y (by simpa using hy)) (fun i hi => no _ (by simp))) ⟨hD, hA, fun h' tk e' x => h h' tk e' (NewX.of x)⟩
end
end
section
open PyProof.Rows.TI (Frs SameUp)
noncomputable def uldF : List Str → List Str → List Str → List Str × List Str
  | [], ys, ms => (ms, ys)
  | e :: r, ys, ms => if ys.contains e = true then uldF r (ys.erase e) ms else uldF r ys (ms ++ [e])
theorem erase_len {ys : List Str} {e : Str} : (ys.erase e).length ≤ ys.length := List.length_erase_le
noncomputable def InvU (s : Shared) (g' : Heap) (L' lm x y L0 L1 : Addr) (o0 o1 : Obj) (e0 e1 : Env) (xs ys : List Str) (n : Nat) (s' : Shared) : Prop := ∃ (xs₁ ys₁ ms : List Str) (vs₁ us₁ mv : List Value) (kx ky km : Nat) (p0 p1 : Obj) (u : Str → Option Value) (h : Heap) (tk : Nat),
    s' = { s with heap := h, toks := tk } ∧
    Fr g' L' h (fun z => if z = Str.ofString "expected" then some (.ref x) else if z = Str.ofString "actual" then some (.ref y) else if z = Str.ofString "missing" then some (.ref lm) else u z) ∧
    News g' L' h [(lm, listOf mv.toArray km), (x, listOf vs₁.toArray kx), (y, listOf us₁.toArray ky), (L0, p0), (L1, p1)] ∧ SameUp [(L0, o0), (L1, o1)] [(L0, p0), (L1, p1)] ∧ Frs [e0, e1] [(L0, p0), (L1, p1)] ∧
    StrsAre vs₁ xs₁ ∧ StrsAre us₁ ys₁ ∧ StrsAre mv ms ∧ ys₁.length ≤ 100 ∧ ms.length + xs₁.length ≤ 100 ∧ uldF xs₁.reverse ys₁ ms = uldF xs.reverse ys [] ∧ n = xs₁.length
theorem c_uld {w : World} {mean : ExcName → Option Value} {mg mb : Str → Option Value} {dp un : Nat} {gd : Option (List Code)} {base : Heap} {s : Shared} {Q E : Value → Shared → Prop} {e0 e1 : Env} {L0 L1 : Addr} {o0 o1 : Obj} {x y : Addr} {vs us : List Value} {n k : Nat} {xs ys : List Str}
    (X : (hd.heap_1 w.params).In base) (T : Top hd.view_39 (looseW hd.view_39 []) mean mg mb base) (hb : Keep base s.heap) (Fs : Frs [e0, e1] [(L0, o0), (L1, o1)])
    (hf : ∀ q ∈ [(x, listOf vs.toArray n), (y, listOf us.toArray k), (L0, o0), (L1, o1)], s.heap.get? q.1 = some q.2 ∧ base.get? q.1 = none)
    (hdp : dp + 1 < recursionLimit) (hun : un + 40 < cLine) (hxs : StrsAre vs xs) (hys : StrsAre us ys) (hlx : xs.length ≤ 100) (hly : ys.length ≤ 100) (hxy : @LT.lt Nat _ x y ∧ @LT.lt Nat _ L0 x ∧ @LT.lt Nat _ L1 x)
    (hret : ∀ (t lm : Addr) (mv uv : List Value) (km ku : Nat) (h' : Heap) (tk' : Nat) (frs' : List (Addr × Obj)), SameUp [(L0, o0), (L1, o1)] frs' → (∀ q ∈ frs', h'.get? q.1 = some q.2) → KeepBut [x, y, L0, L1] s.heap h' →
      h'.get? t = some { cls := .type "tuple", data := .seq #[.ref lm, .ref y] } → h'.get? lm = some (listOf mv.toArray km) → h'.get? y = some (listOf uv.toArray ku) → StrsAre mv (uldF xs.reverse ys []).1 → StrsAre uv (uldF xs.reverse ys []).2 → s.heap.get? t = none → s.heap.get? lm = none → y < lm ∧ lm < t →
      Q (.ref t) { s with heap := h', toks := tk' }) :
    wpAny (model Challenge.rw_pd0046_01.row.prog w) ({ handled := none, depth := dp, frames := some [e0, e1], guards := gd, units := un } : Around) (call (.ref 35) [.ref x, .ref y]) Q E s := by
  w_top off
  k_with_none
  (k_with "call builtin:issubclass" => (k_here; (with_reducible show wpAny _ _ (call (Value.builtin _) [Value.type _, Value.ref _]) _ _ _); k_dflt (refine call_isc (News.get (by k_asm) (by k_mem)) ?_)))
  (k_with "WhlIf" => (refine WhlIf.yes (by first | rfl | assumption) ?_))
  (k_with "WhlIf" => (refine WhlIf.no (by first | rfl | assumption) ?_))
  (k_with "WPost brk" => (refine wpost_brk ?_))
  (k_with "truthy ref" => (k_here; k_dflt (refine' wpAny_truthy_list ?l_k ?z_k ?_; (case l_k => exact News.isList (by k_asm) (by k_mem)); (case z_k => (simp only [List.size_toArray, List.length_append, List.length_cons, List.length_nil]; omega)))))
  (k_with "call builtin:list.pop" => (k_here; (with_reducible show wpAny _ _ (call (Value.builtin _) [Value.ref _]) _ _ _); k_dflt (refine' pop_strs ?F_k ?N_k ?U_k ?z_k ?_; (case F_k => k_asm); (case N_k => k_asm); (case U_k => k_upd); (case z_k => omega)); intro h9_k F9_k N9_k; (try k_sweep)))
  (k_with "call builtin:list.remove" => (k_here; (with_reducible show wpAny _ _ (call (Value.builtin _) [Value.ref _, Value.str _ _]) _ _ _); k_dflt (refine' remove_strs ?F_k ?N_k ?s_k ?m_k ?z_k ?_ ?D_k; (case F_k => k_asm); (case N_k => k_asm); (case D_k => k_mem); (case s_k => assumption); (case m_k => assumption); (case z_k => omega)); intro us9_k h9_k hS9_k hU9_k; (obtain ⟨F9_k, N9_k⟩ := hU9_k _ (by k_upd)); clear hU9_k; (try k_sweep)))
  (k_with "call builtin:list.remove" => (k_here; (with_reducible show wpAny _ _ (call (Value.builtin _) [Value.ref _, Value.str _ _]) _ _ _); k_dflt (refine' remove_none ?A_k ?s_k ?m_k ?D_k ?_; (case A_k => rfl); (case D_k => exact News.get (by k_asm) (by k_mem)); (case s_k => assumption); (case m_k => assumption)); intro h9_k tk9_k e9_k x9_k))
  (k_with "noteFrame ref" => (k_here; (rename NewX _ _ _ _ _ => x9_k); k_dflt (refine' caught_ValueError (new := [_, _, _]) ?k1_k ?k2_k x9_k ?k3_k ?k4_k ?k5_k ?k6_k ?_; (case k1_k => exact rfl); (case k2_k => assumption); (case k3_k => assumption); (case k4_k => assumption); (case k5_k => exact List.forall_mem_cons.mpr ⟨by k_all, List.forall_mem_cons.mpr ⟨by k_all, List.forall_mem_nil _⟩⟩); (case k6_k => k_asm)); intro h9_k fr9_k SU9_k Fs9_k F9_k N9_k; (obtain ⟨oa9_k, ob9_k, q9_k⟩ := sameUp2 SU9_k); subst q9_k; (try simp only [List.cons_append, List.nil_append] at N9_k); (try dsimp only)))
  revert X T hret
  k_fill
  intro X T hret
  ((refine wpAny_call ?_; k_dflt (refine' enterF ?k1 ?k2 ?k3 ?k4 ?k6 ?k7 ?k8 ?k9 ?kB ?_ ?c2 ?c3 ?c4 ?c5; (case k1 => k_asm); (case k2 => k_asm); (case k3 => assumption); (case k4 => assumption); (case k6 => k_is); (case k7 => k_is); (case k8 => ktr_room); (case k9 => exact BindsTo.of_eq rfl); (case c5 => decide); (case kB => exact locs rfl); (case c2 => exact rfl); (case c3 => exact rfl); (case c4 => exact rfl); k_whole)))
  intro g' L' h' kG' X' T' F' N' hlt'
  (replace hlt' := allLt_of hlt'); (try simp only [AllLt, and_true] at hlt')
  (((try unfold Body); (try dsimp only); (try k_fold)))
  obtain ⟨u0, F'⟩ : ∃ u0 : Str → Option Value, Fr g' L' h' (fun z => if z = Str.ofString "expected" then some (.ref x) else if z = Str.ofString "actual" then some (.ref y) else u0 z) := ⟨_, fr_set (fr_set F' rfl) rfl⟩
  (repeat' ((fail_if_success (with_reducible show wpAny _ _ (exec (Stmt.While _ _ _ _) _) _ _ _)); first | (k_unfold; (try dsimp only)) | walk1 | (dsimp only; walk1) | (leave1; walk_say "STEP leave1"; try dsimp only) | fail "no step"))
  rename News _ _ _ _ => N0
  rename Fr _ _ _ _ => F0
  obtain ⟨lm, e8⟩ := name1 N0
  subst e8
  have hltm : @LT.lt Nat _ x lm ∧ @LT.lt Nat _ y lm ∧ @LT.lt Nat _ L0 lm ∧ @LT.lt Nat _ L1 lm := by assumption
  have fin : ∀ (t : Addr) (B1 B2 : List Value) (k1 k2 : Nat) (h : Heap) (tk : Nat) (fr : List (Addr × Obj)) (m2 : Str → Option Value) (news2 : List (Addr × Obj)), Fr g' L' h m2 → News g' L' h news2 →
      (t, ({ cls := .type "tuple", data := .seq #[.ref lm, .ref y] } : Obj)) ∈ news2 → (lm, listOf B1.toArray k1) ∈ news2 → (y, listOf B2.toArray k2) ∈ news2 → SameUp [(L0, o0), (L1, o1)] fr → (∀ q ∈ fr, q ∈ news2) → StrsAre B1 (uldF xs.reverse ys []).1 → StrsAre B2 (uldF xs.reverse ys []).2 → @LT.lt Nat _ lm t →
      Q (.ref t) { s with heap := h, toks := tk } := by
    intro t B1 B2 k1 k2 h tk fr m2 news2 Fz Nz ht hm hu hSU hfr h1 h2 hlt
    have fresh : ∀ (b : Addr) o, (b, o) ∈ news2 → @LT.lt Nat _ y b → s.heap.get? b = none := fun b o hm' hbl => by
      cases e : s.heap.get? b with
      | none => rfl
      | some o' =>
        have q := kG' b o' e (by
          simp only [List.map_cons, List.map_nil, List.mem_cons, List.not_mem_nil, or_false, not_or]
          refine ⟨neN ?_, neN ?_, neN ?_, neN ?_⟩ <;> omega)
        rw [(Nz _ hm').2.2] at q; cases q
    exact hret t lm B1 B2 k1 k2 h tk fr hSU (fun q hq => (Nz q (hfr q hq)).1) (fun b o e hn => Fz.keep b o (kG' b o e hn)) (Nz _ ht).1 (Nz _ hm).1 (Nz _ hu).1 h1 h2 (fresh _ _ ht (by omega)) (fresh _ _ hm (by omega)) ⟨ltN (by omega), ltN hlt⟩
  refine while_inv (InvU s g' L' lm x y L0 L1 o0 o1 e0 e1 xs ys) ?hE ?turn xs.length ?start
  case hE => passes_own
  case start => unfold InvU; exact ⟨xs, ys, [], vs, us, [], n, k, 0, o0, o1, _, _, _, rfl, fr_set (fr_set (fr_set F0 rfl) rfl) rfl, N0, PyProof.Rows.TI.SameUp.refl _, Fs, hxs, hys, .nil, hly, by simpa using hlx, rfl, rfl⟩
  case turn =>
    clear F0 N0 hret hxs hys Fs hf
    intro n' s' hI
    obtain ⟨xs₁, ys₁, ms, vs₁, us₁, mv, kx, ky, km, p0, p1, u, h1, tk1, rfl, F1, N1, hSU, Fs, hvs, hus, hmv, hyl, hml, hF, rfl⟩ := hI
    have hvl := hvs.length
    have hul := hus.length
    have hmvl := hmv.length
    rcases List.eq_nil_or_concat xs₁ with rfl | ⟨xs₀, e, rfl⟩
    · obtain rfl := hvs.nil_inv
      (repeat' ((fail_if_success (with_reducible show wpAny _ _ (exec (Stmt.While _ _ _ _) _) _ _ _)); first | (k_unfold; (try dsimp only)) | walk1 | (dsimp only; walk1) | (leave1; walk_say "STEP leave1"; try dsimp only) | fail "no step"))
      rw [← hF] at fin
      exact fin _ _ _ _ _ _ _ _ _ _ (by assumption) (by assumption) (by k_mem) (by k_mem) (by k_mem) hSU (List.forall_mem_cons.mpr ⟨by k_mem, List.forall_mem_cons.mpr ⟨by k_mem, List.forall_mem_nil _⟩⟩) hmv hus (by omega)
    · obtain ⟨vs₀, te, rfl, hvs₀⟩ := strs_snoc (by simpa using hvs)
      have hv0 := hvs₀.length
      have hne : (!(vs₀ ++ [Value.str e te]).toArray.isEmpty) = true := by simp
      simp only [List.concat_eq_append, List.length_append, List.length_cons, List.length_nil, List.reverse_append, List.reverse_cons, List.reverse_nil, List.nil_append, List.cons_append] at hF hml hvl
      rw [uldF] at hF
      cases hc : ys₁.contains e with
      | true =>
        rw [if_pos hc] at hF
        (repeat' ((fail_if_success (with_reducible show wpAny _ _ (exec (Stmt.While _ _ _ _) _) _ _ _)); first | (k_unfold; (try dsimp only)) | walk1 | (dsimp only; walk1) | (leave1; walk_say "STEP leave1"; try dsimp only) | fail "no step"))
        rename News _ _ _ _ => N2
        rename Fr _ _ _ _ => F2
        rename StrsAre _ (ys₁.erase e) => hS
        have hel := erase_len (ys := ys₁) (e := e)
        refine ⟨xs₀.length, by simp, ?_⟩; unfold InvU; exact ⟨xs₀, ys₁.erase e, ms, vs₀, _, mv, _, _, _, p0, p1, _, _, _, rfl, fr_set (fr_set (fr_set F2 rfl) rfl) rfl, N2, hSU, Fs, hvs₀, hS, hmv, by omega, by omega, hF, rfl⟩
      | false =>
        rw [if_neg (by rw [hc]; exact Bool.false_ne_true)] at hF
        (repeat' ((fail_if_success (with_reducible show wpAny _ _ (exec (Stmt.While _ _ _ _) _) _ _ _)); first | (k_unfold; (try dsimp only)) | walk1 | (dsimp only; walk1) | (leave1; walk_say "STEP leave1"; try dsimp only) | fail "no step"))
        rename News _ _ _ _ => N2
        rename Fr _ _ _ _ => F2
        rename SameUp [(L0, p0), (L1, p1)] _ => SU2
        rename Frs _ [(L0, p0), (L1, p1)] => Fs1
        rename Frs _ _ => Fs2
        rw [List.push_toArray] at N2
        refine ⟨xs₀.length, by simp, ?_⟩; unfold InvU; exact ⟨xs₀, ys₁, ms ++ [e], vs₀, us₁, mv ++ [_], _, _, _, _, _, _, _, _, rfl, fr_set (fr_set (fr_set F2 rfl) rfl) rfl, N2, PyProof.Rows.TI.SameUp.trans hSU SU2, Fs2, hvs₀, hus, hmv.append' (.cons e _ .nil), hyl, by simp only [List.length_append, List.length_cons, List.length_nil]; omega, hF, rfl⟩
end
section
theorem fresh_of {h g h' : Heap} {L D : Addr} {o : Obj} {news : List (Addr × Obj)} (k : Keep h g) (N : News g L h' news) (hm : (D, o) ∈ news) : h.get? D = none := by
  cases e : h.get? D with
  | none => rfl
  | some o' => have := k _ _ e; rw [(N _ hm).2.2] at this; cases this
theorem item_strs' {prog : Program} {w : World} {A : Around} {E : Value → Shared → Prop} {s : Shared} {value slice : PySem.Expr} {l : Addr} {its : Array Value} {vs : List Value} {xs : List Str} {i : Nat} {v : Int} {e : Str} {u : Tok} {Q : Value → Shared → Prop}
    (hl : s.heap.IsList l its) (hvs : its = vs.toArray) (hs : StrsAre vs xs) (hx : xs[i]? = some e) (hv : v = (i : Int)) (hi : xs.length < 2 ^ 62) (h : ∀ t, Q (.str e t) s)
    (hsl : ∀ k, subscripted slice false (.ref l) (.int k u) = operate [.ref l, .int k u] (getItem (.ref l) (.int k u))) :
    wpAny (model prog w) A (subscriptTail value slice (.ref l) (.int v u)) Q E s := by
  subst hv hvs
  refine item_strs hl hs hx ?_ h (hsl _)
  have := (List.getElem?_eq_some_iff.mp hx).1
  omega
theorem nameF_len (k : Int) : (nameF k).length ≤ 1000 := by
  unfold nameF
  repeat' split
  all_goals decide
theorem c_joined {w : World} {mean : ExcName → Option Value} {mg mb : Str → Option Value} {dp un : Nat} {gd : Option (List Code)} {fr : Option (List Env)} {s : Shared} {Q E : Value → Shared → Prop} {ua : Addr} {u0 u1 u2 u3 u4 : Nat} {r0 r1 r2 r3 r4 rt : Tok} {turn : Int} {p0 p1 p2 p3 p4 p5 q0 q1 q2 q3 q4 : Str}
    (X : (hd.heap_1 w.params).In s.heap) (T : Top hd.view_39 (looseW hd.view_39 []) mean mg mb s.heap)
    (hdp : dp + 5 < recursionLimit) (hun : un + 60 < cLine) (hu : s.heap.IsList ua #[.int ((u0 : Nat) : Int) r0, .int ((u1 : Nat) : Int) r1, .int ((u2 : Nat) : Int) r2, .int ((u3 : Nat) : Int) r3, .int ((u4 : Nat) : Int) r4]) (h0 : p0 = Str.ofString "/") (g0 : [p0][u0]? = some q0) (bd0 : q0.length ≤ 1000) (h1 : p1 = joinF q0 (nameF (0 + turn))) (g1 : [p0, p1][u1]? = some q1) (bd1 : q1.length ≤ 1000) (h2 : p2 = joinF q1 (nameF (1 + turn))) (g2 : [p0, p1, p2][u2]? = some q2) (bd2 : q2.length ≤ 1000) (h3 : p3 = joinF q2 (nameF (2 + turn))) (g3 : [p0, p1, p2, p3][u3]? = some q3) (bd3 : q3.length ≤ 1000) (h4 : p4 = joinF q3 (nameF (3 + turn))) (g4 : [p0, p1, p2, p3, p4][u4]? = some q4) (bd4 : q4.length ≤ 1000) (h5 : p5 = joinF q4 (nameF (4 + turn)))
    (hret : ∀ (D : Addr) (k : Nat) (vs : List Value) (h' : Heap) (tk' : Nat), Keep s.heap h' → (s.heap.get? D = none) → (h'.get? D = some (listOf vs.toArray k)) → (StrsAre vs [p0, p1, p2, p3, p4, p5]) → Q (.ref D) { s with heap := h', toks := tk' }) :
    wpAny (model Challenge.rw_pd0046_01.row.prog w) ({ handled := none, depth := dp, frames := fr, guards := gd, units := un } : Around) (call (.ref 150) [.ref ua, .int turn rt]) Q E s := by
  w_top off
  k_with_none
  (k_with "call builtin:issubclass" => (k_here; (with_reducible show wpAny _ _ (call (Value.builtin _) [Value.type _, Value.ref _]) _ _ _); k_dflt (refine call_isc (News.get (by k_asm) (by k_mem)) ?_)))
  (k_with "MINE strs" => first | assumption | exact StrsAre.nil | (refine' StrsAre.cons _ _ ?tl_k; (case tl_k => walk_at "MINE strs")))
  (k_with "subscriptTail Name Subscript ref int" => (k_here; (with_unfolding_all refine' item_strs' ?k1_k ?k0_k ?k2_k ?k3_k ?k5_k ?k4_k ?_ ?k6_k; (case k1_k => is_list); (case k0_k => exact rfl); (case k2_k => walk_at "MINE strs"); (case k3_k => assumption); (case k5_k => exact rfl); (case k4_k => exact Nat.le_of_ble_eq_true rfl); (case k6_k => intro _; with_unfolding_all rfl)); intro t9_k))
  (k_with "call ref" => (k_here; (with_reducible show wpAny _ _ (call (Value.ref 143) _) _ _ _); k_dflt (refine' c_law_name_N ?k1_k ?k2_k ?k3_k ?k4_k ?kd_k ?ku_k  ?_; (case k1_k => k_asm); (case k2_k => k_asm); (case k3_k => k_asm); (case k4_k => k_asm); (case kd_k => ktr_room); (case ku_k => ktr_units); k_whole); intro v09_k h9_k tk9_k hk9_k F9_k N9_k ; (try dsimp only); (try k_fold); (try k_sweep)))
  (k_with "call ref" => (k_here; (with_reducible show wpAny _ _ (call (Value.ref 129) _) _ _ _); k_dflt (refine' c_join_N ?k1_k ?k2_k ?k3_k ?k4_k ?kd_k ?ku_k ?z0_k ?z1_k ?_; (case k1_k => k_asm); (case k2_k => k_asm); (case k3_k => k_asm); (case k4_k => k_asm); (case kd_k => ktr_room); (case ku_k => ktr_units); (case z0_k => assumption); (case z1_k => exact nameF_len _); k_whole); intro v09_k h9_k tk9_k hk9_k F9_k N9_k ; (try dsimp only); (try k_fold); (try k_sweep)))
  revert X T hret
  k_fill
  intro X T hret
  ((refine wpAny_call ?_; k_dflt (refine' enter0 ?k1 ?k2 ?k6 ?k7 ?k8 ?k9 ?kB ?_ ?c2 ?c3 ?c4 ?c5; (case k1 => k_asm); (case k2 => k_asm); (case k6 => k_is); (case k7 => k_is); (case k8 => ktr_room); (case k9 => exact BindsTo.of_eq rfl); (case c5 => decide); (case kB => exact locs rfl); (case c2 => exact rfl); (case c3 => exact rfl); (case c4 => exact rfl); k_whole)))
  intro g' L' h' kG' X' T' F' N'
  (((try unfold Body); (try dsimp only); (try k_fold)))
  subst h0 h1 h2 h3 h4 h5
  have hu' : g'.IsList ua _ := (by obtain ⟨o, e, r⟩ := hu; exact ⟨o, kG' _ _ e, r⟩)
  obtain ⟨u, F'⟩ : ∃ u0 : Str → Option Value, Fr g' L' h' (fun z => if z = Str.ofString "ups" then some (.ref ua) else if z = Str.ofString "turn" then some (.int turn rt) else u0 z) := ⟨_, fr_set (fr_set F' rfl) rfl⟩
  (repeat' ((fail_if_success (with_reducible show wpAny _ _ (exec (Stmt.While _ _ _ _) _) _ _ _)); first | (k_unfold; (try dsimp only)) | walk1 | (dsimp only; walk1) | (leave1; walk_say "STEP leave1"; try dsimp only) | fail "no step"))
  refine' hret _ _ _ _ _ (fun b o e => Fr.keep (h₀ := g') (by assumption) b o (kG' b o e)) ?fa ?fb ?fc
  case fb => exact News.get (by k_asm) (by k_mem)
  case fa => exact fresh_of kG' (by k_asm) (by k_mem)
  case fc => walk_at "MINE strs"
end
section
theorem c_spelled {w : World} {mean : ExcName → Option Value} {mg mb : Str → Option Value} {dp un : Nat} {gd : Option (List Code)} {fr : Option (List Env)} {s : Shared} {Q E : Value → Shared → Prop} {ua : Addr} {u0 u1 u2 u3 u4 : Nat} {r0 r1 r2 r3 r4 rt : Tok} {turn : Int} {p0 p1 p2 p3 p4 p5 q0 q1 q2 q3 q4 : Str}
    (X : (hd.heap_1 w.params).In s.heap) (T : Top hd.view_39 (looseW hd.view_39 []) mean mg mb s.heap)
    (hdp : dp + 5 < recursionLimit) (hun : un + 60 < cLine) (hu : s.heap.IsList ua #[.int ((u0 : Nat) : Int) r0, .int ((u1 : Nat) : Int) r1, .int ((u2 : Nat) : Int) r2, .int ((u3 : Nat) : Int) r3, .int ((u4 : Nat) : Int) r4]) (h0 : p0 = Str.ofString "") (g0 : [p0][u0]? = some q0) (bd0 : q0.length ≤ 1000) (h1 : p1 = q0 ++ Str.ofString "/" ++ nameF (0 + turn)) (g1 : [p0, p1][u1]? = some q1) (bd1 : q1.length ≤ 1000) (h2 : p2 = q1 ++ Str.ofString "/" ++ nameF (1 + turn)) (g2 : [p0, p1, p2][u2]? = some q2) (bd2 : q2.length ≤ 1000) (h3 : p3 = q2 ++ Str.ofString "/" ++ nameF (2 + turn)) (g3 : [p0, p1, p2, p3][u3]? = some q3) (bd3 : q3.length ≤ 1000) (h4 : p4 = q3 ++ Str.ofString "/" ++ nameF (3 + turn)) (g4 : [p0, p1, p2, p3, p4][u4]? = some q4) (bd4 : q4.length ≤ 1000) (h5 : p5 = q4 ++ Str.ofString "/" ++ nameF (4 + turn))
    (hret : ∀ (D : Addr) (k : Nat) (vs : List Value) (h' : Heap) (tk' : Nat), Keep s.heap h' → (s.heap.get? D = none) → (h'.get? D = some (listOf vs.toArray k)) → (StrsAre vs [Str.ofString "/", p1, p2, p3, p4, p5]) → Q (.ref D) { s with heap := h', toks := tk' }) :
    wpAny (model Challenge.rw_pd0046_01.row.prog w) ({ handled := none, depth := dp, frames := fr, guards := gd, units := un } : Around) (call (.ref 157) [.ref ua, .int turn rt]) Q E s := by
  w_top off
  k_with_none
  (k_with "call builtin:issubclass" => (k_here; (with_reducible show wpAny _ _ (call (Value.builtin _) [Value.type _, Value.ref _]) _ _ _); k_dflt (refine call_isc (News.get (by k_asm) (by k_mem)) ?_)))
  (k_with "MINE strs" => first | assumption | exact StrsAre.nil | (refine' StrsAre.cons _ _ ?tl_k; (case tl_k => walk_at "MINE strs")))
  (k_with "subscriptTail Name Subscript ref int" => (k_here; (with_unfolding_all refine' item_strs' ?k1_k ?k0_k ?k2_k ?k3_k ?k5_k ?k4_k ?_ ?k6_k; (case k1_k => is_list); (case k0_k => exact rfl); (case k2_k => walk_at "MINE strs"); (case k3_k => assumption); (case k5_k => exact rfl); (case k4_k => exact Nat.le_of_ble_eq_true rfl); (case k6_k => intro _; with_unfolding_all rfl)); intro t9_k))
  (k_with "binaryOp Add str str" => (k_here; (with_reducible show wpAny _ _ (binaryOp Operator.Add (Value.str _ _) (Value.str (nameF _) _)) _ _ _); (refine' KXadd.add ?kxaa_k ?kxab_k ?kxac_k ?_; (case kxaa_k => kt_len); (case kxab_k => exact nameF_len _); (case kxac_k => exact Nat.le_of_ble_eq_true rfl)); intro _ _ _))
  (k_with "call ref" => (k_here; (with_reducible show wpAny _ _ (call (Value.ref 143) _) _ _ _); k_dflt (refine' c_law_name_N ?k1_k ?k2_k ?k3_k ?k4_k ?kd_k ?ku_k  ?_; (case k1_k => k_asm); (case k2_k => k_asm); (case k3_k => k_asm); (case k4_k => k_asm); (case kd_k => ktr_room); (case ku_k => ktr_units); k_whole); intro v09_k h9_k tk9_k hk9_k F9_k N9_k ; (try dsimp only); (try k_fold); (try k_sweep)))
  revert X T hret
  k_fill
  intro X T hret
  ((refine wpAny_call ?_; k_dflt (refine' enter0 ?k1 ?k2 ?k6 ?k7 ?k8 ?k9 ?kB ?_ ?c2 ?c3 ?c4 ?c5; (case k1 => k_asm); (case k2 => k_asm); (case k6 => k_is); (case k7 => k_is); (case k8 => ktr_room); (case k9 => exact BindsTo.of_eq rfl); (case c5 => decide); (case kB => exact locs rfl); (case c2 => exact rfl); (case c3 => exact rfl); (case c4 => exact rfl); k_whole)))
  intro g' L' h' kG' X' T' F' N'
  (((try unfold Body); (try dsimp only); (try k_fold)))
  subst h0 h1 h2 h3 h4 h5
  have hu' : g'.IsList ua _ := (by obtain ⟨o, e, r⟩ := hu; exact ⟨o, kG' _ _ e, r⟩)
  obtain ⟨u, F'⟩ : ∃ u0 : Str → Option Value, Fr g' L' h' (fun z => if z = Str.ofString "ups" then some (.ref ua) else if z = Str.ofString "turn" then some (.int turn rt) else u0 z) := ⟨_, fr_set (fr_set F' rfl) rfl⟩
  (repeat' ((fail_if_success (with_reducible show wpAny _ _ (exec (Stmt.While _ _ _ _) _) _ _ _)); first | (k_unfold; (try dsimp only)) | walk1 | (dsimp only; walk1) | (leave1; walk_say "STEP leave1"; try dsimp only) | fail "no step"))
  refine' hret _ _ _ _ _ (fun b o e => Fr.keep (h₀ := g') (by assumption) b o (kG' b o e)) ?fa ?fb ?fc
  case fb => exact News.get (by k_asm) (by k_mem)
  case fa => exact fresh_of kG' (by k_asm) (by k_mem)
  case fc => walk_at "MINE strs"
end
section
noncomputable def insF (x : Str) : List Str → List Str
  | [] => [x]
  | y :: r => if ltS y x = true then y :: insF x r else x :: y :: r
noncomputable def sortF : List Str → List Str
  | [] => []
  | x :: r => insF x (sortF r)
abbrev leS (a b : Str) : Prop := ltS b a = false
theorem leS_iff {a b : Str} : leS a b ↔ a.cps.toList ≤ b.cps.toList := by
  unfold leS ltS
  rw [decide_eq_false_iff_not, List.not_lt]
theorem leS_antisymm {a b : Str} (h : leS a b) (k : leS b a) : a = b := by
  rw [leS_iff] at h k
  have := List.le_antisymm h k
  exact Str.ext' (by rw [← Array.toArray_toList (xs := a.cps), this])
theorem insF_perm (x : Str) : ∀ l, (insF x l).Perm (x :: l)
  | [] => .refl _
  | y :: r => by
    unfold insF
    split
    · exact ((insF_perm x r).cons y).trans (.swap x y r)
    · exact .refl _
theorem sortF_perm : ∀ l, (sortF l).Perm l
  | [] => .refl _
  | x :: r => (insF_perm x _).trans ((sortF_perm r).cons x)
theorem leS_trans {a b c : Str} (h : leS a b) (k : leS b c) : leS a c := by
  rw [leS_iff] at *
  exact List.le_trans h k
theorem leS_of_lt {a b : Str} (h : ltS a b = true) : leS a b := by
  rw [leS_iff]
  unfold ltS at h
  exact List.le_of_lt (of_decide_eq_true h)
theorem insF_pw (x : Str) : ∀ l : List Str, l.Pairwise leS → (insF x l).Pairwise leS
  | [], _ => by unfold insF; exact .cons (fun _ h => nomatch h) .nil
  | y :: r, h => by
    unfold insF
    obtain ⟨h1, h2⟩ := List.pairwise_cons.mp h
    split
    · rename_i hlt
      refine List.pairwise_cons.mpr ⟨fun z hz => ?_, insF_pw x r h2⟩
      rcases List.mem_cons.mp ((insF_perm x r).mem_iff.mp hz) with rfl | hz
      · exact leS_of_lt hlt
      · exact h1 z hz
    · rename_i hlt
      have hxy : leS x y := by simpa using hlt
      refine List.pairwise_cons.mpr ⟨fun z hz => ?_, h⟩
      rcases List.mem_cons.mp hz with rfl | hz
      · exact hxy
      · exact leS_trans hxy (h1 z hz)
theorem sortF_pw : ∀ l : List Str, (sortF l).Pairwise leS
  | [] => .nil
  | x :: r => insF_pw x _ (sortF_pw r)
theorem pw_unique : ∀ {a b : List Str}, a.Perm b → a.Pairwise leS → b.Pairwise leS → a = b
  | [], b, p, _, _ => (List.nil_perm.mp p).symm
  | x :: a, [], p, _, _ => absurd (List.perm_nil.mp p) (by simp)
  | x :: a, y :: b, p, ha, hb => by
    obtain ⟨a1, a2⟩ := List.pairwise_cons.mp ha
    obtain ⟨b1, b2⟩ := List.pairwise_cons.mp hb
    have e : x = y := by
      have hx : x ∈ y :: b := p.mem_iff.mp List.mem_cons_self
      have hy : y ∈ x :: a := p.mem_iff.mpr List.mem_cons_self
      rcases List.mem_cons.mp hx with e | hx
      · exact e
      · rcases List.mem_cons.mp hy with e | hy
        · exact e.symm
        · exact leS_antisymm (a1 y hy) (b1 x hx)
    subst e
    rw [pw_unique (List.Perm.cons_inv p) a2 b2]
theorem rising_pw : ∀ (p : Str) (l : List Str), risingS p l = true → (p :: l).Pairwise leS
  | p, [], _ => .cons (fun _ h => nomatch h) .nil
  | p, x :: r, h => by
    have h' : (!Spec.ltCps x.cps.toList p.cps.toList) = true ∧ risingS x r = true := by simpa [risingS] using h
    have ih := rising_pw x r h'.2
    have hpx : leS p x := by
      have := h'.1
      rw [ltCps_eq] at this
      unfold leS ltS
      simpa using this
    refine List.pairwise_cons.mpr ⟨fun z hz => ?_, ih⟩
    rcases List.mem_cons.mp hz with rfl | hz
    · exact hpx
    · exact leS_trans hpx ((List.pairwise_cons.mp ih).1 z hz)
theorem sorted_is {a b : List Str} (p : a.Perm b) (h : sortedS a = true) : a = sortF b := by
  have pw : a.Pairwise leS := by
    cases a with
    | nil => exact .nil
    | cons x r => exact rising_pw x r h
  exact pw_unique (p.trans (sortF_perm b).symm) pw (sortF_pw b)
section
variable {prog : Program} {w : World} {A : Around} {E : Value → Shared → Prop} {s : Shared} {h₀ : Heap} {L : Addr} {m : Str → Option Value} {news : List (Addr × Obj)}
theorem sorted_K {l : Addr} {vs : List Value} {ss : List Str} {Q : Value → Shared → Prop}
    (F : Fr h₀ L s.heap m) (N : News h₀ L s.heap news) (hl : s.heap.IsList l vs.toArray) (hS : StrsAre vs ss) (h64 : vs.length < 64)
    (h : ∀ (D : Addr) (h' : Heap) (vs' : List Value) (e : Nat), Fr h₀ L h' m → News h₀ L h' ((D, listOf vs'.toArray e) :: news) → (∀ p ∈ news, p.1 < D) →
      StrsAre vs' (sortF ss) → Q (.ref D) { s with heap := h' }) :
    wpAny (model prog w) A (call (.builtin "sorted") [.ref l]) Q E s := by
  refine sorted_N_str F N hl hS h64 fun h' vs' ss' e F' N' hS' hp hs => ?_
  obtain rfl := sorted_is hp hs
  exact h _ h' vs' e F' N' (fun p hp => Nat.lt_succ_of_lt (Heap.lt_size (N p hp).1)) hS'
end
-- a list comprehension whose turns leave the ledger as it was
open PyProof.Rows.LCg (NsObj lst Off3 CompEnd CompRest SrcAt)
open PyProof.Rows.LCt (CompRestT)
section
variable {prog : Program} {w : World} {A : Around} {s : Shared} {h₀ : Heap} {L : Addr} {m : Str → Option Value} {env : Env} {elt ct : PySem.Expr} {x : Str} {scope : Scope} {cl : List (Str × Addr)} {news : List (Addr × Obj)}
  {S : List (Addr × Obj) → Prop} {P : Nat → Value → Prop} {Fin : List Value → List (Addr × Obj) → Prop}
theorem compEnd_same {I C D : Addr} {oI oC oD : Obj} {h h' : Heap} {tk tk' : Nat} {rest : Value → List (Addr × Obj) → Prop} {y : Value}
    (F : Fr h₀ L h m) (N : News h₀ L h ((I, oI) :: (C, oC) :: (D, oD) :: news)) (off : Off3 I C D news) (hS : S news) (k : Keep h h') (r : rest y news) :
    CompEnd h₀ L m { s with heap := h, toks := tk } I oI C oC D oD S rest y { s with heap := h', toks := tk' } :=
  ⟨h', tk', news, rfl, F.keeps k, N.grown k, off, hS, r⟩
theorem rest_map {α β : Type} (xs : List α) (f : α → β) (Y : List Value → List β → Prop) (hS : S news) (hY : Y [] [])
    (step : ∀ i a v ys bs I oI C oC D m₂ h tk E', xs[i]? = some a → P i v → Y ys bs → NsObj oC m₂ → m₂ x = some v → Fr h₀ L h m → News h₀ L h ((I, oI) :: (C, oC) :: (D, lst ys) :: news) →
      Off3 I C D news → ((@Ne Nat I C) ∧ (@Ne Nat I D) ∧ (@Ne Nat C D)) → ∀ Q' : Value → Shared → Prop, (∀ y h' tk', Keep h h' → Y (ys ++ [y]) (bs ++ [f a]) → Q' y { s with heap := h', toks := tk' }) →
      wpAny (model prog w) A (eval elt (compEnvC scope cl C env)) Q' E' { s with heap := h, toks := tk })
    (fin : ∀ us, Y us (xs.map f) → Fin us news) :
    ∀ k i ys, k + i = xs.length → Y ys ((xs.take i).map f) → CompRest prog w A h₀ L m env elt x scope cl s S P Fin k i ys news
  | 0, i, ys, hk, hy => fin ys (by rw [List.take_of_length_le (by omega)] at hy; exact hy)
  | k + 1, i, ys, hk, hy => by
    intro v I oI C oC D m₂ h tk E' hP hC hx F N off ne
    have hi : i < xs.length := by omega
    refine step i xs[i] v ys _ I oI C oC D m₂ h tk E' (List.getElem?_eq_getElem hi) hP hy hC hx F N off ne _ fun y h' tk' kk hY' => ?_
    refine compEnd_same F N off hS kk (rest_map xs f Y hS hY step fin k (i + 1) _ (by omega) ?_)
    rw [List.take_succ_eq_append_getElem hi, List.map_append]
    exact hY'
theorem rest_filter {α β : Type} (xs : List α) (p : α → Bool) (f : α → β) (Y : List Value → List β → Prop) (hS : S news) (hY : Y [] [])
    (test : ∀ i a v ys bs I oI C oC D m₂ h tk E', xs[i]? = some a → P i v → Y ys bs → NsObj oC m₂ → m₂ x = some v → Fr h₀ L h m → News h₀ L h ((I, oI) :: (C, oC) :: (D, lst ys) :: news) →
      Off3 I C D news → ((@Ne Nat I C) ∧ (@Ne Nat I D) ∧ (@Ne Nat C D)) → ∀ Q' : Bool → Shared → Prop, (∀ h' tk', Keep h h' → Q' (p a) { s with heap := h', toks := tk' }) →
      wpAny (model prog w) A (isTrue ct (compEnvC scope cl C env) (eval ct (compEnvC scope cl C env))) Q' E' { s with heap := h, toks := tk })
    (step : ∀ i a v ys bs I oI C oC D m₂ h tk E', xs[i]? = some a → p a = true → P i v → Y ys bs → NsObj oC m₂ → m₂ x = some v → Fr h₀ L h m → News h₀ L h ((I, oI) :: (C, oC) :: (D, lst ys) :: news) →
      Off3 I C D news → ((@Ne Nat I C) ∧ (@Ne Nat I D) ∧ (@Ne Nat C D)) → ∀ Q' : Value → Shared → Prop, (∀ y h' tk', Keep h h' → Y (ys ++ [y]) (bs ++ [f a]) → Q' y { s with heap := h', toks := tk' }) →
      wpAny (model prog w) A (eval elt (compEnvC scope cl C env)) Q' E' { s with heap := h, toks := tk })
    (fin : ∀ us, Y us ((xs.filter p).map f) → Fin us news) :
    ∀ k i ys, k + i = xs.length → Y ys (((xs.take i).filter p).map f) → CompRestT prog w A h₀ L m env ct elt x scope cl s S P Fin k i ys news
  | 0, i, ys, hk, hy => fin ys (by rw [List.take_of_length_le (by omega)] at hy; exact hy)
  | k + 1, i, ys, hk, hy => by
    intro v I oI C oC D m₂ h tk E' hP hC hx F N off ne
    have hi : i < xs.length := by omega
    refine test i xs[i] v ys _ I oI C oC D m₂ h tk E' (List.getElem?_eq_getElem hi) hP hy hC hx F N off ne _ fun h' tk' kk => ?_
    cases hp : p xs[i] with
    | true =>
      rw [if_pos rfl]
      refine step i xs[i] v ys _ I oI C oC D m₂ h' tk' E' (List.getElem?_eq_getElem hi) hp hP hy hC hx (F.keeps kk) (N.grown kk) off ne _ fun y h'' tk'' kk' hY' => ?_
      refine compEnd_same F N off hS (fun b o e => kk' b o (kk b o e)) (rest_filter xs p f Y hS hY test step fin k (i + 1) _ (by omega) ?_)
      rw [List.take_succ_eq_append_getElem hi, List.filter_append, List.map_append, List.filter_cons_of_pos hp]
      exact hY'
    | false =>
      rw [if_neg Bool.false_ne_true]
      refine compEnd_same F N off hS kk (rest_filter xs p f Y hS hY test step fin k (i + 1) _ (by omega) ?_)
      rw [List.take_succ_eq_append_getElem hi, List.filter_append, List.map_append, List.filter_cons_of_neg (by rw [hp]; exact Bool.false_ne_true)]
      simpa using hy
/-- the two rules for a list of texts -/
theorem map_strs {vs : List Value} {xs : List Str} (hs : StrsAre vs xs) (f : Str → Str) (hS : S news)
    (step : ∀ a t ys I oI C oC D m₂ h tk E', a ∈ xs → NsObj oC m₂ → m₂ x = some (.str a t) → Fr h₀ L h m → News h₀ L h ((I, oI) :: (C, oC) :: (D, lst ys) :: news) →
      Off3 I C D news → ((@Ne Nat I C) ∧ (@Ne Nat I D) ∧ (@Ne Nat C D)) → ∀ Q' : Value → Shared → Prop, (∀ t' h' tk', Keep h h' → Q' (.str (f a) t') { s with heap := h', toks := tk' }) →
      wpAny (model prog w) A (eval elt (compEnvC scope cl C env)) Q' E' { s with heap := h, toks := tk })
    (fin : ∀ us, StrsAre us (xs.map f) → Fin us news) :
    CompRest prog w A h₀ L m env elt x scope cl s S (fun i v => vs.toArray[i]? = some v) Fin vs.toArray.size 0 [] news := by
  refine rest_map xs f StrsAre hS .nil ?_ fin _ 0 [] (by simpa using hs.length) (by simpa using StrsAre.nil)
  intro i a v ys bs I oI C oC D m₂ h tk E' ha hv hy hC hx F N off ne Q' hQ'
  obtain ⟨t, ht⟩ := hs.get i a ha
  have e : v = .str a t := by
    rw [List.getElem?_toArray, ht] at hv
    exact (Option.some.inj hv).symm
  subst e
  exact step a t ys I oI C oC D m₂ h tk E' (List.mem_of_getElem? ha) hC hx F N off ne Q' fun t' h' tk' k => hQ' _ h' tk' k (hy.append' (.cons _ _ .nil))
theorem filter_strs {vs : List Value} {xs : List Str} (hs : StrsAre vs xs) (p : Str → Bool) (hS : S news)
    (test : ∀ a t ys I oI C oC D m₂ h tk E', a ∈ xs → NsObj oC m₂ → m₂ x = some (.str a t) → Fr h₀ L h m → News h₀ L h ((I, oI) :: (C, oC) :: (D, lst ys) :: news) →
      Off3 I C D news → ((@Ne Nat I C) ∧ (@Ne Nat I D) ∧ (@Ne Nat C D)) → ∀ Q' : Bool → Shared → Prop, (∀ h' tk', Keep h h' → Q' (p a) { s with heap := h', toks := tk' }) →
      wpAny (model prog w) A (isTrue ct (compEnvC scope cl C env) (eval ct (compEnvC scope cl C env))) Q' E' { s with heap := h, toks := tk })
    (step : ∀ a t ys I oI C oC D m₂ h tk E', a ∈ xs → p a = true → NsObj oC m₂ → m₂ x = some (.str a t) → Fr h₀ L h m → News h₀ L h ((I, oI) :: (C, oC) :: (D, lst ys) :: news) →
      Off3 I C D news → ((@Ne Nat I C) ∧ (@Ne Nat I D) ∧ (@Ne Nat C D)) → ∀ Q' : Value → Shared → Prop, (∀ t' h' tk', Keep h h' → Q' (.str a t') { s with heap := h', toks := tk' }) →
      wpAny (model prog w) A (eval elt (compEnvC scope cl C env)) Q' E' { s with heap := h, toks := tk })
    (fin : ∀ us, StrsAre us (xs.filter p) → Fin us news) :
    CompRestT prog w A h₀ L m env ct elt x scope cl s S (fun i v => vs.toArray[i]? = some v) Fin vs.toArray.size 0 [] news := by
  have get : ∀ i a v, xs[i]? = some a → vs.toArray[i]? = some v → ∃ t, v = Value.str a t := fun i a v ha hv => by
    obtain ⟨t, ht⟩ := hs.get i a ha
    refine ⟨t, ?_⟩
    rw [List.getElem?_toArray, ht] at hv
    exact (Option.some.inj hv).symm
  refine rest_filter xs p id StrsAre hS .nil ?_ ?_ (by simpa using fin) _ 0 [] (by simpa using hs.length) (by simpa using StrsAre.nil)
  · intro i a v ys bs I oI C oC D m₂ h tk E' ha hv hy hC hx F N off ne Q' hQ'
    obtain ⟨t, rfl⟩ := get i a v ha hv
    exact test a t ys I oI C oC D m₂ h tk E' (List.mem_of_getElem? ha) hC hx F N off ne Q' hQ'
  · intro i a v ys bs I oI C oC D m₂ h tk E' ha hp hv hy hC hx F N off ne Q' hQ'
    obtain ⟨t, rfl⟩ := get i a v ha hv
    exact step a t ys I oI C oC D m₂ h tk E' (List.mem_of_getElem? ha) hp hC hx F N off ne Q' fun t' h' tk' k => hQ' _ h' tk' k (hy.append' (.cons _ _ .nil))
end
end
section
theorem sortF_len (l : List Str) : (sortF l).length = l.length := (sortF_perm l).length_eq
theorem qb {Q : Bool → Shared → Prop} {b c : Bool} {s : Shared} (h : Q b s) (e : b = c) : Q c s := e ▸ h
theorem both_tt {p q : Bool} (h : p = true) (k : q = true) : (p && !q) = false := by rw [h, k]; rfl
theorem both_tf {p q : Bool} (h : p = true) (k : q = false) : (p && !q) = true := by rw [h, k]; rfl
theorem first0 {p q : Bool} (h : p = false) : (p && !q) = false := by rw [h]; rfl
noncomputable def oversF (rs : List Str) : List Str := rs.map dirnameF
noncomputable def leavesF (rs : List Str) : List Str := rs.filter fun p => !((oversF rs).any (· == p))
noncomputable def headsF (rs ps : List Str) : List Str := (sortF ps).filter fun p => (oversF rs).any (· == p) && !(rs.any (· == p))
noncomputable def toldD (lv hd : List Str) : PyData := .list [.tuple [.list (lv.map .str), .list (hd.map .str)], .tuple [.list (hd.map .str), .list (lv.map .str)]]
theorem strs_read {h : Heap} {a : Addr} {us : List Value} {n : Nat} {xs : List Str} (e : h.get? a = some (listOf us.toArray n)) (hs : StrsAre us xs) : Reads h (.ref a) (.list (xs.map .str)) (a :: []) :=
  .list e rfl rfl (by simpa using hs.reads h)
theorem pair_read {h : Heap} {t a b : Addr} {n : Nat} {da db : PyData} {as bs : List Addr} (e : h.get? t = some ({ cls := .type "tuple", data := .seq #[.ref a, .ref b] n } : Obj)) (ha : Reads h (.ref a) da as) (hb : Reads h (.ref b) db bs) :
    Reads h (.ref t) (.tuple [da, db]) (as ++ (bs ++ [])) := .tuple e rfl rfl (.cons ha (.cons hb .nil))
theorem two_read {h : Heap} {t a b : Addr} {n : Nat} {da db : PyData} {as bs : List Addr} (e : h.get? t = some (listOf #[.ref a, .ref b] n)) (ha : Reads h (.ref a) da as) (hb : Reads h (.ref b) db bs) :
    Reads h (.ref t) (.list [da, db]) (t :: (as ++ (bs ++ []))) := .list e rfl rfl (.cons ha (.cons hb .nil))
theorem c_told {w : World} {mean : ExcName → Option Value} {mg mb : Str → Option Value} {dp un : Nat} {gd : Option (List Code)} {fr : Option (List Env)} {s : Shared} {Q E : Value → Shared → Prop} {ra pa : Addr} {rv pv : List Value} {rs ps : List Str}
    (X : (hd.heap_1 w.params).In s.heap) (T : Top hd.view_39 (looseW hd.view_39 []) mean mg mb s.heap)
    (hdp : dp + 5 < recursionLimit) (hun : un + 60 < cLine) (hr : s.heap.IsList ra rv.toArray) (hp : s.heap.IsList pa pv.toArray) (hrs : StrsAre rv rs) (hps : StrsAre pv ps) (hlr : rs.length ≤ 60) (hlp : ps.length ≤ 60) (hln : ∀ x ∈ rs, x.length ≤ 1000)
    (hret : ∀ (D : Addr) (as : List Addr) (h' : Heap) (tk' : Nat), Keep s.heap h' → (s.heap.get? D = none) → (Reads h' (.ref D) (toldD (leavesF rs) (headsF rs ps)) as) → Q (.ref D) { s with heap := h', toks := tk' }) :
    wpAny (model Challenge.rw_pd0046_01.row.prog w) ({ handled := none, depth := dp, frames := fr, guards := gd, units := un } : Around) (call (.ref 167) [.ref ra, .ref pa]) Q E s := by
  w_top off
  k_with_none
  (k_with "call builtin:issubclass" => (k_here; (with_reducible show wpAny _ _ (call (Value.builtin _) [Value.type _, Value.ref _]) _ _ _); k_dflt (refine call_isc (News.get (by k_asm) (by k_mem)) ?_)))
  (k_with "MINE size" => (simp only [sizeLine_eq, List.size_toArray, List.length_append, List.length_cons, List.length_nil]; omega))
  (k_with "CompSrc" => (k_here; k_dflt (first
  | (refine LCg.CompSrc.ledger (by rfl) (by k_asm) (by k_asm) (by k_mem) (by walk_at "MINE size") ?_; intro g9_k)
  | (refine LCg.CompSrc.base (by rfl) (by k_asm) (by k_asm) (by assumption) (by walk_at "MINE size") ?_; intro g9_k))))
  (k_with "CompSrcT" => (k_here; k_dflt (first
  | (refine LCt.CompSrcT.ledger (by rfl) (by k_asm) (by k_asm) (by k_mem) (by walk_at "MINE size") ?_; intro g9_k)
  | (refine LCt.CompSrcT.base (by rfl) (by k_asm) (by k_asm) (by assumption) (by walk_at "MINE size") ?_; intro g9_k))))
  (k_with "call builtin:sorted" => (k_here; (with_reducible show wpAny _ _ (call (Value.builtin _) [Value.ref _]) _ _ _); k_dflt (refine' sorted_K ?k1_k ?k2_k ?k3_k ?k4_k ?k5_k ?_; (case k1_k => k_asm); (case k2_k => k_asm); (case k3_k => is_list); (case k4_k => assumption); (case k5_k => omega)); intro D9_k h9_k vs9_k e9_k F9_k N9_k l1_k hS9_k; (have hL9_k := StrsAre.length hS9_k); (rw [sortF_len] at hL9_k); (try k_lt l1_k); (try k_sweep)))
  (k_with "call ref" => (k_here; (with_reducible show wpAny _ _ (call (Value.ref 136) _) _ _ _); k_dflt (refine' c_dirname_N ?k1_k ?k2_k ?k3_k ?k4_k ?kd_k ?ku_k ?z0_k ?_; (case k1_k => k_asm); (case k2_k => k_asm); (case k3_k => k_asm); (case k4_k => k_asm); (case kd_k => ktr_room); (case ku_k => ktr_units); (case z0_k => assumption); k_whole); intro v09_k h9_k tk9_k hk9_k F9_k N9_k ; (try dsimp only); (try k_fold); (try k_sweep)))
  revert X T hret
  k_fill
  intro X T hret
  ((refine wpAny_call ?_; k_dflt (refine' enter0_cells ?k1 ?k2 ?k6 ?k7 ?k8 ?k9 ?kB ?kD ?_ ?c2 ?c3 ?c4; (case k1 => k_asm); (case k2 => k_asm); (case k6 => k_is); (case k7 => k_is); (case k8 => ktr_room); (case k9 => exact BindsTo.of_eq rfl); (case kB => exact rfl); (case kD => decide +kernel); (case c2 => exact rfl); (case c3 => exact rfl); (case c4 => exact rfl); k_whole)))
  intro g' L' h' tk' cells' kG' X' T' F' N' C'
  k_cells C'
  (try simp only [List.cons_append, List.nil_append] at N')
  (((try unfold Body); (try dsimp only); (try k_fold)))
  have hr' : g'.IsList ra rv.toArray := (by obtain ⟨o, e, r⟩ := hr; exact ⟨o, kG' _ _ e, r⟩)
  have hp' : g'.IsList pa pv.toArray := (by obtain ⟨o, e, r⟩ := hp; exact ⟨o, kG' _ _ e, r⟩)
  have hrl := hrs.length
  have hpl := hps.length
  (repeat' ((fail_if_success (with_reducible show wpAny _ _ (exec (Stmt.While _ _ _ _) _) _ _ _)); first | (k_unfold; (try dsimp only)) | walk1 | (dsimp only; walk1) | (leave1; walk_say "STEP leave1"; try dsimp only) | fail "no step"))
  refine map_strs hrs dirnameF ?hS ?step ?fin
  case hS => lcg_src
  case step =>
    intro a9 t9 ys9 I9 oI9 C9 oC9 D9 m9 h9 tk9 E9 ha9 hC9 hx9 F9 N9 off9 ne9 Q9 hQ9
    have hal9 := hln a9 ha9
    (try simp only [LCg.Off3, and_true] at off9)
    (repeat' ((fail_if_success (with_reducible show wpAny _ _ (exec (Stmt.While _ _ _ _) _) _ _ _)); first | (k_unfold; (try dsimp only)) | walk1 | (dsimp only; walk1) | (leave1; walk_say "STEP leave1"; try dsimp only) | fail "no step"))
    first | exact hQ9 _ _ _ (by assumption) | exact hQ9 _ _ _ (fun _ _ e => e)
  case fin =>
    intro us hus
    have hul := hus.length
    rw [List.length_map] at hul
    (repeat' ((fail_if_success (with_reducible show wpAny _ _ (exec (Stmt.While _ _ _ _) _) _ _ _)); first | (k_unfold; (try dsimp only)) | walk1 | (dsimp only; walk1) | (leave1; walk_say "STEP leave1"; try dsimp only) | fail "no step"))
    refine filter_strs hrs (fun p => !((oversF rs).any (· == p))) ?hS ?test ?step ?fin
    case hS => lcg_src
    case test =>
      intro a9 t9 ys9 I9 oI9 C9 oC9 D9 m9 h9 tk9 E9 ha9 hC9 hx9 F9 N9 off9 ne9 Q9 hQ9
      (try simp only [LCg.Off3, and_true] at off9)
      (repeat' ((fail_if_success (with_reducible show wpAny _ _ (exec (Stmt.While _ _ _ _) _) _ _ _)); first | (k_unfold; (try dsimp only)) | walk1 | (dsimp only; walk1) | (leave1; walk_say "STEP leave1"; try dsimp only) | fail "no step"))
      first | exact hQ9 _ _ (by assumption) | exact hQ9 _ _ (fun _ _ e => e)
    case step =>
      intro a9 t9 ys9 I9 oI9 C9 oC9 D9 m9 h9 tk9 E9 ha9 hp9 hC9 hx9 F9 N9 off9 ne9 Q9 hQ9
      (try simp only [LCg.Off3, and_true] at off9)
      (repeat' ((fail_if_success (with_reducible show wpAny _ _ (exec (Stmt.While _ _ _ _) _) _ _ _)); first | (k_unfold; (try dsimp only)) | walk1 | (dsimp only; walk1) | (leave1; walk_say "STEP leave1"; try dsimp only) | fail "no step"))
      exact hQ9 _ _ _ (fun _ _ e => e)
    case fin =>
      intro us2 hus2
      have hul2 := hus2.length
      (repeat' ((fail_if_success (with_reducible show wpAny _ _ (exec (Stmt.Assign _ (Expr.ListComp _ _ _ _) _) _) _ _ _)); first | (k_unfold; (try dsimp only)) | walk1 | (dsimp only; walk1) | (leave1; walk_say "STEP leave1"; try dsimp only) | fail "no step"))
      k_dflt (refine LCt.Assign_ListComp_T (F₀ := by k_asm) (by rfl) (by with_unfolding_all rfl) (by with_unfolding_all rfl) (by decide) (by rfl) (by decide) (by rfl) (by rfl) (by rfl) ?_)
      (repeat' ((fail_if_success (with_reducible show wpAny _ _ (exec (Stmt.Assign _ (Expr.ListComp _ _ _ _) _) _) _ _ _)); first | (k_unfold; (try dsimp only)) | walk1 | (dsimp only; walk1) | (leave1; walk_say "STEP leave1"; try dsimp only) | fail "no step"))
      rename StrsAre _ (sortF ps) => hso
      refine filter_strs hso (fun p => (oversF rs).any (· == p) && !(rs.any (· == p))) ?hS ?test ?step ?fin
      case hS => lcg_src
      case test =>
        intro a9 t9 ys9 I9 oI9 C9 oC9 D9 m9 h9 tk9 E9 ha9 hC9 hx9 F9 N9 off9 ne9 Q9 hQ9
        (try simp only [LCg.Off3, and_true] at off9)
        (repeat' ((fail_if_success (with_reducible show wpAny _ _ (exec (Stmt.Assign _ (Expr.ListComp _ _ _ _) _) _) _ _ _)); first | (k_unfold; (try dsimp only)) | walk1 | (dsimp only; walk1) | (leave1; walk_say "STEP leave1"; try dsimp only) | fail "no step"))
        all_goals (refine qb (hQ9 _ _ (fun _ _ e => e)) ?_)
        all_goals first | exact both_tt (by assumption) (by assumption) | exact both_tf (by assumption) (by assumption) | exact first0 (by assumption)
      case step =>
        intro a9 t9 ys9 I9 oI9 C9 oC9 D9 m9 h9 tk9 E9 ha9 hp9 hC9 hx9 F9 N9 off9 ne9 Q9 hQ9
        (try simp only [LCg.Off3, and_true] at off9)
        (repeat' ((fail_if_success (with_reducible show wpAny _ _ (exec (Stmt.Assign _ (Expr.ListComp _ _ _ _) _) _) _ _ _)); first | (k_unfold; (try dsimp only)) | walk1 | (dsimp only; walk1) | (leave1; walk_say "STEP leave1"; try dsimp only) | fail "no step"))
        exact hQ9 _ _ _ (fun _ _ e => e)
      case fin =>
        intro us3 hus3
        (repeat' ((fail_if_success (with_reducible show wpAny _ _ (exec (Stmt.Assign _ (Expr.ListComp _ _ _ _) _) _) _ _ _)); first | (k_unfold; (try dsimp only)) | walk1 | (dsimp only; walk1) | (leave1; walk_say "STEP leave1"; try dsimp only) | fail "no step"))
        rename News _ _ _ _ => Nz
        have z := fun (p : Addr × Obj) (hp : p ∈ _) => (Nz p hp).1
        exact hret _ _ _ _ (fun b o e => Fr.keep (h₀ := g') (by assumption) b o (kG' b o e)) (fresh_of kG' Nz (by k_mem))
          (two_read (z (_, listOf #[_, _] _) (by k_mem)) (pair_read (z (_, _) (by k_mem)) (strs_read (z (_, listOf us2.toArray _) (by k_mem)) hus2) (strs_read (z (_, listOf us3.toArray _) (by k_mem)) hus3))
            (pair_read (z (_, _) (by k_mem)) (strs_read (z (_, listOf us3.toArray _) (by k_mem)) hus3) (strs_read (z (_, listOf us2.toArray _) (by k_mem)) hus2)))
end
section
section
variable {prog : Program} {w : World} {A : Around} {E : Value → Shared → Prop} {s : Shared} {env : Env} {h₀ : Heap} {x : Str} {px : Pos} {body : List Stmt} {Q : Flow → Shared → Prop}
/-- a range is at hand, and what each turn does -/
noncomputable def ForR (prog : Program) (w : World) (A : Around) (h₀ : Heap) (env : Env) (x : Str) (px : Pos) (body : List Stmt) (Q : Flow → Shared → Prop) (E : Value → Shared → Prop) (xv : Value) (s₁ : Shared) : Prop :=
  ∃ (r : Addr) (t u v : Tok) (n : Nat) (m : Str → Option Value) (news : List (Addr × Obj)) (J : Nat → (Str → Option Value) → List (Addr × Obj) → Prop),
    xv = .ref r ∧ A.handled = none ∧ IsRange s₁.heap r 0 (n : Int) 1 t u v ∧ Builtin.Range.small 0 (n : Int) 1 = true ∧ Builtin.Range.rangeSize 0 (n : Int) 1 = (n : Int) ∧ Fr h₀ env.locals s₁.heap m ∧ News h₀ env.locals s₁.heap news ∧ J 0 m news ∧
    (∀ i t I oI m₁ news₁ h₁ tk₁, i < n → J i m₁ news₁ → (∀ p ∈ news₁, @Ne Nat p.1 I) → Fr h₀ env.locals h₁ m₁ → News h₀ env.locals h₁ ((I, oI) :: news₁) →
      wpAny (model prog w) A (assign (.Name x px) env (.int (i : Int) t)) (fun _ s₃ => wpAny (model prog w) A (execs body env)
        (UnrPost h₀ env.locals { s₁ with heap := h₁, toks := tk₁ } I oI (J (i + 1)) Q) E s₃) E { s₁ with heap := h₁, toks := tk₁ }) ∧
    ∀ h' tk m' news', Fr h₀ env.locals h' m' → News h₀ env.locals h' news' → J n m' news' → Q .next { s₁ with heap := h', toks := tk }
theorem for_range {iter : PySem.Expr} {pos : Pos} {m : Str → Option Value} (F : Fr h₀ env.locals s.heap m)
    (h : wpAny (model prog w) A (eval iter env) (ForR prog w A h₀ env x px body Q E) E s)
    (hs : ∀ x, foldedSetIterable iter env x = pure x := by intro _; rfl)
    (hE : PassesOwn (model prog w) A env E := by passes_own) :
    wpAny (model prog w) A (exec (.For (.Name x px) iter body [] pos) env) Q E s := by
  refine For_turns F (wpAny_mono h (fun xv s₁ h₁ => ?_) fun _ _ e => e) hs hE
  obtain ⟨r, t, u, v, n, m, news, J, rfl, hh, hr, hsm, hn, F, N, h0, step, fin⟩ := h₁
  refine wpAny_pyIter_range hr hsm ?_
  have up : ∀ b o, s₁.heap.get? b = some o → (s₁.heap.push { cls := .type "range_iterator", data := .fields #[rawInt 0, rawInt (Builtin.Range.rangeSize 0 (n : Int) 1), rawInt 1] }).get? b = some o := fun b o e => Heap.get?_push_of_some _ e
  refine ⟨s₁.heap.objs.size, [s₁.heap.objs.size], [s₁.heap.objs.size], n, _, _, _, m, news, J, rfl, KTurns.ofWalks (LCg.range_walks hh 0 n) fun i v s Q E st q => wpAny_pure q, ?_, ?_, ?_, ?_, F.keeps up, N.grown up, h0, ?_, ?_⟩
  · exact fun hm => Nat.ne_of_lt F.ns.lt (List.mem_singleton.mp hm)
  · intro b hb; rw [List.mem_singleton.mp hb]; exact next_is_new F
  · exact fun p hp hm => Nat.ne_of_lt (Heap.lt_size (N p hp).1) (List.mem_singleton.mp hm)
  · show IsRangeIter _ _ _ _ _; rw [hn]; simpa using Heap.get?_push_size _ rfl
  · intro i v m₁ news₁ h₁ tk₁ own hi hP hJ hoff hsub hown hall hst F₁ N₁
    obtain ⟨t', rfl⟩ := hP
    obtain ⟨oI, eI⟩ : ∃ o, h₁.get? s₁.heap.objs.size = some o := ⟨_, hst⟩
    have hI₀ : h₀.get? s₁.heap.objs.size = none := next_is_new F
    have hIo : (s₁.heap.objs.size, oI) ∈ own := hall _ (List.mem_singleton.mpr rfl) hI₀ oI eI
    have is : ∀ p ∈ own, p = (s₁.heap.objs.size, oI) := fun p hp => by
      have e1 := List.mem_singleton.mp (hsub p hp)
      have e2 := hown p hp
      rw [e1, eI] at e2
      exact Prod.ext e1 (Option.some.inj e2).symm
    rw [Int.zero_add]
    refine wpAny_mono (step i t' s₁.heap.objs.size oI m₁ news₁ h₁ tk₁ hi hJ (fun p hp e => hoff p hp (List.mem_singleton.mpr e)) F₁ (fun p hp => ?_)) (fun _ s₃ h₃ => wpAny_mono h₃ (fun f s₄ h₄ => ?_) fun _ _ e => e) fun _ _ e => e
    · rcases List.mem_cons.mp hp with rfl | hp
      · exact N₁ _ (List.mem_append_left _ hIo)
      · exact N₁ p (List.mem_append_right _ hp)
    · have conv : UnrEnd h₀ env.locals { s₁ with heap := h₁, toks := tk₁ } s₁.heap.objs.size oI (J (i + 1)) s₄ →
          LoopStepU h₀ env.locals [s₁.heap.objs.size] own (J (i + 1)) { s₁ with heap := h₁, toks := tk₁ } .next s₄ := by
        rintro ⟨h', tk, m', news', rfl, F', N', off', hJ'⟩
        refine ⟨rfl, h', tk, m', news', rfl, F', fun p hp => ?_, fun p hp hm => off' p hp (List.mem_singleton.mp hm), hJ'⟩
        rcases List.mem_append.mp hp with hp | hp
        · rw [is p hp]; exact N' _ List.mem_cons_self
        · exact N' p (List.mem_cons_of_mem _ hp)
      cases f with
      | ret v => exact h₄
      | brk => exact h₄
      | cont => exact conv h₄
      | next => exact conv h₄
  · intro h' tk m' news' F' N' _ hJ
    exact fin h' tk m' news' F' N' hJ
end
end
section
open PyProof.Rows.LCg (NsObj lst Off3 CompEnd CompRest SrcAt)
open PyProof.Rows.LCt (CompRestT)
section
variable {prog : Program} {w : World} {A : Around} {s : Shared} {h₀ : Heap} {L : Addr} {m : Str → Option Value} {env : Env} {elt ct : PySem.Expr} {x : Str} {scope : Scope} {cl : List (Str × Addr)} {news : List (Addr × Obj)}
  {S : List (Addr × Obj) → Prop} {Fin : List Value → List (Addr × Obj) → Prop}
theorem filter_range {n : Nat} (p : Nat → Bool) (hS : S news)
    (test : ∀ i t ys I oI C oC D m₂ h tk E', i < n → NsObj oC m₂ → m₂ x = some (.int (i : Int) t) → Fr h₀ L h m → News h₀ L h ((I, oI) :: (C, oC) :: (D, lst ys) :: news) →
      Off3 I C D news → ((@Ne Nat I C) ∧ (@Ne Nat I D) ∧ (@Ne Nat C D)) → ∀ Q' : Bool → Shared → Prop, (∀ h' tk', Keep h h' → Q' (p i) { s with heap := h', toks := tk' }) →
      wpAny (model prog w) A (isTrue ct (compEnvC scope cl C env) (eval ct (compEnvC scope cl C env))) Q' E' { s with heap := h, toks := tk })
    (step : ∀ i t ys I oI C oC D m₂ h tk E', i < n → p i = true → NsObj oC m₂ → m₂ x = some (.int (i : Int) t) → Fr h₀ L h m → News h₀ L h ((I, oI) :: (C, oC) :: (D, lst ys) :: news) →
      Off3 I C D news → ((@Ne Nat I C) ∧ (@Ne Nat I D) ∧ (@Ne Nat C D)) → ∀ Q' : Value → Shared → Prop, (∀ t' h' tk', Keep h h' → Q' (.int (i : Int) t') { s with heap := h', toks := tk' }) →
      wpAny (model prog w) A (eval elt (compEnvC scope cl C env)) Q' E' { s with heap := h, toks := tk })
    (fin : ∀ us, IntsAre us (((List.range n).filter p).map fun i => Int.ofNat i) → Fin us news) :
    CompRestT prog w A h₀ L m env ct elt x scope cl s S (fun i v => ∃ t, v = .int ((0 : Int) + (i : Int)) t) Fin n 0 [] news := by
  have at' : ∀ i a, (List.range n)[i]? = some a → a = i ∧ i < n := fun i a ha => by
    obtain ⟨h1, h2⟩ := List.getElem?_eq_some_iff.mp ha
    rw [List.getElem_range] at h2
    exact ⟨h2.symm, by simpa using h1⟩
  refine rest_filter (List.range n) p (fun i => Int.ofNat i) IntsAre hS .nil ?_ ?_ fin _ 0 [] (by simp) (by simpa using IntsAre.nil)
  · intro i a v ys bs I oI C oC D m₂ h tk E' ha hv hy hC hx F N off ne Q' hQ'
    obtain ⟨t, rfl⟩ := hv
    obtain ⟨rfl, hi⟩ := at' i a ha
    rw [Int.zero_add] at hx
    exact test a t ys I oI C oC D m₂ h tk E' hi hC hx F N off ne Q' hQ'
  · intro i a v ys bs I oI C oC D m₂ h tk E' ha hp hv hy hC hx F N off ne Q' hQ'
    obtain ⟨t, rfl⟩ := hv
    obtain ⟨rfl, hi⟩ := at' i a ha
    rw [Int.zero_add] at hx
    exact step a t ys I oI C oC D m₂ h tk E' hi hp hC hx F N off ne Q' fun t' h' tk' k => hQ' _ h' tk' k (hy.append (.cons _ _ .nil))
end
end
section
noncomputable def inMask (mask p : Nat) : Bool := ((mask : Int).fdiv ((2 : Int) ^ p)).fmod 2 == 1
noncomputable def keptF (mask : Nat) : List Int := ((List.range 6).filter (inMask mask)).map fun i => Int.ofNat i
noncomputable def openT (us : List Int) (mask p : Nat) : Bool := !((keptF mask).any (· == (p : Int) + 1)) && !((keptF mask).any (· == us.getD p 0))
noncomputable def openF (us : List Int) (mask : Nat) : List Int := ((List.range 5).filter (openT us mask)).map fun i => Int.ofNat i
noncomputable def countsF (us : List Int) (n : Nat) : List Int := ((List.range n).filter fun k => decide (openF us k = [])).map fun k => ((keptF k).length : Int)
theorem no_1 {p q : Bool} (h : p = true) : (!p && !q) = false := by rw [h]; rfl
theorem no_2 {p q : Bool} (h : p = false) (k : q = true) : (!p && !q) = false := by rw [h, k]; rfl
theorem no_3 {p q : Bool} (h : p = false) (k : q = false) : (!p && !q) = true := by rw [h, k]; rfl
theorem countsF_yes {us : List Int} {i : Nat} (h : decide (openF us i = []) = true) : countsF us (i + 1) = countsF us i ++ [((keptF i).length : Int)] := by
  unfold countsF
  rw [List.range_succ, List.filter_append, List.map_append]
  have e : List.filter (fun k => decide (openF us k = [])) [i] = [i] := by simp only [List.filter, h]
  rw [e]
  rfl
theorem countsF_no {us : List Int} {i : Nat} (h : decide (openF us i = []) = false) : countsF us (i + 1) = countsF us i := by
  unfold countsF
  rw [List.range_succ, List.filter_append, List.map_append]
  have e : List.filter (fun k => decide (openF us k = [])) [i] = [] := by simp only [List.filter, h]
  rw [e]
  simp
theorem countsF_len (us : List Int) (n : Nat) : (countsF us n).length ≤ n := by
  unfold countsF
  rw [List.length_map]
  have := List.length_filter_le (fun k => decide (openF us k = [])) (List.range n)
  simpa using this
theorem keptF_len (mask : Nat) : (keptF mask).length ≤ 6 := by
  unfold keptF
  rw [List.length_map]
  have := List.length_filter_le (inMask mask) (List.range 6)
  simpa using this
theorem c_fewest {w : World} {mean : ExcName → Option Value} {mg mb : Str → Option Value} {dp un : Nat} {gd : Option (List Code)} {fr : Option (List Env)} {s : Shared} {Q E : Value → Shared → Prop} {ua : Addr} {u0 u1 u2 u3 u4 : Nat} {r0 r1 r2 r3 r4 : Tok}
    (X : (hd.heap_1 w.params).In s.heap) (T : Top hd.view_39 (looseW hd.view_39 []) mean mg mb s.heap)
    (hdp : dp + 5 < recursionLimit) (hun : un + 80 < cLine) (hu : s.heap.IsList ua #[.int ((u0 : Nat) : Int) r0, .int ((u1 : Nat) : Int) r1, .int ((u2 : Nat) : Int) r2, .int ((u3 : Nat) : Int) r3, .int ((u4 : Nat) : Int) r4]) (hne : 0 < (countsF [(u0 : Int), u1, u2, u3, u4] 64).length)
    (hret : ∀ (t9 : Tok) (M : Int) (h' : Heap) (tk' : Nat), Keep s.heap h' → (M ∈ countsF [(u0 : Int), u1, u2, u3, u4] 64) → (∀ a ∈ countsF [(u0 : Int), u1, u2, u3, u4] 64, M ≤ a) → Q (.int M t9) { s with heap := h', toks := tk' }) :
    wpAny (model Challenge.rw_pd0046_01.row.prog w) ({ handled := none, depth := dp, frames := fr, guards := gd, units := un } : Around) (call (.ref 177) [.ref ua]) Q E s := by
  w_top off
  k_with_none
  (k_with "call builtin:issubclass" => (k_here; (with_reducible show wpAny _ _ (call (Value.builtin _) [Value.type _, Value.ref _]) _ _ _); k_dflt (refine call_isc (News.get (by k_asm) (by k_mem)) ?_)))
  (k_with "CompSrcT" => (k_here; k_dflt (
  (refine LCt.CompSrcT.range (by rfl) (by k_asm) (by k_asm) (by assumption) (by first | decide | rfl) (by first | rfl | decide) (by first | size_fits | exact Nat.le_of_ble_eq_true rfl) ?_; intro g9_k))))
  revert X T hret
  k_fill
  intro X T hret
  ((refine wpAny_call ?_; k_dflt (refine' enter0_cells ?k1 ?k2 ?k6 ?k7 ?k8 ?k9 ?kB ?kD ?_ ?c2 ?c3 ?c4; (case k1 => k_asm); (case k2 => k_asm); (case k6 => k_is); (case k7 => k_is); (case k8 => ktr_room); (case k9 => exact BindsTo.of_eq rfl); (case kB => exact rfl); (case kD => decide +kernel); (case c2 => exact rfl); (case c3 => exact rfl); (case c4 => exact rfl); k_whole)))
  intro g' L' h' tk' cells' kG' X' T' F' N' C'
  k_cells C'
  (try simp only [List.cons_append, List.nil_append] at N')
  (((try unfold Body); (try dsimp only); (try k_fold)))
  have hu' : g'.IsList ua _ := (by obtain ⟨o, e, r⟩ := hu; exact ⟨o, kG' _ _ e, r⟩)
  (repeat' ((fail_if_success (with_reducible show wpAny _ _ (exec (Stmt.For _ _ _ _ _) _) _ _ _)); (fail_if_success (with_reducible show LCt.CompRestT _ _ _ _ _ _ _ _ _ _ _ _ _ _ _ _ _ _ _ _)); first | (k_unfold; (try dsimp only)) | walk1 | (dsimp only; walk1) | (leave1; walk_say "STEP leave1"; try dsimp only) | fail "no step"))
  rename Fr _ _ _ _ => F0
  rename News _ _ _ _ => N0
  obtain ⟨l9, _, e8, f8⟩ := name2 N0
  subst e8
  clear f8
  refine for_range (by k_asm) ?_
  (repeat' ((fail_if_success (with_reducible show wpAny _ _ (exec (Stmt.For _ _ _ _ _) _) _ _ _)); (fail_if_success (with_reducible show LCt.CompRestT _ _ _ _ _ _ _ _ _ _ _ _ _ _ _ _ _ _ _ _)); first | (k_unfold; (try dsimp only)) | walk1 | (dsimp only; walk1) | (leave1; walk_say "STEP leave1"; try dsimp only) | fail "no step"))
  rename IsRange _ _ _ _ _ _ _ _ => hr9
  rename Fr _ _ _ _ => F1
  rename News _ _ _ _ => N1
  refine ⟨_, _, _, _, 64, _, _, fun i m news => ∃ (cv : List Value) (kc : Nat) (o1 o2 o3 : Obj) (x1 x2 : Option Value) (u : Str → Option Value), m = (fun z => if z = Str.ofString "counts" then some (.ref l9) else u z) ∧
    news = [(l9, listOf cv.toArray kc), (L' + 1 + 1 + 1, o1), (L' + 1 + 1, o2), (L' + 1, o3)] ∧ IntsAre cv (countsF [(u0 : Int), u1, u2, u3, u4] i) ∧ o1.data = .cell x1 ∧ o2.data = .cell x2 ∧ o3.data = .cell (some (.ref ua)), rfl, rfl, hr9, by decide, by decide, fr_set F1 rfl, N1, ⟨[], 0, _, _, _, _, _, _, rfl, rfl, .nil, by assumption, by assumption, by assumption⟩, ?step, ?fin⟩
  case fin =>
    intro h2 tk2 m2 news2 F2 N2 hJ
    obtain ⟨cv, kc, o1, o2, o3, x1, x2, u, rfl, rfl, hcv, hd1, hd2, hd3⟩ := hJ
    (repeat' ((fail_if_success (with_reducible show wpAny _ _ (exec (Stmt.For _ _ _ _ _) _) _ _ _)); (fail_if_success (with_reducible show LCt.CompRestT _ _ _ _ _ _ _ _ _ _ _ _ _ _ _ _ _ _ _ _)); first | (k_unfold; (try dsimp only)) | walk1 | (dsimp only; walk1) | (leave1; walk_say "STEP leave1"; try dsimp only) | fail "no step"))
    exact hret _ _ _ _ (fun b o e => Fr.keep (h₀ := g') (by assumption) b o (kG' b o e)) (by assumption) (by assumption)
  case step =>
    intro i t I oI m2 news2 h2 tk2 hi hJ off2 F2 N2
    obtain ⟨cv, kc, o1, o2, o3, x1, x2, u, rfl, rfl, hcv, hd1, hd2, hd3⟩ := hJ
    have hcl := hcv.length
    have hcl2 := countsF_len [(u0 : Int), u1, u2, u3, u4] i
    (try simp only [List.forall_mem_cons, List.not_mem_nil, false_implies, implies_true, and_true] at off2)
    (repeat' ((fail_if_success (with_reducible show wpAny _ _ (exec (Stmt.For _ _ _ _ _) _) _ _ _)); (fail_if_success (with_reducible show LCt.CompRestT _ _ _ _ _ _ _ _ _ _ _ _ _ _ _ _ _ _ _ _)); first | (k_unfold; (try dsimp only)) | walk1 | (dsimp only; walk1) | (leave1; walk_say "STEP leave1"; try dsimp only) | fail "no step"))
    refine filter_range (inMask i) ?hS ?test ?stepx ?finx
    case hS => exact trivial
    case test =>
      intro j t9 ys9 I9 oI9 C9 oC9 D9 m9 h9 tk9 E9 hj9 hC9 hx9 F9 N9 off9 ne9 Q9 hQ9
      (try simp only [LCg.Off3, and_true] at off9)
      obtain rfl | rfl | rfl | rfl | rfl | rfl : j = 0 ∨ j = 1 ∨ j = 2 ∨ j = 3 ∨ j = 4 ∨ j = 5 := (by have hj : j < 6 := hj9; clear hj9; omega)
      all_goals (repeat' ((fail_if_success (with_reducible show wpAny _ _ (exec (Stmt.For _ _ _ _ _) _) _ _ _)); (fail_if_success (with_reducible show LCt.CompRestT _ _ _ _ _ _ _ _ _ _ _ _ _ _ _ _ _ _ _ _)); first | (k_unfold; (try dsimp only)) | walk1 | (dsimp only; walk1) | (leave1; walk_say "STEP leave1"; try dsimp only) | fail "no step"))
      all_goals exact qb (hQ9 _ _ (fun _ _ e => e)) rfl
    case stepx =>
      intro j t9 ys9 I9 oI9 C9 oC9 D9 m9 h9 tk9 E9 hj9 hp9 hC9 hx9 F9 N9 off9 ne9 Q9 hQ9
      (try simp only [LCg.Off3, and_true] at off9)
      (repeat' ((fail_if_success (with_reducible show wpAny _ _ (exec (Stmt.For _ _ _ _ _) _) _ _ _)); (fail_if_success (with_reducible show LCt.CompRestT _ _ _ _ _ _ _ _ _ _ _ _ _ _ _ _ _ _ _ _)); first | (k_unfold; (try dsimp only)) | walk1 | (dsimp only; walk1) | (leave1; walk_say "STEP leave1"; try dsimp only) | fail "no step"))
      exact hQ9 _ _ _ (fun _ _ e => e)
    case finx =>
      intro us hus
      change IntsAre us (keptF i) at hus
      have hul := hus.length
      have hkl := keptF_len i
      (repeat' ((fail_if_success (with_reducible show wpAny _ _ (exec (Stmt.For _ _ _ _ _) _) _ _ _)); (fail_if_success (with_reducible show LCt.CompRestT _ _ _ _ _ _ _ _ _ _ _ _ _ _ _ _ _ _ _ _)); first | (k_unfold; (try dsimp only)) | walk1 | (dsimp only; walk1) | (leave1; walk_say "STEP leave1"; try dsimp only) | fail "no step"))
      refine filter_range (openT [(u0 : Int), u1, u2, u3, u4] i) ?hS ?test ?stepx ?finx
      case hS => exact trivial
      case test =>
        intro j t9 ys9 I9 oI9 C9 oC9 D9 m9 h9 tk9 E9 hj9 hC9 hx9 F9 N9 off9 ne9 Q9 hQ9
        (try simp only [LCg.Off3, and_true] at off9)
        obtain rfl | rfl | rfl | rfl | rfl : j = 0 ∨ j = 1 ∨ j = 2 ∨ j = 3 ∨ j = 4 := (by have hj : j < 5 := hj9; clear hj9; omega)
        all_goals (repeat' ((fail_if_success (with_reducible show wpAny _ _ (exec (Stmt.For _ _ _ _ _) _) _ _ _)); (fail_if_success (with_reducible show LCt.CompRestT _ _ _ _ _ _ _ _ _ _ _ _ _ _ _ _ _ _ _ _)); first | (k_unfold; (try dsimp only)) | walk1 | (dsimp only; walk1) | (leave1; walk_say "STEP leave1"; try dsimp only) | fail "no step"))
        all_goals (refine qb (hQ9 _ _ (fun _ _ e => e)) ?_)
        all_goals first | exact no_3 (by assumption) (by assumption) | exact no_2 (by assumption) (by assumption) | exact no_1 (by assumption)
      case stepx =>
        intro j t9 ys9 I9 oI9 C9 oC9 D9 m9 h9 tk9 E9 hj9 hp9 hC9 hx9 F9 N9 off9 ne9 Q9 hQ9
        (try simp only [LCg.Off3, and_true] at off9)
        (repeat' ((fail_if_success (with_reducible show wpAny _ _ (exec (Stmt.For _ _ _ _ _) _) _ _ _)); (fail_if_success (with_reducible show LCt.CompRestT _ _ _ _ _ _ _ _ _ _ _ _ _ _ _ _ _ _ _ _)); first | (k_unfold; (try dsimp only)) | walk1 | (dsimp only; walk1) | (leave1; walk_say "STEP leave1"; try dsimp only) | fail "no step"))
        exact hQ9 _ _ _ (fun _ _ e => e)
      case finx =>
        intro us2 hus2
        change IntsAre us2 (openF [(u0 : Int), u1, u2, u3, u4] i) at hus2
        have hul2 := hus2.length
        (repeat' ((fail_if_success (with_reducible show wpAny _ _ (exec (Stmt.For _ _ _ _ _) _) _ _ _)); (fail_if_success (with_reducible show LCt.CompRestT _ _ _ _ _ _ _ _ _ _ _ _ _ _ _ _ _ _ _ _)); first | (k_unfold; (try dsimp only)) | walk1 | (dsimp only; walk1) | (leave1; walk_say "STEP leave1"; try dsimp only) | fail "no step"))
        · rename News _ _ _ _ => Nz
          rename Fr _ _ _ _ => Fz
          rename decide _ = true => hy
          rw [List.push_toArray] at Nz
          refine' UnrEnd.intro (fr_set Fz rfl) Nz [(l9, _), (L' + 1 + 1 + 1, _), (L' + 1 + 1, _), (L' + 1, _)] ?zsub ?zoff ⟨cv ++ [_], kc + 1, _, _, _, _, _, _, rfl, rfl, ?zints, ?c1, ?c2, hd3⟩
          case zsub => exact List.forall_mem_cons.mpr ⟨by k_mem, List.forall_mem_cons.mpr ⟨by k_mem, List.forall_mem_cons.mpr ⟨by k_mem, List.forall_mem_cons.mpr ⟨by k_mem, List.forall_mem_cons.mpr ⟨by k_mem, List.forall_mem_nil _⟩⟩⟩⟩⟩
          case zoff => exact List.forall_mem_cons.mpr ⟨neN off2.1, List.forall_mem_cons.mpr ⟨neN off2.2.1, List.forall_mem_cons.mpr ⟨neN off2.2.2.1, List.forall_mem_cons.mpr ⟨neN off2.2.2.2, List.forall_mem_nil _⟩⟩⟩⟩
          case zints => exact countsF_yes hy ▸ hcv.append (.cons _ _ .nil)
          case c1 => assumption
          case c2 => assumption
        · rename News _ _ _ _ => Nz
          rename Fr _ _ _ _ => Fz
          rename decide _ = false => hy
          refine' UnrEnd.intro (fr_set Fz rfl) Nz [(l9, _), (L' + 1 + 1 + 1, _), (L' + 1 + 1, _), (L' + 1, _)] ?zsub ?zoff ⟨cv, kc, _, _, _, _, _, _, rfl, rfl, ?zints, ?c1, ?c2, hd3⟩
          case zsub => exact List.forall_mem_cons.mpr ⟨by k_mem, List.forall_mem_cons.mpr ⟨by k_mem, List.forall_mem_cons.mpr ⟨by k_mem, List.forall_mem_cons.mpr ⟨by k_mem, List.forall_mem_cons.mpr ⟨by k_mem, List.forall_mem_nil _⟩⟩⟩⟩⟩
          case zoff => exact List.forall_mem_cons.mpr ⟨neN off2.1, List.forall_mem_cons.mpr ⟨neN off2.2.1, List.forall_mem_cons.mpr ⟨neN off2.2.2.1, List.forall_mem_cons.mpr ⟨neN off2.2.2.2, List.forall_mem_nil _⟩⟩⟩⟩
          case zints => exact countsF_no hy ▸ hcv
          case c1 => assumption
          case c2 => assumption
end
section
open PyProof.Rows.TI (Frs SameUp)
theorem Ns.slots {h h' : Heap} {L : Addr} {m : Str → Option Value} {o : Obj} {sl : Array (Option Value)} (x : h.Ns L m) (e : h.get? L = some o) (e' : h'.get? L = some { o with slots := sl }) : h'.Ns L m := by
  obtain ⟨o', es, ep, e1, hd, r⟩ := x
  rw [e] at e1
  cases e1
  exact ⟨_, es, ep, e', hd, r⟩
theorem ns_get {h : Heap} {L : Addr} {m : Str → Option Value} (x : h.Ns L m) : ∃ o, h.get? L = some o ∧ ∃ es ep, o.data = .dict es ep := by
  obtain ⟨o, es, ep, e, hd, _⟩ := x
  exact ⟨o, e, es, ep, hd⟩
/-- what a framed call leaves behind: the own frame, the frames below, the rest of the ledger -/
theorem back {h₀ h h' : Heap} {L : Addr} {m : Str → Option Value} {news fr rest frs' : List (Addr × Obj)} {oL : Obj} (F : Fr h₀ L h m) (N : News h₀ L h news) (hL : h.get? L = some oL)
    (hfr : ∀ q ∈ fr, q ∈ news) (hrest : ∀ q ∈ rest, q ∈ news) (hoff : ∀ q ∈ rest, q.1 ∉ fr.map (·.1)) (SU : SameUp ((L, oL) :: fr) frs') (hg : ∀ q ∈ frs', h'.get? q.1 = some q.2)
    (k : KeepBut (L :: fr.map (·.1)) h h') : ∃ fr', SameUp fr fr' ∧ Fr h₀ L h' m ∧ News h₀ L h' (fr' ++ rest) := by
  obtain ⟨oL', fr', rfl, SU'⟩ := sameUp_cons SU
  have eL : ∃ sl, oL' = { oL with slots := sl } := SU.2.1
  obtain ⟨sl, rfl⟩ := eL
  refine ⟨fr', SU', ⟨Ns.slots F.ns hL (hg _ List.mem_cons_self), fun b o e => ?_, F.above⟩, fun p hp => ?_⟩
  · refine k b o (F.keep b o e) fun hm => ?_
    rcases List.mem_cons.mp hm with rfl | hm
    · have := Heap.get?_none_of_le F.above; rw [e] at this; cases this
    · obtain ⟨q, hq, rfl⟩ := List.mem_map.mp hm
      rw [(N q (hfr q hq)).2.2] at e; cases e
  · rcases List.mem_append.mp hp with hp | hp
    · have back1 : ∀ {a b : List (Addr × Obj)}, SameUp a b → ∀ p ∈ b, ∃ q ∈ a, p.1 = q.1 := by
        intro a
        induction a with
        | nil => intro b hb p hp; rw [sameUp_nil hb] at hp; cases hp
        | cons q qs ih =>
          intro b hb p hp
          obtain ⟨o', f1, rfl, h2⟩ := sameUp_cons hb
          rcases List.mem_cons.mp hp with rfl | hp
          · exact ⟨q, List.mem_cons_self, rfl⟩
          · obtain ⟨q', hq', e⟩ := ih h2 p hp
            exact ⟨q', List.mem_cons_of_mem _ hq', e⟩
      obtain ⟨q, hq, e⟩ := back1 SU' p hp
      have z := N q (hfr q hq)
      exact ⟨hg _ (List.mem_cons_of_mem _ hp), by rw [e]; exact z.2.1, by rw [e]; exact z.2.2⟩
    · have z := N p (hrest p hp)
      refine ⟨k _ _ z.1 fun hm => ?_, z.2⟩
      rcases List.mem_cons.mp hm with e | hm
      · exact z.2.1 e
      · exact hoff p hp hm
theorem none_below {h₀ h : Heap} {L t : Addr} {m : Str → Option Value} (F : Fr h₀ L h m) (e : h.get? t = none) : h₀.get? t = none := by
  cases q : h₀.get? t with
  | none => rfl
  | some o => have := F.keep t o q; rw [e] at this; cases this
theorem new_entry {h₀ h h' : Heap} {L t : Addr} {m : Str → Option Value} {o : Obj} {news : List (Addr × Obj)} (F : Fr h₀ L h m) (N : News h₀ L h' news) (e : h.get? t = none) (e' : h'.get? t = some o) : News h₀ L h' ((t, o) :: news) := fun p hp => by
  rcases List.mem_cons.mp hp with rfl | hp
  · refine ⟨e', fun q => ?_, none_below F e⟩
    obtain ⟨oL, eL, _⟩ := ns_get F.ns
    have q' : t = L := q
    rw [← q', e] at eL; cases eL
  · exact N p hp
theorem new_off {h₀ h : Heap} {L t : Addr} {news : List (Addr × Obj)} (N : News h₀ L h news) (e : h.get? t = none) : LCg.Off1 t news := by
  have : ∀ p ∈ news, p.1 ≠ t := fun p hp q => by
    have z := (N p hp).1
    rw [q, e] at z; cases z
  clear N
  induction news with
  | nil => trivial
  | cons p r ih => exact ⟨this p List.mem_cons_self, ih fun q hq => this q (List.mem_cons_of_mem _ hq)⟩
theorem frs_cons {env : Env} {l : List Env} {L : Addr} {o : Obj} {fr : List (Addr × Obj)} (hk : env.scope.kind ≠ .module) (hf : env.frame = some L) (hd : ∃ es ep, o.data = .dict es ep) (F : Frs l fr) : Frs (env :: l) ((L, o) :: fr) := ⟨hk, hf, hd, F⟩
end
section
open PyProof.Rows.TI (Frs SameUp)
theorem sld_N {w : World} {mean : ExcName → Option Value} {mg mb : Str → Option Value} {dp un : Nat} {gd : Option (List Code)} {h₀ : Heap} {s : Shared} {Q E : Value → Shared → Prop} {env0 e1 e2 : Env} {L L1 L2 : Addr} {o1 o2 : Obj} {m : Str → Option Value} {news rest : List (Addr × Obj)} {x y : Addr} {vs us : List Value} {n k : Nat} {xs ys : List Str} {rs : List Str × List Str}
    (F : Fr h₀ L s.heap m) (X : (hd.heap_1 w.params).In h₀) (T : Top hd.view_39 (looseW hd.view_39 []) mean mg mb h₀) (N : News h₀ L s.heap news) (h1 : (L1, o1) ∈ news) (h2 : (L2, o2) ∈ news)
    (hrest : ∀ q ∈ rest, q ∈ news) (hoff : ∀ q ∈ rest, q.1 ∉ [L1, L2]) (hk : env0.scope.kind ≠ .module) (hfm : env0.frame = some L) (Fs : Frs [e1, e2] [(L1, o1), (L2, o2)])
    (hdp : dp + 1 < recursionLimit) (hun : un + 40 < cLine) (hx : s.heap.get? x = some (listOf vs.toArray n)) (hxs : StrsAre vs xs) (hxf : x ∉ [L, L1, L2]) (hy : s.heap.get? y = some (listOf us.toArray k)) (hys : StrsAre us ys) (hyf : y ∉ [L, L1, L2]) (hlx : xs.length ≤ 100) (hly : ys.length ≤ 100) (hr : sldF xs ys 300 0 0 [] [] = some rs)
    (hret : ∀ (t lm lu : Addr) (mv uv : List Value) (km ku : Nat) (h' : Heap) (tk' : Nat) (o1' o2' : Obj), SameUp [(L1, o1), (L2, o2)] [(L1, o1'), (L2, o2')] → Frs [e1, e2] [(L1, o1'), (L2, o2')] → Fr h₀ L h' m →
      News h₀ L h' ((t, ({ cls := .type "tuple", data := .seq #[.ref lm, .ref lu] } : Obj)) :: (lm, listOf mv.toArray km) :: (lu, listOf uv.toArray ku) :: (L1, o1') :: (L2, o2') :: rest) → StrsAre mv rs.1 → StrsAre uv rs.2 →
      LCg.Off1 t news → LCg.Off1 lm news → LCg.Off1 lu news → s.heap.get? t = none → s.heap.get? lm = none → s.heap.get? lu = none → (@LT.lt Nat _ lm lu ∧ @LT.lt Nat _ lu t) → Q (.ref t) { s with heap := h', toks := tk' }) :
    wpAny (model Challenge.rw_pd0046_01.row.prog w) ({ handled := none, depth := dp, frames := some [env0, e1, e2], guards := gd, units := un } : Around) (call (.ref 28) [.ref x, .ref y]) Q E s := by
  obtain ⟨oL, eL, dL⟩ := ns_get F.ns
  have hL₀ : h₀.get? L = none := Heap.get?_none_of_le F.above
  refine c_sld X T F.keep (frs_cons hk hfm dL Fs) (List.forall_mem_cons.mpr ⟨⟨eL, hL₀⟩, List.forall_mem_cons.mpr ⟨⟨(N _ h1).1, (N _ h1).2.2⟩, List.forall_mem_cons.mpr ⟨⟨(N _ h2).1, (N _ h2).2.2⟩, List.forall_mem_nil _⟩⟩⟩) hdp hun hx hxs hxf hy hys hyf hlx hly hr ?_
  intro t lm lu mv uv km ku h' tk' frs' SU hg kb ht hm hu hmv huv ft fm fu hlt
  obtain ⟨fr', SU', F', N'⟩ := back (fr := [(L1, o1), (L2, o2)]) (rest := rest) F N eL (List.forall_mem_cons.mpr ⟨h1, List.forall_mem_cons.mpr ⟨h2, List.forall_mem_nil _⟩⟩) hrest hoff SU hg kb
  obtain ⟨o1', o2', rfl⟩ := sameUp2 SU'
  exact hret t lm lu mv uv km ku h' tk' o1' o2' SU' (PyProof.Rows.TI.Frs.up Fs SU') F' (new_entry F (new_entry F (new_entry F N' fu hu) fm hm) ft ht) hmv huv (new_off N ft) (new_off N fm) (new_off N fu) ft fm fu hlt
theorem not2 {a b c : Addr} (h : @Ne Nat a b) (k : @Ne Nat a c) : a ∉ [b, c] := fun hm => by
  rcases List.mem_cons.mp hm with e | hm
  · exact h e
  · exact k (List.mem_singleton.mp hm)
theorem not3 {a b : Addr} {l : List Addr} (h : a ≠ b) (k : a ∉ l) : a ∉ b :: l := fun hm => by
  rcases List.mem_cons.mp hm with e | hm
  · exact h e
  · exact k hm
theorem ne_own {h₀ h : Heap} {L x : Addr} {m : Str → Option Value} {o : Obj} (F : Fr h₀ L h m) (e : h₀.get? x = some o) : x ≠ L := fun q => by
  have := Heap.get?_none_of_le F.above; rw [← q, e] at this; cases this
theorem c_bare {w : World} {mean : ExcName → Option Value} {mg mb : Str → Option Value} {dp un : Nat} {gd : Option (List Code)} {base : Heap} {s : Shared} {Q E : Value → Shared → Prop} {e0 e1 : Env} {L0 L1 : Addr} {o0 o1 : Obj} {x : Addr} {vs : List Value} {n : Nat} {xs : List Str} {r1 r2 : List Str × List Str}
    (X : (hd.heap_1 w.params).In base) (T : Top hd.view_39 (looseW hd.view_39 []) mean mg mb base) (hb : Keep base s.heap) (Fs : Frs [e0, e1] [(L0, o0), (L1, o1)])
    (hf : ∀ q ∈ [(L0, o0), (L1, o1)], s.heap.get? q.1 = some q.2 ∧ base.get? q.1 = none)
    (hdp : dp + 6 < recursionLimit) (hun : un + 100 < cLine) (hx : s.heap.get? x = some (listOf vs.toArray n)) (hxs : StrsAre vs xs) (hxf : x ∉ [L0, L1]) (hlx : xs.length ≤ 50) (hln : ∀ z ∈ xs, z.length ≤ 1000) (hr1 : sldF xs (sortF (oversF xs)) 300 0 0 [] [] = some r1) (hr2 : sldF (sortF (oversF xs)) xs 300 0 0 [] [] = some r2)
    (hret : ∀ (D t1 t2 a1 a2 b1 b2 : Addr) (va1 va2 vb1 vb2 : List Value) (ka1 ka2 kb1 kb2 kd : Nat) (h' : Heap) (tk' : Nat) (frs' : List (Addr × Obj)), SameUp [(L0, o0), (L1, o1)] frs' → (∀ q ∈ frs', h'.get? q.1 = some q.2) → KeepBut [L0, L1] s.heap h' → (h'.get? D = some (listOf #[.ref t1, .ref t2] kd)) → (h'.get? t1 = some { cls := .type "tuple", data := .seq #[.ref a1, .ref a2] }) → (h'.get? t2 = some { cls := .type "tuple", data := .seq #[.ref b1, .ref b2] }) → (h'.get? a1 = some (listOf va1.toArray ka1)) → (h'.get? a2 = some (listOf va2.toArray ka2)) → (h'.get? b1 = some (listOf vb1.toArray kb1)) → (h'.get? b2 = some (listOf vb2.toArray kb2)) → (StrsAre va1 r1.1) → (StrsAre va2 r1.2) → (StrsAre vb1 r2.1) → (StrsAre vb2 r2.2) → (∀ q ∈ [D, t1, t2, a1, a2, b1, b2], s.heap.get? q = none) → Q (.ref D) { s with heap := h', toks := tk' }) :
    wpAny (model Challenge.rw_pd0046_01.row.prog w) ({ handled := none, depth := dp, frames := some [e0, e1], guards := gd, units := un } : Around) (call (.ref 162) [.ref x]) Q E s := by
  w_top off
  k_with_none
  (k_with "call builtin:issubclass" => (k_here; (with_reducible show wpAny _ _ (call (Value.builtin _) [Value.type _, Value.ref _]) _ _ _); k_dflt (refine call_isc (News.get (by k_asm) (by k_mem)) ?_)))
  (k_with "MINE size" => (simp only [sizeLine_eq, List.size_toArray, List.length_append, List.length_cons, List.length_nil]; omega))
  (k_with "CompSrc" => (k_here; k_dflt (first
  | (refine LCg.CompSrc.ledger (by rfl) (by k_asm) (by k_asm) (by k_mem) (by walk_at "MINE size") ?_; intro g9_k)
  | (refine LCg.CompSrc.base (by rfl) (by k_asm) (by k_asm) (by assumption) (by walk_at "MINE size") ?_; intro g9_k))))
  (k_with "call builtin:sorted" => (k_here; (with_reducible show wpAny _ _ (call (Value.builtin _) [Value.ref _]) _ _ _); k_dflt (refine' sorted_K ?k1_k ?k2_k ?k3_k ?k4_k ?k5_k ?_; (case k1_k => k_asm); (case k2_k => k_asm); (case k3_k => is_list); (case k4_k => assumption); (case k5_k => omega)); intro D9_k h9_k vs9_k e9_k F9_k N9_k l1_k hS9_k; (have hL9_k := StrsAre.length hS9_k); (rw [sortF_len] at hL9_k); (try k_lt l1_k); (try k_sweep)))
  (k_with "call ref" => (k_here; (with_reducible show wpAny _ _ (call (Value.ref 136) _) _ _ _); k_dflt (refine' c_dirname_N ?k1_k ?k2_k ?k3_k ?k4_k ?kd_k ?ku_k ?z0_k ?_; (case k1_k => k_asm); (case k2_k => k_asm); (case k3_k => k_asm); (case k4_k => k_asm); (case kd_k => ktr_room); (case ku_k => ktr_units); (case z0_k => assumption); k_whole); intro v09_k h9_k tk9_k hk9_k F9_k N9_k ; (try dsimp only); (try k_fold); (try k_sweep)))
  revert X T hret
  k_fill
  intro X T hret
  ((refine wpAny_call ?_; k_dflt (refine' enterF ?k1 ?k2 ?k3 ?k4 ?k6 ?k7 ?k8 ?k9 ?kB ?_ ?c2 ?c3 ?c4 ?c5; (case k1 => k_asm); (case k2 => k_asm); (case k3 => assumption); (case k4 => assumption); (case k6 => k_is); (case k7 => k_is); (case k8 => ktr_room); (case k9 => exact BindsTo.of_eq rfl); (case c5 => decide); (case kB => exact locs rfl); (case c2 => exact rfl); (case c3 => exact rfl); (case c4 => exact rfl); k_whole)))
  intro g' L' h' kG' X' T' F' N' hlt'
  (replace hlt' := allLt_of hlt'); (try simp only [AllLt, and_true] at hlt')
  (((try unfold Body); (try dsimp only); (try k_fold)))
  have hx0 : g'.get? x = some (listOf vs.toArray n) := kG' _ _ hx hxf
  have hx' : g'.IsList x vs.toArray := ⟨_, hx0, rfl, _, rfl⟩
  have hxl := hxs.length
  (repeat' ((fail_if_success (with_reducible show wpAny _ _ (call (Value.ref 28) _) _ _ _)); first | (k_unfold; (try dsimp only)) | walk1 | (dsimp only; walk1) | (leave1; walk_say "STEP leave1"; try dsimp only) | fail "no step"))
  refine map_strs hxs dirnameF ?hS ?step ?fin
  case hS => lcg_src
  case step =>
    intro a9 t9 ys9 I9 oI9 C9 oC9 D9 m9 h9 tk9 E9 ha9 hC9 hx9 F9 N9 off9 ne9 Q9 hQ9
    have hal9 := hln a9 ha9
    (try simp only [LCg.Off3, and_true] at off9)
    (repeat' ((fail_if_success (with_reducible show wpAny _ _ (call (Value.ref 28) _) _ _ _)); first | (k_unfold; (try dsimp only)) | walk1 | (dsimp only; walk1) | (leave1; walk_say "STEP leave1"; try dsimp only) | fail "no step"))
    exact hQ9 _ _ _ (by assumption)
  case fin =>
    intro us hus
    have hul := hus.length
    rw [List.length_map] at hul
    (repeat' ((fail_if_success (with_reducible show wpAny _ _ (call (Value.ref 28) _) _ _ _)); first | (k_unfold; (try dsimp only)) | walk1 | (dsimp only; walk1) | (leave1; walk_say "STEP leave1"; try dsimp only) | fail "no step"))
    rename News _ _ _ _ => N1
    rename StrsAre _ (sortF (List.map dirnameF xs)) => hso
    refine' sld_N (rest := [(_, listOf _ _)]) (by k_asm) (by k_asm) (by k_asm) N1 (by k_mem) (by k_mem) ?zr ?zo ?zk ?zf Fs ?zd ?zu ?zx hxs ?zxf ?zy hso ?zyf ?z1 ?z2 hr1 ?_
    case zr => exact List.forall_mem_cons.mpr ⟨by k_mem, List.forall_mem_nil _⟩
    case zo => exact List.forall_mem_cons.mpr ⟨not2 (by omega) (by omega), List.forall_mem_nil _⟩
    case zk => exact nofun
    case zf => exact rfl
    case zd => ktr_room
    case zu => ktr_units
    case zx => exact Fr.keep (by k_asm) _ _ hx0
    case zxf => exact not3 (ne_own (by k_asm) hx0) hxf
    case zy => exact (N1 _ (by k_mem)).1
    case zyf => exact not3 (N1 (_, listOf _ _) (by k_mem)).2.1 (not2 (by omega) (by omega))
    case z1 => omega
    case z2 => rw [sortF_len, List.length_map]; omega
    intro t1 a1 a2 va1 va2 ka1 ka2 h2 tk2 p0 p1 SU1 Fs1 F2 N2 hva1 hva2 of1 of2 of3 ft1 fa1 fa2 hlt1
    (try simp only [LCg.Off1, and_true] at of1 of2 of3)
    rename Fr _ _ _ _ => Fq
    (repeat' ((fail_if_success (with_reducible show wpAny _ _ (call (Value.ref 28) _) _ _ _)); first | (k_unfold; (try dsimp only)) | walk1 | (dsimp only; walk1) | (leave1; walk_say "STEP leave1"; try dsimp only) | fail "no step"))
    rename News _ _ _ _ => N3
    refine' sld_N (rest := [(t1, _), (a1, listOf _ _), (a2, listOf _ _), (_, listOf _ _)]) (by k_asm) (by k_asm) (by k_asm) N3 (by k_mem) (by k_mem) ?zr ?zo ?zk ?zf Fs1 ?zd ?zu ?zx hso ?zxf ?zy hxs ?zyf ?z1 ?z2 hr2 ?_
    case zr => exact List.forall_mem_cons.mpr ⟨by k_mem, List.forall_mem_cons.mpr ⟨by k_mem, List.forall_mem_cons.mpr ⟨by k_mem, List.forall_mem_cons.mpr ⟨by k_mem, List.forall_mem_nil _⟩⟩⟩⟩
    case zx => exact News.get N3 (by k_mem)
    case zo => exact List.forall_mem_cons.mpr ⟨not2 (by omega) (by omega), List.forall_mem_cons.mpr ⟨not2 (by omega) (by omega), List.forall_mem_cons.mpr ⟨not2 (by omega) (by omega), List.forall_mem_cons.mpr ⟨not2 (by omega) (by omega), List.forall_mem_nil _⟩⟩⟩⟩
    case zk => exact nofun
    case zf => exact rfl
    case zd => ktr_room
    case zu => ktr_units
    case zy => exact Fr.keep (by k_asm) _ _ hx0
    case zyf => exact not3 (ne_own (by k_asm) hx0) hxf
    case zxf => exact not3 (N3 (_, listOf _ _) (by k_mem)).2.1 (not2 (by omega) (by omega))
    case z2 => omega
    case z1 => rw [sortF_len, List.length_map]; omega
    intro t2 b1 b2 vb1 vb2 kb1 kb2 h3 tk3 q0 q1 SU2 Fs2 F4 N4 hvb1 hvb2 og1 og2 og3 ft2 fb1 fb2 hlt2
    (try simp only [LCg.Off1, and_true] at og1 og2 og3)
    (repeat' ((fail_if_success (with_reducible show wpAny _ _ (call (Value.ref 28) _) _ _ _)); first | (k_unfold; (try dsimp only)) | walk1 | (dsimp only; walk1) | (leave1; walk_say "STEP leave1"; try dsimp only) | fail "no step"))
    rename News _ _ _ _ => Nz
    rename Fr _ _ _ _ => Fz
    have fresh : ∀ (b : Addr) (hb0 : @Ne Nat b L0) (hb1 : @Ne Nat b L1), g'.get? b = none → s.heap.get? b = none := fun b hb0 hb1 hn => by
      cases e : s.heap.get? b with
      | none => rfl
      | some o' => have q := kG' b o' e (not2 hb0 hb1); rw [hn] at q; cases q
    have z := fun (p : Addr × Obj) (hp : p ∈ _) => (Nz p hp).1
    have y := fun (p : Addr × Obj) (hp : p ∈ _) => (Nz p hp).2.2
    exact hret _ t1 t2 a1 a2 b1 b2 va1 va2 vb1 vb2 ka1 ka2 kb1 kb2 _ _ _ [(L0, q0), (L1, q1)] (PyProof.Rows.TI.SameUp.trans SU1 SU2) (List.forall_mem_cons.mpr ⟨z _ (by k_mem), List.forall_mem_cons.mpr ⟨z _ (by k_mem), List.forall_mem_nil _⟩⟩)
      (fun b o e hn => Fz.keep b o (kG' b o e hn)) (z (_, listOf _ _) (by k_mem)) (z (t1, _) (by k_mem)) (z (t2, _) (by k_mem)) (z (a1, _) (by k_mem)) (z (a2, _) (by k_mem)) (z (b1, _) (by k_mem)) (z (b2, _) (by k_mem)) hva1 hva2 hvb1 hvb2
      (List.forall_mem_cons.mpr ⟨fresh _ (by omega) (by omega) (y (_, listOf #[_, _] _) (by k_mem)), List.forall_mem_cons.mpr ⟨fresh t1 (Ne.symm of1.2.2.1) (Ne.symm of1.2.2.2) (y (t1, _) (by k_mem)), List.forall_mem_cons.mpr ⟨fresh t2 (Ne.symm og1.2.2.2.1) (Ne.symm og1.2.2.2.2.1) (y (t2, _) (by k_mem)), List.forall_mem_cons.mpr ⟨fresh a1 (Ne.symm of2.2.2.1) (Ne.symm of2.2.2.2) (y (a1, _) (by k_mem)),
        List.forall_mem_cons.mpr ⟨fresh a2 (Ne.symm of3.2.2.1) (Ne.symm of3.2.2.2) (y (a2, _) (by k_mem)), List.forall_mem_cons.mpr ⟨fresh b1 (Ne.symm og2.2.2.2.1) (Ne.symm og2.2.2.2.2.1) (y (b1, _) (by k_mem)), List.forall_mem_cons.mpr ⟨fresh b2 (Ne.symm og3.2.2.2.1) (Ne.symm og3.2.2.2.2.1) (y (b2, _) (by k_mem)), List.forall_mem_nil _⟩⟩⟩⟩⟩⟩⟩)
end
section
open PyProof.Rows.TI (Frs SameUp)
theorem back1 : ∀ {a b : List (Addr × Obj)}, SameUp a b → ∀ p ∈ b, ∃ q ∈ a, p.1 = q.1 := by
  intro a
  induction a with
  | nil => intro b hb p hp; rw [sameUp_nil hb] at hp; cases hp
  | cons q qs ih =>
    intro b hb p hp
    obtain ⟨o', f1, rfl, h2⟩ := sameUp_cons hb
    rcases List.mem_cons.mp hp with rfl | hp
    · exact ⟨q, List.mem_cons_self, rfl⟩
    · obtain ⟨q', hq', e⟩ := ih h2 p hp
      exact ⟨q', List.mem_cons_of_mem _ hq', e⟩
theorem back2 {h₀ h h' : Heap} {L : Addr} {m : Str → Option Value} {news fr rest frs' : List (Addr × Obj)} {oL : Obj} {hid : List Addr} (F : Fr h₀ L h m) (N : News h₀ L h news) (hL : h.get? L = some oL)
    (hfr : ∀ q ∈ fr, q ∈ news) (hrest : ∀ q ∈ rest, q ∈ news) (hh : ∀ b ∈ hid, h₀.get? b = none) (hoff : ∀ q ∈ rest, q.1 ∉ hid) (SU : SameUp ((L, oL) :: fr) frs') (hg : ∀ q ∈ frs', h'.get? q.1 = some q.2)
    (k : KeepBut hid h h') : ∃ fr', SameUp fr fr' ∧ Fr h₀ L h' m ∧ News h₀ L h' (fr' ++ rest) := by
  obtain ⟨oL', fr', rfl, SU'⟩ := sameUp_cons SU
  have eL : ∃ sl, oL' = { oL with slots := sl } := SU.2.1
  obtain ⟨sl, rfl⟩ := eL
  refine ⟨fr', SU', ⟨Ns.slots F.ns hL (hg _ List.mem_cons_self), fun b o e => ?_, F.above⟩, fun p hp => ?_⟩
  · refine k b o (F.keep b o e) fun hm => ?_
    rw [hh b hm] at e; cases e
  · rcases List.mem_append.mp hp with hp | hp
    · obtain ⟨q, hq, e⟩ := back1 SU' p hp
      have z := N q (hfr q hq)
      exact ⟨hg _ (List.mem_cons_of_mem _ hp), by rw [e]; exact z.2.1, by rw [e]; exact z.2.2⟩
    · have z := N p (hrest p hp)
      exact ⟨k _ _ z.1 (hoff p hp), z.2⟩
theorem fresh_ne {h₀ h : Heap} {L t a : Addr} {o : Obj} {news : List (Addr × Obj)} (N : News h₀ L h news) (hm : (a, o) ∈ news) (e : h.get? t = none) : @Ne Nat t a := fun q => by
  have q' : t = a := q
  have z := (N _ hm).1
  rw [q', (show h.get? a = some o from z)] at e; cases e
theorem fresh_all {h₀ h : Heap} {L t : Addr} {news objs : List (Addr × Obj)} (N : News h₀ L h news) (hs : ∀ p ∈ objs, p ∈ news) (e : h.get? t = none) : ∀ p ∈ objs, p.1 ≠ t := fun p hp q => by
  have z := (N p (hs p hp)).1
  rw [q, e] at z; cases z
theorem bare_N {w : World} {mean : ExcName → Option Value} {mg mb : Str → Option Value} {dp un : Nat} {gd : Option (List Code)} {h₀ : Heap} {s : Shared} {Q E : Value → Shared → Prop} {env0 e1 : Env} {L L1 : Addr} {o1 : Obj} {m : Str → Option Value} {news rest : List (Addr × Obj)} {x : Addr} {vs : List Value} {n : Nat} {xs : List Str} {r1 r2 : List Str × List Str}
    (F : Fr h₀ L s.heap m) (X : (hd.heap_1 w.params).In h₀) (T : Top hd.view_39 (looseW hd.view_39 []) mean mg mb h₀) (N : News h₀ L s.heap news) (h1 : (L1, o1) ∈ news)
    (hrest : ∀ q ∈ rest, q ∈ news) (hoff : ∀ q ∈ rest, q.1 ∉ [L1]) (hk : env0.scope.kind ≠ .module) (hfm : env0.frame = some L) (Fs : Frs [e1] [(L1, o1)])
    (hdp : dp + 6 < recursionLimit) (hun : un + 100 < cLine) (hx : s.heap.get? x = some (listOf vs.toArray n)) (hxs : StrsAre vs xs) (hxf : x ∉ [L, L1]) (hlx : xs.length ≤ 50) (hln : ∀ z ∈ xs, z.length ≤ 1000) (hr1 : sldF xs (sortF (oversF xs)) 300 0 0 [] [] = some r1) (hr2 : sldF (sortF (oversF xs)) xs 300 0 0 [] [] = some r2)
    (hret : ∀ (D t1 t2 a1 a2 b1 b2 : Addr) (va1 va2 vb1 vb2 : List Value) (ka1 ka2 kb1 kb2 kd : Nat) (h' : Heap) (tk' : Nat) (o1' : Obj), SameUp [(L1, o1)] [(L1, o1')] → Frs [e1] [(L1, o1')] → Fr h₀ L h' m →
      News h₀ L h' ((D, listOf #[.ref t1, .ref t2] kd) :: (t1, ({ cls := .type "tuple", data := .seq #[.ref a1, .ref a2] } : Obj)) :: (t2, ({ cls := .type "tuple", data := .seq #[.ref b1, .ref b2] } : Obj)) :: (a1, listOf va1.toArray ka1) :: (a2, listOf va2.toArray ka2) :: (b1, listOf vb1.toArray kb1) :: (b2, listOf vb2.toArray kb2) :: (L1, o1') :: rest) →
      StrsAre va1 r1.1 → StrsAre va2 r1.2 → StrsAre vb1 r2.1 → StrsAre vb2 r2.2 → (∀ q ∈ [D, t1, t2, a1, a2, b1, b2], s.heap.get? q = none) → Q (.ref D) { s with heap := h', toks := tk' }) :
    wpAny (model Challenge.rw_pd0046_01.row.prog w) ({ handled := none, depth := dp, frames := some [env0, e1], guards := gd, units := un } : Around) (call (.ref 162) [.ref x]) Q E s := by
  obtain ⟨oL, eL, dL⟩ := ns_get F.ns
  have hL₀ : h₀.get? L = none := Heap.get?_none_of_le F.above
  refine c_bare X T F.keep (frs_cons hk hfm dL Fs) (List.forall_mem_cons.mpr ⟨⟨eL, hL₀⟩, List.forall_mem_cons.mpr ⟨⟨(N _ h1).1, (N _ h1).2.2⟩, List.forall_mem_nil _⟩⟩) hdp hun hx hxs hxf hlx hln hr1 hr2 ?_
  intro D t1 t2 a1 a2 b1 b2 va1 va2 vb1 vb2 ka1 ka2 kb1 kb2 kd h' tk' frs' SU hg kb eD et1 et2 ea1 ea2 eb1 eb2 s1 s2 s3 s4 fr
  obtain ⟨fr', SU', F', N'⟩ := back2 (fr := [(L1, o1)]) (rest := rest) F N eL (List.forall_mem_cons.mpr ⟨h1, List.forall_mem_nil _⟩) hrest
    (List.forall_mem_cons.mpr ⟨hL₀, List.forall_mem_cons.mpr ⟨(N _ h1).2.2, List.forall_mem_nil _⟩⟩) (fun q hq => not3 (N q (hrest q hq)).2.1 (hoff q hq)) SU hg kb
  obtain ⟨o1', rfl⟩ := sameUp1 SU'
  have fr' : s.heap.get? D = none ∧ s.heap.get? t1 = none ∧ s.heap.get? t2 = none ∧ s.heap.get? a1 = none ∧ s.heap.get? a2 = none ∧ s.heap.get? b1 = none ∧ s.heap.get? b2 = none := by
    simpa only [List.forall_mem_cons, List.not_mem_nil, false_implies, implies_true, and_true] using fr
  obtain ⟨f1, f2, f3, f4, f5, f6, f7⟩ := fr'
  exact hret D t1 t2 a1 a2 b1 b2 va1 va2 vb1 vb2 ka1 ka2 kb1 kb2 kd h' tk' o1' SU' (PyProof.Rows.TI.Frs.up Fs SU') F'
    (new_entry F (new_entry F (new_entry F (new_entry F (new_entry F (new_entry F (new_entry F N' f7 eb2) f6 eb1) f5 ea2) f4 ea1) f3 et2) f2 et1) f1 eD) s1 s2 s3 s4 fr
theorem uld_N {w : World} {mean : ExcName → Option Value} {mg mb : Str → Option Value} {dp un : Nat} {gd : Option (List Code)} {h₀ : Heap} {s : Shared} {Q E : Value → Shared → Prop} {env0 e1 : Env} {L L1 : Addr} {o1 : Obj} {m : Str → Option Value} {news rest : List (Addr × Obj)} {x y : Addr} {vs us : List Value} {n k : Nat} {xs ys : List Str}
    (F : Fr h₀ L s.heap m) (X : (hd.heap_1 w.params).In h₀) (T : Top hd.view_39 (looseW hd.view_39 []) mean mg mb h₀) (N : News h₀ L s.heap news) (h1 : (L1, o1) ∈ news) (hx : (x, listOf vs.toArray n) ∈ news) (hy : (y, listOf us.toArray k) ∈ news)
    (hrest : ∀ q ∈ rest, q ∈ news) (hoff : ∀ q ∈ rest, q.1 ∉ [x, y, L1]) (hk : env0.scope.kind ≠ .module) (hfm : env0.frame = some L) (Fs : Frs [e1] [(L1, o1)])
    (hdp : dp + 1 < recursionLimit) (hun : un + 40 < cLine) (hxs : StrsAre vs xs) (hys : StrsAre us ys) (hlx : xs.length ≤ 100) (hly : ys.length ≤ 100) (hxy : @LT.lt Nat _ x y ∧ @LT.lt Nat _ L x ∧ @LT.lt Nat _ L1 x)
    (hret : ∀ (t lm : Addr) (mv uv : List Value) (km ku : Nat) (h' : Heap) (tk' : Nat) (o1' : Obj), SameUp [(L1, o1)] [(L1, o1')] → Frs [e1] [(L1, o1')] → Fr h₀ L h' m →
      News h₀ L h' ((t, ({ cls := .type "tuple", data := .seq #[.ref lm, .ref y] } : Obj)) :: (lm, listOf mv.toArray km) :: (y, listOf uv.toArray ku) :: (L1, o1') :: rest) →
      StrsAre mv (uldF xs.reverse ys []).1 → StrsAre uv (uldF xs.reverse ys []).2 → s.heap.get? t = none → s.heap.get? lm = none → (@LT.lt Nat _ y lm ∧ @LT.lt Nat _ lm t) → Q (.ref t) { s with heap := h', toks := tk' }) :
    wpAny (model Challenge.rw_pd0046_01.row.prog w) ({ handled := none, depth := dp, frames := some [env0, e1], guards := gd, units := un } : Around) (call (.ref 35) [.ref x, .ref y]) Q E s := by
  obtain ⟨oL, eL, dL⟩ := ns_get F.ns
  have hL₀ : h₀.get? L = none := Heap.get?_none_of_le F.above
  refine c_uld X T F.keep (frs_cons hk hfm dL Fs) (List.forall_mem_cons.mpr ⟨⟨(N _ hx).1, (N _ hx).2.2⟩, List.forall_mem_cons.mpr ⟨⟨(N _ hy).1, (N _ hy).2.2⟩, List.forall_mem_cons.mpr ⟨⟨eL, hL₀⟩, List.forall_mem_cons.mpr ⟨⟨(N _ h1).1, (N _ h1).2.2⟩, List.forall_mem_nil _⟩⟩⟩⟩) hdp hun hxs hys hlx hly hxy ?_
  intro t lm mv uv km ku h' tk' frs' SU hg kb et em ey s1 s2 ft fm hlt
  obtain ⟨fr', SU', F', N'⟩ := back2 (fr := [(L1, o1)]) (rest := rest) F N eL (List.forall_mem_cons.mpr ⟨h1, List.forall_mem_nil _⟩) hrest
    (List.forall_mem_cons.mpr ⟨(N _ hx).2.2, List.forall_mem_cons.mpr ⟨(N _ hy).2.2, List.forall_mem_cons.mpr ⟨hL₀, List.forall_mem_cons.mpr ⟨(N _ h1).2.2, List.forall_mem_nil _⟩⟩⟩⟩)
    (fun q hq => by
      have h := hoff q hq
      simp only [List.mem_cons, List.not_mem_nil, or_false, not_or] at h ⊢
      exact ⟨h.1, h.2.1, (N q (hrest q hq)).2.1, h.2.2⟩) SU hg kb
  obtain ⟨o1', rfl⟩ := sameUp1 SU'
  have Ny : News h₀ L h' ((y, listOf uv.toArray ku) :: (L1, o1') :: rest) := fun p hp => by
    rcases List.mem_cons.mp hp with rfl | hp
    · exact ⟨ey, (N _ hy).2⟩
    · exact N' p hp
  exact hret t lm mv uv km ku h' tk' o1' SU' (PyProof.Rows.TI.Frs.up Fs SU') F' (new_entry F (new_entry F Ny fm em) ft et) s1 s2 ft fm hlt
end
section
open PyProof.Rows.TI (Frs SameUp)
theorem eqv_str (x y : Str) : PyData.eqv (.str x) (.str y) = (x == y) := by simp only [PyData.eqv]
theorem eqvAll_strs : ∀ xs : List Str, PyData.eqvAll (xs.map .str) (xs.map .str) = true
  | [] => by simp only [List.map_nil, PyData.eqvAll]
  | x :: r => by simp only [List.map_cons, PyData.eqvAll, eqv_str, beq_self_eq_true, Bool.true_and, eqvAll_strs r]
theorem eqv_strs (xs : List Str) : PyData.eqv (.list (xs.map .str)) (.list (xs.map .str)) = true := by simp only [PyData.eqv, eqvAll_strs]
theorem eqv_told (lv hd : List Str) : PyData.eqv (toldD lv hd) (toldD lv hd) = true := by
  simp only [toldD, PyData.eqv, PyData.eqvAll, eqvAll_strs, Bool.and_self]
theorem canLayAll_strs : ∀ {xs : List Str}, xs.all PyData.strOk = true → PyData.canLayAll0 (xs.map .str) = true
  | [], _ => by simp only [List.map_nil, PyData.canLayAll0]
  | x :: r, h => by
    simp only [List.all_cons, Bool.and_eq_true] at h
    simp only [List.map_cons, PyData.canLayAll0, PyData.canLay0, h.1, Bool.true_and, canLayAll_strs h.2]
theorem depthAll_strs : ∀ xs : List Str, PyData.depthAll (xs.map .str) = 0
  | [] => by simp only [List.map_nil, PyData.depthAll]
  | x :: r => by simp only [List.map_cons, PyData.depthAll, PyData.depth, depthAll_strs r, Nat.max_self]
theorem shaped_strs {xs : List Str} (h : xs.all PyData.strOk = true) : SeqAt.shaped (.list (xs.map .str)) = true := by
  simp only [SeqAt.shaped, PyData.canLay0, canLayAll_strs h, PyData.depth, depthAll_strs, Bool.true_and]
  decide
theorem shaped_told {lv hd : List Str} (h : lv.all PyData.strOk = true) (k : hd.all PyData.strOk = true) : SeqAt.shaped (toldD lv hd) = true := by
  simp only [SeqAt.shaped, toldD, PyData.canLay0, PyData.canLayAll0, canLayAll_strs h, canLayAll_strs k, PyData.depth, PyData.depthAll, depthAll_strs, Bool.true_and, Bool.and_self]
  decide
section
variable {prog : Program} {w : World} {A : Around} {E : Value → Shared → Prop} {s : Shared} {a b : Value} {as bs : List Addr} {Q : Value → Shared → Prop}
theorem eq_told {lv hd : List Str} (ra : Reads s.heap a (toldD lv hd) as) (rb : Reads s.heap b (toldD lv hd) bs) (hl : lv.all PyData.strOk = true) (hh : hd.all PyData.strOk = true) (hu : A.units + 64 < cLine)
    (h : Q (.bool true) s) : wpAny (model prog w) A (compareOp .Eq a b) Q E s := eq_dataH ra rb (shaped_told hl hh) (shaped_told hl hh) hu (by rw [eqv_told]; exact h)
theorem ne_strs {xs ys : List Str} {x y : Addr} {vs us : List Value} {n k : Nat} (hx : s.heap.get? x = some (listOf vs.toArray n)) (hy : s.heap.get? y = some (listOf us.toArray k)) (h1 : StrsAre vs xs) (h2 : StrsAre us ys) (e : xs = ys)
    (hl : xs.all PyData.strOk = true) (hu : A.units + 64 < cLine) (h : Q (.bool false) s) : wpAny (model prog w) A (compareOp .NotEq (.ref x) (.ref y)) Q E s := by
  subst e
  exact ne_dataH (strs_read hx h1) (strs_read hy h2) (shaped_strs hl) (shaped_strs hl) hu (by rw [eqv_strs]; exact h)
theorem eq_strs {xs ys : List Str} {x y : Addr} {vs us : List Value} {n k : Nat} (hx : s.heap.get? x = some (listOf vs.toArray n)) (hy : s.heap.get? y = some (listOf us.toArray k)) (h1 : StrsAre vs xs) (h2 : StrsAre us ys) (e : xs = ys)
    (hl : xs.all PyData.strOk = true) (hu : A.units + 64 < cLine) (h : Q (.bool true) s) : wpAny (model prog w) A (compareOp .Eq (.ref x) (.ref y)) Q E s := by
  subst e
  exact eq_dataH (strs_read hx h1) (strs_read hy h2) (shaped_strs hl) (shaped_strs hl) hu (by rw [eqv_strs]; exact h)
theorem eq_nilF {z : Str} {ys : List Str} {x y : Addr} {vs us : List Value} {n k : Nat} (hx : s.heap.get? x = some (listOf vs.toArray n)) (hy : s.heap.get? y = some (listOf us.toArray k)) (h1 : StrsAre vs (z :: ys)) (h2 : StrsAre us [])
    (hl : (z :: ys).all PyData.strOk = true) (hu : A.units + 64 < cLine) (h : Q (.bool false) s) : wpAny (model prog w) A (compareOp .Eq (.ref x) (.ref y)) Q E s :=
  eq_dataH (strs_read hx h1) (strs_read hy h2) (shaped_strs hl) (shaped_strs rfl) hu (by simp only [List.map_cons, List.map_nil, PyData.eqv, PyData.eqvAll]; exact h)
end
-- the plain pairs
noncomputable def okS (z : Str) : Bool := decide (z.length ≤ 1000) && PyData.strOk z
noncomputable def pairsF (ps : List Str) : Nat → List Str → List (Str × Str) → Option (List (Str × Str))
  | 0, _, _ => none
  | f + 1, rest, acc =>
    if sldF rest (sortF (oversF rest)) 300 0 0 [] [] = some (leavesF rest, headsF rest ps) ∧ sldF (sortF (oversF rest)) rest 300 0 0 [] [] = some (headsF rest ps, leavesF rest) ∧ rest.length ≤ 50 ∧ rest.all okS = true then
      match leavesF rest with
      | [] => some acc
      | leaf :: _ =>
        if (uldF rest.reverse [leaf, dirnameF leaf] []).2 = (headsF rest ps).filter (fun z => z == dirnameF leaf) then
          pairsF ps f (sortF (uldF rest.reverse [leaf, dirnameF leaf] []).1) (if (uldF rest.reverse [leaf, dirnameF leaf] []).2 = [] then acc ++ [(leaf, dirnameF leaf)] else acc)
        else none
    else none
theorem pairsF_zero {ps rest : List Str} {acc res : List (Str × Str)} : pairsF ps 0 rest acc = some res → False := fun h => by simp only [pairsF] at h; cases h
theorem pairsF_succ {ps rest : List Str} {acc res : List (Str × Str)} {f : Nat} (h : pairsF ps (f + 1) rest acc = some res) :
    sldF rest (sortF (oversF rest)) 300 0 0 [] [] = some (leavesF rest, headsF rest ps) ∧ sldF (sortF (oversF rest)) rest 300 0 0 [] [] = some (headsF rest ps, leavesF rest) ∧ rest.length ≤ 50 ∧ rest.all okS = true ∧
    ((leavesF rest = [] ∧ acc = res) ∨ ∃ leaf l, leavesF rest = leaf :: l ∧ (uldF rest.reverse [leaf, dirnameF leaf] []).2 = (headsF rest ps).filter (fun z => z == dirnameF leaf) ∧
      pairsF ps f (sortF (uldF rest.reverse [leaf, dirnameF leaf] []).1) (if (uldF rest.reverse [leaf, dirnameF leaf] []).2 = [] then acc ++ [(leaf, dirnameF leaf)] else acc) = some res) := by
  rw [pairsF] at h
  split at h
  · rename_i hc
    refine ⟨hc.1, hc.2.1, hc.2.2.1, hc.2.2.2, ?_⟩
    split at h
    · rename_i hl
      exact .inl ⟨hl, Option.some.inj h⟩
    · rename_i leaf l hl
      split at h
      · rename_i hu
        exact .inr ⟨leaf, l, hl, hu, h⟩
      · cases h
  · cases h
theorem okS_len {rest : List Str} (h : rest.all okS = true) : ∀ z ∈ rest, z.length ≤ 1000 := fun z hz => by
  have := List.all_eq_true.mp h z hz
  simp only [okS, Bool.and_eq_true, decide_eq_true_eq] at this
  exact this.1
theorem okS_ok {rest : List Str} (h : rest.all okS = true) : rest.all PyData.strOk = true := List.all_eq_true.mpr fun z hz => by
  have := List.all_eq_true.mp h z hz
  simp only [okS, Bool.and_eq_true, decide_eq_true_eq] at this
  exact this.2
theorem ok_filter {rest : List Str} {p : Str → Bool} (h : rest.all PyData.strOk = true) : (rest.filter p).all PyData.strOk = true := List.all_eq_true.mpr fun z hz => List.all_eq_true.mp h z (List.mem_filter.mp hz).1
theorem ok_sort {ps : List Str} (h : ps.all PyData.strOk = true) : (sortF ps).all PyData.strOk = true := List.all_eq_true.mpr fun z hz => List.all_eq_true.mp h z ((sortF_perm ps).mem_iff.mp hz)
theorem ok_leaves {rest : List Str} (h : rest.all okS = true) : (leavesF rest).all PyData.strOk = true := ok_filter (okS_ok h)
theorem ok_heads {rest ps : List Str} (h : ps.all okS = true) : (headsF rest ps).all PyData.strOk = true := ok_filter (ok_sort (okS_ok h))
/-- the pairs' list: each item a list of two texts in the ledger -/
inductive PairsAre (objs : List (Addr × Obj)) : List Value → List (Str × Str) → Prop
  | nil : PairsAre objs [] []
  | cons {D : Addr} {l o : Str} {t u : Tok} {k : Nat} {vs : List Value} {ps : List (Str × Str)} : (D, listOf #[.str l t, .str o u] k) ∈ objs → PairsAre objs vs ps → PairsAre objs (.ref D :: vs) ((l, o) :: ps)
theorem PairsAre.more {objs objs' : List (Addr × Obj)} (h : ∀ p ∈ objs, p ∈ objs') : ∀ {vs ps}, PairsAre objs vs ps → PairsAre objs' vs ps
  | _, _, .nil => .nil
  | _, _, .cons hm r => .cons (h _ hm) (r.more h)
theorem PairsAre.snoc {objs : List (Addr × Obj)} {D : Addr} {l o : Str} {t u : Tok} {k : Nat} (hm : (D, listOf #[.str l t, .str o u] k) ∈ objs) : ∀ {vs ps}, PairsAre objs vs ps → PairsAre objs (vs ++ [.ref D]) (ps ++ [(l, o)])
  | _, _, .nil => .cons hm .nil
  | _, _, .cons h r => .cons h (r.snoc hm)
theorem PairsAre.length {objs : List (Addr × Obj)} : ∀ {vs ps}, PairsAre objs vs ps → vs.length = ps.length
  | _, _, .nil => rfl
  | _, _, .cons _ r => by simp only [List.length_cons, r.length]
end
section
open PyProof.Rows.TI (Frs SameUp)
theorem c_told_N {w : World} {mean : ExcName → Option Value} {mg mb : Str → Option Value} {dp un : Nat} {gd : Option (List Code)} {fr : Option (List Env)} {s : Shared} {Q E : Value → Shared → Prop} {h₀ : Heap} {L : Addr} {m : Str → Option Value} {news : List (Addr × Obj)} {ra pa : Addr} {rv pv : List Value} {rs ps : List Str}
    (F : Fr h₀ L s.heap m) (X : (hd.heap_1 w.params).In h₀) (T : Top hd.view_39 (looseW hd.view_39 []) mean mg mb h₀) (N : News h₀ L s.heap news)
    (hdp : dp + 5 < recursionLimit) (hun : un + 60 < cLine) (hr : s.heap.IsList ra rv.toArray) (hp : s.heap.IsList pa pv.toArray) (hrs : StrsAre rv rs) (hps : StrsAre pv ps) (hlr : rs.length ≤ 60) (hlp : ps.length ≤ 60) (hln : ∀ x ∈ rs, x.length ≤ 1000)
    (hret : ∀ (D : Addr) (as : List Addr) (h' : Heap) (tk' : Nat), Keep s.heap h' → Fr h₀ L h' m → News h₀ L h' news → (s.heap.get? D = none) → (Reads h' (.ref D) (toldD (leavesF rs) (headsF rs ps)) as) → Q (.ref D) { s with heap := h', toks := tk' }) :
    wpAny (model Challenge.rw_pd0046_01.row.prog w) ({ handled := none, depth := dp, frames := fr, guards := gd, units := un } : Around) (call (.ref 167) [.ref ra, .ref pa]) Q E s :=
  c_told (X.keeps F.keep) (T.keeps F.keep) hdp hun hr hp hrs hps hlr hlp hln fun x0 x1 h' tk' k y0 y1 => hret x0 x1 h' tk' k (F.keeps k) (N.grown k) y0 y1
theorem ne4 {a b c d : Addr} (h : a ∉ [b, c, d]) : a ≠ b ∧ a ≠ c ∧ a ≠ d := by
  simp only [List.mem_cons, List.not_mem_nil, or_false, not_or] at h
  exact h
local macro_rules | `(tactic| k_ne) => `(tactic| first | assumption | exact Ne.symm (by assumption) | (refine neN ?_; (try dsimp only); omega))
local macro_rules | `(tactic| k_all) => `(tactic| first | assumption | exact List.forall_mem_nil _ | (refine' List.forall_mem_cons.mpr ⟨?a, ?b⟩; (case a => k_ne); (case b => k_all)))
theorem allLt_mem {d : Nat} : ∀ {l : List (Addr × Obj)}, AllLt d l → ∀ p ∈ l, @LT.lt Nat _ p.1 d
  | [], _, _, h => nomatch h
  | _ :: _, x, p, h => by
    rcases List.mem_cons.mp h with rfl | h
    · exact x.1
    · exact allLt_mem x.2 p h
theorem leavesF_len (rest : List Str) : (leavesF rest).length ≤ rest.length := List.length_filter_le _ _
theorem headsF_len (rest ps : List Str) : (headsF rest ps).length ≤ ps.length := by
  have := List.length_filter_le (fun p => (oversF rest).any (· == p) && !(rest.any (· == p))) (sortF ps)
  rw [sortF_len] at this
  exact this
theorem strs_cons {us : List Value} {e : Str} {ys : List Str} (h : StrsAre us (e :: ys)) : ∃ t us', us = .str e t :: us' ∧ StrsAre us' ys := by
  cases h with
  | cons x t r => exact ⟨t, _, rfl, r⟩
theorem truthy_K {prog : Program} {w : World} {A : Around} {E : Value → Shared → Prop} {s : Shared} {l : Addr} {vs : List Value} {Q : Bool → Shared → Prop} (hl : s.heap.IsList l vs.toArray) (hz : vs.length ≤ 1000) (h : Q (!vs.toArray.isEmpty) { s with toks := s.toks + 1 + 1 }) :
    wpAny (model prog w) A (truthy (.ref l)) Q E s := wpAny_truthy_list hl (by simp only [List.size_toArray]; omega) h
theorem item_at {prog : Program} {w : World} {A : Around} {E : Value → Shared → Prop} {s : Shared} {value slice : PySem.Expr} {l : Addr} {v : Value} {r : List Value} {u : Tok} {Q : Value → Shared → Prop}
    (hl : s.heap.IsList l (v :: r).toArray) (h : Q v s)
    (hsl : subscripted slice false (.ref l) (.int 0 u) = operate [.ref l, .int 0 u] (getItem (.ref l) (.int 0 u))) :
    wpAny (model prog w) A (subscriptTail value slice (.ref l) (.int 0 u)) Q E s := tail_any hl.typeIs slot_list_getitem.lookup (wpAny_getItem_list hl (by decide) (by decide) (by simp) h) hsl
theorem tup_at {prog : Program} {w : World} {A : Around} {E : Value → Shared → Prop} {s : Shared} {value slice : PySem.Expr} {l a b : Addr} {u : Tok} {Q : Value → Shared → Prop}
    (hl : s.heap.get? l = some ({ cls := .type "tuple", data := .seq #[.ref a, .ref b] } : Obj)) (h : Q (.ref a) s)
    (hsl : subscripted slice false (.ref l) (.int 0 u) = operate [.ref l, .int 0 u] (getItem (.ref l) (.int 0 u))) :
    wpAny (model prog w) A (subscriptTail value slice (.ref l) (.int 0 u)) Q E s := item_tupleT (j := 0) (l := [.ref a, .ref b]) ⟨_, hl, rfl, _, rfl⟩ (by decide) (by decide) rfl rfl h hsl
theorem tup_at1 {prog : Program} {w : World} {A : Around} {E : Value → Shared → Prop} {s : Shared} {value slice : PySem.Expr} {l a b : Addr} {u : Tok} {Q : Value → Shared → Prop}
    (hl : s.heap.get? l = some ({ cls := .type "tuple", data := .seq #[.ref a, .ref b] } : Obj)) (h : Q (.ref b) s)
    (hsl : subscripted slice false (.ref l) (.int 1 u) = operate [.ref l, .int 1 u] (getItem (.ref l) (.int 1 u))) :
    wpAny (model prog w) A (subscriptTail value slice (.ref l) (.int 1 u)) Q E s := item_tupleT (j := 1) (l := [.ref a, .ref b]) ⟨_, hl, rfl, _, rfl⟩ (by decide) (by decide) rfl rfl h hsl
theorem name3 {g h : Heap} {L a b c : Addr} {oa ob : Obj} {vs : List Value} {k : Nat} {r : List (Addr × Obj)} (N : News g L h ((a, oa) :: (b, ob) :: (c, listOf vs.toArray k) :: r)) : ∃ x y z v n, x = a ∧ y = b ∧ z = c ∧ v = vs ∧ n = k := ⟨_, _, _, _, _, rfl, rfl, rfl, rfl, rfl⟩
theorem not1 {a b : Addr} (h : @Ne Nat a b) : a ∉ [b] := fun hm => h (List.mem_singleton.mp hm)
theorem not4 {a b c d : Addr} (h : @Ne Nat a b) (k : @Ne Nat a c) (l : @Ne Nat a d) : a ∉ [b, c, d] := not3 h (not2 k l)
noncomputable def InvP (s : Shared) (g' : Heap) (L' pa pr L0 : Addr) (o0 : Obj) (e0 : Env) (ps : List Str) (res : List (Str × Str)) (n : Nat) (s' : Shared) : Prop := ∃ (rest : List Str) (acc : List (Str × Str)) (ra td t1 t2 a1 a2 b1 b2 : Addr) (rv va1 va2 vb1 vb2 pv1 : List Value) (rk ka1 ka2 kb1 kb2 kd pk1 : Nat) (oc p0 : Obj) (xc : Option Value) (objs : List (Addr × Obj)) (u : Str → Option Value) (h : Heap) (tk : Nat),
    s' = { s with heap := h, toks := tk } ∧
    Fr g' L' h (fun z => if z = Str.ofString "paths" then some (.ref pa) else if z = Str.ofString "rest" then some (.ref ra) else if z = Str.ofString "pairs" then some (.ref pr) else if z = Str.ofString "told" then some (.ref td) else u z) ∧
    News g' L' h ((td, listOf #[.ref t1, .ref t2] kd) :: (t1, ({ cls := .type "tuple", data := .seq #[.ref a1, .ref a2] } : Obj)) :: (t2, ({ cls := .type "tuple", data := .seq #[.ref b1, .ref b2] } : Obj)) :: (a1, listOf va1.toArray ka1) :: (a2, listOf va2.toArray ka2) :: (b1, listOf vb1.toArray kb1) :: (b2, listOf vb2.toArray kb2) :: (L0, p0) :: (ra, listOf rv.toArray rk) :: (pr, listOf pv1.toArray pk1) :: (L' + 1, oc) :: objs) ∧
    SameUp [(L0, o0)] [(L0, p0)] ∧ Frs [e0] [(L0, p0)] ∧ StrsAre rv rest ∧ StrsAre va1 (leavesF rest) ∧ StrsAre va2 (headsF rest ps) ∧ StrsAre vb1 (headsF rest ps) ∧ StrsAre vb2 (leavesF rest) ∧ PairsAre objs pv1 acc ∧ acc.length + n ≤ 200 ∧ oc.data = .cell xc ∧
    pairsF ps n rest acc = some res ∧ (∀ q ∈ [td, t1, t2, a1, a2, b1, b2, ra], q ∉ [pr, L' + 1, L0]) ∧ (∀ p ∈ objs, p.1 ∉ [pr, L' + 1, L0])
theorem c_pairs {w : World} {mean : ExcName → Option Value} {mg mb : Str → Option Value} {dp un : Nat} {gd : Option (List Code)} {base : Heap} {s : Shared} {Q E : Value → Shared → Prop} {e0 : Env} {L0 : Addr} {o0 : Obj} {pa : Addr} {pv : List Value} {pk fuel : Nat} {ps : List Str} {res : List (Str × Str)}
    (X : (hd.heap_1 w.params).In base) (T : Top hd.view_39 (looseW hd.view_39 []) mean mg mb base) (hb : Keep base s.heap) (Fs : Frs [e0] [(L0, o0)])
    (hf : ∀ q ∈ [(L0, o0)], s.heap.get? q.1 = some q.2 ∧ base.get? q.1 = none)
    (hdp : dp + 10 < recursionLimit) (hun : un + 160 < cLine) (hp : s.heap.get? pa = some (listOf pv.toArray pk)) (hps : StrsAre pv ps) (hpf : pa ∉ [L0]) (hlp : ps.length ≤ 50) (hok : ps.all okS = true) (hfu : fuel ≤ 200) (hF : pairsF ps fuel (sortF ps) [] = some res)
    (hret : ∀ (D : Addr) (rv : List Value) (k : Nat) (objs : List (Addr × Obj)) (h' : Heap) (tk' : Nat) (frs' : List (Addr × Obj)), SameUp [(L0, o0)] frs' → (∀ q ∈ frs', h'.get? q.1 = some q.2) → KeepBut [L0] s.heap h' → (h'.get? D = some (listOf rv.toArray k)) → (PairsAre objs rv res) → (∀ p ∈ objs, h'.get? p.1 = some p.2 ∧ s.heap.get? p.1 = none) → (s.heap.get? D = none) → Q (.ref D) { s with heap := h', toks := tk' }) :
    wpAny (model Challenge.rw_pd0046_01.row.prog w) ({ handled := none, depth := dp, frames := some [e0], guards := gd, units := un } : Around) (call (.ref 172) [.ref pa]) Q E s := by
  w_top off
  k_with_none
  (k_with "call builtin:issubclass" => (k_here; (with_reducible show wpAny _ _ (call (Value.builtin _) [Value.type _, Value.ref _]) _ _ _); k_dflt (refine call_isc (News.get (by k_asm) (by k_mem)) ?_)))
  (k_with "subscriptTail Name Constant ref int" => (k_here; first | ((with_reducible show wpAny _ _ (subscriptTail _ _ _ (Value.int 1 _)) _ _ _); k_dflt (refine' tup_at1 ?k1_k ?_ ?k6_k; (case k1_k => exact News.get (by k_asm) (by k_mem)); (case k6_k => with_unfolding_all rfl))) | ((with_reducible show wpAny _ _ (subscriptTail _ _ _ (Value.int 0 _)) _ _ _); k_dflt (first | (refine' item_at ?k1_k ?_ ?k6_k; (case k1_k => exact News.isList (by k_asm) (by k_mem)); (case k6_k => with_unfolding_all rfl)) | (refine' tup_at ?k1_k ?_ ?k6_k; (case k1_k => exact News.get (by k_asm) (by k_mem)); (case k6_k => with_unfolding_all rfl))))))
  (k_with "subscriptTail Subscript" => (k_here; first | ((with_reducible show wpAny _ _ (subscriptTail _ _ _ (Value.int 1 _)) _ _ _); k_dflt (refine' tup_at1 ?k1_k ?_ ?k6_k; (case k1_k => exact News.get (by k_asm) (by k_mem)); (case k6_k => with_unfolding_all rfl))) | ((with_reducible show wpAny _ _ (subscriptTail _ _ _ (Value.int 0 _)) _ _ _); k_dflt (first | (refine' item_at ?k1_k ?_ ?k6_k; (case k1_k => exact News.isList (by k_asm) (by k_mem)); (case k6_k => with_unfolding_all rfl)) | (refine' tup_at ?k1_k ?_ ?k6_k; (case k1_k => exact News.get (by k_asm) (by k_mem)); (case k6_k => with_unfolding_all rfl))))))
  (k_with "truthy ref" => (k_here; k_dflt (refine' truthy_K ?l_k ?z_k ?_; (case l_k => exact News.isList (by k_asm) (by k_mem)); (case z_k => assumption))))
  (k_with "WhlIf" => (refine WhlIf.yes (by first | rfl | assumption) ?_))
  (k_with "WhlIf" => (refine WhlIf.no (by first | rfl | assumption) ?_))
  (k_with "WPost brk" => (refine wpost_brk ?_))
  (k_with "MINE size" => (simp only [sizeLine_eq, List.size_toArray, List.length_append, List.length_cons, List.length_nil]; omega))
  (k_with "call builtin:list.append" => (k_here; (with_reducible show wpAny _ _ (call (Value.builtin _) [Value.ref _, _]) _ _ _); k_dflt (refine' append_K ?k1_k ?k2_k ?k3_k ?_ ?z_k; (case k1_k => k_asm); (case k2_k => k_asm); (case k3_k => k_upd); (case z_k => walk_at "MINE size"); k_whole); intro hp_k Fp_k Np_k; (try k_sweep)))
  (k_with "CompSrcT" => (k_here; k_dflt (first
  | (refine LCt.CompSrcT.ledger (by rfl) (by k_asm) (by k_asm) (by k_mem) (by walk_at "MINE size") ?_; intro g9_k)
  | (refine LCt.CompSrcT.base (by rfl) (by k_asm) (by k_asm) (by assumption) (by walk_at "MINE size") ?_; intro g9_k))))
  (k_with "call builtin:sorted" => (k_here; (with_reducible show wpAny _ _ (call (Value.builtin _) [Value.ref _]) _ _ _); k_dflt (refine' sorted_K ?k1_k ?k2_k ?k3_k ?k4_k ?k5_k ?_; (case k1_k => k_asm); (case k2_k => k_asm); (case k3_k => is_list); (case k4_k => assumption); (case k5_k => omega)); intro D9_k h9_k vs9_k e9_k F9_k N9_k l1_k hS9_k; (have hL9_k := StrsAre.length hS9_k); (rw [sortF_len] at hL9_k); (try k_lt l1_k); (try k_sweep)))
  (k_with "call ref" => (k_here; (with_reducible show wpAny _ _ (call (Value.ref 136) _) _ _ _); k_dflt (refine' c_dirname_N ?k1_k ?k2_k ?k3_k ?k4_k ?kd_k ?ku_k ?z0_k ?_; (case k1_k => k_asm); (case k2_k => k_asm); (case k3_k => k_asm); (case k4_k => k_asm); (case kd_k => ktr_room); (case ku_k => ktr_units); (case z0_k => assumption); k_whole); intro v09_k h9_k tk9_k hk9_k F9_k N9_k ; (try dsimp only); (try k_fold); (try k_sweep)))
  revert X T hret
  k_fill
  intro X T hret
  ((refine wpAny_call ?_; k_dflt (refine' enterF_cells ?k1 ?k2 ?k3 ?k4 ?k6 ?k7 ?k8 ?k9 ?kB ?kD ?_ ?c2 ?c3 ?c4; (case k1 => k_asm); (case k2 => k_asm); (case k3 => assumption); (case k4 => assumption); (case k6 => k_is); (case k7 => k_is); (case k8 => ktr_room); (case k9 => exact BindsTo.of_eq rfl); (case kB => exact rfl); (case kD => decide +kernel); (case c2 => exact rfl); (case c3 => exact rfl); (case c4 => exact rfl); k_whole)))
  intro g' L' h' tk' cells' kG' X' T' F' N' C' hlt'
  k_cells C'
  (try simp only [List.cons_append, List.nil_append] at N')
  (replace hlt' := allLt_of hlt'); (try simp only [AllLt, and_true] at hlt')
  (((try unfold Body); (try dsimp only); (try k_fold)))
  have hp0 : g'.get? pa = some (listOf pv.toArray pk) := kG' _ _ hp hpf
  have hp' : g'.IsList pa pv.toArray := ⟨_, hp0, rfl, _, rfl⟩
  have hpl := hps.length
  (repeat' ((fail_if_success (with_reducible show wpAny _ _ (call (Value.ref 162) _) _ _ _)); (fail_if_success (with_reducible show wpAny _ _ (call (Value.ref 35) _) _ _ _)); (fail_if_success (with_reducible show wpAny _ _ (call (Value.ref 167) _) _ _ _)); (fail_if_success (with_reducible show wpAny _ _ (compareOp _ (Value.ref _) (Value.ref _)) _ _ _)); (fail_if_success (with_reducible show LCt.CompRestT _ _ _ _ _ _ _ _ _ _ _ _ _ _ _ _ _ _ _ _)); (fail_if_success (with_reducible show wpAny _ _ (exec (Stmt.While _ _ _ _) _) _ _ _)); first | (k_unfold; (try dsimp only)) | walk1 | (dsimp only; walk1) | (leave1; walk_say "STEP leave1"; try dsimp only) | fail "no step"))
  rename Fr _ _ _ _ => F0
  rename News _ _ _ _ => N0
  obtain ⟨D9, pr, ra, rv, rk, e1, e2, e3, e4, e5⟩ := name3 N0
  subst e1 e2 e3 e4 e5
  rename StrsAre _ (sortF ps) => hrv
  rename @LT.lt Nat _ ra pr ∧ @LT.lt Nat _ (L' + 1) pr ∧ @LT.lt Nat _ L0 pr => hprl
  rename @LT.lt Nat _ (L' + 1) ra ∧ @LT.lt Nat _ L0 ra => l1a
  rename @LT.lt Nat _ pr D9 ∧ _ => l1c
  rename List.length _ = List.length ps => hrl0
  have hprl2 := hprl.2
  have hbase : ∀ (h : Heap) (m : Str → Option Value), Fr g' L' h m → h.IsList pa pv.toArray := fun h m F => ⟨_, F.keep _ _ hp0, rfl, _, rfl⟩
  obtain ⟨f, rfl⟩ : ∃ f, fuel = f + 1 := (by cases fuel with | zero => exact (pairsF_zero hF).elim | succ f => exact ⟨f, rfl⟩)
  have H := pairsF_succ hF
  refine' bare_N (rest := [(ra, listOf rv.toArray rk), (pr, listOf #[] 0), (L' + 1, _)]) (by k_asm) (by k_asm) (by k_asm) N0 (by k_mem) ?zr ?zo ?zk ?zf Fs ?zd ?zu ?zx hrv ?zxf H.2.2.1 (okS_len H.2.2.2.1) H.1 H.2.1 ?_
  case zr => exact List.forall_mem_cons.mpr ⟨by k_mem, List.forall_mem_cons.mpr ⟨by k_mem, List.forall_mem_cons.mpr ⟨by k_mem, List.forall_mem_nil _⟩⟩⟩
  case zo => exact List.forall_mem_cons.mpr ⟨not1 (by omega), List.forall_mem_cons.mpr ⟨not1 (by omega), List.forall_mem_cons.mpr ⟨not1 (by omega), List.forall_mem_nil _⟩⟩⟩
  case zk => exact nofun
  case zf => exact rfl
  case zd => ktr_room
  case zu => ktr_units
  case zx => exact News.get N0 (by k_mem)
  case zxf => exact not3 (N0 (ra, listOf _ _) (by k_mem)).2.1 (not1 (by omega))
  intro td t1 t2 a1 a2 b1 b2 va1 va2 vb1 vb2 ka1 ka2 kb1 kb2 kd h2 tk2 p0 SU1 Fs1 F2 N2 hva1 hva2 hvb1 hvb2 fr
  have hq : ∀ q ∈ [td, t1, t2, a1, a2, b1, b2], q ∉ [pr, L' + 1, L0] := fun q hq => not4 (fresh_ne N0 (o := listOf #[] 0) (by k_mem) (fr q hq)) (fresh_ne N0 (a := L' + 1) (by k_mem) (fr q hq)) (fresh_ne N0 (a := L0) (by k_mem) (fr q hq))
  (repeat' ((fail_if_success (with_reducible show wpAny _ _ (call (Value.ref 162) _) _ _ _)); (fail_if_success (with_reducible show wpAny _ _ (call (Value.ref 35) _) _ _ _)); (fail_if_success (with_reducible show wpAny _ _ (call (Value.ref 167) _) _ _ _)); (fail_if_success (with_reducible show wpAny _ _ (compareOp _ (Value.ref _) (Value.ref _)) _ _ _)); (fail_if_success (with_reducible show LCt.CompRestT _ _ _ _ _ _ _ _ _ _ _ _ _ _ _ _ _ _ _ _)); (fail_if_success (with_reducible show wpAny _ _ (exec (Stmt.While _ _ _ _) _) _ _ _)); first | (k_unfold; (try dsimp only)) | walk1 | (dsimp only; walk1) | (leave1; walk_say "STEP leave1"; try dsimp only) | fail "no step"))
  rename Fr _ _ _ _ => F3
  rename News _ _ _ _ => N3
  have hra : ra ∉ [pr, L' + 1, L0] := not4 (by omega) (by omega) (by omega)
  have hq8 : ∀ q ∈ [td, t1, t2, a1, a2, b1, b2, ra], q ∉ [pr, L' + 1, L0] := fun q hm => (by
    rcases List.mem_append.mp (show q ∈ [td, t1, t2, a1, a2, b1, b2] ++ [ra] from hm) with h | h
    · exact hq q h
    · rw [List.mem_singleton.mp h]; exact hra)
  refine while_inv (InvP s g' L' pa pr L0 o0 e0 ps res) ?hE ?turn (f + 1) ?start
  case hE => passes_own
  case start => unfold InvP; exact ⟨sortF ps, [], ra, td, t1, t2, a1, a2, b1, b2, rv, va1, va2, vb1, vb2, [], rk, ka1, ka2, kb1, kb2, kd, 0, _, p0, _, [], _, _, _, rfl, fr_set (fr_set (fr_set (fr_set F3 rfl) rfl) rfl) rfl, N3, SU1, Fs1, hrv, hva1, hva2, hvb1, hvb2, .nil, by simpa using hfu, by assumption, hF, hq8, List.forall_mem_nil _⟩
  case turn =>
    clear l1a l1c hprl hrl0
    clear F3 N3 hva1 hva2 hvb1 hvb2 hq hq8 hra fr SU1 Fs1 hrv H hF Fs
    (try clear N2); (try clear N0); (try clear F2); (try clear F0)
    intro n s' hI
    obtain ⟨rest, acc, ra, td, t1, t2, a1, a2, b1, b2, rv, va1, va2, vb1, vb2, pv1, rk, ka1, ka2, kb1, kb2, kd, pk1, oc, p0, xc, objs, u, h, tk, rfl, F1, N1, SU, Fs, hrv, hva1, hva2, hvb1, hvb2, hpp, hsz, hdc, hF, hq, ho⟩ := hI
    obtain ⟨f, rfl⟩ : ∃ f, n = f + 1 := (by cases n with | zero => exact (pairsF_zero hF).elim | succ f => exact ⟨f, rfl⟩)
    obtain ⟨hr1, hr2, hrl, hrok, hcase⟩ := pairsF_succ hF
    obtain ⟨ntd1, ntd2, ntd3⟩ := ne4 (hq td (by k_mem))
    obtain ⟨nt11, nt12, nt13⟩ := ne4 (hq t1 (by k_mem))
    obtain ⟨nt21, nt22, nt23⟩ := ne4 (hq t2 (by k_mem))
    obtain ⟨na11, na12, na13⟩ := ne4 (hq a1 (by k_mem))
    obtain ⟨na21, na22, na23⟩ := ne4 (hq a2 (by k_mem))
    obtain ⟨nb11, nb12, nb13⟩ := ne4 (hq b1 (by k_mem))
    obtain ⟨nb21, nb22, nb23⟩ := ne4 (hq b2 (by k_mem))
    obtain ⟨nra1, nra2, nra3⟩ := ne4 (hq ra (by k_mem))
    have ho1 : ∀ p ∈ objs, p.1 ≠ pr := fun p hp => (ne4 (ho p hp)).1
    have ho2 : ∀ p ∈ objs, p.1 ≠ L' + 1 := fun p hp => (ne4 (ho p hp)).2.1
    have ho3 : ∀ p ∈ objs, p.1 ≠ L0 := fun p hp => (ne4 (ho p hp)).2.2
    have hrvl := hrv.length
    have hppl := hpp.length
    have hva0 := hva1
    have hll := leavesF_len rest
    have hva1l := hva1.length
    have hva2l := hva2.length
    have hhl := headsF_len rest ps
    (repeat' ((fail_if_success (with_reducible show wpAny _ _ (call (Value.ref 162) _) _ _ _)); (fail_if_success (with_reducible show wpAny _ _ (call (Value.ref 35) _) _ _ _)); (fail_if_success (with_reducible show wpAny _ _ (call (Value.ref 167) _) _ _ _)); (fail_if_success (with_reducible show wpAny _ _ (compareOp _ (Value.ref _) (Value.ref _)) _ _ _)); (fail_if_success (with_reducible show LCt.CompRestT _ _ _ _ _ _ _ _ _ _ _ _ _ _ _ _ _ _ _ _)); (fail_if_success (with_reducible show wpAny _ _ (exec (Stmt.While _ _ _ _) _) _ _ _)); first | (k_unfold; (try dsimp only)) | walk1 | (dsimp only; walk1) | (leave1; walk_say "STEP leave1"; try dsimp only) | fail "no step"))
    refine' c_told_N (by k_asm) (by k_asm) (by k_asm) (by k_asm) ?zd ?zu ?zr (hbase _ _ (by k_asm)) hrv hps ?z1 ?z2 (okS_len hrok) ?_
    case zd => ktr_room
    case zu => ktr_units
    case zr => exact News.isList (by k_asm) (by k_mem)
    case z1 => omega
    case z2 => omega
    intro D9 as9 h9 tk9 k9 F9 N9 fD9 R9
    (repeat' ((fail_if_success (with_reducible show wpAny _ _ (call (Value.ref 162) _) _ _ _)); (fail_if_success (with_reducible show wpAny _ _ (call (Value.ref 35) _) _ _ _)); (fail_if_success (with_reducible show wpAny _ _ (call (Value.ref 167) _) _ _ _)); (fail_if_success (with_reducible show wpAny _ _ (compareOp _ (Value.ref _) (Value.ref _)) _ _ _)); (fail_if_success (with_reducible show LCt.CompRestT _ _ _ _ _ _ _ _ _ _ _ _ _ _ _ _ _ _ _ _)); (fail_if_success (with_reducible show wpAny _ _ (exec (Stmt.While _ _ _ _) _) _ _ _)); first | (k_unfold; (try dsimp only)) | walk1 | (dsimp only; walk1) | (leave1; walk_say "STEP leave1"; try dsimp only) | fail "no step"))
    refine' eq_told (two_read (News.get N9 (by k_mem)) (pair_read (News.get N9 (by k_mem)) (strs_read (News.get N9 (by k_mem)) hva0) (strs_read (News.get N9 (by k_mem)) hva2)) (pair_read (News.get N9 (by k_mem)) (strs_read (News.get N9 (by k_mem)) hvb1) (strs_read (News.get N9 (by k_mem)) hvb2))) R9 (ok_leaves hrok) (ok_heads hok) ?zu ?_
    case zu => ktr_units
    rcases hcase with ⟨hl0, rfl⟩ | ⟨leaf, l, hl1, hu2, hF2⟩
    · rw [hl0] at hva1
      obtain rfl := hva1.nil_inv
      have hz3 : ([] : List Value).length ≤ 1000 := Nat.zero_le _
      (repeat' ((fail_if_success (with_reducible show wpAny _ _ (call (Value.ref 162) _) _ _ _)); (fail_if_success (with_reducible show wpAny _ _ (call (Value.ref 35) _) _ _ _)); (fail_if_success (with_reducible show wpAny _ _ (call (Value.ref 167) _) _ _ _)); (fail_if_success (with_reducible show wpAny _ _ (compareOp _ (Value.ref _) (Value.ref _)) _ _ _)); (fail_if_success (with_reducible show LCt.CompRestT _ _ _ _ _ _ _ _ _ _ _ _ _ _ _ _ _ _ _ _)); (fail_if_success (with_reducible show wpAny _ _ (exec (Stmt.While _ _ _ _) _) _ _ _)); first | (k_unfold; (try dsimp only)) | walk1 | (dsimp only; walk1) | (leave1; walk_say "STEP leave1"; try dsimp only) | fail "no step"))
      refine' c_told_N (by k_asm) (by k_asm) (by k_asm) (by k_asm) ?zd ?zu ?zr (hbase _ _ (by k_asm)) hrv hps ?z1 ?z2 (okS_len hrok) ?_
      case zd => ktr_room
      case zu => ktr_units
      case zr => exact News.isList (by k_asm) (by k_mem)
      case z1 => omega
      case z2 => omega
      intro D9 as9 h9 tk9 k9 F9 N9 fD9 R9
      (repeat' ((fail_if_success (with_reducible show wpAny _ _ (call (Value.ref 162) _) _ _ _)); (fail_if_success (with_reducible show wpAny _ _ (call (Value.ref 35) _) _ _ _)); (fail_if_success (with_reducible show wpAny _ _ (call (Value.ref 167) _) _ _ _)); (fail_if_success (with_reducible show wpAny _ _ (compareOp _ (Value.ref _) (Value.ref _)) _ _ _)); (fail_if_success (with_reducible show LCt.CompRestT _ _ _ _ _ _ _ _ _ _ _ _ _ _ _ _ _ _ _ _)); (fail_if_success (with_reducible show wpAny _ _ (exec (Stmt.While _ _ _ _) _) _ _ _)); first | (k_unfold; (try dsimp only)) | walk1 | (dsimp only; walk1) | (leave1; walk_say "STEP leave1"; try dsimp only) | fail "no step"))
      refine' eq_told (two_read (News.get N9 (by k_mem)) (pair_read (News.get N9 (by k_mem)) (strs_read (News.get N9 (by k_mem)) hva0) (strs_read (News.get N9 (by k_mem)) hva2)) (pair_read (News.get N9 (by k_mem)) (strs_read (News.get N9 (by k_mem)) hvb1) (strs_read (News.get N9 (by k_mem)) hvb2))) R9 (ok_leaves hrok) (ok_heads hok) ?zu ?_
      case zu => ktr_units
      (repeat' ((fail_if_success (with_reducible show wpAny _ _ (call (Value.ref 162) _) _ _ _)); (fail_if_success (with_reducible show wpAny _ _ (call (Value.ref 35) _) _ _ _)); (fail_if_success (with_reducible show wpAny _ _ (call (Value.ref 167) _) _ _ _)); (fail_if_success (with_reducible show wpAny _ _ (compareOp _ (Value.ref _) (Value.ref _)) _ _ _)); (fail_if_success (with_reducible show LCt.CompRestT _ _ _ _ _ _ _ _ _ _ _ _ _ _ _ _ _ _ _ _)); (fail_if_success (with_reducible show wpAny _ _ (exec (Stmt.While _ _ _ _) _) _ _ _)); first | (k_unfold; (try dsimp only)) | walk1 | (dsimp only; walk1) | (leave1; walk_say "STEP leave1"; try dsimp only) | fail "no step"))
      rename News _ _ _ _ => Nz
      rename Fr _ _ _ _ => Fz
      have fresh : ∀ (b : Addr) (hb0 : b ≠ L0), g'.get? b = none → s.heap.get? b = none := fun b hb0 hn => by
        cases e : s.heap.get? b with
        | none => rfl
        | some o' => have q := kG' b o' e (not1 hb0); rw [hn] at q; cases q
      exact hret pr pv1 pk1 objs _ _ [(L0, p0)] SU (List.forall_mem_cons.mpr ⟨(Nz (L0, p0) (by k_mem)).1, List.forall_mem_nil _⟩) (fun b o e hn => Fz.keep b o (kG' b o e hn)) (News.get Nz (by k_mem)) hpp
        (fun p hp => (fun z => ⟨z.1, fresh _ (ho3 p hp) z.2.2⟩) (Nz p (by repeat' first | exact hp | apply List.mem_cons_of_mem))) (fresh pr (show @Ne Nat pr L0 by omega) (Nz (pr, listOf _ _) (by k_mem)).2.2)
    · rw [hl1] at hva1
      have hlm : leaf ∈ rest := (List.mem_filter.mp (show leaf ∈ leavesF rest by rw [hl1]; exact List.mem_cons_self)).1
      have hlfl := okS_len hrok leaf hlm
      rw [hl1] at hll
      obtain ⟨tl, va3, rfl, hva3⟩ := strs_cons hva1
      have hz3 : (Value.str leaf tl :: va3).length ≤ 1000 := (by rw [hva1.length]; omega)
      have hne3 : (!(Value.str leaf tl :: va3).toArray.isEmpty) = true := by simp
      (repeat' ((fail_if_success (with_reducible show wpAny _ _ (call (Value.ref 162) _) _ _ _)); (fail_if_success (with_reducible show wpAny _ _ (call (Value.ref 35) _) _ _ _)); (fail_if_success (with_reducible show wpAny _ _ (call (Value.ref 167) _) _ _ _)); (fail_if_success (with_reducible show wpAny _ _ (compareOp _ (Value.ref _) (Value.ref _)) _ _ _)); (fail_if_success (with_reducible show LCt.CompRestT _ _ _ _ _ _ _ _ _ _ _ _ _ _ _ _ _ _ _ _)); (fail_if_success (with_reducible show wpAny _ _ (exec (Stmt.While _ _ _ _) _) _ _ _)); first | (k_unfold; (try dsimp only)) | walk1 | (dsimp only; walk1) | (leave1; walk_say "STEP leave1"; try dsimp only) | fail "no step"))
      rename News _ _ _ _ => N4
      refine' uld_N (rest := (td, listOf #[.ref t1, .ref t2] kd) :: (t1, ({ cls := .type "tuple", data := .seq #[.ref a1, .ref a2] } : Obj)) :: (a2, listOf va2.toArray ka2) :: (pr, listOf pv1.toArray pk1) :: (L' + 1, _) :: objs) (by k_asm) (by k_asm) (by k_asm) N4 (by k_mem) (by k_mem) (by k_mem) ?zr ?zo ?zk ?zf Fs ?zd ?zu hrv (.cons _ _ (.cons _ _ .nil)) ?z1 ?z2 ?zl ?_
      case zr => exact List.forall_mem_cons.mpr ⟨by k_mem, List.forall_mem_cons.mpr ⟨by k_mem, List.forall_mem_cons.mpr ⟨by k_mem, List.forall_mem_cons.mpr ⟨by k_mem, List.forall_mem_cons.mpr ⟨by k_mem, fun q hq => by repeat' first | exact hq | apply List.mem_cons_of_mem⟩⟩⟩⟩⟩
      case zo =>
        obtain ⟨y9, x9, e1, e2⟩ := name2 N4
        subst e1 e2
        rename @LT.lt Nat _ x9 y9 ∧ _ => ly
        rename @LT.lt Nat _ _ x9 ∧ _ => lx
        have lxo := allLt_mem (l := objs) (d := x9) (by simp only [lx])
        have lyo := allLt_mem (l := objs) (d := y9) (by simp only [ly])
        exact List.forall_mem_cons.mpr ⟨not4 (by omega) (by omega) ntd3, List.forall_mem_cons.mpr ⟨not4 (by omega) (by omega) nt13, List.forall_mem_cons.mpr ⟨not4 (by omega) (by omega) na23, List.forall_mem_cons.mpr ⟨not4 (by omega) (by omega) (by omega), List.forall_mem_cons.mpr ⟨not4 (by omega) (by omega) (by omega), fun q hq => not4 (Nat.ne_of_lt (lxo q hq)) (Nat.ne_of_lt (lyo q hq)) (ho3 q hq)⟩⟩⟩⟩⟩
      case zk => exact nofun
      case zf => exact rfl
      case zd => ktr_room
      case zu => ktr_units
      case z1 => omega
      case z2 => exact Nat.le_of_ble_eq_true rfl
      case zl => omega
      intro t5 ms5 mv5 uv5 km5 ku5 h5 tk5 p5 SU5 Fs5 F5 N5 hmv5 huv5 ft5 fm5 hlt5
      have hz5 : va2.length ≤ 1000 := by omega
      (repeat' ((fail_if_success (with_reducible show wpAny _ _ (call (Value.ref 162) _) _ _ _)); (fail_if_success (with_reducible show wpAny _ _ (call (Value.ref 35) _) _ _ _)); (fail_if_success (with_reducible show wpAny _ _ (call (Value.ref 167) _) _ _ _)); (fail_if_success (with_reducible show wpAny _ _ (compareOp _ (Value.ref _) (Value.ref _)) _ _ _)); (fail_if_success (with_reducible show LCt.CompRestT _ _ _ _ _ _ _ _ _ _ _ _ _ _ _ _ _ _ _ _)); (fail_if_success (with_reducible show wpAny _ _ (exec (Stmt.While _ _ _ _) _) _ _ _)); first | (k_unfold; (try dsimp only)) | walk1 | (dsimp only; walk1) | (leave1; walk_say "STEP leave1"; try dsimp only) | fail "no step"))
      refine filter_strs hva2 (fun z => z == dirnameF leaf) ?hS ?test ?step ?fin
      case hS => lcg_src
      case test =>
        intro a8 t8 ys8 I8 oI8 C8 oC8 D8 m8 h8 tk8 E8 ha8 hC8 hx8 F8 N8 off8 ne8 Q8 hQ8
        (try simp only [LCg.Off3, and_true] at off8)
        (repeat' ((fail_if_success (with_reducible show wpAny _ _ (call (Value.ref 162) _) _ _ _)); (fail_if_success (with_reducible show wpAny _ _ (call (Value.ref 35) _) _ _ _)); (fail_if_success (with_reducible show wpAny _ _ (call (Value.ref 167) _) _ _ _)); (fail_if_success (with_reducible show wpAny _ _ (compareOp _ (Value.ref _) (Value.ref _)) _ _ _)); (fail_if_success (with_reducible show LCt.CompRestT _ _ _ _ _ _ _ _ _ _ _ _ _ _ _ _ _ _ _ _)); (fail_if_success (with_reducible show wpAny _ _ (exec (Stmt.While _ _ _ _) _) _ _ _)); first | (k_unfold; (try dsimp only)) | walk1 | (dsimp only; walk1) | (leave1; walk_say "STEP leave1"; try dsimp only) | fail "no step"))
        first | exact hQ8 _ _ (by assumption) | exact hQ8 _ _ (fun _ _ e => e)
      case step =>
        intro a8 t8 ys8 I8 oI8 C8 oC8 D8 m8 h8 tk8 E8 ha8 hp8 hC8 hx8 F8 N8 off8 ne8 Q8 hQ8
        (try simp only [LCg.Off3, and_true] at off8)
        (repeat' ((fail_if_success (with_reducible show wpAny _ _ (call (Value.ref 162) _) _ _ _)); (fail_if_success (with_reducible show wpAny _ _ (call (Value.ref 35) _) _ _ _)); (fail_if_success (with_reducible show wpAny _ _ (call (Value.ref 167) _) _ _ _)); (fail_if_success (with_reducible show wpAny _ _ (compareOp _ (Value.ref _) (Value.ref _)) _ _ _)); (fail_if_success (with_reducible show LCt.CompRestT _ _ _ _ _ _ _ _ _ _ _ _ _ _ _ _ _ _ _ _)); (fail_if_success (with_reducible show wpAny _ _ (exec (Stmt.While _ _ _ _) _) _ _ _)); first | (k_unfold; (try dsimp only)) | walk1 | (dsimp only; walk1) | (leave1; walk_say "STEP leave1"; try dsimp only) | fail "no step"))
        first | exact hQ8 _ _ _ (by assumption) | exact hQ8 _ _ _ (fun _ _ e => e)
      case fin =>
        intro us hus
        have hul := hus.length
        (repeat' ((fail_if_success (with_reducible show wpAny _ _ (call (Value.ref 162) _) _ _ _)); (fail_if_success (with_reducible show wpAny _ _ (call (Value.ref 35) _) _ _ _)); (fail_if_success (with_reducible show wpAny _ _ (call (Value.ref 167) _) _ _ _)); (fail_if_success (with_reducible show wpAny _ _ (compareOp _ (Value.ref _) (Value.ref _)) _ _ _)); (fail_if_success (with_reducible show LCt.CompRestT _ _ _ _ _ _ _ _ _ _ _ _ _ _ _ _ _ _ _ _)); (fail_if_success (with_reducible show wpAny _ _ (exec (Stmt.While _ _ _ _) _) _ _ _)); first | (k_unfold; (try dsimp only)) | walk1 | (dsimp only; walk1) | (leave1; walk_say "STEP leave1"; try dsimp only) | fail "no step"))
        rename News _ _ _ _ => N6
        refine' ne_strs (News.get N6 (by k_mem)) (News.get N6 (by k_mem)) huv5 hus hu2 ?zk ?zu ?_
        case zk => rw [hu2]; exact ok_filter (ok_heads hok)
        case zu => ktr_units
        (repeat' ((fail_if_success (with_reducible show wpAny _ _ (call (Value.ref 162) _) _ _ _)); (fail_if_success (with_reducible show wpAny _ _ (call (Value.ref 35) _) _ _ _)); (fail_if_success (with_reducible show wpAny _ _ (call (Value.ref 167) _) _ _ _)); (fail_if_success (with_reducible show wpAny _ _ (compareOp _ (Value.ref _) (Value.ref _)) _ _ _)); (fail_if_success (with_reducible show LCt.CompRestT _ _ _ _ _ _ _ _ _ _ _ _ _ _ _ _ _ _ _ _)); (fail_if_success (with_reducible show wpAny _ _ (exec (Stmt.While _ _ _ _) _) _ _ _)); first | (k_unfold; (try dsimp only)) | walk1 | (dsimp only; walk1) | (leave1; walk_say "STEP leave1"; try dsimp only) | fail "no step"))
        rename News _ _ _ _ => N7
        by_cases hnil : (uldF rest.reverse [leaf, dirnameF leaf] []).2 = []
        · rw [if_pos hnil] at hF2
          obtain ⟨f, rfl⟩ : ∃ f', f = f' + 1 := (by cases f with | zero => exact (pairsF_zero hF2).elim | succ f => exact ⟨f, rfl⟩)
          have H2 := pairsF_succ hF2
          have hm5l : mv5.length ≤ 50 := (by rw [hmv5.length]; have := H2.2.2.1; rw [sortF_len] at this; exact this)
          refine' eq_strs (News.get N7 (by k_mem)) (News.get N7 (by k_mem)) huv5 .nil hnil ?zk ?zu ?_
          case zk => rw [hnil]; rfl
          case zu => ktr_units
          (repeat' ((fail_if_success (with_reducible show wpAny _ _ (call (Value.ref 162) _) _ _ _)); (fail_if_success (with_reducible show wpAny _ _ (call (Value.ref 35) _) _ _ _)); (fail_if_success (with_reducible show wpAny _ _ (call (Value.ref 167) _) _ _ _)); (fail_if_success (with_reducible show wpAny _ _ (compareOp _ (Value.ref _) (Value.ref _)) _ _ _)); (fail_if_success (with_reducible show LCt.CompRestT _ _ _ _ _ _ _ _ _ _ _ _ _ _ _ _ _ _ _ _)); (fail_if_success (with_reducible show wpAny _ _ (exec (Stmt.While _ _ _ _) _) _ _ _)); first | (k_unfold; (try dsimp only)) | walk1 | (dsimp only; walk1) | (leave1; walk_say "STEP leave1"; try dsimp only) | fail "no step"))
          rename News _ _ _ _ => N8
          rename StrsAre _ (sortF _) => hso
          (try simp only [List.push_toArray] at N8)
          obtain ⟨D8, lp8, e8, f8⟩ := name2 N8
          subst e8 f8
          refine' bare_N (rest := (D8, listOf _ _) :: (pr, listOf _ _) :: (L' + 1, _) :: (lp8, listOf _ _) :: objs) (by k_asm) (by k_asm) (by k_asm) N8 (by k_mem) ?zr ?zo ?zk ?zf Fs5 ?zd ?zu ?zx hso ?zxf H2.2.2.1 (okS_len H2.2.2.2.1) H2.1 H2.2.1 ?_
          case zr => exact List.forall_mem_cons.mpr ⟨by k_mem, List.forall_mem_cons.mpr ⟨by k_mem, List.forall_mem_cons.mpr ⟨by k_mem, List.forall_mem_cons.mpr ⟨by k_mem, fun q hq => by repeat' first | exact hq | apply List.mem_cons_of_mem⟩⟩⟩⟩
          case zo => exact List.forall_mem_cons.mpr ⟨not1 (by omega), List.forall_mem_cons.mpr ⟨not1 (by omega), List.forall_mem_cons.mpr ⟨not1 (by omega), List.forall_mem_cons.mpr ⟨not1 (by omega), fun q hq => not1 (ho3 q hq)⟩⟩⟩⟩
          case zk => exact nofun
          case zf => exact rfl
          case zd => ktr_room
          case zu => ktr_units
          case zx => exact News.get N8 (by k_mem)
          case zxf => exact not3 (N8 (D8, listOf _ _) (by k_mem)).2.1 (not1 (by omega))
          intro tdz t1z t2z a1z a2z b1z b2z va1z va2z vb1z vb2z ka1z ka2z kb1z kb2z kdz h9z tk9z p9 SU9 Fs9 F9z N9z hva1z hva2z hvb1z hvb2z fr9
          have hq9 : ∀ q ∈ [tdz, t1z, t2z, a1z, a2z, b1z, b2z], q ∉ [pr, L' + 1, L0] := fun q hq => not4 (fresh_ne N8 (a := pr) (by k_mem) (fr9 q hq)) (fresh_ne N8 (a := L' + 1) (by k_mem) (fr9 q hq)) (fresh_ne N8 (a := L0) (by k_mem) (fr9 q hq))
          have hD8 : D8 ∉ [pr, L' + 1, L0] := not4 (by omega) (by omega) (by omega)
          have hlp8 : lp8 ∉ [pr, L' + 1, L0] := not4 (by omega) (by omega) (by omega)
          have hq8 : ∀ q ∈ [tdz, t1z, t2z, a1z, a2z, b1z, b2z, D8], q ∉ [pr, L' + 1, L0] := fun q hm => (by
            rcases List.mem_append.mp (show q ∈ [tdz, t1z, t2z, a1z, a2z, b1z, b2z] ++ [D8] from hm) with h | h
            · exact hq9 q h
            · rw [List.mem_singleton.mp h]; exact hD8)
          (repeat' ((fail_if_success (with_reducible show wpAny _ _ (call (Value.ref 162) _) _ _ _)); (fail_if_success (with_reducible show wpAny _ _ (call (Value.ref 35) _) _ _ _)); (fail_if_success (with_reducible show wpAny _ _ (call (Value.ref 167) _) _ _ _)); (fail_if_success (with_reducible show wpAny _ _ (compareOp _ (Value.ref _) (Value.ref _)) _ _ _)); (fail_if_success (with_reducible show LCt.CompRestT _ _ _ _ _ _ _ _ _ _ _ _ _ _ _ _ _ _ _ _)); (fail_if_success (with_reducible show wpAny _ _ (exec (Stmt.While _ _ _ _) _) _ _ _)); first | (k_unfold; (try dsimp only)) | walk1 | (dsimp only; walk1) | (leave1; walk_say "STEP leave1"; try dsimp only) | fail "no step"))
          rename Fr _ _ _ _ => F3z
          rename News _ _ _ _ => N3z
          refine ⟨f + 1, Nat.lt_succ_self _, ?_⟩
          unfold InvP
          refine ⟨_, (acc ++ [(leaf, dirnameF leaf)]), D8, tdz, t1z, t2z, a1z, a2z, b1z, b2z, _, va1z, va2z, vb1z, vb2z, _, _, ka1z, ka2z, kb1z, kb2z, kdz, _, _, p9, _, _, _, _, _, rfl, fr_set (fr_set (fr_set (fr_set F3z rfl) rfl) rfl) rfl, N3z, PyProof.Rows.TI.SameUp.trans (PyProof.Rows.TI.SameUp.trans SU SU5) SU9, Fs9, hso, hva1z, hva2z, hvb1z, hvb2z, ?_, ?_, by assumption, hF2, hq8, ?_⟩
          · exact (hpp.more fun p hp => List.mem_cons_of_mem _ hp).snoc List.mem_cons_self
          · simp only [List.length_append, List.length_cons, List.length_nil]; omega
          · exact List.forall_mem_cons.mpr ⟨hlp8, ho⟩
        · rw [if_neg hnil] at hF2
          obtain ⟨f, rfl⟩ : ∃ f', f = f' + 1 := (by cases f with | zero => exact (pairsF_zero hF2).elim | succ f => exact ⟨f, rfl⟩)
          have H2 := pairsF_succ hF2
          have hm5l : mv5.length ≤ 50 := (by rw [hmv5.length]; have := H2.2.2.1; rw [sortF_len] at this; exact this)
          obtain ⟨z0, zs, hzs⟩ : ∃ z0 zs, (uldF rest.reverse [leaf, dirnameF leaf] []).2 = z0 :: zs := (by cases e : (uldF rest.reverse [leaf, dirnameF leaf] []).2 with | nil => exact (hnil e).elim | cons z0 zs => exact ⟨z0, zs, rfl⟩)
          rw [hzs] at huv5
          refine' eq_nilF (News.get N7 (by k_mem)) (News.get N7 (by k_mem)) huv5 .nil ?zk ?zu ?_
          case zk => rw [← hzs, hu2]; exact ok_filter (ok_heads hok)
          case zu => ktr_units
          (repeat' ((fail_if_success (with_reducible show wpAny _ _ (call (Value.ref 162) _) _ _ _)); (fail_if_success (with_reducible show wpAny _ _ (call (Value.ref 35) _) _ _ _)); (fail_if_success (with_reducible show wpAny _ _ (call (Value.ref 167) _) _ _ _)); (fail_if_success (with_reducible show wpAny _ _ (compareOp _ (Value.ref _) (Value.ref _)) _ _ _)); (fail_if_success (with_reducible show LCt.CompRestT _ _ _ _ _ _ _ _ _ _ _ _ _ _ _ _ _ _ _ _)); (fail_if_success (with_reducible show wpAny _ _ (exec (Stmt.While _ _ _ _) _) _ _ _)); first | (k_unfold; (try dsimp only)) | walk1 | (dsimp only; walk1) | (leave1; walk_say "STEP leave1"; try dsimp only) | fail "no step"))
          rename News _ _ _ _ => N8
          rename StrsAre _ (sortF _) => hso
          (try simp only [List.push_toArray] at N8)
          obtain ⟨D8, lp8, e8, f8⟩ := name2 N8
          subst e8 f8
          refine' bare_N (rest := (D8, listOf _ _) :: (pr, listOf _ _) :: (L' + 1, _) :: objs) (by k_asm) (by k_asm) (by k_asm) N8 (by k_mem) ?zr ?zo ?zk ?zf Fs5 ?zd ?zu ?zx hso ?zxf H2.2.2.1 (okS_len H2.2.2.2.1) H2.1 H2.2.1 ?_
          case zr => exact List.forall_mem_cons.mpr ⟨by k_mem, List.forall_mem_cons.mpr ⟨by k_mem, List.forall_mem_cons.mpr ⟨by k_mem, fun q hq => by repeat' first | exact hq | apply List.mem_cons_of_mem⟩⟩⟩
          case zo => exact List.forall_mem_cons.mpr ⟨not1 (by omega), List.forall_mem_cons.mpr ⟨not1 (by omega), List.forall_mem_cons.mpr ⟨not1 (by omega), fun q hq => not1 (ho3 q hq)⟩⟩⟩
          case zk => exact nofun
          case zf => exact rfl
          case zd => ktr_room
          case zu => ktr_units
          case zx => exact News.get N8 (by k_mem)
          case zxf => exact not3 (N8 (D8, listOf _ _) (by k_mem)).2.1 (not1 (by omega))
          intro tdz t1z t2z a1z a2z b1z b2z va1z va2z vb1z vb2z ka1z ka2z kb1z kb2z kdz h9z tk9z p9 SU9 Fs9 F9z N9z hva1z hva2z hvb1z hvb2z fr9
          have hq9 : ∀ q ∈ [tdz, t1z, t2z, a1z, a2z, b1z, b2z], q ∉ [pr, L' + 1, L0] := fun q hq => not4 (fresh_ne N8 (a := pr) (by k_mem) (fr9 q hq)) (fresh_ne N8 (a := L' + 1) (by k_mem) (fr9 q hq)) (fresh_ne N8 (a := L0) (by k_mem) (fr9 q hq))
          have hD8 : D8 ∉ [pr, L' + 1, L0] := not4 (by omega) (by omega) (by omega)
          have hq8 : ∀ q ∈ [tdz, t1z, t2z, a1z, a2z, b1z, b2z, D8], q ∉ [pr, L' + 1, L0] := fun q hm => (by
            rcases List.mem_append.mp (show q ∈ [tdz, t1z, t2z, a1z, a2z, b1z, b2z] ++ [D8] from hm) with h | h
            · exact hq9 q h
            · rw [List.mem_singleton.mp h]; exact hD8)
          (repeat' ((fail_if_success (with_reducible show wpAny _ _ (call (Value.ref 162) _) _ _ _)); (fail_if_success (with_reducible show wpAny _ _ (call (Value.ref 35) _) _ _ _)); (fail_if_success (with_reducible show wpAny _ _ (call (Value.ref 167) _) _ _ _)); (fail_if_success (with_reducible show wpAny _ _ (compareOp _ (Value.ref _) (Value.ref _)) _ _ _)); (fail_if_success (with_reducible show LCt.CompRestT _ _ _ _ _ _ _ _ _ _ _ _ _ _ _ _ _ _ _ _)); (fail_if_success (with_reducible show wpAny _ _ (exec (Stmt.While _ _ _ _) _) _ _ _)); first | (k_unfold; (try dsimp only)) | walk1 | (dsimp only; walk1) | (leave1; walk_say "STEP leave1"; try dsimp only) | fail "no step"))
          rename Fr _ _ _ _ => F3z
          rename News _ _ _ _ => N3z
          refine ⟨f + 1, Nat.lt_succ_self _, ?_⟩
          unfold InvP
          refine ⟨_, acc, D8, tdz, t1z, t2z, a1z, a2z, b1z, b2z, _, va1z, va2z, vb1z, vb2z, _, _, ka1z, ka2z, kb1z, kb2z, kdz, _, _, p9, _, _, _, _, _, rfl, fr_set (fr_set (fr_set (fr_set F3z rfl) rfl) rfl) rfl, N3z, PyProof.Rows.TI.SameUp.trans (PyProof.Rows.TI.SameUp.trans SU SU5) SU9, Fs9, hso, hva1z, hva2z, hvb1z, hvb2z, ?_, ?_, by assumption, hF2, hq8, ?_⟩
          · exact hpp
          · omega
          · exact ho
end
section
open PyProof.Rows.TI (Frs SameUp)
theorem c_joined_N {w : World} {mean : ExcName → Option Value} {mg mb : Str → Option Value} {dp un : Nat} {gd : Option (List Code)} {fr : Option (List Env)} {s : Shared} {Q E : Value → Shared → Prop} {h₀ : Heap} {L : Addr} {m : Str → Option Value} {news : List (Addr × Obj)} {ua : Addr} {u0 u1 u2 u3 u4 : Nat} {r0 r1 r2 r3 r4 rt : Tok} {turn : Int} {p0 p1 p2 p3 p4 p5 q0 q1 q2 q3 q4 : Str}
    (F : Fr h₀ L s.heap m) (X : (hd.heap_1 w.params).In h₀) (T : Top hd.view_39 (looseW hd.view_39 []) mean mg mb h₀) (N : News h₀ L s.heap news)
    (hdp : dp + 5 < recursionLimit) (hun : un + 60 < cLine) (hu : s.heap.IsList ua #[.int ((u0 : Nat) : Int) r0, .int ((u1 : Nat) : Int) r1, .int ((u2 : Nat) : Int) r2, .int ((u3 : Nat) : Int) r3, .int ((u4 : Nat) : Int) r4]) (h0 : p0 = Str.ofString "/") (g0 : [p0][u0]? = some q0) (bd0 : q0.length ≤ 1000) (h1 : p1 = joinF q0 (nameF (0 + turn))) (g1 : [p0, p1][u1]? = some q1) (bd1 : q1.length ≤ 1000) (h2 : p2 = joinF q1 (nameF (1 + turn))) (g2 : [p0, p1, p2][u2]? = some q2) (bd2 : q2.length ≤ 1000) (h3 : p3 = joinF q2 (nameF (2 + turn))) (g3 : [p0, p1, p2, p3][u3]? = some q3) (bd3 : q3.length ≤ 1000) (h4 : p4 = joinF q3 (nameF (3 + turn))) (g4 : [p0, p1, p2, p3, p4][u4]? = some q4) (bd4 : q4.length ≤ 1000) (h5 : p5 = joinF q4 (nameF (4 + turn)))
    (hret : ∀ (D : Addr) (k : Nat) (vs : List Value) (h' : Heap) (tk' : Nat), Keep s.heap h' → Fr h₀ L h' m → News h₀ L h' news → (s.heap.get? D = none) → (h'.get? D = some (listOf vs.toArray k)) → (StrsAre vs [p0, p1, p2, p3, p4, p5]) → Q (.ref D) { s with heap := h', toks := tk' }) :
    wpAny (model Challenge.rw_pd0046_01.row.prog w) ({ handled := none, depth := dp, frames := fr, guards := gd, units := un } : Around) (call (.ref 150) [.ref ua, .int turn rt]) Q E s :=
  c_joined (X.keeps F.keep) (T.keeps F.keep) hdp hun hu h0 g0 bd0 h1 g1 bd1 h2 g2 bd2 h3 g3 bd3 h4 g4 bd4 h5 fun x0 x1 x2 h' tk' k y0 y1 y2 => hret x0 x1 x2 h' tk' k (F.keeps k) (N.grown k) y0 y1 y2
theorem c_spelled_N {w : World} {mean : ExcName → Option Value} {mg mb : Str → Option Value} {dp un : Nat} {gd : Option (List Code)} {fr : Option (List Env)} {s : Shared} {Q E : Value → Shared → Prop} {h₀ : Heap} {L : Addr} {m : Str → Option Value} {news : List (Addr × Obj)} {ua : Addr} {u0 u1 u2 u3 u4 : Nat} {r0 r1 r2 r3 r4 rt : Tok} {turn : Int} {p0 p1 p2 p3 p4 p5 q0 q1 q2 q3 q4 : Str}
    (F : Fr h₀ L s.heap m) (X : (hd.heap_1 w.params).In h₀) (T : Top hd.view_39 (looseW hd.view_39 []) mean mg mb h₀) (N : News h₀ L s.heap news)
    (hdp : dp + 5 < recursionLimit) (hun : un + 60 < cLine) (hu : s.heap.IsList ua #[.int ((u0 : Nat) : Int) r0, .int ((u1 : Nat) : Int) r1, .int ((u2 : Nat) : Int) r2, .int ((u3 : Nat) : Int) r3, .int ((u4 : Nat) : Int) r4]) (h0 : p0 = Str.ofString "") (g0 : [p0][u0]? = some q0) (bd0 : q0.length ≤ 1000) (h1 : p1 = q0 ++ Str.ofString "/" ++ nameF (0 + turn)) (g1 : [p0, p1][u1]? = some q1) (bd1 : q1.length ≤ 1000) (h2 : p2 = q1 ++ Str.ofString "/" ++ nameF (1 + turn)) (g2 : [p0, p1, p2][u2]? = some q2) (bd2 : q2.length ≤ 1000) (h3 : p3 = q2 ++ Str.ofString "/" ++ nameF (2 + turn)) (g3 : [p0, p1, p2, p3][u3]? = some q3) (bd3 : q3.length ≤ 1000) (h4 : p4 = q3 ++ Str.ofString "/" ++ nameF (3 + turn)) (g4 : [p0, p1, p2, p3, p4][u4]? = some q4) (bd4 : q4.length ≤ 1000) (h5 : p5 = q4 ++ Str.ofString "/" ++ nameF (4 + turn))
    (hret : ∀ (D : Addr) (k : Nat) (vs : List Value) (h' : Heap) (tk' : Nat), Keep s.heap h' → Fr h₀ L h' m → News h₀ L h' news → (s.heap.get? D = none) → (h'.get? D = some (listOf vs.toArray k)) → (StrsAre vs [Str.ofString "/", p1, p2, p3, p4, p5]) → Q (.ref D) { s with heap := h', toks := tk' }) :
    wpAny (model Challenge.rw_pd0046_01.row.prog w) ({ handled := none, depth := dp, frames := fr, guards := gd, units := un } : Around) (call (.ref 157) [.ref ua, .int turn rt]) Q E s :=
  c_spelled (X.keeps F.keep) (T.keeps F.keep) hdp hun hu h0 g0 bd0 h1 g1 bd1 h2 g2 bd2 h3 g3 bd3 h4 g4 bd4 h5 fun x0 x1 x2 h' tk' k y0 y1 y2 => hret x0 x1 x2 h' tk' k (F.keeps k) (N.grown k) y0 y1 y2
theorem c_fewest_N {w : World} {mean : ExcName → Option Value} {mg mb : Str → Option Value} {dp un : Nat} {gd : Option (List Code)} {fr : Option (List Env)} {s : Shared} {Q E : Value → Shared → Prop} {h₀ : Heap} {L : Addr} {m : Str → Option Value} {news : List (Addr × Obj)} {ua : Addr} {u0 u1 u2 u3 u4 : Nat} {r0 r1 r2 r3 r4 : Tok}
    (F : Fr h₀ L s.heap m) (X : (hd.heap_1 w.params).In h₀) (T : Top hd.view_39 (looseW hd.view_39 []) mean mg mb h₀) (N : News h₀ L s.heap news)
    (hdp : dp + 5 < recursionLimit) (hun : un + 80 < cLine) (hu : s.heap.IsList ua #[.int ((u0 : Nat) : Int) r0, .int ((u1 : Nat) : Int) r1, .int ((u2 : Nat) : Int) r2, .int ((u3 : Nat) : Int) r3, .int ((u4 : Nat) : Int) r4]) (hne : 0 < (countsF [(u0 : Int), u1, u2, u3, u4] 64).length)
    (hret : ∀ (t9 : Tok) (M : Int) (h' : Heap) (tk' : Nat), Keep s.heap h' → Fr h₀ L h' m → News h₀ L h' news → (M ∈ countsF [(u0 : Int), u1, u2, u3, u4] 64) → (∀ a ∈ countsF [(u0 : Int), u1, u2, u3, u4] 64, M ≤ a) → Q (.int M t9) { s with heap := h', toks := tk' }) :
    wpAny (model Challenge.rw_pd0046_01.row.prog w) ({ handled := none, depth := dp, frames := fr, guards := gd, units := un } : Around) (call (.ref 177) [.ref ua]) Q E s :=
  c_fewest (X.keeps F.keep) (T.keeps F.keep) hdp hun hu hne fun x0 x1 h' tk' k y0 y1 => hret x0 x1 h' tk' k (F.keeps k) (N.grown k) y0 y1
theorem fm_nat (x : Int) (b : Nat) (hb : 0 < b) : ∃ t : Nat, x.fmod (b : Int) = (t : Int) ∧ t < b := by
  have h1 := Int.fmod_nonneg_of_pos x (b := (b : Int)) (by omega)
  have h2 := Int.fmod_lt_of_pos x (b := (b : Int)) (by omega)
  exact ⟨(x.fmod (b : Int)).toNat, by omega, by omega⟩
theorem ups5 {ws : List Value} {nl : List Int} (h : IntsAre ws ([0] ++ List.map (fun k' => (nl.getD k'.toNat 0).fmod (k' + 2)) (rangeKs 0 (4 - 0 : Int).toNat))) :
    ∃ (u1 u2 u3 u4 T : Nat) (r0 r1 r2 r3 r4 : Tok), ws = [.int ((0 : Nat) : Int) r0, .int (u1 : Int) r1, .int (u2 : Int) r2, .int (u3 : Int) r3, .int (u4 : Int) r4] ∧ u1 < 2 ∧ u2 < 3 ∧ u3 < 4 ∧ u4 < 5 ∧ nl.sum.fmod 7 = (T : Int) ∧ T < 7 := by
  obtain ⟨u1, e1, b1⟩ := fm_nat (nl.getD 0 0) 2 (by omega)
  obtain ⟨u2, e2, b2⟩ := fm_nat (nl.getD 1 0) 3 (by omega)
  obtain ⟨u3, e3, b3⟩ := fm_nat (nl.getD 2 0) 4 (by omega)
  obtain ⟨u4, e4, b4⟩ := fm_nat (nl.getD 3 0) 5 (by omega)
  obtain ⟨T, eT, bT⟩ := fm_nat nl.sum 7 (by omega)
  have h : IntsAre ws [((0 : Nat) : Int), (nl.getD 0 0).fmod ((2 : Nat) : Int), (nl.getD 1 0).fmod ((3 : Nat) : Int), (nl.getD 2 0).fmod ((4 : Nat) : Int), (nl.getD 3 0).fmod ((5 : Nat) : Int)] := h
  rw [e1, e2, e3, e4] at h
  cases h with
  | cons _ t0 h => cases h with
    | cons _ t1 h => cases h with
      | cons _ t2 h => cases h with
        | cons _ t3 h => cases h with
          | cons _ t4 h => cases h; exact ⟨u1, u2, u3, u4, T, t0, t1, t2, t3, t4, rfl, b1, b2, b3, b4, eT, bT⟩
theorem strs6 {vs : List Value} {a b c d e f : Str} (h : StrsAre vs [a, b, c, d, e, f]) : ∃ t0 t1 t2 t3 t4 t5, vs = [.str a t0, .str b t1, .str c t2, .str d t3, .str e t4, .str f t5] := by
  cases h with
  | cons _ t0 h => cases h with
    | cons _ t1 h => cases h with
      | cons _ t2 h => cases h with
        | cons _ t3 h => cases h with
          | cons _ t4 h => cases h with
            | cons _ t5 h => cases h; exact ⟨t0, t1, t2, t3, t4, t5, rfl⟩
theorem keepA {g h : Heap} {L : Addr} {d x1 x2 x3 x4 c5 c4 c3 c2 c1 : Addr × Obj} (N : News g L h [d, x1, x2, x3, x4, c5, c4, c3, c2, c1]) : News g L h [d, c5, c4, c3, c2, c1] := fun p hp => N p (by
  simp only [List.mem_cons, List.not_mem_nil, or_false] at hp ⊢
  rcases hp with h | h | h | h | h | h
  · exact .inl h
  · exact .inr (.inr (.inr (.inr (.inr (.inl h)))))
  · exact .inr (.inr (.inr (.inr (.inr (.inr (.inl h))))))
  · exact .inr (.inr (.inr (.inr (.inr (.inr (.inr (.inl h)))))))
  · exact .inr (.inr (.inr (.inr (.inr (.inr (.inr (.inr (.inl h))))))))
  · exact .inr (.inr (.inr (.inr (.inr (.inr (.inr (.inr (.inr h)))))))))
theorem keepB {g h : Heap} {L : Addr} {d x1 x2 x3 c5 c4 c3 c2 c1 : Addr × Obj} (N : News g L h [d, x1, x2, x3, c5, c4, c3, c2, c1]) : News g L h [d, c5, c4, c3, c2, c1] := fun p hp => N p (by
  simp only [List.mem_cons, List.not_mem_nil, or_false] at hp ⊢
  rcases hp with h | h | h | h | h | h
  · exact .inl h
  · exact .inr (.inr (.inr (.inr (.inl h))))
  · exact .inr (.inr (.inr (.inr (.inr (.inl h)))))
  · exact .inr (.inr (.inr (.inr (.inr (.inr (.inl h))))))
  · exact .inr (.inr (.inr (.inr (.inr (.inr (.inr (.inl h)))))))
  · exact .inr (.inr (.inr (.inr (.inr (.inr (.inr (.inr h))))))))
theorem pairs_N {w : World} {mean : ExcName → Option Value} {mg mb : Str → Option Value} {dp un : Nat} {gd : Option (List Code)} {h₀ : Heap} {s : Shared} {Q E : Value → Shared → Prop} {env0 : Env} {L : Addr} {m : Str → Option Value} {news : List (Addr × Obj)} {pa : Addr} {pv : List Value} {pk fuel : Nat} {ps : List Str} {res : List (Str × Str)}
    (F : Fr h₀ L s.heap m) (X : (hd.heap_1 w.params).In h₀) (T : Top hd.view_39 (looseW hd.view_39 []) mean mg mb h₀) (N : News h₀ L s.heap news) (hk : env0.scope.kind ≠ .module) (hfm : env0.frame = some L)
    (hdp : dp + 10 < recursionLimit) (hun : un + 160 < cLine) (hm : (pa, listOf pv.toArray pk) ∈ news) (hps : StrsAre pv ps) (hlp : ps.length ≤ 50) (hok : ps.all okS = true) (hfu : fuel ≤ 200) (hF : pairsF ps fuel (sortF ps) [] = some res)
    (hret : ∀ (D : Addr) (rv : List Value) (k : Nat) (objs : List (Addr × Obj)) (h' : Heap) (tk' : Nat), Fr h₀ L h' m → News h₀ L h' (news ++ objs) → News h₀ L h' ((D, listOf rv.toArray k) :: (news ++ objs)) → PairsAre objs rv res → (∀ p ∈ objs, s.heap.get? p.1 = none) → s.heap.get? D = none → Q (.ref D) { s with heap := h', toks := tk' }) :
    wpAny (model Challenge.rw_pd0046_01.row.prog w) ({ handled := none, depth := dp, frames := some [env0], guards := gd, units := un } : Around) (call (.ref 172) [.ref pa]) Q E s := by
  obtain ⟨oL, eL, dL⟩ := ns_get F.ns
  have hL₀ : h₀.get? L = none := Heap.get?_none_of_le F.above
  have hpf : pa ∉ [L] := fun h => (N _ hm).2.1 (List.mem_singleton.mp h)
  refine c_pairs X T F.keep (frs_cons hk hfm dL trivial) (List.forall_mem_cons.mpr ⟨⟨eL, hL₀⟩, List.forall_mem_nil _⟩) hdp hun (N _ hm).1 hps hpf hlp hok hfu hF ?_
  intro D rv k objs h' tk' frs' SU hg kb eD hpr hob fD
  obtain ⟨fr', SU', F', N'⟩ := back2 (fr := []) (rest := news) F N eL (List.forall_mem_nil _) (fun q hq => hq)
    (List.forall_mem_cons.mpr ⟨hL₀, List.forall_mem_nil _⟩) (fun q hq h => (N q hq).2.1 (List.mem_singleton.mp h)) SU hg kb
  obtain rfl := sameUp_nil SU'
  have No : News h₀ L h' (news ++ objs) := fun p hp => by
    rcases List.mem_append.mp hp with hp | hp
    · exact N' p hp
    · exact new_entry F (N') (hob p hp).2 (hob p hp).1 p List.mem_cons_self
  exact hret D rv k objs h' tk' F' No (new_entry F No fD eD) hpr (fun p hp => (hob p hp).2) fD
theorem off_objs {h₀ h : Heap} {L : Addr} {news objs : List (Addr × Obj)} (N : News h₀ L h news) (hf : ∀ p ∈ objs, h.get? p.1 = none) : ∀ q ∈ news, ∀ p ∈ objs, p.1 ≠ q.1 := fun q hq p hp e => by
  have z := (N q hq).1
  rw [← e, hf p hp] at z; cases z
theorem PairsAre.get {objs : List (Addr × Obj)} : ∀ {vs : List Value} {ps : List (Str × Str)}, PairsAre objs vs ps → ∀ (i : Nat) (a : Str × Str), ps[i]? = some a → ∃ (D : Addr) (t u : Tok) (k : Nat), vs[i]? = some (.ref D) ∧ (D, listOf #[.str a.1 t, .str a.2 u] k) ∈ objs
  | _, _, .nil, i, a, h => by simp at h
  | _, _, .cons hm r, 0, a, h => by
    simp only [List.getElem?_cons_zero, Option.some.injEq] at h
    subst h
    exact ⟨_, _, _, _, rfl, hm⟩
  | _, _, .cons hm r, i + 1, a, h => by
    simp only [List.getElem?_cons_succ] at h ⊢
    exact r.get i a h
noncomputable def pairD (p : Str × Str) : PyData := .list [.str p.1, .str p.2]
theorem reads2 {h : Heap} {D : Addr} {a b : Str} {t u : Tok} {k : Nat} (e : h.get? D = some (listOf #[.str a t, .str b u] k)) : Reads h (.ref D) (pairD (a, b)) [D] :=
  strs_read (us := [.str a t, .str b u]) (xs := [a, b]) e (.cons _ _ (.cons _ _ .nil))
theorem eqv_pair (p q : Str × Str) : PyData.eqv (pairD p) (pairD q) = (p == q) := by
  obtain ⟨a, b⟩ := p
  obtain ⟨c, d⟩ := q
  simp only [pairD, PyData.eqv, PyData.eqvAll, Bool.and_true]
  rfl
theorem canLay_pair {p : Str × Str} (h1 : PyData.strOk p.1 = true) (h2 : PyData.strOk p.2 = true) : (pairD p).canLay0 = true := by
  simp only [pairD, PyData.canLay0, PyData.canLayAll0, h1, h2, Bool.true_and]
theorem canLay_pairs : ∀ {l : List (Str × Str)}, (l.all fun p => PyData.strOk p.1 && PyData.strOk p.2) = true → PyData.canLayAll0 (l.map pairD) = true
  | [], _ => by simp only [List.map_nil, PyData.canLayAll0]
  | p :: r, h => by
    simp only [List.all_cons, Bool.and_eq_true] at h
    simp only [List.map_cons, PyData.canLayAll0, canLay_pair h.1.1 h.1.2, Bool.true_and, canLay_pairs (by simpa using h.2)]
theorem depth_pairs : ∀ l : List (Str × Str), PyData.depthAll (l.map pairD) ≤ 1
  | [] => by simp only [List.map_nil, PyData.depthAll]; omega
  | p :: r => by
    have := depth_pairs r
    have e : (pairD p).depth = 1 := by simp only [pairD, PyData.depth, PyData.depthAll, Nat.max_self]
    simp only [List.map_cons, PyData.depthAll, e]
    omega
theorem notin_pairs {prog : Program} {w : World} {A : Around} {E : Value → Shared → Prop} {s : Shared} {c D : Addr} {a b : Str} {t u : Tok} {k : Nat} {l : List (Str × Str)} {as : List Addr} {Q : Value → Shared → Prop}
    (rc : Reads s.heap (.ref c) (.list (l.map pairD)) as) (rx : s.heap.get? D = some (listOf #[.str a t, .str b u] k)) (hl : (l.all fun p => PyData.strOk p.1 && PyData.strOk p.2) = true) (hu : A.units + 8 < cLine) (hin : l.any (· == (a, b)) = true)
    (h : Q (.bool false) s) : wpAny (model prog w) A (compareOp .NotIn (.ref D) (.ref c)) Q E s := by
  have hab : PyData.strOk a = true ∧ PyData.strOk b = true := by
    obtain ⟨p, hp, e⟩ := List.any_eq_true.mp hin
    have e := eq_of_beq e
    subst e
    simpa using List.all_eq_true.mp hl _ hp
  refine SeqAt.notIn_list_reads rc (reads2 rx) (canLay_pairs hl) (canLay_pair hab.1 hab.2) ?_ ?_
  · have := depth_pairs l
    have : min (PyData.depthAll (l.map pairD)) (pairD (a, b)).depth ≤ PyData.depthAll (l.map pairD) := Nat.min_le_left _ _
    omega
  · have e : ((l.map pairD).any fun y => PyData.eqv y (pairD (a, b))) = true := by
      rw [List.any_map]
      simpa only [Function.comp_def, eqv_pair] using hin
    rw [e]
    exact h
open PyProof.Rows.LCg (NsObj lst Off3 CompEnd CompRest SrcAt)
open PyProof.Rows.LCt (CompRestT)
section
variable {prog : Program} {w : World} {A : Around} {s : Shared} {h₀ : Heap} {L : Addr} {m : Str → Option Value} {env : Env} {elt ct : PySem.Expr} {x : Str} {scope : Scope} {cl : List (Str × Addr)} {news : List (Addr × Obj)}
  {S : List (Addr × Obj) → Prop} {Fin : List Value → List (Addr × Obj) → Prop}
theorem filter_none {vs : List Value} (hS : S news)
    (test : ∀ (i : Nat) v I oI C oC D m₂ h tk E', vs[i]? = some v → NsObj oC m₂ → m₂ x = some v → Fr h₀ L h m → News h₀ L h ((I, oI) :: (C, oC) :: (D, lst []) :: news) →
      Off3 I C D news → ((@Ne Nat I C) ∧ (@Ne Nat I D) ∧ (@Ne Nat C D)) → ∀ Q' : Bool → Shared → Prop, (∀ h' tk', Keep h h' → Q' false { s with heap := h', toks := tk' }) →
      wpAny (model prog w) A (isTrue ct (compEnvC scope cl C env) (eval ct (compEnvC scope cl C env))) Q' E' { s with heap := h, toks := tk })
    (fin : Fin [] news) :
    CompRestT prog w A h₀ L m env ct elt x scope cl s S (fun i v => vs.toArray[i]? = some v) Fin vs.toArray.size 0 [] news := by
  refine rest_filter vs (fun _ => false) id (fun ys _ => ys = []) hS rfl ?_ (fun i a v ys bs I oI C oC D m₂ h tk E' _ hp => nomatch hp) (fun us hus => by rw [hus]; exact fin) _ 0 [] (by simp) rfl
  intro i a v ys bs I oI C oC D m₂ h tk E' ha hv hy hC hx F N off ne Q' hQ'
  subst hy
  have e : v = a := by
    rw [List.getElem?_toArray, ha] at hv
    exact (Option.some.inj hv).symm
  subst e
  exact test i v I oI C oC D m₂ h tk E' ha hC hx F N off ne Q' hQ'
theorem map_pairs {objs : List (Addr × Obj)} {vs : List Value} {ps : List (Str × Str)} (hs : PairsAre objs vs ps) (hS : S news)
    (step : ∀ (a : Str × Str) Dp t u k ys I oI C oC D m₂ h tk E', (Dp, listOf #[.str a.1 t, .str a.2 u] k) ∈ objs → NsObj oC m₂ → m₂ x = some (.ref Dp) → Fr h₀ L h m → News h₀ L h ((I, oI) :: (C, oC) :: (D, lst ys) :: news) →
      Off3 I C D news → ((@Ne Nat I C) ∧ (@Ne Nat I D) ∧ (@Ne Nat C D)) → ∀ Q' : Value → Shared → Prop, (∀ t' h' tk', Keep h h' → Q' (.str a.2 t') { s with heap := h', toks := tk' }) →
      wpAny (model prog w) A (eval elt (compEnvC scope cl C env)) Q' E' { s with heap := h, toks := tk })
    (fin : ∀ us, StrsAre us (ps.map (·.2)) → Fin us news) :
    CompRest prog w A h₀ L m env elt x scope cl s S (fun i v => vs.toArray[i]? = some v) Fin vs.toArray.size 0 [] news := by
  refine rest_map ps (·.2) StrsAre hS .nil ?_ fin _ 0 [] (by simpa using hs.length) (by simpa using StrsAre.nil)
  intro i a v ys bs I oI C oC D m₂ h tk E' ha hv hy hC hx F N off ne Q' hQ'
  obtain ⟨Dp, t, u, k, hvi, hmo⟩ := hs.get i a ha
  have e : v = .ref Dp := by
    rw [List.getElem?_toArray, hvi] at hv
    exact (Option.some.inj hv).symm
  subst e
  exact step a Dp t u k ys I oI C oC D m₂ h tk E' hmo hC hx F N off ne Q' fun t' h' tk' kk => hQ' _ h' tk' kk (hy.append' (.cons _ _ .nil))
end
theorem PairsAre.cat {objs objs' : List (Addr × Obj)} {vs : List Value} {ps : List (Str × Str)} (h : PairsAre objs vs ps) : PairsAre (objs ++ objs') vs ps := h.more fun p hp => List.mem_append_left _ hp
theorem PairsAre.reads {h : Heap} {objs : List (Addr × Obj)} (ho : ∀ p ∈ objs, h.get? p.1 = some p.2) : ∀ {vs : List Value} {ps : List (Str × Str)}, PairsAre objs vs ps → ∃ as, ReadsAll h vs (ps.map pairD) as
  | _, _, .nil => ⟨_, .nil⟩
  | _, _, .cons hm r => by
    obtain ⟨as, hr⟩ := r.reads ho
    exact ⟨_, .cons (reads2 (ho _ hm)) hr⟩
section
variable {prog : Program} {w : World} {A : Around} {s : Shared} {h₀ : Heap} {L : Addr} {m : Str → Option Value} {env : Env} {elt : PySem.Expr} {x : Str} {scope : Scope} {cl : List (Str × Addr)} {S : List (Addr × Obj) → Prop} {Fin : List Value → List (Addr × Obj) → Prop}
/-- a comprehension over a range, each turn a new list of two texts -/
theorem tied_rest {fixed tail₀ : List (Addr × Obj)} (a b : Nat → Str) (n : Nat) (hS : ∀ tail, S (fixed ++ tail))
    (step : ∀ i t ys tail I oI C oC D m₂ h tk E', i < n → NsObj oC m₂ → m₂ x = some (.int (i : Int) t) → Fr h₀ L h m → News h₀ L h ((I, oI) :: (C, oC) :: (D, lst ys) :: (fixed ++ tail)) →
      ((@Ne Nat I C) ∧ (@Ne Nat I D) ∧ (@Ne Nat C D)) → ∀ Q' : Value → Shared → Prop, (∀ Dn t1 t2 k h' tk', Fr h₀ L h' m → News h₀ L h' ((Dn, listOf #[.str (a i) t1, .str (b i) t2] k) :: (I, oI) :: (C, oC) :: (D, lst ys) :: (fixed ++ tail)) →
        @Ne Nat Dn I → @Ne Nat Dn C → @Ne Nat Dn D → (∀ q ∈ fixed, @Ne Nat Dn q.1) → Q' (.ref Dn) { s with heap := h', toks := tk' }) →
      wpAny (model prog w) A (eval elt (compEnvC scope cl C env)) Q' E' { s with heap := h, toks := tk })
    (fin : ∀ us objs, PairsAre objs us ((List.range n).map fun i => (a i, b i)) → (∀ q ∈ fixed, ∀ p ∈ objs, p.1 ≠ q.1) → Fin us (fixed ++ (objs ++ tail₀))) :
    CompRest prog w A h₀ L m env elt x scope cl s S (fun i v => ∃ t, v = .int ((0 : Int) + (i : Int)) t) Fin n 0 [] (fixed ++ tail₀) := by
  have all : ∀ k i ys objs, k + i = n → PairsAre objs ys ((List.range i).map fun i => (a i, b i)) → (∀ q ∈ fixed, ∀ p ∈ objs, p.1 ≠ q.1) → CompRest prog w A h₀ L m env elt x scope cl s S (fun i v => ∃ t, v = .int ((0 : Int) + (i : Int)) t) Fin k i ys (fixed ++ (objs ++ tail₀)) := by
    intro k
    induction k with
    | zero =>
      intro i ys objs hk hp hq
      obtain rfl : i = n := by omega
      exact fin ys objs hp hq
    | succ k ih =>
      intro i ys objs hk hp hq v I oI C oC D m₂ h tk E' hv hC hx F N off ne
      obtain ⟨t, rfl⟩ := hv
      rw [Int.zero_add] at hx
      refine step i t ys (objs ++ tail₀) I oI C oC D m₂ h tk E' (by omega) hC hx F N ne _ fun Dn t1 t2 kk h' tk' F' N' n1 n2 n3 n4 => ?_
      refine ⟨h', tk', fixed ++ (((Dn, listOf #[.str (a i) t1, .str (b i) t2] kk) :: objs) ++ tail₀), rfl, F', fun p hp => N' p ?_, Off3.of fun p hp => ?_, hS _, ?_⟩
      · simp only [List.mem_cons, List.mem_append] at hp ⊢
        rcases hp with h | h | h | h | (h | h) | h
        · exact .inr (.inl h)
        · exact .inr (.inr (.inl h))
        · exact .inr (.inr (.inr (.inl h)))
        · exact .inr (.inr (.inr (.inr (.inl h))))
        · exact .inl h
        · exact .inr (.inr (.inr (.inr (.inr (.inl h)))))
        · exact .inr (.inr (.inr (.inr (.inr (.inr h)))))
      · have old : p ∈ fixed ++ (objs ++ tail₀) → p.1 ≠ I ∧ p.1 ≠ C ∧ p.1 ≠ D := fun h => off.mem p h
        rcases List.mem_append.mp hp with hp | hp
        · exact old (List.mem_append_left _ hp)
        rcases List.mem_append.mp hp with hp | hp
        · rcases List.mem_cons.mp hp with rfl | hp
          · exact ⟨n1, n2, n3⟩
          · exact old (List.mem_append_right _ (List.mem_append_left _ hp))
        · exact old (List.mem_append_right _ (List.mem_append_right _ hp))
      · refine ih (i + 1) _ _ (by omega) ?_ (fun q hqf p hp => (List.mem_cons.mp hp).elim (fun e => by rw [e]; exact n4 q hqf) (hq q hqf p))
        rw [List.range_succ, List.map_append]
        exact (hp.more fun p hp => List.mem_cons_of_mem _ hp).snoc List.mem_cons_self
  exact all n 0 [] [] rfl .nil (fun _ _ _ h => nomatch h)
end
theorem tied_reads {h : Heap} {D : Addr} {us : List Value} {k : Nat} {objs : List (Addr × Obj)} {tl : List (Str × Str)} (e : h.get? D = some (listOf us.toArray k)) (ho : ∀ p ∈ objs, h.get? p.1 = some p.2) (hp : PairsAre objs us tl) : ∃ as, Reads h (.ref D) (.list (tl.map pairD)) as := by
  obtain ⟨as, hr⟩ := hp.reads ho
  exact ⟨_, .list e rfl rfl (by simpa using hr)⟩
theorem item_n {prog : Program} {w : World} {A : Around} {E : Value → Shared → Prop} {s : Shared} {value slice : PySem.Expr} {l : Addr} {vs : List Value} {i : Nat} {v : Value} {u : Tok} {Q : Value → Shared → Prop}
    (hl : s.heap.IsList l vs.toArray) (hx : vs[i]? = some v) (hi : i < 2 ^ 62) (h : Q v s)
    (hsl : ∀ k, subscripted slice false (.ref l) (.int k u) = operate [.ref l, .int k u] (getItem (.ref l) (.int k u))) :
    wpAny (model prog w) A (subscriptTail value slice (.ref l) (.int (i : Int) u)) Q E s :=
  tail_any hl.typeIs slot_list_getitem.lookup (wpAny_getItem_list hl (Int.natCast_nonneg i) (by omega) (by simpa using hx) h) (hsl _)
theorem no_two {p q : Bool} (h : (p || q) = true) (h1 : p = false) (h2 : q = false) : false = true := by rw [h1, h2] at h; exact h
theorem lt_ne {a b : Addr} (h : @LT.lt Nat _ a b) : a ≠ b := Nat.ne_of_lt h
theorem keepC {g h : Heap} {L : Addr} {e1 x1 e2 e3 c5 c4 c3 c2 c1 : Addr × Obj} {objs : List (Addr × Obj)} (N : News g L h (e1 :: x1 :: e2 :: e3 :: c5 :: c4 :: c3 :: c2 :: c1 :: objs)) : News g L h ([e1, e2, e3, c5, c4, c3, c2] ++ objs) := fun p hp => N p (by
  simp only [List.mem_cons, List.mem_append, List.not_mem_nil, or_false] at hp ⊢
  rcases hp with (h | h | h | h | h | h | h) | h
  · exact .inl h
  · exact .inr (.inr (.inl h))
  · exact .inr (.inr (.inr (.inl h)))
  · exact .inr (.inr (.inr (.inr (.inl h))))
  · exact .inr (.inr (.inr (.inr (.inr (.inl h)))))
  · exact .inr (.inr (.inr (.inr (.inr (.inr (.inl h))))))
  · exact .inr (.inr (.inr (.inr (.inr (.inr (.inr (.inl h)))))))
  · exact .inr (.inr (.inr (.inr (.inr (.inr (.inr (.inr (.inr h)))))))))
/-- all that the walk of the law asks of the plain functions -/
structure Plain (u1 u2 u3 u4 : Nat) (T : Int) (p0 p1 p2 p3 p4 p5 q1 q2 q3 q4 e z1 z2 z3 z4 : Str) (res : List (Str × Str)) : Prop where
  P0 : p0 = Str.ofString "/"
  E0 : e = Str.ofString ""
  J1 : p1 = joinF p0 (nameF (0 + T))
  J2 : p2 = joinF q1 (nameF (1 + T))
  J3 : p3 = joinF q2 (nameF (2 + T))
  J4 : p4 = joinF q3 (nameF (3 + T))
  J5 : p5 = joinF q4 (nameF (4 + T))
  G1 : [p0, p1][u1]? = some q1
  G2 : [p0, p1, p2][u2]? = some q2
  G3 : [p0, p1, p2, p3][u3]? = some q3
  G4 : [p0, p1, p2, p3, p4][u4]? = some q4
  S1 : p1 = e ++ Str.ofString "/" ++ nameF (0 + T)
  S2 : p2 = z1 ++ Str.ofString "/" ++ nameF (1 + T)
  S3 : p3 = z2 ++ Str.ofString "/" ++ nameF (2 + T)
  S4 : p4 = z3 ++ Str.ofString "/" ++ nameF (3 + T)
  S5 : p5 = z4 ++ Str.ofString "/" ++ nameF (4 + T)
  H1 : [e, p1][u1]? = some z1
  H2 : [e, p1, p2][u2]? = some z2
  H3 : [e, p1, p2, p3][u3]? = some z3
  H4 : [e, p1, p2, p3, p4][u4]? = some z4
  K1 : [p0, p1, p2, p3, p4, p5][u1]? = some q1
  K2 : [p0, p1, p2, p3, p4, p5][u2]? = some q2
  K3 : [p0, p1, p2, p3, p4, p5][u3]? = some q3
  K4 : [p0, p1, p2, p3, p4, p5][u4]? = some q4
  B0 : p0.length ≤ 1000
  B1 : q1.length ≤ 1000
  B2 : q2.length ≤ 1000
  B3 : q3.length ≤ 1000
  B4 : q4.length ≤ 1000
  C0 : e.length ≤ 1000
  C1 : z1.length ≤ 1000
  C2 : z2.length ≤ 1000
  C3 : z3.length ≤ 1000
  C4 : z4.length ≤ 1000
  ok : [p0, p1, p2, p3, p4, p5].all okS = true
  okt : ([(p1, p0), (p2, q1), (p3, q2), (p4, q3), (p5, q4)].all fun p => PyData.strOk p.1 && PyData.strOk p.2) = true
  pf : pairsF [p0, p1, p2, p3, p4, p5] 20 (sortF [p0, p1, p2, p3, p4, p5]) [] = some res
  t1 : ∀ p ∈ res, [(p1, p0), (p2, q1), (p3, q2), (p4, q3), (p5, q4)].any (· == p) = true
  t2 : ∀ p ∈ [(p1, p0), (p2, q1), (p3, q2), (p4, q3), (p5, q4)], ((res.map (·.2)).any (· == p.1) || (res.map (·.2)).any (· == p.2)) = true
  ne : 0 < (countsF [((0 : Nat) : Int), (u1 : Int), u2, u3, u4] 64).length
  few : ∀ M ∈ countsF [((0 : Nat) : Int), (u1 : Int), u2, u3, u4] 64, (∀ a ∈ countsF [((0 : Nat) : Int), (u1 : Int), u2, u3, u4] 64, M ≤ a) → M = (res.length : Int)
  rl : res.length ≤ 20
end
section
noncomputable def tabT : Nat → List (List Nat)
  | 0 => [[47], [47, 65], [47, 97], [47, 97, 45], [47, 97, 45, 47, 65], [47, 97, 45, 47, 97], [47, 97, 45, 47, 97, 47, 65], [47, 97, 45, 47, 97, 47, 97, 98], [47, 97, 45, 47, 97, 47, 97, 98, 47, 65], [47, 97, 45, 47, 97, 98], [47, 97, 45, 47, 97, 98, 47, 65], [47, 97, 47, 65], [47, 97, 47, 97, 98], [47, 97, 47, 97, 98, 47, 65], [47, 97, 98], [47, 97, 98, 47, 65], [47, 98], [47, 98, 47, 65], [47, 98, 47, 97], [47, 98, 47, 97, 45], [47, 98, 47, 97, 45, 47, 65], [47, 98, 47, 97, 45, 47, 97], [47, 98, 47, 97, 45, 47, 97, 47, 65], [47, 98, 47, 97, 45, 47, 97, 47, 97, 98], [47, 98, 47, 97, 45, 47, 97, 47, 97, 98, 47, 65], [47, 98, 47, 97, 45, 47, 97, 98], [47, 98, 47, 97, 45, 47, 97, 98, 47, 65], [47, 98, 47, 97, 47, 65], [47, 98, 47, 97, 47, 97, 98], [47, 98, 47, 97, 47, 97, 98, 47, 65], [47, 98, 47, 97, 98], [47, 98, 47, 97, 98, 47, 65]]
  | 1 => [[47], [47, 65], [47, 65, 47, 97, 46, 98], [47, 97], [47, 97, 45], [47, 97, 45, 47, 65], [47, 97, 45, 47, 65, 47, 97, 46, 98], [47, 97, 45, 47, 97], [47, 97, 45, 47, 97, 46, 98], [47, 97, 45, 47, 97, 47, 65], [47, 97, 45, 47, 97, 47, 65, 47, 97, 46, 98], [47, 97, 45, 47, 97, 47, 97, 46, 98], [47, 97, 45, 47, 97, 47, 97, 98], [47, 97, 45, 47, 97, 47, 97, 98, 47, 65], [47, 97, 45, 47, 97, 47, 97, 98, 47, 65, 47, 97, 46, 98], [47, 97, 45, 47, 97, 47, 97, 98, 47, 97, 46, 98], [47, 97, 45, 47, 97, 98], [47, 97, 45, 47, 97, 98, 47, 65], [47, 97, 45, 47, 97, 98, 47, 65, 47, 97, 46, 98], [47, 97, 45, 47, 97, 98, 47, 97, 46, 98], [47, 97, 46, 98], [47, 97, 47, 65], [47, 97, 47, 65, 47, 97, 46, 98], [47, 97, 47, 97, 46, 98], [47, 97, 47, 97, 98], [47, 97, 47, 97, 98, 47, 65], [47, 97, 47, 97, 98, 47, 65, 47, 97, 46, 98], [47, 97, 47, 97, 98, 47, 97, 46, 98], [47, 97, 98], [47, 97, 98, 47, 65], [47, 97, 98, 47, 65, 47, 97, 46, 98], [47, 97, 98, 47, 97, 46, 98]]
  | 2 => [[47], [47, 46, 97], [47, 65], [47, 65, 47, 46, 97], [47, 65, 47, 97, 46, 98], [47, 65, 47, 97, 46, 98, 47, 46, 97], [47, 97], [47, 97, 46, 98], [47, 97, 46, 98, 47, 46, 97], [47, 97, 47, 46, 97], [47, 97, 47, 65], [47, 97, 47, 65, 47, 46, 97], [47, 97, 47, 65, 47, 97, 46, 98], [47, 97, 47, 65, 47, 97, 46, 98, 47, 46, 97], [47, 97, 47, 97, 46, 98], [47, 97, 47, 97, 46, 98, 47, 46, 97], [47, 97, 47, 97, 98], [47, 97, 47, 97, 98, 47, 46, 97], [47, 97, 47, 97, 98, 47, 65], [47, 97, 47, 97, 98, 47, 65, 47, 46, 97], [47, 97, 47, 97, 98, 47, 65, 47, 97, 46, 98], [47, 97, 47, 97, 98, 47, 65, 47, 97, 46, 98, 47, 46, 97], [47, 97, 47, 97, 98, 47, 97, 46, 98], [47, 97, 47, 97, 98, 47, 97, 46, 98, 47, 46, 97], [47, 97, 98], [47, 97, 98, 47, 46, 97], [47, 97, 98, 47, 65], [47, 97, 98, 47, 65, 47, 46, 97], [47, 97, 98, 47, 65, 47, 97, 46, 98], [47, 97, 98, 47, 65, 47, 97, 46, 98, 47, 46, 97], [47, 97, 98, 47, 97, 46, 98], [47, 97, 98, 47, 97, 46, 98, 47, 46, 97]]
  | 3 => [[47], [47, 46, 97], [47, 46, 97, 47, 98], [47, 65], [47, 65, 47, 46, 97], [47, 65, 47, 46, 97, 47, 98], [47, 65, 47, 97, 46, 98], [47, 65, 47, 97, 46, 98, 47, 46, 97], [47, 65, 47, 97, 46, 98, 47, 46, 97, 47, 98], [47, 65, 47, 97, 46, 98, 47, 98], [47, 65, 47, 98], [47, 97, 46, 98], [47, 97, 46, 98, 47, 46, 97], [47, 97, 46, 98, 47, 46, 97, 47, 98], [47, 97, 46, 98, 47, 98], [47, 97, 98], [47, 97, 98, 47, 46, 97], [47, 97, 98, 47, 46, 97, 47, 98], [47, 97, 98, 47, 65], [47, 97, 98, 47, 65, 47, 46, 97], [47, 97, 98, 47, 65, 47, 46, 97, 47, 98], [47, 97, 98, 47, 65, 47, 97, 46, 98], [47, 97, 98, 47, 65, 47, 97, 46, 98, 47, 46, 97], [47, 97, 98, 47, 65, 47, 97, 46, 98, 47, 46, 97, 47, 98], [47, 97, 98, 47, 65, 47, 97, 46, 98, 47, 98], [47, 97, 98, 47, 65, 47, 98], [47, 97, 98, 47, 97, 46, 98], [47, 97, 98, 47, 97, 46, 98, 47, 46, 97], [47, 97, 98, 47, 97, 46, 98, 47, 46, 97, 47, 98], [47, 97, 98, 47, 97, 46, 98, 47, 98], [47, 97, 98, 47, 98], [47, 98]]
  | 4 => [[47], [47, 46, 97], [47, 46, 97, 47, 97, 45], [47, 46, 97, 47, 98], [47, 46, 97, 47, 98, 47, 97, 45], [47, 65], [47, 65, 47, 46, 97], [47, 65, 47, 46, 97, 47, 97, 45], [47, 65, 47, 46, 97, 47, 98], [47, 65, 47, 46, 97, 47, 98, 47, 97, 45], [47, 65, 47, 97, 45], [47, 65, 47, 97, 46, 98], [47, 65, 47, 97, 46, 98, 47, 46, 97], [47, 65, 47, 97, 46, 98, 47, 46, 97, 47, 97, 45], [47, 65, 47, 97, 46, 98, 47, 46, 97, 47, 98], [47, 65, 47, 97, 46, 98, 47, 46, 97, 47, 98, 47, 97, 45], [47, 65, 47, 97, 46, 98, 47, 97, 45], [47, 65, 47, 97, 46, 98, 47, 98], [47, 65, 47, 97, 46, 98, 47, 98, 47, 97, 45], [47, 65, 47, 98], [47, 65, 47, 98, 47, 97, 45], [47, 97, 45], [47, 97, 46, 98], [47, 97, 46, 98, 47, 46, 97], [47, 97, 46, 98, 47, 46, 97, 47, 97, 45], [47, 97, 46, 98, 47, 46, 97, 47, 98], [47, 97, 46, 98, 47, 46, 97, 47, 98, 47, 97, 45], [47, 97, 46, 98, 47, 97, 45], [47, 97, 46, 98, 47, 98], [47, 97, 46, 98, 47, 98, 47, 97, 45], [47, 98], [47, 98, 47, 97, 45]]
  | 5 => [[47], [47, 46, 97], [47, 46, 97, 47, 97], [47, 46, 97, 47, 97, 45], [47, 46, 97, 47, 97, 45, 47, 97], [47, 46, 97, 47, 98], [47, 46, 97, 47, 98, 47, 97], [47, 46, 97, 47, 98, 47, 97, 45], [47, 46, 97, 47, 98, 47, 97, 45, 47, 97], [47, 97], [47, 97, 45], [47, 97, 45, 47, 97], [47, 97, 46, 98], [47, 97, 46, 98, 47, 46, 97], [47, 97, 46, 98, 47, 46, 97, 47, 97], [47, 97, 46, 98, 47, 46, 97, 47, 97, 45], [47, 97, 46, 98, 47, 46, 97, 47, 97, 45, 47, 97], [47, 97, 46, 98, 47, 46, 97, 47, 98], [47, 97, 46, 98, 47, 46, 97, 47, 98, 47, 97], [47, 97, 46, 98, 47, 46, 97, 47, 98, 47, 97, 45], [47, 97, 46, 98, 47, 46, 97, 47, 98, 47, 97, 45, 47, 97], [47, 97, 46, 98, 47, 97], [47, 97, 46, 98, 47, 97, 45], [47, 97, 46, 98, 47, 97, 45, 47, 97], [47, 97, 46, 98, 47, 98], [47, 97, 46, 98, 47, 98, 47, 97], [47, 97, 46, 98, 47, 98, 47, 97, 45], [47, 97, 46, 98, 47, 98, 47, 97, 45, 47, 97], [47, 98], [47, 98, 47, 97], [47, 98, 47, 97, 45], [47, 98, 47, 97, 45, 47, 97]]
  | _ => [[47], [47, 46, 97], [47, 46, 97, 47, 97], [47, 46, 97, 47, 97, 45], [47, 46, 97, 47, 97, 45, 47, 97], [47, 46, 97, 47, 97, 45, 47, 97, 47, 97, 98], [47, 46, 97, 47, 97, 45, 47, 97, 98], [47, 46, 97, 47, 97, 47, 97, 98], [47, 46, 97, 47, 97, 98], [47, 46, 97, 47, 98], [47, 46, 97, 47, 98, 47, 97], [47, 46, 97, 47, 98, 47, 97, 45], [47, 46, 97, 47, 98, 47, 97, 45, 47, 97], [47, 46, 97, 47, 98, 47, 97, 45, 47, 97, 47, 97, 98], [47, 46, 97, 47, 98, 47, 97, 45, 47, 97, 98], [47, 46, 97, 47, 98, 47, 97, 47, 97, 98], [47, 46, 97, 47, 98, 47, 97, 98], [47, 97], [47, 97, 45], [47, 97, 45, 47, 97], [47, 97, 45, 47, 97, 47, 97, 98], [47, 97, 45, 47, 97, 98], [47, 97, 47, 97, 98], [47, 97, 98], [47, 98], [47, 98, 47, 97], [47, 98, 47, 97, 45], [47, 98, 47, 97, 45, 47, 97], [47, 98, 47, 97, 45, 47, 97, 47, 97, 98], [47, 98, 47, 97, 45, 47, 97, 98], [47, 98, 47, 97, 47, 97, 98], [47, 98, 47, 97, 98]]
noncomputable def rkT : Nat → Nat
  | 0 => 1108856919527280574135454970087134084036823715328
  | 1 => 677360512831826444119319446889050664282576096384
  | 2 => 1001088465580703916872508510687578443043456966848
  | 3 => 1063140123115100613049959184355380608005039525344
  | 4 => 722595145484900257341722825702304529205746325664
  | 5 => 926104656144499977959231137750396116927886296448
  | _ => 633949553448567714460273361120901684519556669472
noncomputable def dirT : Nat → Nat
  | 0 => 1394268497028936209938114757942848020273077157888
  | 1 => 1321454037884785259874881087066114019843662414848
  | 2 => 1405697976213336736458117161111345560217224019968
  | 3 => 22607140319585611458870732323925143733970928640
  | 4 => 1371438283526667039128029053794501361393705452544
  | 5 => 1411370728289158184082921359605190299172996154368
  | _ => 1133005857721366558792066904639227716292945413120
noncomputable def fewT : Nat := 1001922276017016915224796405020635111163730020231390480924598799220172511972395533732599997502047866340320401
noncomputable def mk (t m : Nat) : Nat := rkT t / 32 ^ m % 32
noncomputable def dirN (t x : Nat) : Nat := dirT t / 32 ^ x % 32
noncomputable def few (a b c d : Nat) : Nat := fewT / 8 ^ (a + 2 * b + 6 * c + 24 * d) % 8
noncomputable def skipG (xs : List Nat) (e i : Nat) : Nat := i + ((xs.drop i).takeWhile (fun x => Nat.beq x e)).length
noncomputable def sldG (xs ys : List Nat) : Nat → Nat → Nat → List Nat → List Nat → Option (List Nat × List Nat)
  | 0, _, _, _, _ => none
  | n + 1, i, j, ms, us =>
    match xs[i]?, ys[j]? with
    | some e, some a =>
      if Nat.blt e a = true then
        (if Nat.blt (skipG xs e (i + 1)) xs.length = true then sldG xs ys n (skipG xs e (i + 1)) j (ms ++ [e]) us else some (ms ++ [e] ++ xs.drop (skipG xs e (i + 1)), us ++ ys.drop j))
      else if Nat.blt a e = true then
        (if Nat.blt (skipG ys a (j + 1)) ys.length = true then sldG xs ys n i (skipG ys a (j + 1)) ms (us ++ [a]) else some (ms ++ xs.drop i, us ++ [a] ++ ys.drop (skipG ys a (j + 1))))
      else if (Nat.blt (skipG xs e (i + 1)) xs.length && Nat.blt (skipG ys a (j + 1)) ys.length) = true then sldG xs ys n (skipG xs e (i + 1)) (skipG ys a (j + 1)) ms us
      else some (ms ++ xs.drop (skipG xs e (i + 1)), us ++ ys.drop (skipG ys a (j + 1)))
    | _, _ => some (ms ++ xs.drop i, us ++ ys.drop j)
noncomputable def insG (x : Nat) : List Nat → List Nat
  | [] => [x]
  | y :: r => if Nat.blt y x = true then y :: insG x r else x :: y :: r
noncomputable def sortG : List Nat → List Nat
  | [] => []
  | x :: r => insG x (sortG r)
noncomputable def memG (l : List Nat) (p : Nat) : Bool := l.any (Nat.beq p)
noncomputable def uldG : List Nat → List Nat → List Nat → List Nat × List Nat
  | [], ys, ms => (ms, ys)
  | e :: r, ys, ms => if memG ys e = true then uldG r (ys.erase e) ms else uldG r ys (ms ++ [e])
noncomputable def eqG : List Nat → List Nat → Bool
  | [], [] => true
  | x :: r, y :: q => Nat.beq x y && eqG r q
  | _, _ => false
noncomputable def eqO (o : Option (List Nat × List Nat)) (a b : List Nat) : Bool := match o with
  | none => false
  | some p => eqG p.1 a && eqG p.2 b
noncomputable def leavesG (ov rs : List Nat) : List Nat := rs.filter fun p => !(memG ov p)
noncomputable def headsG (ov rs sps : List Nat) : List Nat := sps.filter fun p => memG ov p && !(memG rs p)
noncomputable def pairsG (dir : Nat → Nat) (sps : List Nat) : Nat → List Nat → List (Nat × Nat) → Option (List (Nat × Nat))
  | 0, _, _ => none
  | f + 1, rest, acc =>
    if (rest.all (fun r => Nat.blt r 6) && Nat.ble rest.length 50 && eqO (sldG rest (sortG (rest.map dir)) 300 0 0 [] []) (leavesG (rest.map dir) rest) (headsG (rest.map dir) rest sps) &&
      eqO (sldG (sortG (rest.map dir)) rest 300 0 0 [] []) (headsG (rest.map dir) rest sps) (leavesG (rest.map dir) rest)) = true then
      match leavesG (rest.map dir) rest with
      | [] => some acc
      | leaf :: _ =>
        if eqG (uldG rest.reverse [leaf, dir leaf] []).2 ((headsG (rest.map dir) rest sps).filter (fun z => Nat.beq z (dir leaf))) = true then
          pairsG dir sps f (sortG (uldG rest.reverse [leaf, dir leaf] []).1) (match (uldG rest.reverse [leaf, dir leaf] []).2 with | [] => acc ++ [(leaf, dir leaf)] | _ => acc)
        else none
    else none
noncomputable def M1 (u1 : Nat) : Nat := [0, 1].getD u1 0
noncomputable def m2 (u1 : Nat) : Nat := M1 u1 + 2
noncomputable def M2 (u1 u2 : Nat) : Nat := [0, 1, m2 u1].getD u2 0
noncomputable def m3 (u1 u2 : Nat) : Nat := M2 u1 u2 + 4
noncomputable def M3 (u1 u2 u3 : Nat) : Nat := [0, 1, m2 u1, m3 u1 u2].getD u3 0
noncomputable def m4 (u1 u2 u3 : Nat) : Nat := M3 u1 u2 u3 + 8
noncomputable def M4 (u1 u2 u3 u4 : Nat) : Nat := [0, 1, m2 u1, m3 u1 u2, m4 u1 u2 u3].getD u4 0
noncomputable def m5 (u1 u2 u3 u4 : Nat) : Nat := M4 u1 u2 u3 u4 + 16
noncomputable def psG (t u1 u2 u3 u4 : Nat) : List Nat := [mk t 0, mk t 1, mk t (m2 u1), mk t (m3 u1 u2), mk t (m4 u1 u2 u3), mk t (m5 u1 u2 u3 u4)]
noncomputable def idxG (x : Nat) : List Nat → Nat
  | [] => 0
  | y :: r => if Nat.beq x y = true then 0 else idxG x r + 1
noncomputable def sT (ls : List Nat) (r : Nat) : Nat := (ls[r]?).getD (32 + r)
noncomputable def beq2 (p q : Nat × Nat) : Bool := Nat.beq p.1 q.1 && Nat.beq p.2 q.2
noncomputable def goodR (a b c d : Nat) : Bool :=
  match pairsG (fun r => [0, 0, a, b, c, d].getD r 0) [0, 1, 2, 3, 4, 5] 20 [0, 1, 2, 3, 4, 5] [] with
  | none => false
  | some res => res.all (fun p => memG [1, 2, 3, 4, 5] p.1 && Nat.beq p.2 ([0, 0, a, b, c, d].getD p.1 0)) && [1, 2, 3, 4, 5].all (fun r => memG (res.map (·.2)) r || memG (res.map (·.2)) ([0, 0, a, b, c, d].getD r 0)) &&
    Nat.beq res.length (few a b c d) && Nat.ble res.length 20
/-- the tree told by the six paths' own order -/
noncomputable def tiedR (R : Nat → Nat) (u1 u2 u3 u4 : Nat) : List (Nat × Nat) := [(R 1, R 0), (R (m2 u1), R (M1 u1)), (R (m3 u1 u2), R (M2 u1 u2)), (R (m4 u1 u2 u3), R (M3 u1 u2 u3)), (R (m5 u1 u2 u3 u4), R (M4 u1 u2 u3 u4))]
noncomputable def chkP (t u1 u2 u3 u4 : Nat) (ls par : List Nat) : Bool :=
  match par with
  | [z, o, a, b, c, d] => Nat.beq z 0 && Nat.beq o 0 && Nat.blt a 2 && Nat.blt b 3 && Nat.blt c 4 && Nat.blt d 5 && Nat.beq (few u1 u2 u3 u4) (few a b c d) &&
      Nat.beq ls.length 6 && [0, 1, 2, 3, 4, 5].all (fun r => Nat.blt (sT ls r) (sT ls (r + 1))) && ls.all (fun x => Nat.blt x 32) && eqG (ls.map fun x => dirN t x) ([0, 0, a, b, c, d].map (sT ls)) &&
      eqG ([0, 1, m2 u1, m3 u1 u2, m4 u1 u2 u3, m5 u1 u2 u3 u4].map fun m => sT ls (idxG (mk t m) ls)) ([0, 1, m2 u1, m3 u1 u2, m4 u1 u2 u3, m5 u1 u2 u3 u4].map (mk t)) && eqG (sortG ([0, 1, m2 u1, m3 u1 u2, m4 u1 u2 u3, m5 u1 u2 u3 u4].map fun m => idxG (mk t m) ls)) [0, 1, 2, 3, 4, 5] &&
      [1, 2, 3, 4, 5].all (fun r => (tiedR (fun m => idxG (mk t m) ls) u1 u2 u3 u4).any (beq2 (r, [0, 0, a, b, c, d].getD r 0))) &&
      (tiedR (fun m => idxG (mk t m) ls) u1 u2 u3 u4).all (fun x => memG [1, 2, 3, 4, 5] x.1 && Nat.beq x.2 ([0, 0, a, b, c, d].getD x.1 0))
  | _ => false
noncomputable def chkS (t u1 u2 u3 u4 : Nat) : Bool := chkP t u1 u2 u3 u4 (sortG (psG t u1 u2 u3 u4)) ((sortG (psG t u1 u2 u3 u4)).map fun x => idxG (dirN t x) (sortG (psG t u1 u2 u3 u4)))
noncomputable def all120 (p : Nat → Nat → Nat → Nat → Bool) : Bool := [0, 1].all fun a => [0, 1, 2].all fun b => [0, 1, 2, 3].all fun c => [0, 1, 2, 3, 4].all fun d => p a b c d
section
variable {f : Nat → Str} (hf : ∀ a b, ltS (f a) (f b) = decide (a < b))
include hf
theorem f_inj {a b : Nat} (h : f a = f b) : a = b := by
  have h1 := hf a b
  have h2 := hf b b
  have h3 := hf b a
  have h4 := hf a a
  rw [h] at h1 h3
  rw [h2] at h1 h3
  have e0 : decide (b < b) = false := decide_eq_false (Nat.lt_irrefl b)
  rw [e0] at h1 h3
  have n1 : ¬ a < b := of_decide_eq_false h1.symm
  have n2 : ¬ b < a := of_decide_eq_false h3.symm
  omega
theorem f_beq (a b : Nat) : (f a == f b) = Nat.beq a b := by
  rw [Bool.eq_iff_iff, beq_iff_eq, Nat.beq_eq]
  exact ⟨f_inj hf, fun h => by rw [h]⟩
theorem f_lt (a b : Nat) : ltS (f a) (f b) = Nat.blt a b := by
  rw [hf]
  rcases Nat.lt_or_ge a b with h | h
  · rw [decide_eq_true h]; exact (Nat.blt_eq.mpr h).symm
  · rw [decide_eq_false (Nat.not_lt.mpr h)]
    cases e : Nat.blt a b with
    | false => rfl
    | true => have := Nat.blt_eq.mp e; omega
theorem skip_map (xs : List Nat) (e i : Nat) : skipF (xs.map f) (f e) i = skipG xs e i := by
  unfold skipF skipG
  rw [← List.map_drop, List.takeWhile_map, List.length_map]
  congr 2
  have : (fun x => x == f e) ∘ f = fun x => Nat.beq x e := by
    funext x
    exact f_beq hf x e
  rw [this]
theorem sld_map (xs ys : List Nat) : ∀ (n i j : Nat) (ms us : List Nat), sldF (xs.map f) (ys.map f) n i j (ms.map f) (us.map f) = (sldG xs ys n i j ms us).map fun p => (p.1.map f, p.2.map f)
  | 0, _, _, _, _ => rfl
  | n + 1, i, j, ms, us => by
    unfold sldF sldG
    rw [List.getElem?_map, List.getElem?_map]
    cases hx : xs[i]? with
    | none => simp only [Option.map_none, Option.map_some, List.map_append, List.map_drop]
    | some e =>
      cases hy : ys[j]? with
      | none => simp only [Option.map_none, Option.map_some, List.map_append, List.map_drop]
      | some a =>
        have bl : ∀ p q : Nat, (p < q) = (Nat.blt p q = true) := fun p q => Nat.blt_eq.symm
        have m1 : ∀ (l : List Nat) (z : Nat), l.map f ++ [f z] = (l ++ [z]).map f := fun l z => by rw [List.map_append]; rfl
        simp only [Option.map_some, f_lt hf, skip_map hf, List.length_map, bl, m1, sld_map xs ys n]
        split
        · split
          · rfl
          · simp only [Option.map_some, List.map_append, List.map_drop]
        · split
          · split
            · rfl
            · simp only [Option.map_some, List.map_append, List.map_drop]
          · simp only [Bool.and_eq_true]
            split
            · rfl
            · simp only [Option.map_some, List.map_append, List.map_drop]
theorem ins_map (x : Nat) : ∀ l, insF (f x) (l.map f) = (insG x l).map f
  | [] => rfl
  | y :: r => by
    simp only [List.map_cons, insF, insG, f_lt hf]
    split
    · rw [ins_map x r, List.map_cons]
    · rfl
theorem sort_map : ∀ l, sortF (l.map f) = (sortG l).map f
  | [] => rfl
  | x :: r => by rw [List.map_cons, sortF, sort_map r, ins_map hf, sortG]
theorem mem_map (l : List Nat) (p : Nat) : (l.map f).any (· == f p) = memG l p := by
  unfold memG
  rw [List.any_map]
  congr 1
  funext x
  show (f x == f p) = Nat.beq p x
  rw [f_beq hf, Bool.eq_iff_iff, Nat.beq_eq, Nat.beq_eq]
  exact ⟨Eq.symm, Eq.symm⟩
theorem contains_map (l : List Nat) (p : Nat) : (l.map f).contains (f p) = memG l p := by
  rw [← mem_map hf, Bool.eq_iff_iff, List.contains_iff_mem, List.any_eq_true]
  exact ⟨fun h => ⟨_, h, beq_self_eq_true _⟩, fun ⟨x, h, e⟩ => by rw [← eq_of_beq e]; exact h⟩
theorem erase_map (p : Nat) : ∀ l : List Nat, (l.map f).erase (f p) = (l.erase p).map f
  | [] => rfl
  | x :: r => by
    rw [List.map_cons, List.erase_cons, List.erase_cons, f_beq hf]
    by_cases h : x = p
    · rw [if_pos (Nat.beq_eq.mpr h), if_pos (by rw [h]; exact beq_self_eq_true _)]
    · rw [if_neg (fun e => h (Nat.beq_eq.mp e)), if_neg (fun e => h (eq_of_beq e)), erase_map p r, List.map_cons]
theorem uld_map : ∀ (xs ys ms : List Nat), uldF (xs.map f) (ys.map f) (ms.map f) = ((uldG xs ys ms).1.map f, (uldG xs ys ms).2.map f)
  | [], ys, ms => rfl
  | e :: r, ys, ms => by
    rw [List.map_cons, uldF, uldG, contains_map hf]
    split
    · rw [erase_map hf, uld_map r]
    · rw [show ms.map f ++ [f e] = (ms ++ [e]).map f by rw [List.map_append]; rfl, uld_map r]
end
theorem eqG_eq : ∀ {a b : List Nat}, eqG a b = true → a = b
  | [], [], _ => rfl
  | [], _ :: _, h => by simp [eqG] at h
  | _ :: _, [], h => by simp [eqG] at h
  | x :: r, y :: q, h => by
    simp only [eqG, Bool.and_eq_true] at h
    rw [Nat.beq_eq.mp h.1, eqG_eq h.2]
theorem eqO_eq {o : Option (List Nat × List Nat)} {a b : List Nat} (h : eqO o a b = true) : o = some (a, b) := by
  cases o with
  | none => simp [eqO] at h
  | some p =>
    simp only [eqO, Bool.and_eq_true] at h
    rw [← eqG_eq h.1, ← eqG_eq h.2]
section
variable {f dir : Nat → Nat} {g : Nat → Str} (hg : ∀ a b, ltS (g a) (g b) = decide (a < b)) (hd : ∀ a, a < 6 → dirnameF (g a) = g (dir a)) (hok : ∀ a, a < 6 → okS (g a) = true)
include hd
theorem overs_map {rest : List Nat} (h : ∀ a ∈ rest, a < 6) : oversF (rest.map g) = (rest.map dir).map g := by
  unfold oversF
  rw [List.map_map, List.map_map]
  exact List.map_congr_left fun a ha => hd a (h a ha)
include hg
theorem leaves_map {rest : List Nat} (h : ∀ a ∈ rest, a < 6) : leavesF (rest.map g) = (leavesG (rest.map dir) rest).map g := by
  unfold leavesF leavesG
  rw [overs_map hd h, List.filter_map]
  congr 1
  refine List.filter_congr fun a _ => ?_
  show (!((rest.map dir).map g).any (· == g a)) = _
  rw [mem_map hg]
theorem heads_map {rest ps : List Nat} (h : ∀ a ∈ rest, a < 6) : headsF (rest.map g) (ps.map g) = (headsG (rest.map dir) rest (sortG ps)).map g := by
  unfold headsF headsG
  rw [overs_map hd h, sort_map hg, List.filter_map]
  congr 1
  refine List.filter_congr fun a _ => ?_
  show (((rest.map dir).map g).any (· == g a) && !(rest.map g).any (· == g a)) = _
  rw [mem_map hg, mem_map hg]
include hok
theorem pairs_map {ps : List Nat} : ∀ (n : Nat) (rest : List Nat) (acc res : List (Nat × Nat)), pairsG dir (sortG ps) n rest acc = some res →
    pairsF (ps.map g) n (rest.map g) (acc.map fun p => (g p.1, g p.2)) = some (res.map fun p => (g p.1, g p.2))
  | 0, _, _, _, h => by simp [pairsG] at h
  | n + 1, rest, acc, res, h => by
    unfold pairsG at h
    split at h
    · rename_i hc
      simp only [Bool.and_eq_true] at hc
      obtain ⟨⟨⟨hb, hl⟩, e1⟩, e2⟩ := hc
      have hb' : ∀ a ∈ rest, a < 6 := fun a ha => Nat.blt_eq.mp (List.all_eq_true.mp hb a ha)
      have e1 := eqO_eq e1
      have e2 := eqO_eq e2
      unfold pairsF
      have s1 : sldF (rest.map g) (sortF (oversF (rest.map g))) 300 0 0 [] [] = some (leavesF (rest.map g), headsF (rest.map g) (ps.map g)) := by
        have := sld_map hg rest (sortG (rest.map dir)) 300 0 0 [] []
        rw [e1] at this
        rw [overs_map hd hb', sort_map hg, leaves_map hg hd hb', heads_map hg hd hb']
        exact this
      have s2 : sldF (sortF (oversF (rest.map g))) (rest.map g) 300 0 0 [] [] = some (headsF (rest.map g) (ps.map g), leavesF (rest.map g)) := by
        have := sld_map hg (sortG (rest.map dir)) rest 300 0 0 [] []
        rw [e2] at this
        rw [overs_map hd hb', sort_map hg, leaves_map hg hd hb', heads_map hg hd hb']
        exact this
      have s3 : (rest.map g).all okS = true := by
        rw [List.all_map]
        exact List.all_eq_true.mpr fun a ha => hok a (hb' a ha)
      rw [if_pos ⟨s1, s2, by rw [List.length_map]; exact Nat.le_of_ble_eq_true hl, s3⟩, leaves_map hg hd hb']
      split at h
      · rename_i hl0
        rw [hl0]
        cases h
        rfl
      · rename_i leaf l hl1
        rw [hl1]
        have hleaf : leaf < 6 := hb' leaf (List.mem_filter.mp (show leaf ∈ leavesG (rest.map dir) rest by rw [hl1]; exact List.mem_cons_self)).1
        have eu := uld_map hg rest.reverse [leaf, dir leaf] []
        rw [List.map_reverse] at eu
        simp only [List.map_cons, List.map_nil] at eu ⊢
        rw [hd leaf hleaf, eu, heads_map hg hd hb']
        split at h
        · rename_i hq
          have hq := eqG_eq hq
          have c1 : (uldG rest.reverse [leaf, dir leaf] []).2.map g = ((headsG (rest.map dir) rest (sortG ps)).map g).filter (fun z => z == g (dir leaf)) := by
            rw [hq, List.filter_map]
            congr 1
            refine List.filter_congr fun a _ => ?_
            show Nat.beq a (dir leaf) = (g a == g (dir leaf))
            rw [f_beq hg]
          rw [if_pos c1, sort_map hg]
          have ih := pairs_map n _ _ _ h
          rw [← ih]
          congr 1
          cases hu : (uldG rest.reverse [leaf, dir leaf] []).2 with
          | nil => simp only [List.map_nil, List.map_append, List.map_cons, if_pos]
          | cons z zs => simp only [List.map_cons, List.cons_ne_nil, if_false]
        · cases h
    · cases h
end
end
section
noncomputable def bit (k x : Nat) : Bool := Nat.beq (k / 2 ^ x % 2) 1
noncomputable def pc (k : Nat) : Nat := ([0, 1, 2, 3, 4, 5].filter (bit k)).length
noncomputable def chkK (k : Nat) : Bool := Nat.beq (keptF k).length (pc k) && (List.range 6).all fun x => ((keptF k).any (· == (x : Int))) == bit k x
noncomputable def openN (a b c d k : Nat) : Bool := !(bit k 1 || bit k 0) || !(bit k 2 || bit k a) || !(bit k 3 || bit k b) || !(bit k 4 || bit k c) || !(bit k 5 || bit k d)
noncomputable def chkM (a b c d : Nat) : Bool := ((List.range 64).all fun k => openN a b c d k || Nat.ble (few a b c d) (pc k)) && ((List.range 64).any fun k => !(openN a b c d k) && Nat.beq (pc k) (few a b c d))
noncomputable def gL (t r : Nat) : List Nat := ((tabT t)[r]?).getD [1114112 + r]
noncomputable def gT (t r : Nat) : Str := ⟨(gL t r).toArray⟩
noncomputable def gP (t m : Nat) : Str := gT t (mk t m)
noncomputable def zP (t m : Nat) : Str := if Nat.beq m 0 = true then Str.ofString "" else gP t m
noncomputable def chkA (t : Nat) : Bool := Nat.beq (tabT t).length 32 && (List.range 32).all fun r => decide (gL t r < gL t (r + 1))
noncomputable def chkB (t : Nat) : Bool := (List.range 32).all fun r => dirnameF (gT t r) == gT t (dirN t r) && okS (gT t r)
noncomputable def chkC (t : Nat) : Bool := (List.range 5).all fun i => (List.range (2 ^ i)).all fun m => joinF (gP t m) (nameF ((i : Int) + (t : Int))) == gP t (m + 2 ^ i)
noncomputable def chkD (t : Nat) : Bool := (List.range 5).all fun i => (List.range (2 ^ i)).all fun m => zP t m ++ Str.ofString "/" ++ nameF ((i : Int) + (t : Int)) == gP t (m + 2 ^ i)
noncomputable def chkE (t : Nat) : Bool := gP t 0 == Str.ofString "/"
theorem okA : (List.range 7).all chkA = true := by decide +kernel
theorem okE : (List.range 7).all chkE = true := by decide +kernel
theorem okK : (List.range 64).all chkK = true := by decide +kernel
theorem okM : all120 chkM = true := by decide +kernel
theorem okR : all120 goodR = true := by decide +kernel
theorem okB0 : chkB 0 = true := by decide +kernel
theorem okB1 : chkB 1 = true := by decide +kernel
theorem okB2 : chkB 2 = true := by decide +kernel
theorem okB3 : chkB 3 = true := by decide +kernel
theorem okB4 : chkB 4 = true := by decide +kernel
theorem okB5 : chkB 5 = true := by decide +kernel
theorem okB6 : chkB 6 = true := by decide +kernel
theorem okB : ∀ {t : Nat}, t < 7 → chkB t = true
  | 0, _ => okB0
  | 1, _ => okB1
  | 2, _ => okB2
  | 3, _ => okB3
  | 4, _ => okB4
  | 5, _ => okB5
  | 6, _ => okB6
  | n + 7, h => absurd h (by omega)
theorem okC0 : chkC 0 = true := by decide +kernel
theorem okC1 : chkC 1 = true := by decide +kernel
theorem okC2 : chkC 2 = true := by decide +kernel
theorem okC3 : chkC 3 = true := by decide +kernel
theorem okC4 : chkC 4 = true := by decide +kernel
theorem okC5 : chkC 5 = true := by decide +kernel
theorem okC6 : chkC 6 = true := by decide +kernel
theorem okC : ∀ {t : Nat}, t < 7 → chkC t = true
  | 0, _ => okC0
  | 1, _ => okC1
  | 2, _ => okC2
  | 3, _ => okC3
  | 4, _ => okC4
  | 5, _ => okC5
  | 6, _ => okC6
  | n + 7, h => absurd h (by omega)
theorem okD0 : chkD 0 = true := by decide +kernel
theorem okD1 : chkD 1 = true := by decide +kernel
theorem okD2 : chkD 2 = true := by decide +kernel
theorem okD3 : chkD 3 = true := by decide +kernel
theorem okD4 : chkD 4 = true := by decide +kernel
theorem okD5 : chkD 5 = true := by decide +kernel
theorem okD6 : chkD 6 = true := by decide +kernel
theorem okD : ∀ {t : Nat}, t < 7 → chkD t = true
  | 0, _ => okD0
  | 1, _ => okD1
  | 2, _ => okD2
  | 3, _ => okD3
  | 4, _ => okD4
  | 5, _ => okD5
  | 6, _ => okD6
  | n + 7, h => absurd h (by omega)
theorem okS70 : all120 (chkS 0) = true := by decide +kernel
theorem okS71 : all120 (chkS 1) = true := by decide +kernel
theorem okS72 : all120 (chkS 2) = true := by decide +kernel
theorem okS73 : all120 (chkS 3) = true := by decide +kernel
theorem okS74 : all120 (chkS 4) = true := by decide +kernel
theorem okS75 : all120 (chkS 5) = true := by decide +kernel
theorem okS76 : all120 (chkS 6) = true := by decide +kernel
theorem okS7 : ∀ {t : Nat}, t < 7 → all120 (chkS t) = true
  | 0, _ => okS70
  | 1, _ => okS71
  | 2, _ => okS72
  | 3, _ => okS73
  | 4, _ => okS74
  | 5, _ => okS75
  | 6, _ => okS76
  | n + 7, h => absurd h (by omega)
theorem all_range {n k : Nat} {p : Nat → Bool} (h : (List.range n).all p = true) (hk : k < n) : p k = true := List.all_eq_true.mp h k (List.mem_range.mpr hk)
theorem mem2 {a : Nat} (h : a < 2) : a ∈ [0, 1] := by
  have : a = 0 ∨ a = 1 := by omega
  rcases this with rfl | rfl <;> simp
theorem mem3 {a : Nat} (h : a < 3) : a ∈ [0, 1, 2] := by
  have : a = 0 ∨ a = 1 ∨ a = 2 := by omega
  rcases this with rfl | rfl | rfl <;> simp
theorem mem4 {a : Nat} (h : a < 4) : a ∈ [0, 1, 2, 3] := by
  have : a = 0 ∨ a = 1 ∨ a = 2 ∨ a = 3 := by omega
  rcases this with rfl | rfl | rfl | rfl <;> simp
theorem mem5 {a : Nat} (h : a < 5) : a ∈ [0, 1, 2, 3, 4] := by
  have : a = 0 ∨ a = 1 ∨ a = 2 ∨ a = 3 ∨ a = 4 := by omega
  rcases this with rfl | rfl | rfl | rfl | rfl <;> simp
theorem mem6 {a : Nat} (h : a < 6) : a ∈ [0, 1, 2, 3, 4, 5] := by
  have : a = 0 ∨ a = 1 ∨ a = 2 ∨ a = 3 ∨ a = 4 ∨ a = 5 := by omega
  rcases this with rfl | rfl | rfl | rfl | rfl | rfl <;> simp
theorem all120_get {p : Nat → Nat → Nat → Nat → Bool} (h : all120 p = true) {a b c d : Nat} (ha : a < 2) (hb : b < 3) (hc : c < 4) (hd : d < 5) : p a b c d = true :=
  List.all_eq_true.mp (List.all_eq_true.mp (List.all_eq_true.mp (List.all_eq_true.mp h a (mem2 ha)) b (mem3 hb)) c (mem4 hc)) d (mem5 hd)
theorem memG_mem {l : List Nat} {p : Nat} (h : memG l p = true) : p ∈ l := by
  obtain ⟨x, hx, e⟩ := List.any_eq_true.mp h
  rw [Nat.beq_eq.mp e]; exact hx
theorem beq2_eq {p q : Nat × Nat} (h : beq2 p q = true) : p = q := by
  simp only [beq2, Bool.and_eq_true] at h
  exact Prod.ext (Nat.beq_eq.mp h.1) (Nat.beq_eq.mp h.2)
-- the order of the texts
theorem gL_step {t : Nat} (h : chkA t = true) (r : Nat) : gL t r < gL t (r + 1) := by
  simp only [chkA, Bool.and_eq_true] at h
  by_cases hr : r < 32
  · exact of_decide_eq_true (all_range h.2 hr)
  · have hl := Nat.beq_eq.mp h.1
    unfold gL
    rw [List.getElem?_eq_none (by omega), List.getElem?_eq_none (by omega)]
    show [1114112 + r] < [1114112 + (r + 1)]
    exact List.cons_lt_cons_iff.mpr (.inl (by omega))
theorem gL_mono {t : Nat} (h : chkA t = true) {a b : Nat} (hab : a < b) : gL t a < gL t b := by
  obtain ⟨d, rfl⟩ : ∃ d, b = a + 1 + d := ⟨b - (a + 1), by omega⟩
  clear hab
  induction d with
  | zero => exact gL_step h a
  | succ d ih => exact List.lt_trans ih (gL_step h _)
theorem gT_lt {t : Nat} (h : chkA t = true) (a b : Nat) : ltS (gT t a) (gT t b) = decide (a < b) := by
  have e : ltS (gT t a) (gT t b) = decide (gL t a < gL t b) := rfl
  rw [e]
  rcases Nat.lt_trichotomy a b with q | q | q
  · rw [decide_eq_true q, decide_eq_true (gL_mono h q)]
  · subst q
    rw [decide_eq_false (Nat.lt_irrefl _), decide_eq_false (List.lt_irrefl _)]
  · rw [decide_eq_false (show ¬ a < b by omega), decide_eq_false (List.lt_asymm (gL_mono h q))]
theorem sT_mono {ls : List Nat} (hl : ls.length = 6) (h : [0, 1, 2, 3, 4, 5].all (fun r => Nat.blt (sT ls r) (sT ls (r + 1))) = true) {a b : Nat} (hab : a < b) : sT ls a < sT ls b := by
  have step : ∀ r, sT ls r < sT ls (r + 1) := fun r => by
    by_cases hr : r < 6
    · exact Nat.blt_eq.mp (List.all_eq_true.mp h r (mem6 hr))
    · unfold sT
      rw [List.getElem?_eq_none (by omega), List.getElem?_eq_none (by omega)]
      show 32 + r < 32 + (r + 1)
      omega
  obtain ⟨d, rfl⟩ : ∃ d, b = a + 1 + d := ⟨b - (a + 1), by omega⟩
  clear hab
  induction d with
  | zero => exact step a
  | succ d ih => exact Nat.lt_trans ih (step _)
theorem getD_get {l : List Nat} {u : Nat} (h : u < l.length) : l[u]? = some (l.getD u 0) := by
  rw [List.getElem?_eq_getElem h, List.getD_eq_getElem?_getD, List.getElem?_eq_getElem h]; rfl
theorem getD_mem {l : List Nat} {u : Nat} (h : u < l.length) : l.getD u 0 ∈ l := List.mem_of_getElem? (getD_get h)
theorem map_get {f : Nat → Str} {l : List Nat} {u : Nat} (h : u < l.length) : (l.map f)[u]? = some (f (l.getD u 0)) := by
  rw [List.getElem?_map, getD_get h]; rfl
theorem more_get {l k : List Str} {u : Nat} {q : Str} (h : l[u]? = some q) : (l ++ k)[u]? = some q := by
  rw [List.getElem?_append_left (List.getElem?_eq_some_iff.mp h).1]; exact h
-- the least number
theorem openF_nil {u1 u2 u3 u4 k : Nat} (h1 : u1 < 2) (h2 : u2 < 3) (h3 : u3 < 4) (h4 : u4 < 5) (hk : k < 64) : decide (openF [((0 : Nat) : Int), (u1 : Int), u2, u3, u4] k = []) = !(openN u1 u2 u3 u4 k) := by
  have hK := all_range okK hk
  simp only [chkK, Bool.and_eq_true] at hK
  have b : ∀ x : Nat, x < 6 → ((keptF k).any (· == (x : Int))) = bit k x := fun x hx => eq_of_beq (all_range hK.2 hx)
  have o : ∀ p u : Nat, p < 5 → u < 6 → (List.getD [((0 : Nat) : Int), (u1 : Int), u2, u3, u4] p 0) = (u : Int) → openT [((0 : Nat) : Int), (u1 : Int), u2, u3, u4] k p = !(bit k (p + 1) || bit k u) := fun p u hp hu e => by
    unfold openT
    rw [e, b u hu, show ((p : Int) + 1) = ((p + 1 : Nat) : Int) by omega, b (p + 1) (by omega), Bool.not_or]
  have o0 := o 0 0 (by omega) (by omega) rfl
  have o1 := o 1 u1 (by omega) (by omega) rfl
  have o2 := o 2 u2 (by omega) (by omega) rfl
  have o3 := o 3 u3 (by omega) (by omega) rfl
  have o4 := o 4 u4 (by omega) (by omega) rfl
  rw [Bool.eq_iff_iff, decide_eq_true_eq]
  unfold openF openN
  rw [List.map_eq_nil_iff, List.filter_eq_nil_iff]
  constructor
  · intro h
    have z : ∀ p, p < 5 → openT [((0 : Nat) : Int), (u1 : Int), u2, u3, u4] k p = false := fun p hp => by
      have := h p (List.mem_range.mpr hp)
      simpa using this
    rw [← o0, ← o1, ← o2, ← o3, ← o4, z 0 (by omega), z 1 (by omega), z 2 (by omega), z 3 (by omega), z 4 (by omega)]
    rfl
  · intro h p hp
    rw [← o0, ← o1, ← o2, ← o3, ← o4] at h
    simp only [Bool.not_eq_true', Bool.or_eq_false_iff] at h
    obtain ⟨⟨⟨⟨a0, a1⟩, a2⟩, a3⟩, a4⟩ := h
    have hp := List.mem_range.mp hp
    have : p = 0 ∨ p = 1 ∨ p = 2 ∨ p = 3 ∨ p = 4 := by omega
    rcases this with rfl | rfl | rfl | rfl | rfl <;> simp_all
theorem counts_mem {u1 u2 u3 u4 : Nat} (h1 : u1 < 2) (h2 : u2 < 3) (h3 : u3 < 4) (h4 : u4 < 5) {M : Int} : M ∈ countsF [((0 : Nat) : Int), (u1 : Int), u2, u3, u4] 64 ↔ ∃ k, k < 64 ∧ openN u1 u2 u3 u4 k = false ∧ M = (pc k : Int) := by
  unfold countsF
  rw [List.mem_map]
  constructor
  · rintro ⟨k, hk, rfl⟩
    obtain ⟨hk, ho⟩ := List.mem_filter.mp hk
    have hk := List.mem_range.mp hk
    rw [openF_nil h1 h2 h3 h4 hk] at ho
    have hK := all_range okK hk
    simp only [chkK, Bool.and_eq_true] at hK
    exact ⟨k, hk, by simpa using ho, by rw [Nat.beq_eq.mp hK.1]⟩
  · rintro ⟨k, hk, ho, rfl⟩
    have hK := all_range okK hk
    simp only [chkK, Bool.and_eq_true] at hK
    exact ⟨k, List.mem_filter.mpr ⟨List.mem_range.mpr hk, by rw [openF_nil h1 h2 h3 h4 hk, ho]; rfl⟩, by rw [Nat.beq_eq.mp hK.1]⟩
theorem few_is {u1 u2 u3 u4 : Nat} (h1 : u1 < 2) (h2 : u2 < 3) (h3 : u3 < 4) (h4 : u4 < 5) :
    0 < (countsF [((0 : Nat) : Int), (u1 : Int), u2, u3, u4] 64).length ∧ ∀ M ∈ countsF [((0 : Nat) : Int), (u1 : Int), u2, u3, u4] 64, (∀ a ∈ countsF [((0 : Nat) : Int), (u1 : Int), u2, u3, u4] 64, M ≤ a) → M = (few u1 u2 u3 u4 : Int) := by
  have hM := all120_get okM h1 h2 h3 h4
  simp only [chkM, Bool.and_eq_true] at hM
  obtain ⟨k, hk, hq⟩ := List.any_eq_true.mp hM.2
  simp only [Bool.and_eq_true, Bool.not_eq_true'] at hq
  have hin : (few u1 u2 u3 u4 : Int) ∈ countsF [((0 : Nat) : Int), (u1 : Int), u2, u3, u4] 64 := (counts_mem h1 h2 h3 h4).mpr ⟨k, List.mem_range.mp hk, hq.1, by rw [Nat.beq_eq.mp hq.2]⟩
  refine ⟨List.length_pos_of_mem hin, fun M hMm hle => ?_⟩
  have l1 := hle _ hin
  obtain ⟨k', hk', ho, rfl⟩ := (counts_mem h1 h2 h3 h4).mp hMm
  have := all_range hM.1 hk'
  rw [ho, Bool.false_or] at this
  have := Nat.le_of_ble_eq_true this
  omega
theorem okS2 {z : Str} (h : okS z = true) : z.length ≤ 1000 ∧ PyData.strOk z = true := by
  simpa only [okS, Bool.and_eq_true, decide_eq_true_eq] using h
theorem beqS {x y : Str} (h : (x == y) = true) : x = y := eq_of_beq h
theorem plain (u1 u2 u3 u4 T : Nat) (h1 : u1 < 2) (h2 : u2 < 3) (h3 : u3 < 4) (h4 : u4 < 5) (hT : T < 7) : ∃ (p0 p1 p2 p3 p4 p5 q1 q2 q3 q4 e z1 z2 z3 z4 : Str) (res : List (Str × Str)), Plain u1 u2 u3 u4 (T : Int) p0 p1 p2 p3 p4 p5 q1 q2 q3 q4 e z1 z2 z3 z4 res := by
  have hA := all_range okA hT
  have hB := okB hT
  have hC := okC hT
  have hD := okD hT
  have hE := beqS (all_range okE hT)
  have hS := all120_get (okS7 hT) h1 h2 h3 h4
  have b1 : M1 u1 < 2 := by
    rcases List.mem_cons.mp (getD_mem (l := [0, 1]) (u := u1) h1) with e | e
    · unfold M1; omega
    · have := List.mem_singleton.mp e; unfold M1; omega
  have b2 : M2 u1 u2 < 4 := by
    have := getD_mem (l := [0, 1, m2 u1]) (u := u2) h2
    simp only [List.mem_cons, List.not_mem_nil, or_false] at this
    unfold M2; unfold m2 at this ⊢; omega
  have b3 : M3 u1 u2 u3 < 8 := by
    have := getD_mem (l := [0, 1, m2 u1, m3 u1 u2]) (u := u3) h3
    simp only [List.mem_cons, List.not_mem_nil, or_false] at this
    unfold M3; unfold m2 m3 at this ⊢; omega
  have b4 : M4 u1 u2 u3 u4 < 16 := by
    have := getD_mem (l := [0, 1, m2 u1, m3 u1 u2, m4 u1 u2 u3]) (u := u4) h4
    simp only [List.mem_cons, List.not_mem_nil, or_false] at this
    unfold M4; unfold m2 m3 m4 at this ⊢; omega
  have hok : ∀ m, okS (gP T m) = true := fun m => by
    have := all_range hB (show mk T m < 32 from Nat.mod_lt _ (by decide))
    simp only [Bool.and_eq_true] at this
    exact this.2
  have hzl : ∀ m, (zP T m).length ≤ 1000 := fun m => by
    unfold zP
    split
    · decide
    · exact (okS2 (hok m)).1
  have J : ∀ i m : Nat, i < 5 → m < 2 ^ i → gP T (m + 2 ^ i) = joinF (gP T m) (nameF ((i : Int) + (T : Int))) := fun i m hi hm => (beqS (all_range (all_range hC hi) hm)).symm
  have Z : ∀ i m : Nat, i < 5 → m < 2 ^ i → gP T (m + 2 ^ i) = zP T m ++ Str.ofString "/" ++ nameF ((i : Int) + (T : Int)) := fun i m hi hm => (beqS (all_range (all_range hD hi) hm)).symm
  -- the six in order
  unfold chkS at hS
  generalize sortG (psG T u1 u2 u3 u4) = ls at hS
  generalize (ls.map fun x => idxG (dirN T x) ls) = par at hS
  unfold chkP at hS
  split at hS
  · rename_i z o a b c d
    simp only [Bool.and_eq_true] at hS
    obtain ⟨⟨⟨⟨⟨⟨⟨⟨⟨⟨⟨⟨⟨⟨_, _⟩, ha⟩, hb⟩, hc⟩, hd⟩, hfew⟩, hl⟩, hmono⟩, h32⟩, hdir⟩, hR⟩, hsort⟩, ht1⟩, ht2⟩ := hS
    have ha := Nat.blt_eq.mp ha
    have hb := Nat.blt_eq.mp hb
    have hc := Nat.blt_eq.mp hc
    have hd := Nat.blt_eq.mp hd
    have hl := Nat.beq_eq.mp hl
    have hfew := Nat.beq_eq.mp hfew
    have hdir := eqG_eq hdir
    have hR := List.map_inj_left.mp (eqG_eq hR)
    have hsort := eqG_eq hsort
    have hGR := all120_get okR ha hb hc hd
    unfold goodR at hGR
    split at hGR
    · cases hGR
    · rename_i res hres
      simp only [Bool.and_eq_true] at hGR
      obtain ⟨⟨⟨hr1, hr2⟩, hr3⟩, hr4⟩ := hGR
      have hr3 := Nat.beq_eq.mp hr3
      have hr4 := Nat.le_of_ble_eq_true hr4
      have hg : ∀ x y, ltS (gT T (sT ls x)) (gT T (sT ls y)) = decide (x < y) := fun x y => by
        rw [gT_lt hA]
        rcases Nat.lt_trichotomy x y with q | q | q
        · rw [decide_eq_true q, decide_eq_true (sT_mono hl hmono q)]
        · rw [q, decide_eq_false (Nat.lt_irrefl _), decide_eq_false (Nat.lt_irrefl _)]
        · have := sT_mono hl hmono q
          rw [decide_eq_false (show ¬ sT ls x < sT ls y by omega), decide_eq_false (show ¬ x < y by omega)]
      have at6 : ∀ x, x < 6 → ∃ y, ls[x]? = some y ∧ sT ls x = y ∧ y < 32 := fun x hx => by
        have e := List.getElem?_eq_getElem (l := ls) (i := x) (by omega)
        refine ⟨_, e, ?_, Nat.blt_eq.mp (List.all_eq_true.mp h32 _ (List.mem_of_getElem? e))⟩
        unfold sT; rw [e]; rfl
      have hdn : ∀ x, x < 6 → dirnameF (gT T (sT ls x)) = gT T (sT ls ([0, 0, a, b, c, d].getD x 0)) := fun x hx => by
        obtain ⟨y, e, es, ey⟩ := at6 x hx
        have hq := all_range hB ey
        simp only [Bool.and_eq_true] at hq
        rw [es, beqS hq.1]
        have : (ls.map fun x => dirN T x)[x]? = ([0, 0, a, b, c, d].map (sT ls))[x]? := congrArg (fun l => l[x]?) hdir
        rw [List.getElem?_map, List.getElem?_map, e, getD_get (l := [0, 0, a, b, c, d]) (u := x) hx] at this
        exact congrArg (gT T) (Option.some.inj this)
      have hoks : ∀ x, x < 6 → okS (gT T (sT ls x)) = true := fun x hx => by
        obtain ⟨y, e, es, ey⟩ := at6 x hx
        have hq := all_range hB ey
        simp only [Bool.and_eq_true] at hq
        rw [es]; exact hq.2
      have hP : ∀ m ∈ [0, 1, m2 u1, m3 u1 u2, m4 u1 u2 u3, m5 u1 u2 u3 u4], gT T (sT ls (idxG (mk T m) ls)) = gP T m := fun m hm => by rw [hR m hm]; rfl
      have i1 : M1 u1 ∈ [0, 1, m2 u1, m3 u1 u2, m4 u1 u2 u3, m5 u1 u2 u3 u4] := List.mem_append_left [m2 u1, m3 u1 u2, m4 u1 u2 u3, m5 u1 u2 u3 u4] (getD_mem (l := [0, 1]) h1)
      have i2 : M2 u1 u2 ∈ [0, 1, m2 u1, m3 u1 u2, m4 u1 u2 u3, m5 u1 u2 u3 u4] := List.mem_append_left [m3 u1 u2, m4 u1 u2 u3, m5 u1 u2 u3 u4] (getD_mem (l := [0, 1, m2 u1]) h2)
      have i3 : M3 u1 u2 u3 ∈ [0, 1, m2 u1, m3 u1 u2, m4 u1 u2 u3, m5 u1 u2 u3 u4] := List.mem_append_left [m4 u1 u2 u3, m5 u1 u2 u3 u4] (getD_mem (l := [0, 1, m2 u1, m3 u1 u2]) h3)
      have i4 : M4 u1 u2 u3 u4 ∈ [0, 1, m2 u1, m3 u1 u2, m4 u1 u2 u3, m5 u1 u2 u3 u4] := List.mem_append_left [m5 u1 u2 u3 u4] (getD_mem (l := [0, 1, m2 u1, m3 u1 u2, m4 u1 u2 u3]) h4)
      have hPl : ([0, 1, m2 u1, m3 u1 u2, m4 u1 u2 u3, m5 u1 u2 u3 u4].map fun m => idxG (mk T m) ls).map (fun x => gT T (sT ls x)) = [0, 1, m2 u1, m3 u1 u2, m4 u1 u2 u3, m5 u1 u2 u3 u4].map (gP T) := by
        rw [List.map_map]
        exact List.map_congr_left hP
      have hTi : (tiedR (fun m => idxG (mk T m) ls) u1 u2 u3 u4).map (fun p => (gT T (sT ls p.1), gT T (sT ls p.2))) = [(gP T 1, gP T 0), (gP T (m2 u1), gP T (M1 u1)), (gP T (m3 u1 u2), gP T (M2 u1 u2)), (gP T (m4 u1 u2 u3), gP T (M3 u1 u2 u3)), (gP T (m5 u1 u2 u3 u4), gP T (M4 u1 u2 u3 u4))] := by
        simp only [tiedR, List.map_cons, List.map_nil]
        rw [hP _ i1, hP _ i2, hP _ i3, hP _ i4, hP 0 (by simp), hP 1 (by simp), hP (m2 u1) (by simp), hP (m3 u1 u2) (by simp), hP (m4 u1 u2 u3) (by simp), hP (m5 u1 u2 u3 u4) (by simp)]
      have hpf := pairs_map (g := fun x => gT T (sT ls x)) (dir := fun r => [0, 0, a, b, c, d].getD r 0) (ps := [0, 1, m2 u1, m3 u1 u2, m4 u1 u2 u3, m5 u1 u2 u3 u4].map fun m => idxG (mk T m) ls) hg hdn hoks 20 [0, 1, 2, 3, 4, 5] [] res (by rw [hsort]; exact hres)
      rw [show ([0, 1, 2, 3, 4, 5] : List Nat).map (fun x => gT T (sT ls x)) = sortF (([0, 1, m2 u1, m3 u1 u2, m4 u1 u2 u3, m5 u1 u2 u3 u4].map fun m => idxG (mk T m) ls).map (fun x => gT T (sT ls x))) by rw [sort_map hg, hsort], hPl] at hpf
      have hup : ((res.map fun p => (gT T (sT ls p.1), gT T (sT ls p.2))).map (·.2)) = (res.map (·.2)).map (fun x => gT T (sT ls x)) := by rw [List.map_map, List.map_map]; rfl
      obtain ⟨fne, ffew⟩ := few_is h1 h2 h3 h4
      refine ⟨gP T 0, gP T 1, gP T (m2 u1), gP T (m3 u1 u2), gP T (m4 u1 u2 u3), gP T (m5 u1 u2 u3 u4), gP T (M1 u1), gP T (M2 u1 u2), gP T (M3 u1 u2 u3), gP T (M4 u1 u2 u3 u4), zP T 0, zP T (M1 u1), zP T (M2 u1 u2), zP T (M3 u1 u2 u3), zP T (M4 u1 u2 u3 u4), res.map fun p => (gT T (sT ls p.1), gT T (sT ls p.2)), ?_⟩
      have G1 : [gP T 0, gP T 1][u1]? = some (gP T (M1 u1)) := map_get (l := [0, 1]) h1
      have G2 : [gP T 0, gP T 1, gP T (m2 u1)][u2]? = some (gP T (M2 u1 u2)) := map_get (l := [0, 1, m2 u1]) h2
      have G3 : [gP T 0, gP T 1, gP T (m2 u1), gP T (m3 u1 u2)][u3]? = some (gP T (M3 u1 u2 u3)) := map_get (l := [0, 1, m2 u1, m3 u1 u2]) h3
      have G4 : [gP T 0, gP T 1, gP T (m2 u1), gP T (m3 u1 u2), gP T (m4 u1 u2 u3)][u4]? = some (gP T (M4 u1 u2 u3 u4)) := map_get (l := [0, 1, m2 u1, m3 u1 u2, m4 u1 u2 u3]) h4
      refine { P0 := hE, E0 := rfl, J1 := J 0 0 (by omega) (by omega), J2 := J 1 _ (by omega) b1, J3 := J 2 _ (by omega) b2, J4 := J 3 _ (by omega) b3, J5 := J 4 _ (by omega) b4, G1 := G1, G2 := G2, G3 := G3, G4 := G4, S1 := Z 0 0 (by omega) (by omega), S2 := Z 1 _ (by omega) b1, S3 := Z 2 _ (by omega) b2, S4 := Z 3 _ (by omega) b3, S5 := Z 4 _ (by omega) b4, H1 := map_get (f := zP T) (l := [0, 1]) h1, H2 := map_get (f := zP T) (l := [0, 1, m2 u1]) h2, H3 := map_get (f := zP T) (l := [0, 1, m2 u1, m3 u1 u2]) h3, H4 := map_get (f := zP T) (l := [0, 1, m2 u1, m3 u1 u2, m4 u1 u2 u3]) h4, K1 := more_get (k := [gP T (m2 u1), gP T (m3 u1 u2), gP T (m4 u1 u2 u3), gP T (m5 u1 u2 u3 u4)]) G1, K2 := more_get (k := [gP T (m3 u1 u2), gP T (m4 u1 u2 u3), gP T (m5 u1 u2 u3 u4)]) G2, K3 := more_get (k := [gP T (m4 u1 u2 u3), gP T (m5 u1 u2 u3 u4)]) G3, K4 := more_get (k := [gP T (m5 u1 u2 u3 u4)]) G4, B0 := (okS2 (hok _)).1, B1 := (okS2 (hok _)).1, B2 := (okS2 (hok _)).1, B3 := (okS2 (hok _)).1, B4 := (okS2 (hok _)).1, C0 := hzl _, C1 := hzl _, C2 := hzl _, C3 := hzl _, C4 := hzl _, ok := ?_, okt := ?_, pf := hpf, t1 := ?_, t2 := ?_, ne := fne, few := ?_, rl := ?_ }
      · simp only [List.all_cons, List.all_nil, hok, Bool.and_self]
      · simp only [List.all_cons, List.all_nil, (okS2 (hok _)).2, Bool.and_self]
      · intro p hp
        obtain ⟨x, hx, rfl⟩ := List.mem_map.mp hp
        have q := List.all_eq_true.mp hr1 x hx
        simp only [Bool.and_eq_true] at q
        obtain ⟨y, hy, e⟩ := List.any_eq_true.mp (List.all_eq_true.mp ht1 _ (memG_mem q.1))
        have e := beq2_eq e
        have ex : x = y := by rw [← e, ← Nat.beq_eq.mp q.2]
        rw [← hTi]
        exact List.any_eq_true.mpr ⟨_, List.mem_map.mpr ⟨x, ex ▸ hy, rfl⟩, beq_self_eq_true _⟩
      · intro p hp
        rw [← hTi] at hp
        obtain ⟨x, hx, rfl⟩ := List.mem_map.mp hp
        have q := List.all_eq_true.mp ht2 x hx
        simp only [Bool.and_eq_true] at q
        have w := List.all_eq_true.mp hr2 _ (memG_mem q.1)
        rw [hup, mem_map hg, mem_map hg, Nat.beq_eq.mp q.2]
        exact w
      · intro M hM hle
        rw [ffew M hM hle, List.length_map, hr3, hfew]
      · rw [List.length_map]; exact hr4
  · cases hS
end
section
open PyProof.Rows.TI (Frs SameUp)
local macro_rules | `(tactic| k_ne) => `(tactic| first | assumption | exact Ne.symm (by assumption) | (refine neN ?_; (try dsimp only); omega))
local macro_rules | `(tactic| k_all) => `(tactic| first | assumption | exact List.forall_mem_nil _ | (refine' List.forall_mem_cons.mpr ⟨?a, ?b⟩; (case a => k_ne); (case b => k_all)))
theorem law_holds : PySem.Challenge.rw_pd0046_01.Holds := hd (by
  w_top off
  k_with_none
  (k_with "eval ListComp" => (k_here; k_dflt (refine LCg.ListComp_U (F₀ := by k_asm) (by rfl) (by decide) (by rfl) (by decide) (by rfl) ?_); k_dflt lcg_toSrc))
  (k_with "eval ListComp" => (k_here; lct_look; k_dflt (refine LCt.ListComp_T (F₀ := by k_asm) (by with_unfolding_all rfl) (by decide) (by rfl) (by decide) (by rfl) ?_); k_dflt lct_toSrc))
  (k_with "FinE" => ((unfold LCg.FinE); intro Dp_k hp_k tkp_k Fp_k Np_k o1p_k; (try simp only [LCg.Off1, and_true] at o1p_k); (repeat (obtain ⟨(o9_k : @Ne Addr _ _), o1p_k⟩ := o1p_k)); (try simp only [List.nil_append, List.cons_append] at Np_k); (try dsimp only)))
  (k_with "MINE size" => (simp only [sizeLine_eq, List.size_toArray, List.length_append, List.length_cons, List.length_nil]; omega))
  (k_with "CompSrc" => (k_here; (with_reducible show LCg.CompSrc _ _ _ _ _ _ _ (PySem.Expr.Subscript _ _ _) _ _ _ _ _ _); k_dflt (
  (refine LCg.CompSrc.ledger (by rfl) (by k_asm) (by k_asm) (by k_mem) (by walk_at "MINE size") ?_; intro g9_k))))
  (k_with "CompSrc" => (k_here; (with_reducible show LCg.CompSrc _ _ _ _ _ _ _ (PySem.Expr.List _ _) _ _ _ _ _ _); k_dflt (
  (refine LCg.CompSrc.range (by rfl) (by k_asm) (by k_asm) (by assumption) (by first | decide | rfl) (by first | rfl | decide) (by first | size_fits | exact Nat.le_of_ble_eq_true rfl) ?_; intro g9_k))))
  (k_with "CompSrcT" => (k_here; k_dflt (
  (refine LCt.CompSrcT.ledger (by rfl) (by k_asm) (by k_asm) (by k_mem) (by walk_at "MINE size") ?_; intro g9_k))))
  (k_with "subscriptTail Name Subscript ref int" => (k_here; (with_unfolding_all refine' item_strs' ?k1_k ?k0_k ?k2_k ?k3_k ?k5_k ?k4_k ?_ ?k6_k; (case k5_k => exact rfl); (case k1_k => is_list); (case k0_k => exact rfl); (case k2_k => assumption); (case k3_k => assumption); (case k4_k => exact Nat.le_of_ble_eq_true rfl); (case k6_k => intro _; with_unfolding_all rfl)); intro t9_k))
  (k_with "subscriptTail BinOp" => (k_here; k_dflt (refine kba_turn (value' := PySem.Expr.Name (PySem.Str.ofString "_") ⟨0, 0, 0, 0⟩) (fun _ => rfl) ?_)))
  (k_with "subscriptTail Name BinOp ref int" => (k_here; (first | (with_unfolding_all refine' item_strs' (i := 1) ?k1_k ?k0_k ?k2_k ?k3_k ?k5_k ?k4_k ?_ ?k6_k; (case k5_k => exact rfl); (case k1_k => is_list); (case k0_k => exact rfl); (case k2_k => assumption); (case k3_k => exact rfl); (case k4_k => exact Nat.le_of_ble_eq_true rfl); (case k6_k => intro _; with_unfolding_all rfl)) | (with_unfolding_all refine' item_strs' (i := 2) ?k1_k ?k0_k ?k2_k ?k3_k ?k5_k ?k4_k ?_ ?k6_k; (case k5_k => exact rfl); (case k1_k => is_list); (case k0_k => exact rfl); (case k2_k => assumption); (case k3_k => exact rfl); (case k4_k => exact Nat.le_of_ble_eq_true rfl); (case k6_k => intro _; with_unfolding_all rfl)) | (with_unfolding_all refine' item_strs' (i := 3) ?k1_k ?k0_k ?k2_k ?k3_k ?k5_k ?k4_k ?_ ?k6_k; (case k5_k => exact rfl); (case k1_k => is_list); (case k0_k => exact rfl); (case k2_k => assumption); (case k3_k => exact rfl); (case k4_k => exact Nat.le_of_ble_eq_true rfl); (case k6_k => intro _; with_unfolding_all rfl)) | (with_unfolding_all refine' item_strs' (i := 4) ?k1_k ?k0_k ?k2_k ?k3_k ?k5_k ?k4_k ?_ ?k6_k; (case k5_k => exact rfl); (case k1_k => is_list); (case k0_k => exact rfl); (case k2_k => assumption); (case k3_k => exact rfl); (case k4_k => exact Nat.le_of_ble_eq_true rfl); (case k6_k => intro _; with_unfolding_all rfl)) | (with_unfolding_all refine' item_strs' (i := 5) ?k1_k ?k0_k ?k2_k ?k3_k ?k5_k ?k4_k ?_ ?k6_k; (case k5_k => exact rfl); (case k1_k => is_list); (case k0_k => exact rfl); (case k2_k => assumption); (case k3_k => exact rfl); (case k4_k => exact Nat.le_of_ble_eq_true rfl); (case k6_k => intro _; with_unfolding_all rfl))); intro t9_k))
  (k_with "subscriptTail Name Name ref int" => (k_here; (with_reducible show wpAny _ _ (subscriptTail _ _ _ (Value.int (Nat.cast (OfNat.ofNat _ : Nat) : Int) _)) _ _ _); (with_unfolding_all refine' item_n ?k1_k ?k3_k ?k4_k ?_ ?k6_k; (case k1_k => is_list); (case k3_k => exact rfl); (case k4_k => exact Nat.le_of_ble_eq_true rfl); (case k6_k => intro _; with_unfolding_all rfl))))
  (k_with "MINE fit" => (simp only [List.size_toArray]; omega))
  (k_with "call builtin:len" => (k_here; (with_reducible show wpAny _ _ (call (Value.builtin "len") [Value.ref _]) _ _ _); k_dflt (refine' PyProof.Rows.len_list ?k1_k ?k2_k ?_; (case k1_k => exact News.isList (by k_asm) (by k_mem)); (case k2_k => walk_at "MINE fit"))))
  k_go0
  all_goals try k_fold
  (repeat' ((fail_if_success (with_reducible show wpAny _ _ (call (Value.ref 150) _) _ _ _)); (fail_if_success (with_reducible show wpAny _ _ (call (Value.ref 157) _) _ _ _)); (fail_if_success (with_reducible show wpAny _ _ (call (Value.ref 172) _) _ _ _)); (fail_if_success (with_reducible show wpAny _ _ (call (Value.ref 177) _) _ _ _)); (fail_if_success (with_reducible show wpAny _ _ (compareOp _ (Value.ref _) (Value.ref _)) _ _ _)); (fail_if_success (with_reducible show wpAny _ _ (storeName _ _ (Value.ref _)) _ _ _)); first | (k_unfold; (try dsimp only)) | walk1 | (dsimp only; walk1) | (leave1; walk_say "STEP leave1"; try dsimp only) | fail "no step"))
  have Nq := keepA (by k_asm)
  (repeat' ((fail_if_success (with_reducible show wpAny _ _ (call (Value.ref 150) _) _ _ _)); (fail_if_success (with_reducible show wpAny _ _ (call (Value.ref 157) _) _ _ _)); (fail_if_success (with_reducible show wpAny _ _ (call (Value.ref 172) _) _ _ _)); (fail_if_success (with_reducible show wpAny _ _ (call (Value.ref 177) _) _ _ _)); (fail_if_success (with_reducible show wpAny _ _ (compareOp _ (Value.ref _) (Value.ref _)) _ _ _)); (fail_if_success (with_reducible show LCt.CompRestT _ _ _ _ _ _ _ _ _ _ _ _ _ _ _ _ _ _ _ _)); first | (k_unfold; (try dsimp only)) | walk1 | (dsimp only; walk1) | (leave1; walk_say "STEP leave1"; try dsimp only) | fail "no step"))
  obtain ⟨u1, u2, u3, u4, T, r0, r1, r2, r3, r4, e9, b1, b2, b3, b4, eT, bT⟩ := ups5 (by assumption)
  subst e9
  rename News _ _ _ _ => Nq
  rename Fr _ _ _ _ => Fq
  replace Nq := keepB Nq
  rw [eT] at Fq ⊢
  obtain ⟨p0, p1, p2, p3, p4, p5, q1, q2, q3, q4, e, z1, z2, z3, z4, res, P⟩ := plain u1 u2 u3 u4 T b1 b2 b3 b4 bT
  obtain ⟨P0, E0, J1, J2, J3, J4, J5, G1, G2, G3, G4, S1, S2, S3, S4, S5, H1, H2, H3, H4, K1, K2, K3, K4, B0, B1, B2, B3, B4, C0, C1, C2, C3, C4, ok, okt, pf, t1, t2, ne, few, rl⟩ := P
  refine' c_joined_N (u0 := 0) (by k_asm) (by k_asm) (by k_asm) (by k_asm) ?zd ?zu ?z0 P0 rfl B0 J1 G1 B1 J2 G2 B2 J3 G3 B3 J4 G4 B4 J5 ?_
  case zd => ktr_room
  case zu => ktr_units
  case z0 => exact News.isList Nq (by k_mem)
  intro D k vs h9 tk9 kk9 F9 N9 fD eD hvs
  obtain ⟨s0, s1, s2, s3, s4, s5, e9⟩ := strs6 hvs
  subst e9
  have N10 := new_entry Fq N9 fD eD
  have oD := fresh_all Nq (fun p h => h) fD
  simp only [List.forall_mem_cons, List.not_mem_nil, false_implies, implies_true, and_true] at oD
  obtain ⟨oD1, oD2, oD3, oD4, oD5, oD6⟩ := oD
  rename (@LT.lt Nat _ _ _) ∧ _ => hl
  obtain ⟨_, _, _, hl5, hl4, hl3, hl2, hl1⟩ := hl
  have ol5 := lt_ne hl5
  have ol4 := lt_ne hl4
  have ol3 := lt_ne hl3
  have ol2 := lt_ne hl2
  have ol1 := lt_ne hl1
  clear hl5 hl4 hl3 hl2 hl1
  clear N9 Nq Fq
  (repeat' ((fail_if_success (with_reducible show wpAny _ _ (call (Value.ref 150) _) _ _ _)); (fail_if_success (with_reducible show wpAny _ _ (call (Value.ref 157) _) _ _ _)); (fail_if_success (with_reducible show wpAny _ _ (call (Value.ref 172) _) _ _ _)); (fail_if_success (with_reducible show wpAny _ _ (call (Value.ref 177) _) _ _ _)); (fail_if_success (with_reducible show wpAny _ _ (compareOp _ (Value.ref _) (Value.ref _)) _ _ _)); (fail_if_success (with_reducible show LCt.CompRestT _ _ _ _ _ _ _ _ _ _ _ _ _ _ _ _ _ _ _ _)); first | (k_unfold; (try dsimp only)) | walk1 | (dsimp only; walk1) | (leave1; walk_say "STEP leave1"; try dsimp only) | fail "no step"))
  rename News _ _ _ _ => Nq
  rename Fr _ _ _ _ => Fq
  refine' c_spelled_N (u0 := 0) Fq (by k_asm) (by k_asm) Nq ?zd ?zu ?z0 E0 rfl C0 S1 H1 C1 S2 H2 C2 S3 H3 C3 S4 H4 C4 S5 ?_
  case zd => ktr_room
  case zu => ktr_units
  case z0 => exact News.isList Nq (by k_mem)
  intro D2 k2 vs2 h10 tk10 kk10 F10 N11 fD2 eD2 hvs2
  have N12 := new_entry Fq N11 fD2 eD2
  clear N11 Nq Fq
  (repeat' ((fail_if_success (with_reducible show wpAny _ _ (call (Value.ref 150) _) _ _ _)); (fail_if_success (with_reducible show wpAny _ _ (call (Value.ref 157) _) _ _ _)); (fail_if_success (with_reducible show wpAny _ _ (call (Value.ref 172) _) _ _ _)); (fail_if_success (with_reducible show wpAny _ _ (call (Value.ref 177) _) _ _ _)); (fail_if_success (with_reducible show wpAny _ _ (compareOp _ (Value.ref _) (Value.ref _)) _ _ _)); (fail_if_success (with_reducible show LCt.CompRestT _ _ _ _ _ _ _ _ _ _ _ _ _ _ _ _ _ _ _ _)); first | (k_unfold; (try dsimp only)) | walk1 | (dsimp only; walk1) | (leave1; walk_say "STEP leave1"; try dsimp only) | fail "no step"))
  refine' ne_strs (News.get N12 (by k_mem)) (News.get N12 (by k_mem)) hvs hvs2 (by rw [P0]) (okS_ok ok) ?zu ?_
  case zu => ktr_units
  (repeat' ((fail_if_success (with_reducible show wpAny _ _ (call (Value.ref 150) _) _ _ _)); (fail_if_success (with_reducible show wpAny _ _ (call (Value.ref 157) _) _ _ _)); (fail_if_success (with_reducible show wpAny _ _ (call (Value.ref 172) _) _ _ _)); (fail_if_success (with_reducible show wpAny _ _ (call (Value.ref 177) _) _ _ _)); (fail_if_success (with_reducible show wpAny _ _ (compareOp _ (Value.ref _) (Value.ref _)) _ _ _)); (fail_if_success (with_reducible show LCt.CompRestT _ _ _ _ _ _ _ _ _ _ _ _ _ _ _ _ _ _ _ _)); first | (k_unfold; (try dsimp only)) | walk1 | (dsimp only; walk1) | (leave1; walk_say "STEP leave1"; try dsimp only) | fail "no step"))
  rename News _ _ _ _ => Nq
  rename Fr _ _ _ _ => Fq
  refine' pairs_N (fuel := 20) Fq (by k_asm) (by k_asm) Nq ?hk ?hfm ?zd ?zu (by k_mem) hvs ?hl ok ?hfu pf ?_
  case hk => exact nofun
  case hfm => exact rfl
  case zd => ktr_room
  case zu => ktr_units
  case hl => exact Nat.le_of_ble_eq_true rfl
  case hfu => exact Nat.le_of_ble_eq_true rfl
  intro Dp rv kp objs h11 tk11 F11 N13 N14 hpr hfo fDp
  have hob := off_objs Nq hfo
  simp only [List.forall_mem_cons, List.not_mem_nil, false_implies, implies_true, and_true] at hob
  obtain ⟨ho1, ho2, ho3, ho4, ho5, ho6, ho7, ho8⟩ := hob
  have oDp := fresh_all Nq (fun p h => h) fDp
  simp only [List.forall_mem_cons, List.not_mem_nil, false_implies, implies_true, and_true] at oDp
  obtain ⟨oDp1, oDp2, oDp3, oDp4, oDp5, oDp6, oDp7, oDp8⟩ := oDp
  simp only [List.cons_append, List.nil_append] at N14
  have N15 := keepC N14
  simp only [List.cons_append, List.nil_append] at N15
  clear N13 N14 Nq Fq
  have hrvl := hpr.length
  have K0 : [p0, p1, p2, p3, p4, p5][0]? = some p0 := rfl
  (repeat' ((fail_if_success (with_reducible show wpAny _ _ (call (Value.ref 150) _) _ _ _)); (fail_if_success (with_reducible show wpAny _ _ (call (Value.ref 157) _) _ _ _)); (fail_if_success (with_reducible show wpAny _ _ (call (Value.ref 172) _) _ _ _)); (fail_if_success (with_reducible show wpAny _ _ (call (Value.ref 177) _) _ _ _)); (fail_if_success (with_reducible show wpAny _ _ (compareOp _ (Value.ref _) (Value.ref _)) _ _ _)); (fail_if_success (with_reducible show LCt.CompRestT _ _ _ _ _ _ _ _ _ _ _ _ _ _ _ _ _ _ _ _)); (fail_if_success (with_reducible show LCg.CompRest _ _ _ _ _ _ _ _ _ _ _ _ _ _ _ _ _ _ _)); first | (k_unfold; (try dsimp only)) | walk1 | (dsimp only; walk1) | (leave1; walk_say "STEP leave1"; try dsimp only) | fail "no step"))
  refine tied_rest (fixed := [_, _, _, _, _, _, _]) (tail₀ := objs) (fun i => [p1, p2, p3, p4, p5].getD i p0) (fun i => [p0, q1, q2, q3, q4].getD i p0) 5 ?hS ?step ?fin
  case hS => intro tail; lcg_src
  case step =>
    intro i t9 ys9 tail9 I9 oI9 C9 oC9 D9 m9 h9 tk9 E9 hi9 hC9 hx9 F9 N9 ne9 Q9 hQ9
    clear ne9
    simp only [List.cons_append, List.nil_append] at N9 hQ9
    obtain rfl | rfl | rfl | rfl | rfl : i = 0 ∨ i = 1 ∨ i = 2 ∨ i = 3 ∨ i = 4 := (by omega)
    all_goals (repeat' ((fail_if_success (with_reducible show wpAny _ _ (call (Value.ref 150) _) _ _ _)); (fail_if_success (with_reducible show wpAny _ _ (call (Value.ref 157) _) _ _ _)); (fail_if_success (with_reducible show wpAny _ _ (call (Value.ref 172) _) _ _ _)); (fail_if_success (with_reducible show wpAny _ _ (call (Value.ref 177) _) _ _ _)); (fail_if_success (with_reducible show wpAny _ _ (compareOp _ (Value.ref _) (Value.ref _)) _ _ _)); (fail_if_success (with_reducible show LCt.CompRestT _ _ _ _ _ _ _ _ _ _ _ _ _ _ _ _ _ _ _ _)); (fail_if_success (with_reducible show LCg.CompRest _ _ _ _ _ _ _ _ _ _ _ _ _ _ _ _ _ _ _)); first | (k_unfold; (try dsimp only)) | walk1 | (dsimp only; walk1) | (leave1; walk_say "STEP leave1"; try dsimp only) | fail "no step"))
    all_goals (rename News _ _ _ _ => N8; rename Fr _ _ _ _ => F8; refine hQ9 _ _ _ _ _ _ F8 N8 ?_ ?_ ?_ ?_)
    all_goals first | omega | exact List.forall_mem_cons.mpr ⟨by omega, List.forall_mem_cons.mpr ⟨by omega, List.forall_mem_cons.mpr ⟨by omega, List.forall_mem_cons.mpr ⟨by omega, List.forall_mem_cons.mpr ⟨by omega, List.forall_mem_cons.mpr ⟨by omega, List.forall_mem_cons.mpr ⟨by omega, List.forall_mem_nil _⟩⟩⟩⟩⟩⟩⟩
  case fin =>
    intro us9 objs9 hpt hqo
    simp only [List.forall_mem_cons, List.not_mem_nil, false_implies, implies_true, and_true] at hqo
    obtain ⟨hq1, hq2, hq3, hq4, hq5, hq6, hq7⟩ := hqo
    have ha5 : ∀ p ∈ objs9 ++ objs, p.1 ≠ _ := fun p hp => (List.mem_append.mp hp).elim (hq4 p) (ho4 p)
    have ha4 : ∀ p ∈ objs9 ++ objs, p.1 ≠ _ := fun p hp => (List.mem_append.mp hp).elim (hq5 p) (ho5 p)
    have ha3 : ∀ p ∈ objs9 ++ objs, p.1 ≠ _ := fun p hp => (List.mem_append.mp hp).elim (hq6 p) (ho6 p)
    have ha2 : ∀ p ∈ objs9 ++ objs, p.1 ≠ _ := fun p hp => (List.mem_append.mp hp).elim (hq7 p) (ho7 p)
    have husl : us9.length = 5 := by rw [hpt.length]; rfl
    simp only [List.cons_append, List.nil_append]
    (repeat' ((fail_if_success (with_reducible show wpAny _ _ (call (Value.ref 150) _) _ _ _)); (fail_if_success (with_reducible show wpAny _ _ (call (Value.ref 157) _) _ _ _)); (fail_if_success (with_reducible show wpAny _ _ (call (Value.ref 172) _) _ _ _)); (fail_if_success (with_reducible show wpAny _ _ (call (Value.ref 177) _) _ _ _)); (fail_if_success (with_reducible show wpAny _ _ (compareOp _ (Value.ref _) (Value.ref _)) _ _ _)); (fail_if_success (with_reducible show LCt.CompRestT _ _ _ _ _ _ _ _ _ _ _ _ _ _ _ _ _ _ _ _)); (fail_if_success (with_reducible show LCg.CompRest _ _ _ _ _ _ _ _ _ _ _ _ _ _ _ _ _ _ _)); first | (k_unfold; (try dsimp only)) | walk1 | (dsimp only; walk1) | (leave1; walk_say "STEP leave1"; try dsimp only) | fail "no step"))
    rename News _ _ _ _ => Nt
    obtain ⟨Dt, eDt⟩ := name1 Nt
    subst eDt
    have hpt : PairsAre objs9 us9 [(p1, p0), (p2, q1), (p3, q2), (p4, q3), (p5, q4)] := hpt
    refine filter_none (vs := rv) ?hS1 ?test1 ?fin1
    case hS1 => lcg_src
    case test1 =>
      intro i v I oI C oC D' m₂ h tk E' hv hC hx F N off ne' Q' hQ'
      clear off ne'
      obtain ⟨a, ha⟩ : ∃ a, res[i]? = some a := by
        have := (List.getElem?_eq_some_iff.mp hv).1
        rw [hpr.length] at this
        exact ⟨_, List.getElem?_eq_getElem this⟩
      obtain ⟨Dq, tq, uq, kq, hvi, hmo⟩ := hpr.get i a ha
      obtain rfl : v = .ref Dq := Option.some.inj (hv.symm.trans hvi)
      (repeat' ((fail_if_success (with_reducible show wpAny _ _ (call (Value.ref 150) _) _ _ _)); (fail_if_success (with_reducible show wpAny _ _ (call (Value.ref 157) _) _ _ _)); (fail_if_success (with_reducible show wpAny _ _ (call (Value.ref 172) _) _ _ _)); (fail_if_success (with_reducible show wpAny _ _ (call (Value.ref 177) _) _ _ _)); (fail_if_success (with_reducible show wpAny _ _ (compareOp _ (Value.ref _) (Value.ref _)) _ _ _)); (fail_if_success (with_reducible show LCt.CompRestT _ _ _ _ _ _ _ _ _ _ _ _ _ _ _ _ _ _ _ _)); (fail_if_success (with_reducible show LCg.CompRest _ _ _ _ _ _ _ _ _ _ _ _ _ _ _ _ _ _ _)); first | (k_unfold; (try dsimp only)) | walk1 | (dsimp only; walk1) | (leave1; walk_say "STEP leave1"; try dsimp only) | fail "no step"))
      rename News _ _ _ _ => N8
      have e1 := (N8 (Dt, LCg.lst us9) (by k_mem)).1
      have e2 := fun (p : Addr × Obj) (hp : p ∈ objs9) => (N8 p (by simp only [List.mem_cons, List.mem_append, hp, true_or, or_true])).1
      have e3 := (N8 (Dq, listOf #[.str a.1 tq, .str a.2 uq] kq) (by simp only [List.mem_cons, List.mem_append, hmo, true_or, or_true])).1
      obtain ⟨as, rc⟩ := tied_reads e1 e2 hpt
      have ht1a : [(p1, p0), (p2, q1), (p3, q2), (p4, q3), (p5, q4)].any (· == (a.1, a.2)) = true := t1 a (List.mem_of_getElem? ha)
      refine' notin_pairs (l := [(p1, p0), (p2, q1), (p3, q2), (p4, q3), (p5, q4)]) (a := a.1) (b := a.2) (t := tq) (u := uq) (k := kq) (as := as) ?x1 ?x2 ?x3 ?zu ?x4 ?_
      case x1 => exact rc
      case x2 => exact e3
      case x3 => exact okt
      case x4 => exact ht1a
      case zu => ktr_units
      (repeat' ((fail_if_success (with_reducible show wpAny _ _ (call (Value.ref 150) _) _ _ _)); (fail_if_success (with_reducible show wpAny _ _ (call (Value.ref 157) _) _ _ _)); (fail_if_success (with_reducible show wpAny _ _ (call (Value.ref 172) _) _ _ _)); (fail_if_success (with_reducible show wpAny _ _ (call (Value.ref 177) _) _ _ _)); (fail_if_success (with_reducible show wpAny _ _ (compareOp _ (Value.ref _) (Value.ref _)) _ _ _)); (fail_if_success (with_reducible show LCt.CompRestT _ _ _ _ _ _ _ _ _ _ _ _ _ _ _ _ _ _ _ _)); (fail_if_success (with_reducible show LCg.CompRest _ _ _ _ _ _ _ _ _ _ _ _ _ _ _ _ _ _ _)); first | (k_unfold; (try dsimp only)) | walk1 | (dsimp only; walk1) | (leave1; walk_say "STEP leave1"; try dsimp only) | fail "no step"))
      first | exact hQ' _ _ (by assumption) | exact hQ' _ _ (fun _ _ e => e)
    case fin1 =>
    (repeat' ((fail_if_success (with_reducible show wpAny _ _ (call (Value.ref 150) _) _ _ _)); (fail_if_success (with_reducible show wpAny _ _ (call (Value.ref 157) _) _ _ _)); (fail_if_success (with_reducible show wpAny _ _ (call (Value.ref 172) _) _ _ _)); (fail_if_success (with_reducible show wpAny _ _ (call (Value.ref 177) _) _ _ _)); (fail_if_success (with_reducible show wpAny _ _ (compareOp _ (Value.ref _) (Value.ref _)) _ _ _)); (fail_if_success (with_reducible show LCt.CompRestT _ _ _ _ _ _ _ _ _ _ _ _ _ _ _ _ _ _ _ _)); (fail_if_success (with_reducible show LCg.CompRest _ _ _ _ _ _ _ _ _ _ _ _ _ _ _ _ _ _ _)); first | (k_unfold; (try dsimp only)) | walk1 | (dsimp only; walk1) | (leave1; walk_say "STEP leave1"; try dsimp only) | fail "no step"))
    refine map_pairs hpr ?hS2 ?step2 ?fin2
    case hS2 => lcg_src
    case step2 =>
      intro a Dq tq uq kq ys I oI C oC D' m₂ h tk E' hmo hC hx F N off ne' Q' hQ'
      clear off ne'
      have e3 := (N (Dq, listOf #[.str a.1 tq, .str a.2 uq] kq) (by simp only [List.mem_cons, List.mem_append, hmo, true_or, or_true])).1
      have hlq : h.IsList Dq #[.str a.1 tq, .str a.2 uq] := ⟨_, e3, rfl, _, rfl⟩
      (repeat' ((fail_if_success (with_reducible show wpAny _ _ (call (Value.ref 150) _) _ _ _)); (fail_if_success (with_reducible show wpAny _ _ (call (Value.ref 157) _) _ _ _)); (fail_if_success (with_reducible show wpAny _ _ (call (Value.ref 172) _) _ _ _)); (fail_if_success (with_reducible show wpAny _ _ (call (Value.ref 177) _) _ _ _)); (fail_if_success (with_reducible show wpAny _ _ (compareOp _ (Value.ref _) (Value.ref _)) _ _ _)); (fail_if_success (with_reducible show LCt.CompRestT _ _ _ _ _ _ _ _ _ _ _ _ _ _ _ _ _ _ _ _)); (fail_if_success (with_reducible show LCg.CompRest _ _ _ _ _ _ _ _ _ _ _ _ _ _ _ _ _ _ _)); first | (k_unfold; (try dsimp only)) | walk1 | (dsimp only; walk1) | (leave1; walk_say "STEP leave1"; try dsimp only) | fail "no step"))
      first | exact hQ' _ _ _ (by assumption) | exact hQ' _ _ _ (fun _ _ e => e)
    case fin2 =>
    intro us2 hus2
    have hul2 := hus2.length
    rw [List.length_map] at hul2
    (repeat' ((fail_if_success (with_reducible show wpAny _ _ (call (Value.ref 150) _) _ _ _)); (fail_if_success (with_reducible show wpAny _ _ (call (Value.ref 157) _) _ _ _)); (fail_if_success (with_reducible show wpAny _ _ (call (Value.ref 172) _) _ _ _)); (fail_if_success (with_reducible show wpAny _ _ (call (Value.ref 177) _) _ _ _)); (fail_if_success (with_reducible show wpAny _ _ (compareOp _ (Value.ref _) (Value.ref _)) _ _ _)); (fail_if_success (with_reducible show LCt.CompRestT _ _ _ _ _ _ _ _ _ _ _ _ _ _ _ _ _ _ _ _)); (fail_if_success (with_reducible show LCg.CompRest _ _ _ _ _ _ _ _ _ _ _ _ _ _ _ _ _ _ _)); first | (k_unfold; (try dsimp only)) | walk1 | (dsimp only; walk1) | (leave1; walk_say "STEP leave1"; try dsimp only) | fail "no step"))
    refine filter_none (vs := us9) ?hS3 ?test3 ?fin3
    case hS3 => lcg_src
    case test3 =>
      intro i v I oI C oC D' m₂ h tk E' hv hC hx F N off ne' Q' hQ'
      clear off ne'
      obtain ⟨a, ha⟩ : ∃ a, [(p1, p0), (p2, q1), (p3, q2), (p4, q3), (p5, q4)][i]? = some a := by
        have := (List.getElem?_eq_some_iff.mp hv).1
        rw [hpt.length] at this
        exact ⟨_, List.getElem?_eq_getElem this⟩
      obtain ⟨Dq, tq, uq, kq, hvi, hmo⟩ := hpt.get i a ha
      obtain rfl : v = .ref Dq := Option.some.inj (hv.symm.trans hvi)
      have ht2 := t2 a (List.mem_of_getElem? ha)
      have e3 := (N (Dq, listOf #[.str a.1 tq, .str a.2 uq] kq) (by simp only [List.mem_cons, List.mem_append, hmo, true_or, or_true])).1
      have hlq : h.IsList Dq #[.str a.1 tq, .str a.2 uq] := ⟨_, e3, rfl, _, rfl⟩
      (repeat' ((fail_if_success (with_reducible show wpAny _ _ (call (Value.ref 150) _) _ _ _)); (fail_if_success (with_reducible show wpAny _ _ (call (Value.ref 157) _) _ _ _)); (fail_if_success (with_reducible show wpAny _ _ (call (Value.ref 172) _) _ _ _)); (fail_if_success (with_reducible show wpAny _ _ (call (Value.ref 177) _) _ _ _)); (fail_if_success (with_reducible show wpAny _ _ (compareOp _ (Value.ref _) (Value.ref _)) _ _ _)); (fail_if_success (with_reducible show LCt.CompRestT _ _ _ _ _ _ _ _ _ _ _ _ _ _ _ _ _ _ _ _)); (fail_if_success (with_reducible show LCg.CompRest _ _ _ _ _ _ _ _ _ _ _ _ _ _ _ _ _ _ _)); first | (k_unfold; (try dsimp only)) | walk1 | (dsimp only; walk1) | (leave1; walk_say "STEP leave1"; try dsimp only) | fail "no step"))
      all_goals (refine qb (hQ' _ _ (fun _ _ e => e)) ?_)
      all_goals first | rfl | exact no_two ht2 (by assumption) (by assumption)
    case fin3 =>
    (repeat' ((fail_if_success (with_reducible show wpAny _ _ (call (Value.ref 150) _) _ _ _)); (fail_if_success (with_reducible show wpAny _ _ (call (Value.ref 157) _) _ _ _)); (fail_if_success (with_reducible show wpAny _ _ (call (Value.ref 172) _) _ _ _)); (fail_if_success (with_reducible show wpAny _ _ (call (Value.ref 177) _) _ _ _)); (fail_if_success (with_reducible show wpAny _ _ (compareOp _ (Value.ref _) (Value.ref _)) _ _ _)); (fail_if_success (with_reducible show LCt.CompRestT _ _ _ _ _ _ _ _ _ _ _ _ _ _ _ _ _ _ _ _)); (fail_if_success (with_reducible show LCg.CompRest _ _ _ _ _ _ _ _ _ _ _ _ _ _ _ _ _ _ _)); first | (k_unfold; (try dsimp only)) | walk1 | (dsimp only; walk1) | (leave1; walk_say "STEP leave1"; try dsimp only) | fail "no step"))
    rename News _ _ _ _ => Nq
    rename Fr _ _ _ _ => Fq
    refine' c_fewest_N (u0 := 0) Fq (by k_asm) (by k_asm) Nq ?zd ?zu ?z0 ne ?_
    case zd => ktr_room
    case zu => ktr_units
    case z0 => exact News.isList Nq (by k_mem)
    intro t9 M hq tkq kkq F9 N9 hMm hMl
    have hsz : ((rv.toArray.size : Nat) : Int) = (res.length : Int) := by rw [List.size_toArray, hrvl]
    rw [few M hMm hMl, ← hsz]
    (repeat' ((fail_if_success (with_reducible show wpAny _ _ (call (Value.ref 150) _) _ _ _)); (fail_if_success (with_reducible show wpAny _ _ (call (Value.ref 157) _) _ _ _)); (fail_if_success (with_reducible show wpAny _ _ (call (Value.ref 172) _) _ _ _)); (fail_if_success (with_reducible show wpAny _ _ (call (Value.ref 177) _) _ _ _)); (fail_if_success (with_reducible show wpAny _ _ (compareOp _ (Value.ref _) (Value.ref _)) _ _ _)); (fail_if_success (with_reducible show LCt.CompRestT _ _ _ _ _ _ _ _ _ _ _ _ _ _ _ _ _ _ _ _)); (fail_if_success (with_reducible show LCg.CompRest _ _ _ _ _ _ _ _ _ _ _ _ _ _ _ _ _ _ _)); first | (k_unfold; (try dsimp only)) | walk1 | (dsimp only; walk1) | (leave1; walk_say "STEP leave1"; try dsimp only) | fail "no step"))
    rw [beq_self_eq_true]
    refine' goodW_bool ?g1 ?g2 (raisesW_false ?g3) ?g4
    case g1 => k_asm
    case g2 => with_reducible assumption
    case g3 => wrow_none_raised
    case g4 => wrow_post)
end
end Mine
set_option maxRecDepth 100000 in
set_option maxHeartbeats 8000000 in
theorem PySem.Challenge.cw_pd0046_01_holds : PySem.Challenge.rw_pd0046_01.Holds := by
  exact Mine.law_holds
