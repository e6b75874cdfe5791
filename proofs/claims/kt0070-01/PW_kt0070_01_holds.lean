import PyProof.Rows.All
import Wide.All
import OpenK.AllK
import Wide.FinOn
import Lean
import PySem.Challenge.RW_kt0070_01
set_option Elab.async false
set_option maxRecDepth 100000
set_option maxHeartbeats 0
namespace Mine
open PySem PySem.W PyProof.Rows PySem.Calls PyProof.V PySem.Spec
local macro_rules | `(tactic| walk_at $s:str) => `(tactic| k_extra $(Lean.Syntax.mkStrLit ("my " ++ s.getString)))
section
local macro_rules | `(tactic| o_head $H) => `(tactic| (exfalso; assumption))
set_option Elab.async true in
theorem hd (hF : False) : OpenRow.Holds PySem.Challenge.rw_kt0070_01.row := by
  k_head
end
theorem filled : Mine.hd.heap_1_1 = Mine.hd.heap_1_1 ∧ PySem.Challenge.rw_kt0070_01 = PySem.Challenge.rw_kt0070_01 := by
  k_fill
  exact ⟨rfl, rfl⟩
noncomputable abbrev Led := List (Addr × Obj)
noncomputable abbrev topA (dp un : Nat) (gd : Option (List Code)) (env : Env) (outer : List Env) : Around := { handled := none, depth := dp, frames := some (env :: outer), guards := gd, units := un }
/-- what a def hands back: what stood stands; new things -/
noncomputable def PRet (s : Shared) (R : Result → Shared → Prop) (Out : Heap → Value → Led → Prop) : Prop :=
  ∀ (r : Value) (tl : Led) (h' : Heap) (tk' : Nat), s.heap.StaysIn h' → (∀ q ∈ tl, h'.get? q.1 = some q.2 ∧ s.heap.get? q.1 = none) → Out h' r tl → R (.ok (.ret r)) { s with heap := h', toks := tk' }
/-- the contract of a def that changes nothing that stood: at its own call, over the whole heap -/
noncomputable def PCon (w : World) (f : Addr) (d : Nat) (vs : List Value) (Pre : Heap → Prop) (Out : Heap → Value → Led → Prop) : Prop :=
  ∀ (p : Program) (loose : List Str) (mean : ExcName → Option Value) (mg mb : Str → Option Value) (dp un : Nat) (gd : Option (List Code)) (env : Env) (outer : List Env) (base : Heap) (s : Shared) (R : Result → Shared → Prop),
    Below (topA dp un gd env outer) base (env :: outer) s.heap → (Mine.hd.heap_1_1 w.params).In s.heap → Top p loose mean mg mb s.heap → dp + d < recursionLimit → un + 8 * d < cLine → Pre s.heap →
    PRet s R Out → codeAny (model PySem.Challenge.rw_kt0070_01.row.prog w) (topA dp un gd env outer) (.call (.ref f) ⟨vs, []⟩) R s
theorem PCon.use {w : World} {f : Addr} {d : Nat} {vs : List Value} {Pre : Heap → Prop} {Out : Heap → Value → Led → Prop} (C : PCon w f d vs Pre Out)
    {p : Program} {loose : List Str} {mean : ExcName → Option Value} {mg mb : Str → Option Value} {dp un : Nat} {gd : Option (List Code)} {env : Env} {outer : List Env} {A₀ : Around} {base h₀ : Heap} {L : Addr} {m : Str → Option Value} {news : Led} {s : Shared} {Q E : Value → Shared → Prop}
    (B : Below A₀ base outer h₀) (F : Fr h₀ L s.heap m) (X : (Mine.hd.heap_1_1 w.params).In h₀) (N : News h₀ L s.heap news) (T : Top p loose mean mg mb h₀) (hf : env.frame = some L) (hk : env.scope.kind = .function)
    (hd : dp + d < recursionLimit) (hu : un + 8 * d < cLine) (hpre : Pre s.heap)
    (ret : ∀ (r : Value) (tl : Led) (h' : Heap) (tk' : Nat), s.heap.StaysIn h' → Fr h₀ L h' m → News h₀ L h' (tl ++ news) → (∀ q ∈ news, ∀ p ∈ tl, q.1 ≠ p.1) → Out h' r tl → Q r { s with heap := h', toks := tk' }) :
    wpAny (model PySem.Challenge.rw_kt0070_01.row.prog w) (topA dp un gd env outer) (call (.ref f) vs) Q E s := by
  obtain ⟨_, BG, st, _⟩ := groundX (A := topA dp un gd env outer) (R := fun _ _ => True) B F (News.nil (L := L)) rfl hf hk
  refine wpAny_call (C _ _ _ _ _ _ _ _ _ _ _ _ _ BG (X.keeps st) (T.keeps st) hd hu hpre ?_)
  intro r tl h' tk' hs ht ho
  have hs' : ∀ b o, s.heap.get? b = some o → h'.get? b = some o := hs
  obtain ⟨oL, es, ep, hL, hLd, hLk, hLf⟩ := F.ns
  refine ret r tl h' tk' hs ⟨⟨oL, es, ep, hs' _ _ hL, hLd, hLk, hLf⟩, fun b o e => hs' _ _ (F.keep b o e), F.above⟩ (fun q hq => ?_) (fun q hq p hp e => ?_) ho
  · rcases List.mem_append.mp hq with hq | hq
    · refine ⟨(ht q hq).1, fun e => ?_, ?_⟩
      · have := (ht q hq).2; rw [e, hL] at this; cases this
      · cases hh : h₀.get? q.1 with
        | none => rfl
        | some o => have := (ht q hq).2; rw [F.keep _ _ hh] at this; cases this
    · exact ⟨hs' _ _ (N q hq).1, (N q hq).2⟩
  · have := (ht p hp).2; rw [← e, (N q hq).1] at this; cases this
/-- the same for a scalar back -/
theorem PCon.useV {w : World} {f : Addr} {d : Nat} {vs : List Value} {Pre : Heap → Prop} {V : Tok → Value} (C : PCon w f d vs Pre (fun _ r tl => tl = [] ∧ ∃ t, r = V t))
    {p : Program} {loose : List Str} {mean : ExcName → Option Value} {mg mb : Str → Option Value} {dp un : Nat} {gd : Option (List Code)} {env : Env} {outer : List Env} {A₀ : Around} {base h₀ hp : Heap} {gs : Array GenState} {dr : Drawn} {tk : Nat} {os : OsState} {L : Addr} {m : Str → Option Value} {news : Led} {Q E : Value → Shared → Prop}
    (B : Below A₀ base outer h₀) (F : Fr h₀ L hp m) (X : (Mine.hd.heap_1_1 w.params).In h₀) (N : News h₀ L hp news) (T : Top p loose mean mg mb h₀) (hf : env.frame = some L) (hk : env.scope.kind = .function)
    (hd : dp + d < recursionLimit) (hu : un + 8 * d < cLine) (hpre : Pre hp)
    (ret : ∀ (t : Tok) (h' : Heap) (tk' : Nat), Fr h₀ L h' m → News h₀ L h' news → Q (V t) ⟨h', gs, dr, tk', os⟩) :
    wpAny (model PySem.Challenge.rw_kt0070_01.row.prog w) (topA dp un gd env outer) (call (.ref f) vs) Q E ⟨hp, gs, dr, tk, os⟩ :=
  PCon.use (s := ⟨hp, gs, dr, tk, os⟩) C B F X N T hf hk hd hu hpre fun r tl h' tk' _ F' N' _ o => by
    obtain ⟨e, t, e'⟩ := o
    subst e e'
    exact ret t h' tk' F' N'
/-- entering a def by its contract -/
theorem enter_def {w : World} {p : Program} {loose : List Str} {mean : ExcName → Option Value} {mg mb : Str → Option Value} {dp un : Nat} {gd : Option (List Code)} {env : Env} {outer : List Env} {base : Heap} {s : Shared} {R : Result → Shared → Prop}
    {name qual : Str} {params : Arguments} {body : List Stmt} {scope : Scope} {dV kV doc pm cdv ct oc : Value} {an od : Option Addr} {osl : Array (Option Value)} {f : Addr} {args : Args} {binds : List (Str × Value)}
    (_B : Below (topA dp un gd env outer) base (env :: outer) s.heap) (X : (Mine.hd.heap_1_1 w.params).In s.heap) (T : Top p loose mean mg mb s.heap)
    (ho : (Mine.hd.heap_1_1 w.params).lookup f = some ⟨oc, od, .func (fnOf name qual params body scope dV kV doc pm an cdv ct), osl⟩) (hcd : codeIn (Mine.hd.heap_1_1 w.params) cdv qual = true) (hroom : dp < recursionLimit)
    (hbind : BindsTo s (fnOf name qual params body scope dV kV doc pm an cdv ct) args binds) (hloc : ∀ y ∈ binds, scope.names.lookup y.1 = some .local)
    (h : ∀ L' h₁, Fr s.heap L' h₁ (fun y => binds.reverse.lookup y) → News s.heap L' h₁ [] →
      wpAny (model PySem.Challenge.rw_kt0070_01.row.prog w) ((topA dp un gd env outer).deeper (envOf qual scope L' f cdv)) (execs body (envOf qual scope L' f cdv))
        (fun fl s' => R (.ok (.ret (match fl with | .ret v => v | _ => .none))) s')
        (fun e s' => wpAny (model PySem.Challenge.rw_kt0070_01.row.prog w) ((topA dp un gd env outer).deeper (envOf qual scope L' f cdv)) (leaving (envOf qual scope L' f cdv) e) (fun _ s'' => R (.error e) s'') (fun e' s'' => R (.error e') s'') s')
        { s with heap := h₁, toks := s.toks + binds.length })
    (hco : scope.isCoroutine = false) (hgen : scope.isGenerator = false) (hk : scope.kind = .function)
    (hcell : ∀ x ∈ scope.names, x.2 ≠ .cell) : codeAny (model PySem.Challenge.rw_kt0070_01.row.prog w) (topA dp un gd env outer) (.call (.ref f) args) R s := by
  refine codeAny_call_def (fd := fnOf name qual params body scope dV kV doc pm an cdv ct) (body := body) (binds := binds) hroom (X _ _ ho) rfl T.nolimit (codeRec_of X hcd) rfl hbind hcell hloc (fun h₁ hns hk₁ => ?_) hco hgen hk
  exact h s.heap.objs.size h₁ ⟨hns, hk₁, Nat.le_refl _⟩ News.nil
/-- entering a def with a *rest -/
theorem enter_rest {w : World} {p : Program} {loose : List Str} {mean : ExcName → Option Value} {mg mb : Str → Option Value} {dp un : Nat} {gd : Option (List Code)} {env : Env} {outer : List Env} {base : Heap} {s : Shared} {R : Result → Shared → Prop}
    {name qual : Str} {params : Arguments} {body : List Stmt} {scope : Scope} {dV kV doc pm cdv ct oc : Value} {an od : Option Addr} {osl : Array (Option Value)} {f : Addr} {args : Args} {vs : List Value} {binds : Value → List (Str × Value)}
    (_B : Below (topA dp un gd env outer) base (env :: outer) s.heap) (X : (Mine.hd.heap_1_1 w.params).In s.heap) (T : Top p loose mean mg mb s.heap)
    (ho : (Mine.hd.heap_1_1 w.params).lookup f = some ⟨oc, od, .func (fnOf name qual params body scope dV kV doc pm an cdv ct), osl⟩) (hcd : codeIn (Mine.hd.heap_1_1 w.params) cdv qual = true) (hroom : dp < recursionLimit)
    (hbind : bindArgs (fnOf name qual params body scope dV kV doc pm an cdv ct) args = (newTuple vs >>= fun v => pure (binds v))) (hz : vs.length ≤ sizeLine) (hloc : ∀ D, ∀ y ∈ binds D, scope.names.lookup y.1 = some .local)
    (h : ∀ D L' h₁, Fr s.heap L' h₁ (fun y => (binds (.ref D)).reverse.lookup y) → News s.heap L' h₁ [(D, ({ cls := .type "tuple", data := .seq vs.toArray } : Obj))] →
      wpAny (model PySem.Challenge.rw_kt0070_01.row.prog w) ((topA dp un gd env outer).deeper (envOf qual scope L' f cdv)) (execs body (envOf qual scope L' f cdv))
        (fun fl s' => R (.ok (.ret (match fl with | .ret v => v | _ => .none))) s')
        (fun e s' => wpAny (model PySem.Challenge.rw_kt0070_01.row.prog w) ((topA dp un gd env outer).deeper (envOf qual scope L' f cdv)) (leaving (envOf qual scope L' f cdv) e) (fun _ s'' => R (.error e) s'') (fun e' s'' => R (.error e') s'') s')
        { s with heap := h₁, toks := s.toks + (binds (.ref D)).length })
    (hco : scope.isCoroutine = false) (hgen : scope.isGenerator = false) (hk : scope.kind = .function)
    (hcell : ∀ x ∈ scope.names, x.2 ≠ .cell) : codeAny (model PySem.Challenge.rw_kt0070_01.row.prog w) (topA dp un gd env outer) (.call (.ref f) args) R s := by
  refine codeAny_call_function (fd := fnOf name qual params body scope dV kV doc pm an cdv ct) (body := body) hroom (X _ _ ho) rfl hco hgen rfl (codeRec_of X hcd) ?_
  rw [hbind]
  refine wpAny_bind (wpAny_newObj_type (wpAny_pure ?_) (by show vs.toArray.size ≤ sizeLine; rw [List.size_toArray]; exact hz))
  have st : s.heap.StaysIn (s.heap.push { cls := .type "tuple", data := .seq vs.toArray }) := fun b o e => Heap.get?_push_of_some _ e
  refine wpAny_newFunctionEnv hcell (hloc _) (fun h₁ hns hsb => ⟨(T.nolimit.keeps st).fresh _ hsb, codeAny_func ?_⟩) hk
  have hk₁ : ∀ b o, (s.heap.push { cls := .type "tuple", data := .seq vs.toArray }).get? b = some o → h₁.get? b = some o := fun b o e => hsb.extBut b o (Nat.ne_of_lt (Heap.lt_size e)) (Heap.get?_push_of_some _ e)
  have hD : (s.heap.push { cls := .type "tuple", data := .seq vs.toArray }).get? s.heap.objs.size = some { cls := .type "tuple", data := .seq vs.toArray } := Heap.get?_push_size _ rfl
  refine h s.heap.objs.size _ h₁ ⟨hns, fun b o e => hk₁ _ _ (st _ _ e), Nat.le_of_lt (Heap.lt_size hD)⟩ (fun q hq => ?_)
  rw [List.mem_singleton.mp hq]
  refine ⟨hk₁ _ _ hD, Nat.ne_of_lt (Heap.lt_size hD), ?_⟩
  cases hh : s.heap.get? s.heap.objs.size with
  | none => rfl
  | some o => exact absurd (Heap.lt_size hh) (Nat.lt_irrefl _)
/-- where the walk is to stop -/
noncomputable def Stop (P : Prop) : Prop := P
theorem Stop.out {P : Prop} (h : Stop P) : P := h
/-- a scalar back -/
noncomputable abbrev OutV (R : Tok → Value) : Heap → Value → Led → Prop := fun _ r tl => tl = [] ∧ ∃ t, r = R t
theorem pret_v {L : Addr} {m : Str → Option Value} {s : Shared} {R : Result → Shared → Prop} {V : Tok → Value} {t : Tok} {h' : Heap} {tk' : Nat} (H : PRet s R (OutV V)) (F : Fr s.heap L h' m) : R (.ok (.ret (V t))) { s with heap := h', toks := tk' } :=
  H _ [] _ _ F.keep (fun _ h => nomatch h) ⟨rfl, _, rfl⟩
theorem pret_l {L : Addr} {m : Str → Option Value} {s : Shared} {R : Result → Shared → Prop} {Out : Heap → Value → Led → Prop} {r : Value} {tl : Led} {h' : Heap} {tk' : Nat} (H : PRet s R Out) (F : Fr s.heap L h' m) (N : News s.heap L h' tl) (o : Out h' r tl) :
    R (.ok (.ret r)) { s with heap := h', toks := tk' } :=
  H _ tl _ _ F.keep (fun q hq => ⟨(N q hq).1, (N q hq).2.2⟩) o
theorem words_01_1 : True := by
  (k_with "my con args" => ((rename Fr _ _ _ _ => F1_r); with_unfolding_all (first | change Fr _ _ _ (fun y => List.lookup y [(Str.ofString _, _)]) at F1_r | change Fr _ _ _ (fun y => List.lookup y [(Str.ofString _, _), (Str.ofString _, _)]) at F1_r | change Fr _ _ _ (fun y => List.lookup y [(Str.ofString _, _), (Str.ofString _, _), (Str.ofString _, _)]) at F1_r)))
  (k_with "my execs cons" => k_fold)
  (k_with "my exec If" => k_fold)
  (k_with "my con def" => (refine' enter_def ?k1_q4 ?k3_q4 ?k5_q4 ?k6_q4 ?k7_q4 ?k8_q4 ?k9_q4 ?kB_q4 ?_ ?c2_q4 ?c3_q4 ?c4_q4 ?c5_q4; (case k1_q4 => k_asm); (case k3_q4 => k_asm); (case k5_q4 => k_asm); (case k6_q4 => k_is); (case k7_q4 => k_is); (case k8_q4 => omega); (case k9_q4 => first | exact BindsTo.of_eq rfl | exact binds_K (by k_in) rfl (by k_is) rfl rfl rfl); (case c5_q4 => decide); (case kB_q4 => exact locs rfl); (case c2_q4 => exact rfl); (case c3_q4 => exact rfl); (case c4_q4 => exact rfl); k_whole; intro L_p h_p F_p N_p; (try dsimp only); (try walk_at "con args"); (try k_fold)))
  (k_with "my con rest" => (refine' enter_rest ?k1_q5 ?k3_q5 ?k5_q5 ?k6_q5 ?k7_q5 ?k8_q5 ?k9_q5 ?kz_q5 ?kB_q5 ?_ ?c2_q5 ?c3_q5 ?c4_q5 ?c5_q5; (case k1_q5 => k_asm); (case k3_q5 => k_asm); (case k5_q5 => k_asm); (case k6_q5 => k_is); (case k7_q5 => k_is); (case k8_q5 => omega); (case k9_q5 => exact rfl); (case kz_q5 => exact Nat.le_of_ble_eq_true rfl); (case c5_q5 => decide); (case kB_q5 => exact fun _ => locs rfl); (case c2_q5 => exact rfl); (case c3_q5 => exact rfl); (case c4_q5 => exact rfl); k_whole; intro D_p L_p h_p F_p N_p; (try dsimp only); (try walk_at "con args"); (try k_fold)))
  (k_with "my con enter" => (unfold PCon; intro p_r loose_r mean_r mg_r mb_r dp_r un_r gd_r env_r outer_r base_r s_r R_r B_r X_r T_r hd_r hu_r hpre_r hret_r; k_dflt (first | walk_at "con def" | walk_at "con rest")))
  (k_with "my con end" => (repeat (first | (k_unfold; (try dsimp only)) | dsimp only)))
  (k_with "my con v" => (walk_at "con end"; (rename PRet _ _ _ => hret_r); first | exact pret_v (V := fun t => Value.str _ t) hret_r (by k_asm) | exact pret_v (V := fun t => Value.int _ t) hret_r (by k_asm) | exact pret_v (V := fun _ => Value.bool _) hret_r (by k_asm)))
  (k_with "my con room" => first | omega | (dsimp only [topA, ktrTop, Around.deeper] at *; omega) | ktr_room | (simp only [depth_deeper, depth_caller, units_deeper, units_caller] at *; omega))
  (k_with "my con use" => ((case B_q => k_asm); (case F_q => k_asm); (case X_q => k_asm); (case N_q => k_asm); (case T_q => k_asm); (case hf_q => exact rfl); (case hk_q => exact rfl); (case hd_q => walk_at "con room"); (case hu_q => walk_at "con room")))
  (k_with "my con use v" => ((case hp_q => exact True.intro); walk_at "con use"; intro t9_r h9_r tk9_r F9_r N9_r; (try k_sweep); (try k_fold)))
  trivial
/-! issubclass(str, (str, bytes)) -/
theorem sub_str : isSubtype (.type "str") (.type "str") = pure true := by rw [isSubtype_type]; kernel_rfl
theorem args_iss3 (a b c : Value) : argsOk "issubclass.nested" ⟨[a, b, c], []⟩ := by unfold argsOk; kernel_rfl
theorem kind_iss3 : builtinKind "issubclass.nested" = none := by decide +kernel
theorem plain_iss3 : plainId "issubclass.nested" = true := by decide +kernel
theorem iss_self {dep : Int} {tk : Tok} {prog : Program} {w : World} {A : Around} {E : Value → Shared → Prop} {s : Shared} {Q : Fin → Shared → Prop} (hq : Q (.done (.ret (.bool true))) s) :
    wpAny (model prog w) A (Builtin.«issubclass.nested» ⟨[.type "str", .type "str", .int dep tk], []⟩) Q E s := by
  have hm : typeOf (.type "str") = pure (.type "type") := kitMeta_of (by decide +kernel)
  have h1 := sub_str
  repeat (any_goals (first | assumption | (rw [hm]) | (rw [h1]) | wp_step))
theorem iss_meets {dep : Int} {tk : Tok} : Meets (Builtin.«issubclass.nested» ⟨[.type "str", .type "str", .int dep tk], []⟩) (fun _ R s => R (.ok (.ret (.bool true))) s) :=
  fun _ _ _ _ _ hs => iss_self hs
theorem iss_tuple {tp : Addr} {dd : Option Addr} {its r : List Value} (hi : its = .type "str" :: r) {n : Nat} {sl : Array (Option Value)} (tk : Tok) :
    Meets (Builtin.«issubclass.nested» ⟨[.type "str", .ref tp, .int 0 tk], []⟩)
      (fun _ R s => (s.heap.get? tp = some ⟨.type "tuple", dd, .seq its.toArray n, sl⟩) ∧ R (.ok (.ret (.bool true))) s) := by
  intro prog w A R s hs
  obtain ⟨h, g, d, tt, os⟩ := s
  obtain ⟨htp, hq⟩ := hs
  have hT2 : (⟨h, g, d, tt, os⟩ : Shared).TypeIs (.ref tp) "tuple" := ⟨_, htp, rfl⟩
  have f1 := F.isi_sub_tuple
  unfold Builtin.«issubclass.nested»
  repeat (any_goals (first | assumption | wp_step))
  refine wpAny_arrayLoop ?_
  simp only [Option.getD_some, List.toList_toArray]
  subst hi
  rw [List.forIn_cons]
  refine wpAny_bind (wpAny_bind (call_function_meets kind_iss3 plain_iss3 F.entry_issubclass_nested (args_iss3 _ _ _) iss_meets ?_))
  refine wpAny_bind (m := truthy (.bool true)) (wpAny_pure ?_)
  repeat (any_goals (first | assumption | wp_step))
theorem iss_call {prog : Program} {w : World} {A : Around} {E : Value → Shared → Prop} {s : Shared} {Q : Value → Shared → Prop} {tp : Addr} {dd : Option Addr} {r : List Value} {n : Nat} {sl : Array (Option Value)}
    (htp : s.heap.get? tp = some ⟨.type "tuple", dd, .seq (Value.type "str" :: r).toArray n, sl⟩) (h : Q (.bool true) s) :
    wpAny (model prog w) A (call (.builtin "issubclass") [.type "str", .ref tp]) Q E s :=
  call_issubclass (S := fun _ R s => (s.heap.get? tp = some ⟨.type "tuple", dd, .seq (Value.type "str" :: r).toArray n, sl⟩) ∧ R (.ok (.ret (.bool true))) s)
    (fun prog w A R s hs => issubclass_outer (iss_tuple rfl _ prog w A R s hs)) ⟨htp, h⟩
theorem words_01_2 : True := by
  (k_with "my call builtin:issubclass" => (k_here; k_dflt (refine' iss_call ?h_q12 ?_; (case h_q12 => exact News.get (by k_asm) (by k_mem)); k_whole)))
  trivial
theorem c_fspath (w : World) (x : Str) (t : Tok) : PCon w 94 1 [Value.str x t] (fun _ => True) (OutV fun t => .str x t) := by
  walk_at "con enter"
  k_steps
  all_goals walk_at "con v"
theorem words_01_3 : True := by
  (k_with "my call ref" => (k_here; (with_reducible show wpAny _ _ (call (Value.ref 94) _) _ _ _); k_dflt (refine' PCon.useV (c_fspath _ _ _) ?B_q ?F_q ?X_q ?N_q ?T_q ?hf_q ?hk_q ?hd_q ?hu_q ?hp_q ?_; walk_at "con use v")))
  trivial
theorem c_getsep (w : World) (x : Str) (t : Tok) : PCon w 115 1 [Value.str x t] (fun _ => True) (OutV fun t => .str (Str.ofString "/") t) := by
  walk_at "con enter"
  k_steps
  all_goals walk_at "con v"
theorem words_01_4 : True := by
  (k_with "my call ref" => (k_here; (with_reducible show wpAny _ _ (call (Value.ref 115) _) _ _ _); k_dflt (refine' PCon.useV (c_getsep _ _ _) ?B_q ?F_q ?X_q ?N_q ?T_q ?hf_q ?hk_q ?hd_q ?hu_q ?hp_q ?_; walk_at "con use v")))
  trivial
/-- a text that is told to be not empty is true -/
theorem truthy_ne {prog : Program} {w : World} {A : Around} {E : Value → Shared → Prop} {s : Shared} {Q : Bool → Shared → Prop} {x : Str} {t : Tok} (h0 : (x.length : Int) ≠ 0) (hz : x.length ≤ 1000) (h : ∀ tk, Q true { s with toks := tk }) : wpAny (model prog w) A (truthy (.str x t)) Q E s := by
  refine P.truthy_str (by omega) ?_
  have e : ((x.length : Int) != 0) = true := bne_iff_ne.mpr h0
  rw [e]
  exact h _
theorem words_02_1 : True := by
  (k_with "my truthy str" => (k_here; (with_reducible show wpAny _ _ (PySem.truthy (Value.str _ _)) _ _ _); refine' truthy_ne ?a_q15 ?b_q15 ?_; (case a_q15 => assumption); (case b_q15 => omega); intro _))
  trivial
/-- dirname of a text -/
noncomputable def dnS (x : Str) : Str :=
  if (Txt.slice x none (some (Txt.rfind x (Str.ofString "/") + 1))).length = 0 then Txt.slice x none (some (Txt.rfind x (Str.ofString "/") + 1))
  else if (Txt.slice x none (some (Txt.rfind x (Str.ofString "/") + 1)) != Txt.mul (Str.ofString "/") ((Txt.slice x none (some (Txt.rfind x (Str.ofString "/") + 1))).length : Int)) = true then Txt.rstripChars (Txt.slice x none (some (Txt.rfind x (Str.ofString "/") + 1))) (Str.ofString "/")
  else Txt.slice x none (some (Txt.rfind x (Str.ofString "/") + 1))
theorem c_dirname (w : World) (x : Str) (t : Tok) (hx : x.length ≤ 100) : PCon w 136 2 [Value.str x t] (fun _ => True) (OutV fun t => .str (dnS x) t) := by
  generalize hy : dnS x = y
  walk_at "con enter"
  k_steps
  all_goals walk_at "con end"
  · have e : y = Txt.rstripChars (Txt.slice x none (some (Txt.rfind x (Str.ofString "/") + 1))) (Str.ofString "/") := by
      rw [← hy, dnS, if_neg, if_pos]; assumption; omega
    subst e
    walk_at "con v"
  · have e : y = Txt.slice x none (some (Txt.rfind x (Str.ofString "/") + 1)) := by
      rw [← hy, dnS, if_neg, if_neg]; exact Bool.eq_false_iff.mp (by assumption); omega
    subst e
    walk_at "con v"
  · have e : y = Txt.slice x none (some (Txt.rfind x (Str.ofString "/") + 1)) := by
      rw [← hy, dnS, if_pos]; omega
    subst e
    walk_at "con v"
theorem words_02_2 : True := by
  (k_with "my call ref" => (k_here; (with_reducible show wpAny _ _ (call (Value.ref 136) _) _ _ _); k_dflt (refine' PCon.useV (c_dirname _ _ _ (by omega)) ?B_q ?F_q ?X_q ?N_q ?T_q ?hf_q ?hk_q ?hd_q ?hu_q ?hp_q ?_; walk_at "con use v")))
  trivial
/-- join of two texts -/
noncomputable def joinS (x y : Str) : Str :=
  if Txt.startswith y (Str.ofString "/") = true then y else if x.length = 0 then y else if Txt.endswith x (Str.ofString "/") = true then x ++ y else x ++ ((Str.ofString "/") ++ y)
theorem c_join (w : World) (x y : Str) (t u : Tok) (hx : x.length ≤ 100) (hy : y.length ≤ 100) : PCon w 122 2 [Value.str x t, Value.str y u] (fun _ => True) (OutV fun t => .str (joinS x y) t) := by
  generalize hz : joinS x y = z
  walk_at "con enter"
  k_steps
  all_goals walk_at "con end"
  · have e : z = y := by rw [← hz, joinS, if_pos]; assumption
    subst e
    walk_at "con v"
  · have e : z = x ++ y := by rw [← hz, joinS, if_neg, if_neg, if_pos]; assumption; omega; exact Bool.eq_false_iff.mp (by assumption)
    subst e
    walk_at "con v"
  · have e : z = x ++ ((Str.ofString "/") ++ y) := by rw [← hz, joinS, if_neg, if_neg, if_neg]; exact Bool.eq_false_iff.mp (by assumption); omega; exact Bool.eq_false_iff.mp (by assumption)
    subst e
    walk_at "con v"
  · have e : z = y := by rw [← hz, joinS, if_neg, if_pos]; omega; exact Bool.eq_false_iff.mp (by assumption)
    subst e
    walk_at "con v"
theorem words_02_3 : True := by
  (k_with "my call ref" => (k_here; (with_reducible show wpAny _ _ (call (Value.ref 122) _) _ _ _); k_dflt (refine' PCon.useV (c_join _ _ _ _ _ (by omega) (by omega)) ?B_q ?F_q ?X_q ?N_q ?T_q ?hf_q ?hk_q ?hd_q ?hu_q ?hp_q ?_; walk_at "con use v")))
  trivial
noncomputable abbrev tupO (vs : List Value) : Obj := { cls := .type "tuple", data := .seq vs.toArray }
theorem c_splitroot (w : World) (x : Str) (t : Tok) (hx : x.length ≤ 100) (h1 : (Txt.slice x none (some 1) != Str.ofString "/") = false) (h2 : (Txt.slice x (some 1) (some 2) != Str.ofString "/") = true) :
    PCon w 129 2 [Value.str x t] (fun _ => True) (fun _ r tl => ∃ a t1 t2 t3, r = .ref a ∧ tl = [(a, tupO [.str (Str.ofString "") t1, .str (Str.ofString "/") t2, .str (Txt.slice x (some 1) none) t3])]) := by
  walk_at "con enter"
  k_steps
  all_goals walk_at "con end"
  rename PRet _ _ _ => hret
  refine' pret_l hret ?F ?N ?o
  case F => k_asm
  case N => k_asm
  case o => exact ⟨_, _, _, _, rfl, rfl⟩
theorem words_02_4 : True := by
  (k_with "my call ref" => (k_here; (with_reducible show wpAny _ _ (call (Value.ref 129) _) _ _ _); k_dflt (refine' PCon.use (c_splitroot _ _ _ (by omega) (by assumption) (by assumption)) ?B_q ?F_q ?X_q ?N_q ?T_q ?hf_q ?hk_q ?hd_q ?hu_q ?hp_q18 ?_; (case hp_q18 => exact True.intro); walk_at "con use"; intro r9_r tl9_r h9_r tk9_r S9_r F9_r N9_r D9_r O9_r; obtain ⟨a9_r, t9_r, t9_p, t9'_p, e9_r, e9_p⟩ := O9_r; subst e9_r; subst e9_p; clear D9_r S9_r; (try simp only [List.cons_append, List.nil_append] at N9_r); (try dsimp only); (try k_fold))))
  trivial
section
variable {prog : Program} {w : World} {A : Around} {E : Value → Shared → Prop} {s : Shared} {env : Env} {h₀ : Heap} {x : Str} {body : List Stmt} {Q : Flow → Shared → Prop}
/-- a loop over a made list, by what holds ahead of the rest -/
theorem listRest_inv {I : Addr} {lp : Addr × Obj} (J : List Value → (Str → Option Value) → Led → Prop)
    (step : ∀ v r m news (it : Obj) h tk, J (v :: r) m news → it.cls = .type "list_iterator" → Fr h₀ env.locals h (fun y => if y = x then some v else m y) → News h₀ env.locals h ((I, it) :: news) →
      wpAny (model prog w) A (execs body env) (UnrPost h₀ env.locals { s with heap := h, toks := tk } I it (fun m' n' => lp ∈ n' ∧ J r m' n') Q) E { s with heap := h, toks := tk })
    (done : ∀ m news h tk, J [] m news → Fr h₀ env.locals h m → News h₀ env.locals h news → Q .next { s with heap := h, toks := tk }) :
    ∀ vs m news, J vs m news → ListRest prog w A E h₀ env x body Q s I lp vs m news
  | [], m, news, hj => fun h tk F N => done m news h tk hj F N
  | v :: r, m, news, hj => fun it h tk hc F N => by
    refine wpAny_mono (step v r m news it h tk hj hc F N) (fun f s₂ p => ?_) fun _ _ e => e
    have fin : UnrEnd h₀ env.locals { s with heap := h, toks := tk } I it (fun m' n' => lp ∈ n' ∧ J r m' n') s₂ → UnrEnd h₀ env.locals { s with heap := h, toks := tk } I it (fun m' n' => lp ∈ n' ∧ ListRest prog w A E h₀ env x body Q s I lp r m' n') s₂ := by
      rintro ⟨h', tk', m', news', e, F', N', ho, hm, hj'⟩
      exact ⟨h', tk', m', news', e, F', N', ho, hm, listRest_inv J step done r m' news' hj'⟩
    cases f with
    | ret v => exact p
    | brk => exact p
    | next => exact fin p
    | cont => exact fin p
/-- a loop over a range, by what holds ahead of each turn -/
theorem rangeRest_inv {I : Addr} {a : Int} {n : Nat} (J : Nat → (Str → Option Value) → Led → Prop)
    (step : ∀ k i m news t h tk, k + 1 + i = n → J i m news → Fr h₀ env.locals h (fun y => if y = x then some (.int (a + (i : Int)) t) else m y) →
      News h₀ env.locals h ((I, itR (a + ((i + 1 : Nat) : Int)) ((n : Int) - ((i + 1 : Nat) : Int))) :: news) →
      wpAny (model prog w) A (execs body env) (UnrPost h₀ env.locals { s with heap := h, toks := tk } I (itR (a + ((i + 1 : Nat) : Int)) ((n : Int) - ((i + 1 : Nat) : Int))) (J (i + 1)) Q) E { s with heap := h, toks := tk })
    (done : ∀ m news h tk, J n m news → Fr h₀ env.locals h m → News h₀ env.locals h news → Q .next { s with heap := h, toks := tk }) :
    ∀ k i m news, k + i = n → J i m news → RangeRest prog w A E h₀ env x body Q s I a n k i m news
  | 0, i, m, news, e, hj => fun h tk F N => done m news h tk (by rw [Nat.zero_add] at e; exact e ▸ hj) F N
  | k + 1, i, m, news, e, hj => fun t h tk F N => by
    refine wpAny_mono (step k i m news t h tk e hj F N) (fun f s₂ p => ?_) fun _ _ e => e
    have fin : UnrEnd h₀ env.locals { s with heap := h, toks := tk } I (itR (a + ((i + 1 : Nat) : Int)) ((n : Int) - ((i + 1 : Nat) : Int))) (J (i + 1)) s₂ →
        UnrEnd h₀ env.locals { s with heap := h, toks := tk } I (itR (a + ((i + 1 : Nat) : Int)) ((n : Int) - ((i + 1 : Nat) : Int))) (RangeRest prog w A E h₀ env x body Q s I a n k (i + 1)) s₂ := by
      rintro ⟨h', tk', m', news', e', F', N', ho, hj'⟩
      exact ⟨h', tk', m', news', e', F', N', ho, rangeRest_inv J step done k (i + 1) m' news' (by omega) hj'⟩
    cases f with
    | ret v => exact p
    | brk => exact p
    | next => exact fin p
    | cont => exact fin p
/-- a loop over a list that stood ahead of the call -/
theorem iter_base {ax : Addr} {vs : List Value} {m₀ : Str → Option Value} {news : Led} (J : List Value → (Str → Option Value) → Led → Prop)
    (hh : A.handled = none) (hl : h₀.IsList ax vs.toArray) (F : Fr h₀ env.locals s.heap m₀) (N : News h₀ env.locals s.heap news) (hj : J vs m₀ news)
    (step : ∀ I v r m news' (it : Obj) h tk, (∀ p ∈ news, p.1 < I) → J (v :: r) m news' → (∀ p ∈ news', p.1 ≠ I) → it.cls = .type "list_iterator" → Fr h₀ env.locals h (fun y => if y = x then some v else m y) → News h₀ env.locals h ((I, it) :: news') →
      wpAny (model prog w) A (execs body env) (UnrPost h₀ env.locals { s with heap := h, toks := tk } I it (fun m' n' => J r m' n') Q) E { s with heap := h, toks := tk })
    (done : ∀ m news h tk, J [] m news → Fr h₀ env.locals h m → News h₀ env.locals h news → Q .next { s with heap := h, toks := tk }) :
    wpAny (model prog w) A (pyIter (.ref ax)) (fun it s₂ => LoopAtV prog w A h₀ env x body Q E it s₂) E s := by
  have hls : s.heap.IsList ax vs.toArray := hl.at fun o e => F.keep ax o e
  obtain ⟨ol, hol, _⟩ := id hl
  have hlt : ax < h₀.objs.size := Heap.lt_size hol
  have hne : ax ≠ s.heap.objs.size := Nat.ne_of_lt (Nat.lt_trans (Nat.lt_of_lt_of_le hlt F.above) F.ns.lt)
  refine wpAny_pyIter_list hls ?_
  have W := Walks.list (prog := prog) (w := w) hh s.heap.objs.size ax hne vs.toArray
  have hnew := next_is_new F
  have hlen : vs.toArray.size = vs.length := by simp
  rw [hlen] at W
  refine ⟨_, _, _, vs.length, _, _, m₀, news, fun i m₁ news₁ => J (vs.drop i) m₁ news₁, rfl, W, ?_, ?_, ?_, ⟨⟨_, Heap.get?_push_size _ rfl, rfl, rfl⟩, hls.at fun o e => Heap.get?_push_of_some _ e⟩, F.push _, (fun p hp => ⟨Heap.get?_push_of_some _ (N p hp).1, (N p hp).2⟩), (show J (vs.drop 0) m₀ news from hj), ?_, ?_⟩
  · intro hmm
    rcases List.mem_cons.mp hmm with e | hmm
    · exact absurd F.ns.lt (e ▸ Nat.lt_irrefl _)
    · exact absurd (Nat.lt_of_lt_of_le hlt F.above) ((List.mem_singleton.mp hmm) ▸ Nat.lt_irrefl _)
  · intro b hb
    rw [List.mem_singleton.mp hb]
    exact hnew
  · intro p hp hI
    exact absurd (Heap.lt_size (N p hp).1) ((List.mem_singleton.mp hI) ▸ Nat.lt_irrefl _)
  · rintro i v m₁ news₁ s₁ own ⟨hh', tk', rfl⟩ hin hP hJ hoff hown hget hall hst F₁ N₁
    obtain ⟨it, hit, hic, hid⟩ := hst.1
    have hmemI := hall s.heap.objs.size (List.mem_cons_self ..) hnew _ hit
    have hdrop : vs.drop i = v :: vs.drop (i + 1) := by
      have hlt' : i < vs.length := hin
      have hv : vs[i]? = some v := by simpa using hP
      rw [List.drop_eq_getElem_cons hlt']
      congr 1
      exact Option.some.inj ((List.getElem?_eq_getElem hlt').symm.trans hv)
    rw [hdrop] at hJ
    have N₂ : News h₀ env.locals hh' ((s.heap.objs.size, it) :: news₁) := fun p hp => by
      rcases List.mem_cons.mp hp with rfl | hp
      · exact N₁ _ (List.mem_append_left _ hmemI)
      · exact N₁ _ (List.mem_append_right _ hp)
    refine wpAny_mono (step _ v _ m₁ news₁ it hh' tk' (fun p hp => Heap.lt_size (N p hp).1) hJ (fun p hp e => hoff p hp (e ▸ List.mem_singleton.mpr rfl)) hic F₁ N₂) (fun f s₂ p => ?_) fun _ _ e => e
    have fin : UnrEnd h₀ env.locals { s with heap := hh', toks := tk' } s.heap.objs.size it (fun m' n' => J (vs.drop (i + 1)) m' n') s₂ →
        LoopStepU h₀ env.locals [s.heap.objs.size] own (fun m₁ news₁ => J (vs.drop (i + 1)) m₁ news₁) { s with heap := hh', toks := tk' } .next s₂ := by
      rintro ⟨h', tk, m', news', e, F', N', ho, r⟩
      refine ⟨rfl, h', tk, m', news', e, F', fun p hp => ?_, fun p hp hI => ho p hp (List.mem_singleton.mp hI), r⟩
      rcases List.mem_append.mp hp with hp | hp
      · have h2 : hh'.get? p.1 = some p.2 := hget p hp
        rcases List.mem_cons.mp (hown p hp) with h1 | h1
        · have h3 : p = (s.heap.objs.size, it) := by
            rw [h1, hit] at h2
            exact Prod.ext h1 (Option.some.inj h2).symm
          rw [h3]; exact N' _ (List.mem_cons_self ..)
        · have h1' : p.1 = ax := List.mem_singleton.mp h1
          have h3 := (N₁ p (List.mem_append_left _ hp)).2.2
          rw [h1', hol] at h3
          cases h3
      · exact N' _ (List.mem_cons_of_mem _ hp)
    cases f with
    | ret v => exact .ret p
    | brk => exact .brk p
    | next => exact .next (fin p)
    | cont => exact .cont (fin p)
  · rintro h' tk m' news' F' N' _ hJ
    have z : vs.drop vs.length = [] := List.drop_length
    rw [z] at hJ
    exact done m' news' h' tk hJ F' N'
end

/-- what a turn leaves of the frame's map: the loop's own name and the temporaries are free, some names hold what is told, all else is as it was -/
noncomputable def Keep (x : Str) (ys : List (Str × Value)) (tmp : List Str) (m₀ m : Str → Option Value) : Prop :=
  (∀ p ∈ ys, m p.1 = some p.2) ∧ ∀ z, z ≠ x → (ys.map (·.1)).contains z = false → tmp.contains z = false → m z = m₀ z
theorem Keep.refl {x : Str} {ys : List (Str × Value)} {tmp : List Str} {m₀ : Str → Option Value} (h : ∀ p ∈ ys, m₀ p.1 = some p.2) : Keep x ys tmp m₀ m₀ := ⟨h, fun _ _ _ _ => rfl⟩
theorem Keep.lam0 {x : Str} {tmp : List Str} {m₀ m : Str → Option Value} (h : Keep x [] tmp m₀ m) : ∃ u : Str → Option Value, m = fun z => if z = x then u z else if tmp.contains z = true then u z else m₀ z := by
  refine ⟨m, funext fun z => ?_⟩
  by_cases h1 : z = x
  · simp [h1]
  · cases h2 : tmp.contains z with
    | true => simp
    | false => simp only [h1, if_false, Bool.false_eq_true]; exact h.2 z h1 rfl h2
theorem Keep.lam1 {x y : Str} {v : Value} {tmp : List Str} {m₀ m : Str → Option Value} (h : Keep x [(y, v)] tmp m₀ m) : ∃ u : Str → Option Value, m = fun z => if z = x then u z else if z = y then some v else if tmp.contains z = true then u z else m₀ z := by
  refine ⟨m, funext fun z => ?_⟩
  by_cases h1 : z = x
  · simp [h1]
  · by_cases h3 : z = y
    · subst h3; simp only [h1, if_false, if_true]; exact h.1 (z, v) (by simp)
    · cases h2 : tmp.contains z with
      | true => simp [h3]
      | false => simp only [h1, h3, if_false, Bool.false_eq_true]; exact h.2 z h1 (by simp [h3]) h2
theorem Keep.lam2 {x y y2 : Str} {v v2 : Value} {tmp : List Str} {m₀ m : Str → Option Value} (h : Keep x [(y, v), (y2, v2)] tmp m₀ m) : ∃ u : Str → Option Value, m = fun z => if z = x then u z else if z = y then some v else if z = y2 then some v2 else if tmp.contains z = true then u z else m₀ z := by
  refine ⟨m, funext fun z => ?_⟩
  by_cases h1 : z = x
  · simp [h1]
  · by_cases h3 : z = y
    · subst h3; simp only [h1, if_false, if_true]; exact h.1 (z, v) (by simp)
    · by_cases h4 : z = y2
      · subst h4; simp only [h1, h3, if_false, if_true]; exact h.1 (z, v2) (by simp)
      · cases h2 : tmp.contains z with
        | true => simp [h3, h4]
        | false => simp only [h1, h3, h4, if_false, Bool.false_eq_true]; exact h.2 z h1 (by simp [h3, h4]) h2
theorem Keep.turn0 {x : Str} {v : Option Value} {m₀ u : Str → Option Value} : Keep x [] [] m₀ (fun y => if y = x then v else if y = x then u y else if ([] : List Str).contains y = true then u y else m₀ y) :=
  ⟨(fun _ h => nomatch h), fun z h1 _ _ => by simp [h1]⟩
theorem StrsAre.snoc {vs : List Value} {ys : List Str} {c : Str} {t : Tok} (h : StrsAre vs ys) : StrsAre (vs ++ [.str c t]) (ys ++ [c]) := h.append' (.cons c t .nil)
theorem push_snoc {vs : List Value} {v : Value} : vs.toArray.push v = (vs ++ [v]).toArray := by simp
theorem words_03_1 : True := by
  (k_with "my call builtin:str.join" => (k_here; (with_reducible show wpAny _ _ (call (Value.builtin _) [Value.str _ _, Value.ref _]) _ _ _); k_dflt (refine' join_listW (News.isList (by k_asm) (by k_mem)) (by assumption) (by decide +kernel) (by assumption) ?_); intro _ _))
  trivial
section
variable {prog : Program} {w : World} {A : Around} {E : Value → Shared → Prop} {s : Shared} {env : Env} {h₀ : Heap} {x : Str} {body : List Stmt} {Q : Flow → Shared → Prop}
/-- a loop over a made list of the call's own: the word is told over the map and the ledger that stood ahead of it -/
theorem iter_own {ax : Addr} {lo : Obj} {vs : List Value} {n : Nat} {m₀ : Str → Option Value} {news : Led} (J : (Str → Option Value) → Led → List Value → (Str → Option Value) → Led → Prop)
    (hh : A.handled = none) (F : Fr h₀ env.locals s.heap m₀) (N : News h₀ env.locals s.heap news) (hm : (ax, lo) ∈ news) (hc : lo.cls = .type "list") (hd : lo.data = .seq vs.toArray n)
    (start : J m₀ news vs m₀ news)
    (step : ∀ I v r m news' (it : Obj) h tk, (∀ p ∈ news, p.1 < I) → J m₀ news (v :: r) m news' → it.cls = .type "list_iterator" → Fr h₀ env.locals h (fun y => if y = x then some v else m y) → News h₀ env.locals h ((I, it) :: news') →
      wpAny (model prog w) A (execs body env) (UnrPost h₀ env.locals { s with heap := h, toks := tk } I it (fun m' n' => (ax, lo) ∈ n' ∧ J m₀ news r m' n') Q) E { s with heap := h, toks := tk })
    (done : ∀ m news' h tk, J m₀ news [] m news' → Fr h₀ env.locals h m → News h₀ env.locals h news' → Q .next { s with heap := h, toks := tk }) :
    wpAny (model prog w) A (pyIter (.ref ax)) (fun it s₂ => LoopAtV prog w A h₀ env x body Q E it s₂) E s :=
  iter_listUnr hh F N hm hc hd fun I l => listRest_inv (J m₀ news) (fun v r m news' it h tk hj => step I v r m news' it h tk l hj) done vs m₀ news start
/-- the same over a list that stood ahead of the call -/
theorem iter_old {ax : Addr} {vs : List Value} {m₀ : Str → Option Value} {news : Led} (J : (Str → Option Value) → Led → List Value → (Str → Option Value) → Led → Prop)
    (hh : A.handled = none) (hl : h₀.IsList ax vs.toArray) (F : Fr h₀ env.locals s.heap m₀) (N : News h₀ env.locals s.heap news)
    (start : J m₀ news vs m₀ news)
    (step : ∀ I v r m news' (it : Obj) h tk, (∀ p ∈ news, p.1 < I) → J m₀ news (v :: r) m news' → (∀ p ∈ news', p.1 ≠ I) → it.cls = .type "list_iterator" → Fr h₀ env.locals h (fun y => if y = x then some v else m y) → News h₀ env.locals h ((I, it) :: news') →
      wpAny (model prog w) A (execs body env) (UnrPost h₀ env.locals { s with heap := h, toks := tk } I it (fun m' n' => J m₀ news r m' n') Q) E { s with heap := h, toks := tk })
    (done : ∀ m news' h tk, J m₀ news [] m news' → Fr h₀ env.locals h m → News h₀ env.locals h news' → Q .next { s with heap := h, toks := tk }) :
    wpAny (model prog w) A (pyIter (.ref ax)) (fun it s₂ => LoopAtV prog w A h₀ env x body Q E it s₂) E s :=
  iter_base (J m₀ news) hh hl F N start step done
end
noncomputable def NormGood (c : Str) : Prop := c.length ≤ 100 ∧ (c.length : Int) ≠ 0 ∧ (c == Str.ofString ".") = false ∧ (c != Str.ofString "..") = true
noncomputable def NormJ (cs : List Str) (m₀ : Str → Option Value) (news₀ : Led) (r : List Value) (m : Str → Option Value) (news : Led) : Prop :=
  ∃ (nc : Addr) (o₀ : Obj) (rest : Led) (dn : List Str) (vs : List Value) (n : Nat) (l : List (Str × Tok)), news₀ = (nc, o₀) :: rest ∧ r = strValues l ∧ StrsAre vs dn ∧ news = (nc, W.listOf vs.toArray n) :: rest ∧ Keep (Str.ofString "comp") [] [] m₀ m ∧
    ((∃ k, l.map (·.1) = k ++ [Str.ofString "."] ∧ dn ++ k = cs) ∨ (l = [] ∧ dn = cs))
@[elab_as_elim]
theorem NormJ.elim {cs : List Str} {m₀ m : Str → Option Value} {nc : Addr} {o₀ : Obj} {rest news : Led} {v : Value} {r : List Value} {P : (Str → Option Value) → Led → Value → List Value → Prop} (hj : NormJ cs m₀ ((nc, o₀) :: rest) (v :: r) m news)
    (dot : ∀ (vs : List Value) (n : Nat) (u : Str → Option Value) (ct : Tok), StrsAre vs cs → P (fun z => if z = Str.ofString "comp" then u z else if ([] : List Str).contains z = true then u z else m₀ z) ((nc, W.listOf vs.toArray n) :: rest) (.str (Str.ofString ".") ct) [])
    (name : ∀ (dn : List Str) (vs : List Value) (n : Nat) (u : Str → Option Value) (c : Str) (ct : Tok) (k' : List Str) (l' : List (Str × Tok)), StrsAre vs dn → dn ++ c :: k' = cs → l'.map (·.1) = k' ++ [Str.ofString "."] →
      P (fun z => if z = Str.ofString "comp" then u z else if ([] : List Str).contains z = true then u z else m₀ z) ((nc, W.listOf vs.toArray n) :: rest) (.str c ct) (strValues l')) : P m news v r := by
  obtain ⟨nc, o₀, rest, dn, vs, n, l, e0, e1, e2, rfl, hk, e5⟩ := hj
  cases e0
  obtain ⟨u, rfl⟩ := hk.lam0
  cases l with
  | nil => cases e1
  | cons p l' =>
    obtain ⟨c, ct⟩ := p
    obtain ⟨rfl, rfl⟩ : v = .str c ct ∧ r = strValues l' := by simpa [strValues] using e1
    rcases e5 with ⟨k, ek, edk⟩ | ⟨el, _⟩
    · cases k with
      | nil =>
        obtain ⟨rfl, el⟩ : c = Str.ofString "." ∧ l' = [] := by simpa using ek
        subst el
        rw [List.append_nil] at edk
        subst edk
        exact dot vs n u ct e2
      | cons d k' =>
        obtain ⟨rfl, el⟩ : c = d ∧ l'.map (·.1) = k' ++ [Str.ofString "."] := by simpa using ek
        exact name dn vs n u c ct k' l' e2 edk el
    · cases el
@[elab_as_elim]
theorem NormJ.fin {cs : List Str} {m₀ m : Str → Option Value} {nc : Addr} {o₀ : Obj} {rest news : Led} {P : (Str → Option Value) → Led → Prop} (hj : NormJ cs m₀ ((nc, o₀) :: rest) [] m news)
    (k : ∀ (vs : List Value) (n : Nat) (u : Str → Option Value), StrsAre vs cs → P (fun z => if z = Str.ofString "comp" then u z else if ([] : List Str).contains z = true then u z else m₀ z) ((nc, W.listOf vs.toArray n) :: rest)) : P m news := by
  obtain ⟨nc, o₀, rest, dn, vs, n, l, e0, e1, e2, rfl, hk, e5⟩ := hj
  cases e0
  obtain ⟨u, rfl⟩ := hk.lam0
  obtain rfl : dn = cs := by
    rcases e5 with ⟨k, ek, edk⟩ | ⟨_, e⟩
    · cases l with
      | nil => simp at ek
      | cons _ _ => cases e1
    · exact e
  exact k vs n u e2
theorem NormJ.start {cs : List Str} {m₀ : Str → Option Value} {nc : Addr} {rest : Led} {l : List (Str × Tok)} (h : l.map (·.1) = cs ++ [Str.ofString "."]) : NormJ cs m₀ ((nc, W.listOf #[] 0) :: rest) (strValues l) m₀ ((nc, W.listOf #[] 0) :: rest) :=
  ⟨_, _, _, [], [], 0, _, rfl, rfl, .nil, rfl, .refl (fun _ h => nomatch h), .inl ⟨cs, h, rfl⟩⟩
theorem NormJ.dot {cs : List Str} {m₀ m : Str → Option Value} {nc : Addr} {o₀ : Obj} {rest : Led} {vs : List Value} {n : Nat} (e : StrsAre vs cs) (h : ∀ z, z ≠ Str.ofString "comp" → m z = m₀ z) : NormJ cs m₀ ((nc, o₀) :: rest) [] m ((nc, W.listOf vs.toArray n) :: rest) :=
  ⟨_, _, _, cs, vs, n, [], rfl, rfl, e, rfl, ⟨(fun _ h => nomatch h), fun z z1 _ _ => h z z1⟩, .inr ⟨rfl, rfl⟩⟩
theorem NormJ.name {cs : List Str} {m₀ m : Str → Option Value} {nc : Addr} {o₀ : Obj} {rest : Led} {dn : List Str} {vs : List Value} {n : Nat} {c : Str} {ct : Tok} {k' : List Str} {l' : List (Str × Tok)} (e : StrsAre vs dn) (ed : dn ++ c :: k' = cs) (el : l'.map (·.1) = k' ++ [Str.ofString "."]) (h : ∀ z, z ≠ Str.ofString "comp" → m z = m₀ z) :
    NormJ cs m₀ ((nc, o₀) :: rest) (strValues l') m ((nc, W.listOf (vs.toArray.push (.str c ct)) n) :: rest) :=
  ⟨_, _, _, dn ++ [c], vs ++ [.str c ct], n, l', rfl, rfl, StrsAre.snoc e, by rw [push_snoc], ⟨(fun _ h => nomatch h), fun z z1 _ _ => h z z1⟩, .inl ⟨k', el, by rw [← ed, List.append_assoc]; rfl⟩⟩
theorem c_normpath (w : World) (x : Str) (t : Tok) (cs : List Str) (hx : x.length ≤ 100) (h0 : (x.length : Int) ≠ 0) (h1 : (Txt.slice x none (some 1) != Str.ofString "/") = false) (h2 : (Txt.slice x (some 1) (some 2) != Str.ofString "/") = true)
    (hs : Txt.split (Txt.slice x (some 1) none) (Str.ofString "/") = cs ++ [Str.ofString "."]) (hg : ∀ c ∈ cs, NormGood c) (hw : (cs.map (·.length)).sum + cs.length ≤ 1048576) (hj : (Txt.join (Str.ofString "/") cs).length ≤ 100) :
    PCon w 143 3 [Value.str x t] (fun _ => True) (OutV fun t => .str (Str.ofString "/" ++ Txt.join (Str.ofString "/") cs) t) := by
  walk_at "con enter"
  k_steps
  rename Fr _ _ _ _ => lF
  rename News _ _ _ _ => lN
  with_unfolding_all refine' iter_own (NormJ cs) (by rfl) lF lN (by k_mem) (by rfl) (by rfl) ?start ?step ?done
  case start => exact ⟨_, _, _, [], [], 0, _, rfl, rfl, .nil, rfl, .refl (fun _ h => nomatch h), .inl ⟨cs, by simp_all, rfl⟩⟩
  case step =>
    clear lF lN
    intro I v r m news it h tk l1 hj hc F' N'
    k_lt l1
    revert F' N'
    refine NormJ.elim hj ?_ ?_
    · clear hj
      intro vs n u ct e2 F' N'
      k_steps
      exact NormJ.dot e2 (fun z z1 => by simp [z1])
    · clear hj
      intro dn vs n u c ct k' l' e2 edk el F' N'
      have hgc := hg c (by rw [← edk]; simp)
      have g0 := hgc.1
      have g1 := hgc.2.1
      have g2 := hgc.2.2.1
      have g3 := hgc.2.2.2
      have hv : vs.length ≤ 1048576 := by
        rw [e2.length]
        have : dn.length ≤ cs.length := by rw [← edk]; simp
        omega
      k_steps
      all_goals first | (exfalso; omega) | exact NormJ.name e2 edk el (fun z z1 => by simp [z1])
  case done =>
    clear lF lN
    intro m news h tk hj F' N'
    revert F' N'
    refine NormJ.fin hj ?_
    clear hj
    intro vs n u e2 F' N'
    have hjl : (Str.ofString "/" ++ Txt.join (Str.ofString "/") cs).length ≠ 0 := by
      rw [Str.length_append]; have : (Str.ofString "/").length = 1 := by decide +kernel
      omega
    k_steps
    all_goals walk_at "con end"
    all_goals walk_at "con v"
theorem words_04_1 : True := by
  (k_with "my call ref" => (k_here; (with_reducible show wpAny _ _ (call (Value.ref 143) _) _ _ _); k_dflt (refine' PCon.useV (c_normpath _ _ _ _ (by omega) (by assumption) (by assumption) (by assumption) (by assumption) (by assumption) (by assumption) (by assumption)) ?B_q ?F_q ?X_q ?N_q ?T_q ?hf_q ?hk_q ?hd_q ?hu_q ?hp_q ?_; walk_at "con use v")))
  trivial
theorem c_abspath (w : World) (x : Str) (t : Tok) (cs : List Str) (hsw : Txt.startswith x (Str.ofString "/") = true) (hx : x.length ≤ 100) (h0 : (x.length : Int) ≠ 0) (h1 : (Txt.slice x none (some 1) != Str.ofString "/") = false) (h2 : (Txt.slice x (some 1) (some 2) != Str.ofString "/") = true)
    (hs : Txt.split (Txt.slice x (some 1) none) (Str.ofString "/") = cs ++ [Str.ofString "."]) (hg : ∀ c ∈ cs, NormGood c) (hw : (cs.map (·.length)).sum + cs.length ≤ 1048576) (hj : (Txt.join (Str.ofString "/") cs).length ≤ 100) :
    PCon w 150 4 [Value.str x t] (fun _ => True) (OutV fun t => .str (Str.ofString "/" ++ Txt.join (Str.ofString "/") cs) t) := by
  walk_at "con enter"
  k_steps
  all_goals walk_at "con v"
/-- a text that abspath takes to the way z of these names -/
structure AbsOK (x z : Str) (cs : List Str) : Prop where
  sw : Txt.startswith x (Str.ofString "/") = true
  len : x.length ≤ 100
  pos : (x.length : Int) ≠ 0
  s1 : (Txt.slice x none (some 1) != Str.ofString "/") = false
  s2 : (Txt.slice x (some 1) (some 2) != Str.ofString "/") = true
  sp : Txt.split (Txt.slice x (some 1) none) (Str.ofString "/") = cs ++ [Str.ofString "."]
  gd : ∀ c ∈ cs, NormGood c
  wt : (cs.map (·.length)).sum + cs.length ≤ 1048576
  jn : (Txt.join (Str.ofString "/") cs).length ≤ 100
  zz : Str.ofString "/" ++ Txt.join (Str.ofString "/") cs = z
  zl : z.length ≤ 100
  tp : ((Txt.lstripChars z (Str.ofString "/")).length : Int) ≠ 0
  tl : (Txt.lstripChars z (Str.ofString "/")).length ≤ 100
  ts : Txt.split (Txt.lstripChars z (Str.ofString "/")) (Str.ofString "/") = cs
  cl : cs.length ≤ 100
theorem c_abs (w : World) (x z : Str) (t : Tok) (cs : List Str) (h : AbsOK x z cs) : PCon w 150 4 [Value.str x t] (fun _ => True) (OutV fun t => .str z t) := by
  rw [← h.zz]
  exact c_abspath w x t cs h.sw h.len h.pos h.s1 h.s2 h.sp h.gd h.wt h.jn
theorem words_04_2 : True := by
  (k_with "my call ref" => (k_here; (with_reducible show wpAny _ _ (call (Value.ref 150) _) _ _ _); k_dflt (refine' PCon.useV (c_abs _ _ _ _ _ (by assumption)) ?B_q ?F_q ?X_q ?N_q ?T_q ?hf_q ?hk_q ?hd_q ?hu_q ?hp_q ?_; walk_at "con use v")))
  trivial
/-- lists of texts by the first place where they part -/
noncomputable def lexF (f : Str → Str → Bool) (e : Bool) : List Str → List Str → Bool
  | x :: xs, y :: ys => if (x.cps.toList == y.cps.toList) = true then lexF f e xs ys else f x y
  | _, _ => e
noncomputable def ltS (x y : Str) : Bool := decide (x.cps.toList < y.cps.toList)
noncomputable def gtS (x y : Str) : Bool := decide (y.cps.toList < x.cps.toList)
theorem slot_list_gt : Slot "list" (cmpInfo .Gt).2.1 "list.__gt__" :=
  .of (owner := "list") (n := "__gt__") (by rw [typeLookup_type, builtinLookup_eq_fast]; kernel_rfl) (by decide +kernel) (by decide +kernel) (by decide +kernel)
    (by first | exact .inl (by decide +kernel) | exact .inr (by decide +kernel)) (by rw [isSubtype_type]; kernel_rfl)
theorem entry_list_gt : entryFor table "list.__gt__" = some Builtin.«list.__gt__» := entryFor_of_tree (by kernel_rfl)
theorem args_list_gt (a b : Value) : argsOk "list.__gt__" ⟨[a, b], []⟩ := by unfold argsOk; kernel_rfl

/-- list.__lt__ of two lists of texts: from place i on -/
theorem lt_loop (l b : Addr) (d1 d2 : Option Addr) (sl1 sl2 : Array (Option Value)) (n n2 : Nat) (vs ws : List Value) (xs ys : List Str) (hx : StrsAre vs xs) (hy : StrsAre ws ys) (k : Nat) :
    ∀ i : Nat, xs.length - i = k → Meets (Builtin.«list.__eq__.loop» ⟨[.ref l, .ref b, rawInt i, rawInt 0], []⟩)
      (fun _ R s => s.heap.get? l = some { cls := .type "list", dict := d1, data := .seq vs.toArray n, slots := sl1 } ∧ s.heap.get? b = some { cls := .type "list", dict := d2, data := .seq ws.toArray n2, slots := sl2 } ∧
        R (.ok (.ret (.bool (lexF ltS (decide (xs.length < ys.length)) (xs.drop i) (ys.drop i))))) s) := by
  have lx := hx.length
  have ly := hy.length
  induction k with
  | zero =>
    intro i hk prog w A R s h
    obtain ⟨hp, g, d, tk, os⟩ := s; obtain ⟨hl, hb, h⟩ := h
    wp_walk using AutoSeq1.wpAny_loadPart' hl, AutoSeq1.wpAny_loadPart' hb
    have hi1 : vs.toArray[((i : Nat) : Int).toNat]? = none := by simp; omega
    have hd : xs.drop i = [] := by simp; omega
    rw [hd] at h
    rw [hi1]
    wp_walk using AutoSeq1.wpAny_loadPart' hl, AutoSeq1.wpAny_loadPart' hb
    show R (.ok (.ret (.bool (decide (vs.toArray.size < ws.toArray.size))))) _
    rw [List.size_toArray, List.size_toArray, lx, ly]
    simpa [lexF] using h
  | succ k ih =>
    intro i hk prog w A R s h
    obtain ⟨hp, g, d, tk, os⟩ := s; obtain ⟨hl, hb, h⟩ := h
    wp_walk using AutoSeq1.wpAny_loadPart' hl, AutoSeq1.wpAny_loadPart' hb
    have hlt : i < xs.length := by omega
    obtain ⟨t1, e1⟩ := hx.get i xs[i] (by simp [hlt])
    have hi1 : vs.toArray[((i : Nat) : Int).toNat]? = some (.str xs[i] t1) := by simpa using e1
    by_cases hlt2 : i < ys.length
    · obtain ⟨t2, e2⟩ := hy.get i ys[i] (by simp [hlt2])
      have hi2 : ws.toArray[((i : Nat) : Int).toNat]? = some (.str ys[i] t2) := by simpa using e2
      have hc : ((i : Int) + 1) = ((i + 1 : Nat) : Int) := by push_cast; rfl
      rw [List.drop_eq_getElem_cons hlt, List.drop_eq_getElem_cons hlt2] at h
      rw [hi1, hi2]
      refine wpAny_bind (SeqRoads2.EqGives.str _ _ _ _ prog w _ _ _ _ ?_)
      cases hb' : (xs[i].cps.toList == ys[i].cps.toList) with
      | true =>
        rw [lexF, if_pos hb'] at h
        wp_walk
        rw [hc]
        exact ⟨plainId_quiet MeetsSeq3.plain_eq_loop _, codeAny_builtin MeetsSeq3.entry_eq_loop (by
          rw [Around.under_plainId MeetsSeq3.plain_eq_loop _]
          exact ih (i + 1) (by omega) prog w A R _ ⟨hl, hb, h⟩)⟩
      | false =>
        rw [lexF, if_neg (by rw [hb']; exact Bool.false_ne_true)] at h
        wp_walk using AutoSeq1.wpAny_loadPart' hl, AutoSeq1.wpAny_loadPart' hb
        rw [hi1, hi2]
        refine wpAny_bind (PyProof.Rows.lt_str ?_)
        wp_walk
        exact h
    · have hi2 : ws.toArray[((i : Nat) : Int).toNat]? = none := by simp; omega
      have hd2 : ys.drop i = [] := by simp; omega
      rw [hd2, List.drop_eq_getElem_cons hlt, lexF] at h
      rw [hi1, hi2]
      wp_walk using AutoSeq1.wpAny_loadPart' hl, AutoSeq1.wpAny_loadPart' hb
      show R (.ok (.ret (.bool (decide (vs.toArray.size < ws.toArray.size))))) _
      rw [List.size_toArray, List.size_toArray, lx, ly]
      exact h
      nofun
theorem list_lt (l b : Addr) (d1 d2 : Option Addr) (sl1 sl2 : Array (Option Value)) (n n2 : Nat) (vs ws : List Value) (xs ys : List Str) (hx : StrsAre vs xs) (hy : StrsAre ws ys) :
    Meets (Builtin.«list.__lt__» ⟨[.ref l, .ref b], []⟩)
      (fun _ R s => s.heap.get? l = some { cls := .type "list", dict := d1, data := .seq vs.toArray n, slots := sl1 } ∧ s.heap.get? b = some { cls := .type "list", dict := d2, data := .seq ws.toArray n2, slots := sl2 } ∧
        R (.ok (.ret (.bool (lexF ltS (decide (xs.length < ys.length)) xs ys)))) s) := by
  intro prog w A R s h
  obtain ⟨hp, g, d, tk, os⟩ := s; obtain ⟨hl, hb, h⟩ := h
  have f3 := AutoSeq1.sub_list_list
  wp_walk using AutoSeq1.wpAny_loadPart' hl, AutoSeq1.wpAny_loadPart' hb
  exact ⟨plainId_quiet MeetsSeq3.plain_eq_loop _, codeAny_builtin MeetsSeq3.entry_eq_loop (by
    rw [Around.under_plainId MeetsSeq3.plain_eq_loop _]
    exact lt_loop l b d1 d2 sl1 sl2 n n2 vs ws xs ys hx hy _ 0 rfl prog w A R _ ⟨hl, hb, h⟩)⟩
theorem cmp_lt {prog : Program} {w : World} {A : Around} {E : Value → Shared → Prop} {s : Shared} {Q : Value → Shared → Prop} {l b : Addr} {vs ws : List Value} {xs ys : List Str} (hl : s.heap.IsList l vs.toArray) (hb : s.heap.IsList b ws.toArray)
    (hx : StrsAre vs xs) (hy : StrsAre ws ys) (hu : A.units < cLine) (h : Q (.bool (lexF ltS (decide (xs.length < ys.length)) xs ys)) s) : wpAny (model prog w) A (richCompare .Lt (.ref l) (.ref b)) Q E s := by
  obtain ⟨⟨c1, d1, q1, sl1⟩, h1, e1, n, f1⟩ := hl
  obtain ⟨⟨c2, d2, q2, sl2⟩, h2, e2, n2, f2⟩ := hb
  dsimp only at e1 f1 e2 f2
  subst e1 f1 e2 f2
  exact richCompare_meets_room (op := .Lt) ⟨_, h1, rfl⟩ ⟨_, h2, rfl⟩ F.slot_list_lt F.entry_list_lt (F.args_list_lt_2 _ _) (list_lt l b d1 d2 sl1 sl2 n n2 vs ws xs ys hx hy) ⟨h1, h2, (by intro q; cases q), h⟩ hu


/-- list.__gt__ of two lists of texts: from place i on -/
theorem gt_loop (l b : Addr) (d1 d2 : Option Addr) (sl1 sl2 : Array (Option Value)) (n n2 : Nat) (vs ws : List Value) (xs ys : List Str) (hx : StrsAre vs xs) (hy : StrsAre ws ys) (k : Nat) :
    ∀ i : Nat, xs.length - i = k → Meets (Builtin.«list.__eq__.loop» ⟨[.ref l, .ref b, rawInt i, rawInt 4], []⟩)
      (fun _ R s => s.heap.get? l = some { cls := .type "list", dict := d1, data := .seq vs.toArray n, slots := sl1 } ∧ s.heap.get? b = some { cls := .type "list", dict := d2, data := .seq ws.toArray n2, slots := sl2 } ∧
        R (.ok (.ret (.bool (lexF gtS (decide (xs.length > ys.length)) (xs.drop i) (ys.drop i))))) s) := by
  have lx := hx.length
  have ly := hy.length
  induction k with
  | zero =>
    intro i hk prog w A R s h
    obtain ⟨hp, g, d, tk, os⟩ := s; obtain ⟨hl, hb, h⟩ := h
    wp_walk using AutoSeq1.wpAny_loadPart' hl, AutoSeq1.wpAny_loadPart' hb
    have hi1 : vs.toArray[((i : Nat) : Int).toNat]? = none := by simp; omega
    have hd : xs.drop i = [] := by simp; omega
    rw [hd] at h
    rw [hi1]
    wp_walk using AutoSeq1.wpAny_loadPart' hl, AutoSeq1.wpAny_loadPart' hb
    show R (.ok (.ret (.bool (decide (vs.toArray.size > ws.toArray.size))))) _
    rw [List.size_toArray, List.size_toArray, lx, ly]
    simpa [lexF] using h
  | succ k ih =>
    intro i hk prog w A R s h
    obtain ⟨hp, g, d, tk, os⟩ := s; obtain ⟨hl, hb, h⟩ := h
    wp_walk using AutoSeq1.wpAny_loadPart' hl, AutoSeq1.wpAny_loadPart' hb
    have hlt : i < xs.length := by omega
    obtain ⟨t1, e1⟩ := hx.get i xs[i] (by simp [hlt])
    have hi1 : vs.toArray[((i : Nat) : Int).toNat]? = some (.str xs[i] t1) := by simpa using e1
    by_cases hlt2 : i < ys.length
    · obtain ⟨t2, e2⟩ := hy.get i ys[i] (by simp [hlt2])
      have hi2 : ws.toArray[((i : Nat) : Int).toNat]? = some (.str ys[i] t2) := by simpa using e2
      have hc : ((i : Int) + 1) = ((i + 1 : Nat) : Int) := by push_cast; rfl
      rw [List.drop_eq_getElem_cons hlt, List.drop_eq_getElem_cons hlt2] at h
      rw [hi1, hi2]
      refine wpAny_bind (SeqRoads2.EqGives.str _ _ _ _ prog w _ _ _ _ ?_)
      cases hb' : (xs[i].cps.toList == ys[i].cps.toList) with
      | true =>
        rw [lexF, if_pos hb'] at h
        wp_walk
        rw [hc]
        exact ⟨plainId_quiet MeetsSeq3.plain_eq_loop _, codeAny_builtin MeetsSeq3.entry_eq_loop (by
          rw [Around.under_plainId MeetsSeq3.plain_eq_loop _]
          exact ih (i + 1) (by omega) prog w A R _ ⟨hl, hb, h⟩)⟩
      | false =>
        rw [lexF, if_neg (by rw [hb']; exact Bool.false_ne_true)] at h
        wp_walk using AutoSeq1.wpAny_loadPart' hl, AutoSeq1.wpAny_loadPart' hb
        rw [hi1, hi2]
        refine wpAny_bind (P.gt_str ?_)
        wp_walk
        exact h
    · have hi2 : ws.toArray[((i : Nat) : Int).toNat]? = none := by simp; omega
      have hd2 : ys.drop i = [] := by simp; omega
      rw [hd2, List.drop_eq_getElem_cons hlt, lexF] at h
      rw [hi1, hi2]
      wp_walk using AutoSeq1.wpAny_loadPart' hl, AutoSeq1.wpAny_loadPart' hb
      show R (.ok (.ret (.bool (decide (vs.toArray.size > ws.toArray.size))))) _
      rw [List.size_toArray, List.size_toArray, lx, ly]
      exact h
      nofun
theorem list_gt (l b : Addr) (d1 d2 : Option Addr) (sl1 sl2 : Array (Option Value)) (n n2 : Nat) (vs ws : List Value) (xs ys : List Str) (hx : StrsAre vs xs) (hy : StrsAre ws ys) :
    Meets (Builtin.«list.__gt__» ⟨[.ref l, .ref b], []⟩)
      (fun _ R s => s.heap.get? l = some { cls := .type "list", dict := d1, data := .seq vs.toArray n, slots := sl1 } ∧ s.heap.get? b = some { cls := .type "list", dict := d2, data := .seq ws.toArray n2, slots := sl2 } ∧
        R (.ok (.ret (.bool (lexF gtS (decide (xs.length > ys.length)) xs ys)))) s) := by
  intro prog w A R s h
  obtain ⟨hp, g, d, tk, os⟩ := s; obtain ⟨hl, hb, h⟩ := h
  have f3 := AutoSeq1.sub_list_list
  wp_walk using AutoSeq1.wpAny_loadPart' hl, AutoSeq1.wpAny_loadPart' hb
  exact ⟨plainId_quiet MeetsSeq3.plain_eq_loop _, codeAny_builtin MeetsSeq3.entry_eq_loop (by
    rw [Around.under_plainId MeetsSeq3.plain_eq_loop _]
    exact gt_loop l b d1 d2 sl1 sl2 n n2 vs ws xs ys hx hy _ 0 rfl prog w A R _ ⟨hl, hb, h⟩)⟩
theorem cmp_gt {prog : Program} {w : World} {A : Around} {E : Value → Shared → Prop} {s : Shared} {Q : Value → Shared → Prop} {l b : Addr} {vs ws : List Value} {xs ys : List Str} (hl : s.heap.IsList l vs.toArray) (hb : s.heap.IsList b ws.toArray)
    (hx : StrsAre vs xs) (hy : StrsAre ws ys) (hu : A.units < cLine) (h : Q (.bool (lexF gtS (decide (xs.length > ys.length)) xs ys)) s) : wpAny (model prog w) A (richCompare .Gt (.ref l) (.ref b)) Q E s := by
  obtain ⟨⟨c1, d1, q1, sl1⟩, h1, e1, n, f1⟩ := hl
  obtain ⟨⟨c2, d2, q2, sl2⟩, h2, e2, n2, f2⟩ := hb
  dsimp only at e1 f1 e2 f2
  subst e1 f1 e2 f2
  exact richCompare_meets_room (op := .Gt) ⟨_, h1, rfl⟩ ⟨_, h2, rfl⟩ slot_list_gt entry_list_gt (args_list_gt _ _) (list_gt l b d1 d2 sl1 sl2 n n2 vs ws xs ys hx hy) ⟨h1, h2, (by intro q; cases q), h⟩ hu

theorem min_two {prog : Program} {w : World} {A : Around} {E : Value → Shared → Prop} {s : Shared} {Q : Value → Shared → Prop} {l : Addr} {v1 v2 : Value} {b : Bool} (hh : A.handled = none) (hl : s.heap.IsList l #[v1, v2])
    (hc : ∀ (s' : Shared) (Q E : Value → Shared → Prop), (∀ a o, s.heap.get? a = some o → s'.heap.get? a = some o) → Q (.bool b) s' → wpAny (model prog w) A.in1 (richCompare .Lt v2 v1) Q E s')
    (hQ : ∀ h' tk, (∀ a o, s.heap.get? a = some o → h'.get? a = some o) → Q (if b then v2 else v1) { s with heap := h', toks := tk }) :
    wpAny (model prog w) A (call (.builtin "min") [.ref l]) Q E s := by
  have hname : (toString "min" ++ toString ".loop" : String) = "min.loop" := by decide
  obtain ⟨ol, hol, hol2⟩ := id hl
  have hll : l < s.heap.objs.size := Heap.lt_size hol
  refine call_function_tree F.kind_min F.plain_min F.entry_min (F.args_min1 _) ?_
  show wpAny _ A.in1 (Builtin.Builtins.bindParams "min" ["key", "default"] 0 ⟨[], []⟩ >>= _) _ _ s
  refine wpAny_bind (wpAny_of_eq (show Builtin.Builtins.bindParams "min" ["key", "default"] 0 ⟨[], []⟩ = pure [none, none] from rfl) ?_)
  refine wpAny_bind (wpAny_pure ?_)
  refine wpAny_bind (wpAny_pyIter_list hl ?_)
  refine wpAny_bind (wpAny_newList ?_ (Nat.zero_le _))
  rw [hname]
  refine wpAny_pure ⟨plainId_quiet F.plain_min_loop _, ?_⟩
  generalize hH : (s.heap.push { cls := .type "list_iterator", data := .fields #[.ref l, .int 0 0] }) = H
  have hSz : H.objs.size = s.heap.objs.size + 1 := by rw [← hH]; exact size_push' ..
  have st0 : ∀ a o, s.heap.get? a = some o → (H.push { cls := .type "list", data := .seq ([] : List Value).toArray }).get? a = some o := fun a o e => Heap.get?_push_of_some _ (by rw [← hH]; exact Heap.get?_push_of_some _ e)
  have gI : (H.push { cls := .type "list", data := .seq ([] : List Value).toArray }).IsListIter s.heap.objs.size l 0 := ⟨{ cls := .type "list_iterator", data := .fields #[.ref l, .int 0 0] }, Heap.get?_push_of_some _ (by rw [← hH]; exact Heap.get?_push_size _ rfl), rfl, rfl⟩
  have gS : (H.push { cls := .type "list", data := .seq ([] : List Value).toArray }).get? H.objs.size = some { cls := .type "list", data := .seq ([] : List Value).toArray } := Heap.get?_push_size _ rfl
  have nSI : H.objs.size ≠ s.heap.objs.size := by rw [hSz]; exact Nat.succ_ne_self _
  have old : ∀ {a : Addr} {o : Obj}, s.heap.get? a = some o → a ≠ s.heap.objs.size ∧ a ≠ H.objs.size := fun {a o} e => by
    have : a < s.heap.objs.size := Heap.lt_size e
    exact ⟨Nat.ne_of_lt this, Nat.ne_of_lt (by rw [hSz]; exact Nat.lt_succ_of_lt this)⟩
  generalize (H.push { cls := .type "list", data := .seq ([] : List Value).toArray }) = h1 at st0 gI gS
  -- the first
  refine codeAny_builtin F.entry_min_loop ?_
  rw [Around.under_plainId F.plain_min_loop _]
  show wpAny _ A.in1 (seqItems? (.ref _) >>= _) _ _ _
  refine wpAny_bind (wpAny_seqItems gS rfl ?_)
  show wpAny _ A.in1 (tryCatch (pyNext (.ref s.heap.objs.size)) _ >>= _) _ _ _
  refine wpAny_bind (wpAny_tryCatch (wpAny_pyNext_list_item (x := v1) gI (hl.at fun o e => st0 _ _ e) rfl fun h2 gI2 sb2 => ?_))
  have gS2 := (sb2.2 _ nSI).trans gS
  have st2 : ∀ a o, s.heap.get? a = some o → h2.get? a = some o := fun a o e => (sb2.2 _ (old e).1).trans (st0 _ _ e)
  show wpAny _ A.in1 (updateSeq H.objs.size (fun _ => #[v1, v1]) >>= _) _ _ _
  refine wpAny_bind ?_
  refine wpAny_updateSeq gS2 rfl ?_
  rw [hname]
  have sb3 := Heap.SameBut.update h2 H.objs.size (Obj.mapSeq fun _ => #[v1, v1])
  obtain ⟨c3, gS3⟩ : ∃ c, (h2.update H.objs.size (Obj.mapSeq fun _ => #[v1, v1])).get? H.objs.size = some { cls := .type "list", data := .seq #[v1, v1] c } := ⟨_, Heap.get?_update_self _ gS2 rfl⟩
  have gI3 : (h2.update H.objs.size (Obj.mapSeq fun _ => #[v1, v1])).IsListIter s.heap.objs.size l 1 := gI2.at fun o e => (sb3.2 _ nSI.symm).trans e
  have st3 : ∀ a o, s.heap.get? a = some o → (h2.update H.objs.size (Obj.mapSeq fun _ => #[v1, v1])).get? a = some o := fun a o e => (sb3.2 _ (old e).2).trans (st2 _ _ e)
  generalize (h2.update H.objs.size (Obj.mapSeq fun _ => #[v1, v1])) = h3 at gS3 gI3 st3
  refine wpAny_pure ⟨plainId_quiet F.plain_min_loop _, ?_⟩
  -- the end, whatever was kept
  have fin : ∀ (v : Value) (c : Nat) (h : Heap) (tk : Nat), h.get? H.objs.size = some { cls := .type "list", data := .seq #[v, v] c } → h.IsListIter s.heap.objs.size l 2 → (∀ a o, s.heap.get? a = some o → h.get? a = some o) → v = (if b then v2 else v1) →
      codeAny (model prog w) A (.builtin "min.loop" ⟨[.ref s.heap.objs.size, .none, .ref H.objs.size], []⟩) (fun r s' => match r with | .ok (.ret v) => Q v s' | .ok _ => False | .error e => E e s') { s with heap := h, toks := tk } := by
    rintro v c h tk hS hI hst rfl
    refine codeAny_builtin F.entry_min_loop ?_
    rw [Around.under_plainId F.plain_min_loop _]
    show wpAny _ A.in1 (seqItems? (.ref _) >>= _) _ _ _
    refine wpAny_bind (wpAny_seqItems hS rfl ?_)
    show wpAny _ A.in1 (tryCatch (pyNext (.ref s.heap.objs.size)) _ >>= _) _ _ _
    refine wpAny_bind (wpAny_tryCatch (wpAny_pyNext_list_end hh hI (hl.at fun o e => hst _ _ e) rfl fun h' eb => ?_))
    have hS' := eb _ _ nSI hS
    show wpAny _ A.in1 (updateSeq H.objs.size (fun _ => #[]) >>= _) _ _ _
    refine wpAny_bind ?_
    refine wpAny_updateSeq hS' rfl (wpAny_bind (wpAny_letGo (wpAny_pure ?_)))
    exact hQ _ _ fun a o e => (Heap.get?_update_other _ _ (Ne.symm (old e).2)).trans (eb _ _ (old e).1 (hst _ _ e))
  -- the second
  refine codeAny_builtin F.entry_min_loop ?_
  rw [Around.under_plainId F.plain_min_loop _]
  show wpAny _ A.in1 (seqItems? (.ref _) >>= _) _ _ _
  refine wpAny_bind (wpAny_seqItems gS3 rfl ?_)
  show wpAny _ A.in1 (tryCatch (pyNext (.ref s.heap.objs.size)) _ >>= _) _ _ _
  refine wpAny_bind (wpAny_tryCatch (wpAny_pyNext_list_item (x := v2) gI3 (hl.at fun o e => st3 _ _ e) rfl fun h4 gI4 sb4 => ?_))
  have gS4 := (sb4.2 _ nSI).trans gS3
  have st4 : ∀ a o, s.heap.get? a = some o → h4.get? a = some o := fun a o e => (sb4.2 _ (old e).1).trans (st3 _ _ e)
  show wpAny _ A.in1 (tryCatch (holding [v2, v2] (richCompare .Lt v2 v1 >>= _)) _ >>= _) _ _ _
  refine wpAny_bind (wpAny_tryCatch (wpAny_holding (wpAny_bind (hc _ _ _ st4 ?_))))
  refine wpAny_bind (wpAny_holding (wpAny_truthy_bool ?_))
  refine wpAny_bind (wpAny_letGo (wpAny_pure ?_))
  cases hb : b with
  | true =>
    simp only [if_true]
    refine wpAny_bind ?_
    refine wpAny_updateSeq gS4 rfl (wpAny_bind (wpAny_letGo ?_))
    rw [hname]
    have sb5 := Heap.SameBut.update h4 H.objs.size (Obj.mapSeq fun _ => #[v2, v2])
    exact wpAny_pure ⟨plainId_quiet F.plain_min_loop _, fin v2 _ _ _ (Heap.get?_update_self _ gS4 rfl) (gI4.at fun o e => (sb5.2 _ nSI.symm).trans e) (fun a o e => (sb5.2 _ (old e).2).trans (st4 _ _ e)) (by rw [hb]; rfl)⟩
  | false =>
    simp only [Bool.false_eq_true, if_false]
    refine wpAny_bind (wpAny_letGo ?_)
    rw [hname]
    exact wpAny_pure ⟨plainId_quiet F.plain_min_loop _, fin v1 _ _ _ gS4 gI4 st4 (by rw [hb]; rfl)⟩


theorem max_two {prog : Program} {w : World} {A : Around} {E : Value → Shared → Prop} {s : Shared} {Q : Value → Shared → Prop} {l : Addr} {v1 v2 : Value} {b : Bool} (hh : A.handled = none) (hl : s.heap.IsList l #[v1, v2])
    (hc : ∀ (s' : Shared) (Q E : Value → Shared → Prop), (∀ a o, s.heap.get? a = some o → s'.heap.get? a = some o) → Q (.bool b) s' → wpAny (model prog w) A.in1 (richCompare .Gt v2 v1) Q E s')
    (hQ : ∀ h' tk, (∀ a o, s.heap.get? a = some o → h'.get? a = some o) → Q (if b then v2 else v1) { s with heap := h', toks := tk }) :
    wpAny (model prog w) A (call (.builtin "max") [.ref l]) Q E s := by
  have hname : (toString "max" ++ toString ".loop" : String) = "max.loop" := by decide
  obtain ⟨ol, hol, hol2⟩ := id hl
  have hll : l < s.heap.objs.size := Heap.lt_size hol
  refine call_function_tree F.kind_max F.plain_max F.entry_max (F.args_max1 _) ?_
  show wpAny _ A.in1 (Builtin.Builtins.bindParams "max" ["key", "default"] 0 ⟨[], []⟩ >>= _) _ _ s
  refine wpAny_bind (wpAny_of_eq (show Builtin.Builtins.bindParams "max" ["key", "default"] 0 ⟨[], []⟩ = pure [none, none] from rfl) ?_)
  refine wpAny_bind (wpAny_pure ?_)
  refine wpAny_bind (wpAny_pyIter_list hl ?_)
  refine wpAny_bind (wpAny_newList ?_ (Nat.zero_le _))
  rw [hname]
  refine wpAny_pure ⟨plainId_quiet F.plain_max_loop _, ?_⟩
  generalize hH : (s.heap.push { cls := .type "list_iterator", data := .fields #[.ref l, .int 0 0] }) = H
  have hSz : H.objs.size = s.heap.objs.size + 1 := by rw [← hH]; exact size_push' ..
  have st0 : ∀ a o, s.heap.get? a = some o → (H.push { cls := .type "list", data := .seq ([] : List Value).toArray }).get? a = some o := fun a o e => Heap.get?_push_of_some _ (by rw [← hH]; exact Heap.get?_push_of_some _ e)
  have gI : (H.push { cls := .type "list", data := .seq ([] : List Value).toArray }).IsListIter s.heap.objs.size l 0 := ⟨{ cls := .type "list_iterator", data := .fields #[.ref l, .int 0 0] }, Heap.get?_push_of_some _ (by rw [← hH]; exact Heap.get?_push_size _ rfl), rfl, rfl⟩
  have gS : (H.push { cls := .type "list", data := .seq ([] : List Value).toArray }).get? H.objs.size = some { cls := .type "list", data := .seq ([] : List Value).toArray } := Heap.get?_push_size _ rfl
  have nSI : H.objs.size ≠ s.heap.objs.size := by rw [hSz]; exact Nat.succ_ne_self _
  have old : ∀ {a : Addr} {o : Obj}, s.heap.get? a = some o → a ≠ s.heap.objs.size ∧ a ≠ H.objs.size := fun {a o} e => by
    have : a < s.heap.objs.size := Heap.lt_size e
    exact ⟨Nat.ne_of_lt this, Nat.ne_of_lt (by rw [hSz]; exact Nat.lt_succ_of_lt this)⟩
  generalize (H.push { cls := .type "list", data := .seq ([] : List Value).toArray }) = h1 at st0 gI gS
  -- the first
  refine codeAny_builtin F.entry_max_loop ?_
  rw [Around.under_plainId F.plain_max_loop _]
  show wpAny _ A.in1 (seqItems? (.ref _) >>= _) _ _ _
  refine wpAny_bind (wpAny_seqItems gS rfl ?_)
  show wpAny _ A.in1 (tryCatch (pyNext (.ref s.heap.objs.size)) _ >>= _) _ _ _
  refine wpAny_bind (wpAny_tryCatch (wpAny_pyNext_list_item (x := v1) gI (hl.at fun o e => st0 _ _ e) rfl fun h2 gI2 sb2 => ?_))
  have gS2 := (sb2.2 _ nSI).trans gS
  have st2 : ∀ a o, s.heap.get? a = some o → h2.get? a = some o := fun a o e => (sb2.2 _ (old e).1).trans (st0 _ _ e)
  show wpAny _ A.in1 (updateSeq H.objs.size (fun _ => #[v1, v1]) >>= _) _ _ _
  refine wpAny_bind ?_
  refine wpAny_updateSeq gS2 rfl ?_
  rw [hname]
  have sb3 := Heap.SameBut.update h2 H.objs.size (Obj.mapSeq fun _ => #[v1, v1])
  obtain ⟨c3, gS3⟩ : ∃ c, (h2.update H.objs.size (Obj.mapSeq fun _ => #[v1, v1])).get? H.objs.size = some { cls := .type "list", data := .seq #[v1, v1] c } := ⟨_, Heap.get?_update_self _ gS2 rfl⟩
  have gI3 : (h2.update H.objs.size (Obj.mapSeq fun _ => #[v1, v1])).IsListIter s.heap.objs.size l 1 := gI2.at fun o e => (sb3.2 _ nSI.symm).trans e
  have st3 : ∀ a o, s.heap.get? a = some o → (h2.update H.objs.size (Obj.mapSeq fun _ => #[v1, v1])).get? a = some o := fun a o e => (sb3.2 _ (old e).2).trans (st2 _ _ e)
  generalize (h2.update H.objs.size (Obj.mapSeq fun _ => #[v1, v1])) = h3 at gS3 gI3 st3
  refine wpAny_pure ⟨plainId_quiet F.plain_max_loop _, ?_⟩
  -- the end, whatever was kept
  have fin : ∀ (v : Value) (c : Nat) (h : Heap) (tk : Nat), h.get? H.objs.size = some { cls := .type "list", data := .seq #[v, v] c } → h.IsListIter s.heap.objs.size l 2 → (∀ a o, s.heap.get? a = some o → h.get? a = some o) → v = (if b then v2 else v1) →
      codeAny (model prog w) A (.builtin "max.loop" ⟨[.ref s.heap.objs.size, .none, .ref H.objs.size], []⟩) (fun r s' => match r with | .ok (.ret v) => Q v s' | .ok _ => False | .error e => E e s') { s with heap := h, toks := tk } := by
    rintro v c h tk hS hI hst rfl
    refine codeAny_builtin F.entry_max_loop ?_
    rw [Around.under_plainId F.plain_max_loop _]
    show wpAny _ A.in1 (seqItems? (.ref _) >>= _) _ _ _
    refine wpAny_bind (wpAny_seqItems hS rfl ?_)
    show wpAny _ A.in1 (tryCatch (pyNext (.ref s.heap.objs.size)) _ >>= _) _ _ _
    refine wpAny_bind (wpAny_tryCatch (wpAny_pyNext_list_end hh hI (hl.at fun o e => hst _ _ e) rfl fun h' eb => ?_))
    have hS' := eb _ _ nSI hS
    show wpAny _ A.in1 (updateSeq H.objs.size (fun _ => #[]) >>= _) _ _ _
    refine wpAny_bind ?_
    refine wpAny_updateSeq hS' rfl (wpAny_bind (wpAny_letGo (wpAny_pure ?_)))
    exact hQ _ _ fun a o e => (Heap.get?_update_other _ _ (Ne.symm (old e).2)).trans (eb _ _ (old e).1 (hst _ _ e))
  -- the second
  refine codeAny_builtin F.entry_max_loop ?_
  rw [Around.under_plainId F.plain_max_loop _]
  show wpAny _ A.in1 (seqItems? (.ref _) >>= _) _ _ _
  refine wpAny_bind (wpAny_seqItems gS3 rfl ?_)
  show wpAny _ A.in1 (tryCatch (pyNext (.ref s.heap.objs.size)) _ >>= _) _ _ _
  refine wpAny_bind (wpAny_tryCatch (wpAny_pyNext_list_item (x := v2) gI3 (hl.at fun o e => st3 _ _ e) rfl fun h4 gI4 sb4 => ?_))
  have gS4 := (sb4.2 _ nSI).trans gS3
  have st4 : ∀ a o, s.heap.get? a = some o → h4.get? a = some o := fun a o e => (sb4.2 _ (old e).1).trans (st3 _ _ e)
  show wpAny _ A.in1 (tryCatch (holding [v2, v2] (richCompare .Gt v2 v1 >>= _)) _ >>= _) _ _ _
  refine wpAny_bind (wpAny_tryCatch (wpAny_holding (wpAny_bind (hc _ _ _ st4 ?_))))
  refine wpAny_bind (wpAny_holding (wpAny_truthy_bool ?_))
  refine wpAny_bind (wpAny_letGo (wpAny_pure ?_))
  cases hb : b with
  | true =>
    simp only [if_true]
    refine wpAny_bind ?_
    refine wpAny_updateSeq gS4 rfl (wpAny_bind (wpAny_letGo ?_))
    rw [hname]
    have sb5 := Heap.SameBut.update h4 H.objs.size (Obj.mapSeq fun _ => #[v2, v2])
    exact wpAny_pure ⟨plainId_quiet F.plain_max_loop _, fin v2 _ _ _ (Heap.get?_update_self _ gS4 rfl) (gI4.at fun o e => (sb5.2 _ nSI.symm).trans e) (fun a o e => (sb5.2 _ (old e).2).trans (st4 _ _ e)) (by rw [hb]; rfl)⟩
  | false =>
    simp only [Bool.false_eq_true, if_false]
    refine wpAny_bind (wpAny_letGo ?_)
    rw [hname]
    exact wpAny_pure ⟨plainId_quiet F.plain_max_loop _, fin v1 _ _ _ gS4 gI4 st4 (by rw [hb]; rfl)⟩


theorem min_K {prog : Program} {w : World} {A : Around} {E : Value → Shared → Prop} {s : Shared} {Q : Value → Shared → Prop} {h₀ : Heap} {L : Addr} {m : Str → Option Value} {news : Led} {l a b p : Addr} {vs ws : List Value} {xs ys : List Str}
    (F : Fr h₀ L s.heap m) (N : News h₀ L s.heap news) (hl : h₀.IsList l #[.ref a, .ref b]) (ha : h₀.IsList a vs.toArray) (hb : h₀.IsList b ws.toArray) (hx : StrsAre vs xs) (hy : StrsAre ws ys)
    (e : p = if lexF ltS (decide (ys.length < xs.length)) ys xs = true then b else a) (hh : A.handled = none) (hu : A.units + 1 < cLine)
    (h : ∀ h' tk, Fr h₀ L h' m → News h₀ L h' news → Q (.ref p) { s with heap := h', toks := tk }) : wpAny (model prog w) A (call (.builtin "min") [.ref l]) Q E s := by
  refine min_two (b := lexF ltS (decide (ys.length < xs.length)) ys xs) hh (hl.at fun o e => F.keep _ _ e) (fun s' Q E st hq => cmp_lt (hb.at fun o e => st _ _ (F.keep _ _ e)) (ha.at fun o e => st _ _ (F.keep _ _ e)) hy hx (by simpa using hu) hq) fun h' tk st => ?_
  have e2 : (if lexF ltS (decide (ys.length < xs.length)) ys xs = true then Value.ref b else Value.ref a) = .ref p := by rw [e]; split <;> rfl
  rw [e2]
  exact h h' tk (F.keeps st) (N.grown st)


theorem max_K {prog : Program} {w : World} {A : Around} {E : Value → Shared → Prop} {s : Shared} {Q : Value → Shared → Prop} {h₀ : Heap} {L : Addr} {m : Str → Option Value} {news : Led} {l a b p : Addr} {vs ws : List Value} {xs ys : List Str}
    (F : Fr h₀ L s.heap m) (N : News h₀ L s.heap news) (hl : h₀.IsList l #[.ref a, .ref b]) (ha : h₀.IsList a vs.toArray) (hb : h₀.IsList b ws.toArray) (hx : StrsAre vs xs) (hy : StrsAre ws ys)
    (e : p = if lexF gtS (decide (ys.length > xs.length)) ys xs = true then b else a) (hh : A.handled = none) (hu : A.units + 1 < cLine)
    (h : ∀ h' tk, Fr h₀ L h' m → News h₀ L h' news → Q (.ref p) { s with heap := h', toks := tk }) : wpAny (model prog w) A (call (.builtin "max") [.ref l]) Q E s := by
  refine max_two (b := lexF gtS (decide (ys.length > xs.length)) ys xs) hh (hl.at fun o e => F.keep _ _ e) (fun s' Q E st hq => cmp_gt (hb.at fun o e => st _ _ (F.keep _ _ e)) (ha.at fun o e => st _ _ (F.keep _ _ e)) hy hx (by simpa using hu) hq) fun h' tk st => ?_
  have e2 : (if lexF gtS (decide (ys.length > xs.length)) ys xs = true then Value.ref b else Value.ref a) = .ref p := by rw [e]; split <;> rfl
  rw [e2]
  exact h h' tk (F.keeps st) (N.grown st)

theorem words_06_1 : True := by
  (k_with "my call builtin:min" => (k_here; (with_reducible show wpAny _ _ (call (Value.builtin _) [Value.ref _]) _ _ _); k_dflt (refine' min_K ?F_q22 ?N_q22 ?l_q22 ?a_q22 ?b_q22 ?x_q22 ?y_q22 ?e_q22 ?h_q22 ?u_q22 ?_; (case F_q22 => k_asm); (case N_q22 => k_asm); (case l_q22 => assumption); (case a_q22 => assumption); (case b_q22 => assumption); (case x_q22 => assumption); (case y_q22 => assumption); (case e_q22 => assumption); (case h_q22 => rfl); (case u_q22 => walk_at "con room")); intro h_p tk_p F_p N_p))
  (k_with "my call builtin:max" => (k_here; (with_reducible show wpAny _ _ (call (Value.builtin _) [Value.ref _]) _ _ _); k_dflt (refine' max_K ?F_q23 ?N_q23 ?l_q23 ?a_q23 ?b_q23 ?x_q23 ?y_q23 ?e_q23 ?h_q23 ?u_q23 ?_; (case F_q23 => k_asm); (case N_q23 => k_asm); (case l_q23 => assumption); (case a_q23 => assumption); (case b_q23 => assumption); (case x_q23 => assumption); (case y_q23 => assumption); (case e_q23 => assumption); (case h_q23 => rfl); (case u_q23 => walk_at "con room")); intro h_p tk_p F_p N_p))
  trivial
section
variable {prog : Program} {w : World} {A : Around} {E : Value → Shared → Prop} {s : Shared} {env : Env} {h₀ : Heap} {body : List Stmt} {Q : Flow → Shared → Prop}
noncomputable def EnumEnd (h₀ : Heap) (L : Addr) (s₁ : Shared) (its news : Led) (J : (Str → Option Value) → Prop) (s₂ : Shared) : Prop :=
  ∃ h' tk m', s₂ = { s₁ with heap := h', toks := tk } ∧ Fr h₀ L h' m' ∧ News h₀ L h' (its ++ news) ∧ J m'
noncomputable def EnumPost (h₀ : Heap) (L : Addr) (s₁ : Shared) (its news : Led) (J : (Str → Option Value) → Prop) (Q : Flow → Shared → Prop) (f : Flow) (s₂ : Shared) : Prop :=
  match f with
  | .ret v => Q (.ret v) s₂
  | .brk => Q .next s₂
  | _ => EnumEnd h₀ L s₁ its news J s₂
/-- for i, c in enumerate(xs) over a list that stood ahead of the call; the turns make nothing that lasts -/
theorem enum_old {elts : List Expr} {k : Nat} {pos : Pos} {l : Addr} {vs : List Value} {m₀ : Str → Option Value} {news : Led} (J : (Str → Option Value) → Nat → (Str → Option Value) → Prop)
    (hh : A.handled = none) (F : Fr h₀ env.locals s.heap m₀) (N : News h₀ env.locals s.heap news) (hl : h₀.IsList l vs.toArray) (start : J m₀ 0 m₀)
    (step : ∀ i v T t its h tk m, vs[i]? = some v → J m₀ i m → IsTup h T #[.int (i : Int) t, v] → Fr h₀ env.locals h m → News h₀ env.locals h (its ++ news) →
      wpAny (model prog w) A (assign (.Tuple elts k pos) env (.ref T)) (fun _ s₃ => wpAny (model prog w) A (execs body env) (EnumPost h₀ env.locals { s with heap := h, toks := tk } its news (J m₀ (i + 1)) Q) E s₃) E { s with heap := h, toks := tk })
    (done : ∀ m h tk, J m₀ vs.length m → Fr h₀ env.locals h m → News h₀ env.locals h news → Q .next { s with heap := h, toks := tk }) :
    wpAny (model prog w) A (call (.type "enumerate") [.ref l]) (fun xv s₁ => wpAny (model prog w) A (pyIter xv) (fun it s₂ => TurnsAt prog w A h₀ env (.Tuple elts k pos) body Q E it s₂) E s₁) E s := by
  have hls : s.heap.IsList l vs.toArray := hl.at fun o e => F.keep l o e
  obtain ⟨ol, hol, _⟩ := id hl
  have hlt0 : l < h₀.objs.size := Heap.lt_size hol
  have hlt : l < s.heap.objs.size := Heap.lt_size (F.keep _ _ hol)
  have hLs : env.locals < s.heap.objs.size := F.ns.lt
  refine call_enumerate_list hls fun h' hE hI hsz hk => ?_
  refine wpAny_pyIter_enum hE ?_
  have W := KTurns.ofWalksU (elts := elts) (k := k) (pos := pos) (WalksT.enumerate (prog := prog) (w := w) hh (s.heap.objs.size + 1) s.heap.objs.size l (Nat.succ_ne_self _) (ktu_ne 1 hlt) (Nat.ne_of_lt hlt) vs.toArray).toU
  have hlen : vs.toArray.size = vs.length := by simp
  rw [hlen] at W
  have hnew : ∀ b, b ∈ [s.heap.objs.size + 1, s.heap.objs.size] → h₀.get? b = none := fun b hb => by
    have hb' : b = s.heap.objs.size + 1 ∨ b = s.heap.objs.size := by simpa using hb
    rcases hb' with rfl | rfl
    · exact ktu_new F (Nat.le_add_right _ _)
    · exact ktu_new F (Nat.le_refl _)
  have hoff : ∀ p ∈ news, p.1 ∉ [s.heap.objs.size + 1, s.heap.objs.size] := fun p hp hI' => by
    have hb' : p.1 = s.heap.objs.size + 1 ∨ p.1 = s.heap.objs.size := by simpa using hI'
    have hlp := Heap.lt_size (N p hp).1
    rcases hb' with e | e
    · exact ktu_ne 1 hlp e
    · exact Nat.ne_of_lt hlp e
  refine ⟨_, _, _, vs.length, _, _, _, m₀, news, fun i m₁ news₁ => news₁ = news ∧ J m₀ i m₁, rfl, W, ?_, hnew, hoff, ⟨⟨.none, hE⟩, hI, hls.at fun o e => hk l o e⟩, F.keeps hk, N.grown hk, ⟨rfl, start⟩, ?_, ?_⟩
  · intro hI'
    have hb' : env.locals = s.heap.objs.size + 1 ∨ env.locals = s.heap.objs.size ∨ env.locals = l := by simpa using hI'
    rcases hb' with e | e | e
    · exact ktu_ne 1 hLs e
    · exact Nat.ne_of_lt hLs e
    · exact absurd (Nat.lt_of_lt_of_le hlt0 F.above) (by rw [e]; exact Nat.lt_irrefl _)
  · rintro i v m₁ news₁ h₁ tk₁ own hin ⟨T, vals, rfl, ⟨t, x, hx, rfl⟩, hT⟩ ⟨rfl, hJ⟩ _ hown hget hall hst₁ F₁ N₁
    refine wpAny_mono (step i x T t own h₁ tk₁ m₁ (by simpa using hx) hJ hT F₁ N₁) (fun _ s₃ h₃ => wpAny_mono h₃ (fun f s₂ p => ?_) fun _ _ e => e) fun _ _ e => e
    have fin : EnumEnd h₀ env.locals { s with heap := h₁, toks := tk₁ } own news₁ (J m₀ (i + 1)) s₂ → LoopStepU h₀ env.locals [s.heap.objs.size + 1, s.heap.objs.size] own (fun m₂ news₂ => news₂ = news₁ ∧ J m₀ (i + 1) m₂) { s with heap := h₁, toks := tk₁ } .next s₂ := by
      rintro ⟨h', tk, m', e, F', N', hj⟩
      exact ⟨rfl, h', tk, m', news₁, e, F', N', hoff, rfl, hj⟩
    cases f with
    | ret v => exact .ret p
    | brk => exact .brk p
    | next => exact .next (fin p)
    | cont => exact .cont (fin p)
  · rintro h' tk m' news' F' N' _ ⟨rfl, hj⟩
    exact done m' h' tk hj F' N'
end
theorem words_07_1 : True := by
  (k_with "my EnumPost" => (dsimp only [EnumPost]))
  trivial
/-- how far two lists of texts go together -/
noncomputable def cpl : List Str → List Str → Nat
  | x :: xs, y :: ys => if (x != y) = true then 0 else cpl xs ys + 1
  | _, _ => 0
theorem kitAt_old {h₀ h : Heap} {L a : Addr} {m : Str → Option Value} {its : Array Value} (F : Fr h₀ L h m) (hl : h₀.IsList a its) : KitAt a "list" h := by
  obtain ⟨o, h1, h2, _⟩ := hl
  exact ⟨o, F.keep _ _ h1, h2⟩
theorem words_08_1 : True := by
  (k_with "my call builtin:isinstance" => (k_here; (with_reducible show wpAny _ _ (call _ [Value.ref _, Value.ref _]) _ _ _); k_dflt (refine' kia_tup kitx_list ?X_q25 ?H_q25 ?t_q25 ?e_q25 ?x_q25 ?_; (case X_q25 => k_in); (case H_q25 => exact kitAt_old (by k_asm) (by assumption)); (case t_q25 => exact News.get (by k_asm) (by k_mem)); (case e_q25 => exact rfl); (case x_q25 => intro e_r; cases e_r); k_whole; intro _)))
  (k_with "my exec For Tuple Call cons nil" => (k_here; (with_reducible show wpAny _ _ (exec _ (envOf (Str.ofString "commonprefix") _ _ _ _)) _ _ _); (rename Fr _ _ _ _ => lF_p); (with_unfolding_all refine' For_turns lF_p ?_; k_whole)))
  (k_with "my call type:enumerate" => ((with_reducible show wpAny _ (Around.deeper _ (envOf (Str.ofString "commonprefix") _ _ _ _)) (call _ _) _ _ _); refine Stop.out ?_))
  trivial
noncomputable def CprJ (u v : List Str) (m₀ : Str → Option Value) (i : Nat) (m : Str → Option Value) : Prop := Keep (Str.ofString "i") [] [Str.ofString "c"] m₀ m ∧ i + cpl (u.drop i) (v.drop i) = cpl u v
theorem c_commonprefix (w : World) (l a b p q : Addr) (vs ws us zs : List Value) (xs ys u v : List Str) (hx : StrsAre vs xs) (hy : StrsAre ws ys) (hu : StrsAre us u) (hv : StrsAre zs v)
    (ep : p = if lexF ltS (decide (ys.length < xs.length)) ys xs = true then b else a) (eq : q = if lexF gtS (decide (ys.length > xs.length)) ys xs = true then b else a) (hn : cpl u v < u.length → cpl u v < v.length) (hz : u.length ≤ 100) :
    PCon w 101 2 [Value.ref l] (fun h => h.IsList l #[.ref a, .ref b] ∧ h.IsList a vs.toArray ∧ h.IsList b ws.toArray ∧ h.IsList p us.toArray ∧ h.IsList q zs.toArray)
      (fun h r tl => tl = [] ∧ ∃ c cs, r = .ref c ∧ h.IsList c (List.toArray cs) ∧ cs.length = cpl u v) := by
  walk_at "con enter"
  rename Heap.IsList _ _ _ ∧ _ => hpre
  obtain ⟨hl, ha, hb, hp, hq⟩ := hpre
  k_steps
  unfold Stop
  rename Fr _ _ _ _ => lF
  rename News _ _ _ _ => lN
  with_unfolding_all refine' enum_old (CprJ u v) (by rfl) lF lN hp ?start ?step ?done
  case start => exact ⟨.refl (fun _ h => nomatch h), by simp⟩
  case step =>
    clear lF lN
    rintro i x T t its h tk m e ⟨hk, hi⟩ hT F' N'
    obtain ⟨o, rfl⟩ := hk.lam0
    obtain ⟨c, ct, rfl, hc⟩ := hu.item _ _ e
    have hiu : i < u.length := by
      rcases Nat.lt_or_ge i u.length with h | h
      · exact h
      · rw [List.getElem?_eq_none h] at hc; cases hc
    have hc' : u[i] = c := by rw [List.getElem?_eq_getElem hiu] at hc; exact Option.some.inj hc
    have hiv : i < v.length := by
      rcases Nat.lt_or_ge i v.length with h | h
      · exact h
      · rw [List.drop_eq_nil_of_le h, List.drop_eq_getElem_cons hiu, cpl] at hi
        have := hn (by omega)
        omega
        nofun
    have hdu : u.drop i = c :: u.drop (i + 1) := by rw [← hc']; exact List.drop_eq_getElem_cons hiu
    have hdv : v.drop i = v[i] :: v.drop (i + 1) := List.drop_eq_getElem_cons hiv
    have hg : v.getD (i : Int).toNat Str.empty = v[i] := by simp [List.getD_eq_getElem?_getD, hiv]
    k_steps
    all_goals (rename (_ != _) = _ => hne)
    · have h0 : cpl (u.drop i) (v.drop i) = 0 := by rw [hdu, hdv, cpl, if_pos (by rw [← hg]; exact hne)]
      rename PRet _ _ _ => hret
      (rename Fr _ _ _ _ => lF); (rename News _ _ _ _ => lN)
      refine hret _ [] _ _ lF.keep (fun _ h => nomatch h) ⟨rfl, _, (slicePick us.toArray none (some (i : Int)) none).toList, rfl, ?_, ?_⟩
      · rw [Array.toArray_toList]
        exact lN.isList (.head _)
      · have hb' : sliceBounds none (some (i : Int)) none us.toArray.size = (((0 : Nat) : Int), ((i : Nat) : Int), 1) := by
          rw [kms_bounds]
          have hl' := hu.length
          simp [kms_lo, kms_hi, List.size_toArray, hl']
          split <;> omega
        rw [kmk_pick_nat _ hb']
        have hl' := hu.length
        simp
        omega
    · (rename Fr _ _ _ _ => lF); (rename News _ _ _ _ => lN)
      refine ⟨_, _, _, rfl, lF, lN, ⟨(fun _ h => nomatch h), fun z h1 _ h3 => ?_⟩, ?_⟩
      · simp only [List.contains_cons, List.contains_nil, Bool.or_false, beq_eq_false_iff_ne, ne_eq] at h3
        simp [h1, h3]
      · rw [hdu, hdv, cpl, if_neg (by rw [← hg, hne]; exact Bool.false_ne_true)] at hi
        omega
  case done =>
    clear lF lN
    rintro m h tk ⟨hk, hi⟩ F' N'
    obtain ⟨o, rfl⟩ := hk.lam0
    have hl' := hu.length
    have hfin : us.length = cpl u v := by
      rw [List.drop_eq_nil_of_le (by omega), cpl] at hi
      · omega
      · nofun
    k_steps
    all_goals walk_at "con end"
    rename PRet _ _ _ => hret
    (rename Fr _ _ _ _ => lF)
    exact hret _ [] _ _ lF.keep (fun _ h => nomatch h) ⟨rfl, p, us, rfl, hp.at fun o e => lF.keep _ _ e, hfin⟩

/-- what commonprefix gives of two lists of texts is n long -/
noncomputable def CprOK (xs ys : List Str) (n : Nat) : Prop :=
  cpl (if lexF ltS (decide (ys.length < xs.length)) ys xs = true then ys else xs) (if lexF gtS (decide (ys.length > xs.length)) ys xs = true then ys else xs) = n ∧
  (n < (if lexF ltS (decide (ys.length < xs.length)) ys xs = true then ys else xs).length → n < (if lexF gtS (decide (ys.length > xs.length)) ys xs = true then ys else xs).length)
theorem c_cpref (w : World) (l a b : Addr) (vs ws : List Value) (xs ys : List Str) (n : Nat) (hx : StrsAre vs xs) (hy : StrsAre ws ys) (hn : CprOK xs ys n) (h1 : xs.length ≤ 100) (h2 : ys.length ≤ 100) :
    PCon w 101 2 [Value.ref l] (fun h => h.IsList l #[.ref a, .ref b] ∧ h.IsList a vs.toArray ∧ h.IsList b ws.toArray)
      (fun h r tl => tl = [] ∧ ∃ c cs, r = .ref c ∧ h.IsList c (List.toArray cs) ∧ cs.length = n) := by
  intro p loose mean mg mb dp un gd env outer base s R B X T hd hu hpre hret
  obtain ⟨hl, ha, hb⟩ := hpre
  have hn1 := hn.1
  refine c_commonprefix w l a b _ _ vs ws (if lexF ltS (decide (ys.length < xs.length)) ys xs = true then ws else vs) (if lexF gtS (decide (ys.length > xs.length)) ys xs = true then ws else vs) xs ys _ _ hx hy ?_ ?_ rfl rfl (hn1.symm ▸ hn.2) ?_ p loose mean mg mb dp un gd env outer base s R B X T hd hu ⟨hl, ha, hb, ?_, ?_⟩ (hn1 ▸ hret)
  · split <;> assumption
  · split <;> assumption
  · split <;> assumption
  · split <;> assumption
  · split <;> assumption
theorem strsAre_values : ∀ l : List (Str × Tok), StrsAre (strValues l) (l.map (·.1))
  | [] => .nil
  | p :: r => .cons p.1 p.2 (strsAre_values r)
theorem c_cpref' (w : World) (l a b : Addr) (l1 l2 : List (Str × Tok)) (X Y xs ys : List Str) (n : Nat) (hn : CprOK xs ys n) (hX : X = xs) (hY : Y = ys) (hx : l1.map (·.1) = X) (hy : l2.map (·.1) = Y) (h1 : xs.length ≤ 100) (h2 : ys.length ≤ 100) :
    PCon w 101 2 [Value.ref l] (fun h => h.IsList l #[.ref a, .ref b] ∧ h.IsList a (strValues l1).toArray ∧ h.IsList b (strValues l2).toArray)
      (fun h r tl => tl = [] ∧ ∃ c cs, r = .ref c ∧ h.IsList c (List.toArray cs) ∧ cs.length = n) := by
  subst hX hY hx hy
  exact c_cpref w l a b _ _ _ _ n (strsAre_values l1) (strsAre_values l2) hn h1 h2
theorem words_08_2 : True := by
  (k_with "my call ref" => (k_here; (with_reducible show wpAny _ _ (call (Value.ref 101) _) _ _ _); k_dflt (refine' PCon.use (c_cpref' _ _ _ _ _ _ _ _ _ _ _ (by assumption) (by assumption) (by assumption) (by assumption) (by assumption) (by omega) (by omega)) ?B_q ?F_q ?X_q ?N_q ?T_q ?hf_q ?hk_q ?hd_q ?hu_q ?hp_q28 ?_; (case hp_q28 => exact ⟨News.isList (by k_asm) (by k_mem), News.isList (by k_asm) (by k_mem), News.isList (by k_asm) (by k_mem)⟩); walk_at "con use"; intro r9_r tl9_r h9_r tk9_r S9_r F9_r N9_r D9_r O9_r; obtain ⟨e9_r, c9_r, cs9_r, e9_p, l9_r, n9_r⟩ := O9_r; subst e9_r; subst e9_p; clear D9_r S9_r; (try simp only [List.nil_append] at N9_r); (try dsimp only); (try k_fold))))
  trivial
theorem len_known {prog : Program} {w : World} {A : Around} {E : Value → Shared → Prop} {s : Shared} {Q : Value → Shared → Prop} {l : Addr} {cs : List Value} {n : Nat} (hl : s.heap.IsList l cs.toArray) (hn : cs.length = n) (hz : n ≤ 1000000)
    (h : ∀ t tk, Q (.int (n : Int) t) { s with toks := tk }) : wpAny (model prog w) A (call (.builtin "len") [.ref l]) Q E s := by
  refine PyProof.Rows.len_list hl (by simp; omega) ?_
  have e : ((cs.toArray.size : Nat) : Int) = n := by simp [hn]
  rw [e]
  exact h _ _
theorem strValues_len {l : List (Str × Tok)} {X ds : List Str} (e : l.map (·.1) = X) (e2 : X = ds) : (strValues l).length = ds.length := by rw [← e2, ← e]; simp [strValues]
section
variable {prog : Program} {w : World} {A : Around} {E : Value → Shared → Prop} {s : Shared} {h₀ : Heap} {L l b : Addr} {m : Str → Option Value} {news : Led} {vs ws : List Value} {v : Value} {Q : Value → Shared → Prop}
theorem isList_old {h : Heap} {its : Array Value} (F : Fr h₀ L h m) (hl : h₀.IsList l its) : h.IsList l its := hl.at fun o e => F.keep l o e
theorem add_own (F : Fr h₀ L s.heap m) (N : News h₀ L s.heap news) (hl : s.heap.IsList l vs.toArray) (hb : s.heap.IsList b ws.toArray) (h1 : vs.length ≤ 1000000) (h2 : ws.length ≤ 1000000)
    (h : ∀ D h', Fr h₀ L h' m → News h₀ L h' ((D, W.listOf (vs ++ ws).toArray 0) :: news) → (∀ p ∈ news, p.1 < D) → Q (.ref D) { s with heap := h' }) :
    wpAny (model prog w) A (binaryOp .Add (.ref l) (.ref b)) Q E s :=
  add_lists (hsz := by unfold sizeLine; omega) F N hl hb fun h' F' N' => h _ h' F' N' fun p hp => Heap.lt_size (N p hp).1
theorem flat_rep (k : Nat) : (List.replicate k [v]).flatten = List.replicate k v := by
  induction k with
  | zero => rfl
  | succ k ih => rw [List.replicate_succ, List.flatten_cons, ih]; rfl
theorem mul_own {x : Int} {u : Tok} (F : Fr h₀ L s.heap m) (N : News h₀ L s.heap news) (hl : s.heap.IsList l #[v]) (h1 : -(2 ^ 63 : Int) ≤ x) (h2 : x ≤ 256)
    (h : ∀ D h', Fr h₀ L h' m → News h₀ L h' ((D, W.listOf (List.replicate x.toNat v).toArray 0) :: news) → (∀ p ∈ news, p.1 < D) → Q (.ref D) { s with heap := h' }) :
    wpAny (model prog w) A (binaryOp .Mult (.ref l) (.int x u)) Q E s :=
  KMa.mul (vs := [v]) F N hl h1 (by omega) (by simp; omega) (flat_rep _) h
theorem pick_from (i : Nat) : kms_pick vs.toArray.toList (some (i : Int)) none = vs.drop i := by
  show (vs.drop (kms_lo _ _)).take (kms_hi _ _ - kms_lo _ _) = _
  have e1 : kms_lo (some (i : Int)) vs.length = min i vs.length := by simp [kms_lo]; omega
  have e2 : kms_hi none vs.length = vs.length := rfl
  rw [e1, e2, kmk_drop_min, List.take_of_length_le]
  rw [List.length_drop]; omega
theorem pick_upto (i : Nat) : kms_pick vs.toArray.toList none (some (i : Int)) = vs.take i := by
  show (vs.drop (kms_lo _ _)).take (kms_hi _ _ - kms_lo _ _) = _
  have e1 : kms_lo none vs.length = 0 := rfl
  have e2 : kms_hi (some (i : Int)) vs.length = min i vs.length := by simp [kms_hi]; omega
  rw [e1, e2, List.drop_zero, Nat.sub_zero, kmk_take_min]
theorem truthy_long {Q : Bool → Shared → Prop} (hl : s.heap.IsList l vs.toArray) (h0 : vs.length ≠ 0) (h1 : vs.length ≤ 1000000) (h : ∀ tk, Q true { s with toks := tk }) : wpAny (model prog w) A (truthy (.ref l)) Q E s := by
  refine wpAny_truthy_list hl (by simp; omega) ?_
  have e : (!vs.toArray.isEmpty) = true := by
    cases vs with
    | nil => exact absurd rfl h0
    | cons a r => simp
  rw [e]; exact h _
end
theorem rel_ne {l : List (Str × Tok)} {X cs : List Str} {v : Value} {k n : Nat} (e : l.map (·.1) = X) (e2 : X = cs) (h : k + (cs.length - n) ≠ 0) : (List.replicate k v ++ (strValues l).drop n).length ≠ 0 := by
  rw [List.length_append, List.length_drop, strValues_len e e2, List.length_replicate]; exact h
theorem rel_le {l : List (Str × Tok)} {X cs : List Str} {v : Value} {k n : Nat} (e : l.map (·.1) = X) (e2 : X = cs) (h : k ≤ 1000) (h2 : cs.length ≤ 1000) : (List.replicate k v ++ (strValues l).drop n).length ≤ 1000000 := by
  rw [List.length_append, List.length_drop, strValues_len e e2, List.length_replicate]; omega
theorem strsAre_rep {c : Str} {t : Tok} : ∀ k, StrsAre (List.replicate k (.str c t)) (List.replicate k c)
  | 0 => .nil
  | k + 1 => .cons c t (strsAre_rep k)
theorem StrsAre.drop' {vs : List Value} {ys : List Str} (h : StrsAre vs ys) : ∀ n, StrsAre (vs.drop n) (ys.drop n) := by
  induction h with
  | nil => intro n; cases n <;> exact .nil
  | cons c t h ih => intro n; cases n with
    | zero => exact .cons c t h
    | succ n => exact ih n
theorem rel_strs {l : List (Str × Tok)} {X cs : List Str} {c : Str} {t : Tok} {k n : Nat} (e : l.map (·.1) = X) (e2 : X = cs) : StrsAre (List.replicate k (.str c t) ++ (strValues l).drop n) (List.replicate k c ++ cs.drop n) := by
  subst e2 e
  exact (strsAre_rep k).append' (StrsAre.drop' (strsAre_values l) n)
theorem words_09_1 : True := by
  (k_with "my own list" => first | assumption | exact News.isList (by k_asm) (by k_mem) | exact isList_old (by k_asm) (by assumption))
  (k_with "my own size" => first | omega | assumption | (rw [List.length_drop, strValues_len (by assumption) (by assumption)]; omega) | (rw [strValues_len (by assumption) (by assumption)]; omega) | (rw [List.length_replicate]; omega) | exact rel_ne (by assumption) (by assumption) (by omega) | exact rel_le (by assumption) (by assumption) (by omega) (by omega))
  (k_with "my call builtin:len" => (k_here; (with_reducible show wpAny _ _ (call (Value.builtin "len") [Value.ref _]) _ _ _); k_dflt (refine' len_known ?l_q31 ?n_q31 ?z_q31 ?_; (case l_q31 => assumption); (case n_q31 => assumption); (case z_q31 => omega)); intro _ _))
  (k_with "my call builtin:len" => (k_here; (with_reducible show wpAny _ _ (call (Value.builtin "len") [Value.ref _]) _ _ _); k_dflt (refine' len_known ?l_q32 ?n_q32 ?z_q32 ?_; (case l_q32 => exact News.isList (by k_asm) (by k_mem)); (case n_q32 => exact strValues_len (by assumption) (by assumption)); (case z_q32 => omega)); intro _ _))
  trivial
theorem words_10_1 : True := by
  (k_with "my binaryOp Mult ref int" => (k_here; (with_reducible show wpAny _ (Around.deeper _ (envOf (Str.ofString "relpath") _ _ _ _)) (binaryOp Operator.Mult (Value.ref _) (Value.int _ _)) _ _ _); k_dflt (refine' mul_own ?F_q33 ?N_q33 ?l_q33 ?a_q33 ?b_q33 ?_; (case F_q33 => k_asm); (case N_q33 => k_asm); (case l_q33 => walk_at "own list"); (case a_q33 => omega); (case b_q33 => omega)); intro D_p h_p F_p N_p l1_r; (try k_lt l1_r); (try k_sweep)))
  (k_with "my binaryOp Add ref ref" => (k_here; (with_reducible show wpAny _ (Around.deeper _ (envOf (Str.ofString "relpath") _ _ _ _)) (binaryOp Operator.Add (Value.ref _) (Value.ref _)) _ _ _); k_dflt (refine' add_own ?F_q34 ?N_q34 ?l_q34 ?r_q34 ?a_q34 ?b_q34 ?_; (case F_q34 => k_asm); (case N_q34 => k_asm); (case l_q34 => walk_at "own list"); (case r_q34 => walk_at "own list"); (case a_q34 => walk_at "own size"); (case b_q34 => walk_at "own size")); intro D_p h_p F_p N_p l1_r; (try k_lt l1_r); (try k_sweep)))
  (k_with "my subscriptTail Name Slice ref ref" => (k_here; (with_reducible show wpAny _ (Around.deeper _ (envOf (Str.ofString "relpath") _ _ _ _)) (subscriptTail _ (PySem.Expr.Slice _ _ none _) (Value.ref _) (Value.ref _)) _ _ _); k_dflt (refine' kms_slice_lit ?F_q35 ?N_q35 ?l_q35 ?p_q35 ?q_q35 ?e_q35 ?_ ?s_q35 ?t_q35 ?z_q35; (case F_q35 => k_asm); (case N_q35 => k_asm); (case l_q35 => walk_at "own list"); (case p_q35 => kmk_part); (case q_q35 => kmk_part); (case e_q35 => exact pick_from _); (case s_q35 => with_unfolding_all rfl); (case t_q35 => kmk_pure); (case z_q35 => (rw [List.size_toArray, strValues_len (by assumption) (by assumption)]; unfold sizeLine; omega))); intro D_p h_p F_p N_p l1_r; (try k_lt l1_r); (try k_sweep)))
  (k_with "my truthy ref" => (k_here; (with_reducible show wpAny _ (Around.deeper _ (envOf (Str.ofString "relpath") _ _ _ _)) (PySem.truthy (Value.ref _)) _ _ _); refine' truthy_long ?l_q36 ?a_q36 ?b_q36 ?_; (case l_q36 => walk_at "own list"); (case a_q36 => walk_at "own size"); (case b_q36 => walk_at "own size"); intro _))
  (k_with "my call builtin:str.join" => (k_here; (with_reducible show wpAny _ (Around.deeper _ (envOf (Str.ofString "relpath") _ _ _ _)) (call (Value.builtin _) [Value.str _ _, Value.ref _]) _ _ _); k_dflt (refine' join_listW (News.isList (by k_asm) (by k_mem)) (rel_strs (by assumption) (by assumption)) (by decide +kernel) (by assumption) ?_); intro _ _))
  trivial
theorem c_relpath (w : World) (x y zx zy : Str) (t t' : Tok) (cs ds : List Str) (n : Nat) (hx : AbsOK x zx cs) (hy : AbsOK y zy ds) (hn : CprOK ds cs n) (hnn : n ≤ ds.length) (hne : (ds.length - n) + (cs.length - n) ≠ 0)
    (hw : ((List.replicate (ds.length - n) (Str.ofString "..") ++ cs.drop n).map (·.length)).sum + (List.replicate (ds.length - n) (Str.ofString "..") ++ cs.drop n).length ≤ 1048576) :
    PCon w 158 5 [Value.str x t, Value.str y t'] (fun _ => True) (OutV fun t => .str (Txt.join (Str.ofString "/") (List.replicate (ds.length - n) (Str.ofString "..") ++ cs.drop n)) t) := by
  have hx1 := hx.len
  have hx2 := hx.pos
  have hx3 := hx.zl
  have hx4 := hx.tl
  have hx5 := hx.tp
  have hx6 := hx.ts
  have hx7 := hx.cl
  have hy1 := hy.len
  have hy2 := hy.pos
  have hy3 := hy.zl
  have hy4 := hy.tl
  have hy5 := hy.tp
  have hy6 := hy.ts
  have hy7 := hy.cl
  have ekk : ((ds.length : Int) - (n : Int)).toNat = ds.length - n := by omega
  rw [← ekk] at hw ⊢
  walk_at "con enter"
  k_steps
  all_goals walk_at "con v"
/-- from the way zy to the way zx lead these steps -/
structure RelOK (x y : Str) (ps : List Str) (cs ds : List Str) (n : Nat) (zx zy : Str) : Prop where
  hx : AbsOK x zx cs
  hy : AbsOK y zy ds
  hc : CprOK ds cs n
  hn : n ≤ ds.length
  he : (ds.length - n) + (cs.length - n) ≠ 0
  hw : ((List.replicate (ds.length - n) (Str.ofString "..") ++ cs.drop n).map (·.length)).sum + (List.replicate (ds.length - n) (Str.ofString "..") ++ cs.drop n).length ≤ 1048576
  hl : (Txt.join (Str.ofString "/") (List.replicate (ds.length - n) (Str.ofString "..") ++ cs.drop n)).length ≤ 100
  hs : Txt.split (Txt.join (Str.ofString "/") (List.replicate (ds.length - n) (Str.ofString "..") ++ cs.drop n)) (Str.ofString "/") = ps
theorem c_rel (w : World) (x y : Str) (t t' : Tok) (cs ds ps : List Str) (n : Nat) (zx zy : Str) (h : RelOK x y ps cs ds n zx zy) : PCon w 158 5 [Value.str x t, Value.str y t'] (fun _ => True) (OutV fun t => .str (Txt.join (Str.ofString "/") (List.replicate (ds.length - n) (Str.ofString "..") ++ cs.drop n)) t) :=
  c_relpath w x y zx zy t t' cs ds n h.hx h.hy h.hc h.hn h.he h.hw
theorem words_10_2 : True := by
  (k_with "my call ref" => (k_here; (with_reducible show wpAny _ _ (call (Value.ref 158) _) _ _ _); k_dflt (refine' PCon.useV (c_rel _ _ _ _ _ _ _ _ _ _ _ (by assumption)) ?B_q ?F_q ?X_q ?N_q ?T_q ?hf_q ?hk_q ?hd_q ?hu_q ?hp_q ?_; walk_at "con use v")))
  trivial
noncomputable abbrev Costs (w : World) (h : Heap) (d : Addr) (c : List (Str × Int)) : Prop := StrTab PySem.Challenge.rw_kt0070_01.row.prog w h d (kdpD c)
/-- the places whose letters a walk along the parts counts, and where it ends -/
noncomputable def stepKeys : Str → List Str → List Str
  | _, [] => []
  | way, p :: ps => if (p == Str.ofString "..") = true then way :: stepKeys (dnS way) ps else joinS way p :: stepKeys (joinS way p) ps
noncomputable def stepEnd : Str → List Str → Str
  | way, [] => way
  | way, p :: ps => if (p == Str.ofString "..") = true then stepEnd (dnS way) ps else stepEnd (joinS way p) ps
/-- no step of the walk fails -/
noncomputable def StepOK (ks : List Str) : Str → List Str → Prop
  | way, [] => way.length ≤ 100
  | way, p :: ps => way.length ≤ 100 ∧ p.length ≤ 100 ∧ if (p == Str.ofString "..") = true then way ∈ ks ∧ StepOK ks (dnS way) ps else StepOK ks (joinS way p) ps
noncomputable def costSum (c : List (Str × Int)) (ks : List Str) : Int := (ks.map fun k => kdpLook c k 0).sum
noncomputable def CostJ (c : List (Str × Int)) (ks : List Str) (goal : Str) (total : Int) (m₀ : Str → Option Value) (news₀ : Led) (r : List Value) (m : Str → Option Value) (news : Led) : Prop :=
  ∃ (l : List (Str × Tok)) (way : Str) (tw tc : Tok) (cost : Int), r = strValues l ∧ news = news₀ ∧ Keep (Str.ofString "part") [(Str.ofString "way", .str way tw), (Str.ofString "cost", .int cost tc)] [] m₀ m ∧
    StepOK ks way (l.map (·.1)) ∧ stepEnd way (l.map (·.1)) = goal ∧ cost + costSum c (stepKeys way (l.map (·.1))) = total
theorem Keep.refl2 {x y y2 : Str} {v v2 : Value} {tmp : List Str} {m₀ : Str → Option Value} (h : m₀ y = some v) (h2 : m₀ y2 = some v2) : Keep x [(y, v), (y2, v2)] tmp m₀ m₀ := .refl fun p hp => by
  simp only [List.mem_cons, List.not_mem_nil, or_false] at hp
  rcases hp with rfl | rfl
  · exact h
  · exact h2
theorem Keep.mk2 {x y y2 : Str} {v v2 : Value} {tmp : List Str} {m₀ m : Str → Option Value} (h : m y = some v) (h2 : m y2 = some v2) (h3 : ∀ z, z ≠ x → z ≠ y → z ≠ y2 → tmp.contains z = false → m z = m₀ z) : Keep x [(y, v), (y2, v2)] tmp m₀ m := by
  refine ⟨fun p hp => ?_, fun z a b c => ?_⟩
  · simp only [List.mem_cons, List.not_mem_nil, or_false] at hp
    rcases hp with rfl | rfl
    · exact h
    · exact h2
  · simp only [List.map_cons, List.map_nil, List.contains_cons, List.contains_nil, Bool.or_false, Bool.or_eq_false_iff, beq_eq_false_iff_ne, ne_eq] at b
    exact h3 z a b.1 b.2 c
theorem kdpHas_of {c : List (Str × Int)} {k : Str} (h : k ∈ c.map (·.1)) : kdpHas c k = true := by
  obtain ⟨p, hp, rfl⟩ := List.mem_map.mp h
  exact List.any_eq_true.mpr ⟨p, hp, decide_eq_true rfl⟩
theorem words_11_1 : True := by
  (k_with "my costs" => first | assumption | ((rename TabAt _ _ _ _ _ => tAb_r); exact tAb_r.ofFr (by k_asm)))
  (k_with "my subscriptTail" => ((with_reducible show wpAny _ (Around.deeper _ (envOf (Str.ofString "_law_cost") _ _ _ _)) (subscriptTail _ _ (Value.ref _) (Value.str _ _)) _ _ _); refine' kdp_item ?a_q40 ?b_q40 ?_; (case a_q40 => walk_at "costs"); (case b_q40 => assumption); intro _))
  (k_with "my call builtin:dict.get" => ((with_reducible show wpAny _ (Around.deeper _ (envOf (Str.ofString "_law_cost") _ _ _ _)) _ _ _ _); refine' kdp_get2 ?a_q41 ?_; (case a_q41 => walk_at "costs"); intro _))
  trivial
theorem c_cost (w : World) (d : Addr) (c : List (Str × Int)) (start goal : Str) (t t' : Tok) (cs ds ps : List Str) (n : Nat) (zx zy : Str) (total : Int) (h : RelOK (goal ++ Str.ofString "/.") (start ++ Str.ofString "/.") ps cs ds n zx zy)
    (h1 : start.length ≤ 100) (h2 : goal.length ≤ 100) (h3 : StepOK (c.map (·.1)) start ps) (h4 : stepEnd start ps = goal) (h5 : costSum c (stepKeys start ps) = total) :
    PCon w 259 7 [Value.ref d, Value.str start t, Value.str goal t'] (fun h => Costs w h d c) (OutV fun t => .int total t) := by
  have hl := h.hl
  have hs := h.hs
  walk_at "con enter"
  k_steps
  rename Fr _ _ _ _ => lF
  rename News _ _ _ _ => lN
  with_unfolding_all refine' iter_own (CostJ c (c.map (·.1)) goal total) (by rfl) lF lN (by k_mem) (by rfl) (by rfl) ?start ?step ?done
  case start =>
    rename _ = Txt.split _ _ => hl1
    have hl2 := hl1.trans hs
    refine' ⟨_, start, ?tw, ?tc, 0, rfl, rfl, Keep.refl2 ?a ?b, ?_, ?_, ?_⟩
    case a => exact rfl
    case b => exact rfl
    · rw [hl2]; exact h3
    · rw [hl2]; exact h4
    · rw [hl2, h5]; omega
  case step =>
    clear lF lN
    rintro I v r m news it h tk l1 ⟨l, way, tw, tc, cost, e1, rfl, hk, e3, e4, e5⟩ hc F' N'
    k_lt l1
    obtain ⟨u, rfl⟩ := hk.lam2
    cases l with
    | nil => cases e1
    | cons p l' =>
      obtain ⟨p, pt⟩ := p
      obtain ⟨rfl, rfl⟩ : v = .str p pt ∧ r = strValues l' := by simpa [strValues] using e1
      obtain ⟨g1, g2, g3⟩ := e3
      rw [List.map_cons, stepEnd] at e4
      rw [List.map_cons, stepKeys] at e5
      dsimp only at e4 e5 g2 g3
      cases hp : (p == Str.ofString "..") with
      | true =>
        rw [if_pos hp] at g3 e4 e5
        obtain ⟨g3, g4⟩ := g3
        have g5 := kdpHas_of g3
        k_steps
        refine' ⟨l', _, ?tw1, ?tc1, ?tt1, rfl, rfl, Keep.mk2 ?a1 ?b1 ?c1, g4, e4, ?d1⟩
        case a1 => exact rfl
        case b1 => exact rfl
        case c1 => intro z z1 z2 z3 _; simp [z1, z2, z3]
        case d1 => rw [← e5]; simp only [costSum, List.map_cons, List.sum_cons]; omega
      | false =>
        rw [if_neg (by rw [hp]; exact Bool.false_ne_true)] at g3 e4 e5
        k_steps
        refine' ⟨l', _, ?tw2, ?tc2, ?tt2, rfl, rfl, Keep.mk2 ?a2 ?b2 ?c2, g3, e4, ?d2⟩
        case a2 => exact rfl
        case b2 => exact rfl
        case c2 => intro z z1 z2 z3 _; simp [z1, z2, z3]
        case d2 => rw [← e5]; simp only [costSum, List.map_cons, List.sum_cons]; omega
  case done =>
    clear lF lN
    rintro m news h tk ⟨l, way, tw, tc, cost, e1, rfl, hk, e3, e4, e5⟩ F' N'
    obtain ⟨u, rfl⟩ := hk.lam2
    cases l with
    | cons _ _ => cases e1
    | nil =>
    obtain rfl : way = goal := e4
    obtain rfl : cost = total := by simpa [costSum, stepKeys] using e5
    have hgg : (way == way) = true := by simp
    k_steps
    all_goals walk_at "con end"
    all_goals walk_at "con v"
theorem words_11_2 : True := by
  (k_with "my call ref" => (k_here; (with_reducible show wpAny _ _ (call (Value.ref 259) _) _ _ _); refine Stop.out ?_))
  trivial
/-! enumerate over a tuple that stood ahead of the call -/
section
variable {prog : Program} {w : World} {A : Around} {E : Value → Shared → Prop} {s : Shared}
theorem nextOf_tup_item {it l : Addr} {i : Nat} {items} {x : Value} {Q : Value → Shared → Prop} (hit : s.heap.IsTupleIter it l i) (hl : s.heap.IsTuple l items) (hx : items[i]? = some x)
    (hQ : ∀ h', h'.IsTupleIter it l (i + 1) → Heap.SameBut it s.heap h' → Q x { s with heap := h' }) : wpAny (model prog w) A (Builtin.SmallTypes.nextOf (.ref it)) Q E s := by
  obtain ⟨o, ho, hc, hd⟩ := id hit
  obtain ⟨ol, hol, _, nl, hdl⟩ := hl
  unfold Builtin.SmallTypes.nextOf
  refine wpAny_bind (wpAny_callSpecial?_slot (name := Str.ofString "__next__") hit.typeIs F.slot_tuple_iterator_next (wpAny_call_entry F.slot_tuple_iterator_next hit.typeIs F.entry_tuple_iterator_next ?_ (F.args_tuple_iterator_next_1 _)))
  show wpAny _ _ (field (.ref it) 0 >>= _) _ _ s
  refine wpAny_bind (wpAny_field ho hd (x := .ref l) rfl ?_)
  show wpAny _ _ (if (Value.ref l == Value.none) = true then _ else _) _ _ s
  rw [if_neg (show ¬ ((Value.ref l == Value.none) = true) from Bool.false_ne_true)]
  show wpAny _ _ (field (.ref it) 1 >>= _) _ _ s
  refine wpAny_bind (wpAny_field ho hd (x := .int i 0) rfl ?_)
  show wpAny _ _ (seqItems? (.ref l) >>= _) _ _ s
  refine wpAny_bind (wpAny_seqItems hol hdl ?_)
  simp only [Int.toNat_natCast, hx]
  refine wpAny_bind (wpAny_setField ho hd (by simp) (wpAny_pure ⟨x, rfl, wpAny_pure (hQ _ ?_ (Heap.SameBut.update ..))⟩))
  exact ⟨_, Heap.get?_update_self _ ho (Obj.isFreed_of_fields (Obj.data_mapFields hd _)), (Obj.cls_mapFields ..).trans hc, by
    rw [Obj.data_mapFields hd]; simp [rawInt]⟩
theorem nextOf_tup_end {it l : Addr} {i : Nat} {items} {Q : Value → Shared → Prop} (hh : A.handled = none) (hit : s.heap.IsTupleIter it l i) (hl : s.heap.IsTuple l items) (hx : items[i]? = none)
    (hE : ∀ h' e, Heap.ExtBut it s.heap h' → (∃ o, h'.get? e = some o ∧ o.cls = .type "StopIteration") → E (.ref e) { s with heap := h' }) : wpAny (model prog w) A (Builtin.SmallTypes.nextOf (.ref it)) Q E s := by
  obtain ⟨o, ho, hc, hd⟩ := id hit
  obtain ⟨ol, hol, _, nl, hdl⟩ := hl
  unfold Builtin.SmallTypes.nextOf
  refine wpAny_bind (wpAny_callSpecial?_slot (name := Str.ofString "__next__") hit.typeIs F.slot_tuple_iterator_next (wpAny_call_entry F.slot_tuple_iterator_next hit.typeIs F.entry_tuple_iterator_next ?_ (F.args_tuple_iterator_next_1 _)))
  show wpAny _ _ (field (.ref it) 0 >>= _) _ _ s
  refine wpAny_bind (wpAny_field ho hd (x := .ref l) rfl ?_)
  show wpAny _ _ (if (Value.ref l == Value.none) = true then _ else _) _ _ s
  rw [if_neg (show ¬ ((Value.ref l == Value.none) = true) from Bool.false_ne_true)]
  show wpAny _ _ (field (.ref it) 1 >>= _) _ _ s
  refine wpAny_bind (wpAny_field ho hd (x := .int i 0) rfl ?_)
  show wpAny _ _ (seqItems? (.ref l) >>= _) _ _ s
  refine wpAny_bind (wpAny_seqItems hol hdl ?_)
  simp only [Int.toNat_natCast, hx]
  refine wpAny_bind (wpAny_rule (wpAny_bind (wpAny_setField ho hd (by simp) ?_)))
  show wpAny _ _ (newExc (.type "StopIteration") [] >>= _) _ _ _
  refine wpAny_bind ?_
  simp only [newExc, newTuple]
  refine wpAny_bind (wpAny_newObj_type ?_ (by size_fits))
  refine wpAny_bind (m := firstArgMember _ _) (wpAny_of_eq (a := Value.none) (by first | rfl | (simp only [firstArgMember]; rfl)) ?_)
  refine wpAny_newObj_type ?_ (by size_fits)
  simp only [raiseNew]
  refine wpAny_bind (wpAny_handled ?_)
  first | rw [show A.in1.handled = none from hh] | rw [hh]
  refine wpAny_bind (wpAny_pure (wpAny_throw ?_))
  exact hE _ _ (((Heap.SameBut.update ..).extBut.push _).push _) ⟨_, Heap.get?_push_size _ rfl, rfl⟩
end
theorem draws_tup {prog : Program} {w : World} {A : Around} (hh : A.handled = none) (it l : Addr) (hne : l ≠ it) (items : Array Value) :
    Draws prog w A it [it, l] items.size (fun i v => items[i]? = some v) (fun i h => h.IsTupleIter it l i ∧ h.IsTuple l items) where
  live := fun _ _ st => let ⟨o, ho, _⟩ := st.1; ⟨o, ho⟩
  frame := fun _ _ _ st hk => ⟨st.1.at fun o e => hk it (by simp) o e, st.2.at fun o e => hk l (by simp) o e⟩
  item := fun i s Q E hi st hQ => by
    refine nextOf_tup_item st.1 st.2 (x := items[i]) (by simp [hi]) fun h' hit' hs' => ?_
    exact hQ _ h' s.toks (by simp [hi]) ⟨hit', st.2.extBut hs'.extBut hne⟩ hs'
  done := fun s Q E st hE => nextOf_tup_end hh st.1 st.2 (by simp) hE
theorem meets_enum_tup (l : Addr) (items : Array Value) (n : Nat) (dct : Option Addr) (sl : Array (Option Value)) :
    Meets (Builtin.«enumerate.__new__» ⟨[.type "enumerate", .ref l], []⟩) (fun _ R s => s.heap.get? l = some { cls := .type "tuple", dict := dct, data := .seq items n, slots := sl } ∧
      R (.ok (.ret (.ref (s.heap.push { cls := .type "tuple_iterator", data := .fields #[.ref l, .int 0 0] }).objs.size)))
        { s with heap := (s.heap.push { cls := .type "tuple_iterator", data := .fields #[.ref l, .int 0 0] }).push { cls := .type "enumerate", data := .fields #[.none, .bool false, .ref s.heap.objs.size, rawInt 0, .none, .none] } }) :=
  .of_wp fun prog w A R s h => by
    obtain ⟨hp, g, d, tk, os⟩ := s; obtain ⟨hl, h⟩ := h
    have hsub := sub_enumerate
    have hL : Heap.IsTuple (Shared.heap ⟨hp, g, d, tk, os⟩) l items := ⟨_, hl, rfl, n, rfl⟩
    wp_walk using wpAny_loadPart' hl
    refine wpAny_stack_any fun st => wpAny_pure ?_
    split
    · rename_i c _ _ _ _ _
      cases (c == Value.type "enumerate")
      · wp_walk using wpAny_loadPart' hl, wpAny_pyIter_tuple hL
        exact ⟨_, rfl, h⟩
      · wp_walk using wpAny_loadPart' hl, wpAny_pyIter_tuple hL
        exact ⟨_, rfl, h⟩
    · wp_walk using wpAny_loadPart' hl, wpAny_pyIter_tuple hL
      exact ⟨_, rfl, h⟩
section
variable {prog : Program} {w : World} {A : Around} {E : Value → Shared → Prop} {s : Shared}
theorem call_enum_tup {l : Addr} {items : Array Value} {Q : Value → Shared → Prop} (hL : s.heap.IsTuple l items)
    (h : ∀ h', IsEnum h' (s.heap.objs.size + 1) s.heap.objs.size 0 .none → h'.IsTupleIter s.heap.objs.size l 0 → h'.objs.size = s.heap.objs.size + 2 →
      (∀ b o, s.heap.get? b = some o → h'.get? b = some o) → Q (.ref (s.heap.objs.size + 1)) { s with heap := h' }) :
    wpAny (model prog w) A (call (.type "enumerate") [.ref l]) Q E s := by
  obtain ⟨⟨c, dct, dt, sl⟩, hl, hc, n, hd⟩ := hL
  replace hc : c = .type "tuple" := hc
  replace hd : dt = .seq items n := hd
  subst hc hd
  refine callType_new F.called_enumerate (by decide) (F.typeCall_enumerate_1 _) (F.newCall_enumerate_1 _) (fun obj => F.args_object_init_2 obj _) F.entry_enumerate_new
    (meets_enum_tup l items n dct sl) ⟨hl, ?_⟩
  have hz : (s.heap.push { cls := .type "tuple_iterator", data := .fields #[.ref l, .int 0 0] }).objs.size = s.heap.objs.size + 1 := Heap.size_push ..
  show _ ∧ _
  rw [hz]
  have he : IsEnum ((s.heap.push { cls := .type "tuple_iterator", data := .fields #[.ref l, .int 0 0] }).push
      { cls := .type "enumerate", data := .fields #[.none, .bool false, .ref s.heap.objs.size, rawInt 0, .none, .none] }) (s.heap.objs.size + 1) s.heap.objs.size 0 .none := by
    have := Heap.get?_push_size (s.heap.push { cls := .type "tuple_iterator", data := .fields #[.ref l, .int 0 0] })
      (o := { cls := .type "enumerate", data := .fields #[.none, .bool false, .ref s.heap.objs.size, rawInt 0, .none, .none] }) rfl
    rw [hz] at this; exact this
  refine ⟨⟨_, he, rfl⟩, h _ he ⟨_, Heap.get?_push_of_some _ (Heap.get?_push_size _ rfl), rfl, rfl⟩ (by rw [Heap.size_push, hz]) fun b o x => Heap.get?_push_of_some _ (Heap.get?_push_of_some _ x)⟩
end
section
variable {prog : Program} {w : World} {A : Around} {E : Value → Shared → Prop} {s : Shared} {env : Env} {h₀ : Heap} {body : List Stmt} {Q : Flow → Shared → Prop}
/-- what a turn must leave: the two iterators as they lie, the same places in the ledger -/
noncomputable def EnT (h₀ : Heap) (L : Addr) (s₁ : Shared) (e it : Addr × Obj) (news : Led) (J : (Str → Option Value) → Led → Prop) (s₂ : Shared) : Prop :=
  ∃ h' tk m' news', s₂ = { s₁ with heap := h', toks := tk } ∧ Fr h₀ L h' m' ∧ News h₀ L h' (e :: it :: news') ∧ news'.map (·.1) = news.map (·.1) ∧ J m' news'
noncomputable def EnTPost (h₀ : Heap) (L : Addr) (s₁ : Shared) (e it : Addr × Obj) (news : Led) (J : (Str → Option Value) → Led → Prop) (Q : Flow → Shared → Prop) (f : Flow) (s₂ : Shared) : Prop :=
  match f with
  | .ret v => Q (.ret v) s₂
  | .brk => Q .next s₂
  | _ => EnT h₀ L s₁ e it news J s₂
theorem enum_tup {elts : List Expr} {k : Nat} {pos : Pos} {l : Addr} {vs : List Value} {m₀ : Str → Option Value} {news : Led} (J : (Str → Option Value) → Led → Nat → (Str → Option Value) → Led → Prop)
    (hh : A.handled = none) (F : Fr h₀ env.locals s.heap m₀) (N : News h₀ env.locals s.heap news) (hl : h₀.IsTuple l vs.toArray) (start : J m₀ news 0 m₀ news)
    (step : ∀ i v T t (e it : Addr × Obj) h tk m news', vs[i]? = some v → J m₀ news i m news' → IsTup h T #[.int (i : Int) t, v] → e.2.cls = .type "enumerate" → it.2.cls = .type "tuple_iterator" →
      (∀ p ∈ news, p.1 < it.1) → (∀ p ∈ news, p.1 < e.1) → it.1 < e.1 → Fr h₀ env.locals h m → News h₀ env.locals h (e :: it :: news') →
      wpAny (model prog w) A (assign (.Tuple elts k pos) env (.ref T)) (fun _ s₃ => wpAny (model prog w) A (execs body env) (EnTPost h₀ env.locals { s with heap := h, toks := tk } e it news (J m₀ news (i + 1)) Q) E s₃) E { s with heap := h, toks := tk })
    (done : ∀ m news' h tk, J m₀ news vs.length m news' → Fr h₀ env.locals h m → News h₀ env.locals h news' → Q .next { s with heap := h, toks := tk }) :
    wpAny (model prog w) A (call (.type "enumerate") [.ref l]) (fun xv s₁ => wpAny (model prog w) A (pyIter xv) (fun it s₂ => TurnsAt prog w A h₀ env (.Tuple elts k pos) body Q E it s₂) E s₁) E s := by
  have hls : s.heap.IsTuple l vs.toArray := hl.at fun o e => F.keep l o e
  obtain ⟨ol, hol, _⟩ := id hl
  have hlt0 : l < h₀.objs.size := Heap.lt_size hol
  have hlt : l < s.heap.objs.size := Heap.lt_size (F.keep _ _ hol)
  have hLs : env.locals < s.heap.objs.size := F.ns.lt
  refine call_enum_tup hls fun h' hE hI hsz hk => ?_
  refine wpAny_pyIter_enum hE ?_
  have W := KTurns.ofWalksU (elts := elts) (k := k) (pos := pos) (WalksT.enumerateD (draws_tup (prog := prog) (w := w) (A := A.in1) hh s.heap.objs.size l (Nat.ne_of_lt hlt) vs.toArray) (s.heap.objs.size + 1) (Nat.succ_ne_self _) (by simp; exact (ktu_ne 1 hlt).symm) (by simp)).toU
  have hlen : vs.toArray.size = vs.length := by simp
  rw [hlen] at W
  have hnew : ∀ b, b ∈ [s.heap.objs.size + 1, s.heap.objs.size] → h₀.get? b = none := fun b hb => by
    have hb' : b = s.heap.objs.size + 1 ∨ b = s.heap.objs.size := by simpa using hb
    rcases hb' with rfl | rfl
    · exact ktu_new F (Nat.le_add_right _ _)
    · exact ktu_new F (Nat.le_refl _)
  have hofa : ∀ news' : Led, news'.map (·.1) = news.map (·.1) → ∀ p ∈ news', p.1 ∉ [s.heap.objs.size + 1, s.heap.objs.size] := fun news' e p hp hI' => by
    have hb' : p.1 = s.heap.objs.size + 1 ∨ p.1 = s.heap.objs.size := by simpa using hI'
    have : p.1 ∈ news.map (·.1) := e ▸ List.mem_map_of_mem hp
    obtain ⟨q, hq, hqe⟩ := List.mem_map.mp this
    have hlp := Heap.lt_size (N q hq).1
    rw [hqe] at hlp
    rcases hb' with e | e
    · exact ktu_ne 1 hlp e
    · exact Nat.ne_of_lt hlp e
  refine ⟨_, _, _, vs.length, _, _, _, m₀, news, fun i m₁ news₁ => news₁.map (·.1) = news.map (·.1) ∧ J m₀ news i m₁ news₁, rfl, W, ?_, hnew, hofa _ rfl, ⟨⟨.none, hE⟩, hI, hls.at fun o e => hk l o e⟩, F.keeps hk, N.grown hk, ⟨rfl, start⟩, ?_, ?_⟩
  · intro hI'
    have hb' : env.locals = s.heap.objs.size + 1 ∨ env.locals = s.heap.objs.size ∨ env.locals = l := by simpa using hI'
    rcases hb' with e | e | e
    · exact ktu_ne 1 hLs e
    · exact Nat.ne_of_lt hLs e
    · exact absurd (Nat.lt_of_lt_of_le hlt0 F.above) (by rw [e]; exact Nat.lt_irrefl _)
  · rintro i v m₁ news₁ h₁ tk₁ own hin ⟨T, vals, rfl, ⟨t, x, hx, rfl⟩, hT⟩ ⟨hnm, hJ⟩ _ hown hget hall hst₁ F₁ N₁
    obtain ⟨⟨old, hoe⟩, ⟨oi, hoi, hci, hdi⟩, _⟩ := hst₁
    have m1 := hall (s.heap.objs.size + 1) (by simp) (hnew _ (by simp)) _ hoe
    have m2 := hall s.heap.objs.size (by simp) (hnew _ (by simp)) _ hoi
    have N₂ : News h₀ env.locals h₁ ((s.heap.objs.size + 1, _) :: (s.heap.objs.size, oi) :: news₁) := fun p hp => by
      rcases List.mem_cons.mp hp with rfl | hp
      · exact N₁ _ (List.mem_append_left _ m1)
      · rcases List.mem_cons.mp hp with rfl | hp
        · exact N₁ _ (List.mem_append_left _ m2)
        · exact N₁ _ (List.mem_append_right _ hp)
    refine wpAny_mono (step i x T t _ (s.heap.objs.size, oi) h₁ tk₁ m₁ news₁ (by simpa using hx) hJ hT rfl hci (fun p hp => Heap.lt_size (N p hp).1) (fun p hp => Nat.lt_succ_of_lt (Heap.lt_size (N p hp).1)) (Nat.lt_succ_self _) F₁ N₂) (fun _ s₃ h₃ => wpAny_mono h₃ (fun f s₂ p => ?_) fun _ _ e => e) fun _ _ e => e
    have fin : ∀ oe, h₁.get? (s.heap.objs.size + 1) = some oe → EnT h₀ env.locals { s with heap := h₁, toks := tk₁ } (s.heap.objs.size + 1, oe) (s.heap.objs.size, oi) news (J m₀ news (i + 1)) s₂ → LoopStepU h₀ env.locals [s.heap.objs.size + 1, s.heap.objs.size] own (fun m₂ news₂ => news₂.map (·.1) = news.map (·.1) ∧ J m₀ news (i + 1) m₂ news₂) { s with heap := h₁, toks := tk₁ } .next s₂ := by
      rintro oe hoe' ⟨h', tk, m', news', e, F', N', hm', hj⟩
      refine ⟨rfl, h', tk, m', news', e, F', fun p hp => ?_, hofa _ hm', hm', hj⟩
      rcases List.mem_append.mp hp with hp | hp
      · have h2 : h₁.get? p.1 = some p.2 := hget p hp
        have h1 : p.1 = s.heap.objs.size + 1 ∨ p.1 = s.heap.objs.size ∨ p.1 = l := by simpa using hown p hp
        rcases h1 with h1 | h1 | h1
        · have h3 : p = (s.heap.objs.size + 1, oe) := by
            rw [h1, hoe'] at h2
            exact Prod.ext h1 (Option.some.inj h2).symm
          rw [h3]; exact N' _ (List.mem_cons_self ..)
        · have h3 : p = (s.heap.objs.size, oi) := by
            rw [h1, hoi] at h2
            exact Prod.ext h1 (Option.some.inj h2).symm
          rw [h3]; exact N' _ (List.mem_cons_of_mem _ (List.mem_cons_self ..))
        · have h3 := (N₁ p (List.mem_append_left _ hp)).2.2
          rw [h1, hol] at h3
          cases h3
      · exact N' _ (List.mem_cons_of_mem _ (List.mem_cons_of_mem _ hp))
    cases f with
    | ret v => exact .ret p
    | brk => exact .brk p
    | next => exact .next (fin _ hoe p)
    | cont => exact .cont (fin _ hoe p)
  · rintro h' tk m' news' F' N' _ ⟨_, hj⟩
    exact done m' news' h' tk hj F' N'
end
theorem words_12_1 : True := by
  (k_with "my EnTPost" => (dsimp only [EnTPost]))
  trivial
/-! for .. else over a tuple that stood ahead of the call -/
section
variable {prog : Program} {w : World} {A : Around} {E : Value → Shared → Prop} {s : Shared} {env : Env} {h₀ : Heap} {target : Expr} {body orelse : List Stmt} {Q : Flow → Shared → Prop} {Qd : Shared → Prop}
theorem else_loop {R : Result → Shared → Prop} {I : Addr} {fp wr : List Addr} {n : Nat} {P Md : Nat → Value → Heap → Prop} {St : Nat → Heap → Prop} {m : Str → Option Value} {news : Led} (W : KTurns prog w A target I fp wr n P Md St)
    (hLf : env.locals ∉ fp) (hwr : ∀ b ∈ wr, h₀.get? b = none) (hnw : ∀ p ∈ news, p.1 ∉ wr) (hst : St 0 s.heap) (F : Fr h₀ env.locals s.heap m) (N : News h₀ env.locals s.heap news)
    (J : Nat → (Str → Option Value) → Led → Prop) (h0 : J 0 m news)
    (step : ∀ i v m₁ news₁ h₁ tk₁ own, i < n → P i v h₁ → J i m₁ news₁ → (∀ p ∈ news₁, p.1 ∉ wr) → (∀ p ∈ own, p.1 ∈ fp) → (∀ p ∈ own, h₁.get? p.1 = some p.2) → (∀ b ∈ fp, h₀.get? b = none → ∀ o, h₁.get? b = some o → (b, o) ∈ own) → St (i + 1) h₁ →
      Fr h₀ env.locals h₁ m₁ → News h₀ env.locals h₁ (own ++ news₁) →
      wpAny (model prog w) A (assign target env v) (fun _ s₂ => wpAny (model prog w) A (execs body env)
        (LoopStepV h₀ env.locals wr own (J (i + 1)) { s with heap := h₁, toks := tk₁ } (fun v s' => R (.ok (.ret v)) s') fun s' => R (.ok .next) s') (notedBy (model prog w) A env fun e s' => R (.error e) s') s₂) (notedBy (model prog w) A env fun e s' => R (.error e) s') { s with heap := h₁, toks := tk₁ })
    (hR : ∀ h' tk m' news', Fr h₀ env.locals h' m' → News h₀ env.locals h' news' → (∀ p ∈ news', p.1 ∉ wr) → J n m' news' →
      wpAny (model prog w) A (execs orelse env) (fun f s₃ => R (.ok f) s₃) (notedBy (model prog w) A env fun e s' => R (.error e) s') { s with heap := h', toks := tk }) :
    codeAny (model prog w) A (.forLoop target (.ref I) body orelse env) R s := by
  have hLw : env.locals ∉ wr := fun h => hLf (W.sub _ h)
  have old : ∀ b o, h₀.get? b = some o → b ∉ wr := fun b o e hb => by rw [hwr b hb] at e; cases e
  refine codeAny_forLoop_any
    (fun k s' => ∃ h' tk m' news' i, s' = { s with heap := h', toks := tk } ∧ St i h' ∧ Fr h₀ env.locals h' m' ∧ News h₀ env.locals h' news' ∧ (∀ p ∈ news', p.1 ∉ wr) ∧ J i m' news' ∧ i ≤ n ∧ k = n + 1 - i) ?_ (n + 1)
    ⟨s.heap, s.toks, m, news, 0, rfl, hst, F, N, hnw, h0, Nat.zero_le _, rfl⟩
  rintro k s' ⟨h', tk, m', news', i, rfl, hst', F', N', hnw', hJ, hi, rfl⟩
  have next : ∀ h₁ : Heap, (∀ b o, b ∉ wr → h'.get? b = some o → h₁.get? b = some o) → Fr h₀ env.locals h₁ m' ∧ News h₀ env.locals h₁ news' := fun h₁ hk₁ =>
    ⟨⟨F'.ns.at' fun o e => hk₁ _ o hLw e, fun b o e => hk₁ b o (old b o e) (F'.keep b o e), F'.above⟩, fun p hp => ⟨hk₁ _ _ (hnw' p hp) (N' p hp).1, (N' p hp).2⟩⟩
  by_cases hlt : i < n
  · refine W.item i _ _ _ hlt hst' fun v h₁ tk₁ hMd hk₁ => ?_
    refine W.go i v _ _ _ hMd fun h₂ hP hst₂ hk₂ => ?_
    obtain ⟨F₂, N₂⟩ := next h₂ fun b o hb x => hk₂ b o hb (hk₁ b o hb x)
    have Nown : News h₀ env.locals h₂ (PyProof.Rows.ownOf h₀ fp h₂) := news_ownOf hLf
    have fin : ∀ s₃, LoopStepV h₀ env.locals wr (PyProof.Rows.ownOf h₀ fp h₂) (J (i + 1)) { s with heap := h₂, toks := tk₁ } (fun v s' => R (.ok (.ret v)) s') (fun s' => R (.ok .next) s') .next s₃ →
        ∃ m, m < n + 1 - i ∧ ∃ h' tk m' news' i, s₃ = { s with heap := h', toks := tk } ∧ St i h' ∧ Fr h₀ env.locals h' m' ∧ News h₀ env.locals h' news' ∧ (∀ p ∈ news', p.1 ∉ wr) ∧ J i m' news' ∧ i ≤ n ∧ m = n + 1 - i := by
      rintro s₃ ⟨_, h₃', tk₃, m₂, news₂, rfl, F₃, N₃, ha₃, hJ₃⟩
      refine ⟨n + 1 - (i + 1), by omega, h₃', tk₃, m₂, news₂, i + 1, rfl, ?_, F₃, N₃.right, ha₃, hJ₃, hlt, rfl⟩
      refine W.frame _ _ _ hst₂ fun b hb o e => ?_
      cases hn : h₀.get? b with
      | some o₀ =>
        have : o₀ = o := by have q := F₂.keep b o₀ hn; rw [e] at q; exact (Option.some.inj q).symm
        exact this ▸ F₃.keep b o₀ hn
      | none => exact (N₃ _ (List.mem_append_left _ (mem_ownOf hb hn e))).1
    refine wpAny_mono (step i v m' news' h₂ tk₁ (PyProof.Rows.ownOf h₀ fp h₂) hlt hP hJ hnw' ownOf_sub (fun p hp => (Nown p hp).1) (fun b hb hn o e => mem_ownOf hb hn e) hst₂ F₂ (Nown.append N₂)) (fun _ s₂ h₂' => wpAny_mono h₂' (fun f s₃ h₃ => ?_) fun _ _ e => e) fun _ _ e => e
    cases f with
    | ret v => exact h₃
    | brk => exact h₃
    | cont => exact fin s₃ h₃
    | next => exact fin s₃ h₃
  · have hin : i = n := by omega
    subst hin
    refine W.done _ _ _ hst' fun h₁ tk₁ hk₁ => ?_
    obtain ⟨F₁, N₁⟩ := next h₁ hk₁
    exact hR h₁ tk₁ m' news' F₁ N₁ hnw' hJ
noncomputable def TurnsElse (prog : Program) (w : World) (A : Around) (h₀ : Heap) (env : Env) (target : Expr) (body : List Stmt) (Q : Flow → Shared → Prop) (Qd : Shared → Prop) (E : Value → Shared → Prop) (it : Value) (s₂ : Shared) : Prop :=
  ∃ (I : Addr) (fp wr : List Addr) (n : Nat) (P Md : Nat → Value → Heap → Prop) (St : Nat → Heap → Prop) (m : Str → Option Value) (news : Led) (J : Nat → (Str → Option Value) → Led → Prop),
    it = .ref I ∧ KTurns prog w A target I fp wr n P Md St ∧ env.locals ∉ fp ∧ (∀ b ∈ wr, h₀.get? b = none) ∧ (∀ p ∈ news, p.1 ∉ wr) ∧ St 0 s₂.heap ∧ Fr h₀ env.locals s₂.heap m ∧ News h₀ env.locals s₂.heap news ∧ J 0 m news ∧
    (∀ i v m₁ news₁ h₁ tk₁ own, i < n → P i v h₁ → J i m₁ news₁ → (∀ p ∈ news₁, p.1 ∉ wr) → (∀ p ∈ own, p.1 ∈ fp) → (∀ p ∈ own, h₁.get? p.1 = some p.2) → (∀ b ∈ fp, h₀.get? b = none → ∀ o, h₁.get? b = some o → (b, o) ∈ own) → St (i + 1) h₁ →
      Fr h₀ env.locals h₁ m₁ → News h₀ env.locals h₁ (own ++ news₁) →
      wpAny (model prog w) A (assign target env v) (fun _ s₃ => wpAny (model prog w) A (execs body env)
        (LoopStepV h₀ env.locals wr own (J (i + 1)) { s₂ with heap := h₁, toks := tk₁ } (fun v s' => Q (.ret v) s') fun s' => Q .next s') E s₃) E { s₂ with heap := h₁, toks := tk₁ }) ∧
    ∀ h' tk m' news', Fr h₀ env.locals h' m' → News h₀ env.locals h' news' → (∀ p ∈ news', p.1 ∉ wr) → J n m' news' → Qd { s₂ with heap := h', toks := tk }
theorem For_else {iter : Expr} {pos : Pos} {m : Str → Option Value} (_F : Fr h₀ env.locals s.heap m)
    (h : wpAny (model prog w) A (eval iter env) (fun xv s₁ => wpAny (model prog w) A (pyIter xv) (fun it s₂ => TurnsElse prog w A h₀ env target body Q (fun s' => wpAny (model prog w) A (execs orelse env) Q E s') E it s₂) E s₁) E s)
    (hs : ∀ x, foldedSetIterable iter env x = pure x := by intro _; rfl)
    (hE : PassesOwn (model prog w) A env E := by passes_own) :
    wpAny (model prog w) A (exec (.For target iter body orelse pos) env) Q E s := by
  refine wpAny_For (wpAny_mono h (fun xv s₁ h₁ => wpAny_mono h₁ (fun it s₂ h₂ => ?_) fun _ _ e => e) fun _ _ e => e) hs
  obtain ⟨I, fp, wr, n, P, Md, St, m, news, J, rfl, W, hLf, hwr, hnw, hst, F, N, h0, step, hQ⟩ := h₂
  exact else_loop (R := fun r s' => match r with | .ok f => Q f s' | .error e => cameBackBy (model prog w) A env E e s') W hLf hwr hnw hst F N J h0
    (fun i v m₁ news₁ h₁ tk₁ own a b c d e f g st F₁ N₁ => wpAny_mono (step i v m₁ news₁ h₁ tk₁ own a b c d e f g st F₁ N₁) (fun _ _ x => wpAny_passesOwn hE x) hE)
    fun h' tk m' news' a b c d => wpAny_passesOwn hE (hQ h' tk m' news' a b c d)
noncomputable def TupRest (prog : Program) (w : World) (A : Around) (E : Value → Shared → Prop) (h₀ : Heap) (env : Env) (target : Expr) (body : List Stmt) (Q : Flow → Shared → Prop) (Qd : Shared → Prop) (s : Shared) (I : Addr) : List Value → (Str → Option Value) → Led → Prop
  | [], m, news => ∀ h tk, Fr h₀ env.locals h m → News h₀ env.locals h news → Qd { s with heap := h, toks := tk }
  | v :: r, m, news => ∀ (it : Obj) h tk, it.cls = .type "tuple_iterator" → Fr h₀ env.locals h m → News h₀ env.locals h ((I, it) :: news) →
      wpAny (model prog w) A (assign target env v) (fun _ s₃ => wpAny (model prog w) A (execs body env) (UnrPost h₀ env.locals { s with heap := h, toks := tk } I it (TupRest prog w A E h₀ env target body Q Qd s I r) Q) E s₃) E { s with heap := h, toks := tk }
theorem TupRest.zero {I : Addr} {m : Str → Option Value} {news : Led} (h : ∀ h tk, Fr h₀ env.locals h m → News h₀ env.locals h news → Qd { s with heap := h, toks := tk }) : TupRest prog w A E h₀ env target body Q Qd s I [] m news := h
theorem TupRest.succ {I : Addr} {v : Value} {r : List Value} {m : Str → Option Value} {news : Led} (h : ∀ (it : Obj) h tk, it.cls = .type "tuple_iterator" → Fr h₀ env.locals h m → News h₀ env.locals h ((I, it) :: news) →
      wpAny (model prog w) A (assign target env v) (fun _ s₃ => wpAny (model prog w) A (execs body env) (UnrPost h₀ env.locals { s with heap := h, toks := tk } I it (TupRest prog w A E h₀ env target body Q Qd s I r) Q) E s₃) E { s with heap := h, toks := tk }) :
    TupRest prog w A E h₀ env target body Q Qd s I (v :: r) m news := h
theorem iter_tupElse {ax : Addr} {lo : Obj} {vs : List Value} {n : Nat} {m₀ : Str → Option Value} {news : Led} {K : Frag}
    (hh : A.handled = none) (F : Fr h₀ env.locals s.heap m₀) (N : News h₀ env.locals s.heap news) (X₀ : K.In h₀) (hk : K.lookup ax = some lo) (hc : lo.cls = .type "tuple") (hd : lo.data = .seq vs.toArray n)
    (rest₀ : ∀ I : Addr, (∀ p ∈ news, p.1 < I) → TupRest prog w A E h₀ env target body Q Qd s I vs m₀ news) :
    wpAny (model prog w) A (pyIter (.ref ax)) (fun it s₂ => TurnsElse prog w A h₀ env target body Q Qd E it s₂) E s := by
  have hg : h₀.get? ax = some lo := X₀ _ _ hk
  have hax : s.heap.get? ax = some lo := F.keep _ _ hg
  have hl : s.heap.IsTuple ax vs.toArray := ⟨lo, hax, hc, n, hd⟩
  have hlt : ax < s.heap.objs.size := Heap.lt_size hax
  have hne : ax ≠ s.heap.objs.size := Nat.ne_of_lt hlt
  refine wpAny_pyIter_tuple hl ?_
  have hlen : vs.toArray.size = vs.length := by simp
  have hnew := next_is_new F
  refine ⟨s.heap.objs.size, [s.heap.objs.size, ax], [s.heap.objs.size], vs.toArray.size, _, _, _, m₀, news, fun i m₁ news₁ => TupRest prog w A E h₀ env target body Q Qd s s.heap.objs.size (vs.drop i) m₁ news₁, rfl,
    KTurns.ofWalks (Walks.tuple hh s.heap.objs.size ax hne vs.toArray) (fun i v s Q E st q => letGo_tupleiter st.1 q), ?_, ?_, ?_, ⟨⟨_, Heap.get?_push_size _ rfl, rfl, rfl⟩, hl.at fun o e => Heap.get?_push_of_some _ e⟩, F.push _, (fun p hp => ⟨Heap.get?_push_of_some _ (N p hp).1, (N p hp).2⟩), rest₀ _ fun p hp => Heap.lt_size (N p hp).1, ?_, ?_⟩
  · intro hI
    rcases List.mem_cons.mp hI with e | hI
    · exact absurd F.ns.lt (e ▸ Nat.lt_irrefl _)
    · have e : env.locals = ax := List.mem_singleton.mp hI
      exact absurd (Heap.lt_size hg) (Nat.not_lt.mpr (e ▸ F.above))
  · intro b hb
    rw [List.mem_singleton.mp hb]
    exact hnew
  · intro p hp hI
    exact absurd (Heap.lt_size (N p hp).1) ((List.mem_singleton.mp hI) ▸ Nat.lt_irrefl _)
  · rintro i v m₁ news₁ h₁ tk₁ own hin hP hJ hoff hown hget hall hst F₁ N₁
    obtain ⟨it, hit, hic, hid⟩ := hst.1
    have hmemI := hall s.heap.objs.size (List.mem_cons_self ..) hnew _ hit
    have hdrop : vs.drop i = v :: vs.drop (i + 1) := by
      have hlt' : i < vs.length := by rw [← hlen]; exact hin
      have hv : vs[i]? = some v := by simpa using hP
      rw [List.drop_eq_getElem_cons hlt']
      congr 1
      exact Option.some.inj ((List.getElem?_eq_getElem hlt').symm.trans hv)
    rw [hdrop] at hJ
    have N₂ : News h₀ env.locals h₁ ((s.heap.objs.size, it) :: news₁) := fun p hp => by
      rcases List.mem_cons.mp hp with rfl | hp
      · exact N₁ _ (List.mem_append_left _ hmemI)
      · exact N₁ _ (List.mem_append_right _ hp)
    refine wpAny_mono (hJ it h₁ tk₁ hic F₁ N₂) (fun _ s₃ h₃ => wpAny_mono h₃ (fun f s₂ p => ?_) fun _ _ e => e) fun _ _ e => e
    have fin : UnrEnd h₀ env.locals { s with heap := h₁, toks := tk₁ } s.heap.objs.size it (fun m' n' => TupRest prog w A E h₀ env target body Q Qd s s.heap.objs.size (vs.drop (i + 1)) m' n') s₂ →
        LoopStepU h₀ env.locals [s.heap.objs.size] own (fun m₁ news₁ => TupRest prog w A E h₀ env target body Q Qd s s.heap.objs.size (vs.drop (i + 1)) m₁ news₁) { s with heap := h₁, toks := tk₁ } .next s₂ := by
      rintro ⟨h', tk, m', news', e, F', N', ho, r⟩
      refine ⟨rfl, h', tk, m', news', e, F', fun p hp => ?_, fun p hp hI => ho p hp (List.mem_singleton.mp hI), r⟩
      rcases List.mem_append.mp hp with hp | hp
      · have h2 : h₁.get? p.1 = some p.2 := hget p hp
        rcases List.mem_cons.mp (hown p hp) with h1 | h1
        · have h3 : p = (s.heap.objs.size, it) := by
            rw [h1, hit] at h2
            exact Prod.ext h1 (Option.some.inj h2).symm
          rw [h3]; exact N' _ (List.mem_cons_self ..)
        · have h1' : p.1 = ax := List.mem_singleton.mp h1
          have h3 := (N₁ p (List.mem_append_left _ hp)).2.2
          rw [h1', hg] at h3
          cases h3
      · exact N' _ (List.mem_cons_of_mem _ hp)
    cases f with
    | ret v => exact .ret p
    | brk => exact .brk p
    | next => exact .next (fin p)
    | cont => exact .cont (fin p)
  · rintro h' tk m' news' F' N' _ hJ
    have z : vs.drop vs.toArray.size = [] := List.drop_eq_nil_of_le (by simp)
    rw [z] at hJ
    exact hJ h' tk F' N'
end
theorem words_13_1 : True := by
  (k_with "my TupRest" => first | ((with_unfolding_all refine TupRest.succ (fun it' h' tk' hc' F' N' => ?_)); (try dsimp only); (try k_fold)) | ((with_unfolding_all refine TupRest.zero (fun h' tk' F' N' => ?_)); (try dsimp only); (try k_fold)))
  trivial
theorem words_14_1 : True := by
  (k_with "my exec For Tuple Call cons nil" => (k_here; (with_reducible show wpAny _ _ (exec _ (envOf (Str.ofString "filemode") _ _ _ _)) _ _ _); (rename Fr _ _ _ _ => lF_p); (with_unfolding_all refine' For_turns lF_p ?_; k_whole)))
  (k_with "my call type:enumerate" => ((with_reducible show wpAny _ (Around.deeper _ (envOf (Str.ofString "filemode") _ _ _ _)) (call _ _) _ _ _); refine Stop.out ?_))
  (k_with "my exec For" => (k_here; (with_reducible show wpAny _ _ (exec (Stmt.For _ (Expr.Name _ _) _ (_ :: _) _) (envOf (Str.ofString "filemode") _ _ _ _)) _ _ _); (rename Fr _ _ _ _ => lF_p); (with_unfolding_all refine' For_else lF_p ?_; k_whole)))
  (k_with "my pyIter ref" => ((with_reducible show wpAny _ (Around.deeper _ (envOf (Str.ofString "filemode") _ _ _ _)) (pyIter (Value.ref _)) _ _ _); refine Stop.out ?_))
  trivial
theorem off_nil {I : Addr} : ∀ p ∈ ([] : Led), p.1 ≠ I := fun _ h => nomatch h
theorem off_cons {I : Addr} {q : Addr × Obj} {r : Led} (h : q.1 ≠ I) (h2 : ∀ p ∈ r, p.1 ≠ I) : ∀ p ∈ q :: r, p.1 ≠ I := fun p hp => by
  rcases List.mem_cons.mp hp with rfl | hp
  · exact h
  · exact h2 p hp
theorem UnrEnd.here {h₀ : Heap} {L I : Addr} {it : Obj} {rest : (Str → Option Value) → Led → Prop} {s₁ : Shared} {h' : Heap} {tk : Nat} {m' : Str → Option Value} {news' : Led} (F : Fr h₀ L h' m') (N : News h₀ L h' ((I, it) :: news'))
    (off : ∀ p ∈ news', p.1 ≠ I) (r : rest m' news') : UnrEnd h₀ L s₁ I it rest { s₁ with heap := h', toks := tk } := ⟨h', tk, m', news', rfl, F, N, off, r⟩
theorem words_14_2 : True := by
  (k_with "my off all" => repeat (first | exact off_nil | refine off_cons (by (try dsimp only); k_ne) ?_))
  (k_with "my UnrEnd" => ((with_reducible show UnrEnd _ _ _ _ _ (TupRest _ _ _ _ _ _ _ _ _ _ _ _ _) _); refine UnrEnd.here (by k_asm) (by k_asm) (by walk_at "off all") ?_))
  trivial
noncomputable def fmPick (mode : Int) : List (Int × Str) → Str
  | [] => Str.ofString "-"
  | p :: r => if Builtin.bitAnd mode p.1 = p.1 then p.2 else fmPick mode r
noncomputable def fmPick0 (mode : Int) : List (Int × Str) → Str
  | [] => Str.ofString "?"
  | p :: r => if Builtin.bitAnd mode 61440 = p.1 then p.2 else fmPick0 mode r
noncomputable def fmL (mode : Int) : Nat → Str
  | 0 => fmPick0 mode [(40960, Str.ofString "l"), (49152, Str.ofString "s"), (32768, Str.ofString "-"), (24576, Str.ofString "b"), (16384, Str.ofString "d"), (8192, Str.ofString "c"), (4096, Str.ofString "p")]
  | 1 => fmPick mode [(256, Str.ofString "r")]
  | 2 => fmPick mode [(128, Str.ofString "w")]
  | 3 => fmPick mode [(2112, Str.ofString "s"), (2048, Str.ofString "S"), (64, Str.ofString "x")]
  | 4 => fmPick mode [(32, Str.ofString "r")]
  | 5 => fmPick mode [(16, Str.ofString "w")]
  | 6 => fmPick mode [(1032, Str.ofString "s"), (1024, Str.ofString "S"), (8, Str.ofString "x")]
  | 7 => fmPick mode [(4, Str.ofString "r")]
  | 8 => fmPick mode [(2, Str.ofString "w")]
  | 9 => fmPick mode [(513, Str.ofString "t"), (512, Str.ofString "T"), (1, Str.ofString "x")]
  | _ => Str.ofString "-"
noncomputable def fmLs (mode : Int) : Nat → List Str
  | 0 => []
  | i + 1 => fmLs mode i ++ [fmL mode i]
theorem fmPick_pos {mode b : Int} {c : Str} {r : List (Int × Str)} (h : Builtin.bitAnd mode b = b) : fmPick mode ((b, c) :: r) = c := if_pos h
theorem fmPick_neg {mode b : Int} {c d : Str} {r : List (Int × Str)} (h : Builtin.bitAnd mode b ≠ b) (e : fmPick mode r = d) : fmPick mode ((b, c) :: r) = d := (if_neg h).trans e
theorem fmPick0_pos {mode b : Int} {c : Str} {r : List (Int × Str)} (h : Builtin.bitAnd mode 61440 = b) : fmPick0 mode ((b, c) :: r) = c := if_pos h
theorem fmPick0_neg {mode b : Int} {c d : Str} {r : List (Int × Str)} (h : Builtin.bitAnd mode 61440 ≠ b) (e : fmPick0 mode r = d) : fmPick0 mode ((b, c) :: r) = d := (if_neg h).trans e
noncomputable def FmJ (mode : Int) (m₀ : Str → Option Value) (news₀ : Led) (i : Nat) (m : Str → Option Value) (news : Led) : Prop :=
  ∃ (l : Addr) (o₀ : Obj) (vs : List Value) (n : Nat), news₀ = [(l, o₀)] ∧ news = [(l, W.listOf vs.toArray n)] ∧ StrsAre vs (fmLs mode i) ∧ vs.length = i ∧ Keep (Str.ofString "index") [] [Str.ofString "table", Str.ofString "bit", Str.ofString "char"] m₀ m
theorem fmPick_len {mode : Int} : ∀ {r : List (Int × Str)}, (∀ p ∈ r, p.2.length = 1) → (fmPick mode r).length = 1
  | [], _ => by show (Str.ofString "-").length = 1; decide +kernel
  | p :: r, h => by
    rw [fmPick]; split
    · exact h p (List.mem_cons_self ..)
    · exact fmPick_len fun q hq => h q (List.mem_cons_of_mem _ hq)
theorem fmPick0_len {mode : Int} : ∀ {r : List (Int × Str)}, (∀ p ∈ r, p.2.length = 1) → (fmPick0 mode r).length = 1
  | [], _ => by show (Str.ofString "?").length = 1; decide +kernel
  | p :: r, h => by
    rw [fmPick0]; split
    · exact h p (List.mem_cons_self ..)
    · exact fmPick0_len fun q hq => h q (List.mem_cons_of_mem _ hq)
theorem fmL_len (mode : Int) (i : Nat) : (fmL mode i).length = 1 := by
  unfold fmL
  split
  all_goals first | (show (Str.ofString "-").length = 1; decide +kernel) | exact fmPick_len (by decide +kernel) | exact fmPick0_len (by decide +kernel)
theorem fmLs_len (mode : Int) : ∀ i, (fmLs mode i).length = i
  | 0 => rfl
  | i + 1 => by rw [fmLs, List.length_append, fmLs_len mode i]; rfl
theorem fmLs_sum (mode : Int) : ∀ i, ((fmLs mode i).map (·.length)).sum = i
  | 0 => rfl
  | i + 1 => by rw [fmLs, List.map_append, List.sum_append, fmLs_sum mode i]; simp [fmL_len]
theorem words_14_3 : True := by
  (k_with "my fm pick" => first | rfl | exact fmPick_pos (by assumption) | exact fmPick0_pos (by assumption) | (refine fmPick_neg (by assumption) ?_; walk_at "fm pick") | (refine fmPick0_neg (by assumption) ?_; walk_at "fm pick"))
  trivial
theorem fm_fin {mode : Int} {m₀ m : Str → Option Value} {l : Addr} {o₀ : Obj} {vs : List Value} {n i : Nat} {c : Str} {t : Tok} {ws : Array Value} (hs : StrsAre vs (fmLs mode i)) (hl : vs.length = i) (hw : ws = vs.toArray.push (.str c t)) (e : fmL mode i = c)
    (k : Keep (Str.ofString "index") [] [Str.ofString "table", Str.ofString "bit", Str.ofString "char"] m₀ m) : FmJ mode m₀ [(l, o₀)] (i + 1) m [(l, W.listOf ws n)] := by
  subst e
  exact ⟨l, o₀, vs ++ [.str _ t], n, rfl, by rw [hw, push_snoc], StrsAre.snoc hs, by simp [hl], k⟩
theorem EnT.here {h₀ h' : Heap} {L : Addr} {s₁ : Shared} {e it : Addr × Obj} {news news' : Led} {J : (Str → Option Value) → Led → Prop} {m' : Str → Option Value} {tk : Nat} (F : Fr h₀ L h' m') (N : News h₀ L h' (e :: it :: news')) (hm : news'.map (·.1) = news.map (·.1)) (j : J m' news') :
    EnT h₀ L s₁ e it news J { s₁ with heap := h', toks := tk } := ⟨h', tk, m', news', rfl, F, N, hm, j⟩
theorem EnT.here1 {h₀ h' : Heap} {L : Addr} {s₁ : Shared} {q e it : Addr × Obj} {news news' : Led} {J : (Str → Option Value) → Led → Prop} {m' : Str → Option Value} {tk : Nat} (F : Fr h₀ L h' m') (N : News h₀ L h' (q :: e :: it :: news')) (hm : news'.map (·.1) = news.map (·.1)) (j : J m' news') :
    EnT h₀ L s₁ e it news J { s₁ with heap := h', toks := tk } := ⟨h', tk, m', news', rfl, F, fun p hp => N p (List.mem_cons_of_mem _ hp), hm, j⟩
theorem words_14_4 : True := by
  (k_with "my fm end" => ((rename Fr _ _ _ _ => lF_r); (rename News _ _ _ _ => lN_r); (first | refine EnT.here lF_r lN_r (by exact rfl) ?_ | refine EnT.here1 lF_r lN_r (by exact rfl) ?_); (refine fm_fin (by assumption) (by assumption) rfl (by walk_at "fm pick") ⟨(fun _ h => nomatch h), fun z z1 _ z3_r => ?_⟩; (simp only [List.contains_cons, List.contains_nil, Bool.or_false, Bool.or_eq_false_iff, beq_eq_false_iff_ne, ne_eq] at z3_r); (obtain ⟨z3_r, z4_r, z5_r⟩ := z3_r); simp [z1, z3_r, z4_r, z5_r])))
  trivial
theorem c_sifmt (w : World) (mode : Int) (t : Tok) (h1 : 0 ≤ mode) (h2 : mode < 65536) : PCon w 179 1 [Value.int mode t] (fun _ => True) (OutV fun t => .int (Builtin.bitAnd mode 61440) t) := by
  walk_at "con enter"
  k_steps
  all_goals walk_at "con v"
theorem words_14_5 : True := by
  (k_with "my call ref" => (k_here; (with_reducible show wpAny _ _ (call (Value.ref 179) _) _ _ _); k_dflt (refine' PCon.useV (c_sifmt _ _ _ (by assumption) (by assumption)) ?B_q ?F_q ?X_q ?N_q ?T_q ?hf_q ?hk_q ?hd_q ?hu_q ?hp_q ?_; walk_at "con use v")))
  trivial
/-- the tables -/
noncomputable def fmT : Nat → List (Int × Str)
  | 0 => [(40960, Str.ofString "l"), (49152, Str.ofString "s"), (32768, Str.ofString "-"), (24576, Str.ofString "b"), (16384, Str.ofString "d"), (8192, Str.ofString "c"), (4096, Str.ofString "p")]
  | 1 => [(256, Str.ofString "r")]
  | 2 => [(128, Str.ofString "w")]
  | 3 => [(2112, Str.ofString "s"), (2048, Str.ofString "S"), (64, Str.ofString "x")]
  | 4 => [(32, Str.ofString "r")]
  | 5 => [(16, Str.ofString "w")]
  | 6 => [(1032, Str.ofString "s"), (1024, Str.ofString "S"), (8, Str.ofString "x")]
  | 7 => [(4, Str.ofString "r")]
  | 8 => [(2, Str.ofString "w")]
  | 9 => [(513, Str.ofString "t"), (512, Str.ofString "T"), (1, Str.ofString "x")]
  | _ => []
theorem fmL_T (mode : Int) : ∀ i, fmL mode (i + 1) = fmPick mode (fmT (i + 1))
  | 0 | 1 | 2 | 3 | 4 | 5 | 6 | 7 | 8 => rfl
  | i + 9 => rfl
theorem fmT_in : ∀ i, ∀ p ∈ fmT i, 0 ≤ p.1 ∧ p.1 < 65536 ∧ p.2.length = 1
  | 0 | 1 | 2 | 3 | 4 | 5 | 6 | 7 | 8 | 9 => by decide +kernel
  | i + 10 => fun _ h => nomatch h
/-- a pair of a table as it lies -/
noncomputable def TupIn (K : Frag) (a : Addr) (vs : List Value) : Prop := ∃ o, K.lookup a = some o ∧ o.cls = .type "tuple" ∧ ∃ n, o.data = .seq vs.toArray n
inductive PairsIn (K : Frag) : List Value → List (Int × Str) → Prop
  | nil : PairsIn K [] []
  | cons {b : Addr} {t1 t2 : Tok} {x : Int} {c : Str} {rs : List Value} {ps : List (Int × Str)} : TupIn K b [.int x t1, .str c t2] → PairsIn K rs ps → PairsIn K (.ref b :: rs) ((x, c) :: ps)
noncomputable def TabIn (K : Frag) (v : Value) (ps : List (Int × Str)) : Prop := ∃ a rs, v = .ref a ∧ TupIn K a rs ∧ PairsIn K rs ps
theorem tabs_in (w : World) : TabIn (Mine.hd.heap_1_1 w.params) (.ref 187) (fmT 0) ∧ TabIn (Mine.hd.heap_1_1 w.params) (.ref 189) (fmT 1) ∧ TabIn (Mine.hd.heap_1_1 w.params) (.ref 191) (fmT 2) ∧ TabIn (Mine.hd.heap_1_1 w.params) (.ref 195) (fmT 3) ∧ TabIn (Mine.hd.heap_1_1 w.params) (.ref 197) (fmT 4) ∧
    TabIn (Mine.hd.heap_1_1 w.params) (.ref 199) (fmT 5) ∧ TabIn (Mine.hd.heap_1_1 w.params) (.ref 203) (fmT 6) ∧ TabIn (Mine.hd.heap_1_1 w.params) (.ref 205) (fmT 7) ∧ TabIn (Mine.hd.heap_1_1 w.params) (.ref 207) (fmT 8) ∧ TabIn (Mine.hd.heap_1_1 w.params) (.ref 211) (fmT 9) := by
  refine ⟨?_, ?_, ?_, ?_, ?_, ?_, ?_, ?_, ?_, ?_⟩
  all_goals refine ⟨_, _, rfl, ⟨_, by k_is, rfl, _, rfl⟩, ?_⟩
  all_goals repeat (first | exact .nil | refine .cons ⟨_, by k_is, rfl, _, rfl⟩ ?_)
@[elab_as_elim]
theorem TabIn.elim {K : Frag} {v : Value} {ps : List (Int × Str)} {P : Value → Prop} (h : TabIn K v ps) (k : ∀ a rs, TupIn K a rs → PairsIn K rs ps → P (.ref a)) : P v := by
  obtain ⟨a, rs, rfl, h1, h2⟩ := h
  exact k a rs h1 h2
theorem Keep.pair {x y : Str} {m₀ m : Str → Option Value} (h : ∀ z, z ≠ x → z ≠ y → m z = m₀ z) : Keep x [] [y] m₀ m := ⟨(fun _ h => nomatch h), fun z z1 _ z3 => by
  simp only [List.contains_cons, List.contains_nil, Bool.or_false, beq_eq_false_iff_ne, ne_eq] at z3
  exact h z z1 z3⟩
theorem tab_in (w : World) : ∀ (i : Nat) (v : Value), [Value.ref 187, .ref 189, .ref 191, .ref 195, .ref 197, .ref 199, .ref 203, .ref 205, .ref 207, .ref 211][i]? = some v → i < 10 ∧ TabIn (Mine.hd.heap_1_1 w.params) v (fmT i) := by
  obtain ⟨h0, h1, h2, h3, h4, h5, h6, h7, h8, h9⟩ := tabs_in w
  intro i v hv
  match i, hv with
  | 0, hv => cases hv; exact ⟨by decide, h0⟩
  | 1, hv => cases hv; exact ⟨by decide, h1⟩
  | 2, hv => cases hv; exact ⟨by decide, h2⟩
  | 3, hv => cases hv; exact ⟨by decide, h3⟩
  | 4, hv => cases hv; exact ⟨by decide, h4⟩
  | 5, hv => cases hv; exact ⟨by decide, h5⟩
  | 6, hv => cases hv; exact ⟨by decide, h6⟩
  | 7, hv => cases hv; exact ⟨by decide, h7⟩
  | 8, hv => cases hv; exact ⟨by decide, h8⟩
  | 9, hv => cases hv; exact ⟨by decide, h9⟩
  | i + 10, hv => simp at hv
section
variable {prog : Program} {w : World} {A : Around} {E : Value → Shared → Prop} {s : Shared} {env : Env} {h₀ : Heap} {target : Expr} {body : List Stmt} {Q : Flow → Shared → Prop} {Qd : Shared → Prop}
theorem tup_ind {I : Addr} (J : List Value → (Str → Option Value) → Led → Prop)
    (step : ∀ v r m news (it : Obj) h tk, J (v :: r) m news → it.cls = .type "tuple_iterator" → Fr h₀ env.locals h m → News h₀ env.locals h ((I, it) :: news) →
      wpAny (model prog w) A (assign target env v) (fun _ s₃ => wpAny (model prog w) A (execs body env) (UnrPost h₀ env.locals { s with heap := h, toks := tk } I it (fun m' n' => J r m' n') Q) E s₃) E { s with heap := h, toks := tk })
    (done : ∀ m news h tk, J [] m news → Fr h₀ env.locals h m → News h₀ env.locals h news → Qd { s with heap := h, toks := tk }) :
    ∀ vs m news, J vs m news → TupRest prog w A E h₀ env target body Q Qd s I vs m news
  | [], m, news, hj => fun h tk F N => done m news h tk hj F N
  | v :: r, m, news, hj => fun it h tk hc F N => by
    refine wpAny_mono (step v r m news it h tk hj hc F N) (fun _ s₃ h₃ => wpAny_mono h₃ (fun f s₂ p => ?_) fun _ _ e => e) fun _ _ e => e
    have fin : UnrEnd h₀ env.locals { s with heap := h, toks := tk } I it (fun m' n' => J r m' n') s₂ → UnrEnd h₀ env.locals { s with heap := h, toks := tk } I it (TupRest prog w A E h₀ env target body Q Qd s I r) s₂ := by
      rintro ⟨h', tk', m', news', e, F', N', ho, hj'⟩
      exact ⟨h', tk', m', news', e, F', N', ho, tup_ind J step done r m' news' hj'⟩
    cases f with
    | ret v => exact p
    | brk => exact p
    | next => exact fin p
    | cont => exact fin p
/-- the loop over a table of pairs -/
theorem iter_pairs {K : Frag} {ax : Addr} {rs : List Value} {ps : List (Int × Str)} {m₀ : Str → Option Value} {news : Led} {b₁ c₁ : Str} (J : List (Int × Str) → Prop)
    (hh : A.handled = none) (F : Fr h₀ env.locals s.heap m₀) (N : News h₀ env.locals s.heap news) (X : K.In h₀) (hT : TupIn K ax rs) (hP : PairsIn K rs ps) (start : J ps)
    (step : ∀ I b t1 t2 x c r (u : Str → Option Value) (it : Obj) h tk, (∀ p ∈ news, p.1 < I) → J ((x, c) :: r) → IsTup h₀ b [.int x t1, .str c t2].toArray →
      Fr h₀ env.locals h (fun z => if z = b₁ then u z else if [c₁].contains z = true then u z else m₀ z) → News h₀ env.locals h ((I, it) :: news) →
      wpAny (model prog w) A (assign target env (.ref b)) (fun _ s₃ => wpAny (model prog w) A (execs body env) (UnrPost h₀ env.locals { s with heap := h, toks := tk } I it (fun m' n' => n' = news ∧ Keep b₁ [] [c₁] m₀ m' ∧ J r) Q) E s₃) E { s with heap := h, toks := tk })
    (done : ∀ (u : Str → Option Value) h tk, J [] → Fr h₀ env.locals h (fun z => if z = b₁ then u z else if [c₁].contains z = true then u z else m₀ z) → News h₀ env.locals h news → Qd { s with heap := h, toks := tk }) :
    wpAny (model prog w) A (pyIter (.ref ax)) (fun it s₂ => TurnsElse prog w A h₀ env target body Q Qd E it s₂) E s := by
  obtain ⟨lo, hk, hc, n, hd⟩ := hT
  refine iter_tupElse hh F N X hk hc hd fun I l => ?_
  refine tup_ind (fun r m n' => n' = news ∧ Keep b₁ [] [c₁] m₀ m ∧ ∃ ps, PairsIn K r ps ∧ J ps) ?_ ?_ rs m₀ news ⟨rfl, .refl (fun _ h => nomatch h), ps, hP, start⟩
  · rintro v r m n' it h tk ⟨en, hk2, ps, hp, hj⟩ hc2 F' N'
    rw [en] at N'
    obtain ⟨u, rfl⟩ := hk2.lam0
    cases hp with
    | cons hb hr =>
      rename_i b t1 t2 x c ps
      obtain ⟨o, ho, hcl, nn, hdt⟩ := hb
      refine wpAny_mono (step I b t1 t2 x c ps u it h tk l hj ⟨o, X _ _ ho, hcl, nn, hdt⟩ F' N') (fun _ s₃ h₃ => wpAny_mono h₃ (fun f s₂ p => ?_) fun _ _ e => e) fun _ _ e => e
      have fin : UnrEnd h₀ env.locals { s with heap := h, toks := tk } I it (fun m' n' => n' = news ∧ Keep b₁ [] [c₁] m₀ m' ∧ J ps) s₂ → UnrEnd h₀ env.locals { s with heap := h, toks := tk } I it (fun m' n' => n' = news ∧ Keep b₁ [] [c₁] m₀ m' ∧ ∃ ps, PairsIn K r ps ∧ J ps) s₂ := by
        rintro ⟨h', tk', m', news', e, F', N', ho, e1, e2, e3⟩
        exact ⟨h', tk', m', news', e, F', N', ho, e1, e2, ps, hr, e3⟩
      cases f with
      | ret v => exact p
      | brk => exact p
      | next => exact fin p
      | cont => exact fin p
  · rintro m n' h tk ⟨en, hk2, ps, hp, hj⟩ F' N'
    rw [en] at N'
    obtain ⟨u, rfl⟩ := hk2.lam0
    cases hp
    exact done u h tk hj F' N'
end
section
variable {prog : Program} {w : World} {A : Around} {E : Value → Shared → Prop} {s : Shared} {env : Env} {h₀ : Heap} {body : List Stmt} {Q : Flow → Shared → Prop}
theorem enum_tup2 {elts : List Expr} {k : Nat} {pos : Pos} {l : Addr} {vs : List Value} {m₀ : Str → Option Value} {news : Led} (J : (Str → Option Value) → Led → Nat → (Str → Option Value) → Led → Prop)
    (hh : A.handled = none) (F : Fr h₀ env.locals s.heap m₀) (N : News h₀ env.locals s.heap news) (hl : h₀.IsTuple l vs.toArray) (start : J m₀ news 0 m₀ news)
    (step : ∀ i v T t (e : Addr) (oe : Obj) (it : Addr) (oi : Obj) h tk m news', vs[i]? = some v → J m₀ news i m news' → IsTup h T #[.int (i : Int) t, v] → oe.cls = .type "enumerate" → oi.cls = .type "tuple_iterator" →
      (∀ p ∈ news, p.1 < it) → (∀ p ∈ news, p.1 < e) → it < e → Fr h₀ env.locals h m → News h₀ env.locals h ((e, oe) :: (it, oi) :: news') →
      wpAny (model prog w) A (assign (.Tuple elts k pos) env (.ref T)) (fun _ s₃ => wpAny (model prog w) A (execs body env) (EnTPost h₀ env.locals { s with heap := h, toks := tk } (e, oe) (it, oi) news (J m₀ news (i + 1)) Q) E s₃) E { s with heap := h, toks := tk })
    (done : ∀ m news' h tk, J m₀ news vs.length m news' → Fr h₀ env.locals h m → News h₀ env.locals h news' → Q .next { s with heap := h, toks := tk }) :
    wpAny (model prog w) A (call (.type "enumerate") [.ref l]) (fun xv s₁ => wpAny (model prog w) A (pyIter xv) (fun it s₂ => TurnsAt prog w A h₀ env (.Tuple elts k pos) body Q E it s₂) E s₁) E s :=
  enum_tup J hh F N hl start (fun i v T t e it h tk m news' => step i v T t e.1 e.2 it.1 it.2 h tk m news') done
end
@[elab_as_elim]
theorem FmJ.elim {mode : Int} {m₀ m : Str → Option Value} {l : Addr} {o₀ : Obj} {i : Nat} {news : Led} {P : (Str → Option Value) → Led → Prop} (hj : FmJ mode m₀ [(l, o₀)] i m news)
    (k : ∀ vs n (u : Str → Option Value), StrsAre vs (fmLs mode i) → vs.length = i → P (fun z => if z = Str.ofString "index" then u z else if [Str.ofString "table", Str.ofString "bit", Str.ofString "char"].contains z = true then u z else m₀ z) [(l, W.listOf (List.toArray vs) n)]) : P m news := by
  obtain ⟨l', o', vs, n, e0, rfl, hs, hl, hk⟩ := hj
  cases e0
  obtain ⟨u, rfl⟩ := hk.lam0
  exact k vs n u hs hl
theorem FmJ.next {mode : Int} {m₀ m : Str → Option Value} {l : Addr} {o₀ : Obj} {vs : List Value} {n i : Nat} {c : Str} {t : Tok} (hs : StrsAre vs (fmLs mode i)) (hl : vs.length = i) (e : fmL mode i = c)
    (k : ∀ z, z ≠ Str.ofString "index" → z ≠ Str.ofString "table" → z ≠ Str.ofString "bit" → z ≠ Str.ofString "char" → m z = m₀ z) : FmJ mode m₀ [(l, o₀)] (i + 1) m [(l, W.listOf (vs.toArray.push (.str c t)) n)] :=
  fm_fin hs hl rfl e ⟨(fun _ h => nomatch h), fun z z1 _ z3 => by
    simp only [List.contains_cons, List.contains_nil, Bool.or_false, Bool.or_eq_false_iff, beq_eq_false_iff_ne, ne_eq] at z3
    exact k z z1 z3.1 z3.2.1 z3.2.2⟩
theorem ite_ne0 {x : Int} {P Q : Prop} (h : x ≠ 0) (q : Q) : if (x == 0) = true then P else Q := by
  rw [if_neg (by simpa using h)]; exact q
section
theorem words_14_6 : True := by
  (k_with "my ite" => ((rename @Ne Int _ 0 => hiJ_r); with_reducible refine ite_ne0 hiJ_r ?_))
  trivial
theorem c_filemode (w : World) (mode : Int) (t : Tok) (h1 : 0 ≤ mode) (h2 : mode < 65536) :
    PCon w 219 3 [Value.int mode t] (fun _ => True) (OutV fun t => .str (Txt.join (Str.ofString "") (fmLs mode 10)) t) := by
  have hT : ∃ o, (Mine.hd.heap_1_1 w.params).lookup 212 = some o ∧ o.cls = .type "tuple" ∧ ∃ n, o.data = .seq [Value.ref 187, .ref 189, .ref 191, .ref 195, .ref 197, .ref 199, .ref 203, .ref 205, .ref 207, .ref 211].toArray n := ⟨_, by k_is, rfl, _, rfl⟩
  obtain ⟨oT, hT1, hT2⟩ := hT
  walk_at "con enter"
  k_steps
  unfold Stop
  rename Fr _ _ _ _ => lF
  rename News _ _ _ _ => lN
  rename Frag.In _ _ => lX
  with_unfolding_all refine' enum_tup2 (FmJ mode) (by rfl) lF lN ⟨oT, lX _ _ hT1, hT2⟩ ⟨_, _, [], 0, rfl, rfl, .nil, rfl, .refl (fun _ h => nomatch h)⟩ ?step ?done
  case step =>
    clear lF lN
    intro i v TT tt e oe it oi h tk m news ev hj hT hc1 hc2 l1 l2 l3 F' N'
    k_lt l1
    k_lt l2
    have hi := (tab_in w i v ev).1
    have hv := (tab_in w i v ev).2
    clear ev
    revert hT F' N'
    refine FmJ.elim hj ?_
    clear hj
    intro vs n u hs hlv hT F' N'
    revert hT F' N'
    refine TabIn.elim hv ?_
    clear hv
    intro a rs hTu hP hT F' N'
    have hlv2 : vs.length ≤ 1048576 := by omega
    rcases Nat.eq_zero_or_pos i with h0 | h0
    · subst h0
      k_steps
      unfold Stop
      rename Fr _ _ _ _ => lF
      rename News _ _ _ _ => lN
      with_unfolding_all refine' iter_pairs (b₁ := Str.ofString "bit") (c₁ := Str.ofString "char") (fun r => (∀ p ∈ r, 0 ≤ p.1 ∧ p.1 < 65536 ∧ p.2.length = 1) ∧ fmPick0 mode r = fmL mode 0) (by rfl) lF lN lX hTu hP ⟨fmT_in 0, rfl⟩ ?stepI ?doneI
      case stepI =>
        clear lF lN
        intro I b t1 t2 x c r u2 it2 h2 tk2 lI hj hb F' N'
        k_lt lI
        have hx1 := (hj.1 _ (.head _)).1
        have hx2 := (hj.1 _ (.head _)).2.1
        dsimp only at hx1 hx2
        k_steps
        · rename Builtin.bitAnd _ _ = _ => hq
          rename Fr _ _ _ _ => lF
          rename News _ _ _ _ => lN
          exact EnT.here1 lF lN rfl (FmJ.next hs hlv (hj.2.symm.trans (fmPick0_pos hq)) fun z z1 z2 z3 z4 => by simp [z1, z2, z3, z4])
        · rename Builtin.bitAnd _ _ ≠ _ => hq
          rename Fr _ _ _ _ => lF
          rename News _ _ _ _ => lN
          exact UnrEnd.here lF lN (by walk_at "off all") ⟨rfl, Keep.pair fun z z1 z2 => by simp [z1, z2], fun p hp => hj.1 p (.tail _ hp), (fmPick0_neg hq rfl).symm.trans hj.2⟩
      case doneI =>
        clear lF lN
        intro u2 h2 tk2 hj F' N'
        k_steps
        rename Fr _ _ _ _ => lF
        rename News _ _ _ _ => lN
        exact EnT.here lF lN rfl (FmJ.next hs hlv hj.2.symm fun z z1 z2 z3 z4 => by simp [z1, z2, z3, z4])
    · obtain ⟨j, rfl⟩ : ∃ j, i = j + 1 := ⟨i - 1, by omega⟩
      have hij : ((j + 1 : Nat) : Int) ≠ 0 := by omega
      k_steps
      unfold Stop
      rename Fr _ _ _ _ => lF
      rename News _ _ _ _ => lN
      with_unfolding_all refine' iter_pairs (b₁ := Str.ofString "bit") (c₁ := Str.ofString "char") (fun r => (∀ p ∈ r, 0 ≤ p.1 ∧ p.1 < 65536 ∧ p.2.length = 1) ∧ fmPick mode r = fmL mode (j + 1)) (by rfl) lF lN lX hTu hP ⟨fmT_in (j + 1), (fmL_T mode j).symm⟩ ?stepI ?doneI
      case stepI =>
        clear lF lN
        intro I b t1 t2 x c r u2 it2 h2 tk2 lI hj hb F' N'
        k_lt lI
        have hx1 := (hj.1 _ (.head _)).1
        have hx2 := (hj.1 _ (.head _)).2.1
        dsimp only at hx1 hx2
        k_steps
        · rename Builtin.bitAnd _ _ = _ => hq
          rename Fr _ _ _ _ => lF
          rename News _ _ _ _ => lN
          exact EnT.here1 lF lN rfl (FmJ.next hs hlv (hj.2.symm.trans (fmPick_pos hq)) fun z z1 z2 z3 z4 => by simp [z1, z2, z3, z4])
        · rename Builtin.bitAnd _ _ ≠ _ => hq
          rename Fr _ _ _ _ => lF
          rename News _ _ _ _ => lN
          exact UnrEnd.here lF lN (by walk_at "off all") ⟨rfl, Keep.pair fun z z1 z2 => by simp [z1, z2], fun p hp => hj.1 p (.tail _ hp), (fmPick_neg hq rfl).symm.trans hj.2⟩
      case doneI =>
        clear lF lN
        intro u2 h2 tk2 hj F' N'
        k_steps
        rename Fr _ _ _ _ => lF
        rename News _ _ _ _ => lN
        exact EnT.here lF lN rfl (FmJ.next hs hlv hj.2.symm fun z z1 z2 z3 z4 => by simp [z1, z2, z3, z4])
  case done =>
    clear lF lN
    intro m news h tk hj F' N'
    revert F' N'
    refine FmJ.elim hj ?_
    clear hj
    intro vs n u hs hlv F' N'
    have hs' : StrsAre vs (fmLs mode 10) := hs
    have hw : ((fmLs mode 10).map (·.length)).sum + (fmLs mode 10).length ≤ 1048576 := by rw [fmLs_sum, fmLs_len]; omega
    k_steps
    all_goals walk_at "con v"
end
theorem words_14_7 : True := by
  k_with_none
  (k_with "my con args" => ((rename Fr _ _ _ _ => F1_r); with_unfolding_all (first | change Fr _ _ _ (fun y => List.lookup y [(Str.ofString _, _)]) at F1_r | change Fr _ _ _ (fun y => List.lookup y [(Str.ofString _, _), (Str.ofString _, _)]) at F1_r | change Fr _ _ _ (fun y => List.lookup y [(Str.ofString _, _), (Str.ofString _, _), (Str.ofString _, _)]) at F1_r)))
  (k_with "my execs cons" => k_fold)
  (k_with "my exec If" => k_fold)
  (k_with "my con def" => (refine' enter_def ?k1_q4 ?k3_q4 ?k5_q4 ?k6_q4 ?k7_q4 ?k8_q4 ?k9_q4 ?kB_q4 ?_ ?c2_q4 ?c3_q4 ?c4_q4 ?c5_q4; (case k1_q4 => k_asm); (case k3_q4 => k_asm); (case k5_q4 => k_asm); (case k6_q4 => k_is); (case k7_q4 => k_is); (case k8_q4 => omega); (case k9_q4 => first | exact BindsTo.of_eq rfl | exact binds_K (by k_in) rfl (by k_is) rfl rfl rfl); (case c5_q4 => decide); (case kB_q4 => exact locs rfl); (case c2_q4 => exact rfl); (case c3_q4 => exact rfl); (case c4_q4 => exact rfl); k_whole; intro L_p h_p F_p N_p; (try dsimp only); (try walk_at "con args"); (try k_fold)))
  (k_with "my con rest" => (refine' enter_rest ?k1_q5 ?k3_q5 ?k5_q5 ?k6_q5 ?k7_q5 ?k8_q5 ?k9_q5 ?kz_q5 ?kB_q5 ?_ ?c2_q5 ?c3_q5 ?c4_q5 ?c5_q5; (case k1_q5 => k_asm); (case k3_q5 => k_asm); (case k5_q5 => k_asm); (case k6_q5 => k_is); (case k7_q5 => k_is); (case k8_q5 => omega); (case k9_q5 => exact rfl); (case kz_q5 => exact Nat.le_of_ble_eq_true rfl); (case c5_q5 => decide); (case kB_q5 => exact fun _ => locs rfl); (case c2_q5 => exact rfl); (case c3_q5 => exact rfl); (case c4_q5 => exact rfl); k_whole; intro D_p L_p h_p F_p N_p; (try dsimp only); (try walk_at "con args"); (try k_fold)))
  (k_with "my con enter" => (unfold PCon; intro p_r loose_r mean_r mg_r mb_r dp_r un_r gd_r env_r outer_r base_r s_r R_r B_r X_r T_r hd_r hu_r hpre_r hret_r; k_dflt (first | walk_at "con def" | walk_at "con rest")))
  (k_with "my con end" => (repeat (first | (k_unfold; (try dsimp only)) | dsimp only)))
  (k_with "my con v" => (walk_at "con end"; (rename PRet _ _ _ => hret_r); first | exact pret_v (V := fun t => Value.str _ t) hret_r (by k_asm) | exact pret_v (V := fun t => Value.int _ t) hret_r (by k_asm) | exact pret_v (V := fun _ => Value.bool _) hret_r (by k_asm)))
  (k_with "my con room" => first | omega | (dsimp only [topA, ktrTop, Around.deeper] at *; omega) | ktr_room | (simp only [depth_deeper, depth_caller, units_deeper, units_caller] at *; omega))
  (k_with "my con use" => ((case B_q => k_asm); (case F_q => k_asm); (case X_q => k_asm); (case N_q => k_asm); (case T_q => k_asm); (case hf_q => exact rfl); (case hk_q => exact rfl); (case hd_q => walk_at "con room"); (case hu_q => walk_at "con room")))
  (k_with "my con use v" => ((case hp_q => exact True.intro); walk_at "con use"; intro t9_r h9_r tk9_r F9_r N9_r; (try k_sweep); (try k_fold)))
  (k_with "my call builtin:issubclass" => (k_here; k_dflt (refine' iss_call ?h_q12 ?_; (case h_q12 => exact News.get (by k_asm) (by k_mem)); k_whole)))
  (k_with "my call ref" => (k_here; (with_reducible show wpAny _ _ (call (Value.ref 94) _) _ _ _); k_dflt (refine' PCon.useV (c_fspath _ _ _) ?B_q ?F_q ?X_q ?N_q ?T_q ?hf_q ?hk_q ?hd_q ?hu_q ?hp_q ?_; walk_at "con use v")))
  (k_with "my call ref" => (k_here; (with_reducible show wpAny _ _ (call (Value.ref 115) _) _ _ _); k_dflt (refine' PCon.useV (c_getsep _ _ _) ?B_q ?F_q ?X_q ?N_q ?T_q ?hf_q ?hk_q ?hd_q ?hu_q ?hp_q ?_; walk_at "con use v")))
  (k_with "my truthy str" => (k_here; (with_reducible show wpAny _ _ (PySem.truthy (Value.str _ _)) _ _ _); refine' truthy_ne ?a_q15 ?b_q15 ?_; (case a_q15 => assumption); (case b_q15 => omega); intro _))
  (k_with "my call ref" => (k_here; (with_reducible show wpAny _ _ (call (Value.ref 136) _) _ _ _); k_dflt (refine' PCon.useV (c_dirname _ _ _ (by omega)) ?B_q ?F_q ?X_q ?N_q ?T_q ?hf_q ?hk_q ?hd_q ?hu_q ?hp_q ?_; walk_at "con use v")))
  (k_with "my call ref" => (k_here; (with_reducible show wpAny _ _ (call (Value.ref 122) _) _ _ _); k_dflt (refine' PCon.useV (c_join _ _ _ _ _ (by omega) (by omega)) ?B_q ?F_q ?X_q ?N_q ?T_q ?hf_q ?hk_q ?hd_q ?hu_q ?hp_q ?_; walk_at "con use v")))
  (k_with "my call ref" => (k_here; (with_reducible show wpAny _ _ (call (Value.ref 129) _) _ _ _); k_dflt (refine' PCon.use (c_splitroot _ _ _ (by omega) (by assumption) (by assumption)) ?B_q ?F_q ?X_q ?N_q ?T_q ?hf_q ?hk_q ?hd_q ?hu_q ?hp_q18 ?_; (case hp_q18 => exact True.intro); walk_at "con use"; intro r9_r tl9_r h9_r tk9_r S9_r F9_r N9_r D9_r O9_r; obtain ⟨a9_r, t9_r, t9_p, t9'_p, e9_r, e9_p⟩ := O9_r; subst e9_r; subst e9_p; clear D9_r S9_r; (try simp only [List.cons_append, List.nil_append] at N9_r); (try dsimp only); (try k_fold))))
  (k_with "my call builtin:str.join" => (k_here; (with_reducible show wpAny _ _ (call (Value.builtin _) [Value.str _ _, Value.ref _]) _ _ _); k_dflt (refine' join_listW (News.isList (by k_asm) (by k_mem)) (by assumption) (by decide +kernel) (by assumption) ?_); intro _ _))
  (k_with "my call ref" => (k_here; (with_reducible show wpAny _ _ (call (Value.ref 143) _) _ _ _); k_dflt (refine' PCon.useV (c_normpath _ _ _ _ (by omega) (by assumption) (by assumption) (by assumption) (by assumption) (by assumption) (by assumption) (by assumption)) ?B_q ?F_q ?X_q ?N_q ?T_q ?hf_q ?hk_q ?hd_q ?hu_q ?hp_q ?_; walk_at "con use v")))
  (k_with "my call ref" => (k_here; (with_reducible show wpAny _ _ (call (Value.ref 150) _) _ _ _); k_dflt (refine' PCon.useV (c_abs _ _ _ _ _ (by assumption)) ?B_q ?F_q ?X_q ?N_q ?T_q ?hf_q ?hk_q ?hd_q ?hu_q ?hp_q ?_; walk_at "con use v")))
  (k_with "my call builtin:min" => (k_here; (with_reducible show wpAny _ _ (call (Value.builtin _) [Value.ref _]) _ _ _); k_dflt (refine' min_K ?F_q22 ?N_q22 ?l_q22 ?a_q22 ?b_q22 ?x_q22 ?y_q22 ?e_q22 ?h_q22 ?u_q22 ?_; (case F_q22 => k_asm); (case N_q22 => k_asm); (case l_q22 => assumption); (case a_q22 => assumption); (case b_q22 => assumption); (case x_q22 => assumption); (case y_q22 => assumption); (case e_q22 => assumption); (case h_q22 => rfl); (case u_q22 => walk_at "con room")); intro h_p tk_p F_p N_p))
  (k_with "my call builtin:max" => (k_here; (with_reducible show wpAny _ _ (call (Value.builtin _) [Value.ref _]) _ _ _); k_dflt (refine' max_K ?F_q23 ?N_q23 ?l_q23 ?a_q23 ?b_q23 ?x_q23 ?y_q23 ?e_q23 ?h_q23 ?u_q23 ?_; (case F_q23 => k_asm); (case N_q23 => k_asm); (case l_q23 => assumption); (case a_q23 => assumption); (case b_q23 => assumption); (case x_q23 => assumption); (case y_q23 => assumption); (case e_q23 => assumption); (case h_q23 => rfl); (case u_q23 => walk_at "con room")); intro h_p tk_p F_p N_p))
  (k_with "my EnumPost" => (dsimp only [EnumPost]))
  (k_with "my call builtin:isinstance" => (k_here; (with_reducible show wpAny _ _ (call _ [Value.ref _, Value.ref _]) _ _ _); k_dflt (refine' kia_tup kitx_list ?X_q25 ?H_q25 ?t_q25 ?e_q25 ?x_q25 ?_; (case X_q25 => k_in); (case H_q25 => exact kitAt_old (by k_asm) (by assumption)); (case t_q25 => exact News.get (by k_asm) (by k_mem)); (case e_q25 => exact rfl); (case x_q25 => intro e_r; cases e_r); k_whole; intro _)))
  (k_with "my exec For Tuple Call cons nil" => (k_here; (with_reducible show wpAny _ _ (exec _ (envOf (Str.ofString "commonprefix") _ _ _ _)) _ _ _); (rename Fr _ _ _ _ => lF_p); (with_unfolding_all refine' For_turns lF_p ?_; k_whole)))
  (k_with "my call type:enumerate" => ((with_reducible show wpAny _ (Around.deeper _ (envOf (Str.ofString "commonprefix") _ _ _ _)) (call _ _) _ _ _); refine Stop.out ?_))
  (k_with "my call ref" => (k_here; (with_reducible show wpAny _ _ (call (Value.ref 101) _) _ _ _); k_dflt (refine' PCon.use (c_cpref' _ _ _ _ _ _ _ _ _ _ _ (by assumption) (by assumption) (by assumption) (by assumption) (by assumption) (by omega) (by omega)) ?B_q ?F_q ?X_q ?N_q ?T_q ?hf_q ?hk_q ?hd_q ?hu_q ?hp_q28 ?_; (case hp_q28 => exact ⟨News.isList (by k_asm) (by k_mem), News.isList (by k_asm) (by k_mem), News.isList (by k_asm) (by k_mem)⟩); walk_at "con use"; intro r9_r tl9_r h9_r tk9_r S9_r F9_r N9_r D9_r O9_r; obtain ⟨e9_r, c9_r, cs9_r, e9_p, l9_r, n9_r⟩ := O9_r; subst e9_r; subst e9_p; clear D9_r S9_r; (try simp only [List.nil_append] at N9_r); (try dsimp only); (try k_fold))))
  (k_with "my own list" => first | assumption | exact News.isList (by k_asm) (by k_mem) | exact isList_old (by k_asm) (by assumption))
  (k_with "my own size" => first | omega | assumption | (rw [List.length_drop, strValues_len (by assumption) (by assumption)]; omega) | (rw [strValues_len (by assumption) (by assumption)]; omega) | (rw [List.length_replicate]; omega) | exact rel_ne (by assumption) (by assumption) (by omega) | exact rel_le (by assumption) (by assumption) (by omega) (by omega))
  (k_with "my call builtin:len" => (k_here; (with_reducible show wpAny _ _ (call (Value.builtin "len") [Value.ref _]) _ _ _); k_dflt (refine' len_known ?l_q31 ?n_q31 ?z_q31 ?_; (case l_q31 => assumption); (case n_q31 => assumption); (case z_q31 => omega)); intro _ _))
  (k_with "my call builtin:len" => (k_here; (with_reducible show wpAny _ _ (call (Value.builtin "len") [Value.ref _]) _ _ _); k_dflt (refine' len_known ?l_q32 ?n_q32 ?z_q32 ?_; (case l_q32 => exact News.isList (by k_asm) (by k_mem)); (case n_q32 => exact strValues_len (by assumption) (by assumption)); (case z_q32 => omega)); intro _ _))
  (k_with "my binaryOp Mult ref int" => (k_here; (with_reducible show wpAny _ (Around.deeper _ (envOf (Str.ofString "relpath") _ _ _ _)) (binaryOp Operator.Mult (Value.ref _) (Value.int _ _)) _ _ _); k_dflt (refine' mul_own ?F_q33 ?N_q33 ?l_q33 ?a_q33 ?b_q33 ?_; (case F_q33 => k_asm); (case N_q33 => k_asm); (case l_q33 => walk_at "own list"); (case a_q33 => omega); (case b_q33 => omega)); intro D_p h_p F_p N_p l1_r; (try k_lt l1_r); (try k_sweep)))
  (k_with "my binaryOp Add ref ref" => (k_here; (with_reducible show wpAny _ (Around.deeper _ (envOf (Str.ofString "relpath") _ _ _ _)) (binaryOp Operator.Add (Value.ref _) (Value.ref _)) _ _ _); k_dflt (refine' add_own ?F_q34 ?N_q34 ?l_q34 ?r_q34 ?a_q34 ?b_q34 ?_; (case F_q34 => k_asm); (case N_q34 => k_asm); (case l_q34 => walk_at "own list"); (case r_q34 => walk_at "own list"); (case a_q34 => walk_at "own size"); (case b_q34 => walk_at "own size")); intro D_p h_p F_p N_p l1_r; (try k_lt l1_r); (try k_sweep)))
  (k_with "my subscriptTail Name Slice ref ref" => (k_here; (with_reducible show wpAny _ (Around.deeper _ (envOf (Str.ofString "relpath") _ _ _ _)) (subscriptTail _ (PySem.Expr.Slice _ _ none _) (Value.ref _) (Value.ref _)) _ _ _); k_dflt (refine' kms_slice_lit ?F_q35 ?N_q35 ?l_q35 ?p_q35 ?q_q35 ?e_q35 ?_ ?s_q35 ?t_q35 ?z_q35; (case F_q35 => k_asm); (case N_q35 => k_asm); (case l_q35 => walk_at "own list"); (case p_q35 => kmk_part); (case q_q35 => kmk_part); (case e_q35 => exact pick_from _); (case s_q35 => with_unfolding_all rfl); (case t_q35 => kmk_pure); (case z_q35 => (rw [List.size_toArray, strValues_len (by assumption) (by assumption)]; unfold sizeLine; omega))); intro D_p h_p F_p N_p l1_r; (try k_lt l1_r); (try k_sweep)))
  (k_with "my truthy ref" => (k_here; (with_reducible show wpAny _ (Around.deeper _ (envOf (Str.ofString "relpath") _ _ _ _)) (PySem.truthy (Value.ref _)) _ _ _); refine' truthy_long ?l_q36 ?a_q36 ?b_q36 ?_; (case l_q36 => walk_at "own list"); (case a_q36 => walk_at "own size"); (case b_q36 => walk_at "own size"); intro _))
  (k_with "my call builtin:str.join" => (k_here; (with_reducible show wpAny _ (Around.deeper _ (envOf (Str.ofString "relpath") _ _ _ _)) (call (Value.builtin _) [Value.str _ _, Value.ref _]) _ _ _); k_dflt (refine' join_listW (News.isList (by k_asm) (by k_mem)) (rel_strs (by assumption) (by assumption)) (by decide +kernel) (by assumption) ?_); intro _ _))
  (k_with "my call ref" => (k_here; (with_reducible show wpAny _ _ (call (Value.ref 158) _) _ _ _); k_dflt (refine' PCon.useV (c_rel _ _ _ _ _ _ _ _ _ _ _ (by assumption)) ?B_q ?F_q ?X_q ?N_q ?T_q ?hf_q ?hk_q ?hd_q ?hu_q ?hp_q ?_; walk_at "con use v")))
  (k_with "my costs" => first | assumption | ((rename TabAt _ _ _ _ _ => tAb_r); exact tAb_r.ofFr (by k_asm)))
  (k_with "my subscriptTail" => ((with_reducible show wpAny _ (Around.deeper _ (envOf (Str.ofString "_law_cost") _ _ _ _)) (subscriptTail _ _ (Value.ref _) (Value.str _ _)) _ _ _); refine' kdp_item ?a_q40 ?b_q40 ?_; (case a_q40 => walk_at "costs"); (case b_q40 => assumption); intro _))
  (k_with "my call builtin:dict.get" => ((with_reducible show wpAny _ (Around.deeper _ (envOf (Str.ofString "_law_cost") _ _ _ _)) _ _ _ _); refine' kdp_get2 ?a_q41 ?_; (case a_q41 => walk_at "costs"); intro _))
  (k_with "my call ref" => (k_here; (with_reducible show wpAny _ _ (call (Value.ref 259) _) _ _ _); refine Stop.out ?_))
  (k_with "my EnTPost" => (dsimp only [EnTPost]))
  (k_with "my TupRest" => first | ((with_unfolding_all refine TupRest.succ (fun it' h' tk' hc' F' N' => ?_)); (try dsimp only); (try k_fold)) | ((with_unfolding_all refine TupRest.zero (fun h' tk' F' N' => ?_)); (try dsimp only); (try k_fold)))
  (k_with "my exec For Tuple Call cons nil" => (k_here; (with_reducible show wpAny _ _ (exec _ (envOf (Str.ofString "filemode") _ _ _ _)) _ _ _); (rename Fr _ _ _ _ => lF_p); (with_unfolding_all refine' For_turns lF_p ?_; k_whole)))
  (k_with "my call type:enumerate" => ((with_reducible show wpAny _ (Around.deeper _ (envOf (Str.ofString "filemode") _ _ _ _)) (call _ _) _ _ _); refine Stop.out ?_))
  (k_with "my exec For" => (k_here; (with_reducible show wpAny _ _ (exec (Stmt.For _ (Expr.Name _ _) _ (_ :: _) _) (envOf (Str.ofString "filemode") _ _ _ _)) _ _ _); (rename Fr _ _ _ _ => lF_p); (with_unfolding_all refine' For_else lF_p ?_; k_whole)))
  (k_with "my pyIter ref" => ((with_reducible show wpAny _ (Around.deeper _ (envOf (Str.ofString "filemode") _ _ _ _)) (pyIter (Value.ref _)) _ _ _); refine Stop.out ?_))
  (k_with "my off all" => repeat (first | exact off_nil | refine off_cons (by (try dsimp only); k_ne) ?_))
  (k_with "my UnrEnd" => ((with_reducible show UnrEnd _ _ _ _ _ (TupRest _ _ _ _ _ _ _ _ _ _ _ _ _) _); refine UnrEnd.here (by k_asm) (by k_asm) (by walk_at "off all") ?_))
  (k_with "my fm pick" => first | rfl | exact fmPick_pos (by assumption) | exact fmPick0_pos (by assumption) | (refine fmPick_neg (by assumption) ?_; walk_at "fm pick") | (refine fmPick0_neg (by assumption) ?_; walk_at "fm pick"))
  (k_with "my fm end" => ((rename Fr _ _ _ _ => lF_r); (rename News _ _ _ _ => lN_r); (first | refine EnT.here lF_r lN_r (by exact rfl) ?_ | refine EnT.here1 lF_r lN_r (by exact rfl) ?_); (refine fm_fin (by assumption) (by assumption) rfl (by walk_at "fm pick") ⟨(fun _ h => nomatch h), fun z z1 _ z3_r => ?_⟩; (simp only [List.contains_cons, List.contains_nil, Bool.or_false, Bool.or_eq_false_iff, beq_eq_false_iff_ne, ne_eq] at z3_r); (obtain ⟨z3_r, z4_r, z5_r⟩ := z3_r); simp [z1, z3_r, z4_r, z5_r])))
  (k_with "my call ref" => (k_here; (with_reducible show wpAny _ _ (call (Value.ref 179) _) _ _ _); k_dflt (refine' PCon.useV (c_sifmt _ _ _ (by assumption) (by assumption)) ?B_q ?F_q ?X_q ?N_q ?T_q ?hf_q ?hk_q ?hd_q ?hu_q ?hp_q ?_; walk_at "con use v")))
  trivial
/-- a place of the tree -/
structure Row where
  up : Nat
  dep : Nat
  name : Str
  mode : Int
  way : Str
noncomputable def names : List Str := [Str.ofString "a", Str.ofString "...", Str.ofString "a-", Str.ofString "b.", Str.ofString "-"]
noncomputable def Row.root : Row := ⟨0, 0, Str.ofString "", 0, Str.ofString "/"⟩
noncomputable def rowOf (T : List Row) (x : Int) : Row :=
  { up := (x.fmod (T.length : Int)).toNat, dep := (T.getD (x.fmod (T.length : Int)).toNat Row.root).dep + 1, name := names.getD (T.length - 1) (Str.ofString ""), mode := (x.fdiv 64).fmod 65536,
    way := (if x.fmod (T.length : Int) = 0 then Str.ofString "" else (T.getD (x.fmod (T.length : Int)).toNat Row.root).way) ++ (Str.ofString "/") ++ names.getD (T.length - 1) (Str.ofString "") }
noncomputable def treeOf : List Row → List Int → List Row
  | T, [] => T
  | T, x :: r => treeOf (T ++ [rowOf T x]) r
structure RTok where
  a : Tok
  b : Tok
  c : Tok
  d : Tok
  e : Tok
noncomputable def rowVals (r : Row) (t : RTok) : List Value := [.int (r.up : Int) t.a, .int (r.dep : Int) t.b, .str r.name t.c, .int r.mode t.d, .str r.way t.e]
/-- the ledger of the rows -/
noncomputable def rowLed : List Addr → List Row → List RTok → Led
  | a :: as, r :: T, t :: ts => (a, tupO (rowVals r t)) :: rowLed as T ts
  | _, _, _ => []
theorem rowLed_mem : ∀ {as : List Addr} {T : List Row} {ts : List RTok} {i : Nat}, as.length = T.length → ts.length = T.length → i < T.length → ∃ a t, as[i]? = some a ∧ (a, tupO (rowVals (T.getD i Row.root) t)) ∈ rowLed as T ts
  | [], [], _, i, _, _, h => absurd h (Nat.not_lt_zero _)
  | a :: as, r :: T, t :: ts, i, h1, h2, h3 => by
    cases i with
    | zero => exact ⟨a, t, rfl, List.mem_cons_self ..⟩
    | succ i =>
      obtain ⟨b, u, e1, e2⟩ := rowLed_mem (as := as) (T := T) (ts := ts) (i := i) (by simpa using h1) (by simpa using h2) (by simpa using h3)
      exact ⟨b, u, by simpa using e1, List.mem_cons_of_mem _ (by simpa using e2)⟩
  | a :: as, r :: T, [], i, _, h, _ => by cases h
  | a :: as, [], _, _, h, _, _ => by cases h
  | [], r :: T, _, _, h, _, _ => by cases h
theorem rowLed_snoc : ∀ {as : List Addr} {T : List Row} {ts : List RTok} {a : Addr} {r : Row} {t : RTok}, as.length = T.length → ts.length = T.length → rowLed (as ++ [a]) (T ++ [r]) (ts ++ [t]) = rowLed as T ts ++ [(a, tupO (rowVals r t))]
  | [], [], ts, a, r, t, _, h => by
    obtain rfl : ts = [] := List.length_eq_zero_iff.mp h
    rfl
  | b :: as, q :: T, u :: ts, a, r, t, h1, h2 => by
    have := rowLed_snoc (as := as) (T := T) (ts := ts) (a := a) (r := r) (t := t) (by simpa using h1) (by simpa using h2)
    simpa [rowLed] using this
  | _ :: _, _ :: _, [], _, _, _, _, h => by cases h
  | _ :: _, [], _, _, _, _, h, _ => by cases h
  | [], _ :: _, _, _, _, _, h, _ => by cases h
theorem size_of_len {vs : List Value} (h : vs.length ≤ 1048576) : vs.toArray.size ≤ sizeLine := by rw [List.size_toArray]; unfold sizeLine; omega
theorem words_15_1 : True := by
  (k_with "my own mem" => first | k_mem | (repeat (first | assumption | refine List.mem_cons_of_mem _ ?_)))
  (k_with "my own item" => first | (refine' item_listL ?l_q56 ?a_q56 ?b_q56 ?c_q56 ?_; (case l_q56 => exact News.isList (by k_asm) (by walk_at "own mem")); (case a_q56 => omega); (case b_q56 => omega); (case c_q56 => (first | assumption | rfl))) | (refine' item_tupleL ?l_q56 ?a_q56 ?b_q56 ?c_q56 ?d_q56 ?_; (case l_q56 => exact ⟨_, News.get (by k_asm) (by walk_at "own mem"), rfl, _, rfl⟩); (case a_q56 => decide); (case b_q56 => decide); (case c_q56 => rfl); (case d_q56 => rfl)))
  (k_with "my subscriptTail" => (k_here; (with_reducible show wpAny _ (Around.deeper _ (envOf (Str.ofString "_law_tree") _ _ _ _)) (subscriptTail _ _ (Value.ref _) (Value.int _ _)) _ _ _); walk_at "own item"))
  (k_with "my call builtin:len" => (k_here; (with_reducible show wpAny _ (Around.deeper _ (envOf (Str.ofString "_law_tree") _ _ _ _)) (call (Value.builtin "len") [Value.ref _]) _ _ _); k_dflt (refine' len_known ?l_q58 ?n_q58 ?z_q58 ?_; (case l_q58 => exact News.isList (by k_asm) (by walk_at "own mem")); (case n_q58 => assumption); (case z_q58 => omega)); intro _ _))
  (k_with "my own upd" => first | (refine' Upd.head ?a_q59; (case a_q59 => first | assumption | (walk_at "off all"; done))) | (refine' Upd.tail ?a_q59 ?b_q59; (case a_q59 => k_ne); (case b_q59 => walk_at "own upd")))
  (k_with "my call builtin:list.append" => (k_here; (with_reducible show wpAny _ (Around.deeper _ (envOf (Str.ofString "_law_tree") _ _ _ _)) (call (Value.builtin _) [Value.ref _, _]) _ _ _); k_dflt (refine' append_K ?k1_q60 ?k2_q60 ?k3_q60 ?_ ?z_q60; (case k1_q60 => k_asm); (case k2_q60 => k_asm); (case k3_q60 => walk_at "own upd"); (case z_q60 => exact size_of_len (by assumption)); k_whole); intro h_p F_p N_p; (try k_sweep)))
  (k_with "my pyIter ref" => ((with_reducible show wpAny _ (Around.deeper _ (envOf (Str.ofString "_law_tree") _ _ _ _)) (pyIter (Value.ref _)) _ _ _); refine Stop.out ?_))
  trivial
/-- the rest of the numbers makes the tree whole -/
noncomputable def TreeJ (ns : List Int) (m₀ : Str → Option Value) (news₀ : Led) (r : List Value) (m : Str → Option Value) (news : Led) : Prop :=
  ∃ (tr : Addr) (o₀ : Obj) (rl : Led) (as : List Addr) (T : List Row) (ts : List RTok) (n : Nat) (ms : List Int), (∃ q, news₀ = (tr, o₀) :: q) ∧ IntsAre r ms ∧ news = (tr, W.listOf (as.map Value.ref).toArray n) :: rl ∧ (∀ p ∈ rowLed as T ts, p ∈ rl) ∧ (∀ p ∈ rl, p.1 ≠ tr) ∧ as.length = T.length ∧ ts.length = T.length ∧
    treeOf T ms = treeOf [Row.root] ns ∧ T.length + ms.length = ns.length + 1 ∧ 0 < T.length ∧ (∀ q ∈ T, q.way.length ≤ 16 * T.length) ∧
    Keep (Str.ofString "x") [] [Str.ofString "up", Str.ofString "name", Str.ofString "way"] m₀ m
theorem names_len (i : Nat) : (names.getD i (Str.ofString "")).length ≤ 3 := by
  unfold names
  match i with
  | 0 | 1 | 2 | 3 | 4 => simp [List.getD]; decide +kernel
  | i + 5 => simp [List.getD]; decide +kernel
theorem rowOf_way {T : List Row} (x : Int) (h : ∀ q ∈ T, q.way.length ≤ 16 * T.length) : (rowOf T x).way.length ≤ 16 * (T.length + 1) := by
  have h1 : (Str.ofString "/").length = 1 := by decide +kernel
  have h0 : (Str.ofString "").length = 0 := by decide +kernel
  have h2 := names_len (T.length - 1)
  show ((if x.fmod (T.length : Int) = 0 then Str.ofString "" else (T.getD (x.fmod (T.length : Int)).toNat Row.root).way) ++ (Str.ofString "/") ++ names.getD (T.length - 1) (Str.ofString "")).length ≤ _
  rw [Str.length_append, Str.length_append]
  have h3 : (T.getD (x.fmod (T.length : Int)).toNat Row.root).way.length ≤ 16 * T.length + 1 := by
    rcases Nat.lt_or_ge (x.fmod (T.length : Int)).toNat T.length with hh | hh
    · rw [List.getD_eq_getElem?_getD, List.getElem?_eq_getElem hh]
      exact Nat.le_succ_of_le (h _ (List.getElem_mem ..))
    · rw [List.getD_eq_getElem?_getD, List.getElem?_eq_none hh]
      show (Str.ofString "/").length ≤ _
      omega
  split <;> omega
theorem treeJ_next {ns : List Int} {m₀ m : Str → Option Value} {news₀ q : Led} {tr D : Addr} {o₀ : Obj} {rl : Led} {as : List Addr} {T : List Row} {ts : List RTok} {n : Nat} {x : Int} {ms : List Int} {r : List Value} {ws : Array Value} {vs : List Value} (t : RTok)
    (e0 : news₀ = (tr, o₀) :: q) (hr : IntsAre r ms) (hw : ws = (List.map Value.ref as).toArray.push (.ref D)) (e3 : ∀ p ∈ rowLed as T ts, p ∈ rl) (e3' : ∀ p ∈ rl, p.1 ≠ tr) (hD : D ≠ tr) (e4 : as.length = T.length) (e5 : ts.length = T.length) (e6 : treeOf T (x :: ms) = treeOf [Row.root] ns)
    (e7 : T.length + (x :: ms).length = ns.length + 1) (e9 : ∀ q ∈ T, q.way.length ≤ 16 * T.length) (hv : vs = rowVals (rowOf T x) t) (k : Keep (Str.ofString "x") [] [Str.ofString "up", Str.ofString "name", Str.ofString "way"] m₀ m) :
    TreeJ ns m₀ news₀ r m ((tr, W.listOf ws n) :: (D, tupO vs) :: rl) := by
  subst hv
  refine ⟨tr, o₀, (D, tupO (rowVals (rowOf T x) t)) :: rl, as ++ [D], T ++ [rowOf T x], ts ++ [t], n, ms, ⟨q, e0⟩, hr, ?_, ?_, off_cons hD e3', ?_, ?_, e6, ?_, ?_, ?_, k⟩
  · rw [hw, push_snoc]; simp
  · intro p hp
    rw [rowLed_snoc e4 e5] at hp
    rcases List.mem_append.mp hp with hp | hp
    · exact List.mem_cons_of_mem _ (e3 p hp)
    · rw [List.mem_singleton.mp hp]; exact List.mem_cons_self ..
  · simp [e4]
  · simp [e5]
  · simp only [List.length_append, List.length_cons, List.length_nil] at e7 ⊢; omega
  · simp
  · intro q hq
    rw [List.length_append]
    rcases List.mem_append.mp hq with hq | hq
    · have := e9 q hq; simp only [List.length_cons, List.length_nil]; omega
    · rw [List.mem_singleton.mp hq]; exact rowOf_way x e9
theorem treeJ_start {ns : List Int} {m₀ : Str → Option Value} {tr D : Addr} {vs us : List Value} {n : Nat} (t : RTok) (hi : IntsAre vs ns) (hD : D ≠ tr) (hu : us = rowVals Row.root t) :
    TreeJ ns m₀ [(tr, W.listOf #[.ref D] n), (D, tupO us)] vs m₀ [(tr, W.listOf #[.ref D] n), (D, tupO us)] := by
  subst hu
  refine ⟨tr, _, [(D, _)], [D], [Row.root], [t], n, ns, ⟨_, rfl⟩, hi, rfl, ?_, off_cons hD off_nil, rfl, rfl, rfl, ?_, by decide, ?_, .refl (fun _ h => nomatch h)⟩
  · intro p hp; exact hp
  · simp; omega
  · intro q hq
    rw [List.mem_singleton.mp hq]
    show (Str.ofString "/").length ≤ _
    decide +kernel
theorem news_pick {h₀ h : Heap} {L : Addr} {e1 e2 it tr : Addr × Obj} {rl : Led} (N : News h₀ L h (e1 :: e2 :: it :: tr :: rl)) : News h₀ L h (it :: tr :: e1 :: rl) := fun p hp => by
  refine N p ?_
  rcases List.mem_cons.mp hp with rfl | hp
  · exact .tail _ (.tail _ (.head _))
  · rcases List.mem_cons.mp hp with rfl | hp
    · exact .tail _ (.tail _ (.tail _ (.head _)))
    · rcases List.mem_cons.mp hp with rfl | hp
      · exact .head _
      · exact .tail _ (.tail _ (.tail _ (.tail _ hp)))
theorem row_vals {T : List Row} {x : Int} {k : Nat} {name way : Str} {t1 t2 t3 t4 t5 : Tok} (h5 : T.length = k) (hx : 0 ≤ x.fmod (k : Int)) (nm : names.getD (k - 1) (Str.ofString "") = name)
    (hw : way = (if x.fmod (k : Int) = 0 then Str.ofString "" else (T.getD (x.fmod (k : Int)).toNat Row.root).way) ++ (Str.ofString "/") ++ name) :
    [Value.int (x.fmod (k : Int)) t1, .int (((T.getD (x.fmod (k : Int)).toNat Row.root).dep : Int) + 1) t2, .str name t3, .int ((x.fdiv 64).fmod 65536) t4, .str way t5] = rowVals (rowOf T x) ⟨t1, t2, t3, t4, t5⟩ := by
  subst h5 nm hw
  unfold rowVals rowOf
  simp only [Int.toNat_of_nonneg hx, Int.natCast_add, Int.natCast_one]
@[elab_as_elim]
theorem TreeJ.elim {ns : List Int} {m₀ m : Str → Option Value} {tr : Addr} {o₀ : Obj} {q news : Led} {v : Value} {r : List Value} {P : (Str → Option Value) → Led → Value → Prop} (hj : TreeJ ns m₀ ((tr, o₀) :: q) (v :: r) m news)
    (k : ∀ (rl : Led) (as : List Addr) (T : List Row) (ts : List RTok) (n : Nat) (x : Int) (xt : Tok) (ms : List Int) (u : Str → Option Value), IntsAre r ms → (∀ p ∈ rowLed as T ts, p ∈ rl) → (∀ p ∈ rl, p.1 ≠ tr) → as.length = T.length → ts.length = T.length →
      treeOf T (x :: ms) = treeOf [Row.root] ns → T.length + (x :: ms).length = ns.length + 1 → 0 < T.length → (∀ q ∈ T, q.way.length ≤ 16 * T.length) →
      P (fun z => if z = Str.ofString "x" then u z else if [Str.ofString "up", Str.ofString "name", Str.ofString "way"].contains z = true then u z else m₀ z) ((tr, W.listOf (as.map Value.ref).toArray n) :: rl) (.int x xt)) : P m news v := by
  obtain ⟨tr', o', rl, as, T, ts, n, ms, ⟨q', e0⟩, e1, rfl, e3, e3', e4, e5, e6, e7, e8, e9, hk⟩ := hj
  cases e0
  obtain ⟨u, rfl⟩ := hk.lam0
  cases e1 with
  | cons x xt hr => exact k rl as T ts n x xt _ u hr e3 e3' e4 e5 e6 e7 e8 e9
@[elab_as_elim]
theorem TreeJ.fin {ns : List Int} {m₀ m : Str → Option Value} {tr : Addr} {o₀ : Obj} {q news : Led} {P : (Str → Option Value) → Led → Prop} (hj : TreeJ ns m₀ ((tr, o₀) :: q) [] m news)
    (k : ∀ (rl : Led) (as : List Addr) (ts : List RTok) (n : Nat) (u : Str → Option Value), (∀ p ∈ rowLed as (treeOf [Row.root] ns) ts, p ∈ rl) → as.length = (treeOf [Row.root] ns).length → ts.length = (treeOf [Row.root] ns).length →
      P (fun z => if z = Str.ofString "x" then u z else if [Str.ofString "up", Str.ofString "name", Str.ofString "way"].contains z = true then u z else m₀ z) ((tr, W.listOf (as.map Value.ref).toArray n) :: rl)) : P m news := by
  obtain ⟨tr', o', rl, as, T, ts, n, ms, ⟨q', e0⟩, e1, rfl, e3, e3', e4, e5, e6, e7, e8, e9, hk⟩ := hj
  cases e0
  obtain ⟨u, rfl⟩ := hk.lam0
  cases e1
  have e6' : T = treeOf [Row.root] ns := e6
  subst e6'
  exact k rl as ts n u e3 e4 e5
theorem row_at {as : List Addr} {T : List Row} {ts : List RTok} {rl : Led} {i : Nat} {P : Prop} (h1 : as.length = T.length) (h2 : ts.length = T.length) (h3 : i < T.length) (e3 : ∀ p ∈ rowLed as T ts, p ∈ rl)
    (k : ∀ a t, (List.map Value.ref as)[i]? = some (.ref a) → (a, tupO (rowVals (T.getD i Row.root) t)) ∈ rl → P) : P := by
  obtain ⟨a, t, ha, hat⟩ := rowLed_mem h1 h2 h3
  exact k a t (by simp only [List.getElem?_map, ha, Option.map_some]) (e3 _ hat)
section
variable {prog : Program} {w : World} {A : Around} {E : Value → Shared → Prop} {s : Shared} {h₀ : Heap} {L : Addr} {news : Led} {Q : Value → Shared → Prop}
/-- an item of the written names -/
theorem item_names {value slice : PySem.Expr} {D : Addr} {t1 t2 t3 t4 t5 u : Tok} {k : Int} (N : News h₀ L s.heap ((D, { cls := .type "tuple", data := .seq [.str (Str.ofString "a") t1, .str (Str.ofString "...") t2, .str (Str.ofString "a-") t3, .str (Str.ofString "b.") t4, .str (Str.ofString "-") t5].toArray }) :: news)) (h0 : 0 ≤ k) (h5 : k < 5)
    (h : ∀ t, Q (.str (names.getD k.toNat (Str.ofString "")) t) s)
    (hs : subscripted slice false (.ref D) (.int k u) = operate [.ref D, .int k u] (getItem (.ref D) (.int k u)) := by with_unfolding_all rfl) (hg : ∀ r, letTemporaryGo value (.ref D) r = pure () := by intro _; with_unfolding_all rfl) :
    wpAny (model prog w) A (subscriptTail value slice (.ref D) (.int k u)) Q E s := by
  have hT : IsTup s.heap D [.str (Str.ofString "a") t1, .str (Str.ofString "...") t2, .str (Str.ofString "a-") t3, .str (Str.ofString "b.") t4, .str (Str.ofString "-") t5].toArray := ⟨_, (N _ (.head _)).1, rfl, _, rfl⟩
  have hk : k = 0 ∨ k = 1 ∨ k = 2 ∨ k = 3 ∨ k = 4 := by omega
  rcases hk with rfl | rfl | rfl | rfl | rfl
  · exact item_tupleL (j := 0) hT (by decide) (by decide) rfl rfl (h t1) hs hg
  · exact item_tupleL (j := 1) hT (by decide) (by decide) rfl rfl (h t2) hs hg
  · exact item_tupleL (j := 2) hT (by decide) (by decide) rfl rfl (h t3) hs hg
  · exact item_tupleL (j := 3) hT (by decide) (by decide) rfl rfl (h t4) hs hg
  · exact item_tupleL (j := 4) hT (by decide) (by decide) rfl rfl (h t5) hs hg
end
theorem row_vals' {T : List Row} {x : Int} {name way : Str} {t1 t2 t3 t4 t5 : Tok} (h1 : 0 < T.length) (hx : 0 ≤ x.fmod (T.length : Int)) (nm : name = names.getD ((T.length : Int) - 1).toNat (Str.ofString ""))
    (hw : way = (if x.fmod (T.length : Int) = 0 then Str.ofString "" else (T.getD (x.fmod (T.length : Int)).toNat Row.root).way) ++ (Str.ofString "/") ++ name) :
    [Value.int (x.fmod (T.length : Int)) t1, .int (((T.getD (x.fmod (T.length : Int)).toNat Row.root).dep : Int) + 1) t2, .str name t3, .int ((x.fdiv 64).fmod 65536) t4, .str way t5] = rowVals (rowOf T x) ⟨t1, t2, t3, t4, t5⟩ :=
  row_vals rfl hx (by rw [nm]; congr 1; omega) hw
section
theorem words_15_2 : True := by
  (k_with "my ite" => ((rename @Ne Int (Nat.cast _) 0 => hiJ_r); with_reducible refine ite_ne0 hiJ_r ?_))
  (k_with "my subscriptTail" => (k_here; k_dflt (refine' item_names ?N_q63 ?a_q63 ?b_q63 ?_; (case N_q63 => k_asm); (case a_q63 => omega); (case b_q63 => omega)); intro _))
  (k_with "my tree end" => ((rename Fr _ _ _ _ => lF_r); (rename News _ _ _ _ => lN_r); refine' UnrEnd.here lF_r (news_pick lN_r) (off_cons (by k_ne) (off_cons (by k_ne) (by assumption))) ?_; refine' treeJ_next ⟨_, _, _, _, _⟩ rfl (by assumption) rfl (by assumption) (by assumption) (by k_ne) (by assumption) (by assumption) (by assumption) (by assumption) (by assumption) (row_vals' (by assumption) (by assumption) rfl ?kw_q64) ⟨(fun _ h => nomatch h), fun z z1 _ z3 => ?kk_q64⟩; (case kw_q64 => first | (rw [if_pos (by assumption)]; done) | (rw [if_pos (by assumption)]; rfl) | (rw [if_neg (by assumption)]; done) | (rw [if_neg (by assumption)]; rfl)); (case kk_q64 => ((simp only [List.contains_cons, List.contains_nil, Bool.or_false, Bool.or_eq_false_iff, beq_eq_false_iff_ne, ne_eq] at z3); simp [z1, z3.1, z3.2.1, z3.2.2]))))
  trivial
theorem c_tree (w : World) (l : Addr) (vs : List Value) (ns : List Int) (hi : IntsAre vs ns) (hn : ns.length ≤ 5) :
    PCon w 233 3 [Value.ref l] (fun h => h.IsList l vs.toArray) (fun _ r tl => ∃ tr as ts n, r = .ref tr ∧ as.length = (treeOf [Row.root] ns).length ∧ ts.length = (treeOf [Row.root] ns).length ∧ tl = (tr, W.listOf (List.map Value.ref as).toArray n) :: rowLed as (treeOf [Row.root] ns) ts) := by
  walk_at "con enter"
  k_steps
  unfold Stop
  rename Fr _ _ _ _ => lF
  rename News _ _ _ _ => lN
  rename Heap.IsList _ _ _ => hL
  with_unfolding_all refine' iter_old (TreeJ ns) (by rfl) hL lF lN ?start ?step ?done
  case start =>
    exact treeJ_start ⟨_, _, _, _, _⟩ (by assumption) (by k_ne) (by exact rfl)
  case step =>
    clear lF lN
    intro I v r m news it h tk l1 hj hI hc F' N'
    k_lt l1
    revert hI F' N'
    refine TreeJ.elim hj ?_
    clear hj
    intro rl as T ts n x xt ms u hr e3 e3' e4 e5 e6 e7 e8 e9 hI F' N'
    have hIr : ∀ p ∈ rl, p.1 ≠ I := fun p hp => hI p (List.mem_cons_of_mem _ hp)
    clear hI
    have hT5 : T.length ≤ 5 := by simp only [List.length_cons] at e7; omega
    have hTn : ((T.length : Nat) : Int) ≠ 0 := by omega
    have hx1 : 0 ≤ x.fmod (T.length : Int) := Int.fmod_nonneg_of_pos x (by omega)
    have hx3 : x.fmod (T.length : Int) < (T.length : Int) := Int.fmod_lt_of_pos x (by omega)
    have hup : (x.fmod (T.length : Int)).toNat < T.length := by omega
    refine row_at e4 e5 hup e3 ?_
    intro a t ha' hat'
    have hway : (T.getD (x.fmod (T.length : Int)).toNat Row.root).way.length ≤ 80 := by
      rw [List.getD_eq_getElem?_getD, List.getElem?_eq_getElem hup]
      have := e9 _ (List.getElem_mem hup)
      simp only [Option.getD_some]; omega
    have hvl : (List.map Value.ref as).length = T.length := by rw [List.length_map, e4]
    have hvm : (List.map Value.ref as).length ≤ 1048576 := by rw [hvl]; omega
    have hnl := names_len ((T.length : Int) - 1).toNat
    unfold rowVals at hat'
    k_steps
    all_goals walk_at "tree end"
  case done =>
    clear lF lN
    intro m news h tk hj F' N'
    revert F' N'
    refine TreeJ.fin hj ?_
    clear hj
    intro rl as ts n u e3 e4 e5 F' N'
    k_steps
    all_goals walk_at "con end"
    rename PRet _ _ _ => hret
    (rename Fr _ _ _ _ => lF); (rename News _ _ _ _ => lN)
    refine' pret_l hret lF ?N ⟨_, as, ts, n, rfl, e4, e5, rfl⟩
    case N =>
      intro p hp
      rcases List.mem_cons.mp hp with rfl | hp
      · exact lN _ (.head _)
      · exact lN _ (.tail _ (e3 p hp))
end
theorem words_15_3 : True := by
  k_with_none
  (k_with "my con args" => ((rename Fr _ _ _ _ => F1_r); with_unfolding_all (first | change Fr _ _ _ (fun y => List.lookup y [(Str.ofString _, _)]) at F1_r | change Fr _ _ _ (fun y => List.lookup y [(Str.ofString _, _), (Str.ofString _, _)]) at F1_r | change Fr _ _ _ (fun y => List.lookup y [(Str.ofString _, _), (Str.ofString _, _), (Str.ofString _, _)]) at F1_r)))
  (k_with "my execs cons" => k_fold)
  (k_with "my exec If" => k_fold)
  (k_with "my con def" => (refine' enter_def ?k1_q4 ?k3_q4 ?k5_q4 ?k6_q4 ?k7_q4 ?k8_q4 ?k9_q4 ?kB_q4 ?_ ?c2_q4 ?c3_q4 ?c4_q4 ?c5_q4; (case k1_q4 => k_asm); (case k3_q4 => k_asm); (case k5_q4 => k_asm); (case k6_q4 => k_is); (case k7_q4 => k_is); (case k8_q4 => omega); (case k9_q4 => first | exact BindsTo.of_eq rfl | exact binds_K (by k_in) rfl (by k_is) rfl rfl rfl); (case c5_q4 => decide); (case kB_q4 => exact locs rfl); (case c2_q4 => exact rfl); (case c3_q4 => exact rfl); (case c4_q4 => exact rfl); k_whole; intro L_p h_p F_p N_p; (try dsimp only); (try walk_at "con args"); (try k_fold)))
  (k_with "my con rest" => (refine' enter_rest ?k1_q5 ?k3_q5 ?k5_q5 ?k6_q5 ?k7_q5 ?k8_q5 ?k9_q5 ?kz_q5 ?kB_q5 ?_ ?c2_q5 ?c3_q5 ?c4_q5 ?c5_q5; (case k1_q5 => k_asm); (case k3_q5 => k_asm); (case k5_q5 => k_asm); (case k6_q5 => k_is); (case k7_q5 => k_is); (case k8_q5 => omega); (case k9_q5 => exact rfl); (case kz_q5 => exact Nat.le_of_ble_eq_true rfl); (case c5_q5 => decide); (case kB_q5 => exact fun _ => locs rfl); (case c2_q5 => exact rfl); (case c3_q5 => exact rfl); (case c4_q5 => exact rfl); k_whole; intro D_p L_p h_p F_p N_p; (try dsimp only); (try walk_at "con args"); (try k_fold)))
  (k_with "my con enter" => (unfold PCon; intro p_r loose_r mean_r mg_r mb_r dp_r un_r gd_r env_r outer_r base_r s_r R_r B_r X_r T_r hd_r hu_r hpre_r hret_r; k_dflt (first | walk_at "con def" | walk_at "con rest")))
  (k_with "my con end" => (repeat (first | (k_unfold; (try dsimp only)) | dsimp only)))
  (k_with "my con v" => (walk_at "con end"; (rename PRet _ _ _ => hret_r); first | exact pret_v (V := fun t => Value.str _ t) hret_r (by k_asm) | exact pret_v (V := fun t => Value.int _ t) hret_r (by k_asm) | exact pret_v (V := fun _ => Value.bool _) hret_r (by k_asm)))
  (k_with "my con room" => first | omega | (dsimp only [topA, ktrTop, Around.deeper] at *; omega) | ktr_room | (simp only [depth_deeper, depth_caller, units_deeper, units_caller] at *; omega))
  (k_with "my con use" => ((case B_q => k_asm); (case F_q => k_asm); (case X_q => k_asm); (case N_q => k_asm); (case T_q => k_asm); (case hf_q => exact rfl); (case hk_q => exact rfl); (case hd_q => walk_at "con room"); (case hu_q => walk_at "con room")))
  (k_with "my con use v" => ((case hp_q => exact True.intro); walk_at "con use"; intro t9_r h9_r tk9_r F9_r N9_r; (try k_sweep); (try k_fold)))
  (k_with "my call builtin:issubclass" => (k_here; k_dflt (refine' iss_call ?h_q12 ?_; (case h_q12 => exact News.get (by k_asm) (by k_mem)); k_whole)))
  (k_with "my call ref" => (k_here; (with_reducible show wpAny _ _ (call (Value.ref 94) _) _ _ _); k_dflt (refine' PCon.useV (c_fspath _ _ _) ?B_q ?F_q ?X_q ?N_q ?T_q ?hf_q ?hk_q ?hd_q ?hu_q ?hp_q ?_; walk_at "con use v")))
  (k_with "my call ref" => (k_here; (with_reducible show wpAny _ _ (call (Value.ref 115) _) _ _ _); k_dflt (refine' PCon.useV (c_getsep _ _ _) ?B_q ?F_q ?X_q ?N_q ?T_q ?hf_q ?hk_q ?hd_q ?hu_q ?hp_q ?_; walk_at "con use v")))
  (k_with "my truthy str" => (k_here; (with_reducible show wpAny _ _ (PySem.truthy (Value.str _ _)) _ _ _); refine' truthy_ne ?a_q15 ?b_q15 ?_; (case a_q15 => assumption); (case b_q15 => omega); intro _))
  (k_with "my call ref" => (k_here; (with_reducible show wpAny _ _ (call (Value.ref 136) _) _ _ _); k_dflt (refine' PCon.useV (c_dirname _ _ _ (by omega)) ?B_q ?F_q ?X_q ?N_q ?T_q ?hf_q ?hk_q ?hd_q ?hu_q ?hp_q ?_; walk_at "con use v")))
  (k_with "my call ref" => (k_here; (with_reducible show wpAny _ _ (call (Value.ref 122) _) _ _ _); k_dflt (refine' PCon.useV (c_join _ _ _ _ _ (by omega) (by omega)) ?B_q ?F_q ?X_q ?N_q ?T_q ?hf_q ?hk_q ?hd_q ?hu_q ?hp_q ?_; walk_at "con use v")))
  (k_with "my call ref" => (k_here; (with_reducible show wpAny _ _ (call (Value.ref 129) _) _ _ _); k_dflt (refine' PCon.use (c_splitroot _ _ _ (by omega) (by assumption) (by assumption)) ?B_q ?F_q ?X_q ?N_q ?T_q ?hf_q ?hk_q ?hd_q ?hu_q ?hp_q18 ?_; (case hp_q18 => exact True.intro); walk_at "con use"; intro r9_r tl9_r h9_r tk9_r S9_r F9_r N9_r D9_r O9_r; obtain ⟨a9_r, t9_r, t9_p, t9'_p, e9_r, e9_p⟩ := O9_r; subst e9_r; subst e9_p; clear D9_r S9_r; (try simp only [List.cons_append, List.nil_append] at N9_r); (try dsimp only); (try k_fold))))
  (k_with "my call builtin:str.join" => (k_here; (with_reducible show wpAny _ _ (call (Value.builtin _) [Value.str _ _, Value.ref _]) _ _ _); k_dflt (refine' join_listW (News.isList (by k_asm) (by k_mem)) (by assumption) (by decide +kernel) (by assumption) ?_); intro _ _))
  (k_with "my call ref" => (k_here; (with_reducible show wpAny _ _ (call (Value.ref 143) _) _ _ _); k_dflt (refine' PCon.useV (c_normpath _ _ _ _ (by omega) (by assumption) (by assumption) (by assumption) (by assumption) (by assumption) (by assumption) (by assumption)) ?B_q ?F_q ?X_q ?N_q ?T_q ?hf_q ?hk_q ?hd_q ?hu_q ?hp_q ?_; walk_at "con use v")))
  (k_with "my call ref" => (k_here; (with_reducible show wpAny _ _ (call (Value.ref 150) _) _ _ _); k_dflt (refine' PCon.useV (c_abs _ _ _ _ _ (by assumption)) ?B_q ?F_q ?X_q ?N_q ?T_q ?hf_q ?hk_q ?hd_q ?hu_q ?hp_q ?_; walk_at "con use v")))
  (k_with "my call builtin:min" => (k_here; (with_reducible show wpAny _ _ (call (Value.builtin _) [Value.ref _]) _ _ _); k_dflt (refine' min_K ?F_q22 ?N_q22 ?l_q22 ?a_q22 ?b_q22 ?x_q22 ?y_q22 ?e_q22 ?h_q22 ?u_q22 ?_; (case F_q22 => k_asm); (case N_q22 => k_asm); (case l_q22 => assumption); (case a_q22 => assumption); (case b_q22 => assumption); (case x_q22 => assumption); (case y_q22 => assumption); (case e_q22 => assumption); (case h_q22 => rfl); (case u_q22 => walk_at "con room")); intro h_p tk_p F_p N_p))
  (k_with "my call builtin:max" => (k_here; (with_reducible show wpAny _ _ (call (Value.builtin _) [Value.ref _]) _ _ _); k_dflt (refine' max_K ?F_q23 ?N_q23 ?l_q23 ?a_q23 ?b_q23 ?x_q23 ?y_q23 ?e_q23 ?h_q23 ?u_q23 ?_; (case F_q23 => k_asm); (case N_q23 => k_asm); (case l_q23 => assumption); (case a_q23 => assumption); (case b_q23 => assumption); (case x_q23 => assumption); (case y_q23 => assumption); (case e_q23 => assumption); (case h_q23 => rfl); (case u_q23 => walk_at "con room")); intro h_p tk_p F_p N_p))
  (k_with "my EnumPost" => (dsimp only [EnumPost]))
  (k_with "my call builtin:isinstance" => (k_here; (with_reducible show wpAny _ _ (call _ [Value.ref _, Value.ref _]) _ _ _); k_dflt (refine' kia_tup kitx_list ?X_q25 ?H_q25 ?t_q25 ?e_q25 ?x_q25 ?_; (case X_q25 => k_in); (case H_q25 => exact kitAt_old (by k_asm) (by assumption)); (case t_q25 => exact News.get (by k_asm) (by k_mem)); (case e_q25 => exact rfl); (case x_q25 => intro e_r; cases e_r); k_whole; intro _)))
  (k_with "my exec For Tuple Call cons nil" => (k_here; (with_reducible show wpAny _ _ (exec _ (envOf (Str.ofString "commonprefix") _ _ _ _)) _ _ _); (rename Fr _ _ _ _ => lF_p); (with_unfolding_all refine' For_turns lF_p ?_; k_whole)))
  (k_with "my call type:enumerate" => ((with_reducible show wpAny _ (Around.deeper _ (envOf (Str.ofString "commonprefix") _ _ _ _)) (call _ _) _ _ _); refine Stop.out ?_))
  (k_with "my call ref" => (k_here; (with_reducible show wpAny _ _ (call (Value.ref 101) _) _ _ _); k_dflt (refine' PCon.use (c_cpref' _ _ _ _ _ _ _ _ _ _ _ (by assumption) (by assumption) (by assumption) (by assumption) (by assumption) (by omega) (by omega)) ?B_q ?F_q ?X_q ?N_q ?T_q ?hf_q ?hk_q ?hd_q ?hu_q ?hp_q28 ?_; (case hp_q28 => exact ⟨News.isList (by k_asm) (by k_mem), News.isList (by k_asm) (by k_mem), News.isList (by k_asm) (by k_mem)⟩); walk_at "con use"; intro r9_r tl9_r h9_r tk9_r S9_r F9_r N9_r D9_r O9_r; obtain ⟨e9_r, c9_r, cs9_r, e9_p, l9_r, n9_r⟩ := O9_r; subst e9_r; subst e9_p; clear D9_r S9_r; (try simp only [List.nil_append] at N9_r); (try dsimp only); (try k_fold))))
  (k_with "my own list" => first | assumption | exact News.isList (by k_asm) (by k_mem) | exact isList_old (by k_asm) (by assumption))
  (k_with "my own size" => first | omega | assumption | (rw [List.length_drop, strValues_len (by assumption) (by assumption)]; omega) | (rw [strValues_len (by assumption) (by assumption)]; omega) | (rw [List.length_replicate]; omega) | exact rel_ne (by assumption) (by assumption) (by omega) | exact rel_le (by assumption) (by assumption) (by omega) (by omega))
  (k_with "my call builtin:len" => (k_here; (with_reducible show wpAny _ _ (call (Value.builtin "len") [Value.ref _]) _ _ _); k_dflt (refine' len_known ?l_q31 ?n_q31 ?z_q31 ?_; (case l_q31 => assumption); (case n_q31 => assumption); (case z_q31 => omega)); intro _ _))
  (k_with "my call builtin:len" => (k_here; (with_reducible show wpAny _ _ (call (Value.builtin "len") [Value.ref _]) _ _ _); k_dflt (refine' len_known ?l_q32 ?n_q32 ?z_q32 ?_; (case l_q32 => exact News.isList (by k_asm) (by k_mem)); (case n_q32 => exact strValues_len (by assumption) (by assumption)); (case z_q32 => omega)); intro _ _))
  (k_with "my binaryOp Mult ref int" => (k_here; (with_reducible show wpAny _ (Around.deeper _ (envOf (Str.ofString "relpath") _ _ _ _)) (binaryOp Operator.Mult (Value.ref _) (Value.int _ _)) _ _ _); k_dflt (refine' mul_own ?F_q33 ?N_q33 ?l_q33 ?a_q33 ?b_q33 ?_; (case F_q33 => k_asm); (case N_q33 => k_asm); (case l_q33 => walk_at "own list"); (case a_q33 => omega); (case b_q33 => omega)); intro D_p h_p F_p N_p l1_r; (try k_lt l1_r); (try k_sweep)))
  (k_with "my binaryOp Add ref ref" => (k_here; (with_reducible show wpAny _ (Around.deeper _ (envOf (Str.ofString "relpath") _ _ _ _)) (binaryOp Operator.Add (Value.ref _) (Value.ref _)) _ _ _); k_dflt (refine' add_own ?F_q34 ?N_q34 ?l_q34 ?r_q34 ?a_q34 ?b_q34 ?_; (case F_q34 => k_asm); (case N_q34 => k_asm); (case l_q34 => walk_at "own list"); (case r_q34 => walk_at "own list"); (case a_q34 => walk_at "own size"); (case b_q34 => walk_at "own size")); intro D_p h_p F_p N_p l1_r; (try k_lt l1_r); (try k_sweep)))
  (k_with "my subscriptTail Name Slice ref ref" => (k_here; (with_reducible show wpAny _ (Around.deeper _ (envOf (Str.ofString "relpath") _ _ _ _)) (subscriptTail _ (PySem.Expr.Slice _ _ none _) (Value.ref _) (Value.ref _)) _ _ _); k_dflt (refine' kms_slice_lit ?F_q35 ?N_q35 ?l_q35 ?p_q35 ?q_q35 ?e_q35 ?_ ?s_q35 ?t_q35 ?z_q35; (case F_q35 => k_asm); (case N_q35 => k_asm); (case l_q35 => walk_at "own list"); (case p_q35 => kmk_part); (case q_q35 => kmk_part); (case e_q35 => exact pick_from _); (case s_q35 => with_unfolding_all rfl); (case t_q35 => kmk_pure); (case z_q35 => (rw [List.size_toArray, strValues_len (by assumption) (by assumption)]; unfold sizeLine; omega))); intro D_p h_p F_p N_p l1_r; (try k_lt l1_r); (try k_sweep)))
  (k_with "my truthy ref" => (k_here; (with_reducible show wpAny _ (Around.deeper _ (envOf (Str.ofString "relpath") _ _ _ _)) (PySem.truthy (Value.ref _)) _ _ _); refine' truthy_long ?l_q36 ?a_q36 ?b_q36 ?_; (case l_q36 => walk_at "own list"); (case a_q36 => walk_at "own size"); (case b_q36 => walk_at "own size"); intro _))
  (k_with "my call builtin:str.join" => (k_here; (with_reducible show wpAny _ (Around.deeper _ (envOf (Str.ofString "relpath") _ _ _ _)) (call (Value.builtin _) [Value.str _ _, Value.ref _]) _ _ _); k_dflt (refine' join_listW (News.isList (by k_asm) (by k_mem)) (rel_strs (by assumption) (by assumption)) (by decide +kernel) (by assumption) ?_); intro _ _))
  (k_with "my call ref" => (k_here; (with_reducible show wpAny _ _ (call (Value.ref 158) _) _ _ _); k_dflt (refine' PCon.useV (c_rel _ _ _ _ _ _ _ _ _ _ _ (by assumption)) ?B_q ?F_q ?X_q ?N_q ?T_q ?hf_q ?hk_q ?hd_q ?hu_q ?hp_q ?_; walk_at "con use v")))
  (k_with "my costs" => first | assumption | ((rename TabAt _ _ _ _ _ => tAb_r); exact tAb_r.ofFr (by k_asm)))
  (k_with "my subscriptTail" => ((with_reducible show wpAny _ (Around.deeper _ (envOf (Str.ofString "_law_cost") _ _ _ _)) (subscriptTail _ _ (Value.ref _) (Value.str _ _)) _ _ _); refine' kdp_item ?a_q40 ?b_q40 ?_; (case a_q40 => walk_at "costs"); (case b_q40 => assumption); intro _))
  (k_with "my call builtin:dict.get" => ((with_reducible show wpAny _ (Around.deeper _ (envOf (Str.ofString "_law_cost") _ _ _ _)) _ _ _ _); refine' kdp_get2 ?a_q41 ?_; (case a_q41 => walk_at "costs"); intro _))
  (k_with "my call ref" => (k_here; (with_reducible show wpAny _ _ (call (Value.ref 259) _) _ _ _); refine Stop.out ?_))
  (k_with "my EnTPost" => (dsimp only [EnTPost]))
  (k_with "my TupRest" => first | ((with_unfolding_all refine TupRest.succ (fun it' h' tk' hc' F' N' => ?_)); (try dsimp only); (try k_fold)) | ((with_unfolding_all refine TupRest.zero (fun h' tk' F' N' => ?_)); (try dsimp only); (try k_fold)))
  (k_with "my exec For Tuple Call cons nil" => (k_here; (with_reducible show wpAny _ _ (exec _ (envOf (Str.ofString "filemode") _ _ _ _)) _ _ _); (rename Fr _ _ _ _ => lF_p); (with_unfolding_all refine' For_turns lF_p ?_; k_whole)))
  (k_with "my call type:enumerate" => ((with_reducible show wpAny _ (Around.deeper _ (envOf (Str.ofString "filemode") _ _ _ _)) (call _ _) _ _ _); refine Stop.out ?_))
  (k_with "my exec For" => (k_here; (with_reducible show wpAny _ _ (exec (Stmt.For _ (Expr.Name _ _) _ (_ :: _) _) (envOf (Str.ofString "filemode") _ _ _ _)) _ _ _); (rename Fr _ _ _ _ => lF_p); (with_unfolding_all refine' For_else lF_p ?_; k_whole)))
  (k_with "my pyIter ref" => ((with_reducible show wpAny _ (Around.deeper _ (envOf (Str.ofString "filemode") _ _ _ _)) (pyIter (Value.ref _)) _ _ _); refine Stop.out ?_))
  (k_with "my off all" => repeat (first | exact off_nil | refine off_cons (by (try dsimp only); k_ne) ?_))
  (k_with "my UnrEnd" => ((with_reducible show UnrEnd _ _ _ _ _ (TupRest _ _ _ _ _ _ _ _ _ _ _ _ _) _); refine UnrEnd.here (by k_asm) (by k_asm) (by walk_at "off all") ?_))
  (k_with "my fm pick" => first | rfl | exact fmPick_pos (by assumption) | exact fmPick0_pos (by assumption) | (refine fmPick_neg (by assumption) ?_; walk_at "fm pick") | (refine fmPick0_neg (by assumption) ?_; walk_at "fm pick"))
  (k_with "my fm end" => ((rename Fr _ _ _ _ => lF_r); (rename News _ _ _ _ => lN_r); (first | refine EnT.here lF_r lN_r (by exact rfl) ?_ | refine EnT.here1 lF_r lN_r (by exact rfl) ?_); (refine fm_fin (by assumption) (by assumption) rfl (by walk_at "fm pick") ⟨(fun _ h => nomatch h), fun z z1 _ z3_r => ?_⟩; (simp only [List.contains_cons, List.contains_nil, Bool.or_false, Bool.or_eq_false_iff, beq_eq_false_iff_ne, ne_eq] at z3_r); (obtain ⟨z3_r, z4_r, z5_r⟩ := z3_r); simp [z1, z3_r, z4_r, z5_r])))
  (k_with "my call ref" => (k_here; (with_reducible show wpAny _ _ (call (Value.ref 179) _) _ _ _); k_dflt (refine' PCon.useV (c_sifmt _ _ _ (by assumption) (by assumption)) ?B_q ?F_q ?X_q ?N_q ?T_q ?hf_q ?hk_q ?hd_q ?hu_q ?hp_q ?_; walk_at "con use v")))
  (k_with "my own mem" => first | k_mem | (repeat (first | assumption | refine List.mem_cons_of_mem _ ?_)))
  (k_with "my own item" => first | (refine' item_listL ?l_q56 ?a_q56 ?b_q56 ?c_q56 ?_; (case l_q56 => exact News.isList (by k_asm) (by walk_at "own mem")); (case a_q56 => omega); (case b_q56 => omega); (case c_q56 => (first | assumption | rfl))) | (refine' item_tupleL ?l_q56 ?a_q56 ?b_q56 ?c_q56 ?d_q56 ?_; (case l_q56 => exact ⟨_, News.get (by k_asm) (by walk_at "own mem"), rfl, _, rfl⟩); (case a_q56 => decide); (case b_q56 => decide); (case c_q56 => rfl); (case d_q56 => rfl)))
  (k_with "my subscriptTail" => (k_here; (with_reducible show wpAny _ (Around.deeper _ (envOf (Str.ofString "_law_tree") _ _ _ _)) (subscriptTail _ _ (Value.ref _) (Value.int _ _)) _ _ _); walk_at "own item"))
  (k_with "my call builtin:len" => (k_here; (with_reducible show wpAny _ (Around.deeper _ (envOf (Str.ofString "_law_tree") _ _ _ _)) (call (Value.builtin "len") [Value.ref _]) _ _ _); k_dflt (refine' len_known ?l_q58 ?n_q58 ?z_q58 ?_; (case l_q58 => exact News.isList (by k_asm) (by walk_at "own mem")); (case n_q58 => assumption); (case z_q58 => omega)); intro _ _))
  (k_with "my own upd" => first | (refine' Upd.head ?a_q59; (case a_q59 => first | assumption | (walk_at "off all"; done))) | (refine' Upd.tail ?a_q59 ?b_q59; (case a_q59 => k_ne); (case b_q59 => walk_at "own upd")))
  (k_with "my call builtin:list.append" => (k_here; (with_reducible show wpAny _ (Around.deeper _ (envOf (Str.ofString "_law_tree") _ _ _ _)) (call (Value.builtin _) [Value.ref _, _]) _ _ _); k_dflt (refine' append_K ?k1_q60 ?k2_q60 ?k3_q60 ?_ ?z_q60; (case k1_q60 => k_asm); (case k2_q60 => k_asm); (case k3_q60 => walk_at "own upd"); (case z_q60 => exact size_of_len (by assumption)); k_whole); intro h_p F_p N_p; (try k_sweep)))
  (k_with "my pyIter ref" => ((with_reducible show wpAny _ (Around.deeper _ (envOf (Str.ofString "_law_tree") _ _ _ _)) (pyIter (Value.ref _)) _ _ _); refine Stop.out ?_))
  trivial
theorem words_15_4 : True := by
  (k_with "my call ref" => (k_here; (with_reducible show wpAny _ _ (call (Value.ref 233) _) _ _ _); refine Stop.out ?_))
  trivial
section
variable {prog : Program} {w : World} {A : Around} {E : Value → Shared → Prop} {s : Shared} {env : Env} {h₀ : Heap} {x : Str} {body : List Stmt} {Q : Flow → Shared → Prop}
/-- a loop over a range by its index -/
theorem iter_rng {r : Addr} {a₀ b₀ : Int} {t₀ u₀ v₀ : Tok} {m₀ : Str → Option Value} {news : Led} (n : Nat) (J : (Str → Option Value) → Led → Nat → (Str → Option Value) → Led → Prop)
    (hh : A.handled = none) (hr : IsRange s.heap r a₀ b₀ 1 t₀ u₀ v₀) (hsmall : Builtin.Range.small a₀ b₀ 1 = true) (hn : (b₀ - a₀).toNat = n) (F : Fr h₀ env.locals s.heap m₀) (N : News h₀ env.locals s.heap news)
    (start : J m₀ news 0 m₀ news)
    (step : ∀ I i m news' t h tk, (∀ p ∈ news, p.1 < I) → i < n → J m₀ news i m news' → (∀ p ∈ news', p.1 ≠ I) → Fr h₀ env.locals h (fun y => if y = x then some (.int (a₀ + (i : Int)) t) else m y) →
      News h₀ env.locals h ((I, itR (a₀ + ((i + 1 : Nat) : Int)) ((n : Int) - ((i + 1 : Nat) : Int))) :: news') →
      wpAny (model prog w) A (execs body env) (UnrPost h₀ env.locals { s with heap := h, toks := tk } I (itR (a₀ + ((i + 1 : Nat) : Int)) ((n : Int) - ((i + 1 : Nat) : Int))) (J m₀ news (i + 1)) Q) E { s with heap := h, toks := tk })
    (done : ∀ m news' h tk, J m₀ news n m news' → Fr h₀ env.locals h m → News h₀ env.locals h news' → Q .next { s with heap := h, toks := tk }) :
    wpAny (model prog w) A (pyIter (.ref r)) (fun it s₂ => LoopAtV prog w A h₀ env x body Q E it s₂) E s := by
  have hn' : Builtin.Range.rangeSize a₀ b₀ 1 = (n : Int) := by rw [rangeSize_nat, hn]
  refine wpAny_pyIter_range hr hsmall ?_
  have W : Walks prog w A s.heap.objs.size [s.heap.objs.size] [s.heap.objs.size] n (fun i v => i < n ∧ ∃ t, v = .int (a₀ + i * 1) t)
      (fun i h => IsRangeIter h s.heap.objs.size (a₀ + (i : Nat) * 1) ((n : Int) - (i : Nat)) 1) := (Walks.range hh _ a₀ 1 n).bound
  have hnew := next_is_new F
  refine ⟨_, _, _, n, _, _, m₀, news, J m₀ news, rfl, W, ?_, ?_, ?_, (by show IsRangeIter _ _ _ _ _; rw [hn']; simpa using Heap.get?_push_size _ rfl), F.push _, (fun p hp => ⟨Heap.get?_push_of_some _ (N p hp).1, (N p hp).2⟩), start, ?_, ?_⟩
  · intro hm
    exact absurd F.ns.lt ((List.mem_singleton.mp hm) ▸ Nat.lt_irrefl _)
  · intro b hb
    rw [List.mem_singleton.mp hb]
    exact hnew
  · intro p hp hI
    exact absurd (Heap.lt_size (N p hp).1) ((List.mem_singleton.mp hI) ▸ Nat.lt_irrefl _)
  · rintro i v m₁ news₁ s₁ own ⟨hh', tk', rfl⟩ hin ⟨hi, t, rfl⟩ hJ hoff hown hget hall hst F₁ N₁
    have hst' : hh'.get? s.heap.objs.size = some (itR (a₀ + ((i + 1 : Nat) : Int)) ((n : Int) - ((i + 1 : Nat) : Int))) := by
      have q : IsRangeIter hh' s.heap.objs.size (a₀ + ((i + 1 : Nat) : Int) * 1) ((n : Int) - ((i + 1 : Nat) : Int)) 1 := hst
      rw [Int.mul_one] at q
      exact q
    have hmem := hall s.heap.objs.size (List.mem_singleton.mpr rfl) hnew _ hst'
    have e1 : a₀ + (i : Int) * 1 = a₀ + (i : Int) := by rw [Int.mul_one]
    rw [e1] at F₁
    have N₂ : News h₀ env.locals hh' ((s.heap.objs.size, itR (a₀ + ((i + 1 : Nat) : Int)) ((n : Int) - ((i + 1 : Nat) : Int))) :: news₁) := fun p hp => by
      rcases List.mem_cons.mp hp with rfl | hp
      · exact N₁ _ (List.mem_append_left _ hmem)
      · exact N₁ _ (List.mem_append_right _ hp)
    refine wpAny_mono (step _ i m₁ news₁ t hh' tk' (fun p hp => Heap.lt_size (N p hp).1) hi hJ (fun p hp e => hoff p hp (e ▸ List.mem_singleton.mpr rfl)) F₁ N₂) (fun f s₂ p => ?_) fun _ _ e => e
    have fin : UnrEnd h₀ env.locals { s with heap := hh', toks := tk' } s.heap.objs.size (itR (a₀ + ((i + 1 : Nat) : Int)) ((n : Int) - ((i + 1 : Nat) : Int))) (J m₀ news (i + 1)) s₂ →
        LoopStepU h₀ env.locals [s.heap.objs.size] own (J m₀ news (i + 1)) { s with heap := hh', toks := tk' } .next s₂ := by
      rintro ⟨h', tk, m', news', e, F', N', ho, r⟩
      refine ⟨rfl, h', tk, m', news', e, F', fun p hp => ?_, fun p hp hI => ho p hp (List.mem_singleton.mp hI), r⟩
      rcases List.mem_append.mp hp with hp | hp
      · have h1 : p.1 = s.heap.objs.size := List.mem_singleton.mp (hown p hp)
        have h2 : hh'.get? p.1 = some p.2 := hget p hp
        have h3 : p = (s.heap.objs.size, itR (a₀ + ((i + 1 : Nat) : Int)) ((n : Int) - ((i + 1 : Nat) : Int))) := by
          rw [h1, hst'] at h2
          exact Prod.ext h1 (Option.some.inj h2).symm
        rw [h3]; exact N' _ (List.mem_cons_self ..)
      · exact N' _ (List.mem_cons_of_mem _ hp)
    cases f with
    | ret v => exact .ret p
    | brk => exact .brk p
    | next => exact .next (fin p)
    | cont => exact .cont (fin p)
  · rintro h' tk m' news' F' N' _ hJ
    exact done m' news' h' tk hJ F' N'
end
theorem small_rng {a b : Int} (h0 : 0 ≤ a) (h1 : a ≤ 1000) (h2 : 0 ≤ b) (h3 : b ≤ 1000) : Builtin.Range.small a b 1 = true := small_one (by omega) (by omega) (by omega) (by omega)
/-- the tree as it lies -/
structure TreeAt (h : Heap) (tr : Addr) (as : List Addr) (T : List Row) (ts : List RTok) : Prop where
  l : h.IsList tr (as.map Value.ref).toArray
  r : ∀ p ∈ rowLed as T ts, h.get? p.1 = some p.2
  a : as.length = T.length
  t : ts.length = T.length
  s : T.length ≤ 6
theorem TreeAt.keep {h h' : Heap} {tr : Addr} {as : List Addr} {T : List Row} {ts : List RTok} (H : TreeAt h tr as T ts) (k : ∀ b o, h.get? b = some o → h'.get? b = some o) : TreeAt h' tr as T ts :=
  ⟨H.l.at fun o e => k _ _ e, fun p hp => k _ _ (H.r p hp), H.a, H.t, H.s⟩
theorem TreeAt.item {h : Heap} {tr : Addr} {as : List Addr} {T : List Row} {ts : List RTok} (H : TreeAt h tr as T ts) {i : Nat} (hi : i < T.length) : ∃ a t, (as.map Value.ref)[i]? = some (.ref a) ∧ IsTup h a (rowVals (T.getD i Row.root) t).toArray := by
  obtain ⟨a, t, h1, h2⟩ := rowLed_mem H.a H.t hi
  exact ⟨a, t, by simp only [List.getElem?_map, h1, Option.map_some], _, H.r _ h2, rfl, _, rfl⟩
theorem TreeAt.elim {h : Heap} {tr : Addr} {as : List Addr} {T : List Row} {ts : List RTok} {P : Prop} (H : TreeAt h tr as T ts) {i : Nat} {x : Int} (hx : x = (i : Int)) (hi : i < T.length)
    (k : ∀ ad t, h.IsList tr (as.map Value.ref).toArray → (as.map Value.ref)[x.toNat]? = some (.ref ad) → IsTup h ad (rowVals (T.getD i Row.root) t).toArray → P) : P := by
  obtain ⟨ad, t9, e3, e4⟩ := H.item hi
  subst hx
  exact k ad t9 H.l e3 e4
section
variable {prog : Program} {w : World} {A : Around} {E : Value → Shared → Prop} {s : Shared} {h₀ : Heap} {L : Addr} {m : Str → Option Value} {news news' : Led}
theorem seq_list_iadd : seqSlot? (.type "list") (dunderI "add") = pure (some (.builtin "list.__iadd__")) := PySem.seqSlot_of PySem.F.slot_list_iadd.lookup (by decide +kernel)
/-- += of two lists of the ledger -/
theorem iadd_own {D b : Addr} {ys ws : List Value} {n n2 : Nat} {Q : Value → Shared → Prop} (F : Fr h₀ L s.heap m) (N : News h₀ L s.heap news) (hb : (b, W.listOf ws.toArray n2) ∈ news)
    (U : Upd D (W.listOf ys.toArray n) (W.listOf (ys ++ ws).toArray (if (ys.toArray ++ ws.toArray).size == ys.toArray.size then n else n + 1)) news news')
    (h : ∀ h', Fr h₀ L h' m → News h₀ L h' news' → Q (.ref D) { s with heap := h' }) (h1 : ys.length ≤ 8000000) (h2 : ws.length ≤ 8000000) :
    wpAny (model prog w) A (inplaceOp .Add (.ref D) (.ref b)) Q E s := by
  obtain ⟨pre, post, rfl, rfl, a, c⟩ := U.split
  have hm := N (D, W.listOf ys.toArray n) (List.mem_append.mpr (.inr (.head _)))
  have hb' := N _ hb
  have ha : s.TypeIs (.ref D) "list" := ⟨_, hm.1, rfl⟩
  have hbt : s.TypeIs (.ref b) "list" := ⟨_, hb'.1, rfl⟩
  unfold inplaceOp
  refine wpAny_holding ?_
  have hfi : fillsInplaceSlot (.type "list") "add" (Operator.Add == .Add) = pure false := by
    unfold fillsInplaceSlot
    show (typeLookup (.type "list") (dunderI "add") >>= fun fi => pure (fi.isSome && !isSeqSlot fi)) = pure false
    rw [PySem.F.slot_list_iadd.lookup]
    rfl
  refine wpAny_bind (wpAny_typeOf ha (wpAny_bind (wpAny_of_eq hfi ?_)))
  show wpAny _ A (if false = true then _ else _) Q E s
  rw [if_neg Bool.false_ne_true]
  refine wpAny_bind (binaryOp1_none (nm := "add") ha hbt noFill_list_add ?_)
  refine wpAny_bind (wpAny_of_eq seq_list_iadd ?_)
  refine wpAny_bind (wpAny_rule ?_)
  have hsz' : ys.toArray.size + ws.toArray.size ≤ sizeLine := by rw [List.size_toArray, List.size_toArray]; unfold sizeLine; omega
  refine call_meets PySem.F.slot_list_iadd ha PySem.F.entry_list_iadd (PySem.F.args_list_iadd_2 _ _) (AutoSeq1.list___iadd___list_list_0 D ys.toArray n b ws.toArray n2 (extend_door hsz') (Nat.le_trans (Nat.le_add_right _ _) hsz') (by omega)) ⟨hm.1, hb'.1, ?_⟩
  have e : ys.toArray ++ ws.toArray = (ys ++ ws).toArray := by simp
  have ho' : (s.heap.update D (Obj.mapSeq fun x => x ++ ws.toArray)).get? D = some (W.listOf (ys ++ ws).toArray (if (ys.toArray ++ ws.toArray).size == ys.toArray.size then n else n + 1)) := by
    rw [Heap.get?_update_self _ hm.1 (by rw [mapSeq_app]; rfl), mapSeq_app, e]
  exact h _ (F.change (Heap.SameBut.update ..) hm.2.1 hm.2.2) (N.setIn a c (Heap.SameBut.update ..) ho')
end
/-- the places under a place, depth first -/
noncomputable def orderF (T : List Row) : Nat → Nat → List Nat
  | 0, _ => []
  | f + 1, a => ((List.range T.length).drop (a + 1)).flatMap fun k => if (T.getD k Row.root).up = a then k :: orderF T f k else []
noncomputable abbrev natsI (l : List Nat) : List Int := l.map fun n : Nat => (n : Int)
theorem isTup_old {h₀ h : Heap} {L a : Addr} {m : Str → Option Value} {its : Array Value} (F : Fr h₀ L h m) (H : IsTup h₀ a its) : IsTup h a its := let ⟨o, e, r⟩ := H; ⟨o, F.keep a o e, r⟩
noncomputable def OrdIH (w : World) (tr : Addr) (as : List Addr) (T : List Row) (ts : List RTok) (f k : Nat) (x : Int) : Prop :=
  ∀ t : Tok, PCon w 240 (f + 3) [Value.ref tr, .int x t] (fun h => TreeAt h tr as T ts) (fun _ r tl => ∃ D vs n, r = .ref D ∧ tl = [(D, W.listOf (List.toArray vs) n)] ∧ IntsAre vs (natsI (orderF T f k)))
theorem lenKnown (as : List Addr) : (as.map Value.ref).length = as.length := List.length_map ..
theorem orderF_len {T : List Row} (hT : T.length ≤ 6) : ∀ f a, (orderF T f a).length + 1 ≤ 9 ^ f
  | 0, a => by simp [orderF]
  | f + 1, a => by
    have h : ∀ l : List Nat, l.length ≤ 6 → (l.flatMap fun k => if (T.getD k Row.root).up = a then k :: orderF T f k else []).length ≤ l.length * 9 ^ f := by
      intro l _
      induction l with
      | nil => simp
      | cons k r ih =>
        rw [List.flatMap_cons, List.length_append, List.length_cons, Nat.succ_mul]
        have h1 := orderF_len hT f k
        have h2 := ih (by simp only [List.length_cons] at *; omega)
        have h3 : (if (T.getD k Row.root).up = a then k :: orderF T f k else []).length ≤ 9 ^ f := by
          split
          · simp only [List.length_cons]; omega
          · simp
        omega
    have hl : ((List.range T.length).drop (a + 1)).length ≤ 6 := by simp; omega
    have := h _ hl
    rw [orderF, Nat.pow_succ]
    have h4 : ((List.range T.length).drop (a + 1)).length * 9 ^ f ≤ 6 * 9 ^ f := Nat.mul_le_mul_right _ hl
    have h5 : 1 ≤ 9 ^ f := Nat.one_le_pow _ _ (by decide)
    omega
theorem orderTake_len {T : List Row} (hT : T.length ≤ 6) {f a B : Nat} (hB : 9 ^ f ≤ B) : ∀ l : List Nat, (l.flatMap fun k => if (T.getD k Row.root).up = a then k :: orderF T f k else []).length ≤ l.length * B := by
  intro l
  induction l with
  | nil => simp
  | cons k r ih =>
    rw [List.flatMap_cons, List.length_append, List.length_cons, Nat.succ_mul]
    have h1 := orderF_len hT f k
    have h3 : (if (T.getD k Row.root).up = a then k :: orderF T f k else []).length ≤ 9 ^ f := by
      split
      · simp only [List.length_cons]; omega
      · simp
    omega
theorem pow9 {f : Nat} (hf : f ≤ 6) : 9 ^ f ≤ 531441 := by
  have h2 : 9 ^ f ≤ 9 ^ 6 := Nat.pow_le_pow_right (by decide) hf
  exact Nat.le_trans h2 (by decide +kernel)
theorem order_len {T : List Row} {f k : Nat} {vs : List Value} (h : IntsAre vs (natsI (orderF T f k))) (hT : T.length ≤ 6) (hf : f ≤ 6) : vs.length ≤ 531441 := by
  rw [h.length, List.length_map]
  have h1 := orderF_len hT f k
  have h2 : 9 ^ f ≤ 9 ^ 6 := Nat.pow_le_pow_right (by decide) hf
  have h3 : 9 ^ 6 = 531441 := by decide +kernel
  omega
theorem words_17_1 : True := by
  (k_with "my binaryOp Add ref ref" => (k_here; (with_reducible show wpAny _ (Around.deeper _ (envOf (Str.ofString "_law_order") _ _ _ _)) (binaryOp Operator.Add (Value.ref _) (Value.ref _)) _ _ _); k_dflt (refine' add_own (vs := [_]) ?F_q66 ?N_q66 ?l_q66 ?r_q66 ?a_q66 ?b_q66 ?_; (case F_q66 => k_asm); (case N_q66 => k_asm); (case l_q66 => exact News.isList (by k_asm) (by k_mem)); (case r_q66 => exact News.isList (by k_asm) (by k_mem)); (case a_q66 => exact Nat.le_of_ble_eq_true rfl); (case b_q66 => omega)); intro D_p h_p F_p N_p l1_r; (try k_lt l1_r); (try k_sweep)))
  (k_with "my own upd" => first | (refine' Upd.head ?a_q67; (case a_q67 => first | assumption | (walk_at "off all"; done))) | (refine' Upd.tail ?a_q67 ?b_q67; (case a_q67 => first | k_ne | exact Ne.symm (by assumption)); (case b_q67 => walk_at "own upd")))
  (k_with "my inplaceOp Add ref ref" => (k_here; (with_reducible show wpAny _ (Around.deeper _ (envOf (Str.ofString "_law_order") _ _ _ _)) (inplaceOp Operator.Add (Value.ref _) (Value.ref _)) _ _ _); k_dflt (refine' iadd_own ?F_q68 ?N_q68 ?b_q68 ?U_q68 ?_ ?a_q68 ?z_q68; (case F_q68 => k_asm); (case N_q68 => k_asm); (case b_q68 => k_mem); (case U_q68 => walk_at "own upd"); (case a_q68 => assumption); (case z_q68 => simp only [List.length_append, List.length_cons, List.length_nil]; omega); k_whole); intro h_p F_p N_p; (try k_sweep)))
  (k_with "my pyIter ref" => ((with_reducible show wpAny _ (Around.deeper _ (envOf (Str.ofString "_law_order") _ _ _ _)) (pyIter (Value.ref _)) _ _ _); refine Stop.out ?_))
  (k_with "my call builtin:len" => (k_here; (with_reducible show wpAny _ (Around.deeper _ (envOf (Str.ofString "_law_order") _ _ _ _)) (call (Value.builtin "len") [Value.ref _]) _ _ _); k_dflt (refine' len_known ?l_q70 ?n_q70 ?z_q70 ?_; (case l_q70 => exact isList_old (by k_asm) (by assumption)); (case n_q70 => assumption); (case z_q70 => omega)); intro _ _))
  (k_with "my old item" => first | (refine' item_listL ?l_q71 ?a_q71 ?b_q71 ?c_q71 ?_; (case l_q71 => exact isList_old (by k_asm) (by assumption)); (case a_q71 => omega); (case b_q71 => omega); (case c_q71 => assumption)) | (refine' item_tupleL ?l_q71 ?a_q71 ?b_q71 ?c_q71 ?d_q71 ?_; (case l_q71 => exact isTup_old (by k_asm) (by assumption)); (case a_q71 => decide); (case b_q71 => decide); (case c_q71 => rfl); (case d_q71 => rfl)))
  (k_with "my subscriptTail" => (k_here; (with_reducible show wpAny _ (Around.deeper _ (envOf (Str.ofString "_law_order") _ _ _ _)) (subscriptTail _ _ (Value.ref _) (Value.int _ _)) _ _ _); walk_at "old item"))
  (k_with "my call ref" => (k_here; (with_reducible show wpAny _ (Around.deeper _ (envOf (Str.ofString "_law_order") _ _ _ _)) (call (Value.ref 240) _) _ _ _); (rename OrdIH _ _ _ _ _ _ _ _ => ihX_r); k_dflt (refine' PCon.use (ihX_r _) ?B_q ?F_q ?X_q ?N_q ?T_q ?hf_q ?hk_q ?hd_q ?hu_q ?hp_q73 ?_; (case hp_q73 => (rename TreeAt _ _ _ _ _ => tT_r; exact tT_r.keep (fun b o e => Fr.keep (by k_asm) b o e))); walk_at "con use"; intro r9_r tl9_r h9_r tk9_r S9_r F9_r N9_r D9_r O9_r; obtain ⟨d9_r, vs9_r, n9_r, e9_r, e9_p, hI9_r⟩ := O9_r; subst e9_r; subst e9_p; clear S9_r; (try simp only [List.cons_append, List.nil_append] at N9_r); (try simp only [List.mem_cons, List.not_mem_nil, or_false, forall_eq_or_imp, forall_eq] at D9_r); (try (first | obtain ⟨D1_r, D2_r, D3_r, D4_r, D5_r⟩ := D9_r | obtain ⟨D1_r, D2_r, D3_r, D4_r⟩ := D9_r | obtain ⟨D1_r, D2_r, D3_r⟩ := D9_r | obtain ⟨D1_r, D2_r⟩ := D9_r)); (have hz9_r := order_len hI9_r (by assumption) (by omega)); (try dsimp only); (try k_fold))))
  trivial
noncomputable def OrderJ (T : List Row) (f a : Nat) (m₀ : Str → Option Value) (news₀ : Led) (i : Nat) (m : Str → Option Value) (news : Led) : Prop :=
  ∃ (o : Addr) (o₀ : Obj) (q : Led) (vs : List Value) (n : Nat), news₀ = (o, o₀) :: q ∧ news = (o, W.listOf vs.toArray n) :: q ∧ IntsAre vs (natsI ((((List.range T.length).drop (a + 1)).take i).flatMap fun k => if (T.getD k Row.root).up = a then k :: orderF T f k else [])) ∧
    Keep (Str.ofString "k") [] [] m₀ m
theorem take_next {n a i : Nat} (h : a + 1 + i < n) : ((List.range n).drop (a + 1)).take (i + 1) = ((List.range n).drop (a + 1)).take i ++ [a + 1 + i] := by
  rw [List.take_succ, List.getElem?_drop, List.getElem?_range h]; rfl
theorem order_pos {T : List Row} {f a i : Nat} {vs ws : List Value} {t : Tok} (e2 : IntsAre vs (natsI ((((List.range T.length).drop (a + 1)).take i).flatMap fun k => if (T.getD k Row.root).up = a then k :: orderF T f k else [])))
    (hw : IntsAre ws (natsI (orderF T f (a + 1 + i)))) (h : a + 1 + i < T.length) (hu : (((T.getD (a + 1 + i) Row.root).up : Nat) : Int) = (a : Int)) :
    IntsAre (vs ++ ([.int ((a : Int) + 1 + (i : Int)) t] ++ ws)) (natsI ((((List.range T.length).drop (a + 1)).take (i + 1)).flatMap fun k => if (T.getD k Row.root).up = a then k :: orderF T f k else [])) := by
  rw [take_next h, List.flatMap_append, natsI, List.map_append]
  refine IntsAre.append e2 ?_
  have e : ([a + 1 + i].flatMap fun k => if (T.getD k Row.root).up = a then k :: orderF T f k else []) = (a + 1 + i) :: orderF T f (a + 1 + i) := by
    rw [List.flatMap_cons, List.flatMap_nil, List.append_nil, if_pos (by omega)]
  rw [e]
  have e3 : ((a + 1 + i : Nat) : Int) = (a : Int) + 1 + (i : Int) := by omega
  rw [List.map_cons, e3]
  exact .cons _ _ hw
theorem order_neg {T : List Row} {f a i : Nat} {vs : List Value} (e2 : IntsAre vs (natsI ((((List.range T.length).drop (a + 1)).take i).flatMap fun k => if (T.getD k Row.root).up = a then k :: orderF T f k else [])))
    (h : a + 1 + i < T.length) (hu : (((T.getD (a + 1 + i) Row.root).up : Nat) : Int) ≠ (a : Int)) :
    IntsAre vs (natsI ((((List.range T.length).drop (a + 1)).take (i + 1)).flatMap fun k => if (T.getD k Row.root).up = a then k :: orderF T f k else [])) := by
  rw [take_next h, List.flatMap_append]
  have e : ([a + 1 + i].flatMap fun k => if (T.getD k Row.root).up = a then k :: orderF T f k else []) = [] := by
    rw [List.flatMap_cons, List.flatMap_nil, List.append_nil, if_neg (by omega)]
  rw [e, List.append_nil]
  exact e2
theorem UnrEnd.pick {h₀ : Heap} {L I : Addr} {it : Obj} {rest : (Str → Option Value) → Led → Prop} {s₁ : Shared} {h' : Heap} {tk : Nat} {m' : Str → Option Value} {all : Led} {q : Addr × Obj} (F : Fr h₀ L h' m') (N : News h₀ L h' all)
    (h1 : (I, it) ∈ all) (h2 : q ∈ all) (off : q.1 ≠ I) (r : rest m' [q]) : UnrEnd h₀ L s₁ I it rest { s₁ with heap := h', toks := tk } :=
  ⟨h', tk, m', [q], rfl, F, (fun p hp => by
    rcases List.mem_cons.mp hp with rfl | hp
    · exact N _ h1
    · rw [List.mem_singleton.mp hp]; exact N _ h2), off_cons off off_nil, r⟩
theorem words_17_2 : True := by
  (k_with "my UnrEnd" => ((with_reducible show UnrEnd _ _ _ _ _ (OrderJ _ _ _ _ _ _) _); refine Stop.out ?_))
  trivial
theorem c_order (w : World) (tr : Addr) (as : List Addr) (T : List Row) (ts : List RTok) : ∀ (f a : Nat) (t : Tok), f ≤ 6 → a < T.length → T.length ≤ f + a →
    PCon w 240 (f + 3) [Value.ref tr, .int (a : Int) t] (fun h => TreeAt h tr as T ts) (fun _ r tl => ∃ D vs n, r = .ref D ∧ tl = [(D, W.listOf (List.toArray vs) n)] ∧ IntsAre vs (natsI (orderF T f a))) := by
  intro f
  induction f with
  | zero => intro a t h0 h1 h2; omega
  | succ f ih =>
    intro a t h6 ha hf
    walk_at "con enter"
    rename TreeAt _ _ _ _ _ => hT
    have hl := hT.l
    have hs := hT.s
    have hn : (as.map Value.ref).length = T.length := by rw [lenKnown, hT.a]
    k_steps
    unfold Stop
    rename Fr _ _ _ _ => lF
    rename News _ _ _ _ => lN
    rename IsRange _ _ _ _ _ _ _ _ => lR
    with_unfolding_all refine' iter_rng (T.length - (a + 1)) (OrderJ T f a) (by rfl) lR (small_rng (by omega) (by omega) (by omega) (by omega)) (by omega) lF lN ?start ?step ?done
    case start => exact ⟨_, _, [], [], 0, rfl, rfl, .nil, .refl (fun _ h => nomatch h)⟩
    case step =>
      clear lF lN lR
      rintro I i m news t' h tk l1 hi ⟨o, o₀, q, vs, n, e0, rfl, e2, hk⟩ hI F' N'
      cases e0
      k_lt l1
      obtain ⟨u, rfl⟩ := hk.lam0
      have hki : a + 1 + i < T.length := by omega
      have ekk : ((a : Int) + 1 + (i : Int)).toNat = a + 1 + i := by omega
      obtain ⟨ad, tt, e3, e4⟩ := hT.item hki
      rw [← ekk] at e3
      unfold rowVals at e4
      have ihk : OrdIH w tr as T ts f (a + 1 + i) ((a : Int) + 1 + (i : Int)) := fun t => by
        have := ih (a + 1 + i) t (by omega) hki (by omega)
        have e : ((a + 1 + i : Nat) : Int) = (a : Int) + 1 + (i : Int) := by omega
        rw [e] at this
        exact this
      have hvl : vs.length ≤ 8000000 := by
        rw [e2.length, List.length_map]
        refine Nat.le_trans (orderTake_len (T := T) (a := a) hs (pow9 (f := f) (by omega)) (((List.range T.length).drop (a + 1)).take i)) ?_
        refine Nat.le_trans (Nat.mul_le_mul_right _ (m := 6) (by simp; omega)) (by decide +kernel)
      k_steps
      · unfold Stop
        (rename Fr _ _ _ _ => lF); (rename News _ _ _ _ => lN)
        refine UnrEnd.pick lF lN (by k_mem) (.tail _ (.tail _ (.tail _ (.tail _ (.head _))))) (by k_ne) ?_
        exact ⟨_, _, [], _, _, rfl, rfl, order_pos e2 (by assumption) hki (by assumption), ⟨(fun _ h => nomatch h), fun z z1 _ _ => by by_cases zo : z = Str.ofString "order" <;> simp [z1, zo]⟩⟩
      · unfold Stop
        (rename Fr _ _ _ _ => lF); (rename News _ _ _ _ => lN)
        refine UnrEnd.pick lF lN (by k_mem) (.tail _ (.head _)) (by k_ne) ?_
        exact ⟨_, _, [], _, _, rfl, rfl, order_neg e2 hki (by assumption), ⟨(fun _ h => nomatch h), fun z z1 _ _ => by simp [z1]⟩⟩
    case done =>
      clear lF lN lR
      rintro m news h tk ⟨o, o₀, q, vs, n, e0, rfl, e2, hk⟩ F' N'
      cases e0
      obtain ⟨u, rfl⟩ := hk.lam0
      k_steps
      all_goals walk_at "con end"
      rename PRet _ _ _ => hret
      (rename Fr _ _ _ _ => lF); (rename News _ _ _ _ => lN)
      refine pret_l hret lF lN ⟨_, _, _, rfl, rfl, ?_⟩
      rw [List.take_of_length_le (by simp)] at e2
      exact e2
theorem c_order6 (w : World) (tr : Addr) (as : List Addr) (T : List Row) (ts : List RTok) (a : Nat) (t : Tok) (ha : a < T.length) (h6 : T.length ≤ 6) :
    PCon w 240 9 [Value.ref tr, .int (a : Int) t] (fun h => TreeAt h tr as T ts) (fun _ r tl => ∃ D vs n, r = .ref D ∧ tl = [(D, W.listOf (List.toArray vs) n)] ∧ IntsAre vs (natsI (orderF T 6 a))) :=
  c_order w tr as T ts 6 a t (Nat.le_refl _) ha (by omega)
/-! a list comprehension over a text of known signs -/
section
variable {prog : Program} {w : World} {A : Around} {E : Value → Shared → Prop} {s : Shared} {h₀ : Heap} {L : Addr} {m : Str → Option Value} {env : Env}
noncomputable def SrcT (prog : Program) (w : World) (A : Around) (h₀ : Heap) (L : Addr) (m : Str → Option Value) (env : Env) (elt : Expr) (x : Str) (scope : Scope) (cl : List (Str × Addr)) (Fin : Shared → List Value → Led → Prop) (xv : Value) (s₁ : Shared) : Prop :=
  ∃ y t n news, xv = .str y t ∧ y.cps.all (· < 128) = true ∧ y.cps.size = n ∧ n ≤ sizeLine ∧ A.handled = none ∧ Fr h₀ L s₁.heap m ∧ News h₀ L s₁.heap news ∧
    ∀ s₂ : Shared, (∃ h, s₂ = { s₁ with heap := h }) → LCg.CompRest prog w A h₀ L m env elt x scope cl s₂ (fun _ => True) (SignAt y) (Fin s₂) n 0 [] news
theorem ListComp_text {elt iter : Expr} {x : Str} {px : Pos} {scope : Scope} {cl : List (Str × Addr)} {pos : Pos} {Q : Value → Shared → Prop} (F₀ : Fr h₀ L s.heap m)
    (hclos : closureFor scope env = pure cl) (hcell : ∀ y ∈ scope.names, y.2 ≠ .cell) (hkind : scope.kind = .function)
    (hnames : ∀ y ∈ scope.names, y.2 = .local → scope.names.lookup y.1 = some .local) (hx : scope.names.lookup x = some .local)
    (h : wpAny (model prog w) A (eval iter env) (SrcT prog w A h₀ L m env elt x scope cl (fun s₂ => LCg.FinE h₀ L m s₂ Q)) E s)
    (hs : ∀ x, foldedSetIterable iter env x = pure x := by intro _; rfl) :
    wpAny (model prog w) A (eval (.ListComp elt [⟨.Name x px, iter, [], 0⟩] scope pos) env) Q E s := by
  rw [eval_ListComp]
  refine wpAny_comprehension_free (use := none) rfl hs hclos hkind hnames (wpAny_mono h (fun xv s₁ h₁ => ?_) fun _ _ e => e)
  obtain ⟨y, t, n, news, rfl, hasc, rfl, hsz, hh, F, N, R⟩ := h₁
  refine wpAny_pyIter_ascii hasc ?_
  have up : ∀ b o, s₁.heap.get? b = some o → (s₁.heap.push { cls := .type "str_ascii_iterator", data := .fields #[.str y t, .int 0 0] }).get? b = some o := fun b o e => Heap.get?_push_of_some _ e
  refine LCg.block_U (Walks.strAscii hh s₁.heap.objs.size y t) hsz (fun i h st => by obtain ⟨o, e, _⟩ := st; exact ⟨o, e⟩) (fun i h h' o nw st e e' _ _ _ => by obtain ⟨o', q, r⟩ := st; rw [e] at q; cases q; exact ⟨o, e', r⟩) hcell hkind hx ⟨_, Heap.get?_push_size _ rfl, rfl, rfl⟩ (fun b hb => ?_)
    (F.keeps up) (N.grown up) (Nat.ne_of_lt F.ns.lt) (next_is_new F) (fun p hp => Nat.ne_of_lt (Heap.lt_size (N p hp).1)) trivial (R _ ⟨_, rfl⟩) ?_
  · rw [List.mem_singleton.mp hb]
    show s₁.heap.objs.size < (s₁.heap.push _).objs.size
    rw [Heap.size_push]; exact Nat.lt_succ_self _
  · intro D C h tk m' ys news' F' N' o1 hn hC₀ hD₀ hCL hDL hCD offC fin
    refine ⟨m', hn, fun h'' hs'' => fin D h'' tk (F'.change hs'' hCL hC₀) (fun p hp => ?_) o1⟩
    refine ⟨hs''.extBut _ _ ?_ (N' p hp).1, (N' p hp).2⟩
    rcases List.mem_cons.mp hp with rfl | hp
    · exact Ne.symm hCD
    · exact offC p hp
end
theorem SrcT.intro {prog : Program} {w : World} {A : Around} {h₀ : Heap} {L : Addr} {m : Str → Option Value} {env : Env} {elt : Expr} {x : Str} {scope : Scope} {cl : List (Str × Addr)} {Fin : Shared → List Value → Led → Prop} {y : Str} {t : Tok} {news : Led} {s₁ : Shared}
    (ha : y.cps.all (· < 128) = true) (hz : y.cps.size ≤ sizeLine) (hh : A.handled = none) (F : Fr h₀ L s₁.heap m) (N : News h₀ L s₁.heap news)
    (h : ∀ g, LCg.CompRest prog w A h₀ L m env elt x scope cl { s₁ with heap := g } (fun _ => True) (SignAt y) (Fin { s₁ with heap := g }) y.cps.size 0 [] news) : SrcT prog w A h₀ L m env elt x scope cl Fin (.str y t) s₁ :=
  ⟨y, t, _, news, rfl, ha, rfl, hz, hh, F, N, fun _ ⟨g, e⟩ => e ▸ h g⟩
theorem signAt_d {y : Str} {i : Nat} {v : Value} (h : SignAt y i v) (c : Nat) (e : y.cps[i]? = some c) : ∃ t, v = .str ⟨#[c]⟩ t := by
  obtain ⟨d, t, h1, h2⟩ := h
  rw [e] at h1
  cases h1
  exact ⟨t, h2⟩
theorem signAt_is {y : Str} {i c : Nat} {v : Value} (h : SignAt y i v) (e : y.cps[i]? = some c) : ∃ t, v = .str ⟨#[c]⟩ t := by
  obtain ⟨d, t, h1, h2⟩ := h
  rw [e] at h1
  cases h1
  exact ⟨t, h2⟩
section
variable {prog : Program} {w : World} {A : Around} {h₀ : Heap} {L : Addr} {m : Str → Option Value} {env : Env} {elt : Expr} {x : Str} {scope : Scope} {cl : List (Str × Addr)} {s : Shared} {S : Led → Prop} {P : Nat → Value → Prop} {Fin : List Value → Led → Prop} {news : Led}
/-- a comprehension over a ledger of any form; its element changes nothing that stands -/
theorem comp_gen {n : Nat} (R : Nat → List Value → Prop) (h0 : R 0 []) (hS : S news)
    (turn : ∀ i v I oI C oC D m₂ ys h tk (E' : Value → Shared → Prop), i < n → P i v → R i ys → LCg.NsObj oC m₂ → m₂ x = some v → Fr h₀ L h m → News h₀ L h ((I, oI) :: (C, oC) :: (D, LCg.lst ys) :: news) →
      wpAny (model prog w) A (eval elt (compEnvC scope cl C env)) (fun y s₂ => R (i + 1) (ys ++ [y]) ∧ ∃ tk', s₂ = { s with heap := h, toks := tk' }) E' { s with heap := h, toks := tk })
    (fin : ∀ ys, R n ys → Fin ys news) : LCg.CompRest prog w A h₀ L m env elt x scope cl s S P Fin n 0 [] news := by
  have key : ∀ (j i : Nat) (ys : List Value), i + j = n → R i ys → LCg.CompRest prog w A h₀ L m env elt x scope cl s S P Fin j i ys news := by
    intro j
    induction j with
    | zero =>
      intro i ys hi hy
      have e : i = n := by omega
      subst e
      exact LCg.CompRest.zero (fin ys hy)
    | succ j ih =>
      intro i ys hi hy
      refine LCg.CompRest.succ ?_
      intro v I oI C oC D m₂ h tk E' hv hC hx F N off ne
      refine wpAny_mono (turn i v I oI C oC D m₂ ys h tk E' (by omega) hv hy hC hx F N) (fun y s₂ hq => ?_) fun _ _ e => e
      obtain ⟨hR, tk', e⟩ := hq
      exact ⟨h, tk', news, e, F, N, off, hS, ih (i + 1) _ (by omega) hR⟩
  exact key n 0 [] (by omega) h0
end
theorem Stop.mk {P : Prop} (h : P) : Stop P := h
/-- an item of a text's signs -/
@[elab_as_elim]
theorem sign_elim {y : Str} {i : Nat} {v : Value} {P : Value → Prop} (h : SignAt y i v) (k : ∀ c t, y.cps.toList[i]? = some c → P (.str ⟨#[c]⟩ t)) : P v := by
  obtain ⟨c, t, h1, h2⟩ := h
  subst h2
  exact k c t (by rw [← h1]; simp)
theorem ord_sign {prog : Program} {w : World} {A : Around} {E : Value → Shared → Prop} {s : Shared} {Q : Value → Shared → Prop} {c : Nat} {t : Tok} (h : Q (.int (c : Int) s.toks) { s with toks := s.toks + 1 }) : wpAny (model prog w) A (call (.builtin "ord") [.str ⟨#[c]⟩ t]) Q E s :=
  ord_of_one rfl h
theorem codes_snoc {y : Str} {ys : List Value} {i c : Nat} {t : Tok} (h : IntsAre ys ((y.cps.toList.take i).map fun c : Nat => (c : Int))) (hc : y.cps.toList[i]? = some c) : IntsAre (ys ++ [.int (c : Int) t]) ((y.cps.toList.take (i + 1)).map fun c : Nat => (c : Int)) := by
  rw [List.take_succ, hc, Option.toList_some, List.map_append]
  exact h.append (.cons _ _ .nil)
theorem words_18_1 : True := by
  (k_with "my eval ListComp" => (k_here; (with_reducible show wpAny _ _ (eval _ (envOf (Str.ofString "_law_tape") _ _ _ _)) _ _ _); k_dflt (refine ListComp_text (F₀ := by k_asm) (by with_unfolding_all rfl) (by decide) (by rfl) (by decide) (by rfl) ?_)))
  (k_with "my SrcT" => (refine Stop.out ?_))
  trivial
/-- the octets of a place -/
noncomputable def rowTape (r : Row) : List Int := [(r.dep : Int), (r.name.length : Int)] ++ r.name.cps.toList.map (fun c : Nat => (c : Int)) ++ [r.mode.fmod 256, r.mode.fdiv 256]
theorem words_19_1 : True := by
  (k_with "my exec For" => (k_here; (with_reducible show wpAny _ _ (exec (Stmt.For _ _ _ _ _) (envOf (Str.ofString "_law_tape") _ _ _ _)) _ _ _); (rename Fr _ _ _ _ => lF_p); (with_unfolding_all refine' For_invVF lF_p ?g_q77 ?p_q77 ?_; (case g_q77 => exact rfl); (case p_q77 => exact rfl); k_whole)))
  (k_with "my pyIter ref" => ((with_reducible show wpAny _ (Around.deeper _ (envOf (Str.ofString "_law_tape") _ _ _ _)) (pyIter (Value.ref _)) _ _ _); refine Stop.out ?_))
  (k_with "my subscriptTail" => (k_here; (with_reducible show wpAny _ (Around.deeper _ (envOf (Str.ofString "_law_tape") _ _ _ _)) (subscriptTail _ _ (Value.ref _) (Value.int _ _)) _ _ _); walk_at "old item"))
  (k_with "my inplaceOp Add ref ref" => (k_here; (with_reducible show wpAny _ (Around.deeper _ (envOf (Str.ofString "_law_tape") _ _ _ _)) (inplaceOp Operator.Add (Value.ref _) (Value.ref _)) _ _ _); k_dflt (refine' iadd_own ?F_q80 ?N_q80 ?b_q80 ?U_q80 ?_ ?a_q80 ?z_q80; (case F_q80 => k_asm); (case N_q80 => k_asm); (case b_q80 => k_mem); (case U_q80 => walk_at "own upd"); (case a_q80 => first | omega | (simp only [List.length_append, List.length_cons, List.length_nil]; omega)); (case z_q80 => first | exact Nat.le_of_ble_eq_true rfl | (simp only [List.length_append, List.length_cons, List.length_nil]; omega)); k_whole); intro h_p F_p N_p; (try k_sweep)))
  trivial
theorem rowTape_of {r : Row} {nm : Str} (h : r.name = nm) : rowTape r = [(r.dep : Int), (nm.length : Int)] ++ nm.cps.toList.map (fun c : Nat => (c : Int)) ++ [r.mode.fmod 256, r.mode.fdiv 256] := by subst h; rfl
noncomputable def TapeJ (T : List Row) (os : List Nat) (m₀ : Str → Option Value) (news₀ : Led) (r : List Value) (m : Str → Option Value) (news : Led) : Prop :=
  ∃ (o : Addr) (o₀ : Obj) (q : Led) (vs : List Value) (n : Nat) (dn ms : List Nat), news₀ = (o, o₀) :: q ∧ news = (o, W.listOf vs.toArray n) :: q ∧ IntsAre r (natsI ms) ∧ dn ++ ms = os ∧ IntsAre vs (dn.flatMap fun k => rowTape (T.getD k Row.root)) ∧
    Keep (Str.ofString "k") [] [Str.ofString "up", Str.ofString "depth", Str.ofString "name", Str.ofString "mode", Str.ofString "way"] m₀ m
theorem tape_end {T : List Row} {dn : List Nat} {k : Nat} {vs ab c : List Value} {xs ys : List Int} (e5 : IntsAre vs (dn.flatMap fun k => rowTape (T.getD k Row.root))) (e : rowTape (T.getD k Row.root) = xs ++ ys) (h1 : IntsAre ab xs) (h2 : IntsAre c ys) :
    IntsAre (vs ++ ab ++ c) ((dn ++ [k]).flatMap fun k => rowTape (T.getD k Row.root)) := by
  rw [List.flatMap_append, List.flatMap_cons, List.flatMap_nil, List.append_nil, e, ← List.append_assoc]
  exact (e5.append h1).append h2
theorem rowTape_len {r : Row} (h : r.name ∈ names) : (rowTape r).length ≤ 10 := by
  unfold rowTape
  simp only [names, List.mem_cons, List.not_mem_nil, or_false] at h
  simp only [List.length_append, List.length_cons, List.length_nil, List.length_map]
  rcases h with e | e | e | e | e
  all_goals (rw [e]; decide +kernel)
theorem rowTape_in {r : Row} (h : r.name ∈ names) (hd : r.dep ≤ 255) (h0 : 0 ≤ r.mode) (h1 : r.mode < 65536) : KBa.In (rowTape r) := by
  unfold rowTape
  simp only [names, List.mem_cons, List.not_mem_nil, or_false] at h
  intro x hx
  simp only [List.mem_append, List.mem_cons, List.not_mem_nil, or_false, List.mem_map] at hx
  have hn : ∀ c ∈ r.name.cps.toList, c < 256 := by
    rcases h with e | e | e | e | e
    all_goals (rw [e]; decide +kernel)
  have hl : r.name.length ≤ 255 := by
    rcases h with e | e | e | e | e
    all_goals (rw [e]; decide +kernel)
  rcases hx with ((rfl | rfl) | ⟨c, hc, rfl⟩) | (rfl | rfl)
  · omega
  · omega
  · have := hn c hc; omega
  · exact ⟨Int.fmod_nonneg_of_pos _ (by decide), Int.fmod_lt_of_pos _ (by decide)⟩
  · rw [Int.fdiv_eq_ediv_of_nonneg _ (by decide)]; omega
theorem tape_len {T : List Row} : ∀ {dn : List Nat}, (∀ k, k ∈ dn → (T.getD k Row.root).name ∈ names) → (dn.flatMap fun k => rowTape (T.getD k Row.root)).length ≤ 10 * dn.length
  | [], _ => by simp
  | k :: r, h => by
    rw [List.flatMap_cons, List.length_append, List.length_cons]
    have h1 := rowTape_len (h k (.head _))
    have h2 := tape_len (T := T) (dn := r) fun k hk => h k (.tail _ hk)
    omega
theorem tape_in {T : List Row} {dn : List Nat} (h : ∀ k, k ∈ dn → KBa.In (rowTape (T.getD k Row.root))) : KBa.In (dn.flatMap fun k => rowTape (T.getD k Row.root)) := fun x hx => by
  obtain ⟨k, hk, hx⟩ := List.mem_flatMap.mp hx
  exact h k hk x hx
theorem words_19_2 : True := by
  (k_with "my binaryOp Add ref ref" => (k_here; (with_reducible show wpAny _ (Around.deeper _ (envOf (Str.ofString "_law_tape") _ _ _ _)) (binaryOp Operator.Add (Value.ref _) (Value.ref _)) _ _ _); k_dflt (refine' add_own (vs := [_, _]) ?F_q81 ?N_q81 ?l_q81 ?r_q81 ?a_q81 ?b_q81 ?_; (case F_q81 => k_asm); (case N_q81 => k_asm); (case l_q81 => exact News.isList (by k_asm) (by k_mem)); (case r_q81 => exact News.isList (by k_asm) (by k_mem)); (case a_q81 => exact Nat.le_of_ble_eq_true rfl); (case b_q81 => with_reducible assumption)); intro D_p h_p F_p N_p l1_r; (try k_lt l1_r); (try k_sweep)))
  (k_with "my call builtin:ord" => (k_here; with_reducible refine ord_sign ?_))
  trivial
@[elab_as_elim]
theorem TapeJ.elim {T : List Row} {os : List Nat} {m₀ m : Str → Option Value} {o : Addr} {o₀ : Obj} {q news : Led} {v : Value} {r : List Value} {P : (Str → Option Value) → Led → Value → Prop} (hj : TapeJ T os m₀ ((o, o₀) :: q) (v :: r) m news)
    (k : ∀ (vs : List Value) (n : Nat) (dn ms : List Nat) (k : Nat) (xt : Tok) (u : Str → Option Value), IntsAre r (natsI ms) → dn ++ k :: ms = os → IntsAre vs (dn.flatMap fun k => rowTape (T.getD k Row.root)) →
      P (fun z => if z = Str.ofString "k" then u z else if [Str.ofString "up", Str.ofString "depth", Str.ofString "name", Str.ofString "mode", Str.ofString "way"].contains z = true then u z else m₀ z) ((o, W.listOf vs.toArray n) :: q) (.int (k : Int) xt)) : P m news v := by
  obtain ⟨o', o0, q', vs, n, dn, ks, e0, rfl, e1, e2, e5, hk⟩ := hj
  cases e0
  obtain ⟨u, rfl⟩ := hk.lam0
  cases ks with
  | nil => cases e1
  | cons k' ks =>
    cases e1 with
    | cons _ xt hr => exact k vs n dn ks k' xt u hr e2 e5
@[elab_as_elim]
theorem TapeJ.fin {T : List Row} {os : List Nat} {m₀ m : Str → Option Value} {o : Addr} {o₀ : Obj} {q news : Led} {P : (Str → Option Value) → Led → Prop} (hj : TapeJ T os m₀ ((o, o₀) :: q) [] m news)
    (k : ∀ (vs : List Value) (n : Nat) (u : Str → Option Value), IntsAre vs (os.flatMap fun k => rowTape (T.getD k Row.root)) →
      P (fun z => if z = Str.ofString "k" then u z else if [Str.ofString "up", Str.ofString "depth", Str.ofString "name", Str.ofString "mode", Str.ofString "way"].contains z = true then u z else m₀ z) ((o, W.listOf vs.toArray n) :: q)) : P m news := by
  obtain ⟨o', o0, q', vs, n, dn, ks, e0, rfl, e1, e2, e5, hk⟩ := hj
  cases e0
  obtain ⟨u, rfl⟩ := hk.lam0
  cases ks with
  | cons _ _ => cases e1
  | nil =>
    rw [List.append_nil] at e2
    subst e2
    exact k vs n u e5
theorem TapeJ.next {T : List Row} {os dn ms : List Nat} {m₀ m : Str → Option Value} {o : Addr} {o₀ : Obj} {q : Led} {r vs ab c : List Value} {n k : Nat} {xs ys : List Int} (hr : IntsAre r (natsI ms)) (ed : dn ++ k :: ms = os) (e5 : IntsAre vs (dn.flatMap fun k => rowTape (T.getD k Row.root)))
    (e : rowTape (T.getD k Row.root) = xs ++ ys) (h1 : IntsAre ab xs) (h2 : IntsAre c ys) (h : ∀ z, z ≠ Str.ofString "k" → z ≠ Str.ofString "up" → z ≠ Str.ofString "depth" → z ≠ Str.ofString "name" → z ≠ Str.ofString "mode" → z ≠ Str.ofString "way" → m z = m₀ z) :
    TapeJ T os m₀ ((o, o₀) :: q) r m ((o, W.listOf (vs ++ ab ++ c).toArray n) :: q) :=
  ⟨_, _, q, _, _, dn ++ [k], ms, rfl, rfl, hr, by rw [List.append_assoc]; exact ed, tape_end e5 e h1 h2, ⟨(fun _ h => nomatch h), fun z z1 _ z3 => by
    simp only [List.contains_cons, List.contains_nil, Bool.or_false, Bool.or_eq_false_iff, beq_eq_false_iff_ne, ne_eq] at z3
    exact h z z1 z3.1 z3.2.1 z3.2.2.1 z3.2.2.2.1 z3.2.2.2.2⟩⟩
theorem name_ascii {nm : Str} (h : nm ∈ names) : nm.cps.all (· < 128) = true ∧ nm.cps.size ≤ 3 := by
  have : ∀ nm ∈ names, nm.cps.all (· < 128) = true ∧ nm.cps.size ≤ 3 := by decide +kernel
  exact this nm h
theorem c_tape (w : World) (tr ol : Addr) (as : List Addr) (T : List Row) (ts : List RTok) (vs : List Value) (os : List Nat) (hm : ∀ k ∈ os, k < T.length) (hnm : ∀ k, k ∈ os → (T.getD k Row.root).name ∈ names)
    (hmo : ∀ k, k ∈ os → 0 ≤ (T.getD k Row.root).mode ∧ (T.getD k Row.root).mode < 65536) (hde : ∀ k, k ∈ os → (T.getD k Row.root).dep ≤ 255) (hle : os.length ≤ 6) (hi : IntsAre vs (natsI os)) :
    PCon w 245 3 [Value.ref tr, .ref ol] (fun h => TreeAt h tr as T ts ∧ h.IsList ol vs.toArray) (fun _ r tl => ∃ b t, r = .bytes b t ∧ tl = [] ∧ KBw.bInts b = os.flatMap fun k => rowTape (T.getD k Row.root)) := by
  walk_at "con enter"
  rename _ ∧ Heap.IsList _ _ _ => hpre
  have hT := hpre.1
  have hO := hpre.2
  have hl := hT.l
  have hs := hT.s
  k_steps
  with_reducible refine Stop.mk ?_
  rename Fr _ _ _ _ => lF
  rename News _ _ _ _ => lN
  with_unfolding_all refine' iter_old (TapeJ T os) (by rfl) hO lF lN ⟨_, _, [], [], 0, [], os, rfl, rfl, by assumption, rfl, .nil, .refl (fun _ h => nomatch h)⟩ ?step ?done
  case step =>
    clear lF lN
    intro I v r m news it h tk l1 hj hI hc F' N'
    k_lt l1
    revert hI F' N'
    refine TapeJ.elim hj ?_
    clear hj
    intro vs n dn ms k xt u hr e2 e5 hI F' N'
    clear hI
    have hko : k ∈ os := by rw [← e2]; simp
    have hk' := hm k hko
    refine TreeAt.elim (x := (k : Int)) hT rfl hk' ?_
    intro ad tt hl9 e3 e4
    unfold rowVals at e4
    have hmk := hmo k hko
    have hname := hnm k hko
    have hasc := name_ascii hname
    have hvl : vs.length ≤ 1000000 := by
      rw [e5.length]
      have h1 := tape_len (T := T) (dn := dn) fun k hk => hnm k (by rw [← e2]; exact List.mem_append_left _ hk)
      have h2 : dn.length ≤ os.length := by rw [← e2, List.length_append]; omega
      omega
    generalize hN : (T.getD k Row.root).name = nm at e4 hasc
    have hnl : nm.length ≤ 3 := hasc.2
    k_steps
    with_reducible refine Stop.mk ?_
    rename Fr _ _ _ _ => lF
    rename News _ _ _ _ => lN
    k_dflt (refine SrcT.intro hasc.1 (by unfold sizeLine; omega) (by rfl) lF lN ?_)
    intro g'
    refine comp_gen (fun i ys => IntsAre ys ((nm.cps.toList.take i).map fun c : Nat => (c : Int))) .nil trivial ?turn ?fin
    case turn =>
      clear lF lN
      intro i v I2 oI Cc oC D m₂ ys h2 tk2 E' hi hv hys hC hx F' N'
      revert hx
      refine sign_elim hv ?_
      intro c tc hc hx
      k_steps
      exact codes_snoc hys hc
    case fin =>
      clear lF lN
      intro ys hys
      have hys2 : IntsAre ys (nm.cps.toList.map fun c : Nat => (c : Int)) := by
        rw [List.take_of_length_le (by simp)] at hys; exact hys
      have hyl : ys.length ≤ 1000000 := by rw [hys2.length, List.length_map, Array.length_toList]; omega
      have hyl2 : ys.length ≤ 3 := by rw [hys2.length, List.length_map, Array.length_toList]; exact hasc.2
      k_steps
      rename Fr _ _ _ _ => lF
      rename News _ _ _ _ => lN
      exact UnrEnd.pick lF lN (by k_mem) (.tail _ (.tail _ (.tail _ (.tail _ (.tail _ (.head _)))))) (by k_ne) (TapeJ.next hr e2 e5 (rowTape_of hN) (.cons _ _ (.cons _ _ hys2)) (.cons _ _ (.cons _ _ .nil)) fun z z1 z2 z3 z4 z5 z6 => by by_cases zo : z = Str.ofString "tape" <;> simp [z1, zo, z2, z3, z4, z5, z6])
  case done =>
    clear lF lN
    intro m news h tk hj F' N'
    revert F' N'
    refine TapeJ.fin hj ?_
    clear hj
    intro vs n u e5 F' N'
    have hIn := tape_in (T := T) (dn := os) fun k hk => rowTape_in (hnm k hk) (hde k hk) (hmo k hk).1 (hmo k hk).2
    have hsz : (os.flatMap fun k => rowTape (T.getD k Row.root)).length ≤ 16777216 := by
      have h1 := tape_len (T := T) (dn := os) hnm
      omega
    have hbI := KBa.ints_make hIn
    k_steps
    walk_at "con end"
    rename PRet _ _ _ => hret
    rename Fr _ _ _ _ => lF
    exact hret _ [] _ _ lF.keep (fun _ h => nomatch h) ⟨_, _, rfl, rfl, hbI⟩
/-! bytes.decode of latin-1 -/
theorem road_l1 {id : String} {b : Array UInt8} : Builtin._codecs.decodeRoad id b (PySem.Str.ofString "latin-1") none [] = (Builtin._codecs.runDecoder id Builtin._codecs.latin1Decoder none true b 0 [] >>= fun r => mkStr ⟨r.1⟩) := by kernel_rfl
theorem meets_text1 {b : Array UInt8} {t t1 t2 : Tok} {d x : PySem.Str} {n : Nat} (hd : ∀ id, Builtin._codecs.runDecoder id Builtin._codecs.latin1Decoder none true b 0 [] = pure (x.cps, n)) :
    Meets (Builtin.«_codecs.decode.text» ⟨[.bytes b t, .str (PySem.Str.ofString "latin-1") t1, .none, .str d t2], []⟩) (fun _ R s => x.length ≤ sizeLine ∧ R (.ok (.ret (.str x s.toks))) { s with toks := s.toks + 1 }) := by
  refine .of_wp fun prog w A R s hS => ?_
  obtain ⟨hsz, h⟩ := hS
  show wpAny _ _ (Builtin.Bytes.bytesLike _ (.bytes b t) >>= fun r => _) _ _ s
  refine wpAny_bind (wpAny_of_eq KBd.like_eq ?_)
  refine wpAny_bind (wpAny_of_eq KBd.held_eq ?_)
  show wpAny _ _ (Builtin._codecs.decodeRoad _ b (PySem.Str.ofString "latin-1") none [] >>= fun v => _) _ _ s
  rw [road_l1, hd]
  refine wpAny_bind (wpAny_bind (wpAny_pure ?_))
  exact wpAny_mkStr (wpAny_pure ⟨_, rfl, h⟩) hsz
theorem args_dec2 (a b : Value) : argsOk "bytes.decode" ⟨[a, b], []⟩ := by
  unfold argsOk; rw [signature?_of (id := "bytes.decode") (n := ['e', 'd', 'o', 'c', 'e', 'd']) (o := ['s', 'e', 't', 'y', 'b']) (by kernel_rfl) FB.owner_bytes]; kernel_rfl
theorem entry_l1 {c : UInt8} {cs : List UInt8} {t u : Tok} : Builtin.«bytes.decode» ⟨[.bytes (c :: cs).toArray t, .str (PySem.Str.ofString "latin-1") u], []⟩ = (mkStr (PySem.Str.ofString "utf-8") >>= fun _ => mkStr (PySem.Str.ofString "latin-1") >>= fun e => mkStr (PySem.Str.ofString "bytes.decode") >>= fun d =>
    call (.builtin "_codecs.decode.text") [.bytes (c :: cs).toArray t, e, .none, d] >>= fun v => ret v) := by kernel_rfl
theorem meets_dec1 {c : UInt8} {cs : List UInt8} {t u : Tok} {x : PySem.Str} {n : Nat} (hd : ∀ id, Builtin._codecs.runDecoder id Builtin._codecs.latin1Decoder none true (c :: cs).toArray 0 [] = pure (x.cps, n)) :
    Meets (Builtin.«bytes.decode» ⟨[.bytes (c :: cs).toArray t, .str (PySem.Str.ofString "latin-1") u], []⟩) (fun _ R s => x.length ≤ sizeLine ∧ ∀ t' k, R (.ok (.ret (.str x t'))) { s with toks := k }) := by
  refine .of_wp fun prog w A R s hS => ?_
  obtain ⟨hsz, h⟩ := hS
  rw [entry_l1]
  refine wpAny_bind (wpAny_mkStr ?_ (by decide))
  refine wpAny_bind (wpAny_mkStr ?_ (by decide))
  refine wpAny_bind (wpAny_mkStr ?_ (by decide))
  exact wpAny_bind (call_function_meets KBd.kind_text KBd.plain_text KBd.entry_text (KBd.args_text _ _ _ _) (meets_text1 hd) ⟨hsz, wpAny_pure ⟨_, rfl, h _ _⟩⟩)
theorem decode_l1 {prog : Program} {w : World} {A : Around} {E : Value → Shared → Prop} {s : Shared} {b : Array UInt8} {c : UInt8} {cs : List UInt8} {t u : Tok} {x : PySem.Str} {n : Nat} {Q : Value → Shared → Prop} (hb : b = (c :: cs).toArray)
    (hd : ∀ id, Builtin._codecs.runDecoder id Builtin._codecs.latin1Decoder none true (c :: cs).toArray 0 [] = pure (x.cps, n)) (hsz : x.length ≤ 16777216) (h : ∀ t' k, Q (.str x t') { s with toks := k }) :
    wpAny (model prog w) A (call (.builtin "bytes.decode") [.bytes b t, .str (PySem.Str.ofString "latin-1") u]) Q E s := by
  subst hb
  exact call_meets FB.slot_bytes_decode (typeIs_bytes _ _ _) FB.entry_bytes_decode (args_dec2 _ _) (meets_dec1 hd) ⟨by rw [sizeLine_eq]; exact hsz, h⟩
/-- the octets of a name are the name again -/
theorem bInts_inj {b c : Array UInt8} (h : KBw.bInts b = KBw.bInts c) : b = c := by
  have e : ∀ {l k : List UInt8}, l.map (fun c => ((c.toNat : Nat) : Int)) = k.map (fun c => ((c.toNat : Nat) : Int)) → l = k := by
    intro l
    induction l with
    | nil => intro k h; cases k with
      | nil => rfl
      | cons _ _ => cases h
    | cons a l ih => intro k h; cases k with
      | nil => cases h
      | cons d k =>
        simp only [List.map_cons, List.cons.injEq] at h
        have h1 : a.toNat = d.toNat := by omega
        rw [UInt8.toNat_inj.mp h1, ih h.2]
  have h' : b.toList = c.toList := e h
  exact Array.toList_inj.mp h'
noncomputable def nameOcts (x : Str) : List UInt8 := x.cps.toList.map Nat.toUInt8
theorem dec_a (id : String) : Builtin._codecs.runDecoder id Builtin._codecs.latin1Decoder none true (nameOcts (Str.ofString "a")).toArray 0 [] = pure ((Str.ofString "a").cps, 1) := by kernel_rfl
theorem dec_d (id : String) : Builtin._codecs.runDecoder id Builtin._codecs.latin1Decoder none true (nameOcts (Str.ofString "...")).toArray 0 [] = pure ((Str.ofString "...").cps, 3) := by kernel_rfl
theorem dec_am (id : String) : Builtin._codecs.runDecoder id Builtin._codecs.latin1Decoder none true (nameOcts (Str.ofString "a-")).toArray 0 [] = pure ((Str.ofString "a-").cps, 2) := by kernel_rfl
theorem dec_bd (id : String) : Builtin._codecs.runDecoder id Builtin._codecs.latin1Decoder none true (nameOcts (Str.ofString "b.")).toArray 0 [] = pure ((Str.ofString "b.").cps, 2) := by kernel_rfl
theorem dec_m (id : String) : Builtin._codecs.runDecoder id Builtin._codecs.latin1Decoder none true (nameOcts (Str.ofString "-")).toArray 0 [] = pure ((Str.ofString "-").cps, 1) := by kernel_rfl
/-- the name that its octets tell -/
theorem decode_name {prog : Program} {w : World} {A : Around} {E : Value → Shared → Prop} {s : Shared} {b : Array UInt8} {t u : Tok} {x : PySem.Str} {Q : Value → Shared → Prop}
    (hx : x = Str.ofString "a" ∨ x = Str.ofString "..." ∨ x = Str.ofString "a-" ∨ x = Str.ofString "b." ∨ x = Str.ofString "-") (hb : KBw.bInts b = x.cps.toList.map (fun c : Nat => (c : Int))) (h : ∀ t' k, Q (.str x t') { s with toks := k }) :
    wpAny (model prog w) A (call (.builtin "bytes.decode") [.bytes b t, .str (PySem.Str.ofString "latin-1") u]) Q E s := by
  rcases hx with rfl | rfl | rfl | rfl | rfl
  · have e : b = (nameOcts (Str.ofString "a")).toArray := bInts_inj (hb.trans (by decide +kernel))
    exact decode_l1 (cs := []) (e.trans (by decide +kernel)) dec_a (by decide +kernel) h
  · have e : b = (nameOcts (Str.ofString "...")).toArray := bInts_inj (hb.trans (by decide +kernel))
    exact decode_l1 (cs := [46, 46]) (e.trans (by decide +kernel)) dec_d (by decide +kernel) h
  · have e : b = (nameOcts (Str.ofString "a-")).toArray := bInts_inj (hb.trans (by decide +kernel))
    exact decode_l1 (cs := [45]) (e.trans (by decide +kernel)) dec_am (by decide +kernel) h
  · have e : b = (nameOcts (Str.ofString "b.")).toArray := bInts_inj (hb.trans (by decide +kernel))
    exact decode_l1 (cs := [46]) (e.trans (by decide +kernel)) dec_bd (by decide +kernel) h
  · have e : b = (nameOcts (Str.ofString "-")).toArray := bInts_inj (hb.trans (by decide +kernel))
    exact decode_l1 (cs := []) (e.trans (by decide +kernel)) dec_m (by decide +kernel) h
/-! _law_due -/
noncomputable def letF (mode p q : Int) : Int :=
  2 * (((mode.fdiv p).fmod 8).fdiv 4 + (((mode.fdiv p).fmod 8).fdiv 2).fmod 2) + (if ((mode.fdiv p).fmod 8).fmod 2 = 1 ∨ (mode.fdiv q).fmod 2 = 1 then 2 else 0)
noncomputable def lettersF (mode : Int) : Nat → Int
  | 0 => 0
  | 1 => letF mode 64 2048
  | 2 => letF mode 64 2048 + letF mode 8 1024
  | _ => letF mode 64 2048 + letF mode 8 1024 + letF mode 1 512
noncomputable def dueF (T : List Row) : Nat → Int
  | 0 => 0
  | i + 1 => dueF T i + (if (orderF T 6 (1 + i)).length + 1 + 1 < T.length then lettersF (T.getD (1 + i) Row.root).mode 3 else 0)
noncomputable def pF : Nat → Int
  | 0 => 64
  | 1 => 8
  | _ => 1
noncomputable def qF : Nat → Int
  | 0 => 2048
  | 1 => 1024
  | _ => 512
theorem pF_or : ∀ j, pF j = 64 ∨ pF j = 8 ∨ pF j = 1
  | 0 => .inl rfl
  | 1 => .inr (.inl rfl)
  | _ + 2 => .inr (.inr rfl)
theorem qF_or : ∀ j, qF j = 2048 ∨ qF j = 1024 ∨ qF j = 512
  | 0 => .inl rfl
  | 1 => .inr (.inl rfl)
  | _ + 2 => .inr (.inr rfl)
theorem lets_j (mode : Int) : ∀ {j : Nat}, j < 3 → lettersF mode (j + 1) = lettersF mode j + letF mode (pF j) (qF j)
  | 0, _ => by show letF mode 64 2048 = 0 + _; rw [Int.zero_add]; rfl
  | 1, _ => rfl
  | 2, _ => rfl
noncomputable def DueJ (T : List Row) (m₀ : Str → Option Value) (news₀ : Led) (i : Nat) (m : Str → Option Value) (news : Led) : Prop :=
  ∃ t x, news = [] ∧ x = dueF T i ∧ Keep (Str.ofString "k") [(Str.ofString "due", .int x t)] [Str.ofString "mode", Str.ofString "c", Str.ofString "third"] m₀ m
noncomputable def DueI (mode d : Int) (m₀ : Str → Option Value) (news₀ : Led) (i : Nat) (m : Str → Option Value) (news : Led) : Prop :=
  ∃ t x, news = news₀ ∧ x = d + lettersF mode i ∧ Keep (Str.ofString "c") [(Str.ofString "due", .int x t)] [Str.ofString "third"] m₀ m
theorem Keep.refl1 {x y : Str} {v : Value} {tmp : List Str} {m₀ : Str → Option Value} (h : m₀ y = some v) : Keep x [(y, v)] tmp m₀ m₀ := .refl fun p hp => by
  rw [List.mem_singleton.mp hp]; exact h
@[elab_as_elim]
theorem DueJ.elim {T : List Row} {m₀ m : Str → Option Value} {news₀ news : Led} {i : Nat} {P : (Str → Option Value) → Led → Prop} (hj : DueJ T m₀ news₀ i m news)
    (k : ∀ (t : Tok) (x : Int) (u : Str → Option Value), x = dueF T i → P (fun z => if z = Str.ofString "k" then u z else if z = Str.ofString "due" then some (.int x t) else if [Str.ofString "mode", Str.ofString "c", Str.ofString "third"].contains z = true then u z else m₀ z) []) : P m news := by
  obtain ⟨t, x, rfl, hx, hk⟩ := hj
  obtain ⟨u, rfl⟩ := hk.lam1
  exact k t x u hx
@[elab_as_elim]
theorem DueI.elim {mode d : Int} {m₀ m : Str → Option Value} {news₀ news : Led} {i : Nat} {P : (Str → Option Value) → Led → Prop} (hj : DueI mode d m₀ news₀ i m news)
    (k : ∀ (t : Tok) (x : Int) (u : Str → Option Value), x = d + lettersF mode i → P (fun z => if z = Str.ofString "c" then u z else if z = Str.ofString "due" then some (.int x t) else if [Str.ofString "third"].contains z = true then u z else m₀ z) news₀) : P m news := by
  obtain ⟨t, x, rfl, hx, hk⟩ := hj
  obtain ⟨u, rfl⟩ := hk.lam1
  exact k t x u hx
theorem DueJ.next {T : List Row} {m₀ m : Str → Option Value} {news₀ : Led} {i : Nat} {x : Int} {t : Tok} (hx : x = dueF T i) (h : m (Str.ofString "due") = some (.int x t))
    (h3 : ∀ z, z ≠ Str.ofString "k" → z ≠ Str.ofString "due" → z ≠ Str.ofString "mode" → z ≠ Str.ofString "c" → z ≠ Str.ofString "third" → m z = m₀ z) : DueJ T m₀ news₀ i m [] :=
  ⟨t, x, rfl, hx, fun p hp => by rw [List.mem_singleton.mp hp]; exact h, fun z a b c => by
    simp only [List.map_cons, List.map_nil, List.contains_cons, List.contains_nil, Bool.or_false, Bool.or_eq_false_iff, beq_eq_false_iff_ne, ne_eq] at b c
    exact h3 z a b c.1 c.2.1 c.2.2⟩
theorem DueI.next {mode d : Int} {m₀ m : Str → Option Value} {news₀ : Led} {i : Nat} {x : Int} {t : Tok} (hx : x = d + lettersF mode i) (h : m (Str.ofString "due") = some (.int x t))
    (h3 : ∀ z, z ≠ Str.ofString "c" → z ≠ Str.ofString "due" → z ≠ Str.ofString "third" → m z = m₀ z) : DueI mode d m₀ news₀ i m news₀ :=
  ⟨t, x, rfl, hx, fun p hp => by rw [List.mem_singleton.mp hp]; exact h, fun z a b c => by
    simp only [List.map_cons, List.map_nil, List.contains_cons, List.contains_nil, Bool.or_false, Bool.or_eq_false_iff, beq_eq_false_iff_ne, ne_eq] at b c
    exact h3 z a b c⟩
section
variable {prog : Program} {w : World} {A : Around} {E : Value → Shared → Prop} {s : Shared} {Q : Value → Shared → Prop} {a : Int} {j : Nat} {t u : Tok}
theorem pow_p (hj : j < 3) (h : Q (.int (pF j) s.toks) { s with toks := s.toks + 1 }) : wpAny (model prog w) A (binaryOp .Pow (.int 8 t) (.int (2 - (0 + (j : Int))) u)) Q E s := by
  have e : (8 : Int) ^ ((2 : Int) - (0 + (j : Int))).toNat = pF j := by
    have h3 : j = 0 ∨ j = 1 ∨ j = 2 := by omega
    rcases h3 with rfl | rfl | rfl <;> decide
  refine pow_int_small (by omega) (by omega) (by decide) ?_
  rw [e]; exact h
theorem pow_q (hj : j < 3) (h : Q (.int (qF j) s.toks) { s with toks := s.toks + 1 }) : wpAny (model prog w) A (binaryOp .Pow (.int 2 t) (.int (11 - (0 + (j : Int))) u)) Q E s := by
  have e : (2 : Int) ^ ((11 : Int) - (0 + (j : Int))).toNat = qF j := by
    have h3 : j = 0 ∨ j = 1 ∨ j = 2 := by omega
    rcases h3 with rfl | rfl | rfl <;> decide
  refine pow_int_small (by omega) (by omega) (by decide) ?_
  rw [e]; exact h
theorem div_pq {b : Int} (hb : b = pF j ∨ b = qF j) (h : Q (.int (a.fdiv b) s.toks) { s with toks := s.toks + 1 }) : wpAny (model prog w) A (binaryOp .FloorDiv (.int a t) (.int b u)) Q E s := by
  refine floordiv_int ?_ h (Or.inl (PyProof.noPylong_of_log2 ?_))
  all_goals
    rcases hb with rfl | rfl
    · rcases pF_or j with e | e | e <;> rw [e] <;> decide +kernel
    · rcases qF_or j with e | e | e <;> rw [e] <;> decide +kernel
end
theorem words_21_1 : True := by
  (k_with "my pyIter ref" => ((with_reducible show wpAny _ (Around.deeper _ (envOf (Str.ofString "_law_due") _ _ _ _)) (pyIter (Value.ref _)) _ _ _); refine Stop.out ?_))
  (k_with "my exec For" => (k_here; (with_reducible show wpAny _ _ (exec (Stmt.For _ _ _ _ _) (envOf (Str.ofString "_law_due") _ _ _ _)) _ _ _); (rename Fr _ _ _ _ => lF_p); (with_unfolding_all refine' For_invVF lF_p ?g_q84 ?p_q84 ?_; (case g_q84 => exact rfl); (case p_q84 => exact rfl); k_whole)))
  (k_with "my call builtin:len" => (k_here; (with_reducible show wpAny _ (Around.deeper _ (envOf (Str.ofString "_law_due") _ _ _ _)) (call (Value.builtin "len") [Value.ref _]) _ _ _); k_dflt (refine' len_known ?l_q85 ?n_q85 ?z_q85 ?_; (case l_q85 => first | exact isList_old (by k_asm) (by assumption) | exact News.isList (by k_asm) (by k_mem)); (case n_q85 => assumption); (case z_q85 => omega)); intro _ _))
  (k_with "my subscriptTail" => (k_here; (with_reducible show wpAny _ (Around.deeper _ (envOf (Str.ofString "_law_due") _ _ _ _)) (subscriptTail _ _ (Value.ref _) (Value.int _ _)) _ _ _); walk_at "old item"))
  (k_with "my call ref" => (k_here; (with_reducible show wpAny _ (Around.deeper _ (envOf (Str.ofString "_law_due") _ _ _ _)) (call (Value.ref 240) _) _ _ _); (rename OrdIH _ _ _ _ _ _ _ _ => ihX_r); k_dflt (refine' PCon.use (ihX_r _) ?B_q ?F_q ?X_q ?N_q ?T_q ?hf_q ?hk_q ?hd_q ?hu_q ?hp_q87 ?_; (case hp_q87 => (rename TreeAt _ _ _ _ _ => tT_r; exact tT_r.keep (fun b o e => Fr.keep (by k_asm) b o e))); walk_at "con use"; intro r9_r tl9_r h9_r tk9_r S9_r F9_r N9_r D9_r O9_r; obtain ⟨d9_r, vs9_r, n9_r, e9_r, e9_p, hI9_r⟩ := O9_r; subst e9_r; subst e9_p; clear S9_r D9_r; (try simp only [List.cons_append, List.nil_append] at N9_r); (have hz9_r := IntsAre.length hI9_r); (rw [List.length_map] at hz9_r); (try dsimp only); (try k_fold))))
  (k_with "my UnrEnd" => ((with_reducible show UnrEnd _ _ _ _ _ (DueJ _ _ _ _) _); refine Stop.out ?_))
  (k_with "my UnrEnd" => ((with_reducible show UnrEnd _ _ _ _ _ (DueI _ _ _ _ _) _); refine Stop.out ?_))
  trivial
theorem words_21_2 : True := by
  (k_with "my binaryOp Pow int int" => ((first | (with_reducible refine pow_p (by assumption) ?_) | (with_reducible refine pow_q (by assumption) ?_)); (try dsimp only)))
  (k_with "my binaryOp FloorDiv int int" => ((first | (with_reducible refine div_pq (.inl rfl) ?_) | (with_reducible refine div_pq (.inr rfl) ?_)); (try dsimp only)))
  trivial
theorem Keep.mk1 {x y : Str} {v : Value} {tmp : List Str} {m₀ m : Str → Option Value} (h : m y = some v) (h3 : ∀ z, z ≠ x → z ≠ y → tmp.contains z = false → m z = m₀ z) : Keep x [(y, v)] tmp m₀ m := by
  refine ⟨fun p hp => ?_, fun z a b c => ?_⟩
  · rw [List.mem_singleton.mp hp]; exact h
  · simp only [List.map_cons, List.map_nil, List.contains_cons, List.contains_nil, Bool.or_false, beq_eq_false_iff_ne, ne_eq] at b
    exact h3 z a b c
theorem UnrEnd.none {h₀ : Heap} {L I : Addr} {it : Obj} {rest : (Str → Option Value) → Led → Prop} {s₁ : Shared} {h' : Heap} {tk : Nat} {m' : Str → Option Value} {all : Led} (F : Fr h₀ L h' m') (N : News h₀ L h' all)
    (h1 : (I, it) ∈ all) (r : rest m' []) : UnrEnd h₀ L s₁ I it rest { s₁ with heap := h', toks := tk } :=
  ⟨h', tk, m', [], rfl, F, (fun p hp => by rw [List.mem_singleton.mp hp]; exact N _ h1), off_nil, r⟩
theorem due_pos {x y mode p q L L' : Int} (hy : y = x + L) (hL : L' = L + letF mode p q) (h : ((mode.fdiv p).fmod 8).fmod 2 = 1 ∨ (mode.fdiv q).fmod 2 = 1) :
    y + 2 * (((mode.fdiv p).fmod 8).fdiv 4 + (((mode.fdiv p).fmod 8).fdiv 2).fmod 2) + 2 = x + L' := by
  subst hy hL
  unfold letF
  rw [if_pos h]
  generalize 2 * (((mode.fdiv p).fmod 8).fdiv 4 + (((mode.fdiv p).fmod 8).fdiv 2).fmod 2) = A
  omega
theorem due_neg {x y mode p q L L' : Int} (hy : y = x + L) (hL : L' = L + letF mode p q) (h : ((mode.fdiv p).fmod 8).fmod 2 ≠ 1) (h' : (mode.fdiv q).fmod 2 ≠ 1) :
    y + 2 * (((mode.fdiv p).fmod 8).fdiv 4 + (((mode.fdiv p).fmod 8).fdiv 2).fmod 2) = x + L' := by
  subst hy hL
  unfold letF
  rw [if_neg (fun e => e.elim h h')]
  generalize 2 * (((mode.fdiv p).fmod 8).fdiv 4 + (((mode.fdiv p).fmod 8).fdiv 2).fmod 2) = A
  omega
theorem dueF_pos {T : List Row} {i : Nat} {x y : Int} (hx : x = dueF T i) (hy : y = x + lettersF (T.getD (1 + i) Row.root).mode 3) (h : ((orderF T 6 (1 + i)).length : Int) + 1 < (T.length : Int) - 1) : y = dueF T (i + 1) := by
  rw [dueF, if_pos (by omega), hy, hx]
theorem dueF_neg {T : List Row} {i : Nat} {x : Int} (hx : x = dueF T i) (h : ¬ ((orderF T 6 (1 + i)).length : Int) + 1 < (T.length : Int) - 1) : x = dueF T (i + 1) := by
  rw [dueF, if_neg (by omega), hx, Int.add_zero]
/-- a fact that the arithmetic is not to see -/
noncomputable def Hid (P : Prop) : Prop := P
theorem split_hid {x y : Int} {P Q : Prop} (h1 : Hid (x = y) → P) (h2 : Hid (x ≠ y) → Q) : if (x == y) = true then P else Q := split_ieq h1 h2
section
theorem words_21_3 : True := by
  (k_with "my ite" => first | with_reducible refine ite_tt ?_ | with_reducible refine ite_ff ?_ | ((with_reducible refine split_hid ?_ ?_) <;> intro _ <;> (try dsimp only)))
  (k_with "my execs cons" => k_fold)
  (k_with "my exec If" => k_fold)
  trivial
theorem c_due (w : World) (tr : Addr) (as : List Addr) (T : List Row) (ts : List RTok) (h6 : T.length ≤ 6) (h1 : 1 ≤ T.length) (hmo : ∀ k, k < T.length → 0 ≤ (T.getD k Row.root).mode ∧ (T.getD k Row.root).mode < 65536) :
    PCon w 271 11 [Value.ref tr] (fun h => TreeAt h tr as T ts) (OutV fun t => .int (dueF T (T.length - 1)) t) := by
  walk_at "con enter"
  rename TreeAt _ _ _ _ _ => hT
  have hl := hT.l
  have hs := hT.s
  have hn : (as.map Value.ref).length = T.length := by rw [lenKnown, hT.a]
  k_steps
  with_reducible refine Stop.mk ?_
  rename Fr _ _ _ _ => lF
  rename News _ _ _ _ => lN
  rename IsRange _ _ _ _ _ _ _ _ => lR
  with_unfolding_all refine' iter_rng (T.length - 1) (DueJ T) (by rfl) lR (small_rng (by omega) (by omega) (by omega) (by omega)) (by omega) lF lN ?start ?step ?done
  case start => exact DueJ.next rfl (by exact rfl) (fun _ _ _ _ _ _ => rfl)
  case step =>
    clear lF lN lR
    intro I i m news t' h tk l1 hi hj hI F' N'
    k_lt l1
    revert hI F' N'
    refine DueJ.elim hj ?_
    clear hj
    intro td x u hx hI F' N'
    have hki : 1 + i < T.length := by omega
    have ekk : ((1 : Int) + (i : Int)).toNat = 1 + i := by omega
    obtain ⟨ad, tt, e3, e4⟩ := hT.item hki
    rw [← ekk] at e3
    unfold rowVals at e4
    have ihk : OrdIH w tr as T ts 6 (1 + i) ((1 : Int) + (i : Int)) := fun t => by
      have := c_order6 w tr as T ts (1 + i) t hki h6
      have e : ((1 + i : Nat) : Int) = (1 : Int) + (i : Int) := by omega
      rw [e] at this
      exact this
    have hm := hmo (1 + i) hki
    have hol : (orderF T 6 (1 + i)).length ≤ 531441 := by
      have h1 := orderF_len hs 6 (1 + i)
      have h2 : 9 ^ 6 = 531441 := by decide +kernel
      omega
    generalize hmm : (T.getD (1 + i) Row.root).mode = mo at *
    k_steps
    · with_reducible refine Stop.mk ?_
      rename Fr _ _ _ _ => lF
      rename News _ _ _ _ => lN
      rename IsRange _ _ _ _ _ _ _ _ => lR
      with_unfolding_all refine' iter_rng 3 (DueI mo x) (by rfl) lR (small_rng (by omega) (by omega) (by omega) (by omega)) (by decide) lF lN (DueI.next (by show x = x + 0; omega) (by exact rfl) (fun _ _ _ _ => rfl)) ?step2 ?done2
      case step2 =>
        clear lF lN lR
        intro I2 j m2 news2 t2 h2 tk2 l2 hi2 hj2 hI2 F' N'
        k_lt l2
        rename OrdIH _ _ _ _ _ _ _ _ => ihq
        clear hmo hol ihq e3 e4 hI hx hmm hki ekk
        revert hI2 F' N'
        refine DueI.elim hj2 ?_
        clear hj2
        intro td2 y u2 hy hI2 F' N'
        clear hI2
        k_steps
        · with_reducible refine Stop.mk ?_
          (rename Fr _ _ _ _ => lF)
          (rename News _ _ _ _ => lN)
          refine UnrEnd.here lF lN (by walk_at "off all") ?_
          refine' DueI.next ?ka1 ?ka2 fun z z1 z2 z3 => ?ka3
          (case ka2 => exact rfl)
          (case ka1 => first | exact due_pos (by assumption) (lets_j _ (by assumption)) (.inl (by assumption)) | exact due_pos (by assumption) (lets_j _ (by assumption)) (.inr (by assumption)) | exact due_neg (by assumption) (lets_j _ (by assumption)) (by assumption) (by assumption))
          (case ka3 => simp [z1, z2, z3])
        · with_reducible refine Stop.mk ?_
          (rename Fr _ _ _ _ => lF)
          (rename News _ _ _ _ => lN)
          refine UnrEnd.here lF lN (by walk_at "off all") ?_
          refine' DueI.next ?kb1 ?kb2 fun z z1 z2 z3 => ?kb3
          (case kb2 => exact rfl)
          (case kb1 => first | exact due_pos (by assumption) (lets_j _ (by assumption)) (.inl (by assumption)) | exact due_pos (by assumption) (lets_j _ (by assumption)) (.inr (by assumption)) | exact due_neg (by assumption) (lets_j _ (by assumption)) (by assumption) (by assumption))
          (case kb3 => simp [z1, z2, z3])
        · with_reducible refine Stop.mk ?_
          (rename Fr _ _ _ _ => lF)
          (rename News _ _ _ _ => lN)
          refine UnrEnd.here lF lN (by walk_at "off all") ?_
          refine' DueI.next ?kc1 ?kc2 fun z z1 z2 z3 => ?kc3
          (case kc2 => exact rfl)
          (case kc1 => first | exact due_pos (by assumption) (lets_j _ (by assumption)) (.inl (by assumption)) | exact due_pos (by assumption) (lets_j _ (by assumption)) (.inr (by assumption)) | exact due_neg (by assumption) (lets_j _ (by assumption)) (by assumption) (by assumption))
          (case kc3 => simp [z1, z2, z3])
      case done2 =>
        clear lF lN lR
        intro m2 news2 h2 tk2 hj2 F' N'
        revert F' N'
        refine DueI.elim hj2 ?_
        clear hj2
        intro td2 y u2 hy F' N'
        k_steps
        with_reducible refine Stop.mk ?_
        (rename Fr _ _ _ _ => lF); (rename News _ _ _ _ => lN)
        exact UnrEnd.none lF lN (by k_mem) (DueJ.next (dueF_pos (y := y) hx (by rw [hmm]; exact hy) (by assumption)) (by exact rfl) fun z z1 z2 z3 z4 z5 => by simp [z1, z2, z3, z4, z5])
    · with_reducible refine Stop.mk ?_
      (rename Fr _ _ _ _ => lF); (rename News _ _ _ _ => lN)
      exact UnrEnd.none lF lN (by k_mem) (DueJ.next (dueF_neg hx (by assumption)) (by exact rfl) fun z z1 z2 z3 z4 z5 => by simp [z1, z2, z3, z4, z5])
  case done =>
    clear lF lN lR
    intro m news h tk hj F' N'
    revert F' N'
    refine DueJ.elim hj ?_
    clear hj
    intro td x u hx F' N'
    subst hx
    k_steps
    all_goals walk_at "con end"
    all_goals walk_at "con v"
end
theorem words_21_4 : True := by
  k_with_none
  (k_with "my con args" => ((rename Fr _ _ _ _ => F1_r); with_unfolding_all (first | change Fr _ _ _ (fun y => List.lookup y [(Str.ofString _, _)]) at F1_r | change Fr _ _ _ (fun y => List.lookup y [(Str.ofString _, _), (Str.ofString _, _)]) at F1_r | change Fr _ _ _ (fun y => List.lookup y [(Str.ofString _, _), (Str.ofString _, _), (Str.ofString _, _)]) at F1_r)))
  (k_with "my execs cons" => k_fold)
  (k_with "my exec If" => k_fold)
  (k_with "my con def" => (refine' enter_def ?k1_q4 ?k3_q4 ?k5_q4 ?k6_q4 ?k7_q4 ?k8_q4 ?k9_q4 ?kB_q4 ?_ ?c2_q4 ?c3_q4 ?c4_q4 ?c5_q4; (case k1_q4 => k_asm); (case k3_q4 => k_asm); (case k5_q4 => k_asm); (case k6_q4 => k_is); (case k7_q4 => k_is); (case k8_q4 => omega); (case k9_q4 => first | exact BindsTo.of_eq rfl | exact binds_K (by k_in) rfl (by k_is) rfl rfl rfl); (case c5_q4 => decide); (case kB_q4 => exact locs rfl); (case c2_q4 => exact rfl); (case c3_q4 => exact rfl); (case c4_q4 => exact rfl); k_whole; intro L_p h_p F_p N_p; (try dsimp only); (try walk_at "con args"); (try k_fold)))
  (k_with "my con rest" => (refine' enter_rest ?k1_q5 ?k3_q5 ?k5_q5 ?k6_q5 ?k7_q5 ?k8_q5 ?k9_q5 ?kz_q5 ?kB_q5 ?_ ?c2_q5 ?c3_q5 ?c4_q5 ?c5_q5; (case k1_q5 => k_asm); (case k3_q5 => k_asm); (case k5_q5 => k_asm); (case k6_q5 => k_is); (case k7_q5 => k_is); (case k8_q5 => omega); (case k9_q5 => exact rfl); (case kz_q5 => exact Nat.le_of_ble_eq_true rfl); (case c5_q5 => decide); (case kB_q5 => exact fun _ => locs rfl); (case c2_q5 => exact rfl); (case c3_q5 => exact rfl); (case c4_q5 => exact rfl); k_whole; intro D_p L_p h_p F_p N_p; (try dsimp only); (try walk_at "con args"); (try k_fold)))
  (k_with "my con enter" => (unfold PCon; intro p_r loose_r mean_r mg_r mb_r dp_r un_r gd_r env_r outer_r base_r s_r R_r B_r X_r T_r hd_r hu_r hpre_r hret_r; k_dflt (first | walk_at "con def" | walk_at "con rest")))
  (k_with "my con end" => (repeat (first | (k_unfold; (try dsimp only)) | dsimp only)))
  (k_with "my con v" => (walk_at "con end"; (rename PRet _ _ _ => hret_r); first | exact pret_v (V := fun t => Value.str _ t) hret_r (by k_asm) | exact pret_v (V := fun t => Value.int _ t) hret_r (by k_asm) | exact pret_v (V := fun _ => Value.bool _) hret_r (by k_asm)))
  (k_with "my con room" => first | omega | (dsimp only [topA, ktrTop, Around.deeper] at *; omega) | ktr_room | (simp only [depth_deeper, depth_caller, units_deeper, units_caller] at *; omega))
  (k_with "my con use" => ((case B_q => k_asm); (case F_q => k_asm); (case X_q => k_asm); (case N_q => k_asm); (case T_q => k_asm); (case hf_q => exact rfl); (case hk_q => exact rfl); (case hd_q => walk_at "con room"); (case hu_q => walk_at "con room")))
  (k_with "my con use v" => ((case hp_q => exact True.intro); walk_at "con use"; intro t9_r h9_r tk9_r F9_r N9_r; (try k_sweep); (try k_fold)))
  (k_with "my call builtin:issubclass" => (k_here; k_dflt (refine' iss_call ?h_q12 ?_; (case h_q12 => exact News.get (by k_asm) (by k_mem)); k_whole)))
  (k_with "my call ref" => (k_here; (with_reducible show wpAny _ _ (call (Value.ref 94) _) _ _ _); k_dflt (refine' PCon.useV (c_fspath _ _ _) ?B_q ?F_q ?X_q ?N_q ?T_q ?hf_q ?hk_q ?hd_q ?hu_q ?hp_q ?_; walk_at "con use v")))
  (k_with "my call ref" => (k_here; (with_reducible show wpAny _ _ (call (Value.ref 115) _) _ _ _); k_dflt (refine' PCon.useV (c_getsep _ _ _) ?B_q ?F_q ?X_q ?N_q ?T_q ?hf_q ?hk_q ?hd_q ?hu_q ?hp_q ?_; walk_at "con use v")))
  (k_with "my truthy str" => (k_here; (with_reducible show wpAny _ _ (PySem.truthy (Value.str _ _)) _ _ _); refine' truthy_ne ?a_q15 ?b_q15 ?_; (case a_q15 => assumption); (case b_q15 => omega); intro _))
  (k_with "my call ref" => (k_here; (with_reducible show wpAny _ _ (call (Value.ref 136) _) _ _ _); k_dflt (refine' PCon.useV (c_dirname _ _ _ (by omega)) ?B_q ?F_q ?X_q ?N_q ?T_q ?hf_q ?hk_q ?hd_q ?hu_q ?hp_q ?_; walk_at "con use v")))
  (k_with "my call ref" => (k_here; (with_reducible show wpAny _ _ (call (Value.ref 122) _) _ _ _); k_dflt (refine' PCon.useV (c_join _ _ _ _ _ (by omega) (by omega)) ?B_q ?F_q ?X_q ?N_q ?T_q ?hf_q ?hk_q ?hd_q ?hu_q ?hp_q ?_; walk_at "con use v")))
  (k_with "my call ref" => (k_here; (with_reducible show wpAny _ _ (call (Value.ref 129) _) _ _ _); k_dflt (refine' PCon.use (c_splitroot _ _ _ (by omega) (by assumption) (by assumption)) ?B_q ?F_q ?X_q ?N_q ?T_q ?hf_q ?hk_q ?hd_q ?hu_q ?hp_q18 ?_; (case hp_q18 => exact True.intro); walk_at "con use"; intro r9_r tl9_r h9_r tk9_r S9_r F9_r N9_r D9_r O9_r; obtain ⟨a9_r, t9_r, t9_p, t9'_p, e9_r, e9_p⟩ := O9_r; subst e9_r; subst e9_p; clear D9_r S9_r; (try simp only [List.cons_append, List.nil_append] at N9_r); (try dsimp only); (try k_fold))))
  (k_with "my call builtin:str.join" => (k_here; (with_reducible show wpAny _ _ (call (Value.builtin _) [Value.str _ _, Value.ref _]) _ _ _); k_dflt (refine' join_listW (News.isList (by k_asm) (by k_mem)) (by assumption) (by decide +kernel) (by assumption) ?_); intro _ _))
  (k_with "my call ref" => (k_here; (with_reducible show wpAny _ _ (call (Value.ref 143) _) _ _ _); k_dflt (refine' PCon.useV (c_normpath _ _ _ _ (by omega) (by assumption) (by assumption) (by assumption) (by assumption) (by assumption) (by assumption) (by assumption)) ?B_q ?F_q ?X_q ?N_q ?T_q ?hf_q ?hk_q ?hd_q ?hu_q ?hp_q ?_; walk_at "con use v")))
  (k_with "my call ref" => (k_here; (with_reducible show wpAny _ _ (call (Value.ref 150) _) _ _ _); k_dflt (refine' PCon.useV (c_abs _ _ _ _ _ (by assumption)) ?B_q ?F_q ?X_q ?N_q ?T_q ?hf_q ?hk_q ?hd_q ?hu_q ?hp_q ?_; walk_at "con use v")))
  (k_with "my call builtin:min" => (k_here; (with_reducible show wpAny _ _ (call (Value.builtin _) [Value.ref _]) _ _ _); k_dflt (refine' min_K ?F_q22 ?N_q22 ?l_q22 ?a_q22 ?b_q22 ?x_q22 ?y_q22 ?e_q22 ?h_q22 ?u_q22 ?_; (case F_q22 => k_asm); (case N_q22 => k_asm); (case l_q22 => assumption); (case a_q22 => assumption); (case b_q22 => assumption); (case x_q22 => assumption); (case y_q22 => assumption); (case e_q22 => assumption); (case h_q22 => rfl); (case u_q22 => walk_at "con room")); intro h_p tk_p F_p N_p))
  (k_with "my call builtin:max" => (k_here; (with_reducible show wpAny _ _ (call (Value.builtin _) [Value.ref _]) _ _ _); k_dflt (refine' max_K ?F_q23 ?N_q23 ?l_q23 ?a_q23 ?b_q23 ?x_q23 ?y_q23 ?e_q23 ?h_q23 ?u_q23 ?_; (case F_q23 => k_asm); (case N_q23 => k_asm); (case l_q23 => assumption); (case a_q23 => assumption); (case b_q23 => assumption); (case x_q23 => assumption); (case y_q23 => assumption); (case e_q23 => assumption); (case h_q23 => rfl); (case u_q23 => walk_at "con room")); intro h_p tk_p F_p N_p))
  (k_with "my EnumPost" => (dsimp only [EnumPost]))
  (k_with "my call builtin:isinstance" => (k_here; (with_reducible show wpAny _ _ (call _ [Value.ref _, Value.ref _]) _ _ _); k_dflt (refine' kia_tup kitx_list ?X_q25 ?H_q25 ?t_q25 ?e_q25 ?x_q25 ?_; (case X_q25 => k_in); (case H_q25 => exact kitAt_old (by k_asm) (by assumption)); (case t_q25 => exact News.get (by k_asm) (by k_mem)); (case e_q25 => exact rfl); (case x_q25 => intro e_r; cases e_r); k_whole; intro _)))
  (k_with "my exec For Tuple Call cons nil" => (k_here; (with_reducible show wpAny _ _ (exec _ (envOf (Str.ofString "commonprefix") _ _ _ _)) _ _ _); (rename Fr _ _ _ _ => lF_p); (with_unfolding_all refine' For_turns lF_p ?_; k_whole)))
  (k_with "my call type:enumerate" => ((with_reducible show wpAny _ (Around.deeper _ (envOf (Str.ofString "commonprefix") _ _ _ _)) (call _ _) _ _ _); refine Stop.out ?_))
  (k_with "my call ref" => (k_here; (with_reducible show wpAny _ _ (call (Value.ref 101) _) _ _ _); k_dflt (refine' PCon.use (c_cpref' _ _ _ _ _ _ _ _ _ _ _ (by assumption) (by assumption) (by assumption) (by assumption) (by assumption) (by omega) (by omega)) ?B_q ?F_q ?X_q ?N_q ?T_q ?hf_q ?hk_q ?hd_q ?hu_q ?hp_q28 ?_; (case hp_q28 => exact ⟨News.isList (by k_asm) (by k_mem), News.isList (by k_asm) (by k_mem), News.isList (by k_asm) (by k_mem)⟩); walk_at "con use"; intro r9_r tl9_r h9_r tk9_r S9_r F9_r N9_r D9_r O9_r; obtain ⟨e9_r, c9_r, cs9_r, e9_p, l9_r, n9_r⟩ := O9_r; subst e9_r; subst e9_p; clear D9_r S9_r; (try simp only [List.nil_append] at N9_r); (try dsimp only); (try k_fold))))
  (k_with "my own list" => first | assumption | exact News.isList (by k_asm) (by k_mem) | exact isList_old (by k_asm) (by assumption))
  (k_with "my own size" => first | omega | assumption | (rw [List.length_drop, strValues_len (by assumption) (by assumption)]; omega) | (rw [strValues_len (by assumption) (by assumption)]; omega) | (rw [List.length_replicate]; omega) | exact rel_ne (by assumption) (by assumption) (by omega) | exact rel_le (by assumption) (by assumption) (by omega) (by omega))
  (k_with "my call builtin:len" => (k_here; (with_reducible show wpAny _ _ (call (Value.builtin "len") [Value.ref _]) _ _ _); k_dflt (refine' len_known ?l_q31 ?n_q31 ?z_q31 ?_; (case l_q31 => assumption); (case n_q31 => assumption); (case z_q31 => omega)); intro _ _))
  (k_with "my call builtin:len" => (k_here; (with_reducible show wpAny _ _ (call (Value.builtin "len") [Value.ref _]) _ _ _); k_dflt (refine' len_known ?l_q32 ?n_q32 ?z_q32 ?_; (case l_q32 => exact News.isList (by k_asm) (by k_mem)); (case n_q32 => exact strValues_len (by assumption) (by assumption)); (case z_q32 => omega)); intro _ _))
  (k_with "my binaryOp Mult ref int" => (k_here; (with_reducible show wpAny _ (Around.deeper _ (envOf (Str.ofString "relpath") _ _ _ _)) (binaryOp Operator.Mult (Value.ref _) (Value.int _ _)) _ _ _); k_dflt (refine' mul_own ?F_q33 ?N_q33 ?l_q33 ?a_q33 ?b_q33 ?_; (case F_q33 => k_asm); (case N_q33 => k_asm); (case l_q33 => walk_at "own list"); (case a_q33 => omega); (case b_q33 => omega)); intro D_p h_p F_p N_p l1_r; (try k_lt l1_r); (try k_sweep)))
  (k_with "my binaryOp Add ref ref" => (k_here; (with_reducible show wpAny _ (Around.deeper _ (envOf (Str.ofString "relpath") _ _ _ _)) (binaryOp Operator.Add (Value.ref _) (Value.ref _)) _ _ _); k_dflt (refine' add_own ?F_q34 ?N_q34 ?l_q34 ?r_q34 ?a_q34 ?b_q34 ?_; (case F_q34 => k_asm); (case N_q34 => k_asm); (case l_q34 => walk_at "own list"); (case r_q34 => walk_at "own list"); (case a_q34 => walk_at "own size"); (case b_q34 => walk_at "own size")); intro D_p h_p F_p N_p l1_r; (try k_lt l1_r); (try k_sweep)))
  (k_with "my subscriptTail Name Slice ref ref" => (k_here; (with_reducible show wpAny _ (Around.deeper _ (envOf (Str.ofString "relpath") _ _ _ _)) (subscriptTail _ (PySem.Expr.Slice _ _ none _) (Value.ref _) (Value.ref _)) _ _ _); k_dflt (refine' kms_slice_lit ?F_q35 ?N_q35 ?l_q35 ?p_q35 ?q_q35 ?e_q35 ?_ ?s_q35 ?t_q35 ?z_q35; (case F_q35 => k_asm); (case N_q35 => k_asm); (case l_q35 => walk_at "own list"); (case p_q35 => kmk_part); (case q_q35 => kmk_part); (case e_q35 => exact pick_from _); (case s_q35 => with_unfolding_all rfl); (case t_q35 => kmk_pure); (case z_q35 => (rw [List.size_toArray, strValues_len (by assumption) (by assumption)]; unfold sizeLine; omega))); intro D_p h_p F_p N_p l1_r; (try k_lt l1_r); (try k_sweep)))
  (k_with "my truthy ref" => (k_here; (with_reducible show wpAny _ (Around.deeper _ (envOf (Str.ofString "relpath") _ _ _ _)) (PySem.truthy (Value.ref _)) _ _ _); refine' truthy_long ?l_q36 ?a_q36 ?b_q36 ?_; (case l_q36 => walk_at "own list"); (case a_q36 => walk_at "own size"); (case b_q36 => walk_at "own size"); intro _))
  (k_with "my call builtin:str.join" => (k_here; (with_reducible show wpAny _ (Around.deeper _ (envOf (Str.ofString "relpath") _ _ _ _)) (call (Value.builtin _) [Value.str _ _, Value.ref _]) _ _ _); k_dflt (refine' join_listW (News.isList (by k_asm) (by k_mem)) (rel_strs (by assumption) (by assumption)) (by decide +kernel) (by assumption) ?_); intro _ _))
  (k_with "my call ref" => (k_here; (with_reducible show wpAny _ _ (call (Value.ref 158) _) _ _ _); k_dflt (refine' PCon.useV (c_rel _ _ _ _ _ _ _ _ _ _ _ (by assumption)) ?B_q ?F_q ?X_q ?N_q ?T_q ?hf_q ?hk_q ?hd_q ?hu_q ?hp_q ?_; walk_at "con use v")))
  (k_with "my costs" => first | assumption | ((rename TabAt _ _ _ _ _ => tAb_r); exact tAb_r.ofFr (by k_asm)))
  (k_with "my subscriptTail" => ((with_reducible show wpAny _ (Around.deeper _ (envOf (Str.ofString "_law_cost") _ _ _ _)) (subscriptTail _ _ (Value.ref _) (Value.str _ _)) _ _ _); refine' kdp_item ?a_q40 ?b_q40 ?_; (case a_q40 => walk_at "costs"); (case b_q40 => assumption); intro _))
  (k_with "my call builtin:dict.get" => ((with_reducible show wpAny _ (Around.deeper _ (envOf (Str.ofString "_law_cost") _ _ _ _)) _ _ _ _); refine' kdp_get2 ?a_q41 ?_; (case a_q41 => walk_at "costs"); intro _))
  (k_with "my call ref" => (k_here; (with_reducible show wpAny _ _ (call (Value.ref 259) _) _ _ _); refine Stop.out ?_))
  (k_with "my EnTPost" => (dsimp only [EnTPost]))
  (k_with "my TupRest" => first | ((with_unfolding_all refine TupRest.succ (fun it' h' tk' hc' F' N' => ?_)); (try dsimp only); (try k_fold)) | ((with_unfolding_all refine TupRest.zero (fun h' tk' F' N' => ?_)); (try dsimp only); (try k_fold)))
  (k_with "my exec For Tuple Call cons nil" => (k_here; (with_reducible show wpAny _ _ (exec _ (envOf (Str.ofString "filemode") _ _ _ _)) _ _ _); (rename Fr _ _ _ _ => lF_p); (with_unfolding_all refine' For_turns lF_p ?_; k_whole)))
  (k_with "my call type:enumerate" => ((with_reducible show wpAny _ (Around.deeper _ (envOf (Str.ofString "filemode") _ _ _ _)) (call _ _) _ _ _); refine Stop.out ?_))
  (k_with "my exec For" => (k_here; (with_reducible show wpAny _ _ (exec (Stmt.For _ (Expr.Name _ _) _ (_ :: _) _) (envOf (Str.ofString "filemode") _ _ _ _)) _ _ _); (rename Fr _ _ _ _ => lF_p); (with_unfolding_all refine' For_else lF_p ?_; k_whole)))
  (k_with "my pyIter ref" => ((with_reducible show wpAny _ (Around.deeper _ (envOf (Str.ofString "filemode") _ _ _ _)) (pyIter (Value.ref _)) _ _ _); refine Stop.out ?_))
  (k_with "my off all" => repeat (first | exact off_nil | refine off_cons (by (try dsimp only); k_ne) ?_))
  (k_with "my UnrEnd" => ((with_reducible show UnrEnd _ _ _ _ _ (TupRest _ _ _ _ _ _ _ _ _ _ _ _ _) _); refine UnrEnd.here (by k_asm) (by k_asm) (by walk_at "off all") ?_))
  (k_with "my fm pick" => first | rfl | exact fmPick_pos (by assumption) | exact fmPick0_pos (by assumption) | (refine fmPick_neg (by assumption) ?_; walk_at "fm pick") | (refine fmPick0_neg (by assumption) ?_; walk_at "fm pick"))
  (k_with "my fm end" => ((rename Fr _ _ _ _ => lF_r); (rename News _ _ _ _ => lN_r); (first | refine EnT.here lF_r lN_r (by exact rfl) ?_ | refine EnT.here1 lF_r lN_r (by exact rfl) ?_); (refine fm_fin (by assumption) (by assumption) rfl (by walk_at "fm pick") ⟨(fun _ h => nomatch h), fun z z1 _ z3_r => ?_⟩; (simp only [List.contains_cons, List.contains_nil, Bool.or_false, Bool.or_eq_false_iff, beq_eq_false_iff_ne, ne_eq] at z3_r); (obtain ⟨z3_r, z4_r, z5_r⟩ := z3_r); simp [z1, z3_r, z4_r, z5_r])))
  (k_with "my call ref" => (k_here; (with_reducible show wpAny _ _ (call (Value.ref 179) _) _ _ _); k_dflt (refine' PCon.useV (c_sifmt _ _ _ (by assumption) (by assumption)) ?B_q ?F_q ?X_q ?N_q ?T_q ?hf_q ?hk_q ?hd_q ?hu_q ?hp_q ?_; walk_at "con use v")))
  (k_with "my own mem" => first | k_mem | (repeat (first | assumption | refine List.mem_cons_of_mem _ ?_)))
  (k_with "my own item" => first | (refine' item_listL ?l_q56 ?a_q56 ?b_q56 ?c_q56 ?_; (case l_q56 => exact News.isList (by k_asm) (by walk_at "own mem")); (case a_q56 => omega); (case b_q56 => omega); (case c_q56 => (first | assumption | rfl))) | (refine' item_tupleL ?l_q56 ?a_q56 ?b_q56 ?c_q56 ?d_q56 ?_; (case l_q56 => exact ⟨_, News.get (by k_asm) (by walk_at "own mem"), rfl, _, rfl⟩); (case a_q56 => decide); (case b_q56 => decide); (case c_q56 => rfl); (case d_q56 => rfl)))
  (k_with "my subscriptTail" => (k_here; (with_reducible show wpAny _ (Around.deeper _ (envOf (Str.ofString "_law_tree") _ _ _ _)) (subscriptTail _ _ (Value.ref _) (Value.int _ _)) _ _ _); walk_at "own item"))
  (k_with "my call builtin:len" => (k_here; (with_reducible show wpAny _ (Around.deeper _ (envOf (Str.ofString "_law_tree") _ _ _ _)) (call (Value.builtin "len") [Value.ref _]) _ _ _); k_dflt (refine' len_known ?l_q58 ?n_q58 ?z_q58 ?_; (case l_q58 => exact News.isList (by k_asm) (by walk_at "own mem")); (case n_q58 => assumption); (case z_q58 => omega)); intro _ _))
  (k_with "my own upd" => first | (refine' Upd.head ?a_q59; (case a_q59 => first | assumption | (walk_at "off all"; done))) | (refine' Upd.tail ?a_q59 ?b_q59; (case a_q59 => k_ne); (case b_q59 => walk_at "own upd")))
  (k_with "my call builtin:list.append" => (k_here; (with_reducible show wpAny _ (Around.deeper _ (envOf (Str.ofString "_law_tree") _ _ _ _)) (call (Value.builtin _) [Value.ref _, _]) _ _ _); k_dflt (refine' append_K ?k1_q60 ?k2_q60 ?k3_q60 ?_ ?z_q60; (case k1_q60 => k_asm); (case k2_q60 => k_asm); (case k3_q60 => walk_at "own upd"); (case z_q60 => exact size_of_len (by assumption)); k_whole); intro h_p F_p N_p; (try k_sweep)))
  (k_with "my pyIter ref" => ((with_reducible show wpAny _ (Around.deeper _ (envOf (Str.ofString "_law_tree") _ _ _ _)) (pyIter (Value.ref _)) _ _ _); refine Stop.out ?_))
  (k_with "my call ref" => (k_here; (with_reducible show wpAny _ _ (call (Value.ref 233) _) _ _ _); refine Stop.out ?_))
  (k_with "my binaryOp Add ref ref" => (k_here; (with_reducible show wpAny _ (Around.deeper _ (envOf (Str.ofString "_law_order") _ _ _ _)) (binaryOp Operator.Add (Value.ref _) (Value.ref _)) _ _ _); k_dflt (refine' add_own (vs := [_]) ?F_q66 ?N_q66 ?l_q66 ?r_q66 ?a_q66 ?b_q66 ?_; (case F_q66 => k_asm); (case N_q66 => k_asm); (case l_q66 => exact News.isList (by k_asm) (by k_mem)); (case r_q66 => exact News.isList (by k_asm) (by k_mem)); (case a_q66 => exact Nat.le_of_ble_eq_true rfl); (case b_q66 => omega)); intro D_p h_p F_p N_p l1_r; (try k_lt l1_r); (try k_sweep)))
  (k_with "my own upd" => first | (refine' Upd.head ?a_q67; (case a_q67 => first | assumption | (walk_at "off all"; done))) | (refine' Upd.tail ?a_q67 ?b_q67; (case a_q67 => first | k_ne | exact Ne.symm (by assumption)); (case b_q67 => walk_at "own upd")))
  (k_with "my inplaceOp Add ref ref" => (k_here; (with_reducible show wpAny _ (Around.deeper _ (envOf (Str.ofString "_law_order") _ _ _ _)) (inplaceOp Operator.Add (Value.ref _) (Value.ref _)) _ _ _); k_dflt (refine' iadd_own ?F_q68 ?N_q68 ?b_q68 ?U_q68 ?_ ?a_q68 ?z_q68; (case F_q68 => k_asm); (case N_q68 => k_asm); (case b_q68 => k_mem); (case U_q68 => walk_at "own upd"); (case a_q68 => assumption); (case z_q68 => simp only [List.length_append, List.length_cons, List.length_nil]; omega); k_whole); intro h_p F_p N_p; (try k_sweep)))
  (k_with "my pyIter ref" => ((with_reducible show wpAny _ (Around.deeper _ (envOf (Str.ofString "_law_order") _ _ _ _)) (pyIter (Value.ref _)) _ _ _); refine Stop.out ?_))
  (k_with "my call builtin:len" => (k_here; (with_reducible show wpAny _ (Around.deeper _ (envOf (Str.ofString "_law_order") _ _ _ _)) (call (Value.builtin "len") [Value.ref _]) _ _ _); k_dflt (refine' len_known ?l_q70 ?n_q70 ?z_q70 ?_; (case l_q70 => exact isList_old (by k_asm) (by assumption)); (case n_q70 => assumption); (case z_q70 => omega)); intro _ _))
  (k_with "my old item" => first | (refine' item_listL ?l_q71 ?a_q71 ?b_q71 ?c_q71 ?_; (case l_q71 => exact isList_old (by k_asm) (by assumption)); (case a_q71 => omega); (case b_q71 => omega); (case c_q71 => assumption)) | (refine' item_tupleL ?l_q71 ?a_q71 ?b_q71 ?c_q71 ?d_q71 ?_; (case l_q71 => exact isTup_old (by k_asm) (by assumption)); (case a_q71 => decide); (case b_q71 => decide); (case c_q71 => rfl); (case d_q71 => rfl)))
  (k_with "my subscriptTail" => (k_here; (with_reducible show wpAny _ (Around.deeper _ (envOf (Str.ofString "_law_order") _ _ _ _)) (subscriptTail _ _ (Value.ref _) (Value.int _ _)) _ _ _); walk_at "old item"))
  (k_with "my call ref" => (k_here; (with_reducible show wpAny _ (Around.deeper _ (envOf (Str.ofString "_law_order") _ _ _ _)) (call (Value.ref 240) _) _ _ _); (rename OrdIH _ _ _ _ _ _ _ _ => ihX_r); k_dflt (refine' PCon.use (ihX_r _) ?B_q ?F_q ?X_q ?N_q ?T_q ?hf_q ?hk_q ?hd_q ?hu_q ?hp_q73 ?_; (case hp_q73 => (rename TreeAt _ _ _ _ _ => tT_r; exact tT_r.keep (fun b o e => Fr.keep (by k_asm) b o e))); walk_at "con use"; intro r9_r tl9_r h9_r tk9_r S9_r F9_r N9_r D9_r O9_r; obtain ⟨d9_r, vs9_r, n9_r, e9_r, e9_p, hI9_r⟩ := O9_r; subst e9_r; subst e9_p; clear S9_r; (try simp only [List.cons_append, List.nil_append] at N9_r); (try simp only [List.mem_cons, List.not_mem_nil, or_false, forall_eq_or_imp, forall_eq] at D9_r); (try (first | obtain ⟨D1_r, D2_r, D3_r, D4_r, D5_r⟩ := D9_r | obtain ⟨D1_r, D2_r, D3_r, D4_r⟩ := D9_r | obtain ⟨D1_r, D2_r, D3_r⟩ := D9_r | obtain ⟨D1_r, D2_r⟩ := D9_r)); (have hz9_r := order_len hI9_r (by assumption) (by omega)); (try dsimp only); (try k_fold))))
  (k_with "my UnrEnd" => ((with_reducible show UnrEnd _ _ _ _ _ (OrderJ _ _ _ _ _ _) _); refine Stop.out ?_))
  (k_with "my eval ListComp" => (k_here; (with_reducible show wpAny _ _ (eval _ (envOf (Str.ofString "_law_tape") _ _ _ _)) _ _ _); k_dflt (refine ListComp_text (F₀ := by k_asm) (by with_unfolding_all rfl) (by decide) (by rfl) (by decide) (by rfl) ?_)))
  (k_with "my SrcT" => (refine Stop.out ?_))
  (k_with "my exec For" => (k_here; (with_reducible show wpAny _ _ (exec (Stmt.For _ _ _ _ _) (envOf (Str.ofString "_law_tape") _ _ _ _)) _ _ _); (rename Fr _ _ _ _ => lF_p); (with_unfolding_all refine' For_invVF lF_p ?g_q77 ?p_q77 ?_; (case g_q77 => exact rfl); (case p_q77 => exact rfl); k_whole)))
  (k_with "my pyIter ref" => ((with_reducible show wpAny _ (Around.deeper _ (envOf (Str.ofString "_law_tape") _ _ _ _)) (pyIter (Value.ref _)) _ _ _); refine Stop.out ?_))
  (k_with "my subscriptTail" => (k_here; (with_reducible show wpAny _ (Around.deeper _ (envOf (Str.ofString "_law_tape") _ _ _ _)) (subscriptTail _ _ (Value.ref _) (Value.int _ _)) _ _ _); walk_at "old item"))
  (k_with "my inplaceOp Add ref ref" => (k_here; (with_reducible show wpAny _ (Around.deeper _ (envOf (Str.ofString "_law_tape") _ _ _ _)) (inplaceOp Operator.Add (Value.ref _) (Value.ref _)) _ _ _); k_dflt (refine' iadd_own ?F_q80 ?N_q80 ?b_q80 ?U_q80 ?_ ?a_q80 ?z_q80; (case F_q80 => k_asm); (case N_q80 => k_asm); (case b_q80 => k_mem); (case U_q80 => walk_at "own upd"); (case a_q80 => first | omega | (simp only [List.length_append, List.length_cons, List.length_nil]; omega)); (case z_q80 => first | exact Nat.le_of_ble_eq_true rfl | (simp only [List.length_append, List.length_cons, List.length_nil]; omega)); k_whole); intro h_p F_p N_p; (try k_sweep)))
  (k_with "my binaryOp Add ref ref" => (k_here; (with_reducible show wpAny _ (Around.deeper _ (envOf (Str.ofString "_law_tape") _ _ _ _)) (binaryOp Operator.Add (Value.ref _) (Value.ref _)) _ _ _); k_dflt (refine' add_own (vs := [_, _]) ?F_q81 ?N_q81 ?l_q81 ?r_q81 ?a_q81 ?b_q81 ?_; (case F_q81 => k_asm); (case N_q81 => k_asm); (case l_q81 => exact News.isList (by k_asm) (by k_mem)); (case r_q81 => exact News.isList (by k_asm) (by k_mem)); (case a_q81 => exact Nat.le_of_ble_eq_true rfl); (case b_q81 => with_reducible assumption)); intro D_p h_p F_p N_p l1_r; (try k_lt l1_r); (try k_sweep)))
  (k_with "my call builtin:ord" => (k_here; with_reducible refine ord_sign ?_))
  (k_with "my pyIter ref" => ((with_reducible show wpAny _ (Around.deeper _ (envOf (Str.ofString "_law_due") _ _ _ _)) (pyIter (Value.ref _)) _ _ _); refine Stop.out ?_))
  (k_with "my exec For" => (k_here; (with_reducible show wpAny _ _ (exec (Stmt.For _ _ _ _ _) (envOf (Str.ofString "_law_due") _ _ _ _)) _ _ _); (rename Fr _ _ _ _ => lF_p); (with_unfolding_all refine' For_invVF lF_p ?g_q84 ?p_q84 ?_; (case g_q84 => exact rfl); (case p_q84 => exact rfl); k_whole)))
  (k_with "my call builtin:len" => (k_here; (with_reducible show wpAny _ (Around.deeper _ (envOf (Str.ofString "_law_due") _ _ _ _)) (call (Value.builtin "len") [Value.ref _]) _ _ _); k_dflt (refine' len_known ?l_q85 ?n_q85 ?z_q85 ?_; (case l_q85 => first | exact isList_old (by k_asm) (by assumption) | exact News.isList (by k_asm) (by k_mem)); (case n_q85 => assumption); (case z_q85 => omega)); intro _ _))
  (k_with "my subscriptTail" => (k_here; (with_reducible show wpAny _ (Around.deeper _ (envOf (Str.ofString "_law_due") _ _ _ _)) (subscriptTail _ _ (Value.ref _) (Value.int _ _)) _ _ _); walk_at "old item"))
  (k_with "my call ref" => (k_here; (with_reducible show wpAny _ (Around.deeper _ (envOf (Str.ofString "_law_due") _ _ _ _)) (call (Value.ref 240) _) _ _ _); (rename OrdIH _ _ _ _ _ _ _ _ => ihX_r); k_dflt (refine' PCon.use (ihX_r _) ?B_q ?F_q ?X_q ?N_q ?T_q ?hf_q ?hk_q ?hd_q ?hu_q ?hp_q87 ?_; (case hp_q87 => (rename TreeAt _ _ _ _ _ => tT_r; exact tT_r.keep (fun b o e => Fr.keep (by k_asm) b o e))); walk_at "con use"; intro r9_r tl9_r h9_r tk9_r S9_r F9_r N9_r D9_r O9_r; obtain ⟨d9_r, vs9_r, n9_r, e9_r, e9_p, hI9_r⟩ := O9_r; subst e9_r; subst e9_p; clear S9_r D9_r; (try simp only [List.cons_append, List.nil_append] at N9_r); (have hz9_r := IntsAre.length hI9_r); (rw [List.length_map] at hz9_r); (try dsimp only); (try k_fold))))
  (k_with "my UnrEnd" => ((with_reducible show UnrEnd _ _ _ _ _ (DueJ _ _ _ _) _); refine Stop.out ?_))
  (k_with "my UnrEnd" => ((with_reducible show UnrEnd _ _ _ _ _ (DueI _ _ _ _ _) _); refine Stop.out ?_))
  (k_with "my binaryOp Pow int int" => ((first | (with_reducible refine pow_p (by assumption) ?_) | (with_reducible refine pow_q (by assumption) ?_)); (try dsimp only)))
  (k_with "my binaryOp FloorDiv int int" => ((first | (with_reducible refine div_pq (.inl rfl) ?_) | (with_reducible refine div_pq (.inr rfl) ?_)); (try dsimp only)))
  trivial
/-! a def whose names are captured; a loop whose own name is captured -/
theorem enter_cells {w : World} {p : Program} {loose : List Str} {mean : ExcName → Option Value} {mg mb : Str → Option Value} {dp un : Nat} {gd : Option (List Code)} {env : Env} {outer : List Env} {base : Heap} {s : Shared} {R : Result → Shared → Prop}
    {name qual : Str} {params : Arguments} {body : List Stmt} {scope : Scope} {dV kV doc pm cdv ct oc : Value} {an od : Option Addr} {osl : Array (Option Value)} {f : Addr} {args : Args} {binds : List (Str × Value)}
    (_B : Below (topA dp un gd env outer) base (env :: outer) s.heap) (X : (Mine.hd.heap_1_1 w.params).In s.heap) (T : Top p loose mean mg mb s.heap)
    (ho : (Mine.hd.heap_1_1 w.params).lookup f = some ⟨oc, od, .func (fnOf name qual params body scope dV kV doc pm an cdv ct), osl⟩) (hcd : codeIn (Mine.hd.heap_1_1 w.params) cdv qual = true) (hroom : dp < recursionLimit)
    (hbind : BindsTo s (fnOf name qual params body scope dV kV doc pm an cdv ct) args binds) (hkind : (binds.all fun y => scope.names.lookup y.1 == some .local || scope.names.lookup y.1 == some .cell) = true)
    (hnd : ((cellsFrom 0 scope.names []).map (·.1)).Nodup)
    (h : ∀ L' h₁ tk cells, Fr s.heap L' h₁ (bindL (envOfC qual scope L' f cdv).kindOf binds fun _ => none) → News s.heap L' h₁ cells →
      CellsAre (bindC (envOfC qual scope L' f cdv).kindOf binds fun _ => none) (cellsFrom (L' + 1) scope.names []) cells →
      wpAny (model PySem.Challenge.rw_kt0070_01.row.prog w) ((topA dp un gd env outer).deeper (envOfC qual scope L' f cdv)) (execs body (envOfC qual scope L' f cdv))
        (fun fl s' => R (.ok (.ret (match fl with | .ret v => v | _ => .none))) s')
        (fun e s' => wpAny (model PySem.Challenge.rw_kt0070_01.row.prog w) ((topA dp un gd env outer).deeper (envOfC qual scope L' f cdv)) (leaving (envOfC qual scope L' f cdv) e) (fun _ s'' => R (.error e) s'') (fun e' s'' => R (.error e') s'') s')
        { s with heap := h₁, toks := tk })
    (hco : scope.isCoroutine = false) (hgen : scope.isGenerator = false) (hk : scope.kind = .function) : codeAny (model PySem.Challenge.rw_kt0070_01.row.prog w) (topA dp un gd env outer) (.call (.ref f) args) R s := by
  refine codeAny_call_function (fd := fnOf name qual params body scope dV kV doc pm an cdv ct) (body := body) hroom (X _ _ ho) rfl hco hgen rfl (codeRec_of X hcd) (hbind _ _ _ _ ?_)
  refine wpAny_newFunctionEnv_cells hk (kindsX hkind _) fun env' he s' x => ?_
  subst he
  refine ⟨T.nolimit.keeps x.toInCall.keep, codeAny_func ?_⟩
  obtain ⟨h₁, tk, rfl, _⟩ := x.done
  have hk₁ := x.toInCall.keep
  obtain ⟨cells, NC, Y⟩ := Cl.news (h₀ := s.heap) (Nat.le_refl _) fun n c hm => ⟨x.cell n c (lookup_of_mem_nodup (cellsFrom_names scope.names 0 (s.heap.objs.size + 1) [] [] rfl ▸ hnd) hm), x.above n c hm⟩
  exact h s.heap.objs.size h₁ tk cells ⟨x.toInCall.ns, fun b o e => hk₁ b o e, Nat.le_refl _⟩ NC Y
section
variable {prog : Program} {w : World} {A : Around} {E : Value → Shared → Prop} {s : Shared} {env : Env} {h₀ : Heap} {target : Expr} {body : List Stmt} {Q : Flow → Shared → Prop}
/-- a loop over a list that stood ahead of the call, whatever its target -/
theorem iter_oldT {ax : Addr} {vs : List Value} {m₀ : Str → Option Value} {news : Led} (J : (Str → Option Value) → Led → List Value → (Str → Option Value) → Led → Prop)
    (hh : A.handled = none) (hl : h₀.IsList ax vs.toArray) (F : Fr h₀ env.locals s.heap m₀) (N : News h₀ env.locals s.heap news) (start : J m₀ news vs m₀ news)
    (step : ∀ I v r m news' (it : Obj) h tk, (∀ p ∈ news, p.1 < I) → J m₀ news (v :: r) m news' → (∀ p ∈ news', p.1 ≠ I) → it.cls = .type "list_iterator" → Fr h₀ env.locals h m → News h₀ env.locals h ((I, it) :: news') →
      wpAny (model prog w) A (assign target env v) (fun _ s₃ => wpAny (model prog w) A (execs body env) (UnrPost h₀ env.locals { s with heap := h, toks := tk } I it (fun m' n' => J m₀ news r m' n') Q) E s₃) E { s with heap := h, toks := tk })
    (done : ∀ m news' h tk, J m₀ news [] m news' → Fr h₀ env.locals h m → News h₀ env.locals h news' → Q .next { s with heap := h, toks := tk }) :
    wpAny (model prog w) A (pyIter (.ref ax)) (fun it s₂ => TurnsAt prog w A h₀ env target body Q E it s₂) E s := by
  obtain ⟨ol, hol, _⟩ := id hl
  have hls : s.heap.IsList ax vs.toArray := hl.at fun o e => F.keep ax o e
  have hlt : ax < h₀.objs.size := Heap.lt_size hol
  have hne : ax ≠ s.heap.objs.size := Nat.ne_of_lt (Nat.lt_trans (Nat.lt_of_lt_of_le hlt F.above) F.ns.lt)
  refine wpAny_pyIter_list hls ?_
  have hlen : vs.toArray.size = vs.length := by simp
  have hnew := next_is_new F
  refine ⟨s.heap.objs.size, [s.heap.objs.size, ax], [s.heap.objs.size], vs.toArray.size, _, _, _, m₀, news, fun i m₁ news₁ => J m₀ news (vs.drop i) m₁ news₁, rfl,
    KTurns.ofWalks (Walks.list hh s.heap.objs.size ax hne vs.toArray) (fun i v s Q E st q => letGo_listiter st.1 q), ?_, ?_, ?_, ⟨⟨_, Heap.get?_push_size _ rfl, rfl, rfl⟩, hls.at fun o e => Heap.get?_push_of_some _ e⟩, F.push _, (fun p hp => ⟨Heap.get?_push_of_some _ (N p hp).1, (N p hp).2⟩), (show J m₀ news (vs.drop 0) m₀ news from start), ?_, ?_⟩
  · intro hI
    rcases List.mem_cons.mp hI with e | hI
    · exact absurd F.ns.lt (e ▸ Nat.lt_irrefl _)
    · have e : env.locals = ax := List.mem_singleton.mp hI
      exact absurd hlt (Nat.not_lt.mpr (e ▸ F.above))
  · intro b hb
    rw [List.mem_singleton.mp hb]
    exact hnew
  · intro p hp hI
    exact absurd (Heap.lt_size (N p hp).1) ((List.mem_singleton.mp hI) ▸ Nat.lt_irrefl _)
  · rintro i v m₁ news₁ h₁ tk₁ own hin hP hJ hoff hown hget hall hst F₁ N₁
    obtain ⟨it, hit, hic, hid⟩ := hst.1
    have hmemI := hall s.heap.objs.size (List.mem_cons_self ..) hnew _ hit
    have hdrop : vs.drop i = v :: vs.drop (i + 1) := by
      have hlt' : i < vs.length := by rw [← hlen]; exact hin
      have hv : vs[i]? = some v := by simpa using hP
      rw [List.drop_eq_getElem_cons hlt']
      congr 1
      exact Option.some.inj ((List.getElem?_eq_getElem hlt').symm.trans hv)
    rw [hdrop] at hJ
    have N₂ : News h₀ env.locals h₁ ((s.heap.objs.size, it) :: news₁) := fun p hp => by
      rcases List.mem_cons.mp hp with rfl | hp
      · exact N₁ _ (List.mem_append_left _ hmemI)
      · exact N₁ _ (List.mem_append_right _ hp)
    refine wpAny_mono (step _ v _ m₁ news₁ it h₁ tk₁ (fun p hp => Heap.lt_size (N p hp).1) hJ (fun p hp e => hoff p hp (e ▸ List.mem_singleton.mpr rfl)) hic F₁ N₂) (fun _ s₃ h₃ => wpAny_mono h₃ (fun f s₂ p => ?_) fun _ _ e => e) fun _ _ e => e
    have fin : UnrEnd h₀ env.locals { s with heap := h₁, toks := tk₁ } s.heap.objs.size it (fun m' n' => J m₀ news (vs.drop (i + 1)) m' n') s₂ →
        LoopStepU h₀ env.locals [s.heap.objs.size] own (fun m₁ news₁ => J m₀ news (vs.drop (i + 1)) m₁ news₁) { s with heap := h₁, toks := tk₁ } .next s₂ := by
      rintro ⟨h', tk, m', news', e, F', N', ho, r⟩
      refine ⟨rfl, h', tk, m', news', e, F', fun p hp => ?_, fun p hp hI => ho p hp (List.mem_singleton.mp hI), r⟩
      rcases List.mem_append.mp hp with hp | hp
      · have h2 : h₁.get? p.1 = some p.2 := hget p hp
        rcases List.mem_cons.mp (hown p hp) with h1 | h1
        · have h3 : p = (s.heap.objs.size, it) := by
            rw [h1, hit] at h2
            exact Prod.ext h1 (Option.some.inj h2).symm
          rw [h3]; exact N' _ (List.mem_cons_self ..)
        · have h1' : p.1 = ax := List.mem_singleton.mp h1
          have h3 := (N₁ p (List.mem_append_left _ hp)).2.2
          rw [h1', hol] at h3
          cases h3
      · exact N' _ (List.mem_cons_of_mem _ hp)
    cases f with
    | ret v => exact .ret p
    | brk => exact .brk p
    | next => exact .next (fin p)
    | cont => exact .cont (fin p)
  · rintro h' tk m' news' F' N' _ hJ
    have z : vs.drop vs.toArray.size = [] := List.drop_eq_nil_of_le (by simp)
    rw [z] at hJ
    exact done m' news' h' tk hJ F' N'
end
section
variable {prog : Program} {w : World} {A : Around} {E : Value → Shared → Prop} {s : Shared} {env : Env} {h₀ : Heap} {x : Str} {body : List Stmt} {Q : Flow → Shared → Prop}
/-- iter_own, and the iterator is none of what the word tells -/
theorem iter_own2 {ax : Addr} {lo : Obj} {vs : List Value} {n : Nat} {m₀ : Str → Option Value} {news : Led} (J : (Str → Option Value) → Led → List Value → (Str → Option Value) → Led → Prop)
    (hh : A.handled = none) (F : Fr h₀ env.locals s.heap m₀) (N : News h₀ env.locals s.heap news) (hm : (ax, lo) ∈ news) (hc : lo.cls = .type "list") (hd : lo.data = .seq vs.toArray n)
    (start : J m₀ news vs m₀ news)
    (step : ∀ I v r m news' (it : Obj) h tk, (∀ p ∈ news, p.1 < I) → J m₀ news (v :: r) m news' → (∀ p ∈ news', p.1 ≠ I) → it.cls = .type "list_iterator" → Fr h₀ env.locals h (fun y => if y = x then some v else m y) → News h₀ env.locals h ((I, it) :: news') →
      wpAny (model prog w) A (execs body env) (UnrPost h₀ env.locals { s with heap := h, toks := tk } I it (fun m' n' => (ax, lo) ∈ n' ∧ J m₀ news r m' n') Q) E { s with heap := h, toks := tk })
    (done : ∀ m news' h tk, J m₀ news [] m news' → Fr h₀ env.locals h m → News h₀ env.locals h news' → Q .next { s with heap := h, toks := tk }) :
    wpAny (model prog w) A (pyIter (.ref ax)) (fun it s₂ => LoopAtV prog w A h₀ env x body Q E it s₂) E s :=
  iter_listUnr hh F N hm hc hd fun I l => listRest_inv (fun r m n' => J m₀ news r m n' ∧ ∀ p ∈ n', p.1 ≠ I)
    (fun v r m news' it h tk hj hci F' N' => wpAny_mono (step I v r m news' it h tk l hj.1 hj.2 hci F' N') (fun f s₂ p => by
      have fin : UnrEnd h₀ env.locals { s with heap := h, toks := tk } I it (fun m' n' => (ax, lo) ∈ n' ∧ J m₀ news r m' n') s₂ → UnrEnd h₀ env.locals { s with heap := h, toks := tk } I it (fun m' n' => (ax, lo) ∈ n' ∧ J m₀ news r m' n' ∧ ∀ p ∈ n', p.1 ≠ I) s₂ := by
        rintro ⟨h', tk', m', news', e, F', N', ho, hm, hj'⟩
        exact ⟨h', tk', m', news', e, F', N', ho, hm, hj', ho⟩
      cases f with
      | ret v => exact p
      | brk => exact p
      | next => exact fin p
      | cont => exact fin p) fun _ _ e => e)
    (fun m news' h tk hj => done m news' h tk hj.1) vs m₀ news ⟨start, fun p hp => Nat.ne_of_lt (l p hp)⟩
end
theorem words_22_1 : True := by
  (k_with "my con cells" => (refine' enter_cells ?k1_q95 ?k3_q95 ?k5_q95 ?k6_q95 ?k7_q95 ?k8_q95 ?k9_q95 ?kB_q95 ?kD_q95 ?_ ?c2_q95 ?c3_q95 ?c4_q95; (case k1_q95 => k_asm); (case k3_q95 => k_asm); (case k5_q95 => k_asm); (case k6_q95 => k_is); (case k7_q95 => k_is); (case k8_q95 => omega); (case k9_q95 => first | exact BindsTo.of_eq rfl | exact binds_K (by k_in) rfl (by k_is) rfl rfl rfl); (case kB_q95 => exact rfl); (case kD_q95 => decide +kernel); (case c2_q95 => exact rfl); (case c3_q95 => exact rfl); (case c4_q95 => exact rfl); k_whole; intro L_p h_p tk_p cells_p F_p N_p Y_p; k_cells Y_p; (try simp only [List.cons_append, List.nil_append] at N_p); (try dsimp only); (try k_fold)))
  (k_with "my con enter c" => (unfold PCon; intro p_r loose_r mean_r mg_r mb_r dp_r un_r gd_r env_r outer_r base_r s_r R_r B_r X_r T_r hd_r hu_r hpre_r hret_r; k_dflt (walk_at "con cells")))
  trivial
/-! _law_orders -/
noncomputable def ordF : Nat → List Int → List (List Int)
  | 0, _ => [[]]
  | f + 1, l => if l = [] then [[]] else l.flatMap fun x => (ordF f (l.filter fun y => y != x)).map (x :: ·)
/-- the ledger of a list of lists -/
noncomputable def ordLed : List Addr → List (List Value) → Led
  | a :: as, v :: vs => (a, W.listOf v.toArray 0) :: ordLed as vs
  | _, _ => []
inductive ListsAre : List (List Value) → List (List Int) → Prop
  | nil : ListsAre [] []
  | cons {v : List Value} {n : List Int} {vs : List (List Value)} {ns : List (List Int)} : IntsAre v n → ListsAre vs ns → ListsAre (v :: vs) (n :: ns)
theorem ListsAre.length {vs : List (List Value)} {ns : List (List Int)} (h : ListsAre vs ns) : vs.length = ns.length := by
  induction h with
  | nil => rfl
  | cons _ _ ih => simp [ih]
theorem ListsAre.snoc {vs : List (List Value)} {ns : List (List Int)} {v : List Value} {n : List Int} (h : ListsAre vs ns) (h1 : IntsAre v n) : ListsAre (vs ++ [v]) (ns ++ [n]) := by
  induction h with
  | nil => exact .cons h1 .nil
  | cons a _ ih => exact .cons a ih
theorem ordLed_snoc : ∀ {as : List Addr} {vs : List (List Value)} {a : Addr} {v : List Value}, as.length = vs.length → ordLed (as ++ [a]) (vs ++ [v]) = ordLed as vs ++ [(a, W.listOf v.toArray 0)]
  | [], [], _, _, _ => rfl
  | b :: as, u :: vs, a, v, h => by
    have := ordLed_snoc (as := as) (vs := vs) (a := a) (v := v) (by simpa using h)
    simp only [List.cons_append, ordLed, this]
  | _ :: _, [], _, _, h => by cases h
  | [], _ :: _, _, _, h => by cases h
noncomputable def OrdersIH (w : World) (f : Nat) : Prop := ∀ (l : Addr) (vs : List Value) (ns : List Int), IntsAre vs ns → ns.length ≤ f →
  PCon w 264 (f + 12) [Value.ref l] (fun h => h.IsList l vs.toArray) (fun _ r tl => ∃ D as vss n, r = .ref D ∧ tl = (D, W.listOf (as.map Value.ref).toArray n) :: ordLed as vss ∧ as.length = vss.length ∧ ListsAre vss (ordF f ns))
/-- the outer loop -/
noncomputable def OrdsJ (f : Nat) (ns : List Int) (m₀ : Str → Option Value) (news₀ : Led) (r : List Value) (m : Str → Option Value) (news : Led) : Prop :=
  ∃ (o c : Addr) (o₀ oc₀ oc : Obj) (cv : Option Value) (rl : Led) (as : List Addr) (vss : List (List Value)) (dn ks : List Int) (n : Nat), news₀ = [(o, o₀), (c, oc₀)] ∧ IntsAre r ks ∧ dn ++ ks = ns ∧
    news = (o, W.listOf (as.map Value.ref).toArray n) :: (c, oc) :: rl ∧ oc.data = .cell cv ∧ (∀ p ∈ ordLed as vss, p ∈ rl) ∧ (∀ p ∈ rl, p.1 ≠ o) ∧ (∀ p ∈ rl, p.1 ≠ c) ∧
    as.length = vss.length ∧ ListsAre vss (dn.flatMap fun x => (ordF f (ns.filter fun y => y != x)).map (x :: ·)) ∧ Keep (Str.ofString "order") [] [] m₀ m
/-- the inner loop -/
noncomputable def OrdI (k : Int) (L0 all : List (List Int)) (m₀ : Str → Option Value) (news₀ : Led) (r : List Value) (m : Str → Option Value) (news : Led) : Prop :=
  ∃ (d o c : Addr) (lo o₀ oc : Obj) (itp : Addr × Obj) (rl₀ rl : Led) (as bs : List Addr) (vss wss : List (List Value)) (dn ks : List (List Int)) (n : Nat),
    news₀ = (d, lo) :: itp :: (o, o₀) :: (c, oc) :: rl₀ ∧ r = bs.map Value.ref ∧ bs.length = wss.length ∧ ListsAre wss ks ∧ dn ++ ks = all ∧
    news = (d, lo) :: itp :: (o, W.listOf (as.map Value.ref).toArray n) :: (c, oc) :: rl ∧ (∀ p ∈ ordLed bs wss, p ∈ rl) ∧ (∀ p ∈ ordLed as vss, p ∈ rl) ∧
    (∀ p ∈ rl, p.1 ≠ o) ∧ (∀ p ∈ rl, p.1 ≠ c) ∧ (∀ p ∈ rl, p.1 ≠ itp.1) ∧ as.length = vss.length ∧ ListsAre vss (L0 ++ dn.map (k :: ·)) ∧ Keep (Str.ofString "order") [] [] m₀ m
theorem news_mid {h₀ h : Heap} {L : Addr} {d a b c : Addr × Obj} {A rl : Led} (N : News h₀ L h (d :: A ++ a :: b :: c :: rl)) : News h₀ L h (d :: a :: b :: c :: (A ++ rl)) := fun p hp => N p (by
  simp only [List.mem_cons, List.mem_append, List.cons_append] at hp ⊢
  rcases hp with rfl | rfl | rfl | rfl | hp | hp <;> simp [*])
theorem UnrEnd.ord {h₀ : Heap} {L I : Addr} {it : Obj} {rest : (Str → Option Value) → Led → Prop} {s₁ : Shared} {h' : Heap} {tk : Nat} {m' : Str → Option Value} {e2 e1 dd ii oo cc : Addr × Obj} {rl : Led} (F : Fr h₀ L h' m') (N : News h₀ L h' (e2 :: e1 :: (I, it) :: dd :: ii :: oo :: cc :: rl))
    (off : ∀ p ∈ dd :: ii :: oo :: cc :: e2 :: rl, p.1 ≠ I) (r : rest m' (dd :: ii :: oo :: cc :: e2 :: rl)) : UnrEnd h₀ L s₁ I it rest { s₁ with heap := h', toks := tk } :=
  ⟨h', tk, m', _, rfl, F, (fun p hp => N p (by
    simp only [List.mem_cons] at hp ⊢
    rcases hp with rfl | rfl | rfl | rfl | rfl | rfl | hp <;> simp [*])), off, r⟩
theorem push_ref {as : List Addr} {E : Addr} : (List.map Value.ref as).toArray.push (.ref E) = (List.map Value.ref (as ++ [E])).toArray := by simp
theorem news_13 {h₀ h : Heap} {L : Addr} {a b c : Addr × Obj} (N : News h₀ L h [a, b, c]) : News h₀ L h [a, c] := fun p hp => N p (by
  simp only [List.mem_cons] at hp ⊢
  rcases hp with rfl | rfl | hp <;> simp [*])
theorem UnrEnd.sub {h₀ : Heap} {L I : Addr} {it : Obj} {rest : (Str → Option Value) → Led → Prop} {s₁ : Shared} {h' : Heap} {tk : Nat} {m' : Str → Option Value} {all news' : Led} (F : Fr h₀ L h' m') (N : News h₀ L h' all)
    (hs : ∀ p ∈ (I, it) :: news', p ∈ all) (off : ∀ p ∈ news', p.1 ≠ I) (r : rest m' news') : UnrEnd h₀ L s₁ I it rest { s₁ with heap := h', toks := tk } :=
  ⟨h', tk, m', news', rfl, F, (fun p hp => N p (hs p hp)), off, r⟩
theorem ordF_in : ∀ {f : Nat} {l x : List Int}, x ∈ ordF f l → x.length ≤ f
  | 0, l, x, h => by
    rw [ordF, List.mem_singleton] at h
    subst h; exact Nat.le_refl _
  | f + 1, l, x, h => by
    rw [ordF] at h
    split at h
    · rw [List.mem_singleton] at h; subst h; simp
    · obtain ⟨y, _, hy⟩ := List.mem_flatMap.mp h
      obtain ⟨z, hz, rfl⟩ := List.mem_map.mp hy
      have := ordF_in hz
      simp only [List.length_cons]; omega
theorem ords_le {f B : Nat} {ns : List Int} (hB : ∀ l, l.length ≤ 7 → (ordF f l).length ≤ B) (hn : ns.length ≤ 7) : ∀ dn : List Int, (dn.flatMap fun x => (ordF f (ns.filter fun y => y != x)).map (x :: ·)).length ≤ dn.length * B
  | [] => by simp
  | x :: r => by
    rw [List.flatMap_cons, List.length_append, List.length_cons, Nat.succ_mul, List.length_map]
    have h1 := ords_le hB hn r
    have h2 := hB (ns.filter fun y => y != x) (Nat.le_trans (List.length_filter_le ..) hn)
    omega
theorem ordF_le : ∀ (f : Nat) (l : List Int), l.length ≤ 7 → (ordF f l).length ≤ 7 ^ f
  | 0, l, _ => by simp [ordF]
  | f + 1, l, h => by
    rw [ordF]
    split
    · simp; exact Nat.one_le_pow _ _ (by decide)
    · refine Nat.le_trans (ords_le (ordF_le f) h l) ?_
      rw [Nat.pow_succ, Nat.mul_comm]
      exact Nat.mul_le_mul_left _ h
theorem OrdersIH.use {w : World} {f : Nat} {l I o c : Addr} {lo it oo oc : Obj} {vs : List Value} {ns : List Int} {rl : Led} {p : Program} {loose : List Str} {mean : ExcName → Option Value} {mg mb : Str → Option Value} {dp un : Nat} {gd : Option (List Code)} {env : Env} {outer : List Env} {A₀ : Around} {base h₀ hp : Heap} {gs : Array GenState} {dr : Drawn} {tk : Nat} {os : OsState} {L : Addr} {m : Str → Option Value} {Q E : Value → Shared → Prop}
    (ih : OrdersIH w f) (hi : IntsAre vs ns) (hn : ns.length ≤ f) (B : Below A₀ base outer h₀) (F : Fr h₀ L hp m) (X : (Mine.hd.heap_1_1 w.params).In h₀) (N : News h₀ L hp ((l, lo) :: (I, it) :: (o, oo) :: (c, oc) :: rl)) (T : Top p loose mean mg mb h₀) (hf : env.frame = some L) (hk : env.scope.kind = .function)
    (hd : dp + (f + 12) < recursionLimit) (hu : un + 8 * (f + 12) < cLine) (hl : hp.IsList l vs.toArray) (o1 : ∀ p ∈ rl, p.1 ≠ o) (o2 : ∀ p ∈ rl, p.1 ≠ c) (o3 : ∀ p ∈ rl, p.1 ≠ I)
    (ret : ∀ d as vss n RL h' tk', as.length = vss.length → ListsAre vss (ordF f ns) → (∀ p ∈ ordLed as vss, p ∈ RL) → (∀ p ∈ rl, p ∈ RL) → (∀ p ∈ RL, p.1 ≠ o) → (∀ p ∈ RL, p.1 ≠ c) → (∀ p ∈ RL, p.1 ≠ I) → I ≠ d → o ≠ d → c ≠ d → Fr h₀ L h' m →
      News h₀ L h' ((d, W.listOf (List.map Value.ref as).toArray n) :: (I, it) :: (o, oo) :: (c, oc) :: RL) → Q (.ref d) ⟨h', gs, dr, tk', os⟩) :
    wpAny (model PySem.Challenge.rw_kt0070_01.row.prog w) (topA dp un gd env outer) (call (.ref 264) [.ref l]) Q E ⟨hp, gs, dr, tk, os⟩ := by
  refine PCon.use (s := ⟨hp, gs, dr, tk, os⟩) (ih l vs ns hi hn) B F X (fun p hp => N p (.tail _ hp)) T hf hk hd hu hl ?_
  intro r tl h9 tk9 S9 F9 N9 D9 O9
  obtain ⟨d, as, vss, n, e9, e9', hl9, hL9⟩ := O9
  subst e9 e9'
  have a1 := D9 _ (.head _)
  have a2 := D9 _ (.tail _ (.head _))
  have a3 := D9 _ (.tail _ (.tail _ (.head _)))
  have f : ∀ {x : Addr}, (∀ p ∈ (d, W.listOf (List.map Value.ref as).toArray n) :: ordLed as vss, x ≠ p.1) → (∀ p ∈ rl, p.1 ≠ x) → ∀ p ∈ ordLed as vss ++ rl, p.1 ≠ x := fun h1 h2 p hp => by
    rcases List.mem_append.mp hp with hp | hp
    · exact Ne.symm (h1 p (.tail _ hp))
    · exact h2 p hp
  exact ret d as vss n (ordLed as vss ++ rl) h9 tk9 hl9 hL9 (fun p hp => List.mem_append_left _ hp) (fun p hp => List.mem_append_right _ hp) (f a2 o1) (f a3 o2) (f a1 o3) (a1 _ (.head _)) (a2 _ (.head _)) (a3 _ (.head _)) F9 (news_mid N9)
@[elab_as_elim]
theorem OrdsJ.elim {f : Nat} {ns : List Int} {m₀ m : Str → Option Value} {o c : Addr} {o₀ oc₀ : Obj} {v : Value} {r : List Value} {news : Led} {P : (Str → Option Value) → Led → Value → Prop} (hj : OrdsJ f ns m₀ [(o, o₀), (c, oc₀)] (v :: r) m news)
    (k : ∀ (oc : Obj) (cv : Option Value) (rl : Led) (as : List Addr) (vss : List (List Value)) (dn ks : List Int) (k : Int) (t : Tok) (n : Nat) (u : Str → Option Value), IntsAre r ks → dn ++ k :: ks = ns → oc.data = .cell cv → (∀ p ∈ ordLed as vss, p ∈ rl) → (∀ p ∈ rl, p.1 ≠ o) → (∀ p ∈ rl, p.1 ≠ c) → as.length = vss.length →
      ListsAre vss (dn.flatMap fun x => (ordF f (ns.filter fun y => y != x)).map (x :: ·)) → P (fun z => if z = Str.ofString "order" then u z else if ([] : List Str).contains z = true then u z else m₀ z) ((o, W.listOf (as.map Value.ref).toArray n) :: (c, oc) :: rl) (.int k t)) : P m news v := by
  obtain ⟨o', c', o₀', oc₀', oc, cv, rl, as, vss, dn, ks, n, e0, e1, e2, rfl, hcell, e3, e4, e4', e5, e6, hk⟩ := hj
  cases e0
  obtain ⟨u, rfl⟩ := hk.lam0
  cases e1 with
  | cons x t hr => exact k oc cv rl as vss dn _ x t n u hr e2 hcell e3 e4 e4' e5 e6
@[elab_as_elim]
theorem OrdsJ.fin {f : Nat} {ns : List Int} {m₀ m : Str → Option Value} {o c : Addr} {o₀ oc₀ : Obj} {news : Led} {P : (Str → Option Value) → Led → Prop} (hj : OrdsJ f ns m₀ [(o, o₀), (c, oc₀)] [] m news)
    (k : ∀ (oc : Obj) (rl : Led) (as : List Addr) (vss : List (List Value)) (n : Nat) (u : Str → Option Value), (∀ p ∈ ordLed as vss, p ∈ rl) → as.length = vss.length →
      ListsAre vss (ns.flatMap fun x => (ordF f (ns.filter fun y => y != x)).map (x :: ·)) → P (fun z => if z = Str.ofString "order" then u z else if ([] : List Str).contains z = true then u z else m₀ z) ((o, W.listOf (as.map Value.ref).toArray n) :: (c, oc) :: rl)) : P m news := by
  obtain ⟨o', c', o₀', oc₀', oc, cv, rl, as, vss, dn, ks, n, e0, e1, e2, rfl, hcell, e3, e4, e4', e5, e6, hk⟩ := hj
  cases e0
  obtain ⟨u, rfl⟩ := hk.lam0
  cases e1
  rw [List.append_nil] at e2
  subst e2
  exact k oc rl as vss n u e3 e5 e6
theorem OrdsJ.next {f : Nat} {ns dn ks : List Int} {x : Int} {m₀ m : Str → Option Value} {o c : Addr} {o₀ oc₀ oc : Obj} {cv : Option Value} {r : List Value} {rl : Led} {as : List Addr} {vss : List (List Value)} {n : Nat} (hr : IntsAre r ks) (ed : dn ++ x :: ks = ns) (hc : oc.data = .cell cv) (e3 : ∀ p ∈ ordLed as vss, p ∈ rl) (e4 : ∀ p ∈ rl, p.1 ≠ o) (e4' : ∀ p ∈ rl, p.1 ≠ c) (e5 : as.length = vss.length)
    (e6 : ListsAre vss ((dn.flatMap fun x => (ordF f (ns.filter fun y => y != x)).map (x :: ·)) ++ (ordF f (ns.filter fun y => y != x)).map (x :: ·))) (h : ∀ z, z ≠ Str.ofString "order" → m z = m₀ z) :
    OrdsJ f ns m₀ [(o, o₀), (c, oc₀)] r m ((o, W.listOf (as.map Value.ref).toArray n) :: (c, oc) :: rl) :=
  ⟨o, c, o₀, oc₀, oc, cv, rl, as, vss, dn ++ [x], ks, n, rfl, hr, by rw [List.append_assoc]; exact ed, rfl, hc, e3, e4, e4', e5, by rw [List.flatMap_append, List.flatMap_cons, List.flatMap_nil, List.append_nil]; exact e6, ⟨(fun _ h => nomatch h), fun z z1 _ _ => h z z1⟩⟩
theorem OrdI.start {k : Int} {L0 all : List (List Int)} {m₀ : Str → Option Value} {d o c : Addr} {lo oc : Obj} {itp : Addr × Obj} {rl : Led} {as bs : List Addr} {vss wss : List (List Value)} {n : Nat} (hl : bs.length = wss.length) (hw : ListsAre wss all) (h1 : ∀ p ∈ ordLed bs wss, p ∈ rl) (h2 : ∀ p ∈ ordLed as vss, p ∈ rl)
    (h3 : ∀ p ∈ rl, p.1 ≠ o) (h4 : ∀ p ∈ rl, p.1 ≠ c) (h5 : ∀ p ∈ rl, p.1 ≠ itp.1) (h6 : as.length = vss.length) (h7 : ListsAre vss L0) :
    OrdI k L0 all m₀ ((d, lo) :: itp :: (o, W.listOf (as.map Value.ref).toArray n) :: (c, oc) :: rl) (bs.map Value.ref) m₀ ((d, lo) :: itp :: (o, W.listOf (as.map Value.ref).toArray n) :: (c, oc) :: rl) :=
  ⟨_, _, _, _, _, _, _, rl, rl, as, bs, vss, wss, [], _, _, rfl, rfl, hl, hw, rfl, rfl, h1, h2, h3, h4, h5, h6, by rw [List.map_nil, List.append_nil]; exact h7, .refl (fun _ h => nomatch h)⟩
@[elab_as_elim]
theorem OrdI.elim {k : Int} {L0 all : List (List Int)} {m₀ m : Str → Option Value} {d o c i : Addr} {lo o₀ oc oi : Obj} {rl₀ news : Led} {v : Value} {r : List Value} {P : (Str → Option Value) → Led → Value → List Value → Prop} (hj : OrdI k L0 all m₀ ((d, lo) :: (i, oi) :: (o, o₀) :: (c, oc) :: rl₀) (v :: r) m news)
    (q : ∀ (rl : Led) (as bs : List Addr) (b : Addr) (w0 : List Value) (vss wss : List (List Value)) (dn ks : List (List Int)) (kk : List Int) (n : Nat) (u : Str → Option Value), bs.length = wss.length → IntsAre w0 kk → ListsAre wss ks → dn ++ kk :: ks = all → (b, W.listOf w0.toArray 0) ∈ rl → (∀ p ∈ ordLed bs wss, p ∈ rl) → (∀ p ∈ ordLed as vss, p ∈ rl) →
      (∀ p ∈ rl, p.1 ≠ o) → (∀ p ∈ rl, p.1 ≠ c) → (∀ p ∈ rl, p.1 ≠ i) → as.length = vss.length → ListsAre vss (L0 ++ dn.map (k :: ·)) →
      P (fun z => if z = Str.ofString "order" then u z else if ([] : List Str).contains z = true then u z else m₀ z) ((d, lo) :: (i, oi) :: (o, W.listOf (as.map Value.ref).toArray n) :: (c, oc) :: rl) (.ref b) (bs.map Value.ref)) : P m news v r := by
  obtain ⟨d', o', c', lo', o₀', oc', itp, rl₀', rl, as, bs, vss, wss, dn, ks, n, e0, er, eb, ew, ed, rfl, hb1, hb2, ho2, hc3, hit2, ha2, hv2, hk⟩ := hj
  cases e0
  obtain ⟨u, rfl⟩ := hk.lam0
  cases bs with
  | nil => cases er
  | cons b bs =>
    cases wss with
    | nil => cases eb
    | cons w0 wss =>
      cases er
      cases ew with
      | cons hw0 hws => exact q rl as bs b w0 vss wss dn _ _ n u (by simpa using eb) hw0 hws ed (hb1 _ (.head _)) (fun p hp => hb1 p (.tail _ hp)) hb2 ho2 hc3 hit2 ha2 hv2
@[elab_as_elim]
theorem OrdI.fin {k : Int} {L0 all : List (List Int)} {m₀ m : Str → Option Value} {d o c i : Addr} {lo o₀ oc oi : Obj} {rl₀ news : Led} {P : (Str → Option Value) → Led → Prop} (hj : OrdI k L0 all m₀ ((d, lo) :: (i, oi) :: (o, o₀) :: (c, oc) :: rl₀) [] m news)
    (q : ∀ (rl : Led) (as : List Addr) (vss : List (List Value)) (n : Nat) (u : Str → Option Value), (∀ p ∈ ordLed as vss, p ∈ rl) → (∀ p ∈ rl, p.1 ≠ o) → (∀ p ∈ rl, p.1 ≠ c) → (∀ p ∈ rl, p.1 ≠ i) → as.length = vss.length → ListsAre vss (L0 ++ all.map (k :: ·)) →
      P (fun z => if z = Str.ofString "order" then u z else if ([] : List Str).contains z = true then u z else m₀ z) ((d, lo) :: (i, oi) :: (o, W.listOf (as.map Value.ref).toArray n) :: (c, oc) :: rl)) : P m news := by
  obtain ⟨d', o', c', lo', o₀', oc', itp, rl₀', rl, as, bs, vss, wss, dn, ks, n, e0, er, eb, ew, ed, rfl, hb1, hb2, ho2, hc3, hit2, ha2, hv2, hk⟩ := hj
  cases e0
  obtain ⟨u, rfl⟩ := hk.lam0
  cases bs with
  | cons _ _ => cases er
  | nil =>
    cases wss with
    | cons _ _ => cases eb
    | nil =>
      cases ew
      rw [List.append_nil] at ed
      subst ed
      exact q rl as vss n u hb2 ho2 hc3 hit2 ha2 hv2
theorem OrdI.next {k : Int} {L0 all dn ks : List (List Int)} {kk : List Int} {m₀ m : Str → Option Value} {d o c i e : Addr} {lo o₀ oc oi : Obj} {rl₀ rl : Led} {as bs : List Addr} {w0 : List Value} {vss wss : List (List Value)} {n : Nat} {t : Tok} (eb : bs.length = wss.length) (hw0 : IntsAre w0 kk) (hws : ListsAre wss ks) (ed : dn ++ kk :: ks = all)
    (hb1 : ∀ p ∈ ordLed bs wss, p ∈ rl) (hb2 : ∀ p ∈ ordLed as vss, p ∈ rl) (ho : ∀ p ∈ rl, p.1 ≠ o) (hc : ∀ p ∈ rl, p.1 ≠ c) (hi : ∀ p ∈ rl, p.1 ≠ i) (ha : as.length = vss.length) (hv : ListsAre vss (L0 ++ dn.map (k :: ·))) (e1 : e ≠ o) (e2 : e ≠ c) (e3 : e ≠ i) (h : ∀ z, z ≠ Str.ofString "order" → m z = m₀ z) :
    OrdI k L0 all m₀ ((d, lo) :: (i, oi) :: (o, o₀) :: (c, oc) :: rl₀) (bs.map Value.ref) m ((d, lo) :: (i, oi) :: (o, W.listOf ((List.map Value.ref as).toArray.push (.ref e)) n) :: (c, oc) :: (e, W.listOf ([Value.int k t] ++ w0).toArray 0) :: rl) := by
  rw [push_ref]
  refine ⟨_, _, _, _, _, _, _, rl₀, _, as ++ [e], bs, vss ++ [[Value.int k t] ++ w0], wss, dn ++ [kk], ks, n, rfl, rfl, eb, hws, by rw [List.append_assoc]; exact ed, rfl, fun p hp => .tail _ (hb1 p hp), fun p hp => ?_, off_cons e1 ho, off_cons e2 hc, off_cons e3 hi, by simp [ha], ?_, ⟨(fun _ h => nomatch h), fun z z1 _ _ => h z z1⟩⟩
  · rw [ordLed_snoc ha] at hp
    rcases List.mem_append.mp hp with hp | hp
    · exact .tail _ (hb2 p hp)
    · rw [List.mem_singleton.mp hp]; exact .head _
  · rw [List.map_append, ← List.append_assoc]
    exact hv.snoc (.cons _ _ hw0)
theorem filt_len {x k : Int} {ns dn ks : List Int} {f : Nat} (hn : (x :: ns).length ≤ f + 1) (e2 : dn ++ k :: ks = x :: ns) (hlt : ∀ {k : Int} {l : List Int}, k ∈ l → (l.filter fun a => a != k).length < l.length) : (List.filter (fun a => a != k) (x :: ns)).length ≤ f := by
  have h1 : k ∈ x :: ns := by rw [← e2]; simp
  have h2 := hlt h1
  simp only [List.length_cons] at hn h2
  omega
theorem count_len {f : Nat} {ns dn ks : List Int} {k : Int} (h6 : f ≤ 5) (hn : ns.length ≤ f + 1) (e2 : dn ++ k :: ks = ns) : (dn.flatMap fun x => (ordF f (ns.filter fun y => y != x)).map (x :: ·)).length + (ordF f (ns.filter fun a => a != k)).length ≤ 1000000 := by
  have h7 : 7 ^ f ≤ 7 ^ 5 := Nat.pow_le_pow_right (by decide) h6
  have h75 : 7 ^ 5 = 16807 := by decide
  have hl7 : ns.length ≤ 7 := by omega
  have a1 := ords_le (ordF_le f) hl7 dn
  have a2 := ordF_le f (ns.filter fun a => a != k) (Nat.le_trans (List.length_filter_le ..) hl7)
  have a3 : dn.length ≤ 7 := by
    have := congrArg List.length e2
    rw [List.length_append] at this
    omega
  have a4 : dn.length * 7 ^ f ≤ 7 * 16807 := Nat.mul_le_mul a3 (by omega)
  omega
theorem word_len {f : Nat} {w0 : List Value} {l kk : List Int} {dn ks : List (List Int)} (h6 : f + 1 ≤ 6) (h : IntsAre w0 kk) (ed : dn ++ kk :: ks = ordF f l) : w0.length ≤ 1000000 := by
  rw [h.length]
  have := ordF_in (f := f) (x := kk) (l := l) (by rw [← ed]; simp)
  omega
theorem words_len {k : Int} {as : List Addr} {vss : List (List Value)} {L0 all dn ks : List (List Int)} {kk : List Int} (hc : L0.length + all.length ≤ 1000000) (ed : dn ++ kk :: ks = all) (ha : as.length = vss.length) (hv : ListsAre vss (L0 ++ dn.map (k :: ·))) : (List.map Value.ref as).length ≤ 1048576 := by
  rw [List.length_map, ha, hv.length, List.length_append, List.length_map]
  have := congrArg List.length ed
  rw [List.length_append] at this
  omega
theorem words_23_1 : True := by
  (k_with "my pyIter ref" => ((with_reducible show wpAny _ _ (pyIter (Value.ref _)) (fun it s₂ => TurnsAt _ _ _ _ _ _ _ _ _ it s₂) _ _); refine Stop.out ?_))
  (k_with "my exec For" => (k_here; (with_reducible show wpAny _ _ (exec (Stmt.For _ _ _ _ _) (envX (Str.ofString "_law_orders") _ _ _ _ _)) _ _ _); (rename Fr _ _ _ _ => lF_p); (with_unfolding_all refine' For_turns lF_p ?_; k_whole)))
  (k_with "my exec For" => (k_here; (with_reducible show wpAny _ _ (exec (Stmt.For _ _ _ _ _) (envOfC (Str.ofString "_law_orders") _ _ _ _)) _ _ _); (rename Fr _ _ _ _ => lF_p); (with_unfolding_all refine' For_turns lF_p ?_; k_whole)))
  (k_with "my call ref" => (k_here; (with_reducible show wpAny _ (Around.deeper _ (envOfC (Str.ofString "_law_orders") _ _ _ _)) (call (Value.ref 264) _) _ _ _); (rename OrdersIH _ _ => ihX_r); k_dflt (refine' OrdersIH.use ihX_r (IntsAre.ofCarried (by assumption)) (by assumption) ?B_q ?F_q ?X_q ?N_q ?T_q ?hf_q ?hk_q ?hd_q ?hu_q ?hp_q100 ?o1_q100 ?o2_q100 ?o3_q100 ?_; (case hp_q100 => assumption); walk_at "con use"; (case o1_q100 => assumption); (case o2_q100 => assumption); (case o3_q100 => assumption); intro d9_r as9_r vss9_r n9_r RL9_r h9_r tk9_r hl9_r hL9_r r1_r r2_r r3_r r4_r r5_r d1_r d2_r d3_r F9_r N9_r; (try k_sweep); (try k_fold))))
  (k_with "my exec For" => (k_here; (with_reducible show wpAny _ _ (exec (Stmt.For (Expr.Name (Str.ofString "order") _) _ _ _ _) (envOfC (Str.ofString "_law_orders") _ _ _ _)) _ _ _); (rename Fr _ _ _ _ => lF_p); (with_unfolding_all refine' For_invVF lF_p ?g_q101 ?p_q101 ?_; (case g_q101 => exact rfl); (case p_q101 => exact rfl); k_whole)))
  (k_with "my pyIter ref" => ((with_reducible show wpAny _ (Around.deeper _ (envOfC (Str.ofString "_law_orders") _ _ _ _)) (pyIter (Value.ref _)) (fun it s₂ => LoopAtV _ _ _ _ _ _ _ _ _ it s₂) _ _); refine Stop.out ?_))
  (k_with "my own off" => repeat (first | exact off_nil | assumption | refine off_cons (by (try dsimp only); first | k_ne | assumption | exact Ne.symm (by assumption)) ?_))
  (k_with "my own upd" => first | (refine' Upd.head ?a_q104; (case a_q104 => walk_at "own off"; done)) | (refine' Upd.tail ?a_q104 ?b_q104; (case a_q104 => first | k_ne | assumption | exact Ne.symm (by assumption)); (case b_q104 => walk_at "own upd")))
  (k_with "my binaryOp Add ref ref" => (k_here; (with_reducible show wpAny _ (Around.deeper _ (envOfC (Str.ofString "_law_orders") _ _ _ _)) (binaryOp Operator.Add (Value.ref _) (Value.ref _)) _ _ _); k_dflt (refine' add_own (vs := [_]) ?F_q105 ?N_q105 ?l_q105 ?r_q105 ?a_q105 ?b_q105 ?_; (case F_q105 => k_asm); (case N_q105 => k_asm); (case l_q105 => exact News.isList (by k_asm) (by k_mem)); (case r_q105 => exact News.isList (by k_asm) (by walk_at "own mem")); (case a_q105 => exact Nat.le_of_ble_eq_true rfl); (case b_q105 => assumption)); intro D_p h_p F_p N_p l1_r; (try k_lt l1_r); (try k_sweep)))
  (k_with "my call builtin:list.append" => (k_here; (with_reducible show wpAny _ (Around.deeper _ (envOfC (Str.ofString "_law_orders") _ _ _ _)) (call (Value.builtin _) [Value.ref _, _]) _ _ _); k_dflt (refine' append_K ?k1_q106 ?k2_q106 ?k3_q106 ?_ ?z_q106; (case k1_q106 => k_asm); (case k2_q106 => k_asm); (case k3_q106 => walk_at "own upd"); (case z_q106 => exact size_of_len (by assumption)); k_whole); intro h_p F_p N_p; (try k_sweep)))
  (k_with "my UnrEnd" => ((with_reducible show UnrEnd _ _ _ _ _ (fun m' n' => (_ : Addr × Obj) ∈ n' ∧ OrdI _ _ _ _ _ _ m' n') _); refine Stop.out ?_))
  (k_with "my UnrEnd" => ((with_reducible show UnrEnd _ _ _ _ _ (fun m' n' => OrdsJ _ _ _ _ _ m' n') _); refine Stop.out ?_))
  (k_with "my own updF" => first | (refine' UpdF.head ?a_q109; (case a_q109 => first | assumption | (walk_at "off all"; done))) | (refine' UpdF.tail ?a_q109 ?b_q109; (case a_q109 => first | k_ne | exact Ne.symm (by assumption)); (case b_q109 => walk_at "own updF")))
  (k_with "my storeName" => (k_here; (with_reducible show wpAny _ _ (storeName (envOfC (Str.ofString "_law_orders") _ _ _ _) (Str.ofString "one") _) _ _ _); k_dflt (refine' storeX_C ?F_q110 ?N_q110 ?c_q110 ?U_q110 ?d_q110 ?_ ?a_q110 ?b_q110; (case a_q110 => rfl); (case b_q110 => rfl); (case F_q110 => k_asm); (case N_q110 => k_asm); (case c_q110 => rfl); (case U_q110 => walk_at "own updF"); (case d_q110 => k_asm)); intro h_p o_p F_p N_p d_p; (try dsimp only at N_p)))
  (k_with "my compareOp Eq ref ref" => (k_here; (with_reducible show wpAny _ (Around.deeper _ (envOfC (Str.ofString "_law_orders") _ _ _ _)) (compareOp CmpOp.Eq (Value.ref _) (Value.ref _)) _ _ _); k_dflt (refine' eq_intsK ?k1_q111 ?k2_q111 ?k3_q111 ?k4_q111 ?k5_q111 ?_; (case k1_q111 => exact isList_old (by k_asm) (by assumption)); (case k2_q111 => first | assumption | exact .nil); (case k3_q111 => exact News.isList (by k_asm) (by k_mem)); (case k4_q111 => exact .nil); (case k5_q111 => walk_at "con room"))))
  trivial
theorem pret_ord {L : Addr} {m : Str → Option Value} {s : Shared} {R : Result → Shared → Prop} {h' : Heap} {tk' : Nat} {D a : Addr} {rest : Led}
    (H : PRet s R (fun _ r tl => ∃ D as vss n, r = .ref D ∧ tl = (D, W.listOf (as.map Value.ref).toArray n) :: ordLed as vss ∧ as.length = vss.length ∧ ListsAre vss [[]])) (F : Fr s.heap L h' m)
    (N : News s.heap L h' ((D, W.listOf #[.ref a] 0) :: (a, W.listOf #[] 0) :: rest)) : R (.ok (.ret (.ref D))) { s with heap := h', toks := tk' } := by
  refine H _ [(D, W.listOf #[.ref a] 0), (a, W.listOf #[] 0)] _ _ F.keep (fun q hq => ?_) ⟨D, [a], [[]], 0, rfl, rfl, rfl, .cons .nil .nil⟩
  rcases List.mem_cons.mp hq with rfl | hq
  · exact ⟨(N _ (.head _)).1, (N _ (.head _)).2.2⟩
  · rw [List.mem_singleton.mp hq]
    exact ⟨(N _ (.tail _ (.head _))).1, (N _ (.tail _ (.head _))).2.2⟩
theorem filter_lt {k : Int} : ∀ {l : List Int}, k ∈ l → (l.filter fun a => a != k).length < l.length
  | y :: l, h => by
    rw [List.filter_cons]
    have hle : (l.filter fun a => a != k).length ≤ l.length := List.length_filter_le ..
    by_cases hy : y = k
    · subst hy; simp; omega
    · have h' : k ∈ l := (List.mem_cons.mp h).resolve_left (fun e => hy e.symm)
      have := filter_lt h'
      rw [if_pos (by simpa using hy)]
      simp only [List.length_cons]; omega
theorem c_orders_nil (w : World) (d : Nat) (l : Addr) : PCon w 264 (d + 12) [Value.ref l] (fun h => h.IsList l ([] : List Value).toArray)
    (fun _ r tl => ∃ D as vss n, r = .ref D ∧ tl = (D, W.listOf (as.map Value.ref).toArray n) :: ordLed as vss ∧ as.length = vss.length ∧ ListsAre vss [[]]) := by
  have hi' : IntsAre [] [] := .nil
  walk_at "con enter c"
  rename Heap.IsList _ _ _ => hl
  k_steps
  all_goals walk_at "con end"
  rename PRet _ _ _ => hret
  (rename Fr _ _ _ _ => lF); (rename News _ _ _ _ => lN)
  exact pret_ord hret lF lN
theorem c_orders (w : World) : ∀ f, f ≤ 6 → OrdersIH w f := by
  intro f
  induction f with
  | zero =>
    intro h6 l vs ns hi hn
    obtain rfl : ns = [] := List.length_eq_zero_iff.mp (by omega)
    cases hi
    exact c_orders_nil w 0 l
  | succ f ih =>
    intro h6 l vs ns hi hn
    cases hi with
    | nil => exact c_orders_nil w (f + 1) l
    | cons x t hr =>
      rename_i vs ns
      have ihf := ih (by omega)
      walk_at "con enter c"
      rename Heap.IsList _ _ _ => hl
      have hi' : IntsAre (Value.int x t :: vs) (x :: ns) := .cons _ _ hr
      k_steps
      · rename decide _ = true => hq
        simp at hq
      · unfold Stop
        rename Fr _ _ _ _ => lF
        rename News _ _ _ _ => lN
        have lN2 := news_13 lN
        with_unfolding_all refine' iter_oldT (OrdsJ f (x :: ns)) (by rfl) hl lF lN2 ?start ?step ?done
        case start => exact ⟨_, _, _, _, _, _, [], [], [], [], x :: ns, _, rfl, hi', rfl, rfl, by assumption, (fun _ h => nomatch h), off_nil, off_nil, rfl, .nil, .refl (fun _ h => nomatch h)⟩
        case step =>
          clear lF lN lN2
          intro I v r m news it h tk l1 hj hI hc F' N'
          k_lt l1
          revert hI F' N'
          refine OrdsJ.elim hj ?_
          clear hj
          intro oc cv rl as vss dn ks k t nn u hr2 e2 hcell e3 e4 e4' e5 e6 hI F' N'
          have hIr : ∀ p ∈ rl, p.1 ≠ I := fun p hp => hI p (List.mem_cons_of_mem _ (List.mem_cons_of_mem _ hp))
          have hIo := hI _ (.head _)
          have hIc := hI _ (.tail _ (.head _))
          clear hI
          dsimp only at hIo hIc
          have hlen := filt_len hn e2 filter_lt
          have hcount := count_len (by omega) hn e2
          k_steps
          any_goals exact Str.ofString "x"
          any_goals exact (0 : Addr)
          any_goals exact Value.none
          with_reducible refine Stop.mk ?_
          rename Fr _ _ _ _ => lF
          rename News _ _ _ _ => lN
          rename ListsAre _ (ordF _ _) => hL9
          rename List.length _ = List.length _ => hl9
          rename (∀ (p : Addr × Obj), p ∈ rl → p ∈ _) => hrr
          with_unfolding_all refine' iter_own2 (OrdI k (dn.flatMap fun x_1 => (ordF f ((x :: ns).filter fun y => y != x_1)).map (x_1 :: ·)) (ordF f ((x :: ns).filter fun a => a != k))) (by rfl) lF lN (.head _) (by rfl) (by rfl) (OrdI.start hl9 hL9 (by assumption) (fun p hp => hrr p (e3 p hp)) (by assumption) (by assumption) (by assumption) e5 e6) ?step2 ?done2
          case step2 =>
            clear lF lN
            intro I2 v2 r2 m2 news2 it2 h2 tk2 l2 hj2 hI2 hc2 F' N'
            k_lt l2
            revert hI2 F' N'
            refine OrdI.elim hj2 ?_
            clear hj2
            intro rl2 as2 bs b w0 vss2 wss dn2 ks2 kk nn2 u2 eb hw0 hws ed hbm hb1 hb2 ho2 hc3 hit2 ha2 hv2 hI2 F' N'
            have hI2r : ∀ p ∈ rl2, p.1 ≠ I2 := fun p hp => hI2 p (List.mem_cons_of_mem _ (List.mem_cons_of_mem _ (List.mem_cons_of_mem _ (List.mem_cons_of_mem _ hp))))
            have hwl := word_len h6 hw0 ed
            have hasl := words_len hcount ed ha2 hv2
            clear hcount hlen e4 e4' e5 e6 e3 hI2
            k_steps
            with_reducible refine Stop.mk ?_
            rename Fr _ _ _ _ => lF
            rename News _ _ _ _ => lN
            refine UnrEnd.ord lF lN ?_ ⟨.head _, OrdI.next eb hw0 hws ed hb1 hb2 ho2 hc3 hit2 ha2 hv2 (by k_ne) (by k_ne) (by k_ne) (fun z z1 => by simp [z1])⟩
            walk_at "own off"
          case done2 =>
            clear lF lN
            intro m2 news2 h2 tk2 hj2 F' N'
            revert F' N'
            refine OrdI.fin hj2 ?_
            clear hj2
            intro rl2 as2 vss2 nn2 u2 hb2 ho2 hc3 hit2 ha2 hv2 F' N'
            clear hcount hlen e4 e4' e5 e6 e3
            k_steps
            with_reducible refine Stop.mk ?_
            rename Fr _ _ _ _ => lF
            rename News _ _ _ _ => lN
            refine UnrEnd.sub lF lN (fun p hp => List.mem_cons_of_mem _ hp) (off_cons (by k_ne) (off_cons (by k_ne) hit2)) (OrdsJ.next hr2 e2 (by assumption) hb2 ho2 hc3 ha2 hv2 (fun z z1 => by simp [z1]))
        case done =>
          clear lF lN lN2
          intro m news h tk hj F' N'
          revert F' N'
          refine OrdsJ.fin hj ?_
          clear hj
          intro oc rl as vss nn u e3 e5 e6 F' N'
          k_steps
          all_goals walk_at "con end"
          rename PRet _ _ _ => hret
          (rename Fr _ _ _ _ => lF); (rename News _ _ _ _ => lN)
          refine pret_l hret lF (fun p hp => ?_) ⟨_, as, vss, nn, rfl, rfl, e5, ?_⟩
          · rcases List.mem_cons.mp hp with rfl | hp
            · exact lN _ (.head _)
            · exact lN _ (.tail _ (.tail _ (e3 p hp)))
          · rw [ordF, if_neg (by simp)]; exact e6
/-! contracts of a def that changes some of what stood (hl: what is laid aside) -/
noncomputable def HRet (g : Heap) (s : Shared) (R : Result → Shared → Prop) (Out : Heap → Value → Led → Prop) : Prop :=
  ∀ (r : Value) (tl : Led) (h' : Heap) (tk' : Nat), g.StaysIn h' → (∀ q ∈ tl, h'.get? q.1 = some q.2 ∧ g.get? q.1 = none) → Out h' r tl → R (.ok (.ret r)) { s with heap := h', toks := tk' }
noncomputable def HCon (w : World) (f : Addr) (d : Nat) (vs : List Value) (hl : Led) (Pre : Heap → Prop) (Out : Heap → Value → Led → Prop) : Prop :=
  ∀ (p : Program) (loose : List Str) (mean : ExcName → Option Value) (mg mb : Str → Option Value) (dp un : Nat) (gd : Option (List Code)) (env : Env) (outer : List Env) (base : Heap) (s : Shared) (R : Result → Shared → Prop) (g : Heap),
    g = hideAll s.heap (hl.map (·.1)) → Below (topA dp un gd env outer) base (env :: outer) g → (Mine.hd.heap_1_1 w.params).In g → Top p loose mean mg mb g → (∀ q ∈ hl, s.heap.get? q.1 = some q.2) → dp + d < recursionLimit → un + 8 * d < cLine → Pre g →
    HRet g s R Out → codeAny (model PySem.Challenge.rw_kt0070_01.row.prog w) (topA dp un gd env outer) (.call (.ref f) ⟨vs, []⟩) R s
theorem HCon.use {w : World} {f : Addr} {d : Nat} {vs : List Value} {hl : Led} {Pre : Heap → Prop} {Out : Heap → Value → Led → Prop} (C : HCon w f d vs hl Pre Out)
    {p : Program} {loose : List Str} {mean : ExcName → Option Value} {mg mb : Str → Option Value} {dp un : Nat} {gd : Option (List Code)} {env : Env} {outer : List Env} {A₀ : Around} {base h₀ : Heap} {L : Addr} {m : Str → Option Value} {news rest : Led} {s : Shared} {Q E : Value → Shared → Prop}
    (B : Below A₀ base outer h₀) (F : Fr h₀ L s.heap m) (X : (Mine.hd.heap_1_1 w.params).In h₀) (N : News h₀ L s.heap news) (T : Top p loose mean mg mb h₀) (hf : env.frame = some L) (hk : env.scope.kind = .function)
    (hd : dp + d < recursionLimit) (hu : un + 8 * d < cLine) (hs : ∀ q ∈ hl, q ∈ news) (hr : ∀ q ∈ rest, q ∈ news ∧ q.1 ∉ hl.map (·.1)) (hpre : ∀ g, h₀.StaysIn g → (∀ q ∈ rest, g.get? q.1 = some q.2) → Pre g)
    (ret : ∀ (r : Value) (tl : Led) (h' : Heap) (tk' : Nat), Fr h₀ L h' m → News h₀ L h' (tl ++ rest) → (∀ q ∈ rest, ∀ p ∈ tl, q.1 ≠ p.1) → Out h' r tl → Q r { s with heap := h', toks := tk' }) :
    wpAny (model PySem.Challenge.rw_kt0070_01.row.prog w) (topA dp un gd env outer) (call (.ref f) vs) Q E s := by
  have Nh : News h₀ L s.heap hl := fun q hq => N q (hs q hq)
  obtain ⟨FG, BG, st, _⟩ := groundX (A := topA dp un gd env outer) (R := fun _ _ => True) B F Nh rfl hf hk
  have hrg : ∀ q ∈ rest, (hideAll s.heap (hl.map (·.1))).get? q.1 = some q.2 := fun q hq => hideAll_get _ (N q (hr q hq).1).1 (hr q hq).2
  refine wpAny_call (C _ _ _ _ _ _ _ _ _ _ _ _ _ _ rfl BG (X.keeps st) (T.keeps st) (fun q hq => (Nh q hq).1) hd hu (hpre _ st hrg) ?_)
  intro r tl h' tk' hs' ht ho
  have hs'' : ∀ b o, (hideAll s.heap (hl.map (·.1))).get? b = some o → h'.get? b = some o := hs'
  obtain ⟨oL, es, ep, hL, hLd, hLk, hLf⟩ := FG.ns
  refine ret r tl h' tk' ⟨⟨oL, es, ep, hs'' _ _ hL, hLd, hLk, hLf⟩, fun b o e => hs'' _ _ (st _ _ e), F.above⟩ (fun q hq => ?_) (fun q hq p hp e => ?_) ho
  · rcases List.mem_append.mp hq with hq | hq
    · refine ⟨(ht q hq).1, fun e => ?_, ?_⟩
      · have := (ht q hq).2; rw [e, hL] at this; cases this
      · cases hh : h₀.get? q.1 with
        | none => rfl
        | some o => have := (ht q hq).2; rw [st _ _ hh] at this; cases this
    · exact ⟨hs'' _ _ (hrg q hq), (N q (hr q hq).1).2⟩
  · have := (ht p hp).2; rw [← e, hrg q hq] at this; cases this
/-- entering a def by such a contract -/
theorem enter_hid {w : World} {p : Program} {loose : List Str} {mean : ExcName → Option Value} {mg mb : Str → Option Value} {dp un : Nat} {gd : Option (List Code)} {env : Env} {outer : List Env} {base g : Heap} {s : Shared} {R : Result → Shared → Prop} {hl : Led}
    {name qual : Str} {params : Arguments} {body : List Stmt} {scope : Scope} {dV kV doc pm cdv ct oc : Value} {an od : Option Addr} {osl : Array (Option Value)} {f : Addr} {args : Args} {binds : List (Str × Value)}
    (hg : g = hideAll s.heap (hl.map (·.1))) (_B : Below (topA dp un gd env outer) base (env :: outer) g) (X : (Mine.hd.heap_1_1 w.params).In g) (T : Top p loose mean mg mb g) (hh : ∀ q ∈ hl, s.heap.get? q.1 = some q.2)
    (ho : (Mine.hd.heap_1_1 w.params).lookup f = some ⟨oc, od, .func (fnOf name qual params body scope dV kV doc pm an cdv ct), osl⟩) (hcd : codeIn (Mine.hd.heap_1_1 w.params) cdv qual = true) (hroom : dp < recursionLimit)
    (hbind : BindsTo s (fnOf name qual params body scope dV kV doc pm an cdv ct) args binds) (hloc : ∀ y ∈ binds, scope.names.lookup y.1 = some .local)
    (h : ∀ L' h₁, Fr g L' h₁ (fun y => binds.reverse.lookup y) → News g L' h₁ hl → (∀ q ∈ hl, q.1 < L') →
      wpAny (model PySem.Challenge.rw_kt0070_01.row.prog w) ((topA dp un gd env outer).deeper (envOf qual scope L' f cdv)) (execs body (envOf qual scope L' f cdv))
        (fun fl s' => R (.ok (.ret (match fl with | .ret v => v | _ => .none))) s')
        (fun e s' => wpAny (model PySem.Challenge.rw_kt0070_01.row.prog w) ((topA dp un gd env outer).deeper (envOf qual scope L' f cdv)) (leaving (envOf qual scope L' f cdv) e) (fun _ s'' => R (.error e) s'') (fun e' s'' => R (.error e') s'') s')
        { s with heap := h₁, toks := s.toks + binds.length })
    (hco : scope.isCoroutine = false) (hgen : scope.isGenerator = false) (hk : scope.kind = .function)
    (hcell : ∀ x ∈ scope.names, x.2 ≠ .cell) : codeAny (model PySem.Challenge.rw_kt0070_01.row.prog w) (topA dp un gd env outer) (.call (.ref f) args) R s := by
  subst hg
  have up : ∀ b o, (hideAll s.heap (hl.map (·.1))).get? b = some o → s.heap.get? b = some o := fun b o e => of_hideAll _ e
  have X' := X.keeps up
  refine codeAny_call_def (fd := fnOf name qual params body scope dV kV doc pm an cdv ct) (body := body) (binds := binds) hroom (X' _ _ ho) rfl (T.nolimit.keeps up) (codeRec_of X' hcd) rfl hbind hcell hloc (fun h₁ hns hk₁ => ?_) hco hgen hk
  exact h s.heap.objs.size h₁ ⟨hns, fun b o e => hk₁ _ _ (up _ _ e), Nat.le_of_eq (hideAll_size _ _)⟩ (fun q hq => ⟨hk₁ _ _ (hh q hq), Nat.ne_of_lt (Heap.lt_size (hh q hq)), hideAll_none _ (List.mem_map_of_mem hq)⟩) fun q hq => Heap.lt_size (hh q hq)
/-- entering the law -/
theorem enter_law {w : World} {p : Program} {loose : List Str} {mean : ExcName → Option Value} {mg mb : Str → Option Value} {g : Heap} {s : Shared} {R : Result → Shared → Prop} {hl : Led}
    {name qual : Str} {params : Arguments} {body : List Stmt} {scope : Scope} {dV kV doc pm cdv ct oc : Value} {an od : Option Addr} {osl : Array (Option Value)} {f : Addr} {args : Args} {binds : List (Str × Value)}
    (hg : g = hideAll s.heap (hl.map (·.1))) (X : (Mine.hd.heap_1_1 w.params).In g) (T : Top p loose mean mg mb g) (hh : ∀ q ∈ hl, s.heap.get? q.1 = some q.2)
    (ho : (Mine.hd.heap_1_1 w.params).lookup f = some ⟨oc, od, .func (fnOf name qual params body scope dV kV doc pm an cdv ct), osl⟩) (hcd : codeIn (Mine.hd.heap_1_1 w.params) cdv qual = true)
    (hbind : BindsTo s (fnOf name qual params body scope dV kV doc pm an cdv ct) args binds) (hkind : (binds.all fun y => scope.names.lookup y.1 == some .local || scope.names.lookup y.1 == some .cell) = true)
    (hnd : ((cellsFrom 0 scope.names []).map (·.1)).Nodup)
    (h : ∀ L' h₁ tk cells, Fr g L' h₁ (bindL (envOfC qual scope L' f cdv).kindOf binds fun _ => none) → News g L' h₁ (cells ++ hl) →
      CellsAre (bindC (envOfC qual scope L' f cdv).kindOf binds fun _ => none) (cellsFrom (L' + 1) scope.names []) cells → Below callerA g [] g → (∀ q ∈ hl, q.1 < L') →
      wpAny (model PySem.Challenge.rw_kt0070_01.row.prog w) (callerA.deeper (envOfC qual scope L' f cdv)) (execs body (envOfC qual scope L' f cdv))
        (fun fl s' => R (.ok (.ret (match fl with | .ret v => v | _ => .none))) s')
        (fun e s' => wpAny (model PySem.Challenge.rw_kt0070_01.row.prog w) (callerA.deeper (envOfC qual scope L' f cdv)) (leaving (envOfC qual scope L' f cdv) e) (fun _ s'' => R (.error e) s'') (fun e' s'' => R (.error e') s'') s')
        { s with heap := h₁, toks := tk })
    (hco : scope.isCoroutine = false) (hgen : scope.isGenerator = false) (hk : scope.kind = .function) : codeAny (model PySem.Challenge.rw_kt0070_01.row.prog w) callerA (.call (.ref f) args) R s := by
  subst hg
  have up : ∀ b o, (hideAll s.heap (hl.map (·.1))).get? b = some o → s.heap.get? b = some o := fun b o e => of_hideAll _ e
  have X' := X.keeps up
  refine codeAny_call_function (fd := fnOf name qual params body scope dV kV doc pm an cdv ct) (body := body) (by decide) (X' _ _ ho) rfl hco hgen rfl (codeRec_of X' hcd) (hbind _ _ _ _ ?_)
  refine wpAny_newFunctionEnv_cells hk (kindsX hkind _) fun env' he s' x => ?_
  subst he
  refine ⟨(T.nolimit.keeps up).keeps x.toInCall.keep, codeAny_func ?_⟩
  obtain ⟨h₁, tk, rfl, _⟩ := x.done
  have hk₁ := x.toInCall.keep
  obtain ⟨cells, NC, Y⟩ := Cl.news (h₀ := s.heap) (Nat.le_refl _) fun n c hm => ⟨x.cell n c (lookup_of_mem_nodup (cellsFrom_names scope.names 0 (s.heap.objs.size + 1) [] [] rfl ▸ hnd) hm), x.above n c hm⟩
  refine h s.heap.objs.size h₁ tk cells ⟨x.toInCall.ns, fun b o e => hk₁ b o (up _ _ e), Nat.le_of_eq (hideAll_size _ _)⟩ (fun q hq => ?_) Y (below_caller _) fun q hq => Heap.lt_size (hh q hq)
  rcases List.mem_append.mp hq with hq | hq
  · refine ⟨(NC q hq).1, (NC q hq).2.1, ?_⟩
    cases e : (hideAll s.heap (hl.map (·.1))).get? q.1 with
    | none => rfl
    | some o => have := up _ _ e; rw [(NC q hq).2.2] at this; cases this
  · exact ⟨hk₁ _ _ (hh q hq), Nat.ne_of_lt (Heap.lt_size (hh q hq)), hideAll_none _ (List.mem_map_of_mem hq)⟩
theorem hret_l {g : Heap} {L : Addr} {m : Str → Option Value} {s : Shared} {R : Result → Shared → Prop} {Out : Heap → Value → Led → Prop} {r : Value} {tl : Led} {h' : Heap} {tk' : Nat} (H : HRet g s R Out) (F : Fr g L h' m) (N : News g L h' tl) (o : Out h' r tl) :
    R (.ok (.ret r)) { s with heap := h', toks := tk' } :=
  H _ tl _ _ F.keep (fun q hq => ⟨(N q hq).1, (N q hq).2.2⟩) o
theorem words_24_1 : True := by
  (k_with "my con hid" => (unfold HCon; intro p_r loose_r mean_r mg_r mb_r dp_r un_r gd_r env_r outer_r base_r s_r R_r g_r hg_r B_r X_r T_r hh_r hd_r hu_r hpre_r hret_r; k_dflt (refine' enter_hid hg_r ?k1_q112 ?k3_q112 ?k5_q112 hh_r ?k6_q112 ?k7_q112 ?k8_q112 ?k9_q112 ?kB_q112 ?_ ?c2_q112 ?c3_q112 ?c4_q112 ?c5_q112; (case k1_q112 => k_asm); (case k3_q112 => k_asm); (case k5_q112 => k_asm); (case k6_q112 => k_is); (case k7_q112 => k_is); (case k8_q112 => omega); (case k9_q112 => first | exact BindsTo.of_eq rfl | exact binds_K (by k_in) rfl (by k_is) rfl rfl rfl); (case c5_q112 => decide); (case kB_q112 => exact locs rfl); (case c2_q112 => exact rfl); (case c3_q112 => exact rfl); (case c4_q112 => exact rfl); k_whole; intro L_p h_p F_p N_p l1_r; (try k_lt l1_r); (try dsimp only); (try k_fold))))
  (k_with "my con law" => (k_dflt (refine' enter_law ?kg_q113 ?k3_q113 ?k5_q113 ?kh_q113 ?k6_q113 ?k7_q113 ?k9_q113 ?kB_q113 ?kD_q113 ?_ ?c2_q113 ?c3_q113 ?c4_q113; (case kg_q113 => k_asm); (case k3_q113 => k_asm); (case k5_q113 => k_asm); (case kh_q113 => k_asm); (case k6_q113 => k_is); (case k7_q113 => k_is); (case k9_q113 => first | exact BindsTo.of_eq rfl | exact binds_K (by k_in) rfl (by k_is) rfl rfl rfl); (case kB_q113 => exact rfl); (case kD_q113 => decide +kernel); (case c2_q113 => exact rfl); (case c3_q113 => exact rfl); (case c4_q113 => exact rfl); k_whole; intro L_p h_p tk_p cells_p F_p N_p Y_p B_p l1_r; k_lt l1_r; k_cells Y_p; (try simp only [List.cons_append, List.nil_append] at N_p); (try dsimp only); (try k_fold))))
  trivial
/-! an attribute laid on a def, and read -/
theorem store_function : StoreFacts "function" [.type "function", .type "object"] "object.__setattr__" "object" where
  mro := by kernel_rfl
  slot := .of (owner := "object") (n := "__setattr__") (by rw [typeLookup_type, builtinLookup_eq_fast]; kernel_rfl) (by decide +kernel) (by decide +kernel) (by decide +kernel)
    (by first | exact .inl (by decide +kernel) | exact .inr (by decide +kernel)) (by rw [isSubtype_type]; kernel_rfl)
  entry := PySem.F.store_object.entry
  kind := by decide +kernel
  split := by decide +kernel
  hasOwner := by decide +kernel
  args := PySem.F.store_object.args
  passes := fun self => by kernel_rfl
theorem fn_no_read : typeLookup (.type "function") (Str.ofString "read") = pure none := by rw [typeLookup_type, builtinLookup_eq_fast]; kernel_rfl
theorem slot_fn_ga : Slot "function" "__getattribute__" "object.__getattribute__" :=
  .of (owner := "object") (n := "__getattribute__") (by rw [typeLookup_type, builtinLookup_eq_fast]; kernel_rfl) (by decide +kernel) (by decide +kernel) (by decide +kernel)
    (by first | exact .inl (by decide +kernel) | exact .inr (by decide +kernel)) (by rw [isSubtype_type]; kernel_rfl)
theorem fn_no_ga : typeLookup (.type "function") "__getattr__" = pure none := by rw [typeLookup_type, builtinLookup_eq_fast]; kernel_rfl
theorem fn_has_dict : typeHasDict (.type "function") = true := by decide +kernel
theorem fn_no_reg : finalisedInACycleAlone "function" = false := by decide +kernel
noncomputable abbrev fnO (fd : FuncData) (d : Option Addr) (osl : Array (Option Value)) : Obj := ⟨.type "function", d, .func fd, osl⟩
section
variable {prog : Program} {w : World} {A : Around} {E : Value → Shared → Prop} {h : Heap} {g : Array GenState} {d : Drawn} {t : Nat} {os : OsState} {x : Addr} {fd : FuncData} {osl : Array (Option Value)} {name : Str} {v : Value}
theorem fn_store_entry {tk : Tok} {Q : Fin → Shared → Prop} (hx : h.get? x = some (fnO fd none osl)) (hB : typeLookup (.type "function") name = pure none)
    (hq : ∀ h' tk', h'.get? x = some (fnO fd (some h.objs.size) osl) → h'.Ns1 h.objs.size (fun y => if y = name then some v else none) → (∀ b ob, b ≠ x → h.get? b = some ob → h'.get? b = some ob) → Q (.done (.ret .none)) ⟨h', g, d, tk', os⟩) :
    wpAny (model prog w) A (Builtin.«object.__setattr__» ⟨[.ref x, .str name tk, v], []⟩) Q E ⟨h, g, d, t, os⟩ := by
  have hpass := store_function.passes (.ref x)
  have hmro := store_function.mro
  have hT : ∀ t', (⟨h, g, d, t', os⟩ : Shared).TypeIs (.ref x) "function" := fun _ => ⟨_, hx, rfl⟩
  rw [osa_eq, refuse_eq]
  refine wpAny_bind (wpAny_bind (wpAny_typeOf (hT _) (wpAny_bind (wpAny_of_eq hmro ?_))))
  rw [hpass]
  refine wpAny_pure (wpAny_bind (wpAny_typeOf (hT _) (wpAny_bind (wpAny_of_eq hB (wpAny_bind (m := Builtin.ObjectAttr.storeTaker? none) (wpAny_pure ?_))))))
  show wpAny _ _ (Builtin.ObjectAttr.storeInOwnDict (.ref x) (.type "function") (.str name tk) name v false) _ _ _
  unfold Builtin.ObjectAttr.storeInOwnDict
  have hos : ownStreamTells (.ref x) (.type "function") = pure () := by rfl
  rw [hos]
  refine wpAny_bind (wpAny_pure ?_)
  show wpAny _ _ (Builtin.ObjectAttr.ownDictForStores (.ref x) >>= fun r => _) _ _ _
  refine wpAny_bind ?_
  show wpAny _ _ (instanceDict x true) _ _ _
  unfold instanceDict
  refine wpAny_bind (wpAny_loadPart' hx ?_)
  dsimp only
  simp only [Bool.not_true, Bool.false_or, fn_has_dict, Bool.false_eq_true, if_false]
  have hx₁ : (h.push { cls := .type "dict", data := .dict #[] }).get? x = some (fnO fd none osl) := Heap.get?_push_of_some _ hx
  have hxs : x ≠ h.objs.size := Nat.ne_of_lt (Heap.lt_size hx)
  refine wpAny_bind (wpAny_alloc' (wpAny_bind (wpAny_update' hx₁ ?_)))
  unfold dictMade
  simp only [fn_no_reg, Bool.false_eq_true, if_false]
  refine wpAny_bind (wpAny_pure (wpAny_pure ?_))
  have hgd : ((h.push { cls := .type "dict", data := .dict #[] }).update x fun o => { cls := o.cls, dict := some h.objs.size, data := o.data, slots := o.slots }).get? h.objs.size
      = some { cls := .type "dict", data := .dict #[] } :=
    (Heap.get?_update_ne _ _ _ _ hxs.symm).trans (Heap.get?_push_at rfl rfl)
  have hnd : ((h.push { cls := .type "dict", data := .dict #[] }).update x fun o => { cls := o.cls, dict := some h.objs.size, data := o.data, slots := o.slots }).Ns h.objs.size (fun _ => none) :=
    ⟨_, #[], _, hgd, rfl, fun e he => absurd he (by simp), fun _ => rfl⟩
  show wpAny _ _ (Builtin.ObjectAttr.storeInDict h.objs.size (.str name tk) name v) _ _ _
  unfold Builtin.ObjectAttr.storeInDict Builtin.ObjectAttr.newKeyGuard
  refine wpAny_bind (wpAny_pure (wpAny_bind (wpAny_nsSet1 (Heap.Ns1.of_empty hnd) fun h' hn' hs => ?_)))
  obtain ⟨oD, esD, epD, hoD, hdD, hcD⟩ := hn'.count (Within.cons name v Within.nil)
  refine wpAny_bind (wpAny_lookBehind hoD (by rw [hdD]; exact pastItsLine_dict (Nat.le_trans hcD (by rw [List.length_cons, List.length_nil, sizeLine_eq]; omega))) ?_)
  refine wpAny_pure (hq h' _ ?_ hn' fun b ob hbx hb => ?_)
  · exact (hs.2 x hxs).trans (Heap.get?_update_self _ hx₁ rfl)
  · exact (hs.2 b (Nat.ne_of_lt (Heap.lt_size hb))).trans ((Heap.get?_update_ne _ _ _ _ hbx).trans (Heap.get?_push_of_some _ hb))
theorem fn_setAttr {Q : Unit → Shared → Prop} (hx : h.get? x = some (fnO fd none osl)) (hB : typeLookup (.type "function") name = pure none)
    (hq : ∀ h' tk', h'.get? x = some (fnO fd (some h.objs.size) osl) → h'.Ns1 h.objs.size (fun y => if y = name then some v else none) → (∀ b ob, b ≠ x → h.get? b = some ob → h'.get? b = some ob) → Q () ⟨h', g, d, tk', os⟩) :
    wpAny (model prog w) A (setAttr (.ref x) name v) Q E ⟨h, g, d, t, os⟩ := by
  have hT : ∀ t', (⟨h, g, d, t', os⟩ : Shared).TypeIs (.ref x) "function" := fun _ => ⟨_, hx, rfl⟩
  unfold setAttr
  refine wpAny_bind (wpAny_mkText (wpAny_bind (wpAny_callSpecial?_slot (hT _) store_function.slot ?_)))
  refine wpAny_call (codeAny_call_builtin store_function.slot.plain store_function.entry (store_function.slot.check _ _ _ _ _ _ _ _ (hT _) (store_function.args _ _ _) (fn_store_entry hx hB fun h' tk' a b c => ?_)))
  exact wpAny_pure (hq h' tk' a b c)
theorem fn_ga_entry {tk : Tok} {dx : Addr} {m : Str → Option Value} {Q : Fin → Shared → Prop} (hx : h.get? x = some (fnO fd (some dx) osl)) (hB : typeLookup (.type "function") name = pure none) (hn : h.Ns dx m) (hv : m name = some v)
    (hq : ∀ tk', Q (.done (.ret v)) ⟨h, g, d, tk', os⟩) : wpAny (model prog w) A (Builtin.«object.__getattribute__» ⟨[.ref x, .str name tk], []⟩) Q E ⟨h, g, d, t, os⟩ := by
  have hT : ∀ t', (⟨h, g, d, t', os⟩ : Shared).TypeIs (.ref x) "function" := fun _ => ⟨_, hx, rfl⟩
  unfold Builtin.«object.__getattribute__»
  refine wpAny_bind (m := slotArgs "__getattribute__" 1 ⟨[.ref x, .str name tk], []⟩) (wpAny_pure ?_)
  refine wpAny_bind (m := Builtin.ObjectAttr.attrName (.str name tk)) (wpAny_pure ?_)
  refine wpAny_bind (wpAny_typeOf (hT _) (wpAny_bind ?_))
  unfold Builtin.ObjectAttr.find
  refine wpAny_bind (wpAny_of_eq hB (wpAny_bind (m := Builtin.ObjectAttr.getOf none) (wpAny_pure (wpAny_bind (m := Builtin.ObjectAttr.dataDescriptor? none none) (wpAny_pure ?_)))))
  show wpAny _ _ (Builtin.ObjectAttr.ownThenClass (.ref x) name none none) _ _ _
  unfold Builtin.ObjectAttr.ownThenClass
  refine wpAny_bind ?_
  show wpAny _ _ (Builtin.ObjectAttr.ownDict x >>= fun r => Builtin.ObjectAttr.inDict name r) _ _ _
  refine wpAny_bind ?_
  unfold Builtin.ObjectAttr.ownDict loadHead
  refine wpAny_bind (wpAny_loadPart' hx ?_)
  show wpAny _ _ (instanceDict x false) _ _ _
  unfold instanceDict
  refine wpAny_bind (wpAny_loadPart' hx ?_)
  refine wpAny_pure ?_
  show wpAny _ _ (nsGet dx name) _ _ _
  refine wpAny_nsGet hn ?_
  rw [hv]
  exact wpAny_bind (wpAny_rule (wpAny_pure (wpAny_pure (hq _))))
/-- a def's own attribute, called -/
theorem fn_getMethod {dx vf : Addr} {m : Str → Option Value} {pl : Sem Bool} {Q : Value × List Value → Shared → Prop} (hx : h.get? x = some (fnO fd (some dx) osl)) (hB : typeLookup (.type "function") name = pure none) (hn : h.Ns dx m) (hv : m name = some (.ref vf))
    (hq : ∀ tk', Q (.ref vf, []) ⟨h, g, d, tk', os⟩) : wpAny (model prog w) A (getMethod (.ref x) name pl) Q E ⟨h, g, d, t, os⟩ := by
  have hT : ∀ t', (⟨h, g, d, t', os⟩ : Shared).TypeIs (.ref x) "function" := fun _ => ⟨_, hx, rfl⟩
  have hlk := slot_fn_ga.lookup
  have hng := fn_no_ga
  unfold getMethod
  refine wpAny_bind (wpAny_specialOf (hT _) hlk ?_)
  show wpAny _ _ (if (Manifest.canonical "object.__getattribute__" != "object.__getattribute__") = true then _ else _) _ _ _
  rw [if_neg (by decide +kernel)]
  refine wpAny_bind (wpAny_specialOf (hT _) hng ?_)
  show wpAny _ _ (specialOf (.ref x) name >>= fun r => _) _ _ _
  refine wpAny_bind (wpAny_specialOf (hT _) hB ?_)
  dsimp only
  unfold getAttr getAttrBy
  refine wpAny_bind (wpAny_bind (wpAny_mkText (wpAny_holding (wpAny_bind (wpAny_typeOf (hT _) (wpAny_bind (wpAny_of_eq hlk ?_)))))))
  show wpAny _ _ (getAttrByItsOwn (.ref x) (.str name t) (.type "function") (.builtin "object.__getattribute__") true false) _ _ _
  unfold getAttrByItsOwn hookBefore callGetattribute boundAndCalled
  refine wpAny_bind (wpAny_of_eq (show (if onTheHeap (.type "function") then typeLookup (.type "function") "__getattr__" else pure none) = pure none from rfl) ?_)
  refine wpAny_bind (wpAny_attempt (wpAny_holding ?_))
  show wpAny _ _ (bindSpecial (.builtin "object.__getattribute__") (.ref x) >>= _) _ _ _
  refine wpAny_bind (wpAny_of_eq (slot_fn_ga.bind _) ?_)
  refine wpAny_mono (Q := fun r s' => r = .ref vf ∧ ∃ tk', s' = ⟨h, g, d, tk', os⟩) (E := fun _ _ => False)
    (wpAny_call_entry slot_fn_ga (hT _) PySem.F.entry_object_getattribute (fn_ga_entry hx hB hn hv fun tk' => ⟨_, rfl, rfl, _, rfl⟩) (PySem.F.args_object_getattribute_2 _ _)) (fun r s' hr => ?_) fun _ _ z => z.elim
  obtain ⟨rfl, tk', rfl⟩ := hr
  show wpAny _ _ (handedOut (.ref vf)) _ _ _
  exact wpAny_pure (wpAny_pure (hq _))
end
/-- an object that is a dict of these names -/
noncomputable def NsO (od : Obj) (m : Str → Option Value) : Prop := ∃ es ep, od.data = .dict es ep ∧ StrKeys es ∧ ∀ name, nsFind es name = m name
theorem NsO.ns {od : Obj} {m : Str → Option Value} (x : NsO od m) {h : Heap} {a : Addr} (e : h.get? a = some od) : h.Ns a m := let ⟨es, ep, d, k, f⟩ := x; ⟨od, es, ep, e, d, k, f⟩
section
variable {prog : Program} {w : World} {A : Around} {E : Value → Shared → Prop} {s : Shared} {h₀ : Heap} {L x : Addr} {m : Str → Option Value} {news : Led} {gg : Obj → Led} {fd : FuncData} {osl : Array (Option Value)} {name : Str} {v : Value}
theorem fnset_N {Q : Unit → Shared → Prop} (F : Fr h₀ L s.heap m) (N : News h₀ L s.heap news) (U : UpdF x (fnO fd none osl) news gg) (hB : typeLookup (.type "function") name = pure none)
    (h : ∀ D od h' tk', Fr h₀ L h' m → News h₀ L h' ((D, od) :: gg (fnO fd (some D) osl)) → NsO od (fun y => if y = name then some v else none) → (∀ p ∈ news, p.1 < D) → Q () { s with heap := h', toks := tk' }) :
    wpAny (model prog w) A (setAttr (.ref x) name v) Q E s := by
  obtain ⟨pre, post, rfl, hg, h1, h2⟩ := U.split
  have hm := N (x, fnO fd none osl) (List.mem_append_right _ (.head _))
  refine fn_setAttr (h := s.heap) hm.1 hB fun h' tk' hx' hn hk => ?_
  obtain ⟨od, es, ep, e1, e2, e3, _, e4⟩ := hn
  have hold : ∀ b o, h₀.get? b = some o → h'.get? b = some o := fun b o e => hk b o (fun q => by rw [q, hm.2.2] at e; cases e) (F.keep b o e)
  refine h _ od h' tk' ⟨F.ns.at' fun o e => hk _ _ (Ne.symm hm.2.1) e, hold, F.above⟩ (fun p hp => ?_) ⟨es, ep, e2, e3, e4⟩ fun p hp => Heap.lt_size (N p hp).1
  rw [hg] at hp
  rcases List.mem_cons.mp hp with rfl | hp
  · exact ⟨e1, Nat.ne_of_gt F.ns.lt, next_is_new F⟩
  · rcases List.mem_append.mp hp with hp | hp
    · exact ⟨hk _ _ (h1 p hp) (N p (List.mem_append_left _ hp)).1, (N p (List.mem_append_left _ hp)).2⟩
    · rcases List.mem_cons.mp hp with rfl | hp
      · exact ⟨hx', hm.2⟩
      · exact ⟨hk _ _ (h2 p hp) (N p (List.mem_append_right _ (.tail _ hp))).1, (N p (List.mem_append_right _ (.tail _ hp))).2⟩
end
theorem words_26_1 : True := by
  (k_with "my setAttr ref" => (k_here; (with_reducible show wpAny _ (Around.deeper _ (envOfC (Str.ofString "_law_stream") _ _ _ _)) (setAttr (Value.ref _) (Str.ofString "read") _) _ _ _); k_dflt (refine' fnset_N ?F_q114 ?N_q114 ?U_q114 fn_no_read ?_; (case F_q114 => k_asm); (case N_q114 => k_asm); (case U_q114 => k_updF)); intro D_p od_p h_p tk_p F_p N_p hd_p l1_r; (try dsimp only at N_p); (try k_lt l1_r)))
  trivial
/-! _law_stream -/
section
variable {w : World} {p : Program} {loose : List Str} {mean : ExcName → Option Value} {mg mb : Str → Option Value} {dp un : Nat} {gd : Option (List Code)} {env : Env} {outer : List Env} {base g : Heap} {s : Shared} {R : Result → Shared → Prop} {hl : Led}
  {name qual : Str} {params : Arguments} {body : List Stmt} {scope : Scope} {dV kV doc pm cdv ct oc : Value} {an od : Option Addr} {osl : Array (Option Value)} {f : Addr} {args : Args} {binds : List (Str × Value)}
theorem enter_hidC
    (hg : g = hideAll s.heap (hl.map (·.1))) (_B : Below (topA dp un gd env outer) base (env :: outer) g) (X : (Mine.hd.heap_1_1 w.params).In g) (T : Top p loose mean mg mb g) (hh : ∀ q ∈ hl, s.heap.get? q.1 = some q.2)
    (ho : (Mine.hd.heap_1_1 w.params).lookup f = some ⟨oc, od, .func (fnOf name qual params body scope dV kV doc pm an cdv ct), osl⟩) (hcd : codeIn (Mine.hd.heap_1_1 w.params) cdv qual = true) (hroom : dp < recursionLimit)
    (hbind : BindsTo s (fnOf name qual params body scope dV kV doc pm an cdv ct) args binds) (hkind : (binds.all fun y => scope.names.lookup y.1 == some .local || scope.names.lookup y.1 == some .cell) = true)
    (hnd : ((cellsFrom 0 scope.names []).map (·.1)).Nodup)
    (h : ∀ L' h₁ tk cells, Fr g L' h₁ (bindL (envOfC qual scope L' f cdv).kindOf binds fun _ => none) → News g L' h₁ (cells ++ hl) →
      CellsAre (bindC (envOfC qual scope L' f cdv).kindOf binds fun _ => none) (cellsFrom (L' + 1) scope.names []) cells → (∀ q ∈ hl, q.1 < L') →
      wpAny (model PySem.Challenge.rw_kt0070_01.row.prog w) ((topA dp un gd env outer).deeper (envOfC qual scope L' f cdv)) (execs body (envOfC qual scope L' f cdv))
        (fun fl s' => R (.ok (.ret (match fl with | .ret v => v | _ => .none))) s')
        (fun e s' => wpAny (model PySem.Challenge.rw_kt0070_01.row.prog w) ((topA dp un gd env outer).deeper (envOfC qual scope L' f cdv)) (leaving (envOfC qual scope L' f cdv) e) (fun _ s'' => R (.error e) s'') (fun e' s'' => R (.error e') s'') s')
        { s with heap := h₁, toks := tk })
    (hco : scope.isCoroutine = false) (hgen : scope.isGenerator = false) (hk : scope.kind = .function) : codeAny (model PySem.Challenge.rw_kt0070_01.row.prog w) (topA dp un gd env outer) (.call (.ref f) args) R s := by
  subst hg
  have up : ∀ b o, (hideAll s.heap (hl.map (·.1))).get? b = some o → s.heap.get? b = some o := fun b o e => of_hideAll _ e
  have X' := X.keeps up
  refine codeAny_call_function (fd := fnOf name qual params body scope dV kV doc pm an cdv ct) (body := body) hroom (X' _ _ ho) rfl hco hgen rfl (codeRec_of X' hcd) (hbind _ _ _ _ ?_)
  refine wpAny_newFunctionEnv_cells hk (kindsX hkind _) fun env' he s' x => ?_
  subst he
  refine ⟨(T.nolimit.keeps up).keeps x.toInCall.keep, codeAny_func ?_⟩
  obtain ⟨h₁, tk, rfl, _⟩ := x.done
  have hk₁ := x.toInCall.keep
  obtain ⟨cells, NC, Y⟩ := Cl.news (h₀ := s.heap) (Nat.le_refl _) fun n c hm => ⟨x.cell n c (lookup_of_mem_nodup (cellsFrom_names scope.names 0 (s.heap.objs.size + 1) [] [] rfl ▸ hnd) hm), x.above n c hm⟩
  refine h s.heap.objs.size h₁ tk cells ⟨x.toInCall.ns, fun b o e => hk₁ b o (up _ _ e), Nat.le_of_eq (hideAll_size _ _)⟩ (fun q hq => ?_) Y fun q hq => Heap.lt_size (hh q hq)
  rcases List.mem_append.mp hq with hq | hq
  · refine ⟨(NC q hq).1, (NC q hq).2.1, ?_⟩
    cases e : (hideAll s.heap (hl.map (·.1))).get? q.1 with
    | none => rfl
    | some o => have := up _ _ e; rw [(NC q hq).2.2] at this; cases this
  · exact ⟨hk₁ _ _ (hh q hq), Nat.ne_of_lt (Heap.lt_size (hh q hq)), hideAll_none _ (List.mem_map_of_mem hq)⟩
end
theorem codeRec_at {h : Heap} {c : Addr} {oc : Obj} {vs : Array Value} {qual : Str} {t : Tok} (e : h.get? c = some oc) (hd : oc.data = .fields vs) (hv : vs[1]? = some (.str qual t)) : h.CodeRec (.ref c) qual :=
  ⟨c, oc, vs, t, rfl, e, hd, hv⟩
theorem enter_clo {w : World} {p : Program} {loose : List Str} {mean : ExcName → Option Value} {mg mb : Str → Option Value} {dp un : Nat} {gd : Option (List Code)} {env : Env} {outer : List Env} {base g : Heap} {s : Shared} {R : Result → Shared → Prop} {hl : Led}
    {name qual : Str} {params : Arguments} {body : List Stmt} {scope : Scope} {cl : List (Str × Addr)} {doc pm ctv : Value} {c' f : Addr} {oc : Obj} {vs : Array Value} {tq : Tok} {args : Args} {binds : List (Str × Value)}
    (hg : g = hideAll s.heap (hl.map (·.1))) (_B : Below (topA dp un gd env outer) base (env :: outer) g) (T : Top p loose mean mg mb g) (hh : ∀ q ∈ hl, s.heap.get? q.1 = some q.2)
    (ho : (f, fnMade name qual params body scope cl doc pm c' ctv) ∈ hl) (hc : (c', oc) ∈ hl) (hd : oc.data = .fields vs) (hv : vs[1]? = some (.str qual tq)) (hroom : dp < recursionLimit)
    (hbind : BindsTo s (fnX name qual params body scope cl .none .none doc pm none (.ref c') ctv) args binds) (hloc : ∀ y ∈ binds, scope.names.lookup y.1 = some .local)
    (h : ∀ L' h₁, Fr g L' h₁ (fun y => binds.reverse.lookup y) → News g L' h₁ hl → (∀ q ∈ hl, q.1 < L') →
      wpAny (model PySem.Challenge.rw_kt0070_01.row.prog w) ((topA dp un gd env outer).deeper (envX qual scope L' f (.ref c') cl)) (execs body (envX qual scope L' f (.ref c') cl))
        (fun fl s' => R (.ok (.ret (match fl with | .ret v => v | _ => .none))) s')
        (fun e s' => wpAny (model PySem.Challenge.rw_kt0070_01.row.prog w) ((topA dp un gd env outer).deeper (envX qual scope L' f (.ref c') cl)) (leaving (envX qual scope L' f (.ref c') cl) e) (fun _ s'' => R (.error e) s'') (fun e' s'' => R (.error e') s'') s')
        { s with heap := h₁, toks := s.toks + binds.length })
    (hco : scope.isCoroutine = false) (hgen : scope.isGenerator = false) (hk : scope.kind = .function)
    (hcell : ∀ x ∈ scope.names, x.2 ≠ .cell) : codeAny (model PySem.Challenge.rw_kt0070_01.row.prog w) (topA dp un gd env outer) (.call (.ref f) args) R s := by
  subst hg
  have up : ∀ b o, (hideAll s.heap (hl.map (·.1))).get? b = some o → s.heap.get? b = some o := fun b o e => of_hideAll _ e
  refine codeAny_call_def (fd := fnX name qual params body scope cl .none .none doc pm none (.ref c') ctv) (body := body) (binds := binds) hroom (hh _ ho) rfl (T.nolimit.keeps up) (codeRec_at (hh _ hc) hd hv) rfl hbind hcell hloc (fun h₁ hns hk₁ => ?_) hco hgen hk
  exact h s.heap.objs.size h₁ ⟨hns, fun b o e => hk₁ _ _ (up _ _ e), Nat.le_of_eq (hideAll_size _ _)⟩ (fun q hq => ⟨hk₁ _ _ (hh q hq), Nat.ne_of_lt (Heap.lt_size (hh q hq)), hideAll_none _ (List.mem_map_of_mem hq)⟩) fun q hq => Heap.lt_size (hh q hq)
theorem clip_rd {pos k : Nat} {ks : List Int} (h : pos ≤ ks.length) : (ks.drop (clipAt ks.length (pos : Int))).take (clipAt ks.length ((pos : Int) + (k : Int)) - clipAt ks.length (pos : Int)) = (ks.drop pos).take k := by
  have e : ((pos : Int) + (k : Int)) = ((pos + k : Nat) : Int) := by omega
  rw [e, clipAt_nat, clipAt_nat, Nat.min_eq_left h, List.take_eq_take_iff, List.length_drop]
  omega
theorem clip_len {pos k : Nat} {ks : List Int} (h : pos ≤ ks.length) : (pos : Int) + ((min (clipAt ks.length ((pos : Int) + (k : Int)) - clipAt ks.length (pos : Int)) (ks.length - clipAt ks.length (pos : Int)) : Nat) : Int) = ((pos + ((ks.drop pos).take k).length : Nat) : Int) := by
  have e : ((pos : Int) + (k : Int)) = ((pos + k : Nat) : Int) := by omega
  rw [e, clipAt_nat, clipAt_nat, Nat.min_eq_left h, List.length_take, List.length_drop]
  omega
/-- what is known of a stream: its ledger at a place, and how it is read -/
structure Strm (w : World) (SAt : Nat → Led → Prop) (st : Addr) (ks : List Int) : Prop where
  obj : ∀ pos tl, SAt pos tl → ∃ fd osl D od fr mm fd2 osl2, (fr, fnO fd2 none osl2) ∈ tl ∧ (st, fnO fd (some D) osl) ∈ tl ∧ (D, od) ∈ tl ∧ NsO od mm ∧ mm (Str.ofString "read") = some (.ref fr) ∧
    ∀ (k : Nat) (t : Tok), pos ≤ ks.length → k ≤ 300 → HCon w fr 8 [.int (k : Int) t] tl (fun _ => True) (fun _ r tl' => ∃ b tk, r = .bytes b tk ∧ KBw.bInts b = (ks.drop pos).take k ∧ SAt (pos + ((ks.drop pos).take k).length) tl')
  same : ∀ pos tl pos' tl', SAt pos tl → SAt pos' tl' → tl.map (·.1) = tl'.map (·.1)
theorem words_27_1 : True := by
  (k_with "my con hidc" => (unfold HCon; intro p_r loose_r mean_r mg_r mb_r dp_r un_r gd_r env_r outer_r base_r s_r R_r g_r hg_r B_r X_r T_r hh_r hd_r hu_r hpre_r hret_r; k_dflt (refine' enter_hidC hg_r ?k1_q115 ?k3_q115 ?k5_q115 hh_r ?k6_q115 ?k7_q115 ?k8_q115 ?k9_q115 ?kB_q115 ?kD_q115 ?_ ?c2_q115 ?c3_q115 ?c4_q115; (case k1_q115 => k_asm); (case k3_q115 => k_asm); (case k5_q115 => k_asm); (case k6_q115 => k_is); (case k7_q115 => k_is); (case k8_q115 => omega); (case k9_q115 => first | exact BindsTo.of_eq rfl | exact binds_K (by k_in) rfl (by k_is) rfl rfl rfl); (case kB_q115 => exact rfl); (case kD_q115 => decide +kernel); (case c2_q115 => exact rfl); (case c3_q115 => exact rfl); (case c4_q115 => exact rfl); k_whole; intro L_p h_p tk_p cells_p F_p N_p Y_p l1_r; k_lt l1_r; k_cells Y_p; (try simp only [List.cons_append, List.nil_append] at N_p); (try dsimp only); (try k_fold))))
  (k_with "my con clo" => (unfold HCon; intro p_r loose_r mean_r mg_r mb_r dp_r un_r gd_r env_r outer_r base_r s_r R_r g_r hg_r B_r X_r T_r hh_r hd_r hu_r hpre_r hret_r; k_dflt (refine' enter_clo hg_r ?k1_q116 ?k5_q116 hh_r ?k6_q116 ?k7_q116 ?k8_q116 ?k8' ?k9_q116 ?k10_q116 ?kB_q116 ?_ ?c2_q116 ?c3_q116 ?c4_q116 ?c5_q116; (case k1_q116 => k_asm); (case k5_q116 => k_asm); (case k6_q116 => k_mem); (case k7_q116 => k_mem); (case k8_q116 => k_asm); (case k8' => k_asm); (case k9_q116 => omega); (case k10_q116 => exact BindsTo.of_eq rfl); (case c5_q116 => decide); (case kB_q116 => exact locs rfl); (case c2_q116 => exact rfl); (case c3_q116 => exact rfl); (case c4_q116 => exact rfl); k_whole; intro L_p h_p F_p N_p l1_r; (try k_lt l1_r); (try dsimp only); (try k_fold))))
  trivial
theorem c_stream (w : World) (tb : Array UInt8) (t : Tok) (ks : List Int) (hks : KBw.bInts tb = ks) (hkl : ks.length ≤ 1000) : HCon w 226 12 [Value.bytes tb t] [((221 : Addr), tabObj #[])] (fun g => CodeHd g 225 221)
    (fun _ r tl => ∃ st SAt, r = .ref st ∧ Strm w SAt st ks ∧ SAt 0 tl ∧ ∀ pos tl, SAt pos tl → ∃ ps, ((221 : Addr), tabObj ps) ∈ tl) := by
  walk_at "con hidc"
  rename CodeHd _ _ _ => lC
  k_steps
  walk_at "con end"
  rename HRet _ _ _ _ => hret
  rename Fr _ _ _ _ => lF
  rename News _ _ _ _ => lN
  rename NsO _ _ => hns
  refine hret_l hret lF lN ⟨_, fun pos tl => ∃ lo tk n x, tl = [(_, _), (_, _), (_, _), (_, lo), (_, _), (_, _), (_, _), (_, _), (_, _)] ∧ lo = W.listOf #[Value.int x tk] n ∧ x = (pos : Int), rfl, ⟨?_, ?_⟩, ⟨_, _, 0, _, rfl, rfl, rfl⟩, ?_⟩
  · rintro pos tl ⟨lo, tk, n, x, rfl, rfl, rfl⟩
    refine ⟨_, _, _, _, _, _, _, _, .tail _ (.head _), .tail _ (.tail _ (.tail _ (.tail _ (.head _)))), .head _, hns, rfl, ?_⟩
    intro k t' hpos hk3
    walk_at "con clo"
    k_steps
    walk_at "con end"
    rename HRet _ _ _ _ => hret2
    rename Fr _ _ _ _ => lF2
    rename News _ _ _ _ => lN2
    rename KBw.bInts (KBy.picked _ _ _) = _ => hK
    clear hret lF lN
    refine hret_l hret2 lF2 lN2 ⟨_, _, rfl, hK.trans ?_, _, ?tk1, ?n1, ?x1, rfl, ?e1, ?e2⟩
    · exact clip_rd hpos
    case e1 => exact rfl
    case e2 => exact clip_len hpos
  · rintro pos tl pos' tl' ⟨_, _, _, _, rfl, _⟩ ⟨_, _, _, _, rfl, _⟩
    rfl
  · rintro pos tl ⟨_, _, _, _, rfl, _⟩
    exact ⟨_, .tail _ (.tail _ (.tail _ (.tail _ (.tail _ (.tail _ (.tail _ (.tail _ (.head _))))))))⟩
/-! read_uint1, read_string1 -/
section
variable {prog : Program} {w : World} {A : Around} {E : Value → Shared → Prop} {s : Shared} {h₀ : Heap} {L st D fr : Addr} {fd : FuncData} {osl : Array (Option Value)} {od : Obj} {mm : Str → Option Value} {news : Led} {pl : Sem Bool} {Q : Value × List Value → Shared → Prop}
theorem read_K (N : News h₀ L s.heap news) (h1 : (st, fnO fd (some D) osl) ∈ news) (h2 : (D, od) ∈ news) (hn : NsO od mm) (hv : mm (Str.ofString "read") = some (.ref fr)) (h : ∀ tk', Q (.ref fr, []) { s with toks := tk' }) :
    wpAny (model prog w) A (getMethod (.ref st) (Str.ofString "read") pl) Q E s :=
  fn_getMethod (h := s.heap) (N _ h1).1 fn_no_read (hn.ns (N _ h2).1) hv h
end
noncomputable def ReadAt (w : World) (SAt : Nat → Led → Prop) (ks : List Int) (pos : Nat) (tl : Led) (fr : Addr) : Prop :=
  ∀ (k : Nat) (t : Tok), pos ≤ ks.length → k ≤ 300 → HCon w fr 8 [.int (k : Int) t] tl (fun _ => True) (fun _ r tl' => ∃ b tk, r = .bytes b tk ∧ KBw.bInts b = (ks.drop pos).take k ∧ SAt (pos + ((ks.drop pos).take k).length) tl')
theorem Strm.at {w : World} {SAt : Nat → Led → Prop} {st : Addr} {ks : List Int} (S : Strm w SAt st ks) {pos : Nat} {tl : Led} (h : SAt pos tl) : ∃ fd osl D od fr mm fd2 osl2, (fr, fnO fd2 none osl2) ∈ tl ∧ (st, fnO fd (some D) osl) ∈ tl ∧ (D, od) ∈ tl ∧ NsO od mm ∧ mm (Str.ofString "read") = some (.ref fr) ∧ ReadAt w SAt ks pos tl fr := S.obj pos tl h
theorem words_28_1 : True := by
  (k_with "my getMethod ref" => (k_here; (with_reducible show wpAny _ _ (getMethod (Value.ref _) (Str.ofString "read") _) _ _ _); k_dflt (refine' read_K ?N_q117 ?a_q117 ?b_q117 ?c_q117 ?d_q117 ?_; (case N_q117 => k_asm); (case a_q117 => walk_at "own mem"); (case b_q117 => walk_at "own mem"); (case c_q117 => assumption); (case d_q117 => assumption)); intro _; (try dsimp only)))
  (k_with "my callWith ref" => (k_here; k_dflt (first | (refine' callWith_F ?k1_q118 ?_; (case k1_q118 => exact FnAt.of (by k_asm) (by assumption)); k_whole) | (refine' callWith_F0 ?k1_q118 ?_; (case k1_q118 => exact FnAt.of (by k_asm) (by assumption)); k_whole; try dsimp only [List.nil_append, List.cons_append]))))
  (k_with "my FnAt" => (k_dflt (exact FnAt.of (by k_asm) (by assumption))))
  (k_with "my hid use" => ((case B_q => k_asm); (case F_q => k_asm); (case X_q => k_asm); (case N_q => k_asm); (case T_q => k_asm); (case hf_q => exact rfl); (case hk_q => exact rfl); (case hd_q => walk_at "con room"); (case hu_q => walk_at "con room")))
  trivial
section
theorem words_28_2 : True := by
  (k_with "my call ref" => (k_here; (rename ReadAt _ _ _ _ _ _ => hR_r); k_dflt (refine' HCon.use (rest := []) (hR_r _ _ ?p1_q121 ?p2_q121) ?B_q ?F_q ?X_q ?N_q ?T_q ?hf_q ?hk_q ?hd_q ?hu_q ?hs_q121 ?hr_q121 ?hp_q121 ?_; (case hs_q121 => exact fun q h => h); (case hr_q121 => exact fun q h => nomatch h); (case hp_q121 => exact fun _ _ _ => True.intro); (case p1_q121 => omega); (case p2_q121 => first | omega | decide); walk_at "hid use"; intro r9_r tl9_r h9_r tk9_r F9_r N9_r D9_r O9_r; obtain ⟨b9_r, tb9_r, e9_r, hb9_r, hS9_r⟩ := O9_r; subst e9_r; clear D9_r; simp only [List.append_nil] at N9_r; (try dsimp only); (try k_fold))))
  trivial
theorem c_u1 (w : World) (SAt : Nat → Led → Prop) (st : Addr) (ks : List Int) (S : Strm w SAt st ks) (pos : Nat) (tl : Led) (hS : SAt pos tl) (x : Int) (rest : List Int) (hx : ks.drop pos = x :: rest) (hkl : ks.length ≤ 1000) :
    HCon w 165 12 [Value.ref st] tl (fun _ => True) (fun _ r tl' => ∃ t, r = .int x t ∧ SAt (pos + 1) tl') := by
  obtain ⟨fd, osl, D, od, fr, mm, fd2, osl2, m0, m1, m2, hns, hmm, hread⟩ := S.at hS
  have hpl : pos < ks.length := by
    rcases Nat.lt_or_ge pos ks.length with h | h
    · exact h
    · rw [List.drop_eq_nil_of_le h] at hx; cases hx
  walk_at "con hid"
  k_steps
  walk_at "con end"
  rename HRet _ _ _ _ => hret
  rename Fr _ _ _ _ => lF
  rename News _ _ _ _ => lN
  rename SAt _ _ => hS9
  have e : (List.take 1 (List.drop pos ks)).getD (Int.toNat 0) 0 = x := by rw [hx]; rfl
  have e2 : (List.take 1 (List.drop pos ks)).length = 1 := by rw [hx]; rfl
  rw [e2] at hS9
  exact hret_l hret lF lN ⟨_, congrArg (fun z => Value.int z _) e, hS9⟩
end
theorem words_28_3 : True := by
  k_with_none
  (k_with "my con args" => ((rename Fr _ _ _ _ => F1_r); with_unfolding_all (first | change Fr _ _ _ (fun y => List.lookup y [(Str.ofString _, _)]) at F1_r | change Fr _ _ _ (fun y => List.lookup y [(Str.ofString _, _), (Str.ofString _, _)]) at F1_r | change Fr _ _ _ (fun y => List.lookup y [(Str.ofString _, _), (Str.ofString _, _), (Str.ofString _, _)]) at F1_r)))
  (k_with "my execs cons" => k_fold)
  (k_with "my exec If" => k_fold)
  (k_with "my con def" => (refine' enter_def ?k1_q4 ?k3_q4 ?k5_q4 ?k6_q4 ?k7_q4 ?k8_q4 ?k9_q4 ?kB_q4 ?_ ?c2_q4 ?c3_q4 ?c4_q4 ?c5_q4; (case k1_q4 => k_asm); (case k3_q4 => k_asm); (case k5_q4 => k_asm); (case k6_q4 => k_is); (case k7_q4 => k_is); (case k8_q4 => omega); (case k9_q4 => first | exact BindsTo.of_eq rfl | exact binds_K (by k_in) rfl (by k_is) rfl rfl rfl); (case c5_q4 => decide); (case kB_q4 => exact locs rfl); (case c2_q4 => exact rfl); (case c3_q4 => exact rfl); (case c4_q4 => exact rfl); k_whole; intro L_p h_p F_p N_p; (try dsimp only); (try walk_at "con args"); (try k_fold)))
  (k_with "my con rest" => (refine' enter_rest ?k1_q5 ?k3_q5 ?k5_q5 ?k6_q5 ?k7_q5 ?k8_q5 ?k9_q5 ?kz_q5 ?kB_q5 ?_ ?c2_q5 ?c3_q5 ?c4_q5 ?c5_q5; (case k1_q5 => k_asm); (case k3_q5 => k_asm); (case k5_q5 => k_asm); (case k6_q5 => k_is); (case k7_q5 => k_is); (case k8_q5 => omega); (case k9_q5 => exact rfl); (case kz_q5 => exact Nat.le_of_ble_eq_true rfl); (case c5_q5 => decide); (case kB_q5 => exact fun _ => locs rfl); (case c2_q5 => exact rfl); (case c3_q5 => exact rfl); (case c4_q5 => exact rfl); k_whole; intro D_p L_p h_p F_p N_p; (try dsimp only); (try walk_at "con args"); (try k_fold)))
  (k_with "my con enter" => (unfold PCon; intro p_r loose_r mean_r mg_r mb_r dp_r un_r gd_r env_r outer_r base_r s_r R_r B_r X_r T_r hd_r hu_r hpre_r hret_r; k_dflt (first | walk_at "con def" | walk_at "con rest")))
  (k_with "my con end" => (repeat (first | (k_unfold; (try dsimp only)) | dsimp only)))
  (k_with "my con v" => (walk_at "con end"; (rename PRet _ _ _ => hret_r); first | exact pret_v (V := fun t => Value.str _ t) hret_r (by k_asm) | exact pret_v (V := fun t => Value.int _ t) hret_r (by k_asm) | exact pret_v (V := fun _ => Value.bool _) hret_r (by k_asm)))
  (k_with "my con room" => first | omega | (dsimp only [topA, ktrTop, Around.deeper] at *; omega) | ktr_room | (simp only [depth_deeper, depth_caller, units_deeper, units_caller] at *; omega))
  (k_with "my con use" => ((case B_q => k_asm); (case F_q => k_asm); (case X_q => k_asm); (case N_q => k_asm); (case T_q => k_asm); (case hf_q => exact rfl); (case hk_q => exact rfl); (case hd_q => walk_at "con room"); (case hu_q => walk_at "con room")))
  (k_with "my con use v" => ((case hp_q => exact True.intro); walk_at "con use"; intro t9_r h9_r tk9_r F9_r N9_r; (try k_sweep); (try k_fold)))
  (k_with "my call builtin:issubclass" => (k_here; k_dflt (refine' iss_call ?h_q12 ?_; (case h_q12 => exact News.get (by k_asm) (by k_mem)); k_whole)))
  (k_with "my call ref" => (k_here; (with_reducible show wpAny _ _ (call (Value.ref 94) _) _ _ _); k_dflt (refine' PCon.useV (c_fspath _ _ _) ?B_q ?F_q ?X_q ?N_q ?T_q ?hf_q ?hk_q ?hd_q ?hu_q ?hp_q ?_; walk_at "con use v")))
  (k_with "my call ref" => (k_here; (with_reducible show wpAny _ _ (call (Value.ref 115) _) _ _ _); k_dflt (refine' PCon.useV (c_getsep _ _ _) ?B_q ?F_q ?X_q ?N_q ?T_q ?hf_q ?hk_q ?hd_q ?hu_q ?hp_q ?_; walk_at "con use v")))
  (k_with "my truthy str" => (k_here; (with_reducible show wpAny _ _ (PySem.truthy (Value.str _ _)) _ _ _); refine' truthy_ne ?a_q15 ?b_q15 ?_; (case a_q15 => assumption); (case b_q15 => omega); intro _))
  (k_with "my call ref" => (k_here; (with_reducible show wpAny _ _ (call (Value.ref 136) _) _ _ _); k_dflt (refine' PCon.useV (c_dirname _ _ _ (by omega)) ?B_q ?F_q ?X_q ?N_q ?T_q ?hf_q ?hk_q ?hd_q ?hu_q ?hp_q ?_; walk_at "con use v")))
  (k_with "my call ref" => (k_here; (with_reducible show wpAny _ _ (call (Value.ref 122) _) _ _ _); k_dflt (refine' PCon.useV (c_join _ _ _ _ _ (by omega) (by omega)) ?B_q ?F_q ?X_q ?N_q ?T_q ?hf_q ?hk_q ?hd_q ?hu_q ?hp_q ?_; walk_at "con use v")))
  (k_with "my call ref" => (k_here; (with_reducible show wpAny _ _ (call (Value.ref 129) _) _ _ _); k_dflt (refine' PCon.use (c_splitroot _ _ _ (by omega) (by assumption) (by assumption)) ?B_q ?F_q ?X_q ?N_q ?T_q ?hf_q ?hk_q ?hd_q ?hu_q ?hp_q18 ?_; (case hp_q18 => exact True.intro); walk_at "con use"; intro r9_r tl9_r h9_r tk9_r S9_r F9_r N9_r D9_r O9_r; obtain ⟨a9_r, t9_r, t9_p, t9'_p, e9_r, e9_p⟩ := O9_r; subst e9_r; subst e9_p; clear D9_r S9_r; (try simp only [List.cons_append, List.nil_append] at N9_r); (try dsimp only); (try k_fold))))
  (k_with "my call builtin:str.join" => (k_here; (with_reducible show wpAny _ _ (call (Value.builtin _) [Value.str _ _, Value.ref _]) _ _ _); k_dflt (refine' join_listW (News.isList (by k_asm) (by k_mem)) (by assumption) (by decide +kernel) (by assumption) ?_); intro _ _))
  (k_with "my call ref" => (k_here; (with_reducible show wpAny _ _ (call (Value.ref 143) _) _ _ _); k_dflt (refine' PCon.useV (c_normpath _ _ _ _ (by omega) (by assumption) (by assumption) (by assumption) (by assumption) (by assumption) (by assumption) (by assumption)) ?B_q ?F_q ?X_q ?N_q ?T_q ?hf_q ?hk_q ?hd_q ?hu_q ?hp_q ?_; walk_at "con use v")))
  (k_with "my call ref" => (k_here; (with_reducible show wpAny _ _ (call (Value.ref 150) _) _ _ _); k_dflt (refine' PCon.useV (c_abs _ _ _ _ _ (by assumption)) ?B_q ?F_q ?X_q ?N_q ?T_q ?hf_q ?hk_q ?hd_q ?hu_q ?hp_q ?_; walk_at "con use v")))
  (k_with "my call builtin:min" => (k_here; (with_reducible show wpAny _ _ (call (Value.builtin _) [Value.ref _]) _ _ _); k_dflt (refine' min_K ?F_q22 ?N_q22 ?l_q22 ?a_q22 ?b_q22 ?x_q22 ?y_q22 ?e_q22 ?h_q22 ?u_q22 ?_; (case F_q22 => k_asm); (case N_q22 => k_asm); (case l_q22 => assumption); (case a_q22 => assumption); (case b_q22 => assumption); (case x_q22 => assumption); (case y_q22 => assumption); (case e_q22 => assumption); (case h_q22 => rfl); (case u_q22 => walk_at "con room")); intro h_p tk_p F_p N_p))
  (k_with "my call builtin:max" => (k_here; (with_reducible show wpAny _ _ (call (Value.builtin _) [Value.ref _]) _ _ _); k_dflt (refine' max_K ?F_q23 ?N_q23 ?l_q23 ?a_q23 ?b_q23 ?x_q23 ?y_q23 ?e_q23 ?h_q23 ?u_q23 ?_; (case F_q23 => k_asm); (case N_q23 => k_asm); (case l_q23 => assumption); (case a_q23 => assumption); (case b_q23 => assumption); (case x_q23 => assumption); (case y_q23 => assumption); (case e_q23 => assumption); (case h_q23 => rfl); (case u_q23 => walk_at "con room")); intro h_p tk_p F_p N_p))
  (k_with "my EnumPost" => (dsimp only [EnumPost]))
  (k_with "my call builtin:isinstance" => (k_here; (with_reducible show wpAny _ _ (call _ [Value.ref _, Value.ref _]) _ _ _); k_dflt (refine' kia_tup kitx_list ?X_q25 ?H_q25 ?t_q25 ?e_q25 ?x_q25 ?_; (case X_q25 => k_in); (case H_q25 => exact kitAt_old (by k_asm) (by assumption)); (case t_q25 => exact News.get (by k_asm) (by k_mem)); (case e_q25 => exact rfl); (case x_q25 => intro e_r; cases e_r); k_whole; intro _)))
  (k_with "my exec For Tuple Call cons nil" => (k_here; (with_reducible show wpAny _ _ (exec _ (envOf (Str.ofString "commonprefix") _ _ _ _)) _ _ _); (rename Fr _ _ _ _ => lF_p); (with_unfolding_all refine' For_turns lF_p ?_; k_whole)))
  (k_with "my call type:enumerate" => ((with_reducible show wpAny _ (Around.deeper _ (envOf (Str.ofString "commonprefix") _ _ _ _)) (call _ _) _ _ _); refine Stop.out ?_))
  (k_with "my call ref" => (k_here; (with_reducible show wpAny _ _ (call (Value.ref 101) _) _ _ _); k_dflt (refine' PCon.use (c_cpref' _ _ _ _ _ _ _ _ _ _ _ (by assumption) (by assumption) (by assumption) (by assumption) (by assumption) (by omega) (by omega)) ?B_q ?F_q ?X_q ?N_q ?T_q ?hf_q ?hk_q ?hd_q ?hu_q ?hp_q28 ?_; (case hp_q28 => exact ⟨News.isList (by k_asm) (by k_mem), News.isList (by k_asm) (by k_mem), News.isList (by k_asm) (by k_mem)⟩); walk_at "con use"; intro r9_r tl9_r h9_r tk9_r S9_r F9_r N9_r D9_r O9_r; obtain ⟨e9_r, c9_r, cs9_r, e9_p, l9_r, n9_r⟩ := O9_r; subst e9_r; subst e9_p; clear D9_r S9_r; (try simp only [List.nil_append] at N9_r); (try dsimp only); (try k_fold))))
  (k_with "my own list" => first | assumption | exact News.isList (by k_asm) (by k_mem) | exact isList_old (by k_asm) (by assumption))
  (k_with "my own size" => first | omega | assumption | (rw [List.length_drop, strValues_len (by assumption) (by assumption)]; omega) | (rw [strValues_len (by assumption) (by assumption)]; omega) | (rw [List.length_replicate]; omega) | exact rel_ne (by assumption) (by assumption) (by omega) | exact rel_le (by assumption) (by assumption) (by omega) (by omega))
  (k_with "my call builtin:len" => (k_here; (with_reducible show wpAny _ _ (call (Value.builtin "len") [Value.ref _]) _ _ _); k_dflt (refine' len_known ?l_q31 ?n_q31 ?z_q31 ?_; (case l_q31 => assumption); (case n_q31 => assumption); (case z_q31 => omega)); intro _ _))
  (k_with "my call builtin:len" => (k_here; (with_reducible show wpAny _ _ (call (Value.builtin "len") [Value.ref _]) _ _ _); k_dflt (refine' len_known ?l_q32 ?n_q32 ?z_q32 ?_; (case l_q32 => exact News.isList (by k_asm) (by k_mem)); (case n_q32 => exact strValues_len (by assumption) (by assumption)); (case z_q32 => omega)); intro _ _))
  (k_with "my binaryOp Mult ref int" => (k_here; (with_reducible show wpAny _ (Around.deeper _ (envOf (Str.ofString "relpath") _ _ _ _)) (binaryOp Operator.Mult (Value.ref _) (Value.int _ _)) _ _ _); k_dflt (refine' mul_own ?F_q33 ?N_q33 ?l_q33 ?a_q33 ?b_q33 ?_; (case F_q33 => k_asm); (case N_q33 => k_asm); (case l_q33 => walk_at "own list"); (case a_q33 => omega); (case b_q33 => omega)); intro D_p h_p F_p N_p l1_r; (try k_lt l1_r); (try k_sweep)))
  (k_with "my binaryOp Add ref ref" => (k_here; (with_reducible show wpAny _ (Around.deeper _ (envOf (Str.ofString "relpath") _ _ _ _)) (binaryOp Operator.Add (Value.ref _) (Value.ref _)) _ _ _); k_dflt (refine' add_own ?F_q34 ?N_q34 ?l_q34 ?r_q34 ?a_q34 ?b_q34 ?_; (case F_q34 => k_asm); (case N_q34 => k_asm); (case l_q34 => walk_at "own list"); (case r_q34 => walk_at "own list"); (case a_q34 => walk_at "own size"); (case b_q34 => walk_at "own size")); intro D_p h_p F_p N_p l1_r; (try k_lt l1_r); (try k_sweep)))
  (k_with "my subscriptTail Name Slice ref ref" => (k_here; (with_reducible show wpAny _ (Around.deeper _ (envOf (Str.ofString "relpath") _ _ _ _)) (subscriptTail _ (PySem.Expr.Slice _ _ none _) (Value.ref _) (Value.ref _)) _ _ _); k_dflt (refine' kms_slice_lit ?F_q35 ?N_q35 ?l_q35 ?p_q35 ?q_q35 ?e_q35 ?_ ?s_q35 ?t_q35 ?z_q35; (case F_q35 => k_asm); (case N_q35 => k_asm); (case l_q35 => walk_at "own list"); (case p_q35 => kmk_part); (case q_q35 => kmk_part); (case e_q35 => exact pick_from _); (case s_q35 => with_unfolding_all rfl); (case t_q35 => kmk_pure); (case z_q35 => (rw [List.size_toArray, strValues_len (by assumption) (by assumption)]; unfold sizeLine; omega))); intro D_p h_p F_p N_p l1_r; (try k_lt l1_r); (try k_sweep)))
  (k_with "my truthy ref" => (k_here; (with_reducible show wpAny _ (Around.deeper _ (envOf (Str.ofString "relpath") _ _ _ _)) (PySem.truthy (Value.ref _)) _ _ _); refine' truthy_long ?l_q36 ?a_q36 ?b_q36 ?_; (case l_q36 => walk_at "own list"); (case a_q36 => walk_at "own size"); (case b_q36 => walk_at "own size"); intro _))
  (k_with "my call builtin:str.join" => (k_here; (with_reducible show wpAny _ (Around.deeper _ (envOf (Str.ofString "relpath") _ _ _ _)) (call (Value.builtin _) [Value.str _ _, Value.ref _]) _ _ _); k_dflt (refine' join_listW (News.isList (by k_asm) (by k_mem)) (rel_strs (by assumption) (by assumption)) (by decide +kernel) (by assumption) ?_); intro _ _))
  (k_with "my call ref" => (k_here; (with_reducible show wpAny _ _ (call (Value.ref 158) _) _ _ _); k_dflt (refine' PCon.useV (c_rel _ _ _ _ _ _ _ _ _ _ _ (by assumption)) ?B_q ?F_q ?X_q ?N_q ?T_q ?hf_q ?hk_q ?hd_q ?hu_q ?hp_q ?_; walk_at "con use v")))
  (k_with "my costs" => first | assumption | ((rename TabAt _ _ _ _ _ => tAb_r); exact tAb_r.ofFr (by k_asm)))
  (k_with "my subscriptTail" => ((with_reducible show wpAny _ (Around.deeper _ (envOf (Str.ofString "_law_cost") _ _ _ _)) (subscriptTail _ _ (Value.ref _) (Value.str _ _)) _ _ _); refine' kdp_item ?a_q40 ?b_q40 ?_; (case a_q40 => walk_at "costs"); (case b_q40 => assumption); intro _))
  (k_with "my call builtin:dict.get" => ((with_reducible show wpAny _ (Around.deeper _ (envOf (Str.ofString "_law_cost") _ _ _ _)) _ _ _ _); refine' kdp_get2 ?a_q41 ?_; (case a_q41 => walk_at "costs"); intro _))
  (k_with "my call ref" => (k_here; (with_reducible show wpAny _ _ (call (Value.ref 259) _) _ _ _); refine Stop.out ?_))
  (k_with "my EnTPost" => (dsimp only [EnTPost]))
  (k_with "my TupRest" => first | ((with_unfolding_all refine TupRest.succ (fun it' h' tk' hc' F' N' => ?_)); (try dsimp only); (try k_fold)) | ((with_unfolding_all refine TupRest.zero (fun h' tk' F' N' => ?_)); (try dsimp only); (try k_fold)))
  (k_with "my exec For Tuple Call cons nil" => (k_here; (with_reducible show wpAny _ _ (exec _ (envOf (Str.ofString "filemode") _ _ _ _)) _ _ _); (rename Fr _ _ _ _ => lF_p); (with_unfolding_all refine' For_turns lF_p ?_; k_whole)))
  (k_with "my call type:enumerate" => ((with_reducible show wpAny _ (Around.deeper _ (envOf (Str.ofString "filemode") _ _ _ _)) (call _ _) _ _ _); refine Stop.out ?_))
  (k_with "my exec For" => (k_here; (with_reducible show wpAny _ _ (exec (Stmt.For _ (Expr.Name _ _) _ (_ :: _) _) (envOf (Str.ofString "filemode") _ _ _ _)) _ _ _); (rename Fr _ _ _ _ => lF_p); (with_unfolding_all refine' For_else lF_p ?_; k_whole)))
  (k_with "my pyIter ref" => ((with_reducible show wpAny _ (Around.deeper _ (envOf (Str.ofString "filemode") _ _ _ _)) (pyIter (Value.ref _)) _ _ _); refine Stop.out ?_))
  (k_with "my off all" => repeat (first | exact off_nil | refine off_cons (by (try dsimp only); k_ne) ?_))
  (k_with "my UnrEnd" => ((with_reducible show UnrEnd _ _ _ _ _ (TupRest _ _ _ _ _ _ _ _ _ _ _ _ _) _); refine UnrEnd.here (by k_asm) (by k_asm) (by walk_at "off all") ?_))
  (k_with "my fm pick" => first | rfl | exact fmPick_pos (by assumption) | exact fmPick0_pos (by assumption) | (refine fmPick_neg (by assumption) ?_; walk_at "fm pick") | (refine fmPick0_neg (by assumption) ?_; walk_at "fm pick"))
  (k_with "my fm end" => ((rename Fr _ _ _ _ => lF_r); (rename News _ _ _ _ => lN_r); (first | refine EnT.here lF_r lN_r (by exact rfl) ?_ | refine EnT.here1 lF_r lN_r (by exact rfl) ?_); (refine fm_fin (by assumption) (by assumption) rfl (by walk_at "fm pick") ⟨(fun _ h => nomatch h), fun z z1 _ z3_r => ?_⟩; (simp only [List.contains_cons, List.contains_nil, Bool.or_false, Bool.or_eq_false_iff, beq_eq_false_iff_ne, ne_eq] at z3_r); (obtain ⟨z3_r, z4_r, z5_r⟩ := z3_r); simp [z1, z3_r, z4_r, z5_r])))
  (k_with "my call ref" => (k_here; (with_reducible show wpAny _ _ (call (Value.ref 179) _) _ _ _); k_dflt (refine' PCon.useV (c_sifmt _ _ _ (by assumption) (by assumption)) ?B_q ?F_q ?X_q ?N_q ?T_q ?hf_q ?hk_q ?hd_q ?hu_q ?hp_q ?_; walk_at "con use v")))
  (k_with "my own mem" => first | k_mem | (repeat (first | assumption | refine List.mem_cons_of_mem _ ?_)))
  (k_with "my own item" => first | (refine' item_listL ?l_q56 ?a_q56 ?b_q56 ?c_q56 ?_; (case l_q56 => exact News.isList (by k_asm) (by walk_at "own mem")); (case a_q56 => omega); (case b_q56 => omega); (case c_q56 => (first | assumption | rfl))) | (refine' item_tupleL ?l_q56 ?a_q56 ?b_q56 ?c_q56 ?d_q56 ?_; (case l_q56 => exact ⟨_, News.get (by k_asm) (by walk_at "own mem"), rfl, _, rfl⟩); (case a_q56 => decide); (case b_q56 => decide); (case c_q56 => rfl); (case d_q56 => rfl)))
  (k_with "my subscriptTail" => (k_here; (with_reducible show wpAny _ (Around.deeper _ (envOf (Str.ofString "_law_tree") _ _ _ _)) (subscriptTail _ _ (Value.ref _) (Value.int _ _)) _ _ _); walk_at "own item"))
  (k_with "my call builtin:len" => (k_here; (with_reducible show wpAny _ (Around.deeper _ (envOf (Str.ofString "_law_tree") _ _ _ _)) (call (Value.builtin "len") [Value.ref _]) _ _ _); k_dflt (refine' len_known ?l_q58 ?n_q58 ?z_q58 ?_; (case l_q58 => exact News.isList (by k_asm) (by walk_at "own mem")); (case n_q58 => assumption); (case z_q58 => omega)); intro _ _))
  (k_with "my own upd" => first | (refine' Upd.head ?a_q59; (case a_q59 => first | assumption | (walk_at "off all"; done))) | (refine' Upd.tail ?a_q59 ?b_q59; (case a_q59 => k_ne); (case b_q59 => walk_at "own upd")))
  (k_with "my call builtin:list.append" => (k_here; (with_reducible show wpAny _ (Around.deeper _ (envOf (Str.ofString "_law_tree") _ _ _ _)) (call (Value.builtin _) [Value.ref _, _]) _ _ _); k_dflt (refine' append_K ?k1_q60 ?k2_q60 ?k3_q60 ?_ ?z_q60; (case k1_q60 => k_asm); (case k2_q60 => k_asm); (case k3_q60 => walk_at "own upd"); (case z_q60 => exact size_of_len (by assumption)); k_whole); intro h_p F_p N_p; (try k_sweep)))
  (k_with "my pyIter ref" => ((with_reducible show wpAny _ (Around.deeper _ (envOf (Str.ofString "_law_tree") _ _ _ _)) (pyIter (Value.ref _)) _ _ _); refine Stop.out ?_))
  (k_with "my call ref" => (k_here; (with_reducible show wpAny _ _ (call (Value.ref 233) _) _ _ _); refine Stop.out ?_))
  (k_with "my binaryOp Add ref ref" => (k_here; (with_reducible show wpAny _ (Around.deeper _ (envOf (Str.ofString "_law_order") _ _ _ _)) (binaryOp Operator.Add (Value.ref _) (Value.ref _)) _ _ _); k_dflt (refine' add_own (vs := [_]) ?F_q66 ?N_q66 ?l_q66 ?r_q66 ?a_q66 ?b_q66 ?_; (case F_q66 => k_asm); (case N_q66 => k_asm); (case l_q66 => exact News.isList (by k_asm) (by k_mem)); (case r_q66 => exact News.isList (by k_asm) (by k_mem)); (case a_q66 => exact Nat.le_of_ble_eq_true rfl); (case b_q66 => omega)); intro D_p h_p F_p N_p l1_r; (try k_lt l1_r); (try k_sweep)))
  (k_with "my own upd" => first | (refine' Upd.head ?a_q67; (case a_q67 => first | assumption | (walk_at "off all"; done))) | (refine' Upd.tail ?a_q67 ?b_q67; (case a_q67 => first | k_ne | exact Ne.symm (by assumption)); (case b_q67 => walk_at "own upd")))
  (k_with "my inplaceOp Add ref ref" => (k_here; (with_reducible show wpAny _ (Around.deeper _ (envOf (Str.ofString "_law_order") _ _ _ _)) (inplaceOp Operator.Add (Value.ref _) (Value.ref _)) _ _ _); k_dflt (refine' iadd_own ?F_q68 ?N_q68 ?b_q68 ?U_q68 ?_ ?a_q68 ?z_q68; (case F_q68 => k_asm); (case N_q68 => k_asm); (case b_q68 => k_mem); (case U_q68 => walk_at "own upd"); (case a_q68 => assumption); (case z_q68 => simp only [List.length_append, List.length_cons, List.length_nil]; omega); k_whole); intro h_p F_p N_p; (try k_sweep)))
  (k_with "my pyIter ref" => ((with_reducible show wpAny _ (Around.deeper _ (envOf (Str.ofString "_law_order") _ _ _ _)) (pyIter (Value.ref _)) _ _ _); refine Stop.out ?_))
  (k_with "my call builtin:len" => (k_here; (with_reducible show wpAny _ (Around.deeper _ (envOf (Str.ofString "_law_order") _ _ _ _)) (call (Value.builtin "len") [Value.ref _]) _ _ _); k_dflt (refine' len_known ?l_q70 ?n_q70 ?z_q70 ?_; (case l_q70 => exact isList_old (by k_asm) (by assumption)); (case n_q70 => assumption); (case z_q70 => omega)); intro _ _))
  (k_with "my old item" => first | (refine' item_listL ?l_q71 ?a_q71 ?b_q71 ?c_q71 ?_; (case l_q71 => exact isList_old (by k_asm) (by assumption)); (case a_q71 => omega); (case b_q71 => omega); (case c_q71 => assumption)) | (refine' item_tupleL ?l_q71 ?a_q71 ?b_q71 ?c_q71 ?d_q71 ?_; (case l_q71 => exact isTup_old (by k_asm) (by assumption)); (case a_q71 => decide); (case b_q71 => decide); (case c_q71 => rfl); (case d_q71 => rfl)))
  (k_with "my subscriptTail" => (k_here; (with_reducible show wpAny _ (Around.deeper _ (envOf (Str.ofString "_law_order") _ _ _ _)) (subscriptTail _ _ (Value.ref _) (Value.int _ _)) _ _ _); walk_at "old item"))
  (k_with "my call ref" => (k_here; (with_reducible show wpAny _ (Around.deeper _ (envOf (Str.ofString "_law_order") _ _ _ _)) (call (Value.ref 240) _) _ _ _); (rename OrdIH _ _ _ _ _ _ _ _ => ihX_r); k_dflt (refine' PCon.use (ihX_r _) ?B_q ?F_q ?X_q ?N_q ?T_q ?hf_q ?hk_q ?hd_q ?hu_q ?hp_q73 ?_; (case hp_q73 => (rename TreeAt _ _ _ _ _ => tT_r; exact tT_r.keep (fun b o e => Fr.keep (by k_asm) b o e))); walk_at "con use"; intro r9_r tl9_r h9_r tk9_r S9_r F9_r N9_r D9_r O9_r; obtain ⟨d9_r, vs9_r, n9_r, e9_r, e9_p, hI9_r⟩ := O9_r; subst e9_r; subst e9_p; clear S9_r; (try simp only [List.cons_append, List.nil_append] at N9_r); (try simp only [List.mem_cons, List.not_mem_nil, or_false, forall_eq_or_imp, forall_eq] at D9_r); (try (first | obtain ⟨D1_r, D2_r, D3_r, D4_r, D5_r⟩ := D9_r | obtain ⟨D1_r, D2_r, D3_r, D4_r⟩ := D9_r | obtain ⟨D1_r, D2_r, D3_r⟩ := D9_r | obtain ⟨D1_r, D2_r⟩ := D9_r)); (have hz9_r := order_len hI9_r (by assumption) (by omega)); (try dsimp only); (try k_fold))))
  (k_with "my UnrEnd" => ((with_reducible show UnrEnd _ _ _ _ _ (OrderJ _ _ _ _ _ _) _); refine Stop.out ?_))
  (k_with "my eval ListComp" => (k_here; (with_reducible show wpAny _ _ (eval _ (envOf (Str.ofString "_law_tape") _ _ _ _)) _ _ _); k_dflt (refine ListComp_text (F₀ := by k_asm) (by with_unfolding_all rfl) (by decide) (by rfl) (by decide) (by rfl) ?_)))
  (k_with "my SrcT" => (refine Stop.out ?_))
  (k_with "my exec For" => (k_here; (with_reducible show wpAny _ _ (exec (Stmt.For _ _ _ _ _) (envOf (Str.ofString "_law_tape") _ _ _ _)) _ _ _); (rename Fr _ _ _ _ => lF_p); (with_unfolding_all refine' For_invVF lF_p ?g_q77 ?p_q77 ?_; (case g_q77 => exact rfl); (case p_q77 => exact rfl); k_whole)))
  (k_with "my pyIter ref" => ((with_reducible show wpAny _ (Around.deeper _ (envOf (Str.ofString "_law_tape") _ _ _ _)) (pyIter (Value.ref _)) _ _ _); refine Stop.out ?_))
  (k_with "my subscriptTail" => (k_here; (with_reducible show wpAny _ (Around.deeper _ (envOf (Str.ofString "_law_tape") _ _ _ _)) (subscriptTail _ _ (Value.ref _) (Value.int _ _)) _ _ _); walk_at "old item"))
  (k_with "my inplaceOp Add ref ref" => (k_here; (with_reducible show wpAny _ (Around.deeper _ (envOf (Str.ofString "_law_tape") _ _ _ _)) (inplaceOp Operator.Add (Value.ref _) (Value.ref _)) _ _ _); k_dflt (refine' iadd_own ?F_q80 ?N_q80 ?b_q80 ?U_q80 ?_ ?a_q80 ?z_q80; (case F_q80 => k_asm); (case N_q80 => k_asm); (case b_q80 => k_mem); (case U_q80 => walk_at "own upd"); (case a_q80 => first | omega | (simp only [List.length_append, List.length_cons, List.length_nil]; omega)); (case z_q80 => first | exact Nat.le_of_ble_eq_true rfl | (simp only [List.length_append, List.length_cons, List.length_nil]; omega)); k_whole); intro h_p F_p N_p; (try k_sweep)))
  (k_with "my binaryOp Add ref ref" => (k_here; (with_reducible show wpAny _ (Around.deeper _ (envOf (Str.ofString "_law_tape") _ _ _ _)) (binaryOp Operator.Add (Value.ref _) (Value.ref _)) _ _ _); k_dflt (refine' add_own (vs := [_, _]) ?F_q81 ?N_q81 ?l_q81 ?r_q81 ?a_q81 ?b_q81 ?_; (case F_q81 => k_asm); (case N_q81 => k_asm); (case l_q81 => exact News.isList (by k_asm) (by k_mem)); (case r_q81 => exact News.isList (by k_asm) (by k_mem)); (case a_q81 => exact Nat.le_of_ble_eq_true rfl); (case b_q81 => with_reducible assumption)); intro D_p h_p F_p N_p l1_r; (try k_lt l1_r); (try k_sweep)))
  (k_with "my call builtin:ord" => (k_here; with_reducible refine ord_sign ?_))
  (k_with "my pyIter ref" => ((with_reducible show wpAny _ (Around.deeper _ (envOf (Str.ofString "_law_due") _ _ _ _)) (pyIter (Value.ref _)) _ _ _); refine Stop.out ?_))
  (k_with "my exec For" => (k_here; (with_reducible show wpAny _ _ (exec (Stmt.For _ _ _ _ _) (envOf (Str.ofString "_law_due") _ _ _ _)) _ _ _); (rename Fr _ _ _ _ => lF_p); (with_unfolding_all refine' For_invVF lF_p ?g_q84 ?p_q84 ?_; (case g_q84 => exact rfl); (case p_q84 => exact rfl); k_whole)))
  (k_with "my call builtin:len" => (k_here; (with_reducible show wpAny _ (Around.deeper _ (envOf (Str.ofString "_law_due") _ _ _ _)) (call (Value.builtin "len") [Value.ref _]) _ _ _); k_dflt (refine' len_known ?l_q85 ?n_q85 ?z_q85 ?_; (case l_q85 => first | exact isList_old (by k_asm) (by assumption) | exact News.isList (by k_asm) (by k_mem)); (case n_q85 => assumption); (case z_q85 => omega)); intro _ _))
  (k_with "my subscriptTail" => (k_here; (with_reducible show wpAny _ (Around.deeper _ (envOf (Str.ofString "_law_due") _ _ _ _)) (subscriptTail _ _ (Value.ref _) (Value.int _ _)) _ _ _); walk_at "old item"))
  (k_with "my call ref" => (k_here; (with_reducible show wpAny _ (Around.deeper _ (envOf (Str.ofString "_law_due") _ _ _ _)) (call (Value.ref 240) _) _ _ _); (rename OrdIH _ _ _ _ _ _ _ _ => ihX_r); k_dflt (refine' PCon.use (ihX_r _) ?B_q ?F_q ?X_q ?N_q ?T_q ?hf_q ?hk_q ?hd_q ?hu_q ?hp_q87 ?_; (case hp_q87 => (rename TreeAt _ _ _ _ _ => tT_r; exact tT_r.keep (fun b o e => Fr.keep (by k_asm) b o e))); walk_at "con use"; intro r9_r tl9_r h9_r tk9_r S9_r F9_r N9_r D9_r O9_r; obtain ⟨d9_r, vs9_r, n9_r, e9_r, e9_p, hI9_r⟩ := O9_r; subst e9_r; subst e9_p; clear S9_r D9_r; (try simp only [List.cons_append, List.nil_append] at N9_r); (have hz9_r := IntsAre.length hI9_r); (rw [List.length_map] at hz9_r); (try dsimp only); (try k_fold))))
  (k_with "my UnrEnd" => ((with_reducible show UnrEnd _ _ _ _ _ (DueJ _ _ _ _) _); refine Stop.out ?_))
  (k_with "my UnrEnd" => ((with_reducible show UnrEnd _ _ _ _ _ (DueI _ _ _ _ _) _); refine Stop.out ?_))
  (k_with "my binaryOp Pow int int" => ((first | (with_reducible refine pow_p (by assumption) ?_) | (with_reducible refine pow_q (by assumption) ?_)); (try dsimp only)))
  (k_with "my binaryOp FloorDiv int int" => ((first | (with_reducible refine div_pq (.inl rfl) ?_) | (with_reducible refine div_pq (.inr rfl) ?_)); (try dsimp only)))
  (k_with "my con cells" => (refine' enter_cells ?k1_q95 ?k3_q95 ?k5_q95 ?k6_q95 ?k7_q95 ?k8_q95 ?k9_q95 ?kB_q95 ?kD_q95 ?_ ?c2_q95 ?c3_q95 ?c4_q95; (case k1_q95 => k_asm); (case k3_q95 => k_asm); (case k5_q95 => k_asm); (case k6_q95 => k_is); (case k7_q95 => k_is); (case k8_q95 => omega); (case k9_q95 => first | exact BindsTo.of_eq rfl | exact binds_K (by k_in) rfl (by k_is) rfl rfl rfl); (case kB_q95 => exact rfl); (case kD_q95 => decide +kernel); (case c2_q95 => exact rfl); (case c3_q95 => exact rfl); (case c4_q95 => exact rfl); k_whole; intro L_p h_p tk_p cells_p F_p N_p Y_p; k_cells Y_p; (try simp only [List.cons_append, List.nil_append] at N_p); (try dsimp only); (try k_fold)))
  (k_with "my con enter c" => (unfold PCon; intro p_r loose_r mean_r mg_r mb_r dp_r un_r gd_r env_r outer_r base_r s_r R_r B_r X_r T_r hd_r hu_r hpre_r hret_r; k_dflt (walk_at "con cells")))
  (k_with "my pyIter ref" => ((with_reducible show wpAny _ _ (pyIter (Value.ref _)) (fun it s₂ => TurnsAt _ _ _ _ _ _ _ _ _ it s₂) _ _); refine Stop.out ?_))
  (k_with "my exec For" => (k_here; (with_reducible show wpAny _ _ (exec (Stmt.For _ _ _ _ _) (envX (Str.ofString "_law_orders") _ _ _ _ _)) _ _ _); (rename Fr _ _ _ _ => lF_p); (with_unfolding_all refine' For_turns lF_p ?_; k_whole)))
  (k_with "my exec For" => (k_here; (with_reducible show wpAny _ _ (exec (Stmt.For _ _ _ _ _) (envOfC (Str.ofString "_law_orders") _ _ _ _)) _ _ _); (rename Fr _ _ _ _ => lF_p); (with_unfolding_all refine' For_turns lF_p ?_; k_whole)))
  (k_with "my call ref" => (k_here; (with_reducible show wpAny _ (Around.deeper _ (envOfC (Str.ofString "_law_orders") _ _ _ _)) (call (Value.ref 264) _) _ _ _); (rename OrdersIH _ _ => ihX_r); k_dflt (refine' OrdersIH.use ihX_r (IntsAre.ofCarried (by assumption)) (by assumption) ?B_q ?F_q ?X_q ?N_q ?T_q ?hf_q ?hk_q ?hd_q ?hu_q ?hp_q100 ?o1_q100 ?o2_q100 ?o3_q100 ?_; (case hp_q100 => assumption); walk_at "con use"; (case o1_q100 => assumption); (case o2_q100 => assumption); (case o3_q100 => assumption); intro d9_r as9_r vss9_r n9_r RL9_r h9_r tk9_r hl9_r hL9_r r1_r r2_r r3_r r4_r r5_r d1_r d2_r d3_r F9_r N9_r; (try k_sweep); (try k_fold))))
  (k_with "my exec For" => (k_here; (with_reducible show wpAny _ _ (exec (Stmt.For (Expr.Name (Str.ofString "order") _) _ _ _ _) (envOfC (Str.ofString "_law_orders") _ _ _ _)) _ _ _); (rename Fr _ _ _ _ => lF_p); (with_unfolding_all refine' For_invVF lF_p ?g_q101 ?p_q101 ?_; (case g_q101 => exact rfl); (case p_q101 => exact rfl); k_whole)))
  (k_with "my pyIter ref" => ((with_reducible show wpAny _ (Around.deeper _ (envOfC (Str.ofString "_law_orders") _ _ _ _)) (pyIter (Value.ref _)) (fun it s₂ => LoopAtV _ _ _ _ _ _ _ _ _ it s₂) _ _); refine Stop.out ?_))
  (k_with "my own off" => repeat (first | exact off_nil | assumption | refine off_cons (by (try dsimp only); first | k_ne | assumption | exact Ne.symm (by assumption)) ?_))
  (k_with "my own upd" => first | (refine' Upd.head ?a_q104; (case a_q104 => walk_at "own off"; done)) | (refine' Upd.tail ?a_q104 ?b_q104; (case a_q104 => first | k_ne | assumption | exact Ne.symm (by assumption)); (case b_q104 => walk_at "own upd")))
  (k_with "my binaryOp Add ref ref" => (k_here; (with_reducible show wpAny _ (Around.deeper _ (envOfC (Str.ofString "_law_orders") _ _ _ _)) (binaryOp Operator.Add (Value.ref _) (Value.ref _)) _ _ _); k_dflt (refine' add_own (vs := [_]) ?F_q105 ?N_q105 ?l_q105 ?r_q105 ?a_q105 ?b_q105 ?_; (case F_q105 => k_asm); (case N_q105 => k_asm); (case l_q105 => exact News.isList (by k_asm) (by k_mem)); (case r_q105 => exact News.isList (by k_asm) (by walk_at "own mem")); (case a_q105 => exact Nat.le_of_ble_eq_true rfl); (case b_q105 => assumption)); intro D_p h_p F_p N_p l1_r; (try k_lt l1_r); (try k_sweep)))
  (k_with "my call builtin:list.append" => (k_here; (with_reducible show wpAny _ (Around.deeper _ (envOfC (Str.ofString "_law_orders") _ _ _ _)) (call (Value.builtin _) [Value.ref _, _]) _ _ _); k_dflt (refine' append_K ?k1_q106 ?k2_q106 ?k3_q106 ?_ ?z_q106; (case k1_q106 => k_asm); (case k2_q106 => k_asm); (case k3_q106 => walk_at "own upd"); (case z_q106 => exact size_of_len (by assumption)); k_whole); intro h_p F_p N_p; (try k_sweep)))
  (k_with "my UnrEnd" => ((with_reducible show UnrEnd _ _ _ _ _ (fun m' n' => (_ : Addr × Obj) ∈ n' ∧ OrdI _ _ _ _ _ _ m' n') _); refine Stop.out ?_))
  (k_with "my UnrEnd" => ((with_reducible show UnrEnd _ _ _ _ _ (fun m' n' => OrdsJ _ _ _ _ _ m' n') _); refine Stop.out ?_))
  (k_with "my own updF" => first | (refine' UpdF.head ?a_q109; (case a_q109 => first | assumption | (walk_at "off all"; done))) | (refine' UpdF.tail ?a_q109 ?b_q109; (case a_q109 => first | k_ne | exact Ne.symm (by assumption)); (case b_q109 => walk_at "own updF")))
  (k_with "my storeName" => (k_here; (with_reducible show wpAny _ _ (storeName (envOfC (Str.ofString "_law_orders") _ _ _ _) (Str.ofString "one") _) _ _ _); k_dflt (refine' storeX_C ?F_q110 ?N_q110 ?c_q110 ?U_q110 ?d_q110 ?_ ?a_q110 ?b_q110; (case a_q110 => rfl); (case b_q110 => rfl); (case F_q110 => k_asm); (case N_q110 => k_asm); (case c_q110 => rfl); (case U_q110 => walk_at "own updF"); (case d_q110 => k_asm)); intro h_p o_p F_p N_p d_p; (try dsimp only at N_p)))
  (k_with "my compareOp Eq ref ref" => (k_here; (with_reducible show wpAny _ (Around.deeper _ (envOfC (Str.ofString "_law_orders") _ _ _ _)) (compareOp CmpOp.Eq (Value.ref _) (Value.ref _)) _ _ _); k_dflt (refine' eq_intsK ?k1_q111 ?k2_q111 ?k3_q111 ?k4_q111 ?k5_q111 ?_; (case k1_q111 => exact isList_old (by k_asm) (by assumption)); (case k2_q111 => first | assumption | exact .nil); (case k3_q111 => exact News.isList (by k_asm) (by k_mem)); (case k4_q111 => exact .nil); (case k5_q111 => walk_at "con room"))))
  (k_with "my con hid" => (unfold HCon; intro p_r loose_r mean_r mg_r mb_r dp_r un_r gd_r env_r outer_r base_r s_r R_r g_r hg_r B_r X_r T_r hh_r hd_r hu_r hpre_r hret_r; k_dflt (refine' enter_hid hg_r ?k1_q112 ?k3_q112 ?k5_q112 hh_r ?k6_q112 ?k7_q112 ?k8_q112 ?k9_q112 ?kB_q112 ?_ ?c2_q112 ?c3_q112 ?c4_q112 ?c5_q112; (case k1_q112 => k_asm); (case k3_q112 => k_asm); (case k5_q112 => k_asm); (case k6_q112 => k_is); (case k7_q112 => k_is); (case k8_q112 => omega); (case k9_q112 => first | exact BindsTo.of_eq rfl | exact binds_K (by k_in) rfl (by k_is) rfl rfl rfl); (case c5_q112 => decide); (case kB_q112 => exact locs rfl); (case c2_q112 => exact rfl); (case c3_q112 => exact rfl); (case c4_q112 => exact rfl); k_whole; intro L_p h_p F_p N_p l1_r; (try k_lt l1_r); (try dsimp only); (try k_fold))))
  (k_with "my con law" => (k_dflt (refine' enter_law ?kg_q113 ?k3_q113 ?k5_q113 ?kh_q113 ?k6_q113 ?k7_q113 ?k9_q113 ?kB_q113 ?kD_q113 ?_ ?c2_q113 ?c3_q113 ?c4_q113; (case kg_q113 => k_asm); (case k3_q113 => k_asm); (case k5_q113 => k_asm); (case kh_q113 => k_asm); (case k6_q113 => k_is); (case k7_q113 => k_is); (case k9_q113 => first | exact BindsTo.of_eq rfl | exact binds_K (by k_in) rfl (by k_is) rfl rfl rfl); (case kB_q113 => exact rfl); (case kD_q113 => decide +kernel); (case c2_q113 => exact rfl); (case c3_q113 => exact rfl); (case c4_q113 => exact rfl); k_whole; intro L_p h_p tk_p cells_p F_p N_p Y_p B_p l1_r; k_lt l1_r; k_cells Y_p; (try simp only [List.cons_append, List.nil_append] at N_p); (try dsimp only); (try k_fold))))
  (k_with "my setAttr ref" => (k_here; (with_reducible show wpAny _ (Around.deeper _ (envOfC (Str.ofString "_law_stream") _ _ _ _)) (setAttr (Value.ref _) (Str.ofString "read") _) _ _ _); k_dflt (refine' fnset_N ?F_q114 ?N_q114 ?U_q114 fn_no_read ?_; (case F_q114 => k_asm); (case N_q114 => k_asm); (case U_q114 => k_updF)); intro D_p od_p h_p tk_p F_p N_p hd_p l1_r; (try dsimp only at N_p); (try k_lt l1_r)))
  (k_with "my con hidc" => (unfold HCon; intro p_r loose_r mean_r mg_r mb_r dp_r un_r gd_r env_r outer_r base_r s_r R_r g_r hg_r B_r X_r T_r hh_r hd_r hu_r hpre_r hret_r; k_dflt (refine' enter_hidC hg_r ?k1_q115 ?k3_q115 ?k5_q115 hh_r ?k6_q115 ?k7_q115 ?k8_q115 ?k9_q115 ?kB_q115 ?kD_q115 ?_ ?c2_q115 ?c3_q115 ?c4_q115; (case k1_q115 => k_asm); (case k3_q115 => k_asm); (case k5_q115 => k_asm); (case k6_q115 => k_is); (case k7_q115 => k_is); (case k8_q115 => omega); (case k9_q115 => first | exact BindsTo.of_eq rfl | exact binds_K (by k_in) rfl (by k_is) rfl rfl rfl); (case kB_q115 => exact rfl); (case kD_q115 => decide +kernel); (case c2_q115 => exact rfl); (case c3_q115 => exact rfl); (case c4_q115 => exact rfl); k_whole; intro L_p h_p tk_p cells_p F_p N_p Y_p l1_r; k_lt l1_r; k_cells Y_p; (try simp only [List.cons_append, List.nil_append] at N_p); (try dsimp only); (try k_fold))))
  (k_with "my con clo" => (unfold HCon; intro p_r loose_r mean_r mg_r mb_r dp_r un_r gd_r env_r outer_r base_r s_r R_r g_r hg_r B_r X_r T_r hh_r hd_r hu_r hpre_r hret_r; k_dflt (refine' enter_clo hg_r ?k1_q116 ?k5_q116 hh_r ?k6_q116 ?k7_q116 ?k8_q116 ?k8' ?k9_q116 ?k10_q116 ?kB_q116 ?_ ?c2_q116 ?c3_q116 ?c4_q116 ?c5_q116; (case k1_q116 => k_asm); (case k5_q116 => k_asm); (case k6_q116 => k_mem); (case k7_q116 => k_mem); (case k8_q116 => k_asm); (case k8' => k_asm); (case k9_q116 => omega); (case k10_q116 => exact BindsTo.of_eq rfl); (case c5_q116 => decide); (case kB_q116 => exact locs rfl); (case c2_q116 => exact rfl); (case c3_q116 => exact rfl); (case c4_q116 => exact rfl); k_whole; intro L_p h_p F_p N_p l1_r; (try k_lt l1_r); (try dsimp only); (try k_fold))))
  (k_with "my getMethod ref" => (k_here; (with_reducible show wpAny _ _ (getMethod (Value.ref _) (Str.ofString "read") _) _ _ _); k_dflt (refine' read_K ?N_q117 ?a_q117 ?b_q117 ?c_q117 ?d_q117 ?_; (case N_q117 => k_asm); (case a_q117 => walk_at "own mem"); (case b_q117 => walk_at "own mem"); (case c_q117 => assumption); (case d_q117 => assumption)); intro _; (try dsimp only)))
  (k_with "my callWith ref" => (k_here; k_dflt (first | (refine' callWith_F ?k1_q118 ?_; (case k1_q118 => exact FnAt.of (by k_asm) (by assumption)); k_whole) | (refine' callWith_F0 ?k1_q118 ?_; (case k1_q118 => exact FnAt.of (by k_asm) (by assumption)); k_whole; try dsimp only [List.nil_append, List.cons_append]))))
  (k_with "my FnAt" => (k_dflt (exact FnAt.of (by k_asm) (by assumption))))
  (k_with "my hid use" => ((case B_q => k_asm); (case F_q => k_asm); (case X_q => k_asm); (case N_q => k_asm); (case T_q => k_asm); (case hf_q => exact rfl); (case hk_q => exact rfl); (case hd_q => walk_at "con room"); (case hu_q => walk_at "con room")))
  trivial
section
theorem words_28_4 : True := by
  (k_with "my call ref" => (k_here; (rename ReadAt _ _ _ _ _ _ => hR_r); k_dflt (refine' HCon.use (rest := []) (hR_r _ _ ?p1_q122 ?p2_q122) ?B_q ?F_q ?X_q ?N_q ?T_q ?hf_q ?hk_q ?hd_q ?hu_q ?hs_q122 ?hr_q122 ?hp_q122 ?_; (case hs_q122 => exact fun q h => h); (case hr_q122 => exact fun q h => nomatch h); (case hp_q122 => exact fun _ _ _ => True.intro); (case p1_q122 => omega); (case p2_q122 => first | omega | decide); walk_at "hid use"; intro r9_r tl9_r h9_r tk9_r F9_r N9_r D9_r O9_r; obtain ⟨b9_r, tb9_r, e9_r, hb9_r, hS9_r⟩ := O9_r; subst e9_r; clear D9_r; simp only [List.append_nil] at N9_r; (try dsimp only); (try k_fold))))
  (k_with "my call ref" => (k_here; (with_reducible show wpAny _ _ (call (Value.ref 165) _) _ _ _); (rename Strm _ _ _ _ => hSt_r); (rename HCon _ _ _ _ _ _ _ => hC_r); k_dflt (refine' HCon.use (rest := []) hC_r ?B_q ?F_q ?X_q ?N_q ?T_q ?hf_q ?hk_q ?hd_q ?hu_q ?hs_q123 ?hr_q123 ?hp_q123 ?_; (case hs_q123 => exact fun q h => h); (case hr_q123 => exact fun q h => nomatch h); (case hp_q123 => exact fun _ _ _ => True.intro); walk_at "hid use"; intro r9_r tl9_r h9_r tk9_r F9_r N9_r D9_r O9_r; obtain ⟨t9_r, e9_r, hS9_r⟩ := O9_r; subst e9_r; clear D9_r; simp only [List.append_nil] at N9_r; (obtain ⟨fd9_r, osl9_r, D9_r, od9_r, fr9_r, mm9_r, fd29_r, osl29_r, m09_r, m19_r, m29_r, hns9_r, hmm9_r, hread9_r⟩ := Strm.at hSt_r hS9_r); (try dsimp only); (try k_fold))))
  (k_with "my call builtin:bytes.decode" => (k_here; (refine decode_name (by assumption) (Eq.trans (by assumption) (by assumption)) ?_); intro _ _))
  (k_with "my ite" => (refine ite_pos (beq_iff_eq.mpr (by omega)) ?_))
  trivial
theorem c_s1 (w : World) (SAt : Nat → Led → Prop) (st : Addr) (ks : List Int) (S : Strm w SAt st ks) (pos : Nat) (tl : Led) (hS : SAt pos tl) (x : PySem.Str) (rest : List Int) (hkl : ks.length ≤ 1000)
    (hn : x = Str.ofString "a" ∨ x = Str.ofString "..." ∨ x = Str.ofString "a-" ∨ x = Str.ofString "b." ∨ x = Str.ofString "-")
    (hx : ks.drop pos = (x.length : Int) :: (x.cps.toList.map (fun c : Nat => (c : Int)) ++ rest)) :
    HCon w 172 16 [Value.ref st] tl (fun _ => True) (fun _ r tl' => ∃ t, r = .str x t ∧ SAt (pos + 1 + x.length) tl') := by
  have hC := c_u1 w SAt st ks S pos tl hS _ _ hx hkl
  have hl3 : x.length ≤ 3 := by rcases hn with rfl | rfl | rfl | rfl | rfl <;> decide +kernel
  have hcl : (x.cps.toList.map (fun c : Nat => (c : Int))).length = x.length := by rw [List.length_map, Array.length_toList]; rfl
  have hlen : pos + 1 + x.length + rest.length = ks.length := by
    have := congrArg List.length hx
    rw [List.length_drop, List.length_cons, List.length_append, hcl] at this
    omega
  have hd1 : ks.drop (pos + 1) = x.cps.toList.map (fun c : Nat => (c : Int)) ++ rest := by
    rw [← List.drop_drop, hx]; rfl
  have htk : (ks.drop (pos + 1)).take x.length = x.cps.toList.map (fun c : Nat => (c : Int)) := by
    rw [hd1, List.take_append_of_le_length (by omega), List.take_of_length_le (by omega)]
  walk_at "con hid"
  k_steps
  walk_at "con end"
  rename HRet _ _ _ _ => hret
  rename Fr _ _ _ _ => lF
  rename News _ _ _ _ => lN
  rename SAt _ _ => hS9
  have e2 : (List.take x.length (List.drop (pos + 1) ks)).length = x.length := by rw [htk, hcl]
  rw [e2] at hS9
  exact hret_l hret lF lN ⟨_, rfl, hS9⟩
end
theorem words_28_5 : True := by
  k_with_none
  (k_with "my con args" => ((rename Fr _ _ _ _ => F1_r); with_unfolding_all (first | change Fr _ _ _ (fun y => List.lookup y [(Str.ofString _, _)]) at F1_r | change Fr _ _ _ (fun y => List.lookup y [(Str.ofString _, _), (Str.ofString _, _)]) at F1_r | change Fr _ _ _ (fun y => List.lookup y [(Str.ofString _, _), (Str.ofString _, _), (Str.ofString _, _)]) at F1_r)))
  (k_with "my execs cons" => k_fold)
  (k_with "my exec If" => k_fold)
  (k_with "my con def" => (refine' enter_def ?k1_q4 ?k3_q4 ?k5_q4 ?k6_q4 ?k7_q4 ?k8_q4 ?k9_q4 ?kB_q4 ?_ ?c2_q4 ?c3_q4 ?c4_q4 ?c5_q4; (case k1_q4 => k_asm); (case k3_q4 => k_asm); (case k5_q4 => k_asm); (case k6_q4 => k_is); (case k7_q4 => k_is); (case k8_q4 => omega); (case k9_q4 => first | exact BindsTo.of_eq rfl | exact binds_K (by k_in) rfl (by k_is) rfl rfl rfl); (case c5_q4 => decide); (case kB_q4 => exact locs rfl); (case c2_q4 => exact rfl); (case c3_q4 => exact rfl); (case c4_q4 => exact rfl); k_whole; intro L_p h_p F_p N_p; (try dsimp only); (try walk_at "con args"); (try k_fold)))
  (k_with "my con rest" => (refine' enter_rest ?k1_q5 ?k3_q5 ?k5_q5 ?k6_q5 ?k7_q5 ?k8_q5 ?k9_q5 ?kz_q5 ?kB_q5 ?_ ?c2_q5 ?c3_q5 ?c4_q5 ?c5_q5; (case k1_q5 => k_asm); (case k3_q5 => k_asm); (case k5_q5 => k_asm); (case k6_q5 => k_is); (case k7_q5 => k_is); (case k8_q5 => omega); (case k9_q5 => exact rfl); (case kz_q5 => exact Nat.le_of_ble_eq_true rfl); (case c5_q5 => decide); (case kB_q5 => exact fun _ => locs rfl); (case c2_q5 => exact rfl); (case c3_q5 => exact rfl); (case c4_q5 => exact rfl); k_whole; intro D_p L_p h_p F_p N_p; (try dsimp only); (try walk_at "con args"); (try k_fold)))
  (k_with "my con enter" => (unfold PCon; intro p_r loose_r mean_r mg_r mb_r dp_r un_r gd_r env_r outer_r base_r s_r R_r B_r X_r T_r hd_r hu_r hpre_r hret_r; k_dflt (first | walk_at "con def" | walk_at "con rest")))
  (k_with "my con end" => (repeat (first | (k_unfold; (try dsimp only)) | dsimp only)))
  (k_with "my con v" => (walk_at "con end"; (rename PRet _ _ _ => hret_r); first | exact pret_v (V := fun t => Value.str _ t) hret_r (by k_asm) | exact pret_v (V := fun t => Value.int _ t) hret_r (by k_asm) | exact pret_v (V := fun _ => Value.bool _) hret_r (by k_asm)))
  (k_with "my con room" => first | omega | (dsimp only [topA, ktrTop, Around.deeper] at *; omega) | ktr_room | (simp only [depth_deeper, depth_caller, units_deeper, units_caller] at *; omega))
  (k_with "my con use" => ((case B_q => k_asm); (case F_q => k_asm); (case X_q => k_asm); (case N_q => k_asm); (case T_q => k_asm); (case hf_q => exact rfl); (case hk_q => exact rfl); (case hd_q => walk_at "con room"); (case hu_q => walk_at "con room")))
  (k_with "my con use v" => ((case hp_q => exact True.intro); walk_at "con use"; intro t9_r h9_r tk9_r F9_r N9_r; (try k_sweep); (try k_fold)))
  (k_with "my call builtin:issubclass" => (k_here; k_dflt (refine' iss_call ?h_q12 ?_; (case h_q12 => exact News.get (by k_asm) (by k_mem)); k_whole)))
  (k_with "my call ref" => (k_here; (with_reducible show wpAny _ _ (call (Value.ref 94) _) _ _ _); k_dflt (refine' PCon.useV (c_fspath _ _ _) ?B_q ?F_q ?X_q ?N_q ?T_q ?hf_q ?hk_q ?hd_q ?hu_q ?hp_q ?_; walk_at "con use v")))
  (k_with "my call ref" => (k_here; (with_reducible show wpAny _ _ (call (Value.ref 115) _) _ _ _); k_dflt (refine' PCon.useV (c_getsep _ _ _) ?B_q ?F_q ?X_q ?N_q ?T_q ?hf_q ?hk_q ?hd_q ?hu_q ?hp_q ?_; walk_at "con use v")))
  (k_with "my truthy str" => (k_here; (with_reducible show wpAny _ _ (PySem.truthy (Value.str _ _)) _ _ _); refine' truthy_ne ?a_q15 ?b_q15 ?_; (case a_q15 => assumption); (case b_q15 => omega); intro _))
  (k_with "my call ref" => (k_here; (with_reducible show wpAny _ _ (call (Value.ref 136) _) _ _ _); k_dflt (refine' PCon.useV (c_dirname _ _ _ (by omega)) ?B_q ?F_q ?X_q ?N_q ?T_q ?hf_q ?hk_q ?hd_q ?hu_q ?hp_q ?_; walk_at "con use v")))
  (k_with "my call ref" => (k_here; (with_reducible show wpAny _ _ (call (Value.ref 122) _) _ _ _); k_dflt (refine' PCon.useV (c_join _ _ _ _ _ (by omega) (by omega)) ?B_q ?F_q ?X_q ?N_q ?T_q ?hf_q ?hk_q ?hd_q ?hu_q ?hp_q ?_; walk_at "con use v")))
  (k_with "my call ref" => (k_here; (with_reducible show wpAny _ _ (call (Value.ref 129) _) _ _ _); k_dflt (refine' PCon.use (c_splitroot _ _ _ (by omega) (by assumption) (by assumption)) ?B_q ?F_q ?X_q ?N_q ?T_q ?hf_q ?hk_q ?hd_q ?hu_q ?hp_q18 ?_; (case hp_q18 => exact True.intro); walk_at "con use"; intro r9_r tl9_r h9_r tk9_r S9_r F9_r N9_r D9_r O9_r; obtain ⟨a9_r, t9_r, t9_p, t9'_p, e9_r, e9_p⟩ := O9_r; subst e9_r; subst e9_p; clear D9_r S9_r; (try simp only [List.cons_append, List.nil_append] at N9_r); (try dsimp only); (try k_fold))))
  (k_with "my call builtin:str.join" => (k_here; (with_reducible show wpAny _ _ (call (Value.builtin _) [Value.str _ _, Value.ref _]) _ _ _); k_dflt (refine' join_listW (News.isList (by k_asm) (by k_mem)) (by assumption) (by decide +kernel) (by assumption) ?_); intro _ _))
  (k_with "my call ref" => (k_here; (with_reducible show wpAny _ _ (call (Value.ref 143) _) _ _ _); k_dflt (refine' PCon.useV (c_normpath _ _ _ _ (by omega) (by assumption) (by assumption) (by assumption) (by assumption) (by assumption) (by assumption) (by assumption)) ?B_q ?F_q ?X_q ?N_q ?T_q ?hf_q ?hk_q ?hd_q ?hu_q ?hp_q ?_; walk_at "con use v")))
  (k_with "my call ref" => (k_here; (with_reducible show wpAny _ _ (call (Value.ref 150) _) _ _ _); k_dflt (refine' PCon.useV (c_abs _ _ _ _ _ (by assumption)) ?B_q ?F_q ?X_q ?N_q ?T_q ?hf_q ?hk_q ?hd_q ?hu_q ?hp_q ?_; walk_at "con use v")))
  (k_with "my call builtin:min" => (k_here; (with_reducible show wpAny _ _ (call (Value.builtin _) [Value.ref _]) _ _ _); k_dflt (refine' min_K ?F_q22 ?N_q22 ?l_q22 ?a_q22 ?b_q22 ?x_q22 ?y_q22 ?e_q22 ?h_q22 ?u_q22 ?_; (case F_q22 => k_asm); (case N_q22 => k_asm); (case l_q22 => assumption); (case a_q22 => assumption); (case b_q22 => assumption); (case x_q22 => assumption); (case y_q22 => assumption); (case e_q22 => assumption); (case h_q22 => rfl); (case u_q22 => walk_at "con room")); intro h_p tk_p F_p N_p))
  (k_with "my call builtin:max" => (k_here; (with_reducible show wpAny _ _ (call (Value.builtin _) [Value.ref _]) _ _ _); k_dflt (refine' max_K ?F_q23 ?N_q23 ?l_q23 ?a_q23 ?b_q23 ?x_q23 ?y_q23 ?e_q23 ?h_q23 ?u_q23 ?_; (case F_q23 => k_asm); (case N_q23 => k_asm); (case l_q23 => assumption); (case a_q23 => assumption); (case b_q23 => assumption); (case x_q23 => assumption); (case y_q23 => assumption); (case e_q23 => assumption); (case h_q23 => rfl); (case u_q23 => walk_at "con room")); intro h_p tk_p F_p N_p))
  (k_with "my EnumPost" => (dsimp only [EnumPost]))
  (k_with "my call builtin:isinstance" => (k_here; (with_reducible show wpAny _ _ (call _ [Value.ref _, Value.ref _]) _ _ _); k_dflt (refine' kia_tup kitx_list ?X_q25 ?H_q25 ?t_q25 ?e_q25 ?x_q25 ?_; (case X_q25 => k_in); (case H_q25 => exact kitAt_old (by k_asm) (by assumption)); (case t_q25 => exact News.get (by k_asm) (by k_mem)); (case e_q25 => exact rfl); (case x_q25 => intro e_r; cases e_r); k_whole; intro _)))
  (k_with "my exec For Tuple Call cons nil" => (k_here; (with_reducible show wpAny _ _ (exec _ (envOf (Str.ofString "commonprefix") _ _ _ _)) _ _ _); (rename Fr _ _ _ _ => lF_p); (with_unfolding_all refine' For_turns lF_p ?_; k_whole)))
  (k_with "my call type:enumerate" => ((with_reducible show wpAny _ (Around.deeper _ (envOf (Str.ofString "commonprefix") _ _ _ _)) (call _ _) _ _ _); refine Stop.out ?_))
  (k_with "my call ref" => (k_here; (with_reducible show wpAny _ _ (call (Value.ref 101) _) _ _ _); k_dflt (refine' PCon.use (c_cpref' _ _ _ _ _ _ _ _ _ _ _ (by assumption) (by assumption) (by assumption) (by assumption) (by assumption) (by omega) (by omega)) ?B_q ?F_q ?X_q ?N_q ?T_q ?hf_q ?hk_q ?hd_q ?hu_q ?hp_q28 ?_; (case hp_q28 => exact ⟨News.isList (by k_asm) (by k_mem), News.isList (by k_asm) (by k_mem), News.isList (by k_asm) (by k_mem)⟩); walk_at "con use"; intro r9_r tl9_r h9_r tk9_r S9_r F9_r N9_r D9_r O9_r; obtain ⟨e9_r, c9_r, cs9_r, e9_p, l9_r, n9_r⟩ := O9_r; subst e9_r; subst e9_p; clear D9_r S9_r; (try simp only [List.nil_append] at N9_r); (try dsimp only); (try k_fold))))
  (k_with "my own list" => first | assumption | exact News.isList (by k_asm) (by k_mem) | exact isList_old (by k_asm) (by assumption))
  (k_with "my own size" => first | omega | assumption | (rw [List.length_drop, strValues_len (by assumption) (by assumption)]; omega) | (rw [strValues_len (by assumption) (by assumption)]; omega) | (rw [List.length_replicate]; omega) | exact rel_ne (by assumption) (by assumption) (by omega) | exact rel_le (by assumption) (by assumption) (by omega) (by omega))
  (k_with "my call builtin:len" => (k_here; (with_reducible show wpAny _ _ (call (Value.builtin "len") [Value.ref _]) _ _ _); k_dflt (refine' len_known ?l_q31 ?n_q31 ?z_q31 ?_; (case l_q31 => assumption); (case n_q31 => assumption); (case z_q31 => omega)); intro _ _))
  (k_with "my call builtin:len" => (k_here; (with_reducible show wpAny _ _ (call (Value.builtin "len") [Value.ref _]) _ _ _); k_dflt (refine' len_known ?l_q32 ?n_q32 ?z_q32 ?_; (case l_q32 => exact News.isList (by k_asm) (by k_mem)); (case n_q32 => exact strValues_len (by assumption) (by assumption)); (case z_q32 => omega)); intro _ _))
  (k_with "my binaryOp Mult ref int" => (k_here; (with_reducible show wpAny _ (Around.deeper _ (envOf (Str.ofString "relpath") _ _ _ _)) (binaryOp Operator.Mult (Value.ref _) (Value.int _ _)) _ _ _); k_dflt (refine' mul_own ?F_q33 ?N_q33 ?l_q33 ?a_q33 ?b_q33 ?_; (case F_q33 => k_asm); (case N_q33 => k_asm); (case l_q33 => walk_at "own list"); (case a_q33 => omega); (case b_q33 => omega)); intro D_p h_p F_p N_p l1_r; (try k_lt l1_r); (try k_sweep)))
  (k_with "my binaryOp Add ref ref" => (k_here; (with_reducible show wpAny _ (Around.deeper _ (envOf (Str.ofString "relpath") _ _ _ _)) (binaryOp Operator.Add (Value.ref _) (Value.ref _)) _ _ _); k_dflt (refine' add_own ?F_q34 ?N_q34 ?l_q34 ?r_q34 ?a_q34 ?b_q34 ?_; (case F_q34 => k_asm); (case N_q34 => k_asm); (case l_q34 => walk_at "own list"); (case r_q34 => walk_at "own list"); (case a_q34 => walk_at "own size"); (case b_q34 => walk_at "own size")); intro D_p h_p F_p N_p l1_r; (try k_lt l1_r); (try k_sweep)))
  (k_with "my subscriptTail Name Slice ref ref" => (k_here; (with_reducible show wpAny _ (Around.deeper _ (envOf (Str.ofString "relpath") _ _ _ _)) (subscriptTail _ (PySem.Expr.Slice _ _ none _) (Value.ref _) (Value.ref _)) _ _ _); k_dflt (refine' kms_slice_lit ?F_q35 ?N_q35 ?l_q35 ?p_q35 ?q_q35 ?e_q35 ?_ ?s_q35 ?t_q35 ?z_q35; (case F_q35 => k_asm); (case N_q35 => k_asm); (case l_q35 => walk_at "own list"); (case p_q35 => kmk_part); (case q_q35 => kmk_part); (case e_q35 => exact pick_from _); (case s_q35 => with_unfolding_all rfl); (case t_q35 => kmk_pure); (case z_q35 => (rw [List.size_toArray, strValues_len (by assumption) (by assumption)]; unfold sizeLine; omega))); intro D_p h_p F_p N_p l1_r; (try k_lt l1_r); (try k_sweep)))
  (k_with "my truthy ref" => (k_here; (with_reducible show wpAny _ (Around.deeper _ (envOf (Str.ofString "relpath") _ _ _ _)) (PySem.truthy (Value.ref _)) _ _ _); refine' truthy_long ?l_q36 ?a_q36 ?b_q36 ?_; (case l_q36 => walk_at "own list"); (case a_q36 => walk_at "own size"); (case b_q36 => walk_at "own size"); intro _))
  (k_with "my call builtin:str.join" => (k_here; (with_reducible show wpAny _ (Around.deeper _ (envOf (Str.ofString "relpath") _ _ _ _)) (call (Value.builtin _) [Value.str _ _, Value.ref _]) _ _ _); k_dflt (refine' join_listW (News.isList (by k_asm) (by k_mem)) (rel_strs (by assumption) (by assumption)) (by decide +kernel) (by assumption) ?_); intro _ _))
  (k_with "my call ref" => (k_here; (with_reducible show wpAny _ _ (call (Value.ref 158) _) _ _ _); k_dflt (refine' PCon.useV (c_rel _ _ _ _ _ _ _ _ _ _ _ (by assumption)) ?B_q ?F_q ?X_q ?N_q ?T_q ?hf_q ?hk_q ?hd_q ?hu_q ?hp_q ?_; walk_at "con use v")))
  (k_with "my costs" => first | assumption | ((rename TabAt _ _ _ _ _ => tAb_r); exact tAb_r.ofFr (by k_asm)))
  (k_with "my subscriptTail" => ((with_reducible show wpAny _ (Around.deeper _ (envOf (Str.ofString "_law_cost") _ _ _ _)) (subscriptTail _ _ (Value.ref _) (Value.str _ _)) _ _ _); refine' kdp_item ?a_q40 ?b_q40 ?_; (case a_q40 => walk_at "costs"); (case b_q40 => assumption); intro _))
  (k_with "my call builtin:dict.get" => ((with_reducible show wpAny _ (Around.deeper _ (envOf (Str.ofString "_law_cost") _ _ _ _)) _ _ _ _); refine' kdp_get2 ?a_q41 ?_; (case a_q41 => walk_at "costs"); intro _))
  (k_with "my call ref" => (k_here; (with_reducible show wpAny _ _ (call (Value.ref 259) _) _ _ _); refine Stop.out ?_))
  (k_with "my EnTPost" => (dsimp only [EnTPost]))
  (k_with "my TupRest" => first | ((with_unfolding_all refine TupRest.succ (fun it' h' tk' hc' F' N' => ?_)); (try dsimp only); (try k_fold)) | ((with_unfolding_all refine TupRest.zero (fun h' tk' F' N' => ?_)); (try dsimp only); (try k_fold)))
  (k_with "my exec For Tuple Call cons nil" => (k_here; (with_reducible show wpAny _ _ (exec _ (envOf (Str.ofString "filemode") _ _ _ _)) _ _ _); (rename Fr _ _ _ _ => lF_p); (with_unfolding_all refine' For_turns lF_p ?_; k_whole)))
  (k_with "my call type:enumerate" => ((with_reducible show wpAny _ (Around.deeper _ (envOf (Str.ofString "filemode") _ _ _ _)) (call _ _) _ _ _); refine Stop.out ?_))
  (k_with "my exec For" => (k_here; (with_reducible show wpAny _ _ (exec (Stmt.For _ (Expr.Name _ _) _ (_ :: _) _) (envOf (Str.ofString "filemode") _ _ _ _)) _ _ _); (rename Fr _ _ _ _ => lF_p); (with_unfolding_all refine' For_else lF_p ?_; k_whole)))
  (k_with "my pyIter ref" => ((with_reducible show wpAny _ (Around.deeper _ (envOf (Str.ofString "filemode") _ _ _ _)) (pyIter (Value.ref _)) _ _ _); refine Stop.out ?_))
  (k_with "my off all" => repeat (first | exact off_nil | refine off_cons (by (try dsimp only); k_ne) ?_))
  (k_with "my UnrEnd" => ((with_reducible show UnrEnd _ _ _ _ _ (TupRest _ _ _ _ _ _ _ _ _ _ _ _ _) _); refine UnrEnd.here (by k_asm) (by k_asm) (by walk_at "off all") ?_))
  (k_with "my fm pick" => first | rfl | exact fmPick_pos (by assumption) | exact fmPick0_pos (by assumption) | (refine fmPick_neg (by assumption) ?_; walk_at "fm pick") | (refine fmPick0_neg (by assumption) ?_; walk_at "fm pick"))
  (k_with "my fm end" => ((rename Fr _ _ _ _ => lF_r); (rename News _ _ _ _ => lN_r); (first | refine EnT.here lF_r lN_r (by exact rfl) ?_ | refine EnT.here1 lF_r lN_r (by exact rfl) ?_); (refine fm_fin (by assumption) (by assumption) rfl (by walk_at "fm pick") ⟨(fun _ h => nomatch h), fun z z1 _ z3_r => ?_⟩; (simp only [List.contains_cons, List.contains_nil, Bool.or_false, Bool.or_eq_false_iff, beq_eq_false_iff_ne, ne_eq] at z3_r); (obtain ⟨z3_r, z4_r, z5_r⟩ := z3_r); simp [z1, z3_r, z4_r, z5_r])))
  (k_with "my call ref" => (k_here; (with_reducible show wpAny _ _ (call (Value.ref 179) _) _ _ _); k_dflt (refine' PCon.useV (c_sifmt _ _ _ (by assumption) (by assumption)) ?B_q ?F_q ?X_q ?N_q ?T_q ?hf_q ?hk_q ?hd_q ?hu_q ?hp_q ?_; walk_at "con use v")))
  (k_with "my own mem" => first | k_mem | (repeat (first | assumption | refine List.mem_cons_of_mem _ ?_)))
  (k_with "my own item" => first | (refine' item_listL ?l_q56 ?a_q56 ?b_q56 ?c_q56 ?_; (case l_q56 => exact News.isList (by k_asm) (by walk_at "own mem")); (case a_q56 => omega); (case b_q56 => omega); (case c_q56 => (first | assumption | rfl))) | (refine' item_tupleL ?l_q56 ?a_q56 ?b_q56 ?c_q56 ?d_q56 ?_; (case l_q56 => exact ⟨_, News.get (by k_asm) (by walk_at "own mem"), rfl, _, rfl⟩); (case a_q56 => decide); (case b_q56 => decide); (case c_q56 => rfl); (case d_q56 => rfl)))
  (k_with "my subscriptTail" => (k_here; (with_reducible show wpAny _ (Around.deeper _ (envOf (Str.ofString "_law_tree") _ _ _ _)) (subscriptTail _ _ (Value.ref _) (Value.int _ _)) _ _ _); walk_at "own item"))
  (k_with "my call builtin:len" => (k_here; (with_reducible show wpAny _ (Around.deeper _ (envOf (Str.ofString "_law_tree") _ _ _ _)) (call (Value.builtin "len") [Value.ref _]) _ _ _); k_dflt (refine' len_known ?l_q58 ?n_q58 ?z_q58 ?_; (case l_q58 => exact News.isList (by k_asm) (by walk_at "own mem")); (case n_q58 => assumption); (case z_q58 => omega)); intro _ _))
  (k_with "my own upd" => first | (refine' Upd.head ?a_q59; (case a_q59 => first | assumption | (walk_at "off all"; done))) | (refine' Upd.tail ?a_q59 ?b_q59; (case a_q59 => k_ne); (case b_q59 => walk_at "own upd")))
  (k_with "my call builtin:list.append" => (k_here; (with_reducible show wpAny _ (Around.deeper _ (envOf (Str.ofString "_law_tree") _ _ _ _)) (call (Value.builtin _) [Value.ref _, _]) _ _ _); k_dflt (refine' append_K ?k1_q60 ?k2_q60 ?k3_q60 ?_ ?z_q60; (case k1_q60 => k_asm); (case k2_q60 => k_asm); (case k3_q60 => walk_at "own upd"); (case z_q60 => exact size_of_len (by assumption)); k_whole); intro h_p F_p N_p; (try k_sweep)))
  (k_with "my pyIter ref" => ((with_reducible show wpAny _ (Around.deeper _ (envOf (Str.ofString "_law_tree") _ _ _ _)) (pyIter (Value.ref _)) _ _ _); refine Stop.out ?_))
  (k_with "my call ref" => (k_here; (with_reducible show wpAny _ _ (call (Value.ref 233) _) _ _ _); refine Stop.out ?_))
  (k_with "my binaryOp Add ref ref" => (k_here; (with_reducible show wpAny _ (Around.deeper _ (envOf (Str.ofString "_law_order") _ _ _ _)) (binaryOp Operator.Add (Value.ref _) (Value.ref _)) _ _ _); k_dflt (refine' add_own (vs := [_]) ?F_q66 ?N_q66 ?l_q66 ?r_q66 ?a_q66 ?b_q66 ?_; (case F_q66 => k_asm); (case N_q66 => k_asm); (case l_q66 => exact News.isList (by k_asm) (by k_mem)); (case r_q66 => exact News.isList (by k_asm) (by k_mem)); (case a_q66 => exact Nat.le_of_ble_eq_true rfl); (case b_q66 => omega)); intro D_p h_p F_p N_p l1_r; (try k_lt l1_r); (try k_sweep)))
  (k_with "my own upd" => first | (refine' Upd.head ?a_q67; (case a_q67 => first | assumption | (walk_at "off all"; done))) | (refine' Upd.tail ?a_q67 ?b_q67; (case a_q67 => first | k_ne | exact Ne.symm (by assumption)); (case b_q67 => walk_at "own upd")))
  (k_with "my inplaceOp Add ref ref" => (k_here; (with_reducible show wpAny _ (Around.deeper _ (envOf (Str.ofString "_law_order") _ _ _ _)) (inplaceOp Operator.Add (Value.ref _) (Value.ref _)) _ _ _); k_dflt (refine' iadd_own ?F_q68 ?N_q68 ?b_q68 ?U_q68 ?_ ?a_q68 ?z_q68; (case F_q68 => k_asm); (case N_q68 => k_asm); (case b_q68 => k_mem); (case U_q68 => walk_at "own upd"); (case a_q68 => assumption); (case z_q68 => simp only [List.length_append, List.length_cons, List.length_nil]; omega); k_whole); intro h_p F_p N_p; (try k_sweep)))
  (k_with "my pyIter ref" => ((with_reducible show wpAny _ (Around.deeper _ (envOf (Str.ofString "_law_order") _ _ _ _)) (pyIter (Value.ref _)) _ _ _); refine Stop.out ?_))
  (k_with "my call builtin:len" => (k_here; (with_reducible show wpAny _ (Around.deeper _ (envOf (Str.ofString "_law_order") _ _ _ _)) (call (Value.builtin "len") [Value.ref _]) _ _ _); k_dflt (refine' len_known ?l_q70 ?n_q70 ?z_q70 ?_; (case l_q70 => exact isList_old (by k_asm) (by assumption)); (case n_q70 => assumption); (case z_q70 => omega)); intro _ _))
  (k_with "my old item" => first | (refine' item_listL ?l_q71 ?a_q71 ?b_q71 ?c_q71 ?_; (case l_q71 => exact isList_old (by k_asm) (by assumption)); (case a_q71 => omega); (case b_q71 => omega); (case c_q71 => assumption)) | (refine' item_tupleL ?l_q71 ?a_q71 ?b_q71 ?c_q71 ?d_q71 ?_; (case l_q71 => exact isTup_old (by k_asm) (by assumption)); (case a_q71 => decide); (case b_q71 => decide); (case c_q71 => rfl); (case d_q71 => rfl)))
  (k_with "my subscriptTail" => (k_here; (with_reducible show wpAny _ (Around.deeper _ (envOf (Str.ofString "_law_order") _ _ _ _)) (subscriptTail _ _ (Value.ref _) (Value.int _ _)) _ _ _); walk_at "old item"))
  (k_with "my call ref" => (k_here; (with_reducible show wpAny _ (Around.deeper _ (envOf (Str.ofString "_law_order") _ _ _ _)) (call (Value.ref 240) _) _ _ _); (rename OrdIH _ _ _ _ _ _ _ _ => ihX_r); k_dflt (refine' PCon.use (ihX_r _) ?B_q ?F_q ?X_q ?N_q ?T_q ?hf_q ?hk_q ?hd_q ?hu_q ?hp_q73 ?_; (case hp_q73 => (rename TreeAt _ _ _ _ _ => tT_r; exact tT_r.keep (fun b o e => Fr.keep (by k_asm) b o e))); walk_at "con use"; intro r9_r tl9_r h9_r tk9_r S9_r F9_r N9_r D9_r O9_r; obtain ⟨d9_r, vs9_r, n9_r, e9_r, e9_p, hI9_r⟩ := O9_r; subst e9_r; subst e9_p; clear S9_r; (try simp only [List.cons_append, List.nil_append] at N9_r); (try simp only [List.mem_cons, List.not_mem_nil, or_false, forall_eq_or_imp, forall_eq] at D9_r); (try (first | obtain ⟨D1_r, D2_r, D3_r, D4_r, D5_r⟩ := D9_r | obtain ⟨D1_r, D2_r, D3_r, D4_r⟩ := D9_r | obtain ⟨D1_r, D2_r, D3_r⟩ := D9_r | obtain ⟨D1_r, D2_r⟩ := D9_r)); (have hz9_r := order_len hI9_r (by assumption) (by omega)); (try dsimp only); (try k_fold))))
  (k_with "my UnrEnd" => ((with_reducible show UnrEnd _ _ _ _ _ (OrderJ _ _ _ _ _ _) _); refine Stop.out ?_))
  (k_with "my eval ListComp" => (k_here; (with_reducible show wpAny _ _ (eval _ (envOf (Str.ofString "_law_tape") _ _ _ _)) _ _ _); k_dflt (refine ListComp_text (F₀ := by k_asm) (by with_unfolding_all rfl) (by decide) (by rfl) (by decide) (by rfl) ?_)))
  (k_with "my SrcT" => (refine Stop.out ?_))
  (k_with "my exec For" => (k_here; (with_reducible show wpAny _ _ (exec (Stmt.For _ _ _ _ _) (envOf (Str.ofString "_law_tape") _ _ _ _)) _ _ _); (rename Fr _ _ _ _ => lF_p); (with_unfolding_all refine' For_invVF lF_p ?g_q77 ?p_q77 ?_; (case g_q77 => exact rfl); (case p_q77 => exact rfl); k_whole)))
  (k_with "my pyIter ref" => ((with_reducible show wpAny _ (Around.deeper _ (envOf (Str.ofString "_law_tape") _ _ _ _)) (pyIter (Value.ref _)) _ _ _); refine Stop.out ?_))
  (k_with "my subscriptTail" => (k_here; (with_reducible show wpAny _ (Around.deeper _ (envOf (Str.ofString "_law_tape") _ _ _ _)) (subscriptTail _ _ (Value.ref _) (Value.int _ _)) _ _ _); walk_at "old item"))
  (k_with "my inplaceOp Add ref ref" => (k_here; (with_reducible show wpAny _ (Around.deeper _ (envOf (Str.ofString "_law_tape") _ _ _ _)) (inplaceOp Operator.Add (Value.ref _) (Value.ref _)) _ _ _); k_dflt (refine' iadd_own ?F_q80 ?N_q80 ?b_q80 ?U_q80 ?_ ?a_q80 ?z_q80; (case F_q80 => k_asm); (case N_q80 => k_asm); (case b_q80 => k_mem); (case U_q80 => walk_at "own upd"); (case a_q80 => first | omega | (simp only [List.length_append, List.length_cons, List.length_nil]; omega)); (case z_q80 => first | exact Nat.le_of_ble_eq_true rfl | (simp only [List.length_append, List.length_cons, List.length_nil]; omega)); k_whole); intro h_p F_p N_p; (try k_sweep)))
  (k_with "my binaryOp Add ref ref" => (k_here; (with_reducible show wpAny _ (Around.deeper _ (envOf (Str.ofString "_law_tape") _ _ _ _)) (binaryOp Operator.Add (Value.ref _) (Value.ref _)) _ _ _); k_dflt (refine' add_own (vs := [_, _]) ?F_q81 ?N_q81 ?l_q81 ?r_q81 ?a_q81 ?b_q81 ?_; (case F_q81 => k_asm); (case N_q81 => k_asm); (case l_q81 => exact News.isList (by k_asm) (by k_mem)); (case r_q81 => exact News.isList (by k_asm) (by k_mem)); (case a_q81 => exact Nat.le_of_ble_eq_true rfl); (case b_q81 => with_reducible assumption)); intro D_p h_p F_p N_p l1_r; (try k_lt l1_r); (try k_sweep)))
  (k_with "my call builtin:ord" => (k_here; with_reducible refine ord_sign ?_))
  (k_with "my pyIter ref" => ((with_reducible show wpAny _ (Around.deeper _ (envOf (Str.ofString "_law_due") _ _ _ _)) (pyIter (Value.ref _)) _ _ _); refine Stop.out ?_))
  (k_with "my exec For" => (k_here; (with_reducible show wpAny _ _ (exec (Stmt.For _ _ _ _ _) (envOf (Str.ofString "_law_due") _ _ _ _)) _ _ _); (rename Fr _ _ _ _ => lF_p); (with_unfolding_all refine' For_invVF lF_p ?g_q84 ?p_q84 ?_; (case g_q84 => exact rfl); (case p_q84 => exact rfl); k_whole)))
  (k_with "my call builtin:len" => (k_here; (with_reducible show wpAny _ (Around.deeper _ (envOf (Str.ofString "_law_due") _ _ _ _)) (call (Value.builtin "len") [Value.ref _]) _ _ _); k_dflt (refine' len_known ?l_q85 ?n_q85 ?z_q85 ?_; (case l_q85 => first | exact isList_old (by k_asm) (by assumption) | exact News.isList (by k_asm) (by k_mem)); (case n_q85 => assumption); (case z_q85 => omega)); intro _ _))
  (k_with "my subscriptTail" => (k_here; (with_reducible show wpAny _ (Around.deeper _ (envOf (Str.ofString "_law_due") _ _ _ _)) (subscriptTail _ _ (Value.ref _) (Value.int _ _)) _ _ _); walk_at "old item"))
  (k_with "my call ref" => (k_here; (with_reducible show wpAny _ (Around.deeper _ (envOf (Str.ofString "_law_due") _ _ _ _)) (call (Value.ref 240) _) _ _ _); (rename OrdIH _ _ _ _ _ _ _ _ => ihX_r); k_dflt (refine' PCon.use (ihX_r _) ?B_q ?F_q ?X_q ?N_q ?T_q ?hf_q ?hk_q ?hd_q ?hu_q ?hp_q87 ?_; (case hp_q87 => (rename TreeAt _ _ _ _ _ => tT_r; exact tT_r.keep (fun b o e => Fr.keep (by k_asm) b o e))); walk_at "con use"; intro r9_r tl9_r h9_r tk9_r S9_r F9_r N9_r D9_r O9_r; obtain ⟨d9_r, vs9_r, n9_r, e9_r, e9_p, hI9_r⟩ := O9_r; subst e9_r; subst e9_p; clear S9_r D9_r; (try simp only [List.cons_append, List.nil_append] at N9_r); (have hz9_r := IntsAre.length hI9_r); (rw [List.length_map] at hz9_r); (try dsimp only); (try k_fold))))
  (k_with "my UnrEnd" => ((with_reducible show UnrEnd _ _ _ _ _ (DueJ _ _ _ _) _); refine Stop.out ?_))
  (k_with "my UnrEnd" => ((with_reducible show UnrEnd _ _ _ _ _ (DueI _ _ _ _ _) _); refine Stop.out ?_))
  (k_with "my binaryOp Pow int int" => ((first | (with_reducible refine pow_p (by assumption) ?_) | (with_reducible refine pow_q (by assumption) ?_)); (try dsimp only)))
  (k_with "my binaryOp FloorDiv int int" => ((first | (with_reducible refine div_pq (.inl rfl) ?_) | (with_reducible refine div_pq (.inr rfl) ?_)); (try dsimp only)))
  (k_with "my con cells" => (refine' enter_cells ?k1_q95 ?k3_q95 ?k5_q95 ?k6_q95 ?k7_q95 ?k8_q95 ?k9_q95 ?kB_q95 ?kD_q95 ?_ ?c2_q95 ?c3_q95 ?c4_q95; (case k1_q95 => k_asm); (case k3_q95 => k_asm); (case k5_q95 => k_asm); (case k6_q95 => k_is); (case k7_q95 => k_is); (case k8_q95 => omega); (case k9_q95 => first | exact BindsTo.of_eq rfl | exact binds_K (by k_in) rfl (by k_is) rfl rfl rfl); (case kB_q95 => exact rfl); (case kD_q95 => decide +kernel); (case c2_q95 => exact rfl); (case c3_q95 => exact rfl); (case c4_q95 => exact rfl); k_whole; intro L_p h_p tk_p cells_p F_p N_p Y_p; k_cells Y_p; (try simp only [List.cons_append, List.nil_append] at N_p); (try dsimp only); (try k_fold)))
  (k_with "my con enter c" => (unfold PCon; intro p_r loose_r mean_r mg_r mb_r dp_r un_r gd_r env_r outer_r base_r s_r R_r B_r X_r T_r hd_r hu_r hpre_r hret_r; k_dflt (walk_at "con cells")))
  (k_with "my pyIter ref" => ((with_reducible show wpAny _ _ (pyIter (Value.ref _)) (fun it s₂ => TurnsAt _ _ _ _ _ _ _ _ _ it s₂) _ _); refine Stop.out ?_))
  (k_with "my exec For" => (k_here; (with_reducible show wpAny _ _ (exec (Stmt.For _ _ _ _ _) (envX (Str.ofString "_law_orders") _ _ _ _ _)) _ _ _); (rename Fr _ _ _ _ => lF_p); (with_unfolding_all refine' For_turns lF_p ?_; k_whole)))
  (k_with "my exec For" => (k_here; (with_reducible show wpAny _ _ (exec (Stmt.For _ _ _ _ _) (envOfC (Str.ofString "_law_orders") _ _ _ _)) _ _ _); (rename Fr _ _ _ _ => lF_p); (with_unfolding_all refine' For_turns lF_p ?_; k_whole)))
  (k_with "my call ref" => (k_here; (with_reducible show wpAny _ (Around.deeper _ (envOfC (Str.ofString "_law_orders") _ _ _ _)) (call (Value.ref 264) _) _ _ _); (rename OrdersIH _ _ => ihX_r); k_dflt (refine' OrdersIH.use ihX_r (IntsAre.ofCarried (by assumption)) (by assumption) ?B_q ?F_q ?X_q ?N_q ?T_q ?hf_q ?hk_q ?hd_q ?hu_q ?hp_q100 ?o1_q100 ?o2_q100 ?o3_q100 ?_; (case hp_q100 => assumption); walk_at "con use"; (case o1_q100 => assumption); (case o2_q100 => assumption); (case o3_q100 => assumption); intro d9_r as9_r vss9_r n9_r RL9_r h9_r tk9_r hl9_r hL9_r r1_r r2_r r3_r r4_r r5_r d1_r d2_r d3_r F9_r N9_r; (try k_sweep); (try k_fold))))
  (k_with "my exec For" => (k_here; (with_reducible show wpAny _ _ (exec (Stmt.For (Expr.Name (Str.ofString "order") _) _ _ _ _) (envOfC (Str.ofString "_law_orders") _ _ _ _)) _ _ _); (rename Fr _ _ _ _ => lF_p); (with_unfolding_all refine' For_invVF lF_p ?g_q101 ?p_q101 ?_; (case g_q101 => exact rfl); (case p_q101 => exact rfl); k_whole)))
  (k_with "my pyIter ref" => ((with_reducible show wpAny _ (Around.deeper _ (envOfC (Str.ofString "_law_orders") _ _ _ _)) (pyIter (Value.ref _)) (fun it s₂ => LoopAtV _ _ _ _ _ _ _ _ _ it s₂) _ _); refine Stop.out ?_))
  (k_with "my own off" => repeat (first | exact off_nil | assumption | refine off_cons (by (try dsimp only); first | k_ne | assumption | exact Ne.symm (by assumption)) ?_))
  (k_with "my own upd" => first | (refine' Upd.head ?a_q104; (case a_q104 => walk_at "own off"; done)) | (refine' Upd.tail ?a_q104 ?b_q104; (case a_q104 => first | k_ne | assumption | exact Ne.symm (by assumption)); (case b_q104 => walk_at "own upd")))
  (k_with "my binaryOp Add ref ref" => (k_here; (with_reducible show wpAny _ (Around.deeper _ (envOfC (Str.ofString "_law_orders") _ _ _ _)) (binaryOp Operator.Add (Value.ref _) (Value.ref _)) _ _ _); k_dflt (refine' add_own (vs := [_]) ?F_q105 ?N_q105 ?l_q105 ?r_q105 ?a_q105 ?b_q105 ?_; (case F_q105 => k_asm); (case N_q105 => k_asm); (case l_q105 => exact News.isList (by k_asm) (by k_mem)); (case r_q105 => exact News.isList (by k_asm) (by walk_at "own mem")); (case a_q105 => exact Nat.le_of_ble_eq_true rfl); (case b_q105 => assumption)); intro D_p h_p F_p N_p l1_r; (try k_lt l1_r); (try k_sweep)))
  (k_with "my call builtin:list.append" => (k_here; (with_reducible show wpAny _ (Around.deeper _ (envOfC (Str.ofString "_law_orders") _ _ _ _)) (call (Value.builtin _) [Value.ref _, _]) _ _ _); k_dflt (refine' append_K ?k1_q106 ?k2_q106 ?k3_q106 ?_ ?z_q106; (case k1_q106 => k_asm); (case k2_q106 => k_asm); (case k3_q106 => walk_at "own upd"); (case z_q106 => exact size_of_len (by assumption)); k_whole); intro h_p F_p N_p; (try k_sweep)))
  (k_with "my UnrEnd" => ((with_reducible show UnrEnd _ _ _ _ _ (fun m' n' => (_ : Addr × Obj) ∈ n' ∧ OrdI _ _ _ _ _ _ m' n') _); refine Stop.out ?_))
  (k_with "my UnrEnd" => ((with_reducible show UnrEnd _ _ _ _ _ (fun m' n' => OrdsJ _ _ _ _ _ m' n') _); refine Stop.out ?_))
  (k_with "my own updF" => first | (refine' UpdF.head ?a_q109; (case a_q109 => first | assumption | (walk_at "off all"; done))) | (refine' UpdF.tail ?a_q109 ?b_q109; (case a_q109 => first | k_ne | exact Ne.symm (by assumption)); (case b_q109 => walk_at "own updF")))
  (k_with "my storeName" => (k_here; (with_reducible show wpAny _ _ (storeName (envOfC (Str.ofString "_law_orders") _ _ _ _) (Str.ofString "one") _) _ _ _); k_dflt (refine' storeX_C ?F_q110 ?N_q110 ?c_q110 ?U_q110 ?d_q110 ?_ ?a_q110 ?b_q110; (case a_q110 => rfl); (case b_q110 => rfl); (case F_q110 => k_asm); (case N_q110 => k_asm); (case c_q110 => rfl); (case U_q110 => walk_at "own updF"); (case d_q110 => k_asm)); intro h_p o_p F_p N_p d_p; (try dsimp only at N_p)))
  (k_with "my compareOp Eq ref ref" => (k_here; (with_reducible show wpAny _ (Around.deeper _ (envOfC (Str.ofString "_law_orders") _ _ _ _)) (compareOp CmpOp.Eq (Value.ref _) (Value.ref _)) _ _ _); k_dflt (refine' eq_intsK ?k1_q111 ?k2_q111 ?k3_q111 ?k4_q111 ?k5_q111 ?_; (case k1_q111 => exact isList_old (by k_asm) (by assumption)); (case k2_q111 => first | assumption | exact .nil); (case k3_q111 => exact News.isList (by k_asm) (by k_mem)); (case k4_q111 => exact .nil); (case k5_q111 => walk_at "con room"))))
  (k_with "my con hid" => (unfold HCon; intro p_r loose_r mean_r mg_r mb_r dp_r un_r gd_r env_r outer_r base_r s_r R_r g_r hg_r B_r X_r T_r hh_r hd_r hu_r hpre_r hret_r; k_dflt (refine' enter_hid hg_r ?k1_q112 ?k3_q112 ?k5_q112 hh_r ?k6_q112 ?k7_q112 ?k8_q112 ?k9_q112 ?kB_q112 ?_ ?c2_q112 ?c3_q112 ?c4_q112 ?c5_q112; (case k1_q112 => k_asm); (case k3_q112 => k_asm); (case k5_q112 => k_asm); (case k6_q112 => k_is); (case k7_q112 => k_is); (case k8_q112 => omega); (case k9_q112 => first | exact BindsTo.of_eq rfl | exact binds_K (by k_in) rfl (by k_is) rfl rfl rfl); (case c5_q112 => decide); (case kB_q112 => exact locs rfl); (case c2_q112 => exact rfl); (case c3_q112 => exact rfl); (case c4_q112 => exact rfl); k_whole; intro L_p h_p F_p N_p l1_r; (try k_lt l1_r); (try dsimp only); (try k_fold))))
  (k_with "my con law" => (k_dflt (refine' enter_law ?kg_q113 ?k3_q113 ?k5_q113 ?kh_q113 ?k6_q113 ?k7_q113 ?k9_q113 ?kB_q113 ?kD_q113 ?_ ?c2_q113 ?c3_q113 ?c4_q113; (case kg_q113 => k_asm); (case k3_q113 => k_asm); (case k5_q113 => k_asm); (case kh_q113 => k_asm); (case k6_q113 => k_is); (case k7_q113 => k_is); (case k9_q113 => first | exact BindsTo.of_eq rfl | exact binds_K (by k_in) rfl (by k_is) rfl rfl rfl); (case kB_q113 => exact rfl); (case kD_q113 => decide +kernel); (case c2_q113 => exact rfl); (case c3_q113 => exact rfl); (case c4_q113 => exact rfl); k_whole; intro L_p h_p tk_p cells_p F_p N_p Y_p B_p l1_r; k_lt l1_r; k_cells Y_p; (try simp only [List.cons_append, List.nil_append] at N_p); (try dsimp only); (try k_fold))))
  (k_with "my setAttr ref" => (k_here; (with_reducible show wpAny _ (Around.deeper _ (envOfC (Str.ofString "_law_stream") _ _ _ _)) (setAttr (Value.ref _) (Str.ofString "read") _) _ _ _); k_dflt (refine' fnset_N ?F_q114 ?N_q114 ?U_q114 fn_no_read ?_; (case F_q114 => k_asm); (case N_q114 => k_asm); (case U_q114 => k_updF)); intro D_p od_p h_p tk_p F_p N_p hd_p l1_r; (try dsimp only at N_p); (try k_lt l1_r)))
  (k_with "my con hidc" => (unfold HCon; intro p_r loose_r mean_r mg_r mb_r dp_r un_r gd_r env_r outer_r base_r s_r R_r g_r hg_r B_r X_r T_r hh_r hd_r hu_r hpre_r hret_r; k_dflt (refine' enter_hidC hg_r ?k1_q115 ?k3_q115 ?k5_q115 hh_r ?k6_q115 ?k7_q115 ?k8_q115 ?k9_q115 ?kB_q115 ?kD_q115 ?_ ?c2_q115 ?c3_q115 ?c4_q115; (case k1_q115 => k_asm); (case k3_q115 => k_asm); (case k5_q115 => k_asm); (case k6_q115 => k_is); (case k7_q115 => k_is); (case k8_q115 => omega); (case k9_q115 => first | exact BindsTo.of_eq rfl | exact binds_K (by k_in) rfl (by k_is) rfl rfl rfl); (case kB_q115 => exact rfl); (case kD_q115 => decide +kernel); (case c2_q115 => exact rfl); (case c3_q115 => exact rfl); (case c4_q115 => exact rfl); k_whole; intro L_p h_p tk_p cells_p F_p N_p Y_p l1_r; k_lt l1_r; k_cells Y_p; (try simp only [List.cons_append, List.nil_append] at N_p); (try dsimp only); (try k_fold))))
  (k_with "my con clo" => (unfold HCon; intro p_r loose_r mean_r mg_r mb_r dp_r un_r gd_r env_r outer_r base_r s_r R_r g_r hg_r B_r X_r T_r hh_r hd_r hu_r hpre_r hret_r; k_dflt (refine' enter_clo hg_r ?k1_q116 ?k5_q116 hh_r ?k6_q116 ?k7_q116 ?k8_q116 ?k8' ?k9_q116 ?k10_q116 ?kB_q116 ?_ ?c2_q116 ?c3_q116 ?c4_q116 ?c5_q116; (case k1_q116 => k_asm); (case k5_q116 => k_asm); (case k6_q116 => k_mem); (case k7_q116 => k_mem); (case k8_q116 => k_asm); (case k8' => k_asm); (case k9_q116 => omega); (case k10_q116 => exact BindsTo.of_eq rfl); (case c5_q116 => decide); (case kB_q116 => exact locs rfl); (case c2_q116 => exact rfl); (case c3_q116 => exact rfl); (case c4_q116 => exact rfl); k_whole; intro L_p h_p F_p N_p l1_r; (try k_lt l1_r); (try dsimp only); (try k_fold))))
  (k_with "my getMethod ref" => (k_here; (with_reducible show wpAny _ _ (getMethod (Value.ref _) (Str.ofString "read") _) _ _ _); k_dflt (refine' read_K ?N_q117 ?a_q117 ?b_q117 ?c_q117 ?d_q117 ?_; (case N_q117 => k_asm); (case a_q117 => walk_at "own mem"); (case b_q117 => walk_at "own mem"); (case c_q117 => assumption); (case d_q117 => assumption)); intro _; (try dsimp only)))
  (k_with "my callWith ref" => (k_here; k_dflt (first | (refine' callWith_F ?k1_q118 ?_; (case k1_q118 => exact FnAt.of (by k_asm) (by assumption)); k_whole) | (refine' callWith_F0 ?k1_q118 ?_; (case k1_q118 => exact FnAt.of (by k_asm) (by assumption)); k_whole; try dsimp only [List.nil_append, List.cons_append]))))
  (k_with "my FnAt" => (k_dflt (exact FnAt.of (by k_asm) (by assumption))))
  (k_with "my hid use" => ((case B_q => k_asm); (case F_q => k_asm); (case X_q => k_asm); (case N_q => k_asm); (case T_q => k_asm); (case hf_q => exact rfl); (case hk_q => exact rfl); (case hd_q => walk_at "con room"); (case hu_q => walk_at "con room")))
  trivial
/-! _law_listing -/
section
variable {prog : Program} {w : World} {A : Around} {E : Value → Shared → Prop} {s : Shared} {env : Env} {h₀ : Heap} {L : Addr} {test : PySem.Expr} {body : List Stmt} {pos : Pos} {Q : Flow → Shared → Prop} {α : Type}
noncomputable def WEnd (h₀ : Heap) (L : Addr) (s : Shared) (J : (Str → Option Value) → Led → Prop) (Q : Flow → Shared → Prop) (f : Flow) (s₃ : Shared) : Prop :=
  match f with
  | .next => ∃ h' tk m' news', s₃ = { s with heap := h', toks := tk } ∧ Fr h₀ L h' m' ∧ News h₀ L h' news' ∧ J m' news'
  | .cont => ∃ h' tk m' news', s₃ = { s with heap := h', toks := tk } ∧ Fr h₀ L h' m' ∧ News h₀ L h' news' ∧ J m' news'
  | .brk => Q .next s₃
  | .ret v => Q (.ret v) s₃
theorem while_list (J₀ : (Str → Option Value) → Led → List α → (Str → Option Value) → Led → Prop) (hE : PassesOwn (model prog w) A env E) {m₀ : Str → Option Value} {news₀ : Led} {rows : List α} (F₀ : Fr h₀ L s.heap m₀) (N₀ : News h₀ L s.heap news₀) (start : J₀ m₀ news₀ rows m₀ news₀)
    (step : ∀ x r m news h tk, J₀ m₀ news₀ (x :: r) m news → Fr h₀ L h m → News h₀ L h news →
      wpAny (model prog w) A (isTrue test env (eval test env)) (fun b s₂ => WhlIf b (wpAny (model prog w) A (execs body env) (WEnd h₀ L { s with heap := h, toks := tk } (J₀ m₀ news₀ r) Q) E s₂) (wpAny (model prog w) A (execs [] env) Q E s₂)) E { s with heap := h, toks := tk })
    (last : ∀ m news h tk, J₀ m₀ news₀ [] m news → Fr h₀ L h m → News h₀ L h news →
      wpAny (model prog w) A (isTrue test env (eval test env)) (fun b s₂ => WhlIf b (wpAny (model prog w) A (execs body env) (fun f s₃ => match f with | .ret v => Q (.ret v) s₃ | .brk => Q .next s₃ | _ => False) E s₂) (wpAny (model prog w) A (execs [] env) Q E s₂)) E { s with heap := h, toks := tk }) :
    wpAny (model prog w) A (exec (.While test body [] pos) env) Q E s := by
  generalize hJ : J₀ m₀ news₀ = J at *
  have main : ∀ (rows : List α) m news h tk, J rows m news → Fr h₀ L h m → News h₀ L h news → WhlRest prog w A E env test body [] Q 1 { s with heap := h, toks := tk } := by
    intro rows
    induction rows with
    | nil =>
      intro m news h tk hj F N
      refine whl_turn (k := 0) hE (wpAny_mono (last m news h tk hj F N) (fun b s₂ h₂ => ?_) fun _ _ e => e)
      cases b with
      | false => exact h₂
      | true =>
        refine WhlIf.yes rfl (wpAny_mono (show wpAny (model prog w) A (execs body env) (fun f s₃ => match f with | .ret v => Q (.ret v) s₃ | .brk => Q .next s₃ | _ => False) E s₂ from by unfold WhlIf at h₂; rw [if_pos rfl] at h₂; exact h₂) (fun f s₃ h₃ => ?_) fun _ _ e => e)
        cases f with
        | ret v => exact h₃
        | brk => exact h₃
        | next => exact h₃.elim
        | cont => exact h₃.elim
    | cons x r ih =>
      intro m news h tk hj F N
      refine whl_turn (k := 0) hE (wpAny_mono (step x r m news h tk hj F N) (fun b s₂ h₂ => ?_) fun _ _ e => e)
      cases b with
      | false => exact h₂
      | true =>
        refine WhlIf.yes rfl (wpAny_mono (show wpAny (model prog w) A (execs body env) (WEnd h₀ L { s with heap := h, toks := tk } (J r) Q) E s₂ from by unfold WhlIf at h₂; rw [if_pos rfl] at h₂; exact h₂) (fun f s₃ h₃ => ?_) fun _ _ e => e)
        cases f with
        | ret v => exact h₃
        | brk => exact h₃
        | next => obtain ⟨h', tk', m', news', rfl, F', N', j'⟩ := h₃; exact ih m' news' h' tk' j' F' N'
        | cont => obtain ⟨h', tk', m', news', rfl, F', N', j'⟩ := h₃; exact ih m' news' h' tk' j' F' N'
  exact whl_start 1 (main rows m₀ news₀ s.heap s.toks start F₀ N₀)
end
section
variable {w : World} {f : Addr} {d : Nat} {vs : List Value} {hl : Led} {Out : Heap → Value → Led → Prop} {p : Program} {loose : List Str} {mean : ExcName → Option Value} {mg mb : Str → Option Value} {dp un : Nat} {gd : Option (List Code)} {env : Env} {outer : List Env} {A₀ : Around} {base h₀ : Heap} {L : Addr} {m : Str → Option Value} {s : Shared} {Q E : Value → Shared → Prop} {a b c e : Addr × Obj}
theorem HCon.useK {rest : Led} (C : HCon w f d vs hl (fun _ => True) Out) (B : Below A₀ base outer h₀) (F : Fr h₀ L s.heap m) (X : (Mine.hd.heap_1_1 w.params).In h₀) (N : News h₀ L s.heap (rest ++ hl)) (T : Top p loose mean mg mb h₀) (hf : env.frame = some L) (hk : env.scope.kind = .function)
    (hd : dp + d < recursionLimit) (hu : un + 8 * d < cLine) (off : ∀ q ∈ rest, ∀ p ∈ hl, p.1 ≠ q.1)
    (ret : ∀ (r : Value) (tl : Led) (h' : Heap) (tk' : Nat), Fr h₀ L h' m → News h₀ L h' (rest ++ tl) → (∀ q ∈ rest, ∀ p ∈ tl, p.1 ≠ q.1) → Out h' r tl → Q r { s with heap := h', toks := tk' }) :
    wpAny (model PySem.Challenge.rw_kt0070_01.row.prog w) (topA dp un gd env outer) (call (.ref f) vs) Q E s := by
  refine HCon.use (rest := rest) C B F X N T hf hk hd hu (fun q hq => List.mem_append_right _ hq) (fun q hq => ⟨List.mem_append_left _ hq, fun hm => ?_⟩) (fun _ _ _ => trivial) fun r tl h' tk' F' N' D' o => ?_
  · obtain ⟨p, hp, e⟩ := List.mem_map.mp hm
    exact off q hq p hp e
  · refine ret r tl h' tk' F' (fun q hq => N' q ?_) (fun q hq p hp e => D' q hq p hp e.symm) o
    rcases List.mem_append.mp hq with hq | hq
    · exact List.mem_append_right _ hq
    · exact List.mem_append_left _ hq
theorem HCon.use3 (C : HCon w f d vs hl (fun _ => True) Out) (B : Below A₀ base outer h₀) (F : Fr h₀ L s.heap m) (X : (Mine.hd.heap_1_1 w.params).In h₀) (N : News h₀ L s.heap (a :: b :: c :: hl)) (T : Top p loose mean mg mb h₀) (hf : env.frame = some L) (hk : env.scope.kind = .function)
    (hd : dp + d < recursionLimit) (hu : un + 8 * d < cLine) (o1 : ∀ p ∈ hl, p.1 ≠ a.1) (o2 : ∀ p ∈ hl, p.1 ≠ b.1) (o3 : ∀ p ∈ hl, p.1 ≠ c.1)
    (ret : ∀ (r : Value) (tl : Led) (h' : Heap) (tk' : Nat), Fr h₀ L h' m → News h₀ L h' (a :: b :: c :: tl) → (∀ p ∈ tl, p.1 ≠ a.1) → (∀ p ∈ tl, p.1 ≠ b.1) → (∀ p ∈ tl, p.1 ≠ c.1) → Out h' r tl → Q r { s with heap := h', toks := tk' }) :
    wpAny (model PySem.Challenge.rw_kt0070_01.row.prog w) (topA dp un gd env outer) (call (.ref f) vs) Q E s :=
  HCon.useK (rest := [a, b, c]) C B F X N T hf hk hd hu (fun q hq => by
    simp only [List.mem_cons, List.not_mem_nil, or_false] at hq
    rcases hq with rfl | rfl | rfl
    · exact o1
    · exact o2
    · exact o3) fun r tl h' tk' F' N' D' o => ret r tl h' tk' F' N' (D' a (.head _)) (D' b (.tail _ (.head _))) (D' c (.tail _ (.tail _ (.head _)))) o
theorem HCon.use4 (C : HCon w f d vs hl (fun _ => True) Out) (B : Below A₀ base outer h₀) (F : Fr h₀ L s.heap m) (X : (Mine.hd.heap_1_1 w.params).In h₀) (N : News h₀ L s.heap (a :: b :: c :: e :: hl)) (T : Top p loose mean mg mb h₀) (hf : env.frame = some L) (hk : env.scope.kind = .function)
    (hd : dp + d < recursionLimit) (hu : un + 8 * d < cLine) (o1 : ∀ p ∈ hl, p.1 ≠ a.1) (o2 : ∀ p ∈ hl, p.1 ≠ b.1) (o3 : ∀ p ∈ hl, p.1 ≠ c.1) (o4 : ∀ p ∈ hl, p.1 ≠ e.1)
    (ret : ∀ (r : Value) (tl : Led) (h' : Heap) (tk' : Nat), Fr h₀ L h' m → News h₀ L h' (a :: b :: c :: e :: tl) → (∀ p ∈ tl, p.1 ≠ a.1) → (∀ p ∈ tl, p.1 ≠ b.1) → (∀ p ∈ tl, p.1 ≠ c.1) → (∀ p ∈ tl, p.1 ≠ e.1) → Out h' r tl → Q r { s with heap := h', toks := tk' }) :
    wpAny (model PySem.Challenge.rw_kt0070_01.row.prog w) (topA dp un gd env outer) (call (.ref f) vs) Q E s :=
  HCon.useK (rest := [a, b, c, e]) C B F X N T hf hk hd hu (fun q hq => by
    simp only [List.mem_cons, List.not_mem_nil, or_false] at hq
    rcases hq with rfl | rfl | rfl | rfl
    · exact o1
    · exact o2
    · exact o3
    · exact o4) fun r tl h' tk' F' N' D' o => ret r tl h' tk' F' N' (D' a (.head _)) (D' b (.tail _ (.head _))) (D' c (.tail _ (.tail _ (.head _)))) (D' e (.tail _ (.tail _ (.tail _ (.head _))))) o
end
section
variable {w : World} {f : Addr} {d : Nat} {vs : List Value} {hl : Led} {V : Tok → Value} {S' : Led → Prop} {p : Program} {loose : List Str} {mean : ExcName → Option Value} {mg mb : Str → Option Value} {dp un : Nat} {gd : Option (List Code)} {env : Env} {outer : List Env} {A₀ : Around} {base h₀ hp : Heap} {gs : Array GenState} {dr : Drawn} {tk : Nat} {os : OsState} {L : Addr} {m : Str → Option Value} {Q E : Value → Shared → Prop} {a b c e : Addr} {oa ob oc oe : Obj}
theorem HCon.useV3 (C : HCon w f d vs hl (fun _ => True) (fun _ r tl => ∃ t, r = V t ∧ S' tl)) (B : Below A₀ base outer h₀) (F : Fr h₀ L hp m) (X : (Mine.hd.heap_1_1 w.params).In h₀) (N : News h₀ L hp ((a, oa) :: (b, ob) :: (c, oc) :: hl)) (T : Top p loose mean mg mb h₀) (hf : env.frame = some L) (hk : env.scope.kind = .function)
    (hd : dp + d < recursionLimit) (hu : un + 8 * d < cLine) (o1 : ∀ p ∈ hl, p.1 ≠ a) (o2 : ∀ p ∈ hl, p.1 ≠ b) (o3 : ∀ p ∈ hl, p.1 ≠ c)
    (ret : ∀ (t : Tok) (tl : Led) (h' : Heap) (tk' : Nat), S' tl → Fr h₀ L h' m → News h₀ L h' ((a, oa) :: (b, ob) :: (c, oc) :: tl) → (∀ p ∈ tl, p.1 ≠ a) → (∀ p ∈ tl, p.1 ≠ b) → (∀ p ∈ tl, p.1 ≠ c) → Q (V t) ⟨h', gs, dr, tk', os⟩) :
    wpAny (model PySem.Challenge.rw_kt0070_01.row.prog w) (topA dp un gd env outer) (call (.ref f) vs) Q E ⟨hp, gs, dr, tk, os⟩ :=
  HCon.use3 (s := ⟨hp, gs, dr, tk, os⟩) C B F X N T hf hk hd hu o1 o2 o3 fun r tl h' tk' F' N' p1 p2 p3 o => by
    obtain ⟨t, e, hS⟩ := o
    subst e
    exact ret t tl h' tk' hS F' N' p1 p2 p3
theorem HCon.useV4 (C : HCon w f d vs hl (fun _ => True) (fun _ r tl => ∃ t, r = V t ∧ S' tl)) (B : Below A₀ base outer h₀) (F : Fr h₀ L hp m) (X : (Mine.hd.heap_1_1 w.params).In h₀) (N : News h₀ L hp ((a, oa) :: (b, ob) :: (c, oc) :: (e, oe) :: hl)) (T : Top p loose mean mg mb h₀) (hf : env.frame = some L) (hk : env.scope.kind = .function)
    (hd : dp + d < recursionLimit) (hu : un + 8 * d < cLine) (o1 : ∀ p ∈ hl, p.1 ≠ a) (o2 : ∀ p ∈ hl, p.1 ≠ b) (o3 : ∀ p ∈ hl, p.1 ≠ c) (o4 : ∀ p ∈ hl, p.1 ≠ e)
    (ret : ∀ (t : Tok) (tl : Led) (h' : Heap) (tk' : Nat), S' tl → Fr h₀ L h' m → News h₀ L h' ((a, oa) :: (b, ob) :: (c, oc) :: (e, oe) :: tl) → (∀ p ∈ tl, p.1 ≠ a) → (∀ p ∈ tl, p.1 ≠ b) → (∀ p ∈ tl, p.1 ≠ c) → (∀ p ∈ tl, p.1 ≠ e) → Q (V t) ⟨h', gs, dr, tk', os⟩) :
    wpAny (model PySem.Challenge.rw_kt0070_01.row.prog w) (topA dp un gd env outer) (call (.ref f) vs) Q E ⟨hp, gs, dr, tk, os⟩ :=
  HCon.use4 (s := ⟨hp, gs, dr, tk, os⟩) C B F X N T hf hk hd hu o1 o2 o3 o4 fun r tl h' tk' F' N' p1 p2 p3 p4 o => by
    obtain ⟨t, e, hS⟩ := o
    subst e
    exact ret t tl h' tk' hS F' N' p1 p2 p3 p4
end
/-- contracts of a def that catches: the frames' namespaces stand up to their slots -/
noncomputable def LRet (fs : List Addr) (g : Heap) (s : Shared) (R : Result → Shared → Prop) (Out : Heap → Value → Led → Prop) : Prop :=
  ∀ (r : Value) (tl : Led) (h' : Heap) (tk' : Nat), (∀ b o, g.get? b = some o → b ∉ fs → h'.get? b = some o) → (∀ b o, g.get? b = some o → b ∈ fs → ∃ sl, h'.get? b = some { o with slots := sl }) →
    (∀ q ∈ tl, h'.get? q.1 = some q.2 ∧ g.get? q.1 = none) → Out h' r tl → R (.ok (.ret r)) { s with heap := h', toks := tk' }
noncomputable def BaseF (w : World) (p : Program) (loose : List Str) (mean : ExcName → Option Value) (mg mb : Str → Option Value) (base : Heap) : Prop := (Mine.hd.heap_1_1 w.params).In base ∧ Top p loose mean mg mb base
noncomputable def LCon (w : World) (f : Addr) (d : Nat) (vs : List Value) (hl : Led) (Out : Heap → Value → Led → Prop) : Prop :=
  ∀ (p : Program) (loose : List Str) (mean : ExcName → Option Value) (mg mb : Str → Option Value) (dp un : Nat) (gd : Option (List Code)) (env : Env) (outer : List Env) (base : Heap) (s : Shared) (R : Result → Shared → Prop) (g : Heap),
    g = hideAll s.heap (hl.map (·.1)) → Below (topA dp un gd env outer) base (env :: outer) g → (Mine.hd.heap_1_1 w.params).In g → Top p loose mean mg mb g → BaseF w p loose mean mg mb base → KtsDicts ((env :: outer).filterMap (·.frame)) g →
    (∀ q ∈ hl, s.heap.get? q.1 = some q.2) → dp + d < recursionLimit → un + 8 * d < cLine →
    LRet ((env :: outer).filterMap (·.frame)) g s R Out → codeAny (model PySem.Challenge.rw_kt0070_01.row.prog w) (topA dp un gd env outer) (.call (.ref f) ⟨vs, []⟩) R s
theorem lret_l {fs : List Addr} {g g' : Heap} {L : Addr} {m : Str → Option Value} {s : Shared} {R : Result → Shared → Prop} {Out : Heap → Value → Led → Prop} {r : Value} {tl : Led} {h' : Heap} {tk' : Nat} (H : LRet fs g s R Out) (T : KtsTurn fs g g') (F : Fr g' L h' m) (N : News g' L h' tl) (o : Out h' r tl) :
    R (.ok (.ret r)) { s with heap := h', toks := tk' } := by
  refine H _ tl _ _ (fun b o e n => F.keep _ _ (T.other b o e n)) (fun b o e m => ?_) (fun q hq => ⟨(N q hq).1, ?_⟩) o
  · obtain ⟨sl, e'⟩ := T.frame b o e m
    exact ⟨sl, F.keep _ _ e'⟩
  · cases e : g.get? q.1 with
    | none => rfl
    | some o =>
      have hn := (N q hq).2.2
      by_cases hm : q.1 ∈ fs
      · obtain ⟨sl, e'⟩ := T.frame _ o e hm
        rw [e'] at hn; cases hn
      · rw [T.other _ o e hm] at hn; cases hn
theorem LCon.use {w : World} {f : Addr} {d : Nat} {vs : List Value} {hl : Led} {Out : Heap → Value → Led → Prop} (C : LCon w f d vs hl Out)
    {p : Program} {loose : List Str} {mean : ExcName → Option Value} {mg mb : Str → Option Value} {dp un : Nat} {gd : Option (List Code)} {env : Env} {A₀ : Around} {h₀ : Heap} {L : Addr} {m : Str → Option Value} {news rest : Led} {s : Shared} {Q E : Value → Shared → Prop}
    (B : Below A₀ h₀ [] h₀) (F : Fr h₀ L s.heap m) (X : (Mine.hd.heap_1_1 w.params).In h₀) (N : News h₀ L s.heap news) (T : Top p loose mean mg mb h₀) (hf : env.frame = some L) (hk : env.scope.kind = .function)
    (hd : dp + d < recursionLimit) (hu : un + 8 * d < cLine) (hs : ∀ q ∈ hl, q ∈ news) (hr : ∀ q ∈ rest, q ∈ news ∧ q.1 ∉ hl.map (·.1))
    (ret : ∀ (r : Value) (tl : Led) (h' : Heap) (tk' : Nat), Fr h₀ L h' m → News h₀ L h' (tl ++ rest) → (∀ q ∈ rest, ∀ p ∈ tl, q.1 ≠ p.1) → Out h' r tl → Q r { s with heap := h', toks := tk' }) :
    wpAny (model PySem.Challenge.rw_kt0070_01.row.prog w) (topA dp un gd env []) (call (.ref f) vs) Q E s := by
  have Nh : News h₀ L s.heap hl := fun q hq => N q (hs q hq)
  obtain ⟨FG, BG, st, _⟩ := groundX (A := topA dp un gd env []) (R := fun _ _ => True) B F Nh rfl hf hk
  have hrg : ∀ q ∈ rest, (hideAll s.heap (hl.map (·.1))).get? q.1 = some q.2 := fun q hq => hideAll_get _ (N q (hr q hq).1).1 (hr q hq).2
  obtain ⟨oL, es, ep, hL, hLd, hLk, hLf⟩ := FG.ns
  have hfs : [env].filterMap (·.frame) = [L] := by simp [hf]
  refine wpAny_call (C _ _ _ _ _ _ _ _ _ _ _ _ _ _ rfl BG (X.keeps st) (T.keeps st) ⟨X, T⟩ (fun b hb => ?_) (fun q hq => (Nh q hq).1) hd hu ?_)
  · rw [hfs] at hb
    rw [List.mem_singleton.mp hb]
    exact ⟨oL, es, ep, hL, hLd⟩
  · rw [hfs]
    intro r tl h' tk' ho hfr ht hout
    obtain ⟨sl, hL'⟩ := hfr L oL hL (List.mem_singleton.mpr rfl)
    have hne : ∀ b o, h₀.get? b = some o → b ∉ [L] := fun b o e hm => by
      rw [List.mem_singleton.mp hm] at e
      exact absurd (Heap.lt_size e) (Nat.not_lt.mpr F.above)
    refine ret r tl h' tk' ⟨⟨_, es, ep, hL', hLd, hLk, hLf⟩, fun b o e => ho _ _ (st _ _ e) (hne b o e), F.above⟩ (fun q hq => ?_) (fun q hq p hp e => ?_) hout
    · rcases List.mem_append.mp hq with hq | hq
      · refine ⟨(ht q hq).1, fun e => ?_, ?_⟩
        · have := (ht q hq).2; rw [e, hL] at this; cases this
        · cases hh : h₀.get? q.1 with
          | none => rfl
          | some o => have := (ht q hq).2; rw [st _ _ hh] at this; cases this
      · exact ⟨ho _ _ (hrg q hq) (fun hm => (N q (hr q hq).1).2.1 (List.mem_singleton.mp hm)), (N q (hr q hq).1).2⟩
    · have := (ht p hp).2; rw [← e, hrg q hq] at this; cases this
theorem off_lt3 {a b c : Addr × Obj} {tl : Led} {D : Addr} (h : ∀ p ∈ a :: b :: c :: tl, p.1 < D) : a.1 ≠ D ∧ b.1 ≠ D ∧ c.1 ≠ D ∧ ∀ p ∈ tl, p.1 ≠ D :=
  ⟨Nat.ne_of_lt (h _ (.head _)), Nat.ne_of_lt (h _ (.tail _ (.head _))), Nat.ne_of_lt (h _ (.tail _ (.tail _ (.head _)))), fun p hp => Nat.ne_of_lt (h p (.tail _ (.tail _ (.tail _ hp))))⟩
theorem off_allLt {tl : Led} {D : Addr} (h : AllLt D tl) : ∀ p ∈ tl, p.1 ≠ D := fun p hp => by
  induction tl with
  | nil => cases hp
  | cons q r ih =>
    rcases List.mem_cons.mp hp with rfl | hp
    · exact Nat.ne_of_lt h.1
    · exact ih h.2 hp
noncomputable def costOf (mode : Int) : Int := 9 - (Txt.count (Txt.slice (Txt.join (Str.ofString "") (fmLs mode 10)) (some 1) none) (Str.ofString "-") : Int)
noncomputable def costsF (dn : List Row) : List (Str × Int) := dn.foldl (fun c r => kdpPut c r.way (costOf r.mode)) []
noncomputable def LineOK : List Str → List Row → Prop
  | _, [] => True
  | line, r :: rs => 1 ≤ r.dep ∧ r.dep ≤ line.length ∧ r.dep ≤ 200 ∧ (line.getD (r.dep - 1) (Str.ofString "")).length ≤ 100 ∧ r.name ∈ names ∧ joinS (line.getD (r.dep - 1) (Str.ofString "")) r.name = r.way ∧ LineOK (line.take r.dep ++ [r.way]) rs
noncomputable def SNow (SAt : Nat → Led → Prop) (pos : Nat) (tl : Led) : Prop := SAt pos tl
noncomputable def LisJ (w : World) (SAt : Nat → Led → Prop) (ks : List Int) (all : List Row) (m₀ : Str → Option Value) (news₀ : Led) (rem : List Row) (m : Str → Option Value) (news : Led) : Prop :=
  ∃ (l0 ln ct wy : Addr) (lo₀ co₀ wo₀ cdo : Obj) (tl₀ tl : Led) (lvs wvs : List Value) (line : List Str) (n1 n2 pos : Nat) (kvs : List (Str × Value)) (dn : List Row),
    news₀ = (l0, lo₀) :: (ct, co₀) :: (wy, wo₀) :: tl₀ ∧ news = (ln, W.listOf lvs.toArray n1) :: (ct, cdo) :: (wy, W.listOf wvs.toArray n2) :: tl ∧ SAt pos tl ∧ pos ≤ ks.length ∧ ks.drop pos = rem.flatMap rowTape ∧ dn ++ rem = all ∧
    StrsAre lvs line ∧ line.length ≤ 1000 ∧ LineOK line rem ∧ StrsAre wvs (dn.map Row.way) ∧ cdo.IsDictOf (PySem.strKind PySem.Challenge.rw_kt0070_01.row.prog w) kvs ∧ FlatPairs PyData.str kvs (kdpD (costsF dn)) ∧
    (∀ p ∈ tl, p.1 ≠ ln) ∧ (∀ p ∈ tl, p.1 ≠ ct) ∧ (∀ p ∈ tl, p.1 ≠ wy) ∧ ln ≠ ct ∧ ln ≠ wy ∧ ct ≠ wy ∧ Keep (Str.ofString "depth") [(Str.ofString "line", .ref ln)] [Str.ofString "low", Str.ofString "row"] m₀ m
theorem news_drop2 {h₀ h : Heap} {L : Addr} {a b c d : Addr × Obj} {tl : Led} (N : News h₀ L h (a :: b :: c :: d :: tl)) : News h₀ L h (a :: c :: d :: tl) := fun p hp => N p (by
  simp only [List.mem_cons] at hp ⊢
  rcases hp with rfl | rfl | rfl | hp <;> simp [*])
theorem news_lis {h₀ h : Heap} {L : Addr} {a b c d : Addr × Obj} {tl : Led} (N : News h₀ L h (a :: b :: c :: d :: tl)) : News h₀ L h (a :: d :: c :: tl) := fun p hp => N p (by
  simp only [List.mem_cons] at hp ⊢
  rcases hp with rfl | rfl | rfl | hp <;> simp [*])
theorem News.sub {h₀ h : Heap} {L : Addr} {a b : Led} (N : News h₀ L h a) (h1 : ∀ p ∈ b, p ∈ a) : News h₀ L h b := fun p hp => N p (h1 p hp)
theorem costsF_snoc {dn : List Row} {r : Row} : costsF (dn ++ [r]) = kdpPut (costsF dn) r.way (costOf r.mode) := by
  unfold costsF; rw [List.foldl_append]; rfl
theorem costsF_len (dn : List Row) : (costsF dn).length ≤ dn.length := by
  have h : ∀ (dn : List Row) (c : List (Str × Int)), (dn.foldl (fun c r => kdpPut c r.way (costOf r.mode)) c).length ≤ c.length + dn.length := by
    intro dn
    induction dn with
    | nil => intro c; simp
    | cons r dn ih =>
      intro c
      have h1 := ih (kdpPut c r.way (costOf r.mode))
      have h2 := kdpPut_len c r.way (costOf r.mode)
      simp only [List.foldl_cons, List.length_cons]
      omega
  have := h dn []
  simpa [costsF] using this
theorem line_at {lvs : List Value} {line : List Str} (h : StrsAre lvs line) {d : Nat} (h1 : 1 ≤ d) (h2 : d ≤ line.length) : ∃ vi t, lvs.take d = vi ++ [.str (line.getD (d - 1) (Str.ofString "")) t] ∧ StrsAre (lvs.take d) (line.take d) := by
  induction h generalizing d with
  | nil => simp at h2; omega
  | cons c t h ih =>
    cases d with
    | zero => omega
    | succ d =>
      rcases Nat.eq_zero_or_pos d with rfl | hd
      · exact ⟨[], t, rfl, .cons c t .nil⟩
      · obtain ⟨vi, t', e1, e2⟩ := ih (d := d) hd (by simpa using h2)
        refine ⟨.str c t :: vi, t', ?_, .cons c t e2⟩
        rw [List.take_succ_cons, e1]
        obtain ⟨d, rfl⟩ : ∃ e, d = e + 1 := ⟨d - 1, by omega⟩
        rfl
theorem line_el {lvs : List Value} {line : List Str} {P : Prop} (h : StrsAre lvs line) {d : Nat} (h1 : 1 ≤ d) (h2 : d ≤ line.length) (k : ∀ vi t, lvs.take d = vi ++ [.str (line.getD (d - 1) (Str.ofString "")) t] → StrsAre (lvs.take d) (line.take d) → P) : P := by
  obtain ⟨vi, t, e1, e2⟩ := line_at h h1 h2
  exact k vi t e1 e2
theorem fmLs_ones (mode : Int) : ∀ i, ∀ a ∈ fmLs mode i, a.length = 1
  | 0 => fun _ h => nomatch h
  | i + 1 => fun a h => by
    rw [fmLs] at h
    rcases List.mem_append.mp h with h | h
    · exact fmLs_ones mode i a h
    · rw [List.mem_singleton.mp h]; exact fmL_len mode i
theorem row_len (mode : Int) : (Txt.join (Str.ofString "") (fmLs mode 10)).length = 10 := by
  rw [KT.join_ones (fmLs mode 10) (fmLs_ones mode 10), fmLs_len]
theorem c_fmode2 (w : World) (mode m' : Int) (t : Tok) (e : mode = m') (h1 : 0 ≤ m') (h2 : m' < 65536) :
    PCon w 219 3 [Value.int mode t] (fun _ => True) (fun _ r tl => tl = [] ∧ ∃ x t, r = .str x t ∧ x = Txt.join (Str.ofString "") (fmLs m' 10) ∧ x.length = 10) := by
  subst e
  intro p loose mean mg mb dp un gd env outer base s R B X T hd hu hpre hret
  exact c_filemode w mode t h1 h2 p loose mean mg mb dp un gd env outer base s R B X T hd hu trivial fun r tl h' tk' a b ⟨c, t', e⟩ => hret r tl h' tk' a b ⟨c, _, t', e, rfl, row_len mode⟩
@[elab_as_elim]
theorem LisJ.elim {w : World} {SAt : Nat → Led → Prop} {ks : List Int} {all rem : List Row} {x : Row} {m₀ m : Str → Option Value} {l0 ct wy : Addr} {lo₀ co₀ wo₀ : Obj} {tl₀ news : Led} {P : (Str → Option Value) → Led → Prop} (hj : LisJ w SAt ks all m₀ ((l0, lo₀) :: (ct, co₀) :: (wy, wo₀) :: tl₀) (x :: rem) m news)
    (k : ∀ (ln : Addr) (cdo : Obj) (tl : Led) (lvs wvs : List Value) (line : List Str) (n1 n2 pos : Nat) (kvs : List (Str × Value)) (dn : List Row) (u : Str → Option Value), SAt pos tl → pos ≤ ks.length → ks.drop pos = (x :: rem).flatMap rowTape → dn ++ x :: rem = all → StrsAre lvs line → line.length ≤ 1000 → LineOK line (x :: rem) → StrsAre wvs (dn.map Row.way) →
      cdo.IsDictOf (PySem.strKind PySem.Challenge.rw_kt0070_01.row.prog w) kvs → FlatPairs PyData.str kvs (kdpD (costsF dn)) → (∀ p ∈ tl, p.1 ≠ ln) → (∀ p ∈ tl, p.1 ≠ ct) → (∀ p ∈ tl, p.1 ≠ wy) → ln ≠ ct → ln ≠ wy → ct ≠ wy →
      P (fun z => if z = Str.ofString "depth" then u z else if z = Str.ofString "line" then some (.ref ln) else if [Str.ofString "low", Str.ofString "row"].contains z = true then u z else m₀ z) ((ln, W.listOf lvs.toArray n1) :: (ct, cdo) :: (wy, W.listOf wvs.toArray n2) :: tl)) : P m news := by
  obtain ⟨l0', ln, ct', wy', lo₀', co₀', wo₀', cdo, tl₀', tl, lvs, wvs, line, n1, n2, pos, kvs, dn, e0, rfl, hS2, hpo, hdr, hdn, hlv, hll, hLO, hwv, hcd, hfl, o1, o2, o3, q1, q2, q3, hk⟩ := hj
  cases e0
  obtain ⟨u, rfl⟩ := hk.lam1
  exact k ln cdo tl lvs wvs line n1 n2 pos kvs dn u hS2 hpo hdr hdn hlv hll hLO hwv hcd hfl o1 o2 o3 q1 q2 q3
@[elab_as_elim]
theorem LisJ.fin {w : World} {SAt : Nat → Led → Prop} {ks : List Int} {all : List Row} {m₀ m : Str → Option Value} {l0 ct wy : Addr} {lo₀ co₀ wo₀ : Obj} {tl₀ news : Led} {P : (Str → Option Value) → Led → Prop} (hj : LisJ w SAt ks all m₀ ((l0, lo₀) :: (ct, co₀) :: (wy, wo₀) :: tl₀) [] m news)
    (k : ∀ (ln : Addr) (cdo : Obj) (tl : Led) (lvs wvs : List Value) (n1 n2 pos : Nat) (kvs : List (Str × Value)) (u : Str → Option Value), SAt pos tl → pos ≤ ks.length → ks.drop pos = [] → StrsAre wvs (all.map Row.way) →
      cdo.IsDictOf (PySem.strKind PySem.Challenge.rw_kt0070_01.row.prog w) kvs → FlatPairs PyData.str kvs (kdpD (costsF all)) → (∀ p ∈ tl, p.1 ≠ ln) → (∀ p ∈ tl, p.1 ≠ ct) → (∀ p ∈ tl, p.1 ≠ wy) → ln ≠ ct → ln ≠ wy → ct ≠ wy →
      P (fun z => if z = Str.ofString "depth" then u z else if z = Str.ofString "line" then some (.ref ln) else if [Str.ofString "low", Str.ofString "row"].contains z = true then u z else m₀ z) ((ln, W.listOf lvs.toArray n1) :: (ct, cdo) :: (wy, W.listOf wvs.toArray n2) :: tl)) : P m news := by
  obtain ⟨l0', ln, ct', wy', lo₀', co₀', wo₀', cdo, tl₀', tl, lvs, wvs, line, n1, n2, pos, kvs, dn, e0, rfl, hS2, hpo, hdr, hdn, hlv, hll, hLO, hwv, hcd, hfl, o1, o2, o3, q1, q2, q3, hk⟩ := hj
  cases e0
  obtain ⟨u, rfl⟩ := hk.lam1
  rw [List.append_nil] at hdn
  subst hdn
  exact k ln cdo tl lvs wvs n1 n2 pos kvs u hS2 hpo hdr hwv hcd hfl o1 o2 o3 q1 q2 q3
theorem LisJ.next {w : World} {SAt : Nat → Led → Prop} {ks : List Int} {all rem : List Row} {x : Row} {m₀ m : Str → Option Value} {l0 ct wy ln : Addr} {lo₀ co₀ wo₀ cdo : Obj} {tl₀ tl : Led} {lvs wvs : List Value} {line : List Str} {n1 n2 pos d : Nat} {kvs : List (Str × Value)} {dn : List Row} {wt wt2 : Tok} {way : Str} {c : Int} (e : way = x.way) (hS : SNow SAt pos tl) (hpo : pos ≤ ks.length) (hdr : ks.drop pos = rem.flatMap rowTape) (hdn : dn ++ x :: rem = all)
    (hlv : StrsAre lvs (line.take d)) (hll : d ≤ 999) (hLO : LineOK (line.take d ++ [x.way]) rem) (hwv : StrsAre wvs (dn.map Row.way)) (hcd : cdo.IsDictOf (PySem.strKind PySem.Challenge.rw_kt0070_01.row.prog w) kvs) (hc : c = costOf x.mode) (hfl : FlatPairs PyData.str kvs (kdpD (kdpPut (costsF dn) way c)))
    (o1 : ∀ p ∈ tl, p.1 ≠ ln) (o2 : ∀ p ∈ tl, p.1 ≠ ct) (o3 : ∀ p ∈ tl, p.1 ≠ wy) (q1 : ln ≠ ct) (q2 : ln ≠ wy) (q3 : ct ≠ wy) (h1 : m (Str.ofString "line") = some (.ref ln)) (h : ∀ z, z ≠ Str.ofString "depth" → z ≠ Str.ofString "line" → z ≠ Str.ofString "low" → z ≠ Str.ofString "row" → m z = m₀ z) :
    LisJ w SAt ks all m₀ ((l0, lo₀) :: (ct, co₀) :: (wy, wo₀) :: tl₀) rem m ((ln, W.listOf (lvs ++ [Value.str way wt]).toArray n1) :: (ct, cdo) :: (wy, W.listOf (wvs ++ [Value.str way wt2]).toArray n2) :: tl) := by
  subst e hc
  refine ⟨_, _, _, _, _, _, _, _, tl₀, tl, _, _, line.take d ++ [x.way], _, _, pos, _, dn ++ [x], rfl, rfl, hS, hpo, hdr, by rw [List.append_assoc]; exact hdn, StrsAre.snoc hlv, ?_, hLO, ?_, hcd, by rw [costsF_snoc]; exact hfl, o1, o2, o3, q1, q2, q3, Keep.mk1 h1 fun z z1 z2 z3 => ?_⟩
  · rw [List.length_append, List.length_take]; simp only [List.length_cons, List.length_nil]; omega
  · rw [List.map_append]; exact StrsAre.snoc hwv
  · simp only [List.contains_cons, List.contains_nil, Bool.or_false, Bool.or_eq_false_iff, beq_eq_false_iff_ne, ne_eq] at z3
    exact h z z1 z2 z3.1 z3.2
theorem Strm.elim {w : World} {SAt : Nat → Led → Prop} {st : Addr} {ks : List Int} {pos : Nat} {tl : Led} {P : Prop} (S : Strm w SAt st ks) (h : SAt pos tl)
    (k : ∀ fd osl D od fr mm fd2 osl2, (fr, fnO fd2 none osl2) ∈ tl → (st, fnO fd (some D) osl) ∈ tl → (D, od) ∈ tl → NsO od mm → mm (Str.ofString "read") = some (.ref fr) → ReadAt w SAt ks pos tl fr → P) : P := by
  obtain ⟨fd, osl, D, od, fr, mm, fd2, osl2, m0, m1, m2, hns, hmm, hread⟩ := S.at h
  exact k fd osl D od fr mm fd2 osl2 m0 m1 m2 hns hmm hread
/-- a row's octets, one by one -/
structure RowAt (ks : List Int) (pos : Nat) (r : Row) (rem : List Row) : Prop where
  x1 : ks.drop pos = (r.dep : Int) :: ((r.name.length : Int) :: (r.name.cps.toList.map (fun c : Nat => (c : Int)) ++ (r.mode.fmod 256 :: r.mode.fdiv 256 :: rem.flatMap rowTape)))
  x2 : ks.drop (pos + 1) = (r.name.length : Int) :: (r.name.cps.toList.map (fun c : Nat => (c : Int)) ++ (r.mode.fmod 256 :: r.mode.fdiv 256 :: rem.flatMap rowTape))
  x3 : ks.drop (pos + 1 + 1 + r.name.length) = r.mode.fmod 256 :: (r.mode.fdiv 256 :: rem.flatMap rowTape)
  x4 : ks.drop (pos + 1 + 1 + r.name.length + 1) = r.mode.fdiv 256 :: rem.flatMap rowTape
  x5 : ks.drop (pos + 1 + 1 + r.name.length + 1 + 1) = rem.flatMap rowTape
  p5 : pos + 1 + 1 + r.name.length + 1 + 1 ≤ ks.length
  n5 : r.name = Str.ofString "a" ∨ r.name = Str.ofString "..." ∨ r.name = Str.ofString "a-" ∨ r.name = Str.ofString "b." ∨ r.name = Str.ofString "-"
  n3 : r.name.length ≤ 3
  m0 : 0 ≤ r.mode.fmod 256 ∧ r.mode.fmod 256 < 256
  m1 : 0 ≤ r.mode.fdiv 256 ∧ r.mode.fdiv 256 < 256
  mo : r.mode.fmod 256 + 256 * r.mode.fdiv 256 = r.mode
theorem RowAt.of {ks : List Int} {pos : Nat} {r : Row} {rem : List Row} (hdr : ks.drop pos = (r :: rem).flatMap rowTape) (g5 : r.name ∈ names) (hmr : 0 ≤ r.mode ∧ r.mode < 65536) : RowAt ks pos r rem := by
  have hn5 : r.name = Str.ofString "a" ∨ r.name = Str.ofString "..." ∨ r.name = Str.ofString "a-" ∨ r.name = Str.ofString "b." ∨ r.name = Str.ofString "-" := by
    simpa only [names, List.mem_cons, List.not_mem_nil, or_false] using g5
  have hn3 : r.name.length ≤ 3 := by rcases hn5 with e | e | e | e | e <;> rw [e] <;> decide +kernel
  have hcl : (r.name.cps.toList.map (fun c : Nat => (c : Int))).length = r.name.length := by rw [List.length_map, Array.length_toList]; rfl
  have hx1 : ks.drop pos = (r.dep : Int) :: ((r.name.length : Int) :: (r.name.cps.toList.map (fun c : Nat => (c : Int)) ++ (r.mode.fmod 256 :: r.mode.fdiv 256 :: rem.flatMap rowTape))) := by
    rw [hdr, List.flatMap_cons]; unfold rowTape; simp
  have hx2 : ks.drop (pos + 1) = (r.name.length : Int) :: (r.name.cps.toList.map (fun c : Nat => (c : Int)) ++ (r.mode.fmod 256 :: r.mode.fdiv 256 :: rem.flatMap rowTape)) := by
    rw [← List.drop_drop, hx1]; rfl
  have hx3 : ks.drop (pos + 1 + 1 + r.name.length) = r.mode.fmod 256 :: (r.mode.fdiv 256 :: rem.flatMap rowTape) := by
    rw [← List.drop_drop, ← List.drop_drop, hx2, List.drop_one, List.tail_cons, List.drop_append_of_le_length (by omega), List.drop_of_length_le (by omega), List.nil_append]
  have hx4 : ks.drop (pos + 1 + 1 + r.name.length + 1) = r.mode.fdiv 256 :: rem.flatMap rowTape := by
    rw [← List.drop_drop, hx3]; rfl
  have hx5 : ks.drop (pos + 1 + 1 + r.name.length + 1 + 1) = rem.flatMap rowTape := by
    rw [← List.drop_drop, hx4]; rfl
  refine ⟨hx1, hx2, hx3, hx4, hx5, ?_, hn5, hn3, ⟨Int.fmod_nonneg_of_pos _ (by decide), Int.fmod_lt_of_pos _ (by decide)⟩, ?_, ?_⟩
  · rcases Nat.lt_or_ge (pos + 1 + 1 + r.name.length + 1) ks.length with h | h
    · omega
    · rw [List.drop_eq_nil_of_le h] at hx4; cases hx4
  · rw [Int.fdiv_eq_ediv_of_nonneg _ (by decide)]; omega
  · rw [Int.fmod_eq_emod_of_nonneg _ (by decide), Int.fdiv_eq_ediv_of_nonneg _ (by decide)]; omega
section
theorem words_29_1 : True := by
  (k_with "my con lis" => (unfold LCon; intro p_r loose_r mean_r mg_r mb_r dp_r un_r gd_r env_r outer_r base_r s_r R_r g_r hg_r B_r X_r T_r bF_r KD_r hh_r hd_r hu_r hret_r; k_dflt (refine' enter_hid hg_r ?k1_q126 ?k3_q126 ?k5_q126 hh_r ?k6_q126 ?k7_q126 ?k8_q126 ?k9_q126 ?kB_q126 ?_ ?c2_q126 ?c3_q126 ?c4_q126 ?c5_q126; (case k1_q126 => k_asm); (case k3_q126 => exact X_r); (case k5_q126 => exact T_r); (case k6_q126 => k_is); (case k7_q126 => k_is); (case k8_q126 => omega); (case k9_q126 => exact BindsTo.of_eq rfl); (case c5_q126 => decide); (case kB_q126 => exact locs rfl); (case c2_q126 => exact rfl); (case c3_q126 => exact rfl); (case c4_q126 => exact rfl); k_whole; intro L_p h_p F_p N_p l1_r; (try k_lt l1_r); (try dsimp only); (try k_fold))))
  (k_with "my leaving ref" => (k_here; refine' leave_newS ?k1_q127 ?k0_q127 ?k2_q127 ?k3_q127 ?_; (case k0_q127 => assumption); (case k1_q127 => assumption); (case k2_q127 => assumption); (case k3_q127 => k_asm); k_whole; intro h_p R_p R2_p U_p; (try dsimp only at R_p U_p ⊢)))
  (k_with "my noteFrame ref" => (k_here; (rename RaisedSN _ _ _ _ _ _ _ => rsX_r); (rename BaseF _ _ _ _ _ _ _ => bF9_r); (rename KtsDicts _ _ => KD9_r); k_dflt (refine' caught_SN0 (T' := "ValueError") ?R_q128 ?F_q128 ?K_q128 ?U_q128 ?XB_q128 ?TB_q128 ?D_q128 ?T0_q128 ?ex_q128 PyProof.Rows.Boot.«ValueError» ?hn_q128 PySem.F.isExc_ValueError PySem.F.notTuple_ValueError ?hs_q128 ?_; (case R_q128 => assumption); (case F_q128 => assumption); (case K_q128 => assumption); (case U_q128 => assumption); (case XB_q128 => exact bF9_r.1); (case TB_q128 => exact bF9_r.2); (case D_q128 => assumption); (case T0_q128 => exact KtsTurn.refl); (case hs_q128 => first | kts_sub | (rw [isSubtype_type]; kernel_rfl)); (case ex_q128 => k_is); (case hn_q128 => decide); k_whole); intro h_p g_p T_p F_p N_p K_p X_p P_p D_p))
  (k_with "my enter inl" => (k_dflt (refine' wpAny_call (code_def ?k1_q129 ?k2_q129 ?k3_q129 ?k4_q129 ?k5_q129 ?kA_q129 ?kF_q129 ?kK_q129 ?k6_q129 ?k7_q129 ?k8_q129 ?k9_q129 ?kB_q129 ?_ ?c2_q129 ?c3_q129 ?c4_q129 ?c5_q129); (case kA_q129 => exact rfl); (case kF_q129 => exact rfl); (case kK_q129 => exact rfl); (case k1_q129 => k_asm); (case k2_q129 => k_asm); (case k3_q129 => k_asm); (case k4_q129 => k_asm); (case k5_q129 => k_asm); (case k6_q129 => k_is); (case k7_q129 => k_is); (case k8_q129 => walk_at "con room"); (case k9_q129 => exact BindsTo.of_eq rfl); (case c5_q129 => decide); (case kB_q129 => exact locs rfl); (case c2_q129 => exact rfl); (case c3_q129 => exact rfl); (case c4_q129 => exact rfl); k_whole; intro g_p L_p h_p FG_p F_p N_p B_p X_p T_p; (try dsimp only); (try k_lift B_p); (try k_fold))))
  (k_with "my callWith ref" => (k_here; (with_reducible show wpAny _ (Around.deeper _ (envOf (Str.ofString "read_uint1") _ _ _ _)) _ _ _ _); k_dflt (refine' callWith_F ?k1_q130 ?_; (case k1_q130 => exact FnAt.of (by k_asm) (by walk_at "own mem")); k_whole)))
  (k_with "my FnAt" => (k_dflt (exact FnAt.of (by k_asm) (by walk_at "own mem"))))
  (k_with "my call ref" => (k_here; (with_reducible show wpAny _ (Around.deeper _ (envOf (Str.ofString "read_uint1") _ _ _ _)) _ _ _ _); (rename ReadAt _ _ _ _ _ _ => hR_r); k_dflt (refine' HCon.use3 (hR_r _ _ ?p1_q132 ?p2_q132) ?B_q ?F_q ?X_q ?N_q ?T_q ?hf_q ?hk_q ?hd_q ?hu_q ?o1_q132 ?o2_q132 ?o3_q132 ?_; (case p1_q132 => omega); (case p2_q132 => first | omega | decide); walk_at "hid use"; (case o1_q132 => ((try dsimp only); assumption)); (case o2_q132 => ((try dsimp only); assumption)); (case o3_q132 => ((try dsimp only); assumption)); intro r9_r tl9_r h9_r tk9_r F9_r N9_r o19_r o29_r o39_r O9_r; obtain ⟨b9_r, tb9_r, e9_r, hb9_r, hS9_r⟩ := O9_r; subst e9_r; dsimp only at o19_r o29_r o39_r; (try dsimp only); (try k_fold))))
  (k_with "my own updF" => first | (refine' UpdF.head ?a_q133; (case a_q133 => walk_at "own off"; done)) | (refine' UpdF.tail ?a_q133 ?b_q133; (case a_q133 => (try dsimp only); first | assumption | exact Ne.symm (by assumption) | k_ne); (case b_q133 => walk_at "own updF")))
  (k_with "my own upd" => first | (refine' Upd.head ?a_q134; (case a_q134 => walk_at "own off"; done)) | (refine' Upd.tail ?a_q134 ?b_q134; (case a_q134 => (try dsimp only); first | assumption | exact Ne.symm (by assumption) | k_ne); (case b_q134 => walk_at "own upd")))
  (k_with "my own off" => repeat (first | exact off_nil | assumption | refine off_cons (by (try dsimp only); first | assumption | exact Ne.symm (by assumption) | k_ne) ?_))
  (k_with "my last exec While" => (k_here; refine Stop.out ?_))
  (k_with "my exec While" => (k_here; refine Stop.out ?_))
  (k_with "my call ref" => (k_here; (with_reducible show wpAny _ _ (call (Value.ref 165) _) _ _ _); (rename Strm _ _ _ _ => hSt_r); (rename SNow _ _ _ => hS_r); (have hC_r := c_u1 _ _ _ _ hSt_r _ _ hS_r _ _ (by assumption) (by assumption)); k_dflt (first | (refine' HCon.useV3 hC_r ?B_q ?F_q ?X_q ?N_q ?T_q ?hf_q ?hk_q ?hd_q ?hu_q ?o1_q138 ?o2_q138 ?o3_q138 ?_; walk_at "hid use"; (case o1_q138 => assumption); (case o2_q138 => assumption); (case o3_q138 => assumption); intro t9_r tl9_r h9_r tk9_r hS9_r F9_r N9_r o19_r o29_r o39_r) | (refine' HCon.useV4 hC_r ?B_q ?F_q ?X_q ?N_q ?T_q ?hf_q ?hk_q ?hd_q ?hu_q ?o1_q138 ?o2_q138 ?o3_q138 ?o4_q138 ?_; walk_at "hid use"; (case o1_q138 => assumption); (case o2_q138 => assumption); (case o3_q138 => assumption); (case o4_q138 => assumption); intro t9_r tl9_r h9_r tk9_r hS9_r F9_r N9_r o19_r o29_r o39_r o49_r)); (replace hS9_r : SNow _ _ _ := hS9_r); clear hC_r hS_r; (try k_sweep); (try k_fold)))
  (k_with "my call ref" => (k_here; (with_reducible show wpAny _ _ (call (Value.ref 172) _) _ _ _); (rename Strm _ _ _ _ => hSt_r); (rename SNow _ _ _ => hS_r); (have hC_r := c_s1 _ _ _ _ hSt_r _ _ hS_r _ _ (by assumption) (by assumption) (by assumption)); k_dflt (first | (refine' HCon.useV3 hC_r ?B_q ?F_q ?X_q ?N_q ?T_q ?hf_q ?hk_q ?hd_q ?hu_q ?o1_q139 ?o2_q139 ?o3_q139 ?_; walk_at "hid use"; (case o1_q139 => assumption); (case o2_q139 => assumption); (case o3_q139 => assumption); intro t9_r tl9_r h9_r tk9_r hS9_r F9_r N9_r o19_r o29_r o39_r) | (refine' HCon.useV4 hC_r ?B_q ?F_q ?X_q ?N_q ?T_q ?hf_q ?hk_q ?hd_q ?hu_q ?o1_q139 ?o2_q139 ?o3_q139 ?o4_q139 ?_; walk_at "hid use"; (case o1_q139 => assumption); (case o2_q139 => assumption); (case o3_q139 => assumption); (case o4_q139 => assumption); intro t9_r tl9_r h9_r tk9_r hS9_r F9_r N9_r o19_r o29_r o39_r o49_r)); (replace hS9_r : SNow _ _ _ := hS9_r); clear hC_r hS_r; (try k_sweep); (try k_fold)))
  (k_with "my call ref" => (k_here; (with_reducible show wpAny _ _ (call (Value.ref 219) _) _ _ _); k_dflt (refine' PCon.use (c_fmode2 _ _ _ _ (by assumption) (by omega) (by omega)) ?B_q ?F_q ?X_q ?N_q ?T_q ?hf_q ?hk_q ?hd_q ?hu_q ?hp_q140 ?_; (case hp_q140 => exact True.intro); walk_at "con use"; intro r9_r tl9_r h9_r tk9_r S9_r F9_r N9_r D9_r O9_r; obtain ⟨e9_r, x9_r, t9_r, e9_p, hx9_r, hl9_r⟩ := O9_r; subst e9_r; subst e9_p; clear D9_r S9_r; simp only [List.nil_append] at N9_r; (try dsimp only); (try k_fold))))
  (k_with "my subscriptTail Name Slice ref ref" => (k_here; k_dflt (refine' kms_slice_lit ?F_q141 ?N_q141 ?l_q141 ?p_q141 ?q_q141 ?e_q141 ?_ ?s_q141 ?t_q141 ?z_q141; (case F_q141 => k_asm); (case N_q141 => k_asm); (case l_q141 => exact News.isList (by k_asm) (by k_mem)); (case p_q141 => kmk_part); (case q_q141 => kmk_part); (case e_q141 => exact (pick_upto _).trans (by assumption)); (case s_q141 => with_unfolding_all rfl); (case t_q141 => kmk_pure); (case z_q141 => exact size_of_len (by assumption))); intro D_p h_p F_p N_p l1_r; (obtain ⟨f1_r, f2_r, f3_r, f4_r⟩ := off_lt3 l1_r); dsimp only at f1_r f2_r f3_r; clear l1_r; (try k_sweep)))
  (k_with "my subscriptTail Name UnaryOp ref int" => (k_here; (with_reducible show wpAny _ _ (subscriptTail _ _ (Value.ref _) (Value.int (-1) _)) _ _ _); (try dsimp only); k_dflt (refine' item_last ?l_q142 ?_; (case l_q142 => first | exact News.isList (by with_reducible assumption) (List.Mem.head _) | exact News.isList (by k_asm) (by walk_at "own mem")))))
  (k_with "my subscriptTail" => (k_here; (with_reducible show wpAny _ _ (subscriptTail _ _ (Value.ref _) (Value.int (-1) _)) _ _ _); (try dsimp only); k_dflt (refine' item_last ?l_q143 ?_; (case l_q143 => first | exact News.isList (by with_reducible assumption) (List.Mem.head _) | exact News.isList (by k_asm) (by walk_at "own mem")))))
  (k_with "my call builtin:list.append" => (k_here; k_dflt (refine' append_K ?k1_q144 ?k2_q144 ?k3_q144 ?_ ?z_q144; (case k1_q144 => k_asm); (case k2_q144 => k_asm); (case k3_q144 => walk_at "own upd"); (case z_q144 => exact size_of_len (by assumption)); k_whole); intro h_p F_p N_p; (try rw [push_snoc] at N_p); (try k_sweep)))
  (k_with "my setItem ref str" => (k_here; k_dflt (refine' kdp_setItem ?F_q145 ?N_q145 ?U_q145 ?d_q145 ?f_q145 ?z_q145 ?_; (case F_q145 => k_asm); (case N_q145 => k_asm); (case U_q145 => walk_at "own updF"); (case d_q145 => k_asm); (case f_q145 => k_asm); (case z_q145 => omega)); intro h_p o_p kvs_p F_p N_p hd_p hf_p; (try dsimp only at N_p)))
  trivial
theorem c_listing (w : World) (SAt : Nat → Led → Prop) (st : Addr) (ks : List Int) (S : Strm w SAt st ks) (tl : Led) (hS : SAt 0 tl) (rows : List Row) (hks : ks = rows.flatMap rowTape) (hkl : ks.length ≤ 1000) (hrl : rows.length ≤ 6)
    (hL : LineOK [Str.ofString "/"] rows) (hmo : ∀ r ∈ rows, 0 ≤ r.mode ∧ r.mode < 65536) :
    LCon w 252 30 [Value.ref st] tl (fun _ r tl' => ∃ tp wl cd wvs n kvs cdo tl2 pos, r = .ref tp ∧ tl' = (tp, tupO [.ref wl, .ref cd]) :: (wl, W.listOf (List.toArray wvs) n) :: (cd, cdo) :: tl2 ∧ SAt pos tl2 ∧ StrsAre wvs (rows.map Row.way) ∧
      Obj.IsDictOf (PySem.strKind PySem.Challenge.rw_kt0070_01.row.prog w) cdo kvs ∧ FlatPairs PyData.str kvs (kdpD (costsF rows)) ∧ (cd == sysModules) = false) := by
  walk_at "con lis"
  have hS0 : SNow SAt 0 tl := hS
  k_steps
  with_reducible refine Stop.mk ?_
  rename Fr _ _ _ _ => lF
  rename News _ _ _ _ => lN
  with_unfolding_all refine' while_list (LisJ w SAt ks rows) ?hE lF lN ?start ?step ?last
  case hE => first | passes_own | with_unfolding_all passes_own
  case start => exact ⟨_, _, _, _, _, _, _, _, _, tl, [_], [], _, 0, 0, 0, _, [], rfl, rfl, hS, Nat.zero_le _, hks, rfl, .cons _ _ .nil, (by decide), hL, .nil, by assumption, by assumption, off_allLt (by assumption : _ ∧ _ ∧ AllLt _ _).2.2, off_allLt (by assumption : _ ∧ AllLt _ _).2, fun p hp => Nat.ne_of_lt ((by assumption : ∀ p ∈ tl, p.1 < _) p hp), by k_ne, by k_ne, by k_ne, Keep.refl1 (by exact rfl)⟩
  case step =>
    clear lF lN
    intro r rem m news h tk hj F' N'
    revert F' N'
    refine LisJ.elim hj ?_
    clear hj
    intro ln cdo tl2 lvs wvs line n1 n2 pos kvs dn u hS2 hpo hdr hdn hlv hll hLO hwv hcd hfl o1 o2 o3 q1 q2 q3 F' N'
    have g1 := hLO.1
    have g2 := hLO.2.1
    have g3 := hLO.2.2.1
    have g4 := hLO.2.2.2.1
    have g5 := hLO.2.2.2.2.1
    have g6 := hLO.2.2.2.2.2.1
    have g7 := hLO.2.2.2.2.2.2
    refine line_el hlv g1 g2 ?_
    intro vi tw hvi hlv2
    generalize hpw : line.getD (r.dep - 1) (Str.ofString "") = pw at *
    have hmr := hmo r (by rw [← hdn]; simp)
    have hRA := RowAt.of hdr g5 hmr
    have hx1 := hRA.x1
    have hx2 := hRA.x2
    have hx3 := hRA.x3
    have hx4 := hRA.x4
    have hn5 := hRA.n5
    have hn3 := hRA.n3
    have hm0 := hRA.m0
    have hm1 := hRA.m1
    have hmo2 := hRA.mo
    have hlvl : lvs.length ≤ 1048576 := by rw [hlv.length]; omega
    have hdnl : dn.length ≤ 5 := by
      have := congrArg List.length hdn
      rw [List.length_append, List.length_cons] at this
      omega
    have hwvl : wvs.length ≤ 1048576 := by rw [hwv.length, List.length_map]; omega
    have hvil : (vi ++ [Value.str pw tw]).length ≤ 1048576 := by rw [← hvi, List.length_take]; omega
    have hcl2 : (costsF dn).length ≤ 6 := by have h1 := costsF_len dn; omega
    have hS3 : SNow SAt pos tl2 := hS2
    k_steps
    rename Fr _ _ _ _ => lF
    rename News _ _ _ _ => lN
    rename SNow _ _ _ => hS9
    rename Obj.IsDictOf _ _ _ => hcd9
    rename FlatPairs _ _ _ => hfl9
    rename _ = Txt.join _ _ => hx9
    rw [hvi] at hlv2
    exact ⟨_, _, _, _, rfl, lF, news_drop2 lN, LisJ.next g6 hS9 hRA.p5 hRA.x5 hdn hlv2 (by omega) g7 hwv hcd9 (by rw [hx9]; rfl) hfl9 (by assumption) (by assumption) (by assumption) (Ne.symm (by assumption)) (Ne.symm (by assumption)) q3 (by exact rfl) fun z z1 z2 z3 z4 => by simp [z1, z2, z3, z4]⟩
  case last =>
    clear lF lN
    intro m news h tk hj F' N'
    revert F' N'
    refine LisJ.fin hj ?_
    clear hj
    intro ln cdo tl2 lvs wvs n1 n2 pos kvs u hS2 hpo hdr0 hwv hcd hfl o1 o2 o3 q1 q2 q3 F' N'
    refine Strm.elim S hS2 ?_
    intro fd osl D od fr mm fd2 osl2 m0 m1 m2 hns hmm hread
    have hEnd : pos = ks.length := Nat.le_antisymm hpo (List.drop_eq_nil_iff.mp hdr0)
    have hpl : ks.length ≤ pos := List.drop_eq_nil_iff.mp hdr0
    k_steps
    all_goals try dsimp only
    walk_at "enter inl"
    k_steps
    all_goals walk_at "con end"
    rename LRet _ _ _ _ _ => hret
    rename Fr _ _ _ _ => lF
    rename News _ _ _ _ => lN
    rename KtsTurn _ _ _ => hTn
    exact lret_l hret hTn lF (news_lis lN) ⟨_, _, _, _, _, _, _, _, _, rfl, rfl, by assumption, hwv, hcd, hfl, by assumption⟩
end
theorem words_29_2 : True := by
  k_with_none
  (k_with "my con args" => ((rename Fr _ _ _ _ => F1_r); with_unfolding_all (first | change Fr _ _ _ (fun y => List.lookup y [(Str.ofString _, _)]) at F1_r | change Fr _ _ _ (fun y => List.lookup y [(Str.ofString _, _), (Str.ofString _, _)]) at F1_r | change Fr _ _ _ (fun y => List.lookup y [(Str.ofString _, _), (Str.ofString _, _), (Str.ofString _, _)]) at F1_r)))
  (k_with "my execs cons" => k_fold)
  (k_with "my exec If" => k_fold)
  (k_with "my con def" => (refine' enter_def ?k1_q4 ?k3_q4 ?k5_q4 ?k6_q4 ?k7_q4 ?k8_q4 ?k9_q4 ?kB_q4 ?_ ?c2_q4 ?c3_q4 ?c4_q4 ?c5_q4; (case k1_q4 => k_asm); (case k3_q4 => k_asm); (case k5_q4 => k_asm); (case k6_q4 => k_is); (case k7_q4 => k_is); (case k8_q4 => omega); (case k9_q4 => first | exact BindsTo.of_eq rfl | exact binds_K (by k_in) rfl (by k_is) rfl rfl rfl); (case c5_q4 => decide); (case kB_q4 => exact locs rfl); (case c2_q4 => exact rfl); (case c3_q4 => exact rfl); (case c4_q4 => exact rfl); k_whole; intro L_p h_p F_p N_p; (try dsimp only); (try walk_at "con args"); (try k_fold)))
  (k_with "my con rest" => (refine' enter_rest ?k1_q5 ?k3_q5 ?k5_q5 ?k6_q5 ?k7_q5 ?k8_q5 ?k9_q5 ?kz_q5 ?kB_q5 ?_ ?c2_q5 ?c3_q5 ?c4_q5 ?c5_q5; (case k1_q5 => k_asm); (case k3_q5 => k_asm); (case k5_q5 => k_asm); (case k6_q5 => k_is); (case k7_q5 => k_is); (case k8_q5 => omega); (case k9_q5 => exact rfl); (case kz_q5 => exact Nat.le_of_ble_eq_true rfl); (case c5_q5 => decide); (case kB_q5 => exact fun _ => locs rfl); (case c2_q5 => exact rfl); (case c3_q5 => exact rfl); (case c4_q5 => exact rfl); k_whole; intro D_p L_p h_p F_p N_p; (try dsimp only); (try walk_at "con args"); (try k_fold)))
  (k_with "my con enter" => (unfold PCon; intro p_r loose_r mean_r mg_r mb_r dp_r un_r gd_r env_r outer_r base_r s_r R_r B_r X_r T_r hd_r hu_r hpre_r hret_r; k_dflt (first | walk_at "con def" | walk_at "con rest")))
  (k_with "my con end" => (repeat (first | (k_unfold; (try dsimp only)) | dsimp only)))
  (k_with "my con v" => (walk_at "con end"; (rename PRet _ _ _ => hret_r); first | exact pret_v (V := fun t => Value.str _ t) hret_r (by k_asm) | exact pret_v (V := fun t => Value.int _ t) hret_r (by k_asm) | exact pret_v (V := fun _ => Value.bool _) hret_r (by k_asm)))
  (k_with "my con room" => first | omega | (dsimp only [topA, ktrTop, Around.deeper] at *; omega) | ktr_room | (simp only [depth_deeper, depth_caller, units_deeper, units_caller] at *; omega))
  (k_with "my con use" => ((case B_q => k_asm); (case F_q => k_asm); (case X_q => k_asm); (case N_q => k_asm); (case T_q => k_asm); (case hf_q => exact rfl); (case hk_q => exact rfl); (case hd_q => walk_at "con room"); (case hu_q => walk_at "con room")))
  (k_with "my con use v" => ((case hp_q => exact True.intro); walk_at "con use"; intro t9_r h9_r tk9_r F9_r N9_r; (try k_sweep); (try k_fold)))
  (k_with "my call builtin:issubclass" => (k_here; k_dflt (refine' iss_call ?h_q12 ?_; (case h_q12 => exact News.get (by k_asm) (by k_mem)); k_whole)))
  (k_with "my call ref" => (k_here; (with_reducible show wpAny _ _ (call (Value.ref 94) _) _ _ _); k_dflt (refine' PCon.useV (c_fspath _ _ _) ?B_q ?F_q ?X_q ?N_q ?T_q ?hf_q ?hk_q ?hd_q ?hu_q ?hp_q ?_; walk_at "con use v")))
  (k_with "my call ref" => (k_here; (with_reducible show wpAny _ _ (call (Value.ref 115) _) _ _ _); k_dflt (refine' PCon.useV (c_getsep _ _ _) ?B_q ?F_q ?X_q ?N_q ?T_q ?hf_q ?hk_q ?hd_q ?hu_q ?hp_q ?_; walk_at "con use v")))
  (k_with "my truthy str" => (k_here; (with_reducible show wpAny _ _ (PySem.truthy (Value.str _ _)) _ _ _); refine' truthy_ne ?a_q15 ?b_q15 ?_; (case a_q15 => assumption); (case b_q15 => omega); intro _))
  (k_with "my call ref" => (k_here; (with_reducible show wpAny _ _ (call (Value.ref 136) _) _ _ _); k_dflt (refine' PCon.useV (c_dirname _ _ _ (by omega)) ?B_q ?F_q ?X_q ?N_q ?T_q ?hf_q ?hk_q ?hd_q ?hu_q ?hp_q ?_; walk_at "con use v")))
  (k_with "my call ref" => (k_here; (with_reducible show wpAny _ _ (call (Value.ref 122) _) _ _ _); k_dflt (refine' PCon.useV (c_join _ _ _ _ _ (by omega) (by omega)) ?B_q ?F_q ?X_q ?N_q ?T_q ?hf_q ?hk_q ?hd_q ?hu_q ?hp_q ?_; walk_at "con use v")))
  (k_with "my call ref" => (k_here; (with_reducible show wpAny _ _ (call (Value.ref 129) _) _ _ _); k_dflt (refine' PCon.use (c_splitroot _ _ _ (by omega) (by assumption) (by assumption)) ?B_q ?F_q ?X_q ?N_q ?T_q ?hf_q ?hk_q ?hd_q ?hu_q ?hp_q18 ?_; (case hp_q18 => exact True.intro); walk_at "con use"; intro r9_r tl9_r h9_r tk9_r S9_r F9_r N9_r D9_r O9_r; obtain ⟨a9_r, t9_r, t9_p, t9'_p, e9_r, e9_p⟩ := O9_r; subst e9_r; subst e9_p; clear D9_r S9_r; (try simp only [List.cons_append, List.nil_append] at N9_r); (try dsimp only); (try k_fold))))
  (k_with "my call builtin:str.join" => (k_here; (with_reducible show wpAny _ _ (call (Value.builtin _) [Value.str _ _, Value.ref _]) _ _ _); k_dflt (refine' join_listW (News.isList (by k_asm) (by k_mem)) (by assumption) (by decide +kernel) (by assumption) ?_); intro _ _))
  (k_with "my call ref" => (k_here; (with_reducible show wpAny _ _ (call (Value.ref 143) _) _ _ _); k_dflt (refine' PCon.useV (c_normpath _ _ _ _ (by omega) (by assumption) (by assumption) (by assumption) (by assumption) (by assumption) (by assumption) (by assumption)) ?B_q ?F_q ?X_q ?N_q ?T_q ?hf_q ?hk_q ?hd_q ?hu_q ?hp_q ?_; walk_at "con use v")))
  (k_with "my call ref" => (k_here; (with_reducible show wpAny _ _ (call (Value.ref 150) _) _ _ _); k_dflt (refine' PCon.useV (c_abs _ _ _ _ _ (by assumption)) ?B_q ?F_q ?X_q ?N_q ?T_q ?hf_q ?hk_q ?hd_q ?hu_q ?hp_q ?_; walk_at "con use v")))
  (k_with "my call builtin:min" => (k_here; (with_reducible show wpAny _ _ (call (Value.builtin _) [Value.ref _]) _ _ _); k_dflt (refine' min_K ?F_q22 ?N_q22 ?l_q22 ?a_q22 ?b_q22 ?x_q22 ?y_q22 ?e_q22 ?h_q22 ?u_q22 ?_; (case F_q22 => k_asm); (case N_q22 => k_asm); (case l_q22 => assumption); (case a_q22 => assumption); (case b_q22 => assumption); (case x_q22 => assumption); (case y_q22 => assumption); (case e_q22 => assumption); (case h_q22 => rfl); (case u_q22 => walk_at "con room")); intro h_p tk_p F_p N_p))
  (k_with "my call builtin:max" => (k_here; (with_reducible show wpAny _ _ (call (Value.builtin _) [Value.ref _]) _ _ _); k_dflt (refine' max_K ?F_q23 ?N_q23 ?l_q23 ?a_q23 ?b_q23 ?x_q23 ?y_q23 ?e_q23 ?h_q23 ?u_q23 ?_; (case F_q23 => k_asm); (case N_q23 => k_asm); (case l_q23 => assumption); (case a_q23 => assumption); (case b_q23 => assumption); (case x_q23 => assumption); (case y_q23 => assumption); (case e_q23 => assumption); (case h_q23 => rfl); (case u_q23 => walk_at "con room")); intro h_p tk_p F_p N_p))
  (k_with "my EnumPost" => (dsimp only [EnumPost]))
  (k_with "my call builtin:isinstance" => (k_here; (with_reducible show wpAny _ _ (call _ [Value.ref _, Value.ref _]) _ _ _); k_dflt (refine' kia_tup kitx_list ?X_q25 ?H_q25 ?t_q25 ?e_q25 ?x_q25 ?_; (case X_q25 => k_in); (case H_q25 => exact kitAt_old (by k_asm) (by assumption)); (case t_q25 => exact News.get (by k_asm) (by k_mem)); (case e_q25 => exact rfl); (case x_q25 => intro e_r; cases e_r); k_whole; intro _)))
  (k_with "my exec For Tuple Call cons nil" => (k_here; (with_reducible show wpAny _ _ (exec _ (envOf (Str.ofString "commonprefix") _ _ _ _)) _ _ _); (rename Fr _ _ _ _ => lF_p); (with_unfolding_all refine' For_turns lF_p ?_; k_whole)))
  (k_with "my call type:enumerate" => ((with_reducible show wpAny _ (Around.deeper _ (envOf (Str.ofString "commonprefix") _ _ _ _)) (call _ _) _ _ _); refine Stop.out ?_))
  (k_with "my call ref" => (k_here; (with_reducible show wpAny _ _ (call (Value.ref 101) _) _ _ _); k_dflt (refine' PCon.use (c_cpref' _ _ _ _ _ _ _ _ _ _ _ (by assumption) (by assumption) (by assumption) (by assumption) (by assumption) (by omega) (by omega)) ?B_q ?F_q ?X_q ?N_q ?T_q ?hf_q ?hk_q ?hd_q ?hu_q ?hp_q28 ?_; (case hp_q28 => exact ⟨News.isList (by k_asm) (by k_mem), News.isList (by k_asm) (by k_mem), News.isList (by k_asm) (by k_mem)⟩); walk_at "con use"; intro r9_r tl9_r h9_r tk9_r S9_r F9_r N9_r D9_r O9_r; obtain ⟨e9_r, c9_r, cs9_r, e9_p, l9_r, n9_r⟩ := O9_r; subst e9_r; subst e9_p; clear D9_r S9_r; (try simp only [List.nil_append] at N9_r); (try dsimp only); (try k_fold))))
  (k_with "my own list" => first | assumption | exact News.isList (by k_asm) (by k_mem) | exact isList_old (by k_asm) (by assumption))
  (k_with "my own size" => first | omega | assumption | (rw [List.length_drop, strValues_len (by assumption) (by assumption)]; omega) | (rw [strValues_len (by assumption) (by assumption)]; omega) | (rw [List.length_replicate]; omega) | exact rel_ne (by assumption) (by assumption) (by omega) | exact rel_le (by assumption) (by assumption) (by omega) (by omega))
  (k_with "my call builtin:len" => (k_here; (with_reducible show wpAny _ _ (call (Value.builtin "len") [Value.ref _]) _ _ _); k_dflt (refine' len_known ?l_q31 ?n_q31 ?z_q31 ?_; (case l_q31 => assumption); (case n_q31 => assumption); (case z_q31 => omega)); intro _ _))
  (k_with "my call builtin:len" => (k_here; (with_reducible show wpAny _ _ (call (Value.builtin "len") [Value.ref _]) _ _ _); k_dflt (refine' len_known ?l_q32 ?n_q32 ?z_q32 ?_; (case l_q32 => exact News.isList (by k_asm) (by k_mem)); (case n_q32 => exact strValues_len (by assumption) (by assumption)); (case z_q32 => omega)); intro _ _))
  (k_with "my binaryOp Mult ref int" => (k_here; (with_reducible show wpAny _ (Around.deeper _ (envOf (Str.ofString "relpath") _ _ _ _)) (binaryOp Operator.Mult (Value.ref _) (Value.int _ _)) _ _ _); k_dflt (refine' mul_own ?F_q33 ?N_q33 ?l_q33 ?a_q33 ?b_q33 ?_; (case F_q33 => k_asm); (case N_q33 => k_asm); (case l_q33 => walk_at "own list"); (case a_q33 => omega); (case b_q33 => omega)); intro D_p h_p F_p N_p l1_r; (try k_lt l1_r); (try k_sweep)))
  (k_with "my binaryOp Add ref ref" => (k_here; (with_reducible show wpAny _ (Around.deeper _ (envOf (Str.ofString "relpath") _ _ _ _)) (binaryOp Operator.Add (Value.ref _) (Value.ref _)) _ _ _); k_dflt (refine' add_own ?F_q34 ?N_q34 ?l_q34 ?r_q34 ?a_q34 ?b_q34 ?_; (case F_q34 => k_asm); (case N_q34 => k_asm); (case l_q34 => walk_at "own list"); (case r_q34 => walk_at "own list"); (case a_q34 => walk_at "own size"); (case b_q34 => walk_at "own size")); intro D_p h_p F_p N_p l1_r; (try k_lt l1_r); (try k_sweep)))
  (k_with "my subscriptTail Name Slice ref ref" => (k_here; (with_reducible show wpAny _ (Around.deeper _ (envOf (Str.ofString "relpath") _ _ _ _)) (subscriptTail _ (PySem.Expr.Slice _ _ none _) (Value.ref _) (Value.ref _)) _ _ _); k_dflt (refine' kms_slice_lit ?F_q35 ?N_q35 ?l_q35 ?p_q35 ?q_q35 ?e_q35 ?_ ?s_q35 ?t_q35 ?z_q35; (case F_q35 => k_asm); (case N_q35 => k_asm); (case l_q35 => walk_at "own list"); (case p_q35 => kmk_part); (case q_q35 => kmk_part); (case e_q35 => exact pick_from _); (case s_q35 => with_unfolding_all rfl); (case t_q35 => kmk_pure); (case z_q35 => (rw [List.size_toArray, strValues_len (by assumption) (by assumption)]; unfold sizeLine; omega))); intro D_p h_p F_p N_p l1_r; (try k_lt l1_r); (try k_sweep)))
  (k_with "my truthy ref" => (k_here; (with_reducible show wpAny _ (Around.deeper _ (envOf (Str.ofString "relpath") _ _ _ _)) (PySem.truthy (Value.ref _)) _ _ _); refine' truthy_long ?l_q36 ?a_q36 ?b_q36 ?_; (case l_q36 => walk_at "own list"); (case a_q36 => walk_at "own size"); (case b_q36 => walk_at "own size"); intro _))
  (k_with "my call builtin:str.join" => (k_here; (with_reducible show wpAny _ (Around.deeper _ (envOf (Str.ofString "relpath") _ _ _ _)) (call (Value.builtin _) [Value.str _ _, Value.ref _]) _ _ _); k_dflt (refine' join_listW (News.isList (by k_asm) (by k_mem)) (rel_strs (by assumption) (by assumption)) (by decide +kernel) (by assumption) ?_); intro _ _))
  (k_with "my call ref" => (k_here; (with_reducible show wpAny _ _ (call (Value.ref 158) _) _ _ _); k_dflt (refine' PCon.useV (c_rel _ _ _ _ _ _ _ _ _ _ _ (by assumption)) ?B_q ?F_q ?X_q ?N_q ?T_q ?hf_q ?hk_q ?hd_q ?hu_q ?hp_q ?_; walk_at "con use v")))
  (k_with "my costs" => first | assumption | ((rename TabAt _ _ _ _ _ => tAb_r); exact tAb_r.ofFr (by k_asm)))
  (k_with "my subscriptTail" => ((with_reducible show wpAny _ (Around.deeper _ (envOf (Str.ofString "_law_cost") _ _ _ _)) (subscriptTail _ _ (Value.ref _) (Value.str _ _)) _ _ _); refine' kdp_item ?a_q40 ?b_q40 ?_; (case a_q40 => walk_at "costs"); (case b_q40 => assumption); intro _))
  (k_with "my call builtin:dict.get" => ((with_reducible show wpAny _ (Around.deeper _ (envOf (Str.ofString "_law_cost") _ _ _ _)) _ _ _ _); refine' kdp_get2 ?a_q41 ?_; (case a_q41 => walk_at "costs"); intro _))
  (k_with "my call ref" => (k_here; (with_reducible show wpAny _ _ (call (Value.ref 259) _) _ _ _); refine Stop.out ?_))
  (k_with "my EnTPost" => (dsimp only [EnTPost]))
  (k_with "my TupRest" => first | ((with_unfolding_all refine TupRest.succ (fun it' h' tk' hc' F' N' => ?_)); (try dsimp only); (try k_fold)) | ((with_unfolding_all refine TupRest.zero (fun h' tk' F' N' => ?_)); (try dsimp only); (try k_fold)))
  (k_with "my exec For Tuple Call cons nil" => (k_here; (with_reducible show wpAny _ _ (exec _ (envOf (Str.ofString "filemode") _ _ _ _)) _ _ _); (rename Fr _ _ _ _ => lF_p); (with_unfolding_all refine' For_turns lF_p ?_; k_whole)))
  (k_with "my call type:enumerate" => ((with_reducible show wpAny _ (Around.deeper _ (envOf (Str.ofString "filemode") _ _ _ _)) (call _ _) _ _ _); refine Stop.out ?_))
  (k_with "my exec For" => (k_here; (with_reducible show wpAny _ _ (exec (Stmt.For _ (Expr.Name _ _) _ (_ :: _) _) (envOf (Str.ofString "filemode") _ _ _ _)) _ _ _); (rename Fr _ _ _ _ => lF_p); (with_unfolding_all refine' For_else lF_p ?_; k_whole)))
  (k_with "my pyIter ref" => ((with_reducible show wpAny _ (Around.deeper _ (envOf (Str.ofString "filemode") _ _ _ _)) (pyIter (Value.ref _)) _ _ _); refine Stop.out ?_))
  (k_with "my off all" => repeat (first | exact off_nil | refine off_cons (by (try dsimp only); k_ne) ?_))
  (k_with "my UnrEnd" => ((with_reducible show UnrEnd _ _ _ _ _ (TupRest _ _ _ _ _ _ _ _ _ _ _ _ _) _); refine UnrEnd.here (by k_asm) (by k_asm) (by walk_at "off all") ?_))
  (k_with "my fm pick" => first | rfl | exact fmPick_pos (by assumption) | exact fmPick0_pos (by assumption) | (refine fmPick_neg (by assumption) ?_; walk_at "fm pick") | (refine fmPick0_neg (by assumption) ?_; walk_at "fm pick"))
  (k_with "my fm end" => ((rename Fr _ _ _ _ => lF_r); (rename News _ _ _ _ => lN_r); (first | refine EnT.here lF_r lN_r (by exact rfl) ?_ | refine EnT.here1 lF_r lN_r (by exact rfl) ?_); (refine fm_fin (by assumption) (by assumption) rfl (by walk_at "fm pick") ⟨(fun _ h => nomatch h), fun z z1 _ z3_r => ?_⟩; (simp only [List.contains_cons, List.contains_nil, Bool.or_false, Bool.or_eq_false_iff, beq_eq_false_iff_ne, ne_eq] at z3_r); (obtain ⟨z3_r, z4_r, z5_r⟩ := z3_r); simp [z1, z3_r, z4_r, z5_r])))
  (k_with "my call ref" => (k_here; (with_reducible show wpAny _ _ (call (Value.ref 179) _) _ _ _); k_dflt (refine' PCon.useV (c_sifmt _ _ _ (by assumption) (by assumption)) ?B_q ?F_q ?X_q ?N_q ?T_q ?hf_q ?hk_q ?hd_q ?hu_q ?hp_q ?_; walk_at "con use v")))
  (k_with "my own mem" => first | k_mem | (repeat (first | assumption | refine List.mem_cons_of_mem _ ?_)))
  (k_with "my own item" => first | (refine' item_listL ?l_q56 ?a_q56 ?b_q56 ?c_q56 ?_; (case l_q56 => exact News.isList (by k_asm) (by walk_at "own mem")); (case a_q56 => omega); (case b_q56 => omega); (case c_q56 => (first | assumption | rfl))) | (refine' item_tupleL ?l_q56 ?a_q56 ?b_q56 ?c_q56 ?d_q56 ?_; (case l_q56 => exact ⟨_, News.get (by k_asm) (by walk_at "own mem"), rfl, _, rfl⟩); (case a_q56 => decide); (case b_q56 => decide); (case c_q56 => rfl); (case d_q56 => rfl)))
  (k_with "my subscriptTail" => (k_here; (with_reducible show wpAny _ (Around.deeper _ (envOf (Str.ofString "_law_tree") _ _ _ _)) (subscriptTail _ _ (Value.ref _) (Value.int _ _)) _ _ _); walk_at "own item"))
  (k_with "my call builtin:len" => (k_here; (with_reducible show wpAny _ (Around.deeper _ (envOf (Str.ofString "_law_tree") _ _ _ _)) (call (Value.builtin "len") [Value.ref _]) _ _ _); k_dflt (refine' len_known ?l_q58 ?n_q58 ?z_q58 ?_; (case l_q58 => exact News.isList (by k_asm) (by walk_at "own mem")); (case n_q58 => assumption); (case z_q58 => omega)); intro _ _))
  (k_with "my own upd" => first | (refine' Upd.head ?a_q59; (case a_q59 => first | assumption | (walk_at "off all"; done))) | (refine' Upd.tail ?a_q59 ?b_q59; (case a_q59 => k_ne); (case b_q59 => walk_at "own upd")))
  (k_with "my call builtin:list.append" => (k_here; (with_reducible show wpAny _ (Around.deeper _ (envOf (Str.ofString "_law_tree") _ _ _ _)) (call (Value.builtin _) [Value.ref _, _]) _ _ _); k_dflt (refine' append_K ?k1_q60 ?k2_q60 ?k3_q60 ?_ ?z_q60; (case k1_q60 => k_asm); (case k2_q60 => k_asm); (case k3_q60 => walk_at "own upd"); (case z_q60 => exact size_of_len (by assumption)); k_whole); intro h_p F_p N_p; (try k_sweep)))
  (k_with "my pyIter ref" => ((with_reducible show wpAny _ (Around.deeper _ (envOf (Str.ofString "_law_tree") _ _ _ _)) (pyIter (Value.ref _)) _ _ _); refine Stop.out ?_))
  (k_with "my call ref" => (k_here; (with_reducible show wpAny _ _ (call (Value.ref 233) _) _ _ _); refine Stop.out ?_))
  (k_with "my binaryOp Add ref ref" => (k_here; (with_reducible show wpAny _ (Around.deeper _ (envOf (Str.ofString "_law_order") _ _ _ _)) (binaryOp Operator.Add (Value.ref _) (Value.ref _)) _ _ _); k_dflt (refine' add_own (vs := [_]) ?F_q66 ?N_q66 ?l_q66 ?r_q66 ?a_q66 ?b_q66 ?_; (case F_q66 => k_asm); (case N_q66 => k_asm); (case l_q66 => exact News.isList (by k_asm) (by k_mem)); (case r_q66 => exact News.isList (by k_asm) (by k_mem)); (case a_q66 => exact Nat.le_of_ble_eq_true rfl); (case b_q66 => omega)); intro D_p h_p F_p N_p l1_r; (try k_lt l1_r); (try k_sweep)))
  (k_with "my own upd" => first | (refine' Upd.head ?a_q67; (case a_q67 => first | assumption | (walk_at "off all"; done))) | (refine' Upd.tail ?a_q67 ?b_q67; (case a_q67 => first | k_ne | exact Ne.symm (by assumption)); (case b_q67 => walk_at "own upd")))
  (k_with "my inplaceOp Add ref ref" => (k_here; (with_reducible show wpAny _ (Around.deeper _ (envOf (Str.ofString "_law_order") _ _ _ _)) (inplaceOp Operator.Add (Value.ref _) (Value.ref _)) _ _ _); k_dflt (refine' iadd_own ?F_q68 ?N_q68 ?b_q68 ?U_q68 ?_ ?a_q68 ?z_q68; (case F_q68 => k_asm); (case N_q68 => k_asm); (case b_q68 => k_mem); (case U_q68 => walk_at "own upd"); (case a_q68 => assumption); (case z_q68 => simp only [List.length_append, List.length_cons, List.length_nil]; omega); k_whole); intro h_p F_p N_p; (try k_sweep)))
  (k_with "my pyIter ref" => ((with_reducible show wpAny _ (Around.deeper _ (envOf (Str.ofString "_law_order") _ _ _ _)) (pyIter (Value.ref _)) _ _ _); refine Stop.out ?_))
  (k_with "my call builtin:len" => (k_here; (with_reducible show wpAny _ (Around.deeper _ (envOf (Str.ofString "_law_order") _ _ _ _)) (call (Value.builtin "len") [Value.ref _]) _ _ _); k_dflt (refine' len_known ?l_q70 ?n_q70 ?z_q70 ?_; (case l_q70 => exact isList_old (by k_asm) (by assumption)); (case n_q70 => assumption); (case z_q70 => omega)); intro _ _))
  (k_with "my old item" => first | (refine' item_listL ?l_q71 ?a_q71 ?b_q71 ?c_q71 ?_; (case l_q71 => exact isList_old (by k_asm) (by assumption)); (case a_q71 => omega); (case b_q71 => omega); (case c_q71 => assumption)) | (refine' item_tupleL ?l_q71 ?a_q71 ?b_q71 ?c_q71 ?d_q71 ?_; (case l_q71 => exact isTup_old (by k_asm) (by assumption)); (case a_q71 => decide); (case b_q71 => decide); (case c_q71 => rfl); (case d_q71 => rfl)))
  (k_with "my subscriptTail" => (k_here; (with_reducible show wpAny _ (Around.deeper _ (envOf (Str.ofString "_law_order") _ _ _ _)) (subscriptTail _ _ (Value.ref _) (Value.int _ _)) _ _ _); walk_at "old item"))
  (k_with "my call ref" => (k_here; (with_reducible show wpAny _ (Around.deeper _ (envOf (Str.ofString "_law_order") _ _ _ _)) (call (Value.ref 240) _) _ _ _); (rename OrdIH _ _ _ _ _ _ _ _ => ihX_r); k_dflt (refine' PCon.use (ihX_r _) ?B_q ?F_q ?X_q ?N_q ?T_q ?hf_q ?hk_q ?hd_q ?hu_q ?hp_q73 ?_; (case hp_q73 => (rename TreeAt _ _ _ _ _ => tT_r; exact tT_r.keep (fun b o e => Fr.keep (by k_asm) b o e))); walk_at "con use"; intro r9_r tl9_r h9_r tk9_r S9_r F9_r N9_r D9_r O9_r; obtain ⟨d9_r, vs9_r, n9_r, e9_r, e9_p, hI9_r⟩ := O9_r; subst e9_r; subst e9_p; clear S9_r; (try simp only [List.cons_append, List.nil_append] at N9_r); (try simp only [List.mem_cons, List.not_mem_nil, or_false, forall_eq_or_imp, forall_eq] at D9_r); (try (first | obtain ⟨D1_r, D2_r, D3_r, D4_r, D5_r⟩ := D9_r | obtain ⟨D1_r, D2_r, D3_r, D4_r⟩ := D9_r | obtain ⟨D1_r, D2_r, D3_r⟩ := D9_r | obtain ⟨D1_r, D2_r⟩ := D9_r)); (have hz9_r := order_len hI9_r (by assumption) (by omega)); (try dsimp only); (try k_fold))))
  (k_with "my UnrEnd" => ((with_reducible show UnrEnd _ _ _ _ _ (OrderJ _ _ _ _ _ _) _); refine Stop.out ?_))
  (k_with "my eval ListComp" => (k_here; (with_reducible show wpAny _ _ (eval _ (envOf (Str.ofString "_law_tape") _ _ _ _)) _ _ _); k_dflt (refine ListComp_text (F₀ := by k_asm) (by with_unfolding_all rfl) (by decide) (by rfl) (by decide) (by rfl) ?_)))
  (k_with "my SrcT" => (refine Stop.out ?_))
  (k_with "my exec For" => (k_here; (with_reducible show wpAny _ _ (exec (Stmt.For _ _ _ _ _) (envOf (Str.ofString "_law_tape") _ _ _ _)) _ _ _); (rename Fr _ _ _ _ => lF_p); (with_unfolding_all refine' For_invVF lF_p ?g_q77 ?p_q77 ?_; (case g_q77 => exact rfl); (case p_q77 => exact rfl); k_whole)))
  (k_with "my pyIter ref" => ((with_reducible show wpAny _ (Around.deeper _ (envOf (Str.ofString "_law_tape") _ _ _ _)) (pyIter (Value.ref _)) _ _ _); refine Stop.out ?_))
  (k_with "my subscriptTail" => (k_here; (with_reducible show wpAny _ (Around.deeper _ (envOf (Str.ofString "_law_tape") _ _ _ _)) (subscriptTail _ _ (Value.ref _) (Value.int _ _)) _ _ _); walk_at "old item"))
  (k_with "my inplaceOp Add ref ref" => (k_here; (with_reducible show wpAny _ (Around.deeper _ (envOf (Str.ofString "_law_tape") _ _ _ _)) (inplaceOp Operator.Add (Value.ref _) (Value.ref _)) _ _ _); k_dflt (refine' iadd_own ?F_q80 ?N_q80 ?b_q80 ?U_q80 ?_ ?a_q80 ?z_q80; (case F_q80 => k_asm); (case N_q80 => k_asm); (case b_q80 => k_mem); (case U_q80 => walk_at "own upd"); (case a_q80 => first | omega | (simp only [List.length_append, List.length_cons, List.length_nil]; omega)); (case z_q80 => first | exact Nat.le_of_ble_eq_true rfl | (simp only [List.length_append, List.length_cons, List.length_nil]; omega)); k_whole); intro h_p F_p N_p; (try k_sweep)))
  (k_with "my binaryOp Add ref ref" => (k_here; (with_reducible show wpAny _ (Around.deeper _ (envOf (Str.ofString "_law_tape") _ _ _ _)) (binaryOp Operator.Add (Value.ref _) (Value.ref _)) _ _ _); k_dflt (refine' add_own (vs := [_, _]) ?F_q81 ?N_q81 ?l_q81 ?r_q81 ?a_q81 ?b_q81 ?_; (case F_q81 => k_asm); (case N_q81 => k_asm); (case l_q81 => exact News.isList (by k_asm) (by k_mem)); (case r_q81 => exact News.isList (by k_asm) (by k_mem)); (case a_q81 => exact Nat.le_of_ble_eq_true rfl); (case b_q81 => with_reducible assumption)); intro D_p h_p F_p N_p l1_r; (try k_lt l1_r); (try k_sweep)))
  (k_with "my call builtin:ord" => (k_here; with_reducible refine ord_sign ?_))
  (k_with "my pyIter ref" => ((with_reducible show wpAny _ (Around.deeper _ (envOf (Str.ofString "_law_due") _ _ _ _)) (pyIter (Value.ref _)) _ _ _); refine Stop.out ?_))
  (k_with "my exec For" => (k_here; (with_reducible show wpAny _ _ (exec (Stmt.For _ _ _ _ _) (envOf (Str.ofString "_law_due") _ _ _ _)) _ _ _); (rename Fr _ _ _ _ => lF_p); (with_unfolding_all refine' For_invVF lF_p ?g_q84 ?p_q84 ?_; (case g_q84 => exact rfl); (case p_q84 => exact rfl); k_whole)))
  (k_with "my call builtin:len" => (k_here; (with_reducible show wpAny _ (Around.deeper _ (envOf (Str.ofString "_law_due") _ _ _ _)) (call (Value.builtin "len") [Value.ref _]) _ _ _); k_dflt (refine' len_known ?l_q85 ?n_q85 ?z_q85 ?_; (case l_q85 => first | exact isList_old (by k_asm) (by assumption) | exact News.isList (by k_asm) (by k_mem)); (case n_q85 => assumption); (case z_q85 => omega)); intro _ _))
  (k_with "my subscriptTail" => (k_here; (with_reducible show wpAny _ (Around.deeper _ (envOf (Str.ofString "_law_due") _ _ _ _)) (subscriptTail _ _ (Value.ref _) (Value.int _ _)) _ _ _); walk_at "old item"))
  (k_with "my call ref" => (k_here; (with_reducible show wpAny _ (Around.deeper _ (envOf (Str.ofString "_law_due") _ _ _ _)) (call (Value.ref 240) _) _ _ _); (rename OrdIH _ _ _ _ _ _ _ _ => ihX_r); k_dflt (refine' PCon.use (ihX_r _) ?B_q ?F_q ?X_q ?N_q ?T_q ?hf_q ?hk_q ?hd_q ?hu_q ?hp_q87 ?_; (case hp_q87 => (rename TreeAt _ _ _ _ _ => tT_r; exact tT_r.keep (fun b o e => Fr.keep (by k_asm) b o e))); walk_at "con use"; intro r9_r tl9_r h9_r tk9_r S9_r F9_r N9_r D9_r O9_r; obtain ⟨d9_r, vs9_r, n9_r, e9_r, e9_p, hI9_r⟩ := O9_r; subst e9_r; subst e9_p; clear S9_r D9_r; (try simp only [List.cons_append, List.nil_append] at N9_r); (have hz9_r := IntsAre.length hI9_r); (rw [List.length_map] at hz9_r); (try dsimp only); (try k_fold))))
  (k_with "my UnrEnd" => ((with_reducible show UnrEnd _ _ _ _ _ (DueJ _ _ _ _) _); refine Stop.out ?_))
  (k_with "my UnrEnd" => ((with_reducible show UnrEnd _ _ _ _ _ (DueI _ _ _ _ _) _); refine Stop.out ?_))
  (k_with "my binaryOp Pow int int" => ((first | (with_reducible refine pow_p (by assumption) ?_) | (with_reducible refine pow_q (by assumption) ?_)); (try dsimp only)))
  (k_with "my binaryOp FloorDiv int int" => ((first | (with_reducible refine div_pq (.inl rfl) ?_) | (with_reducible refine div_pq (.inr rfl) ?_)); (try dsimp only)))
  (k_with "my con cells" => (refine' enter_cells ?k1_q95 ?k3_q95 ?k5_q95 ?k6_q95 ?k7_q95 ?k8_q95 ?k9_q95 ?kB_q95 ?kD_q95 ?_ ?c2_q95 ?c3_q95 ?c4_q95; (case k1_q95 => k_asm); (case k3_q95 => k_asm); (case k5_q95 => k_asm); (case k6_q95 => k_is); (case k7_q95 => k_is); (case k8_q95 => omega); (case k9_q95 => first | exact BindsTo.of_eq rfl | exact binds_K (by k_in) rfl (by k_is) rfl rfl rfl); (case kB_q95 => exact rfl); (case kD_q95 => decide +kernel); (case c2_q95 => exact rfl); (case c3_q95 => exact rfl); (case c4_q95 => exact rfl); k_whole; intro L_p h_p tk_p cells_p F_p N_p Y_p; k_cells Y_p; (try simp only [List.cons_append, List.nil_append] at N_p); (try dsimp only); (try k_fold)))
  (k_with "my con enter c" => (unfold PCon; intro p_r loose_r mean_r mg_r mb_r dp_r un_r gd_r env_r outer_r base_r s_r R_r B_r X_r T_r hd_r hu_r hpre_r hret_r; k_dflt (walk_at "con cells")))
  (k_with "my pyIter ref" => ((with_reducible show wpAny _ _ (pyIter (Value.ref _)) (fun it s₂ => TurnsAt _ _ _ _ _ _ _ _ _ it s₂) _ _); refine Stop.out ?_))
  (k_with "my exec For" => (k_here; (with_reducible show wpAny _ _ (exec (Stmt.For _ _ _ _ _) (envX (Str.ofString "_law_orders") _ _ _ _ _)) _ _ _); (rename Fr _ _ _ _ => lF_p); (with_unfolding_all refine' For_turns lF_p ?_; k_whole)))
  (k_with "my exec For" => (k_here; (with_reducible show wpAny _ _ (exec (Stmt.For _ _ _ _ _) (envOfC (Str.ofString "_law_orders") _ _ _ _)) _ _ _); (rename Fr _ _ _ _ => lF_p); (with_unfolding_all refine' For_turns lF_p ?_; k_whole)))
  (k_with "my call ref" => (k_here; (with_reducible show wpAny _ (Around.deeper _ (envOfC (Str.ofString "_law_orders") _ _ _ _)) (call (Value.ref 264) _) _ _ _); (rename OrdersIH _ _ => ihX_r); k_dflt (refine' OrdersIH.use ihX_r (IntsAre.ofCarried (by assumption)) (by assumption) ?B_q ?F_q ?X_q ?N_q ?T_q ?hf_q ?hk_q ?hd_q ?hu_q ?hp_q100 ?o1_q100 ?o2_q100 ?o3_q100 ?_; (case hp_q100 => assumption); walk_at "con use"; (case o1_q100 => assumption); (case o2_q100 => assumption); (case o3_q100 => assumption); intro d9_r as9_r vss9_r n9_r RL9_r h9_r tk9_r hl9_r hL9_r r1_r r2_r r3_r r4_r r5_r d1_r d2_r d3_r F9_r N9_r; (try k_sweep); (try k_fold))))
  (k_with "my exec For" => (k_here; (with_reducible show wpAny _ _ (exec (Stmt.For (Expr.Name (Str.ofString "order") _) _ _ _ _) (envOfC (Str.ofString "_law_orders") _ _ _ _)) _ _ _); (rename Fr _ _ _ _ => lF_p); (with_unfolding_all refine' For_invVF lF_p ?g_q101 ?p_q101 ?_; (case g_q101 => exact rfl); (case p_q101 => exact rfl); k_whole)))
  (k_with "my pyIter ref" => ((with_reducible show wpAny _ (Around.deeper _ (envOfC (Str.ofString "_law_orders") _ _ _ _)) (pyIter (Value.ref _)) (fun it s₂ => LoopAtV _ _ _ _ _ _ _ _ _ it s₂) _ _); refine Stop.out ?_))
  (k_with "my own off" => repeat (first | exact off_nil | assumption | refine off_cons (by (try dsimp only); first | k_ne | assumption | exact Ne.symm (by assumption)) ?_))
  (k_with "my own upd" => first | (refine' Upd.head ?a_q104; (case a_q104 => walk_at "own off"; done)) | (refine' Upd.tail ?a_q104 ?b_q104; (case a_q104 => first | k_ne | assumption | exact Ne.symm (by assumption)); (case b_q104 => walk_at "own upd")))
  (k_with "my binaryOp Add ref ref" => (k_here; (with_reducible show wpAny _ (Around.deeper _ (envOfC (Str.ofString "_law_orders") _ _ _ _)) (binaryOp Operator.Add (Value.ref _) (Value.ref _)) _ _ _); k_dflt (refine' add_own (vs := [_]) ?F_q105 ?N_q105 ?l_q105 ?r_q105 ?a_q105 ?b_q105 ?_; (case F_q105 => k_asm); (case N_q105 => k_asm); (case l_q105 => exact News.isList (by k_asm) (by k_mem)); (case r_q105 => exact News.isList (by k_asm) (by walk_at "own mem")); (case a_q105 => exact Nat.le_of_ble_eq_true rfl); (case b_q105 => assumption)); intro D_p h_p F_p N_p l1_r; (try k_lt l1_r); (try k_sweep)))
  (k_with "my call builtin:list.append" => (k_here; (with_reducible show wpAny _ (Around.deeper _ (envOfC (Str.ofString "_law_orders") _ _ _ _)) (call (Value.builtin _) [Value.ref _, _]) _ _ _); k_dflt (refine' append_K ?k1_q106 ?k2_q106 ?k3_q106 ?_ ?z_q106; (case k1_q106 => k_asm); (case k2_q106 => k_asm); (case k3_q106 => walk_at "own upd"); (case z_q106 => exact size_of_len (by assumption)); k_whole); intro h_p F_p N_p; (try k_sweep)))
  (k_with "my UnrEnd" => ((with_reducible show UnrEnd _ _ _ _ _ (fun m' n' => (_ : Addr × Obj) ∈ n' ∧ OrdI _ _ _ _ _ _ m' n') _); refine Stop.out ?_))
  (k_with "my UnrEnd" => ((with_reducible show UnrEnd _ _ _ _ _ (fun m' n' => OrdsJ _ _ _ _ _ m' n') _); refine Stop.out ?_))
  (k_with "my own updF" => first | (refine' UpdF.head ?a_q109; (case a_q109 => first | assumption | (walk_at "off all"; done))) | (refine' UpdF.tail ?a_q109 ?b_q109; (case a_q109 => first | k_ne | exact Ne.symm (by assumption)); (case b_q109 => walk_at "own updF")))
  (k_with "my storeName" => (k_here; (with_reducible show wpAny _ _ (storeName (envOfC (Str.ofString "_law_orders") _ _ _ _) (Str.ofString "one") _) _ _ _); k_dflt (refine' storeX_C ?F_q110 ?N_q110 ?c_q110 ?U_q110 ?d_q110 ?_ ?a_q110 ?b_q110; (case a_q110 => rfl); (case b_q110 => rfl); (case F_q110 => k_asm); (case N_q110 => k_asm); (case c_q110 => rfl); (case U_q110 => walk_at "own updF"); (case d_q110 => k_asm)); intro h_p o_p F_p N_p d_p; (try dsimp only at N_p)))
  (k_with "my compareOp Eq ref ref" => (k_here; (with_reducible show wpAny _ (Around.deeper _ (envOfC (Str.ofString "_law_orders") _ _ _ _)) (compareOp CmpOp.Eq (Value.ref _) (Value.ref _)) _ _ _); k_dflt (refine' eq_intsK ?k1_q111 ?k2_q111 ?k3_q111 ?k4_q111 ?k5_q111 ?_; (case k1_q111 => exact isList_old (by k_asm) (by assumption)); (case k2_q111 => first | assumption | exact .nil); (case k3_q111 => exact News.isList (by k_asm) (by k_mem)); (case k4_q111 => exact .nil); (case k5_q111 => walk_at "con room"))))
  (k_with "my con hid" => (unfold HCon; intro p_r loose_r mean_r mg_r mb_r dp_r un_r gd_r env_r outer_r base_r s_r R_r g_r hg_r B_r X_r T_r hh_r hd_r hu_r hpre_r hret_r; k_dflt (refine' enter_hid hg_r ?k1_q112 ?k3_q112 ?k5_q112 hh_r ?k6_q112 ?k7_q112 ?k8_q112 ?k9_q112 ?kB_q112 ?_ ?c2_q112 ?c3_q112 ?c4_q112 ?c5_q112; (case k1_q112 => k_asm); (case k3_q112 => k_asm); (case k5_q112 => k_asm); (case k6_q112 => k_is); (case k7_q112 => k_is); (case k8_q112 => omega); (case k9_q112 => first | exact BindsTo.of_eq rfl | exact binds_K (by k_in) rfl (by k_is) rfl rfl rfl); (case c5_q112 => decide); (case kB_q112 => exact locs rfl); (case c2_q112 => exact rfl); (case c3_q112 => exact rfl); (case c4_q112 => exact rfl); k_whole; intro L_p h_p F_p N_p l1_r; (try k_lt l1_r); (try dsimp only); (try k_fold))))
  (k_with "my con law" => (k_dflt (refine' enter_law ?kg_q113 ?k3_q113 ?k5_q113 ?kh_q113 ?k6_q113 ?k7_q113 ?k9_q113 ?kB_q113 ?kD_q113 ?_ ?c2_q113 ?c3_q113 ?c4_q113; (case kg_q113 => k_asm); (case k3_q113 => k_asm); (case k5_q113 => k_asm); (case kh_q113 => k_asm); (case k6_q113 => k_is); (case k7_q113 => k_is); (case k9_q113 => first | exact BindsTo.of_eq rfl | exact binds_K (by k_in) rfl (by k_is) rfl rfl rfl); (case kB_q113 => exact rfl); (case kD_q113 => decide +kernel); (case c2_q113 => exact rfl); (case c3_q113 => exact rfl); (case c4_q113 => exact rfl); k_whole; intro L_p h_p tk_p cells_p F_p N_p Y_p B_p l1_r; k_lt l1_r; k_cells Y_p; (try simp only [List.cons_append, List.nil_append] at N_p); (try dsimp only); (try k_fold))))
  (k_with "my setAttr ref" => (k_here; (with_reducible show wpAny _ (Around.deeper _ (envOfC (Str.ofString "_law_stream") _ _ _ _)) (setAttr (Value.ref _) (Str.ofString "read") _) _ _ _); k_dflt (refine' fnset_N ?F_q114 ?N_q114 ?U_q114 fn_no_read ?_; (case F_q114 => k_asm); (case N_q114 => k_asm); (case U_q114 => k_updF)); intro D_p od_p h_p tk_p F_p N_p hd_p l1_r; (try dsimp only at N_p); (try k_lt l1_r)))
  (k_with "my con hidc" => (unfold HCon; intro p_r loose_r mean_r mg_r mb_r dp_r un_r gd_r env_r outer_r base_r s_r R_r g_r hg_r B_r X_r T_r hh_r hd_r hu_r hpre_r hret_r; k_dflt (refine' enter_hidC hg_r ?k1_q115 ?k3_q115 ?k5_q115 hh_r ?k6_q115 ?k7_q115 ?k8_q115 ?k9_q115 ?kB_q115 ?kD_q115 ?_ ?c2_q115 ?c3_q115 ?c4_q115; (case k1_q115 => k_asm); (case k3_q115 => k_asm); (case k5_q115 => k_asm); (case k6_q115 => k_is); (case k7_q115 => k_is); (case k8_q115 => omega); (case k9_q115 => first | exact BindsTo.of_eq rfl | exact binds_K (by k_in) rfl (by k_is) rfl rfl rfl); (case kB_q115 => exact rfl); (case kD_q115 => decide +kernel); (case c2_q115 => exact rfl); (case c3_q115 => exact rfl); (case c4_q115 => exact rfl); k_whole; intro L_p h_p tk_p cells_p F_p N_p Y_p l1_r; k_lt l1_r; k_cells Y_p; (try simp only [List.cons_append, List.nil_append] at N_p); (try dsimp only); (try k_fold))))
  (k_with "my con clo" => (unfold HCon; intro p_r loose_r mean_r mg_r mb_r dp_r un_r gd_r env_r outer_r base_r s_r R_r g_r hg_r B_r X_r T_r hh_r hd_r hu_r hpre_r hret_r; k_dflt (refine' enter_clo hg_r ?k1_q116 ?k5_q116 hh_r ?k6_q116 ?k7_q116 ?k8_q116 ?k8' ?k9_q116 ?k10_q116 ?kB_q116 ?_ ?c2_q116 ?c3_q116 ?c4_q116 ?c5_q116; (case k1_q116 => k_asm); (case k5_q116 => k_asm); (case k6_q116 => k_mem); (case k7_q116 => k_mem); (case k8_q116 => k_asm); (case k8' => k_asm); (case k9_q116 => omega); (case k10_q116 => exact BindsTo.of_eq rfl); (case c5_q116 => decide); (case kB_q116 => exact locs rfl); (case c2_q116 => exact rfl); (case c3_q116 => exact rfl); (case c4_q116 => exact rfl); k_whole; intro L_p h_p F_p N_p l1_r; (try k_lt l1_r); (try dsimp only); (try k_fold))))
  (k_with "my getMethod ref" => (k_here; (with_reducible show wpAny _ _ (getMethod (Value.ref _) (Str.ofString "read") _) _ _ _); k_dflt (refine' read_K ?N_q117 ?a_q117 ?b_q117 ?c_q117 ?d_q117 ?_; (case N_q117 => k_asm); (case a_q117 => walk_at "own mem"); (case b_q117 => walk_at "own mem"); (case c_q117 => assumption); (case d_q117 => assumption)); intro _; (try dsimp only)))
  (k_with "my callWith ref" => (k_here; k_dflt (first | (refine' callWith_F ?k1_q118 ?_; (case k1_q118 => exact FnAt.of (by k_asm) (by assumption)); k_whole) | (refine' callWith_F0 ?k1_q118 ?_; (case k1_q118 => exact FnAt.of (by k_asm) (by assumption)); k_whole; try dsimp only [List.nil_append, List.cons_append]))))
  (k_with "my FnAt" => (k_dflt (exact FnAt.of (by k_asm) (by assumption))))
  (k_with "my hid use" => ((case B_q => k_asm); (case F_q => k_asm); (case X_q => k_asm); (case N_q => k_asm); (case T_q => k_asm); (case hf_q => exact rfl); (case hk_q => exact rfl); (case hd_q => walk_at "con room"); (case hu_q => walk_at "con room")))
  trivial
/-! words for the law's own steps -/
theorem shaped_strsA : ∀ ns : List Str, (∀ y ∈ ns, PyData.strOk y = true) → PyData.canLayAll0 (ns.map PyData.str) = true
  | [], _ => rfl
  | _ :: r, h => by simp [PyData.canLayAll0, PyData.canLay0, shaped_strsA r fun y hy => h y (.tail _ hy), h _ (.head _)]
theorem depth_strsA : ∀ ns : List Str, PyData.depthAll (ns.map PyData.str) = 0
  | [] => rfl
  | _ :: r => by simp [PyData.depthAll, PyData.depth, depth_strsA r]
theorem shaped_strs (ns : List Str) (h : ∀ y ∈ ns, PyData.strOk y = true) : SeqAt.shaped (.list (ns.map PyData.str)) = true := by
  simp [SeqAt.shaped, PyData.canLay0, PyData.depth, shaped_strsA ns h, depth_strsA]
section
variable {prog : Program} {w : World} {A : Around} {E : Value → Shared → Prop} {s : Shared} {a b : Addr} {xs ys : List Value} {ns ms : List Str} {Q : Value → Shared → Prop}
theorem ne_strsSame (ha : s.heap.IsList a xs.toArray) (hb : s.heap.IsList b ys.toArray) (hi : StrsAre xs ns) (hj : StrsAre ys ms) (hu : A.units + 64 < cLine) (e : ns = ms) (hk : ∀ y ∈ ns, PyData.strOk y = true) (h : Q (.bool false) s) :
    wpAny (model prog w) A (compareOp .NotEq (.ref a) (.ref b)) Q E s := by
  subst e
  obtain ⟨oa, ea, ca, na, da⟩ := ha
  obtain ⟨ob, eb, cb, nb, db⟩ := hb
  refine ne_dataH_same (.list ea ca da (strs_readAll _ hi)) (.list eb cb db (strs_readAll _ hj)) (shaped_strs _ hk) (shaped_strs _ hk) hu (SeqAt.noMix_of_shape (.list .str) rfl _ _ (list_map_has fun _ => rfl) (list_map_has fun _ => rfl)) ?_
  rw [PySem.Spec.same_self]; exact h
end
theorem news_law {h₀ h : Heap} {L : Addr} {tp wl cd od tr c3 c2 c1 : Addr × Obj} {R tl2 : Led} (N : News h₀ L h (tp :: wl :: cd :: tl2 ++ od :: tr :: c3 :: c2 :: c1 :: R)) : News h₀ L h (c3 :: c2 :: c1 :: od :: wl :: cd :: tr :: tp :: (R ++ tl2)) := fun p hp => N p (by
  simp only [List.mem_cons, List.mem_append, List.cons_append] at hp ⊢
  rcases hp with h | h | h | h | h | h | h | h | h | h <;> simp [h])
theorem offs_law {tp wl cd od tr c3 c2 c1 : Addr × Obj} {R tl2 : Led} (D : ∀ q ∈ od :: tr :: c3 :: c2 :: c1 :: R, ∀ p ∈ tp :: wl :: cd :: tl2, q.1 ≠ p.1) (u3 : ∀ p ∈ R, p.1 ≠ c3.1) (u2 : ∀ p ∈ R, p.1 ≠ c2.1) :
    (wl.1 ≠ c3.1 ∧ wl.1 ≠ c2.1 ∧ cd.1 ≠ c3.1 ∧ cd.1 ≠ c2.1 ∧ tp.1 ≠ c3.1 ∧ tp.1 ≠ c2.1) ∧ (∀ p ∈ R ++ tl2, p.1 ≠ c3.1) ∧ ∀ p ∈ R ++ tl2, p.1 ≠ c2.1 := by
  have h3 : ∀ p ∈ tp :: wl :: cd :: tl2, p.1 ≠ c3.1 := fun p hp => Ne.symm (D c3 (by simp) p hp)
  have h2 : ∀ p ∈ tp :: wl :: cd :: tl2, p.1 ≠ c2.1 := fun p hp => Ne.symm (D c2 (by simp) p hp)
  refine ⟨⟨h3 _ (by simp), h2 _ (by simp), h3 _ (by simp), h2 _ (by simp), h3 _ (by simp), h2 _ (by simp)⟩, fun p hp => ?_, fun p hp => ?_⟩
  · rcases List.mem_append.mp hp with hp | hp
    · exact u3 p hp
    · exact h3 p (by simp [hp])
  · rcases List.mem_append.mp hp with hp | hp
    · exact u2 p hp
    · exact h2 p (by simp [hp])
/-! what the law asks of the tree, its ways and its costs -/
noncomputable def numsOf (ns : List Int) : List Int := ns.take 5 ++ List.drop (ns.take 5).length [1080128, 2254848, 1113985, 2101250]
structure TreeOK (T : List Row) : Prop where
  s : T.length ≤ 6
  s1 : 1 ≤ T.length
  m : ∀ k ∈ orderF T 6 0, k < T.length
  nm : ∀ k, k ∈ orderF T 6 0 → (T.getD k Row.root).name ∈ names
  mo : ∀ k, k < T.length → 0 ≤ (T.getD k Row.root).mode ∧ (T.getD k Row.root).mode < 65536
  d : ∀ k, k ∈ orderF T 6 0 → (T.getD k Row.root).dep ≤ 255
  le : (orderF T 6 0).length ≤ 6
  sok : ∀ y ∈ ((orderF T 6 0).map fun k => T.getD k Row.root).map Row.way, PyData.strOk y = true
  line : LineOK [Str.ofString "/"] ((orderF T 6 0).map fun k => T.getD k Row.root)
/-- from the way x to the way y it costs v -/
noncomputable def PairOK (c : List (Str × Int)) (x y : Str) (v : Int) : Prop :=
  ∃ (cs ds ps : List Str) (n : Nat) (zx zy : Str), RelOK (y ++ Str.ofString "/.") (x ++ Str.ofString "/.") ps cs ds n zx zy ∧ x.length ≤ 100 ∧ y.length ≤ 100 ∧ StepOK (c.map (·.1)) x ps ∧ stepEnd x ps = y ∧ costSum c (stepKeys x ps) = v
/-- a round trip's places -/
noncomputable def tripL (rest : List Int) : List Int := 0 :: (rest ++ [0])
/-- what it costs -/
noncomputable def tripF (C : Nat → Nat → Int) (n : Nat) (rest : List Int) : Int := ((List.range n).map fun k => C ((tripL rest).getD k 0).toNat ((tripL rest).getD (k + 1) 0).toNat).sum
/-- the places but the first -/
noncomputable def placesF (n : Nat) : List Int := (List.range (n - 1)).map fun k : Nat => (1 : Int) + (k : Int)
noncomputable def rowsF (T : List Row) : List Row := (orderF T 6 0).map fun k => T.getD k Row.root
structure LawOK (T : List Row) (C : Nat → Nat → Int) : Prop where
  len : (rowsF T).length = T.length - 1
  pos : 1 ≤ (rowsF T).length
  tab : ∀ i j, i < (rowsF T).length → j < (rowsF T).length → i ≠ j → PairOK (costsF (rowsF T)) ((rowsF T).getD i Row.root).way ((rowsF T).getD j Row.root).way (C i j)
  diag : ∀ i, C i i = 0
  rest : ∀ r ∈ ordF 6 (placesF (rowsF T).length), r.length = (rowsF T).length - 1 ∧ ∀ x ∈ r, 0 ≤ x ∧ x < ((rowsF T).length : Int)
  trips : ∀ r ∈ ordF 6 (placesF (rowsF T).length), dueF T (T.length - 1) ≤ tripF C (rowsF T).length r ∧ (tripF C (rowsF T).length r).fmod 2 = 0
  best : ∃ r q, ordF 6 (placesF (rowsF T).length) = r :: q ∧ tripF C (rowsF T).length r = dueF T (T.length - 1)
/-! plain law: the letters told by the mode's bits are those that filemode shows -/
noncomputable def sg (x : Str) : Nat := x.cps.toList.headD 0
theorem sg_is {x : Str} (h : x.length = 1) : x = ⟨#[sg x]⟩ := by
  obtain ⟨⟨l⟩⟩ := x
  match l, h with
  | [a], _ => rfl
theorem fmLs_range (mode : Int) : ∀ n, fmLs mode n = (List.range n).map (fmL mode)
  | 0 => rfl
  | n + 1 => by rw [fmLs, fmLs_range mode n, List.range_succ, List.map_append]; rfl
theorem join_sg (l : List Str) (h : ∀ a ∈ l, a.length = 1) : Txt.join (Str.ofString "") l = ⟨(l.map sg).toArray⟩ := by
  show Builtin.Str.glued (Str.ofString "") l = _
  rw [StrLaws.glued_eq_join]
  have e : l = (l.map sg).map fun k => (⟨#[k]⟩ : Str) := by
    rw [List.map_map]
    conv => lhs; rw [← List.map_id l]
    exact List.map_congr_left fun a ha => sg_is (h a ha)
  have e2 : Str.ofString "" = ⟨#[]⟩ := by decide +kernel
  rw [e2]
  conv => lhs; rw [e]
  exact PyProof.Rows.join_ones _
/-- a sign is no letter -/
noncomputable def dash (mode : Int) (i : Nat) : Int := if sg (fmL mode i) = 45 then 1 else 0
theorem cost_dashes (mode : Int) : costOf mode = 9 - (dash mode 1 + (dash mode 2 + (dash mode 3 + (dash mode 4 + (dash mode 5 + (dash mode 6 + (dash mode 7 + (dash mode 8 + (dash mode 9 + 0))))))))) := by
  unfold costOf
  congr 1
  have e1 : Str.ofString "-" = ⟨#[45]⟩ := by decide +kernel
  rw [e1, PyProof.Rows.count_cnt]
  have hl := row_len mode
  rw [PyProof.Rows.slice_from_eq (b := 10) (by decide) (by rw [hl]; decide) (by rw [hl]; rfl)]
  rw [fmLs_range, join_sg _ (fun a ha => by obtain ⟨k, _, rfl⟩ := List.mem_map.mp ha; exact fmL_len mode k)]
  show PyProof.Rows.cnt 45 [sg (fmL mode 1), sg (fmL mode 2), sg (fmL mode 3), sg (fmL mode 4), sg (fmL mode 5), sg (fmL mode 6), sg (fmL mode 7), sg (fmL mode 8), sg (fmL mode 9)] = _
  simp only [PyProof.Rows.cnt_cons, PyProof.Rows.cnt_nil]
  rfl
theorem bit_is (k j b : Nat) (hb : b = 2 ^ j) : (k &&& b = b) ↔ k / b % 2 = 1 := by
  subst hb
  have h2 : k / 2 ^ j % 2 = 1 ↔ k.testBit j = true := by rw [Nat.testBit_eq_decide_div_mod_eq, decide_eq_true_eq]
  rw [h2]
  constructor
  · intro h
    have := congrArg (fun n : Nat => n.testBit j) h
    simpa using this
  · intro h
    refine Nat.eq_of_testBit_eq fun i => ?_
    rw [Nat.testBit_and, Nat.testBit_two_pow]
    by_cases e : j = i
    · subst e; simp [h]
    · simp [e]
theorem bitAnd_nat (k b : Nat) : (Builtin.bitAnd (k : Int) (b : Int) = (b : Int)) ↔ k &&& b = b := by
  have : Builtin.bitAnd (k : Int) (b : Int) = ((k &&& b : Nat) : Int) := by
    unfold Builtin.bitAnd
    simp
  rw [this]
  omega
theorem sg_r : sg (Str.ofString "r") = 114 := by decide +kernel
theorem sg_w : sg (Str.ofString "w") = 119 := by decide +kernel
theorem sg_s : sg (Str.ofString "s") = 115 := by decide +kernel
theorem sg_S : sg (Str.ofString "S") = 83 := by decide +kernel
theorem sg_t : sg (Str.ofString "t") = 116 := by decide +kernel
theorem sg_T : sg (Str.ofString "T") = 84 := by decide +kernel
theorem sg_x : sg (Str.ofString "x") = 120 := by decide +kernel
theorem sg_d : sg (Str.ofString "-") = 45 := by decide +kernel
theorem dash1 (k b j : Nat) (c : Str) (hb : b = 2 ^ j) (hc : sg c ≠ 45) : (if sg (fmPick (k : Int) [((b : Int), c)]) = 45 then (1 : Int) else 0) = 1 - ((k / b % 2 : Nat) : Int) := by
  have h := bitAnd_nat k b
  have h2 := bit_is k j b hb
  unfold fmPick
  by_cases hk : k / b % 2 = 1
  · rw [if_pos (h.mpr (h2.mpr hk)), if_neg hc, hk]; rfl
  · rw [if_neg (fun e => hk (h2.mp (h.mp e)))]
    unfold fmPick
    rw [sg_d, if_pos rfl]
    omega
theorem dash3 (k a b j i : Nat) (c1 c2 c3 : Str) (hb : b = 2 ^ j) (ha : a = 2 ^ i) (hab : (a + b) &&& b = b) (h1 : sg c1 ≠ 45) (h2 : sg c2 ≠ 45) (h3 : sg c3 ≠ 45) :
    (if sg (fmPick (k : Int) [(((a + b : Nat) : Int), c1), ((a : Int), c2), ((b : Int), c3)]) = 45 then (1 : Int) else 0) = 1 - (if k / b % 2 = 1 ∨ k / a % 2 = 1 then 1 else 0) := by
  have g1 := bitAnd_nat k (a + b)
  have g2 := bitAnd_nat k a
  have g3 := bitAnd_nat k b
  have b2 := bit_is k i a ha
  have b3 := bit_is k j b hb
  have hboth : k &&& (a + b) = a + b → k / b % 2 = 1 := fun e => by
    rw [← b3]
    have := congrArg (· &&& b) e
    simp only [Nat.and_assoc, hab] at this
    exact this
  unfold fmPick
  by_cases e1 : k &&& (a + b) = a + b
  · rw [if_pos (g1.mpr e1), if_neg h1, if_pos (.inl (hboth e1))]; rfl
  · rw [if_neg (fun e => e1 (g1.mp e))]
    unfold fmPick
    by_cases e2 : k &&& a = a
    · rw [if_pos (g2.mpr e2), if_neg h2, if_pos (.inr (b2.mp e2))]; rfl
    · rw [if_neg (fun e => e2 (g2.mp e))]
      unfold fmPick
      by_cases e3 : k &&& b = b
      · rw [if_pos (g3.mpr e3), if_neg h3, if_pos (.inl (b3.mp e3))]; rfl
      · rw [if_neg (fun e => e3 (g3.mp e)), show (if k / b % 2 = 1 ∨ k / a % 2 = 1 then (1 : Int) else 0) = 0 from if_neg (fun e => e.elim (fun e => e3 (b3.mpr e)) (fun e => e2 (b2.mpr e)))]
        unfold fmPick
        rw [sg_d, if_pos rfl]; rfl
theorem letF_nat (k p q : Nat) : letF (k : Int) (p : Int) (q : Int) = 2 * (((k / p % 8 / 4 : Nat) : Int) + ((k / p % 8 / 2 % 2 : Nat) : Int)) + (if k / p % 8 % 2 = 1 ∨ k / q % 2 = 1 then 2 else 0) := by
  unfold letF
  have e1 : (k : Int).fdiv (p : Int) = ((k / p : Nat) : Int) := by rw [Int.fdiv_eq_ediv_of_nonneg _ (Int.natCast_nonneg p)]; rfl
  have e2 : (k : Int).fdiv (q : Int) = ((k / q : Nat) : Int) := by rw [Int.fdiv_eq_ediv_of_nonneg _ (Int.natCast_nonneg q)]; rfl
  have f8 : ∀ n : Nat, (n : Int).fmod 8 = ((n % 8 : Nat) : Int) := fun n => by rw [Int.fmod_eq_emod_of_nonneg _ (by decide)]; rfl
  have f2 : ∀ n : Nat, (n : Int).fmod 2 = ((n % 2 : Nat) : Int) := fun n => by rw [Int.fmod_eq_emod_of_nonneg _ (by decide)]; rfl
  have d4 : ∀ n : Nat, (n : Int).fdiv 4 = ((n / 4 : Nat) : Int) := fun n => by rw [Int.fdiv_eq_ediv_of_nonneg _ (by decide)]; rfl
  have d2 : ∀ n : Nat, (n : Int).fdiv 2 = ((n / 2 : Nat) : Int) := fun n => by rw [Int.fdiv_eq_ediv_of_nonneg _ (by decide)]; rfl
  simp only [e1, e2, f8, f2, d4, d2]
  congr 1
  have i1 : ∀ n : Nat, ((n : Int) = 1) ↔ n = 1 := fun n => by omega
  simp only [i1]
theorem tri (k p q b1 b2 : Nat) (h1 : b1 = p * 4) (h2 : b2 = p * 2) : letF (k : Int) (p : Int) (q : Int) = 2 * (((k / b1 % 2 : Nat) : Int) + ((k / b2 % 2 : Nat) : Int)) + 2 * (if k / p % 2 = 1 ∨ k / q % 2 = 1 then 1 else 0) := by
  subst h1 h2
  rw [letF_nat, ← Nat.div_div_eq_div_mul, ← Nat.div_div_eq_div_mul]
  have a1 : k / p % 8 / 4 = k / p / 4 % 2 := by omega
  have a2 : k / p % 8 / 2 % 2 = k / p / 2 % 2 := by omega
  have a3 : k / p % 8 % 2 = k / p % 2 := by omega
  rw [a1, a2, a3]
  split <;> rfl
theorem letters_eq (mode : Int) (h0 : 0 ≤ mode) : lettersF mode 3 = 2 * costOf mode := by
  obtain ⟨k, rfl⟩ := Int.eq_ofNat_of_zero_le h0
  rw [cost_dashes]
  have d1 : dash (k : Int) 1 = _ := dash1 k 256 8 (Str.ofString "r") rfl (by rw [sg_r]; decide)
  have d2 : dash (k : Int) 2 = _ := dash1 k 128 7 (Str.ofString "w") rfl (by rw [sg_w]; decide)
  have d3 : dash (k : Int) 3 = _ := dash3 k 2048 64 6 11 (Str.ofString "s") (Str.ofString "S") (Str.ofString "x") rfl rfl (by decide) (by rw [sg_s]; decide) (by rw [sg_S]; decide) (by rw [sg_x]; decide)
  have d4 : dash (k : Int) 4 = _ := dash1 k 32 5 (Str.ofString "r") rfl (by rw [sg_r]; decide)
  have d5 : dash (k : Int) 5 = _ := dash1 k 16 4 (Str.ofString "w") rfl (by rw [sg_w]; decide)
  have d6 : dash (k : Int) 6 = _ := dash3 k 1024 8 3 10 (Str.ofString "s") (Str.ofString "S") (Str.ofString "x") rfl rfl (by decide) (by rw [sg_s]; decide) (by rw [sg_S]; decide) (by rw [sg_x]; decide)
  have d7 : dash (k : Int) 7 = _ := dash1 k 4 2 (Str.ofString "r") rfl (by rw [sg_r]; decide)
  have d8 : dash (k : Int) 8 = _ := dash1 k 2 1 (Str.ofString "w") rfl (by rw [sg_w]; decide)
  have d9 : dash (k : Int) 9 = _ := dash3 k 512 1 0 9 (Str.ofString "t") (Str.ofString "T") (Str.ofString "x") rfl rfl (by decide) (by rw [sg_t]; decide) (by rw [sg_T]; decide) (by rw [sg_x]; decide)
  have t1 : letF (k : Int) 64 2048 = _ := tri k 64 2048 256 128 rfl rfl
  have t2 : letF (k : Int) 8 1024 = _ := tri k 8 1024 32 16 rfl rfl
  have t3 : letF (k : Int) 1 512 = _ := tri k 1 512 4 2 rfl rfl
  show letF (k : Int) 64 2048 + letF (k : Int) 8 1024 + letF (k : Int) 1 512 = _
  rw [d1, d2, d3, d4, d5, d6, d7, d8, d9, t1, t2, t3]
  generalize ((if k / 64 % 2 = 1 ∨ k / 2048 % 2 = 1 then 1 else 0 : Int)) = A
  generalize ((if k / 8 % 2 = 1 ∨ k / 1024 % 2 = 1 then 1 else 0 : Int)) = B
  generalize ((if k / 1 % 2 = 1 ∨ k / 512 % 2 = 1 then 1 else 0 : Int)) = C
  omega
theorem letF_nonneg (m : Int) (k p q : Nat) (hm : m = k) : 0 ≤ letF m (p : Int) (q : Int) := by
  subst hm
  rw [letF_nat]
  split <;> omega
theorem cost_nonneg (mode : Int) (h0 : 0 ≤ mode) : 0 ≤ costOf mode := by
  have h := letters_eq mode h0
  obtain ⟨k, rfl⟩ := Int.eq_ofNat_of_zero_le h0
  have t1 := letF_nonneg (k : Int) k 64 2048 rfl
  have t2 := letF_nonneg (k : Int) k 8 1024 rfl
  have t3 := letF_nonneg (k : Int) k 1 512 rfl
  have e : lettersF (k : Int) 3 = letF (k : Int) 64 2048 + letF (k : Int) 8 1024 + letF (k : Int) 1 512 := rfl
  rw [e] at h
  have t1' : 0 ≤ letF (k : Int) 64 2048 := t1
  have t2' : 0 ≤ letF (k : Int) 8 1024 := t2
  have t3' : 0 ≤ letF (k : Int) 1 512 := t3
  omega
/-! plain law: the tree's shapes, and what holds of each -/
noncomputable def strip (r : Row) : Row := { r with mode := 0 }
theorem getD_strip (T : List Row) (k : Nat) : (T.map strip).getD k Row.root = strip (T.getD k Row.root) := by
  rw [List.getD_eq_getElem?_getD, List.getD_eq_getElem?_getD, List.getElem?_map]
  cases T[k]? <;> rfl
theorem orderF_strip (T : List Row) : ∀ f a, orderF (T.map strip) f a = orderF T f a
  | 0, _ => rfl
  | f + 1, a => by
    rw [orderF, orderF, List.length_map]
    congr 1
    funext k
    rw [getD_strip, orderF_strip T f k]
    rfl
theorem rowsF_strip (T : List Row) : (rowsF T).map strip = rowsF (T.map strip) := by
  unfold rowsF
  rw [List.map_map, orderF_strip]
  refine List.map_congr_left fun k _ => ?_
  rw [getD_strip]; rfl
theorem lineOK_strip : ∀ (rows : List Row) (line : List Str), LineOK line (rows.map strip) → LineOK line rows
  | [], _, _ => trivial
  | r :: rs, line, h => by
    obtain ⟨a, b, c, d, e, f, g⟩ := h
    exact ⟨a, b, c, d, e, f, lineOK_strip rs _ g⟩
noncomputable def upsOf : Nat → List Int → List Int
  | _, [] => []
  | k, x :: r => x.fmod (k : Int) :: upsOf (k + 1) r
noncomputable def allUps : Nat → Nat → List (List Int)
  | _, 0 => [[]]
  | k, n + 1 => (List.range k).flatMap fun u : Nat => (allUps (k + 1) n).map fun l => ((u : Nat) : Int) :: l
theorem upsOf_mem : ∀ (xs : List Int) (k : Nat), 1 ≤ k → upsOf k xs ∈ allUps k xs.length
  | [], _, _ => List.mem_singleton.mpr rfl
  | x :: r, k, hk => by
    have h0 : 0 ≤ x.fmod (k : Int) := Int.fmod_nonneg_of_pos x (by omega)
    have h1 : x.fmod (k : Int) < (k : Int) := Int.fmod_lt_of_pos x (by omega)
    refine List.mem_flatMap.mpr ⟨(x.fmod (k : Int)).toNat, List.mem_range.mpr (by omega), List.mem_map.mpr ⟨upsOf (k + 1) r, upsOf_mem r (k + 1) (by omega), ?_⟩⟩
    rw [upsOf, Int.toNat_of_nonneg h0]
theorem rowOf_strip (T : List Row) (x : Int) (h1 : 1 ≤ T.length) (h6 : T.length ≤ 6) : strip (rowOf T x) = rowOf (T.map strip) (x.fmod (T.length : Int)) := by
  have h0 : 0 ≤ x.fmod (T.length : Int) := Int.fmod_nonneg_of_pos x (by omega)
  have h2 : x.fmod (T.length : Int) < (T.length : Int) := Int.fmod_lt_of_pos x (by omega)
  have e1 : (x.fmod (T.length : Int)).fmod (T.length : Int) = x.fmod (T.length : Int) := by
    rw [Int.fmod_eq_emod_of_nonneg _ (by omega), Int.emod_eq_of_lt h0 h2]
  have e2 : ((x.fmod (T.length : Int)).fdiv 64).fmod 65536 = 0 := by
    rw [Int.fdiv_eq_ediv_of_nonneg _ (by decide), Int.fmod_eq_emod_of_nonneg _ (by decide)]; omega
  unfold rowOf
  rw [List.length_map, e1, e2, getD_strip]
  rfl
theorem treeOf_strip : ∀ (xs : List Int) (T : List Row), 1 ≤ T.length → T.length + xs.length ≤ 6 → (treeOf T xs).map strip = treeOf (T.map strip) (upsOf T.length xs)
  | [], _, _, _ => rfl
  | x :: r, T, h1, h6 => by
    rw [List.length_cons] at h6
    have ih := treeOf_strip r (T ++ [rowOf T x]) (by simp) (by simp; omega)
    rw [treeOf, ih, upsOf, treeOf, ← rowOf_strip T x h1 (by omega), List.map_append, List.length_append]
    rfl
theorem tree_modes : ∀ (xs : List Int) (T : List Row), (∀ r ∈ T, 0 ≤ r.mode ∧ r.mode < 65536) → ∀ r ∈ treeOf T xs, 0 ≤ r.mode ∧ r.mode < 65536
  | [], _, h => h
  | x :: r, T, h => by
    refine tree_modes r (T ++ [rowOf T x]) fun q hq => ?_
    rcases List.mem_append.mp hq with hq | hq
    · exact h q hq
    · rw [List.mem_singleton.mp hq]
      exact ⟨Int.fmod_nonneg_of_pos _ (by decide), Int.fmod_lt_of_pos _ (by decide)⟩
/-! paths: the places of a way -/
noncomputable def subsN : List Nat → List (List Nat)
  | [] => [[]]
  | x :: r => subsN r ++ (subsN r).map (x :: ·)
noncomputable def allPaths : List (List Nat) := (subsN [1, 2, 3, 4, 5]).filter fun l => !l.isEmpty
noncomputable def compsP (P : List Nat) : List Str := P.map fun k => names.getD (k - 1) (Str.ofString "")
noncomputable def wayP (P : List Nat) : Str := P.foldl (fun w k => w ++ Str.ofString "/" ++ names.getD (k - 1) (Str.ofString "")) (Str.ofString "")
noncomputable def cplN : List Nat → List Nat → Nat
  | x :: xs, y :: ys => if x = y then cplN xs ys + 1 else 0
  | _, _ => 0
noncomputable def nmP (k : Nat) : Str := names.getD (k - 1) (Str.ofString "")
noncomputable def stepsP (P Q : List Nat) : List Str := List.replicate (P.length - cplN P Q) (Str.ofString "..") ++ compsP (Q.drop (cplN P Q))
noncomputable def keysUp : Nat → List Nat → List (List Nat)
  | 0, _ => []
  | j + 1, P => P :: keysUp j P.dropLast
noncomputable def keysDn : List Nat → List Nat → List (List Nat)
  | _, [] => []
  | A, k :: R => (A ++ [k]) :: keysDn (A ++ [k]) R
noncomputable def keysP (P Q : List Nat) : List (List Nat) := keysUp (P.length - cplN P Q) P ++ keysDn (P.take (cplN P Q)) (Q.drop (cplN P Q))
noncomputable def wayR (P : List Nat) : Str := if P = [] then Str.ofString "/" else wayP P
theorem wayR_of {P : List Nat} (h : P ≠ []) : wayR P = wayP P := if_neg h
theorem paths_take : ∀ P ∈ [] :: allPaths, ∀ i ∈ List.range 6, P.take i ∈ [] :: allPaths := by decide +kernel
theorem paths_len : ∀ P ∈ [] :: allPaths, P.length ≤ 5 := by decide +kernel
theorem paths_ne : ∀ P ∈ allPaths, P ≠ [] := by decide +kernel
theorem dn_all : ∀ P ∈ allPaths, dnS (wayP P) = wayR P.dropLast ∧ (wayP P).length ≤ 98 := by decide +kernel
theorem jn_all : ∀ P ∈ allPaths, joinS (wayR P.dropLast) (nmP (P.getLastD 0)) = wayP P ∧ (nmP (P.getLastD 0) == Str.ofString "..") = false ∧ (nmP (P.getLastD 0)).length ≤ 100 := by decide +kernel
theorem wayR_len {P : List Nat} (h : P ∈ [] :: allPaths) : (wayR P).length ≤ 100 := by
  by_cases e : P = []
  · subst e; decide +kernel
  · rw [wayR_of e]
    have h' : P ∈ allPaths := (List.mem_cons.mp h).resolve_left e
    have := (dn_all P h').2
    omega
theorem dots_eq : (Str.ofString ".." == Str.ofString "..") = true := by decide +kernel
theorem dots_len : (Str.ofString "..").length ≤ 100 := by decide +kernel
theorem up_walk (ks rest : List Str) : ∀ (j : Nat) (P : List Nat), j ≤ P.length → P ∈ [] :: allPaths → (∀ K ∈ keysUp j P, wayR K ∈ ks) →
    stepKeys (wayR P) (List.replicate j (Str.ofString "..") ++ rest) = (keysUp j P).map wayR ++ stepKeys (wayR (P.take (P.length - j))) rest ∧
    stepEnd (wayR P) (List.replicate j (Str.ofString "..") ++ rest) = stepEnd (wayR (P.take (P.length - j))) rest ∧
    (StepOK ks (wayR (P.take (P.length - j))) rest → StepOK ks (wayR P) (List.replicate j (Str.ofString "..") ++ rest))
  | 0, P, _, _, _ => by
    rw [Nat.sub_zero, List.take_length]
    exact ⟨rfl, rfl, id⟩
  | j + 1, P, hj, hP, hk => by
    have hne : P ≠ [] := fun e => by rw [e] at hj; cases hj
    have hP' : P ∈ allPaths := (List.mem_cons.mp hP).resolve_left hne
    have e1 : P.dropLast = P.take (P.length - 1) := List.dropLast_eq_take
    have hd : P.dropLast ∈ [] :: allPaths := by
      rw [e1]
      refine paths_take P hP _ (List.mem_range.mpr ?_)
      have := paths_len P hP; omega
    have hl : P.dropLast.length = P.length - 1 := List.length_dropLast
    obtain ⟨i1, i2, i3⟩ := up_walk ks rest j P.dropLast (by omega) hd (fun K hK => hk K (.tail _ hK))
    have e2 : P.dropLast.take (P.dropLast.length - j) = P.take (P.length - (j + 1)) := by
      rw [hl, e1, List.take_take]; congr 1; omega
    rw [e2] at i1 i2 i3
    have hdn : dnS (wayR P) = wayR P.dropLast := by rw [wayR_of hne]; exact (dn_all P hP').1
    refine ⟨?_, ?_, fun h => ?_⟩
    · rw [List.replicate_succ, List.cons_append, stepKeys, if_pos dots_eq, hdn, i1]; rfl
    · rw [List.replicate_succ, List.cons_append, stepEnd, if_pos dots_eq, hdn, i2]
    · rw [List.replicate_succ, List.cons_append, StepOK, if_pos dots_eq, hdn]
      exact ⟨wayR_len hP, dots_len, hk P (.head _), i3 h⟩
theorem dn_walk (ks : List Str) : ∀ (R A : List Nat), (∀ i, i ≤ R.length → A ++ R.take i ∈ [] :: allPaths) →
    stepKeys (wayR A) (compsP R) = (keysDn A R).map wayR ∧ stepEnd (wayR A) (compsP R) = wayR (A ++ R) ∧ StepOK ks (wayR A) (compsP R)
  | [], A, h => by
    rw [List.append_nil]
    exact ⟨rfl, rfl, wayR_len (by have := h 0 (Nat.zero_le _); simpa using this)⟩
  | k :: R, A, h => by
    have h1 : A ++ [k] ∈ [] :: allPaths := h 1 (by simp)
    have h0 : A ∈ [] :: allPaths := by have := h 0 (Nat.zero_le _); simpa using this
    have hne : A ++ [k] ≠ [] := by simp
    have h1' : A ++ [k] ∈ allPaths := (List.mem_cons.mp h1).resolve_left hne
    obtain ⟨j1, j2, j3⟩ := jn_all _ h1'
    rw [List.dropLast_concat] at j1
    have eL : (A ++ [k]).getLastD 0 = k := by simp
    rw [eL] at j1 j2 j3
    have eN : nmP k = names.getD (k - 1) (Str.ofString "") := rfl
    obtain ⟨i1, i2, i3⟩ := dn_walk ks R (A ++ [k]) (fun i hi => by
      have := h (i + 1) (by simp; omega)
      simpa using this)
    have hj : joinS (wayR A) (nmP k) = wayR (A ++ [k]) := by rw [wayR_of hne]; exact j1
    have hn : ¬ (nmP k == Str.ofString "..") = true := by rw [j2]; exact Bool.false_ne_true
    refine ⟨?_, ?_, ?_⟩
    · show stepKeys (wayR A) (nmP k :: compsP R) = _
      rw [stepKeys, if_neg hn, hj, i1]; rfl
    · show stepEnd (wayR A) (nmP k :: compsP R) = _
      rw [stepEnd, if_neg hn, hj, i2, List.append_assoc]; rfl
    · show StepOK ks (wayR A) (nmP k :: compsP R)
      rw [StepOK, if_neg hn, hj]
      exact ⟨wayR_len h0, j3, i3⟩
theorem abs_all : ∀ P ∈ allPaths, Txt.startswith (wayP P ++ Str.ofString "/.") (Str.ofString "/") = true ∧ (wayP P ++ Str.ofString "/.").length ≤ 98 ∧ (wayP P ++ Str.ofString "/.").length ≠ 0 ∧
    (Txt.slice (wayP P ++ Str.ofString "/.") none (some 1) != Str.ofString "/") = false ∧ (Txt.slice (wayP P ++ Str.ofString "/.") (some 1) (some 2) != Str.ofString "/") = true ∧
    Txt.split (Txt.slice (wayP P ++ Str.ofString "/.") (some 1) none) (Str.ofString "/") = compsP P ++ [Str.ofString "."] ∧
    (∀ c ∈ compsP P, c.length ≤ 100 ∧ c.length ≠ 0 ∧ (c == Str.ofString ".") = false ∧ (c != Str.ofString "..") = true) ∧ ((compsP P).map (·.length)).sum + (compsP P).length ≤ 1048576 ∧
    (Txt.join (Str.ofString "/") (compsP P)).length ≤ 100 ∧ Str.ofString "/" ++ Txt.join (Str.ofString "/") (compsP P) = wayP P ∧ (wayP P).length ≤ 100 ∧ (Txt.lstripChars (wayP P) (Str.ofString "/")).length ≠ 0 ∧
    (Txt.lstripChars (wayP P) (Str.ofString "/")).length ≤ 100 ∧ Txt.split (Txt.lstripChars (wayP P) (Str.ofString "/")) (Str.ofString "/") = compsP P ∧ (compsP P).length ≤ 100 := by decide +kernel
theorem abs_ok {P : List Nat} (h : P ∈ allPaths) : AbsOK (wayP P ++ Str.ofString "/.") (wayP P) (compsP P) := by
  obtain ⟨a1, a2, a3, a4, a5, a6, a7, a8, a9, b1, b2, b3, b4, b5, b6⟩ := abs_all P h
  exact ⟨a1, by omega, by omega, a4, a5, a6, (fun c hc => by obtain ⟨c1, c2, c3, c4⟩ := a7 c hc; exact ⟨c1, by omega, c3, c4⟩), a8, a9, b1, b2, by omega, b4, b5, b6⟩
noncomputable def stepL (k : Nat) (R : List Nat) : List Str := List.replicate k (Str.ofString "..") ++ compsP R
theorem split_all : ∀ R ∈ [] :: allPaths, ∀ k ∈ List.range (6 - R.length), k + R.length ≠ 0 → Txt.split (Txt.join (Str.ofString "/") (stepL k R)) (Str.ofString "/") = stepL k R ∧ (Txt.join (Str.ofString "/") (stepL k R)).length ≤ 100 ∧ ((stepL k R).map (·.length)).sum + (stepL k R).length ≤ 1048576 := by decide +kernel
theorem pair_all : ∀ P ∈ allPaths, ∀ Q ∈ allPaths, P ≠ Q →
  (cpl (if lexF ltS (decide ((compsP Q).length < (compsP P).length)) (compsP Q) (compsP P) = true then compsP Q else compsP P) (if lexF gtS (decide ((compsP Q).length > (compsP P).length)) (compsP Q) (compsP P) = true then compsP Q else compsP P) = cplN P Q ∧
    (cplN P Q < (if lexF ltS (decide ((compsP Q).length < (compsP P).length)) (compsP Q) (compsP P) = true then compsP Q else compsP P).length → cplN P Q < (if lexF gtS (decide ((compsP Q).length > (compsP P).length)) (compsP Q) (compsP P) = true then compsP Q else compsP P).length)) ∧
  cplN P Q ≤ P.length ∧ (P.length - cplN P Q) + (Q.drop (cplN P Q)).length ≠ 0 ∧ P.take (cplN P Q) = Q.take (cplN P Q) ∧ Q.drop (cplN P Q) ∈ [] :: allPaths := by decide +kernel
theorem compsP_len (P : List Nat) : (compsP P).length = P.length := List.length_map ..
theorem pair_ok {P Q : List Nat} (hP : P ∈ allPaths) (hQ : Q ∈ allPaths) (hne : P ≠ Q) (h5 : (P.length - cplN P Q) + (Q.drop (cplN P Q)).length ≤ 5) {c : List (Str × Int)} (hk : ∀ K ∈ keysUp (P.length - cplN P Q) P, wayR K ∈ c.map (·.1)) :
    PairOK c (wayP P) (wayP Q) (costSum c ((keysP P Q).map wayR)) := by
  obtain ⟨⟨c1, c2⟩, hn, he, ht, hd⟩ := pair_all P hP Q hQ hne
  have hPn := paths_ne P hP
  have hQn := paths_ne Q hQ
  obtain ⟨s1, s2, s3⟩ := split_all _ hd (P.length - cplN P Q) (List.mem_range.mpr (by omega)) he
  have eS : List.replicate ((compsP P).length - cplN P Q) (Str.ofString "..") ++ (compsP Q).drop (cplN P Q) = stepL (P.length - cplN P Q) (Q.drop (cplN P Q)) := by
    rw [compsP_len]; unfold stepL compsP; rw [List.map_drop]
  have eR : P.length - (P.length - cplN P Q) = cplN P Q := by omega
  obtain ⟨u1, u2, u3⟩ := up_walk (c.map (·.1)) (compsP (Q.drop (cplN P Q))) (P.length - cplN P Q) P (Nat.sub_le ..) (.tail _ hP) hk
  rw [eR] at u1 u2 u3
  obtain ⟨d1, d2, d3⟩ := dn_walk (c.map (·.1)) (Q.drop (cplN P Q)) (P.take (cplN P Q)) (fun i hi => by
    rw [ht, ← List.take_add]
    refine paths_take Q (.tail _ hQ) _ (List.mem_range.mpr ?_)
    have h1 := paths_len P (.tail _ hP)
    have h2 := paths_len Q (.tail _ hQ)
    rw [List.length_drop] at hi
    omega)
  rw [wayR_of hPn] at u1 u2 u3
  refine ⟨compsP Q, compsP P, stepL (P.length - cplN P Q) (Q.drop (cplN P Q)), cplN P Q, wayP Q, wayP P, ⟨abs_ok hQ, abs_ok hP, ⟨c1, c2⟩, ?_, ?_, ?_, ?_, ?_⟩, ?_, ?_, ?_, ?_, ?_⟩
  · rw [compsP_len]; exact hn
  · rw [compsP_len, compsP_len]
    rw [List.length_drop] at he; exact he
  · rw [eS]; exact s3
  · rw [eS]; exact s2
  · rw [eS]; exact s1
  · have := (dn_all P hP).2; omega
  · have := (dn_all Q hQ).2; omega
  · exact u3 d3
  · show stepEnd (wayP P) (List.replicate _ _ ++ compsP _) = _
    rw [u2, d2, ht, List.take_append_drop, wayR_of hQn]
  · show costSum c (stepKeys (wayP P) (List.replicate _ _ ++ compsP _)) = _
    rw [u1, d1, ← List.map_append]; rfl
/-! plain law: the shapes -/
noncomputable def pathsOf : List (List Nat) → List Int → List (List Nat)
  | acc, [] => acc
  | acc, u :: r => pathsOf (acc ++ [acc.getD u.toNat [] ++ [acc.length]]) r
noncomputable def lineB : List Str → List Row → Bool
  | _, [] => true
  | line, r :: rs => decide (1 ≤ r.dep) && decide (r.dep ≤ line.length) && decide (r.dep ≤ 200) && decide ((line.getD (r.dep - 1) (Str.ofString "")).length ≤ 100) && names.contains r.name && (joinS (line.getD (r.dep - 1) (Str.ofString "")) r.name == r.way) && lineB (line.take r.dep ++ [r.way]) rs
theorem lineB_ok : ∀ (rows : List Row) (line : List Str), lineB line rows = true → LineOK line rows
  | [], _, _ => trivial
  | r :: rs, line, h => by
    rw [lineB] at h
    simp only [Bool.and_eq_true, decide_eq_true_eq, beq_iff_eq, List.contains_iff_mem] at h
    obtain ⟨⟨⟨⟨⟨⟨a, b⟩, c⟩, d⟩, e⟩, f⟩, g⟩ := h
    exact ⟨a, b, c, d, e, f, lineB_ok rs _ g⟩
/-- the places between two places, by their ways -/
noncomputable def nodesF (PS : List (List Nat)) (a b : Nat) : List Nat := if a = b then [] else (keysP (PS.getD a []) (PS.getD b [])).map fun K => K.getLastD 0
noncomputable def dcF (S : List Row) (k : Nat) : Nat := if (orderF S 6 k).length + 1 + 1 < S.length then 2 else 0
noncomputable def catF (N : Nat → Nat → List Nat) (n : Nat) (rest : List Int) : List Nat := (List.range n).flatMap fun k => N ((tripL rest).getD k 0).toNat ((tripL rest).getD (k + 1) 0).toNat
noncomputable def ChkA (n : Nat) (S : List Row) (PS : List (List Nat)) (od : List Nat) : Prop :=
  S.length = n + 1 ∧ od.length = n ∧ od.Nodup ∧ (∀ k ∈ od, k < S.length ∧ 1 ≤ k ∧ (S.getD k Row.root).name ∈ names ∧ (S.getD k Row.root).dep ≤ 255 ∧ PyData.strOk (S.getD k Row.root).way = true ∧ (S.getD k Row.root).way = wayP (PS.getD k []) ∧ PS.getD k [] ∈ allPaths) ∧ (∀ k ∈ List.range n, 1 + k ∈ od) ∧ lineB [Str.ofString "/"] (od.map fun k => S.getD k Row.root) = true ∧
  ∀ a ∈ od, ∀ b ∈ od, a ≠ b → PS.getD a [] ≠ PS.getD b [] ∧ (S.getD a Row.root).way ≠ (S.getD b Row.root).way ∧ ((PS.getD a []).length - cplN (PS.getD a []) (PS.getD b [])) + ((PS.getD b []).drop (cplN (PS.getD a []) (PS.getD b []))).length ≤ 5 ∧
    ∀ K ∈ keysP (PS.getD a []) (PS.getD b []), K.getLastD 0 ∈ od ∧ PS.getD (K.getLastD 0) [] = K
noncomputable def hasP (PS : List (List Nat)) (od : List Nat) (p i : Nat) : Bool := (PS.getD (od.getD i 0) []).contains p
noncomputable def ChkB (n : Nat) (S : List Row) (PS : List (List Nat)) (od : List Nat) : Prop :=
  ∀ p ∈ od, (dcF S p = 0 ∨ (dcF S p = 2 ∧ ∃ i ∈ List.range n, hasP PS od p i ≠ hasP PS od p 0)) ∧ ∀ i ∈ List.range n, ∀ j ∈ List.range n, (nodesF PS (od.getD i 0) (od.getD j 0)).count p = if hasP PS od p i = hasP PS od p j then 0 else 1
noncomputable def ChkC (n : Nat) (S : List Row) (PS : List (List Nat)) (od : List Nat) : Prop :=
  ∀ k ∈ od, (catF (fun i j => nodesF PS (od.getD i 0) (od.getD j 0)) n ((ordF 6 (placesF n)).headD [])).count k = dcF S k
theorem chkC4 : ∀ us ∈ allUps 1 4, ChkC 4 (treeOf [Row.root] us) (pathsOf [[]] us) (orderF (treeOf [Row.root] us) 6 0) := by unfold ChkC; decide +kernel
theorem chkC5 : ∀ us ∈ allUps 1 5, ChkC 5 (treeOf [Row.root] us) (pathsOf [[]] us) (orderF (treeOf [Row.root] us) 6 0) := by unfold ChkC; decide +kernel
/-! the shapes, reckoned on forced lists -/
noncomputable def fN (n : Nat) (k : Nat → Bool) : Bool := cond (n == 0) (k 0) (cond (n == 1) (k 1) (cond (n == 2) (k 2) (cond (n == 3) (k 3) (cond (n == 4) (k 4) (cond (n == 5) (k 5) (k n))))))
theorem fN_eq (n : Nat) (k : Nat → Bool) : fN n k = k n := by
  unfold fN
  by_cases h0 : n = 0
  · subst h0; rfl
  by_cases h1 : n = 1
  · subst h1; rfl
  by_cases h2 : n = 2
  · subst h2; rfl
  by_cases h3 : n = 3
  · subst h3; rfl
  by_cases h4 : n = 4
  · subst h4; rfl
  by_cases h5 : n = 5
  · subst h5; rfl
  rw [beq_false_of_ne h0, beq_false_of_ne h1, beq_false_of_ne h2, beq_false_of_ne h3, beq_false_of_ne h4, beq_false_of_ne h5]
  rfl
noncomputable def fL : List Nat → (List Nat → Bool) → Bool
  | [], k => k []
  | x :: r, k => fN x fun x => fL r fun r => k (x :: r)
theorem fL_eq : ∀ (l : List Nat) (k : List Nat → Bool), fL l k = k l
  | [], _ => rfl
  | x :: r, k => by rw [fL, fN_eq, fL_eq r]
noncomputable def fLL : List (List Nat) → (List (List Nat) → Bool) → Bool
  | [], k => k []
  | x :: r, k => fL x fun x => fLL r fun r => k (x :: r)
theorem fLL_eq : ∀ (l : List (List Nat)) (k : List (List Nat) → Bool), fLL l k = k l
  | [], _ => rfl
  | x :: r, k => by rw [fLL, fL_eq, fLL_eq r]
noncomputable def lineP : List (List Nat) → List (List Nat) → Bool
  | _, [] => true
  | L, P :: r => decide (1 ≤ P.length) && decide (P.length ≤ L.length) && (L.getD (P.length - 1) [] == P.dropLast) && lineP (L.take P.length ++ [P]) r
noncomputable def preB (od : List Nat) (PS : List (List Nat)) (P : List Nat) (i : Nat) : Bool := od.contains ((P.take (i + 1)).getLastD 0) && (PS.getD ((P.take (i + 1)).getLastD 0) [] == P.take (i + 1))
noncomputable def disB (P Q : List Nat) : Bool := (P.drop (cplN P Q)).any fun x => (Q.drop (cplN P Q)).contains x
noncomputable def cntB (P Q : List Nat) : Bool := disB P Q || (Nat.ble ((P.length - cplN P Q) + (Q.drop (cplN P Q)).length) 5 && fL ((keysP P Q).map fun K => K.getLastD 0) fun N => (List.range 6).all fun p => N.count p == cond (P.contains p == Q.contains p) 0 1)
theorem cnt_all : (allPaths.all fun P => allPaths.all fun Q => cntB P Q) = true := by decide +kernel
theorem cpl_take : ∀ (P Q : List Nat) (i : Nat), i < P.length → i < Q.length → P.take (i + 1) = Q.take (i + 1) → i < cplN P Q
  | [], _, _, h, _, _ => nomatch h
  | _ :: _, [], _, _, h, _ => nomatch h
  | x :: P, y :: Q, 0, _, _, e => by
    rw [List.take_succ_cons, List.take_succ_cons] at e
    injection e with e _
    rw [cplN, if_pos e]; omega
  | x :: P, y :: Q, i + 1, hp, hq, e => by
    rw [List.take_succ_cons, List.take_succ_cons] at e
    injection e with e e'
    have := cpl_take P Q i (Nat.lt_of_succ_lt_succ hp) (Nat.lt_of_succ_lt_succ hq) e'
    rw [cplN, if_pos e]; omega
theorem take_last (P : List Nat) (i : Nat) (h : i < P.length) : (P.take (i + 1)).getLastD 0 = P[i] := by
  rw [List.getLastD_eq_getLast?, List.getLast?_take, if_neg (by omega), Nat.add_sub_cancel, List.getElem?_eq_getElem h]; rfl
/-- two paths of one tree part for good -/
theorem dis_of {PS : List (List Nat)} {P Q : List Nat} (hP : ∀ i, i < P.length → PS.getD ((P.take (i + 1)).getLastD 0) [] = P.take (i + 1)) (hQ : ∀ i, i < Q.length → PS.getD ((Q.take (i + 1)).getLastD 0) [] = Q.take (i + 1)) : disB P Q = false := by
  cases hd : disB P Q with
  | false => rfl
  | true =>
    exfalso
    simp only [disB, List.any_eq_true, List.contains_iff_mem] at hd
    obtain ⟨x, x1, x2⟩ := hd
    obtain ⟨i, hi, e⟩ := List.getElem_of_mem x1
    obtain ⟨j, hj, e'⟩ := List.getElem_of_mem x2
    clear x1 x2
    rw [List.getElem_drop] at e e'
    rw [List.length_drop] at hi hj
    have hi' : cplN P Q + i < P.length := Nat.add_lt_of_lt_sub' hi
    have hj' : cplN P Q + j < Q.length := Nat.add_lt_of_lt_sub' hj
    have p1 := hP (cplN P Q + i) hi'
    have q1 := hQ (cplN P Q + j) hj'
    rw [take_last P _ hi', e] at p1
    rw [take_last Q _ hj', e'] at q1
    have e2 := p1.symm.trans q1
    have e3 := congrArg List.length e2
    rw [List.length_take, List.length_take, Nat.min_eq_left hi', Nat.min_eq_left hj'] at e3
    have e4 : i = j := Nat.add_left_cancel (Nat.succ.inj e3)
    subst e4
    exact absurd (cpl_take P Q (cplN P Q + i) hi' hj' e2) (Nat.not_lt.mpr (Nat.le_add_right ..))
theorem cnt_of {PS : List (List Nat)} {P Q : List Nat} (mP : P ∈ allPaths) (mQ : Q ∈ allPaths) (hP : ∀ i, i < P.length → PS.getD ((P.take (i + 1)).getLastD 0) [] = P.take (i + 1)) (hQ : ∀ i, i < Q.length → PS.getD ((Q.take (i + 1)).getLastD 0) [] = Q.take (i + 1)) :
    (P.length - cplN P Q) + (Q.drop (cplN P Q)).length ≤ 5 ∧ ∀ p, p < 6 → ((keysP P Q).map fun K => K.getLastD 0).count p = if P.contains p = Q.contains p then 0 else 1 := by
  have h := List.all_eq_true.mp (List.all_eq_true.mp cnt_all P mP) Q mQ
  rw [cntB, dis_of hP hQ, Bool.false_or, fL_eq, Bool.and_eq_true] at h
  refine ⟨Nat.le_of_ble_eq_true h.1, fun p h6 => ?_⟩
  rw [beq_iff_eq.mp (List.all_eq_true.mp h.2 p (List.mem_range.mpr h6))]
  by_cases e : P.contains p = Q.contains p
  · rw [if_pos e, e, beq_self_eq_true]; rfl
  · rw [if_neg e, beq_false_of_ne e]; rfl
noncomputable def kB (n : Nat) (od : List Nat) (PS : List (List Nat)) (k : Nat) : Bool := Nat.ble 1 k && (Nat.ble k n && (((PS.getD k []).getLastD 0 == k) && (allPaths.contains (PS.getD k []) && (List.range (PS.getD k []).length).all (preB od PS (PS.getD k [])))))
theorem kB_of {n : Nat} {od : List Nat} {PS : List (List Nat)} {k : Nat} (h : kB n od PS k = true) : 1 ≤ k ∧ k ≤ n ∧ (PS.getD k []).getLastD 0 = k ∧ PS.getD k [] ∈ allPaths ∧
    ∀ i, i < (PS.getD k []).length → ((PS.getD k []).take (i + 1)).getLastD 0 ∈ od ∧ PS.getD (((PS.getD k []).take (i + 1)).getLastD 0) [] = (PS.getD k []).take (i + 1) := by
  simpa only [kB, preB, Bool.and_eq_true, beq_iff_eq, List.all_eq_true, List.contains_iff_mem, Nat.ble_eq, List.mem_range] using h
noncomputable def pathB (n : Nat) (od : List Nat) (PS : List (List Nat)) : Bool :=
  (od.length == n) && (decide od.Nodup && ((List.range n).all (fun k => od.contains (1 + k)) && (lineP [[]] (od.map fun k => PS.getD k []) && od.all (kB n od PS))))
theorem pathB_of {n : Nat} {od : List Nat} {PS : List (List Nat)} (h : pathB n od PS = true) : od.length = n ∧ od.Nodup ∧ (∀ k ∈ List.range n, 1 + k ∈ od) ∧ lineP [[]] (od.map fun k => PS.getD k []) = true ∧ ∀ k ∈ od, kB n od PS k = true := by
  simpa only [pathB, Bool.and_eq_true, decide_eq_true_eq, beq_iff_eq, List.all_eq_true, List.contains_iff_mem] using h
noncomputable def nodeB (n : Nat) (od : List Nat) (PS : List (List Nat)) (D : List Nat) : Bool :=
  od.all fun p => (D.getD p 0 == 0) || ((D.getD p 0 == 2) && (List.range n).any fun i => hasP PS od p i != hasP PS od p 0)
noncomputable def shapeB (n : Nat) (us : List Int) : Bool := fL (orderF (treeOf [Row.root] us) 6 0) fun od => fLL (pathsOf [[]] us) fun PS => pathB n od PS
noncomputable def nodesB (n : Nat) (us : List Int) : Bool := fL (orderF (treeOf [Row.root] us) 6 0) fun od => fLL (pathsOf [[]] us) fun PS => fL ((List.range (n + 1)).map (dcF (treeOf [Row.root] us))) fun D => nodeB n od PS D
theorem shape4 : (allUps 1 4).all (shapeB 4) = true := by decide +kernel
theorem shape5 : (allUps 1 5).all (shapeB 5) = true := by decide +kernel
theorem nodes4 : (allUps 1 4).all (nodesB 4) = true := by decide +kernel
theorem nodes5 : (allUps 1 5).all (nodesB 5) = true := by decide +kernel
theorem str_all : ∀ P ∈ allPaths, PyData.strOk (wayP P) = true := by decide +kernel
theorem way_inj : ∀ P ∈ allPaths, ∀ Q ∈ allPaths, P ≠ Q → wayP P ≠ wayP Q := by decide +kernel
theorem nm_all : ∀ k ∈ List.range 5, nmP (k + 1) ∈ names := by decide +kernel
theorem nm_mem {k : Nat} (h1 : 1 ≤ k) (h2 : k ≤ 5) : nmP k ∈ names := by
  have := nm_all (k - 1) (List.mem_range.mpr (by omega))
  rwa [Nat.sub_add_cancel h1] at this
/-- the tree's rows by their paths -/
structure ShapeI (T : List Row) (PS : List (List Nat)) : Prop where
  len : PS.length = T.length
  pos : 1 ≤ T.length
  p0 : PS.getD 0 [] = []
  row : ∀ k, k < T.length → (T.getD k Row.root).dep = (PS.getD k []).length ∧ (1 ≤ k → (T.getD k Row.root).name = nmP k ∧ (T.getD k Row.root).way = wayP (PS.getD k []))
theorem getD_snoc {α : Type} (l : List α) (a d : α) (k : Nat) : (l ++ [a]).getD k d = if k < l.length then l.getD k d else if k = l.length then a else d := by
  rw [List.getD_eq_getElem?_getD, List.getD_eq_getElem?_getD]
  by_cases h : k < l.length
  · rw [if_pos h, List.getElem?_append_left h]
  · rw [if_neg h, List.getElem?_append_right (by omega)]
    by_cases e : k = l.length
    · subst e; rw [if_pos rfl, Nat.sub_self]; rfl
    · rw [if_neg e, List.getElem?_eq_none (by simp; omega)]; rfl
theorem ShapeI.step {T : List Row} {PS : List (List Nat)} (H : ShapeI T PS) {u : Int} (h0 : 0 ≤ u) (h1 : u < (T.length : Int)) : ShapeI (T ++ [rowOf T u]) (PS ++ [PS.getD u.toNat [] ++ [PS.length]]) := by
  have eu : u.fmod (T.length : Int) = u := by rw [Int.fmod_eq_emod_of_nonneg _ (by omega), Int.emod_eq_of_lt h0 h1]
  have hl := H.len
  have hp := H.pos
  have hu : u.toNat < T.length := by omega
  refine ⟨by rw [List.length_append, List.length_append, hl]; rfl, by rw [List.length_append]; omega, ?_, fun k hk => ?_⟩
  · rw [getD_snoc, if_pos (by omega)]; exact H.p0
  · rw [List.length_append, List.length_singleton] at hk
    rw [getD_snoc, getD_snoc, hl]
    by_cases h : k < T.length
    · rw [if_pos h, if_pos h]; exact H.row k h
    · have e : k = T.length := by omega
      rw [if_neg h, if_neg h, if_pos e, if_pos e]
      obtain ⟨r1, r2⟩ := H.row u.toNat hu
      refine ⟨?_, fun _ => ⟨?_, ?_⟩⟩
      · show (T.getD (u.fmod (T.length : Int)).toNat Row.root).dep + 1 = _
        rw [eu, r1, List.length_append]; rfl
      · rw [e]; rfl
      · show (if u.fmod (T.length : Int) = 0 then Str.ofString "" else (T.getD (u.fmod (T.length : Int)).toNat Row.root).way) ++ Str.ofString "/" ++ names.getD (T.length - 1) (Str.ofString "") = _
        have eW : wayP (PS.getD u.toNat [] ++ [T.length]) = wayP (PS.getD u.toNat []) ++ Str.ofString "/" ++ names.getD (T.length - 1) (Str.ofString "") := by unfold wayP; rw [List.foldl_append]; rfl
        rw [eu, eW]
        by_cases z : u = 0
        · subst z
          rw [if_pos rfl]
          have : PS.getD (0 : Int).toNat [] = [] := H.p0
          rw [this]; rfl
        · rw [if_neg z, (r2 (by omega)).2]
theorem shape_tree : ∀ (n k : Nat) (us : List Int) (T : List Row) (PS : List (List Nat)), us ∈ allUps k n → T.length = k → ShapeI T PS → ShapeI (treeOf T us) (pathsOf PS us) ∧ (treeOf T us).length = k + n
  | 0, k, us, T, PS, hu, hk, H => by
    rw [allUps, List.mem_singleton] at hu
    subst hu
    exact ⟨H, hk⟩
  | n + 1, k, us, T, PS, hu, hk, H => by
    rw [allUps, List.mem_flatMap] at hu
    obtain ⟨u, hu, hv⟩ := hu
    obtain ⟨l, hl, rfl⟩ := List.mem_map.mp hv
    have hu' := List.mem_range.mp hu
    obtain ⟨i1, i2⟩ := shape_tree n (k + 1) l (T ++ [rowOf T (u : Int)]) (PS ++ [PS.getD (u : Int).toNat [] ++ [PS.length]]) hl (by rw [List.length_append, hk]; rfl) (H.step (by omega) (by omega))
    exact ⟨i1, by rw [treeOf, i2]; omega⟩
theorem shape_root : ShapeI [Row.root] [[]] := ⟨rfl, Nat.le_refl _, rfl, fun k hk => by
  have e : k = 0 := by simpa using hk
  subst e
  exact ⟨rfl, fun h => absurd h (by decide)⟩⟩
theorem keysUp_pre : ∀ (j : Nat) (P : List Nat), j ≤ P.length → ∀ K ∈ keysUp j P, ∃ i, i < P.length ∧ K = P.take (i + 1)
  | 0, _, _, K, h => nomatch h
  | j + 1, P, hj, K, h => by
    rw [keysUp] at h
    rcases List.mem_cons.mp h with h | h
    · exact ⟨P.length - 1, by omega, by rw [h, Nat.sub_add_cancel (by omega), List.take_length]⟩
    · have hl : P.dropLast.length = P.length - 1 := List.length_dropLast
      obtain ⟨i, hi, e⟩ := keysUp_pre j P.dropLast (by omega) K h
      refine ⟨i, by omega, ?_⟩
      rw [e, List.dropLast_eq_take, List.take_take]
      congr 1; omega
theorem keysDn_pre : ∀ (R A : List Nat), ∀ K ∈ keysDn A R, ∃ i, i < R.length ∧ K = A ++ R.take (i + 1)
  | [], _, K, h => nomatch h
  | k :: R, A, K, h => by
    rw [keysDn] at h
    rcases List.mem_cons.mp h with h | h
    · exact ⟨0, Nat.succ_pos _, h⟩
    · obtain ⟨i, hi, e⟩ := keysDn_pre R (A ++ [k]) K h
      exact ⟨i + 1, Nat.succ_lt_succ hi, by rw [e, List.append_assoc]; rfl⟩
theorem keysP_pre {P Q : List Nat} (ht : P.take (cplN P Q) = Q.take (cplN P Q)) {K : List Nat} (h : K ∈ keysP P Q) : (∃ i, i < P.length ∧ K = P.take (i + 1)) ∨ ∃ i, i < Q.length ∧ K = Q.take (i + 1) := by
  rcases List.mem_append.mp h with h | h
  · exact .inl (keysUp_pre _ P (Nat.sub_le ..) K h)
  · obtain ⟨i, hi, e⟩ := keysDn_pre _ _ K h
    rw [List.length_drop] at hi
    refine .inr ⟨cplN P Q + i, by omega, ?_⟩
    rw [e, ht, ← List.take_add]; rfl
theorem lineB_of {T : List Row} {PS : List (List Nat)} : ∀ (od : List Nat) (L : List (List Nat)),
    (∀ k ∈ od, (T.getD k Row.root).dep = (PS.getD k []).length ∧ (T.getD k Row.root).name = nmP k ∧ (T.getD k Row.root).way = wayP (PS.getD k []) ∧ (PS.getD k []).getLastD 0 = k ∧ PS.getD k [] ∈ allPaths ∧ nmP k ∈ names) →
    (∀ P ∈ L, P ∈ [] :: allPaths) → lineP L (od.map fun k => PS.getD k []) = true → lineB (L.map wayR) (od.map fun k => T.getD k Row.root) = true
  | [], _, _, _, _ => rfl
  | k :: od, L, H, hL, h => by
    obtain ⟨e1, e2, e3, e4, e5, e6⟩ := H k (.head _)
    rw [List.map_cons, lineP] at h
    simp only [Bool.and_eq_true, decide_eq_true_eq, beq_iff_eq] at h
    obtain ⟨⟨⟨h1, h2⟩, h3⟩, h4⟩ := h
    generalize PS.getD k [] = P at e1 e3 e4 e5 h1 h2 h3 h4
    have hp := paths_len _ (.tail _ e5)
    have hg : (L.map wayR).getD ((P).length - 1) (Str.ofString "") = wayR (P).dropLast := by
      rw [← h3, List.getD_eq_getElem?_getD, List.getD_eq_getElem?_getD, List.getElem?_map, List.getElem?_eq_getElem (by omega)]; rfl
    have hdl : (P).dropLast ∈ [] :: allPaths := by
      rw [← h3, List.getD_eq_getElem?_getD, List.getElem?_eq_getElem (by omega)]
      exact hL _ (List.getElem_mem _)
    obtain ⟨j1, _, _⟩ := jn_all _ e5
    rw [e4] at j1
    have ih := lineB_of (T := T) (PS := PS) od (L.take (P).length ++ [P]) (fun q hq => H q (.tail _ hq)) (fun P hP => by
      rcases List.mem_append.mp hP with hP | hP
      · exact hL P (List.mem_of_mem_take hP)
      · rw [List.mem_singleton.mp hP]; exact .tail _ e5) h4
    rw [List.map_append, List.map_take, List.map_singleton, wayR_of (paths_ne _ e5)] at ih
    rw [List.map_cons, lineB, e1, e2, e3, hg, j1, List.length_map, ih]
    simp only [Bool.and_eq_true, decide_eq_true_eq, beq_self_eq_true, List.contains_iff_mem, and_true]
    exact ⟨⟨⟨⟨h1, h2⟩, by omega⟩, wayR_len hdl⟩, e6⟩
theorem chkA_of {n : Nat} (hn : n ≤ 5) {us : List Int} (hu : us ∈ allUps 1 n) (h : shapeB n us = true) : ChkA n (treeOf [Row.root] us) (pathsOf [[]] us) (orderF (treeOf [Row.root] us) 6 0) := by
  obtain ⟨I, hl⟩ := shape_tree n 1 us [Row.root] [[]] hu rfl shape_root
  rw [shapeB, fL_eq, fLL_eq] at h
  generalize treeOf [Row.root] us = T at *
  generalize pathsOf [[]] us = PS at *
  generalize orderF T 6 0 = od at *
  obtain ⟨c1, c2, c3, c4, c5'⟩ := pathB_of h
  have c5 := fun k hk => kB_of (c5' k hk)
  have hk : ∀ k ∈ od, k < T.length ∧ 1 ≤ k ∧ (T.getD k Row.root).dep = (PS.getD k []).length ∧ (T.getD k Row.root).name = nmP k ∧ (T.getD k Row.root).way = wayP (PS.getD k []) ∧ (PS.getD k []).getLastD 0 = k ∧ PS.getD k [] ∈ allPaths ∧ nmP k ∈ names := fun k hk => by
    obtain ⟨d1, d2, d3, d4, _⟩ := c5 k hk
    obtain ⟨r1, r2⟩ := I.row k (by omega)
    exact ⟨by omega, d1, r1, (r2 d1).1, (r2 d1).2, d3, d4, nm_mem d1 (by omega)⟩
  refine ⟨by omega, c1, c2, fun k h => ?_, c3, ?_, fun a ha b hb hab => ?_⟩
  · obtain ⟨d1, d2, d3, d4, d5, d6, d7, d8⟩ := hk k h
    have := paths_len _ (.tail _ d7)
    exact ⟨d1, d2, by rw [d4]; exact d8, by rw [d3]; omega, by rw [d5]; exact str_all _ d7, d5, d7⟩
  · exact lineB_of od [[]] (fun k h => (hk k h).2.2) (fun P hP => by rw [List.mem_singleton.mp hP]; exact .head _) c4
  · obtain ⟨_, _, _, _, a5, a6, a7, _⟩ := hk a ha
    obtain ⟨_, _, _, _, b5, b6, b7, _⟩ := hk b hb
    have hne : PS.getD a [] ≠ PS.getD b [] := fun e => hab (by rw [← a6, ← b6, e])
    refine ⟨hne, by rw [a5, b5]; exact way_inj _ a7 _ b7 hne, (cnt_of (PS := PS) a7 b7 (fun i hi => ((c5 a ha).2.2.2.2 i hi).2) (fun i hi => ((c5 b hb).2.2.2.2 i hi).2)).1, fun K hK => ?_⟩
    rcases keysP_pre (pair_all _ a7 _ b7 hne).2.2.2.1 hK with ⟨i, hi, e⟩ | ⟨i, hi, e⟩
    · rw [e]; exact (c5 a ha).2.2.2.2 i hi
    · rw [e]; exact (c5 b hb).2.2.2.2 i hi
theorem chkB_of {n : Nat} (hn : n ≤ 5) {us : List Int} (hs : shapeB n us = true) (A : ChkA n (treeOf [Row.root] us) (pathsOf [[]] us) (orderF (treeOf [Row.root] us) 6 0)) (h : nodesB n us = true) : ChkB n (treeOf [Row.root] us) (pathsOf [[]] us) (orderF (treeOf [Row.root] us) 6 0) := by
  obtain ⟨a1, a2, _, a4, _⟩ := A
  rw [nodesB, fL_eq, fLL_eq, fL_eq] at h
  rw [shapeB, fL_eq, fLL_eq] at hs
  generalize treeOf [Row.root] us = T at *
  generalize pathsOf [[]] us = PS at *
  generalize orderF T 6 0 = od at *
  simp only [nodeB, Bool.or_eq_true, Bool.and_eq_true, beq_iff_eq, bne_iff_ne, List.all_eq_true, List.any_eq_true, List.mem_range] at h
  have c5 := fun k hk => kB_of ((pathB_of hs).2.2.2.2 k hk)
  have hD : ∀ p ∈ od, ((List.range (n + 1)).map (dcF T)).getD p 0 = dcF T p := fun p hp => by
    have := (a4 p hp).1
    rw [List.getD_eq_getElem?_getD, List.getElem?_map, List.getElem?_range (by omega)]; rfl
  have hod : ∀ i, i < n → od.getD i 0 ∈ od := fun i hi => by
    rw [List.getD_eq_getElem?_getD, List.getElem?_eq_getElem (by omega)]; exact List.getElem_mem _
  refine fun p hp => ⟨?_, fun i hi j hj => ?_⟩
  · have := h p hp
    rw [hD p hp] at this
    rcases this with h | ⟨h, i, hi, e⟩
    · exact .inl h
    · exact .inr ⟨h, i, List.mem_range.mpr hi, e⟩
  · have ha := hod i (List.mem_range.mp hi)
    have hb := hod j (List.mem_range.mp hj)
    obtain ⟨_, _, _, p4, p5⟩ := c5 _ ha
    obtain ⟨_, _, _, q4, q5⟩ := c5 _ hb
    have hpp := c5 p hp
    unfold nodesF hasP
    by_cases e : od.getD i 0 = od.getD j 0
    · rw [if_pos e, e, if_pos rfl]; rfl
    · rw [if_neg e]
      exact (cnt_of (PS := PS) p4 q4 (fun i hi => (p5 i hi).2) (fun i hi => (q5 i hi).2)).2 p (Nat.lt_succ_of_le (Nat.le_trans hpp.2.1 hn))
theorem chkA4 : ∀ us ∈ allUps 1 4, ChkA 4 (treeOf [Row.root] us) (pathsOf [[]] us) (orderF (treeOf [Row.root] us) 6 0) := fun us hu => chkA_of (by decide) hu (List.all_eq_true.mp shape4 us hu)
theorem chkA5 : ∀ us ∈ allUps 1 5, ChkA 5 (treeOf [Row.root] us) (pathsOf [[]] us) (orderF (treeOf [Row.root] us) 6 0) := fun us hu => chkA_of (by decide) hu (List.all_eq_true.mp shape5 us hu)
theorem chkB4 : ∀ us ∈ allUps 1 4, ChkB 4 (treeOf [Row.root] us) (pathsOf [[]] us) (orderF (treeOf [Row.root] us) 6 0) := fun us hu => chkB_of (by decide) (List.all_eq_true.mp shape4 us hu) (chkA4 us hu) (List.all_eq_true.mp nodes4 us hu)
theorem chkB5 : ∀ us ∈ allUps 1 5, ChkB 5 (treeOf [Row.root] us) (pathsOf [[]] us) (orderF (treeOf [Row.root] us) 6 0) := fun us hu => chkB_of (by decide) (List.all_eq_true.mp shape5 us hu) (chkA5 us hu) (List.all_eq_true.mp nodes5 us hu)
/-! plain law: sums over the places -/
theorem sum_flat (w : Nat → Int) (f : Nat → List Nat) : ∀ l : List Nat, ((l.flatMap f).map w).sum = (l.map fun k => ((f k).map w).sum).sum
  | [] => rfl
  | k :: r => by rw [List.flatMap_cons, List.map_append, List.sum_append, List.map_cons, List.sum_cons, sum_flat w f r]
theorem sum_one (w : Nat → Int) (x : Nat) : ∀ ks : List Nat, ks.Nodup → x ∈ ks → (ks.map fun k => (((if k = x then 1 else 0 : Nat) : Int)) * w k).sum = w x
  | [], _, h => nomatch h
  | k :: r, hd, h => by
    rw [List.map_cons, List.sum_cons]
    obtain ⟨h1, h2⟩ := List.nodup_cons.mp hd
    by_cases e : k = x
    · subst e
      have z : ∀ l : List Nat, k ∉ l → (l.map fun j => (((if j = k then 1 else 0 : Nat) : Int)) * w j).sum = 0 := by
        intro l
        induction l with
        | nil => intro _; rfl
        | cons j l ih =>
          intro hn
          rw [List.map_cons, List.sum_cons, ih (fun hm => hn (.tail _ hm)), if_neg (show ¬ j = k from fun e2 => hn (by rw [← e2]; exact .head _))]
          simp
      rw [z r h1, if_pos rfl]; simp
    · have hx : x ∈ r := (List.mem_cons.mp h).resolve_left (fun e' => e e'.symm)
      rw [if_neg e, sum_one w x r h2 hx]; simp
theorem sum_add (f g : Nat → Int) : ∀ l : List Nat, (l.map fun k => f k + g k).sum = (l.map f).sum + (l.map g).sum
  | [] => rfl
  | k :: r => by simp only [List.map_cons, List.sum_cons, sum_add f g r]; omega
theorem sum_count (w : Nat → Int) {ks : List Nat} (hd : ks.Nodup) : ∀ l : List Nat, (∀ x ∈ l, x ∈ ks) → (l.map w).sum = (ks.map fun k => ((l.count k : Nat) : Int) * w k).sum
  | [], _ => by
    have z : ∀ l : List Nat, (l.map fun k => ((([] : List Nat).count k : Nat) : Int) * w k).sum = 0 := by
      intro l
      induction l with
      | nil => rfl
      | cons j l ih => rw [List.map_cons, List.sum_cons, ih]; simp
    rw [z]; rfl
  | x :: l, h => by
    rw [List.map_cons, List.sum_cons, sum_count w hd l fun y hy => h y (.tail _ hy), ← sum_one w x ks hd (h x (.head _)), ← sum_add]
    congr 1
    refine List.map_congr_left fun k _ => ?_
    rw [List.count_cons]
    by_cases e : k = x
    · subst e; simp; rw [Int.add_mul]; omega
    · have e' : (x == k) = false := by simp; exact fun e2 => e e2.symm
      rw [if_neg e, e']; simp
theorem sum_le {f g : Nat → Int} : ∀ l : List Nat, (∀ k ∈ l, f k ≤ g k) → (l.map f).sum ≤ (l.map g).sum
  | [], _ => Int.le_refl _
  | k :: r, h => by
    have h1 := h k (.head _)
    have h2 := sum_le r fun x hx => h x (.tail _ hx)
    simp only [List.map_cons, List.sum_cons]; omega
theorem sum_even {f : Nat → Int} : ∀ l : List Nat, (∀ k ∈ l, f k % 2 = 0) → (l.map f).sum % 2 = 0
  | [], _ => rfl
  | k :: r, h => by
    have h1 := h k (.head _)
    have h2 := sum_even r fun x hx => h x (.tail _ hx)
    simp only [List.map_cons, List.sum_cons]; omega
/-! changes along a trip -/
noncomputable def adjS (d : Int → Int → Nat) : List Int → Nat
  | x :: y :: r => d x y + adjS d (y :: r)
  | _ => 0
theorem adj_range (d : Int → Int → Nat) : ∀ l : List Int, ((List.range (l.length - 1)).map fun k => d (l.getD k 0) (l.getD (k + 1) 0)).sum = adjS d l
  | [] => rfl
  | [_] => rfl
  | x :: y :: r => by
    have ih := adj_range d (y :: r)
    rw [adjS, ← ih]
    simp only [List.length_cons, Nat.add_sub_cancel]
    rw [List.range_succ_eq_map, List.map_cons, List.sum_cons, List.map_map]
    rfl
noncomputable def chgD (f : Int → Bool) (x y : Int) : Nat := if f x = f y then 0 else 1
theorem chg_par (f : Int → Bool) : ∀ (r : List Int) (x z : Int), adjS (chgD f) (x :: (r ++ [z])) % 2 = if f x = f z then 0 else 1
  | [], x, z => by
    show (chgD f x z + 0) % 2 = _
    unfold chgD; split <;> rfl
  | y :: r, x, z => by
    have ih := chg_par f r y z
    show (chgD f x y + adjS (chgD f) (y :: (r ++ [z]))) % 2 = _
    rw [Nat.add_mod, ih]
    unfold chgD
    cases f x <;> cases f y <;> cases f z <;> rfl
theorem chg_pos (f : Int → Bool) : ∀ (r : List Int) (x : Int), (∃ y ∈ r, f y ≠ f x) → 1 ≤ adjS (chgD f) (x :: r)
  | [], _, ⟨_, h, _⟩ => nomatch h
  | y :: r, x, ⟨q, hq, hne⟩ => by
    show 1 ≤ chgD f x y + adjS (chgD f) (y :: r)
    by_cases e : f x = f y
    · rcases List.mem_cons.mp hq with rfl | hq
      · exact absurd e.symm hne
      · have := chg_pos f r y ⟨q, hq, e ▸ hne⟩
        omega
    · unfold chgD; rw [if_neg e]; omega
/-- a closed trip that leaves a set crosses its edge at least twice, and an even number of times -/
theorem chg_two (f : Int → Bool) (r : List Int) (x : Int) : adjS (chgD f) (x :: (r ++ [x])) % 2 = 0 ∧ ((∃ y ∈ r, f y ≠ f x) → 2 ≤ adjS (chgD f) (x :: (r ++ [x]))) := by
  have h := chg_par f r x x
  rw [if_pos rfl] at h
  refine ⟨h, fun ⟨y, hy, hne⟩ => ?_⟩
  have := chg_pos f (r ++ [x]) x ⟨y, List.mem_append_left _ hy, hne⟩
  omega
theorem count_flat (f : Nat → List Nat) (p : Nat) : ∀ l : List Nat, (l.flatMap f).count p = (l.map fun k => (f k).count p).sum
  | [] => rfl
  | k :: r => by rw [List.flatMap_cons, List.count_append, List.map_cons, List.sum_cons, count_flat f p r]
/-! the costs -/
theorem kdpLook_put (c : List (Str × Int)) (k k' : Str) (v : Int) : kdpLook (kdpPut c k v) k' 0 = if k = k' then v else kdpLook c k' 0 := by
  unfold kdpPut kdpLook
  by_cases hc : (c.any fun p => decide (p.1 = k)) = true
  · rw [if_pos hc]
    induction c with
    | nil => cases hc
    | cons p c ih =>
      rw [List.map_cons, List.find?_cons, List.find?_cons]
      by_cases e : p.1 = k
      · rw [if_pos (decide_eq_true e)]
        dsimp only
        by_cases e2 : k = k'
        · rw [if_pos e2, decide_eq_true (e.trans e2)]; rfl
        · rw [if_neg e2, decide_eq_false (fun e3 => e2 (e.symm.trans e3))]
          dsimp only
          by_cases hc2 : (c.any fun p => decide (p.1 = k)) = true
          · have := ih hc2; rw [if_neg e2] at this; exact this
          · have : (c.map fun p => if decide (p.1 = k) = true then (p.1, v) else p) = c := by
              conv => rhs; rw [← List.map_id c]
              refine List.map_congr_left fun q hq => ?_
              rw [if_neg (fun e4 => hc2 (List.any_eq_true.mpr ⟨q, hq, e4⟩))]; rfl
            rw [this]
      · rw [if_neg (by simpa using e)]
        have hc2 : (c.any fun p => decide (p.1 = k)) = true := by
          rw [List.any_cons, decide_eq_false e, Bool.false_or] at hc; exact hc
        by_cases e3 : p.1 = k'
        · rw [decide_eq_true e3]
          dsimp only
          rw [if_neg (fun e4 => e (e3.trans e4.symm))]
        · rw [decide_eq_false e3]; exact ih hc2
  · rw [if_neg hc, List.find?_append]
    by_cases e : k = k'
    · subst e
      have : c.find? (fun p => decide (p.1 = k)) = none := List.find?_eq_none.mpr fun q hq e4 => hc (List.any_eq_true.mpr ⟨q, hq, e4⟩)
      rw [this, if_pos rfl]; simp
    · rw [if_neg e]
      have e5 : List.find? (fun p : Str × Int => decide (p.1 = k')) [(k, v)] = none := by simp [e]
      rw [e5, Option.or_none]
theorem kdpPut_keys (c : List (Str × Int)) (k : Str) (v : Int) : k ∈ (kdpPut c k v).map (·.1) ∧ ∀ j ∈ c.map (·.1), j ∈ (kdpPut c k v).map (·.1) := by
  unfold kdpPut
  by_cases hc : (c.any fun p => decide (p.1 = k)) = true
  · rw [if_pos hc]
    have e : ((c.map fun p => if decide (p.1 = k) = true then (p.1, v) else p).map (·.1)) = c.map (·.1) := by
      rw [List.map_map]
      refine List.map_congr_left fun p _ => ?_
      show (if decide (p.1 = k) = true then (p.1, v) else p).1 = p.1
      split <;> rfl
    rw [e]
    obtain ⟨p, hp, hk⟩ := List.any_eq_true.mp hc
    exact ⟨List.mem_map.mpr ⟨p, hp, of_decide_eq_true hk⟩, fun _ h => h⟩
  · rw [if_neg hc, List.map_append]
    exact ⟨by simp, fun j hj => List.mem_append_left _ hj⟩
theorem costs_look : ∀ (rows : List Row) (c : List (Str × Int)), (∀ r ∈ rows, ∀ q ∈ rows, r.way = q.way → r.mode = q.mode) → ∀ k : Str,
    kdpLook (rows.foldl (fun c r => kdpPut c r.way (costOf r.mode)) c) k 0 = match rows.find? (fun r => decide (r.way = k)) with | some r => costOf r.mode | none => kdpLook c k 0
  | [], _, _, _ => rfl
  | r :: rs, c, h, k => by
    rw [List.foldl_cons, costs_look rs _ (fun a ha b hb => h a (.tail _ ha) b (.tail _ hb)), List.find?_cons, kdpLook_put]
    by_cases e : r.way = k
    · rw [decide_eq_true e, if_pos e]
      cases hf : rs.find? (fun r => decide (r.way = k)) with
      | none => rfl
      | some q =>
        dsimp only
        have hq := List.mem_of_find?_eq_some hf
        have hk := List.find?_some hf
        rw [h r (.head _) q (.tail _ hq) (e.trans (of_decide_eq_true hk).symm)]
    · rw [decide_eq_false e, if_neg e]
theorem costsF_look {rows : List Row} (h : ∀ r ∈ rows, ∀ q ∈ rows, r.way = q.way → r.mode = q.mode) {r : Row} (hr : r ∈ rows) : kdpLook (costsF rows) r.way 0 = costOf r.mode := by
  unfold costsF
  rw [costs_look rows [] h]
  cases hf : rows.find? (fun q => decide (q.way = r.way)) with
  | none => exact absurd (List.find?_eq_none.mp hf r hr) (by simp)
  | some q =>
    dsimp only
    have hk := List.find?_some (p := fun q : Row => decide (q.way = r.way)) hf
    rw [h q (List.mem_of_find?_eq_some hf) r hr (of_decide_eq_true hk)]
theorem costsF_keys : ∀ (rows : List Row) (c : List (Str × Int)), (∀ j ∈ c.map (·.1), j ∈ (rows.foldl (fun c r => kdpPut c r.way (costOf r.mode)) c).map (·.1)) ∧ ∀ r ∈ rows, r.way ∈ (rows.foldl (fun c r => kdpPut c r.way (costOf r.mode)) c).map (·.1)
  | [], _ => ⟨fun _ h => h, fun _ h => nomatch h⟩
  | r :: rs, c => by
    obtain ⟨h1, h2⟩ := costsF_keys rs (kdpPut c r.way (costOf r.mode))
    obtain ⟨p1, p2⟩ := kdpPut_keys c r.way (costOf r.mode)
    refine ⟨fun j hj => h1 j (p2 j hj), fun q hq => ?_⟩
    rcases List.mem_cons.mp hq with rfl | hq
    · exact h1 _ p1
    · exact h2 q hq
/-! plain law: of each shape the law holds -/
theorem rest4 : ∀ r ∈ ordF 6 (placesF 4), r.length = 3 ∧ (∀ x ∈ r, 0 ≤ x ∧ x < 4) ∧ ∀ x ∈ placesF 4, x ∈ r := by decide +kernel
theorem rest5 : ∀ r ∈ ordF 6 (placesF 5), r.length = 4 ∧ (∀ x ∈ r, 0 ≤ x ∧ x < 5) ∧ ∀ x ∈ placesF 5, x ∈ r := by decide +kernel
noncomputable def dueV (T : List Row) (k : Nat) : Int := if (orderF T 6 k).length + 1 + 1 < T.length then lettersF (T.getD k Row.root).mode 3 else 0
theorem dueF_sum (T : List Row) : ∀ m, dueF T m = (((List.range m).map fun i => 1 + i).map (dueV T)).sum
  | 0 => rfl
  | m + 1 => by
    rw [dueF, dueF_sum T m, List.range_succ, List.map_append, List.map_append, List.sum_append]
    simp [dueV]
theorem tripL_get (r : List Int) (k : Nat) : (tripL r).getD k 0 = 0 ∨ (tripL r).getD k 0 ∈ r := by
  unfold tripL
  rw [List.getD_eq_getElem?_getD]
  cases h : (0 :: (r ++ [0]))[k]? with
  | none => exact .inl rfl
  | some x =>
    have := List.mem_of_getElem? h
    simp only [List.mem_cons, List.mem_append, List.not_mem_nil, or_false] at this
    rcases this with h | h | h
    · exact .inl h
    · exact .inr h
    · exact .inl h
section
variable {n : Nat} {T S : List Row} {PS : List (List Nat)} {od : List Nat}
theorem law_of (hn : 1 ≤ n ∧ n ≤ 5) (hS : T.map strip = S) (hod : orderF S 6 0 = od) (A : ChkA n S PS od) (B : ChkB n S PS od) (D : ChkC n S PS od) (hm : ∀ r ∈ T, 0 ≤ r.mode ∧ r.mode < 65536)
    (hr : ∀ r ∈ ordF 6 (placesF n), r.length = n - 1 ∧ (∀ x ∈ r, 0 ≤ x ∧ x < (n : Int)) ∧ ∀ x ∈ placesF n, x ∈ r) (hne : ordF 6 (placesF n) ≠ []) : TreeOK T ∧ ∃ C, LawOK T C := by
  obtain ⟨a1, a2, a3, a4, a5, a6, a7⟩ := A
  have eO : ∀ f a, orderF S f a = orderF T f a := fun f a => by rw [← hS, orderF_strip]
  have eR : ∀ k, S.getD k Row.root = strip (T.getD k Row.root) := fun k => by rw [← hS, getD_strip]
  have hT : T.length = n + 1 := by rw [← a1, ← hS, List.length_map]
  have hO : orderF T 6 0 = od := by rw [← eO]; exact hod
  have hrows : rowsF T = od.map fun k => T.getD k Row.root := by unfold rowsF; rw [hO]
  have hlen : (rowsF T).length = n := by rw [hrows, List.length_map]; exact a2
  have hmo : ∀ k, k < T.length → 0 ≤ (T.getD k Row.root).mode ∧ (T.getD k Row.root).mode < 65536 := fun k hk => by
    rw [List.getD_eq_getElem?_getD, List.getElem?_eq_getElem hk]
    exact hm _ (List.getElem_mem hk)
  have hway : ∀ k, (T.getD k Row.root).way = (S.getD k Row.root).way := fun k => by rw [eR]; rfl
  have hline : LineOK [Str.ofString "/"] (od.map fun k => T.getD k Row.root) := by
    refine lineOK_strip _ _ ?_
    have : (od.map fun k => T.getD k Row.root).map strip = od.map fun k => S.getD k Row.root := by
      rw [List.map_map]
      exact List.map_congr_left fun k _ => (eR k).symm
    rw [this]
    exact lineB_ok _ _ a6
  refine ⟨⟨by omega, by omega, ?_, ?_, hmo, ?_, by rw [hO, a2]; omega, ?_, ?_⟩, ?_⟩
  · intro k hk
    rw [hO] at hk
    have := (a4 k hk).1
    omega
  · intro k hk
    rw [hO] at hk
    have := (a4 k hk).2.2.1
    rw [eR] at this; exact this
  · intro k hk
    rw [hO] at hk
    have := (a4 k hk).2.2.2.1
    rw [eR] at this; exact this
  · intro y hy
    rw [hO, List.map_map] at hy
    obtain ⟨k, hk, rfl⟩ := List.mem_map.mp hy
    have := (a4 k hk).2.2.2.2.1
    rw [← hway] at this; exact this
  · rw [hO]; exact hline
  -- the costs
  have hwayP : ∀ k ∈ od, (T.getD k Row.root).way = wayP (PS.getD k []) ∧ PS.getD k [] ∈ allPaths := fun k hk => ⟨by rw [hway]; exact (a4 k hk).2.2.2.2.2.1, (a4 k hk).2.2.2.2.2.2⟩
  have huni : ∀ r ∈ rowsF T, ∀ q ∈ rowsF T, r.way = q.way → r.mode = q.mode := by
    intro r hr q hq e
    rw [hrows] at hr hq
    obtain ⟨a, ha, rfl⟩ := List.mem_map.mp hr
    obtain ⟨b, hb, rfl⟩ := List.mem_map.mp hq
    by_cases hab : a = b
    · rw [hab]
    · have := (a7 a ha b hb hab).2.1
      rw [← hway, ← hway] at this
      exact absurd e this
  have hin : ∀ k ∈ od, T.getD k Row.root ∈ rowsF T := fun k hk => by rw [hrows]; exact List.mem_map.mpr ⟨k, hk, rfl⟩
  let w : Nat → Int := fun k => costOf (T.getD k Row.root).mode
  let N : Nat → Nat → List Nat := fun i j => nodesF PS (od.getD i 0) (od.getD j 0)
  let C : Nat → Nat → Int := fun i j => ((N i j).map w).sum
  have hkey : ∀ a ∈ od, ∀ b ∈ od, a ≠ b → ∀ K ∈ keysP (PS.getD a []) (PS.getD b []), K.getLastD 0 ∈ od ∧ wayR K = (T.getD (K.getLastD 0) Row.root).way := by
    intro a ha b hb hab K hK
    obtain ⟨h1, h2⟩ := (a7 a ha b hb hab).2.2.2 K hK
    obtain ⟨g1, g2⟩ := hwayP _ h1
    rw [h2] at g1 g2
    exact ⟨h1, by rw [wayR_of (paths_ne K g2)]; exact g1.symm⟩
  have hodI : ∀ i, i < n → od.getD i 0 ∈ od := fun i hi => by
    have hi' : i < od.length := by rw [a2]; exact hi
    rw [List.getD_eq_getElem?_getD, List.getElem?_eq_getElem hi']
    exact List.getElem_mem hi'
  have hN : ∀ i j, i < n → j < n → ∀ x ∈ N i j, x ∈ od := by
    intro i j hi hj x hx
    have hx' : x ∈ nodesF PS (od.getD i 0) (od.getD j 0) := hx
    unfold nodesF at hx'
    by_cases hab : od.getD i 0 = od.getD j 0
    · rw [if_pos hab] at hx'; cases hx'
    · rw [if_neg hab] at hx'
      obtain ⟨K, hK, rfl⟩ := List.mem_map.mp hx'
      exact (hkey _ (hodI i hi) _ (hodI j hj) hab K hK).1
  have hdue : dueF T (T.length - 1) = (od.map fun k => ((dcF S k : Nat) : Int) * w k).sum := by
    rw [dueF_sum, hT, Nat.add_sub_cancel]
    have hsub : ∀ x ∈ (List.range n).map fun i => 1 + i, x ∈ od := fun x hx => by
      obtain ⟨i, hi, rfl⟩ := List.mem_map.mp hx
      exact a5 i hi
    rw [sum_count (dueV T) a3 _ hsub]
    congr 1
    refine List.map_congr_left fun k hk => ?_
    have h4 := a4 k hk
    have hnd : ((List.range n).map fun i => 1 + i).Nodup := by
      have e : ((List.range n).map fun i => 1 + i) = List.range' 1 n := by
        rw [List.range'_eq_map_range]
      rw [e]; exact List.nodup_range'
    have hc : ((List.range n).map fun i => 1 + i).count k = 1 := by
      have hk1 : k ∈ (List.range n).map fun i => 1 + i := List.mem_map.mpr ⟨k - 1, List.mem_range.mpr (by omega), by omega⟩
      rw [hnd.count, if_pos hk1]
    rw [hc]
    have hmk := hmo k (by omega)
    show ((1 : Nat) : Int) * dueV T k = _
    unfold dueV dcF
    rw [eO, a1, ← hT]
    by_cases hh : (orderF T 6 k).length + 1 + 1 < T.length
    · rw [if_pos hh, if_pos hh, letters_eq _ hmk.1]; show _ = ((2 : Nat) : Int) * costOf _; omega
    · rw [if_neg hh, if_neg hh]; show _ = ((0 : Nat) : Int) * costOf _; omega
  have htrip : ∀ r ∈ ordF 6 (placesF n), tripF C n r = (od.map fun k => (((catF N n r).count k : Nat) : Int) * w k).sum := by
    intro r hrr
    obtain ⟨r1, r2, r3⟩ := hr r hrr
    have e : tripF C n r = ((catF N n r).map w).sum := by
      unfold catF
      rw [sum_flat]; rfl
    rw [e]
    refine sum_count w a3 _ fun x hx => ?_
    obtain ⟨k, hk, hx⟩ := List.mem_flatMap.mp hx
    have hb : ∀ k, ((tripL r).getD k 0).toNat < n := fun k => by
      rcases tripL_get r k with h | h
      · rw [h]; show 0 < n; omega
      · have := r2 _ h; omega
    exact hN _ _ (hb k) (hb (k + 1)) x hx
  refine ⟨C, ?_, ?_, ?_, ?_, ?_, ?_, ?_⟩
  · rw [hlen, hT]; rfl
  · rw [hlen]; exact hn.1
  · intro i j hi hj hij
    rw [hlen] at hi hj
    have ha := hodI i hi
    have hb := hodI j hj
    have hab : od.getD i 0 ≠ od.getD j 0 := fun e => by
      have hi' : i < od.length := by rw [a2]; exact hi
      have hj' : j < od.length := by rw [a2]; exact hj
      rw [List.getD_eq_getElem?_getD, List.getD_eq_getElem?_getD, List.getElem?_eq_getElem hi', List.getElem?_eq_getElem hj'] at e
      have a3' := List.pairwise_iff_getElem.mp a3
      rcases Nat.lt_or_gt_of_ne hij with hh | hh
      · exact a3' i j hi' hj' hh e
      · exact a3' j i hj' hi' hh e.symm
    have eI : ∀ i, i < n → (rowsF T).getD i Row.root = T.getD (od.getD i 0) Row.root := fun i hi => by
      have hi' : i < od.length := by rw [a2]; exact hi
      rw [hrows, List.getD_eq_getElem?_getD, List.getElem?_map, List.getD_eq_getElem?_getD (l := od), List.getElem?_eq_getElem hi']
      rfl
    rw [eI i hi, eI j hj, (hwayP _ ha).1, (hwayP _ hb).1]
    obtain ⟨p1, p2, p3, p4⟩ := a7 _ ha _ hb hab
    have hk9 : ∀ K ∈ keysP (PS.getD (od.getD i 0) []) (PS.getD (od.getD j 0) []), wayR K ∈ (costsF (rowsF T)).map (·.1) := fun K hK => by
      obtain ⟨k1, k2⟩ := hkey _ ha _ hb hab K hK
      rw [k2]
      exact (costsF_keys (rowsF T) []).2 _ (hin _ k1)
    have := pair_ok (hwayP _ ha).2 (hwayP _ hb).2 p1 p3 (c := costsF (rowsF T)) (fun K hK => hk9 K (List.mem_append_left _ hK))
    have eC : costSum (costsF (rowsF T)) ((keysP (PS.getD (od.getD i 0) []) (PS.getD (od.getD j 0) [])).map wayR) = C i j := by
      show _ = ((nodesF PS (od.getD i 0) (od.getD j 0)).map w).sum
      unfold costSum nodesF
      rw [if_neg hab, List.map_map, List.map_map]
      congr 1
      refine List.map_congr_left fun K hK => ?_
      obtain ⟨k1, k2⟩ := hkey _ ha _ hb hab K hK
      show kdpLook _ (wayR K) 0 = costOf _
      rw [k2, costsF_look huni (hin _ k1)]
    rw [eC] at this
    exact this
  · intro i
    show ((nodesF PS (od.getD i 0) (od.getD i 0)).map w).sum = 0
    unfold nodesF
    rw [if_pos rfl]; rfl
  · intro r hrr
    rw [hlen] at hrr ⊢
    obtain ⟨r1, r2, r3⟩ := hr r hrr
    exact ⟨r1, r2⟩
  · intro r hrr
    rw [hlen] at hrr ⊢
    obtain ⟨r1, r2, r3⟩ := hr r hrr
    rw [htrip r hrr, hdue]
    have hct : ∀ p ∈ od, (catF N n r).count p % 2 = 0 ∧ dcF S p ≤ (catF N n r).count p := by
      intro p hp
      obtain ⟨b1, b2⟩ := B p hp
      have hl : (tripL r).length - 1 = n := by unfold tripL; simp [r1]; omega
      have e : (catF N n r).count p = adjS (chgD fun x => hasP PS od p x.toNat) (tripL r) := by
        unfold catF
        rw [count_flat, ← adj_range, hl]
        congr 1
        refine List.map_congr_left fun k _ => ?_
        have hb : ∀ k, ((tripL r).getD k 0).toNat < n := fun k => by
          rcases tripL_get r k with h | h
          · rw [h]; show 0 < n; omega
          · have := r2 _ h; omega
        exact b2 _ (List.mem_range.mpr (hb k)) _ (List.mem_range.mpr (hb (k + 1)))
      have h2 := chg_two (fun x => hasP PS od p x.toNat) r 0
      rw [e]
      refine ⟨h2.1, ?_⟩
      rcases b1 with b1 | ⟨b1, i, hi, hne⟩
      · rw [b1]; exact Nat.zero_le _
      · rw [b1]
        refine h2.2 ⟨(i : Int), r3 _ ?_, hne⟩
        have h0 : i ≠ 0 := fun e => hne (by rw [e])
        have hi' := List.mem_range.mp hi
        exact List.mem_map.mpr ⟨i - 1, List.mem_range.mpr (by omega), by omega⟩
    constructor
    · refine sum_le od fun p hp => ?_
      have h1 := (hct p hp).2
      have hw : 0 ≤ w p := cost_nonneg _ (hmo p (by have := (a4 p hp).1; omega)).1
      exact Int.mul_le_mul_of_nonneg_right (by omega) hw
    · have h2 := sum_even (f := fun k => (((catF N n r).count k : Nat) : Int) * w k) od fun p hp => by
        have h1 := (hct p hp).1
        obtain ⟨q, hq⟩ : ∃ q, (catF N n r).count p = 2 * q := ⟨(catF N n r).count p / 2, by omega⟩
        rw [hq]
        have e : (((2 * q : Nat)) : Int) * w p = 2 * ((q : Int) * w p) := by
          rw [Int.natCast_mul, Int.mul_assoc]; rfl
        rw [e]; omega
      rw [Int.fmod_eq_emod_of_nonneg _ (by decide)]; exact h2
  · rw [hlen]
    cases ho : ordF 6 (placesF n) with
    | nil => exact absurd ho hne
    | cons r q =>
      refine ⟨r, q, rfl, ?_⟩
      rw [htrip r (ho ▸ .head _), hdue]
      congr 1
      refine List.map_congr_left fun p hp => ?_
      have := D p hp
      rw [ho] at this
      have e : (catF N n r).count p = dcF S p := this
      rw [e]
end
theorem numsOf_len (ns : List Int) : (numsOf ns).length = 4 ∨ (numsOf ns).length = 5 := by
  unfold numsOf
  rw [List.length_append, List.length_drop, List.length_take]
  simp only [List.length_cons, List.length_nil]
  omega
/-- the plain law -/
theorem plain_law (ns : List Int) : TreeOK (treeOf [Row.root] (numsOf ns)) ∧ ∃ C, LawOK (treeOf [Row.root] (numsOf ns)) C := by
  have hl := numsOf_len ns
  generalize numsOf ns = xs at hl
  have hS := treeOf_strip xs [Row.root] (by decide) (by simp only [List.length_cons, List.length_nil]; omega)
  have hm := tree_modes xs [Row.root] (fun r hr => by rw [List.mem_singleton.mp hr]; exact ⟨Int.le_refl _, by decide⟩)
  have hu := upsOf_mem xs 1 (by decide)
  rcases hl with h | h
  · rw [h] at hu
    exact law_of (n := 4) (by decide) hS rfl (chkA4 _ hu) (chkB4 _ hu) (chkC4 _ hu) hm rest4 (by decide +kernel)
  · rw [h] at hu
    exact law_of (n := 5) (by decide) hS rfl (chkA5 _ hu) (chkB5 _ hu) (chkC5 _ hu) hm rest5 (by decide +kernel)
/-! the law's calls, each with what it gives laid out -/
section
variable {w : World} {f : Addr} {n : Nat} {vs : List Value} {p : Program} {loose : List Str} {mean : ExcName → Option Value} {mg mb : Str → Option Value} {dp un : Nat} {gd : Option (List Code)} {env : Env} {outer : List Env} {A₀ : Around} {base h₀ : Heap} {L : Addr} {m : Str → Option Value} {s : Shared} {Q E : Value → Shared → Prop} {a b c d e t : Addr × Obj} {R hl rest : Led}
theorem HCon.useT {Pre : Heap → Prop} {Out : Heap → Value → Led → Prop} (C : HCon w f n vs [t] Pre Out) (B : Below A₀ base outer h₀) (F : Fr h₀ L s.heap m) (X : (Mine.hd.heap_1_1 w.params).In h₀) (N : News h₀ L s.heap (a :: b :: c :: d :: e :: t :: R)) (T : Top p loose mean mg mb h₀) (hf : env.frame = some L) (hk : env.scope.kind = .function)
    (hd : dp + n < recursionLimit) (hu : un + 8 * n < cLine) (o1 : a.1 ≠ t.1) (o2 : b.1 ≠ t.1) (o3 : c.1 ≠ t.1) (o4 : d.1 ≠ t.1) (o5 : e.1 ≠ t.1) (oR : ∀ p ∈ R, p.1 ≠ t.1) (hpre : ∀ g, h₀.StaysIn g → Pre g)
    (ret : ∀ (r : Value) (tl : Led) (h' : Heap) (tk' : Nat), Fr h₀ L h' m → News h₀ L h' (tl ++ (a :: b :: c :: d :: e :: R)) → (∀ q ∈ a :: b :: c :: d :: e :: R, ∀ p ∈ tl, q.1 ≠ p.1) → Out h' r tl → Q r { s with heap := h', toks := tk' }) :
    wpAny (model PySem.Challenge.rw_kt0070_01.row.prog w) (topA dp un gd env outer) (call (.ref f) vs) Q E s := by
  refine HCon.use (rest := a :: b :: c :: d :: e :: R) C B F X N T hf hk hd hu (fun q hq => ?_) (fun q hq => ⟨?_, ?_⟩) (fun g st _ => hpre g st) ret
  · rw [List.mem_singleton.mp hq]; simp
  · simp only [List.mem_cons] at hq ⊢
    rcases hq with rfl | rfl | rfl | rfl | rfl | hq <;> simp [*]
  · have : q.1 ≠ t.1 := by
      simp only [List.mem_cons] at hq
      rcases hq with rfl | rfl | rfl | rfl | rfl | hq
      · exact o1
      · exact o2
      · exact o3
      · exact o4
      · exact o5
      · exact oR q hq
    simpa using this
theorem LCon.useK {Out : Heap → Value → Led → Prop} (C : LCon w f n vs hl Out) (B : Below A₀ h₀ [] h₀) (F : Fr h₀ L s.heap m) (X : (Mine.hd.heap_1_1 w.params).In h₀) (N : News h₀ L s.heap (hl ++ rest)) (T : Top p loose mean mg mb h₀) (hf : env.frame = some L) (hk : env.scope.kind = .function)
    (hd : dp + n < recursionLimit) (hu : un + 8 * n < cLine) (off : ∀ q ∈ rest, ∀ p ∈ hl, q.1 ≠ p.1)
    (ret : ∀ (r : Value) (tl : Led) (h' : Heap) (tk' : Nat), Fr h₀ L h' m → News h₀ L h' (tl ++ rest) → (∀ q ∈ rest, ∀ p ∈ tl, q.1 ≠ p.1) → Out h' r tl → Q r { s with heap := h', toks := tk' }) :
    wpAny (model PySem.Challenge.rw_kt0070_01.row.prog w) (topA dp un gd env []) (call (.ref f) vs) Q E s :=
  LCon.use (rest := rest) C B F X N T hf hk hd hu (fun q hq => List.mem_append_left _ hq) (fun q hq => ⟨List.mem_append_right _ hq, fun hm => by
    obtain ⟨p, hp, e⟩ := List.mem_map.mp hm
    exact off q hq p hp e.symm⟩) ret
end
theorem news_tree {h₀ h : Heap} {L : Addr} {t e1 e2 e3 e4 a b c d : Addr × Obj} {R : Led} (N : News h₀ L h (t :: R ++ [e1, e2, e3, e4, a, b, c, d])) : News h₀ L h (t :: a :: b :: c :: d :: R) := fun p hp => N p (by
  simp only [List.mem_cons, List.mem_append, List.cons_append] at hp ⊢
  rcases hp with rfl | rfl | rfl | rfl | rfl | hp <;> simp [*])
theorem offs_tree {t e1 e2 e3 e4 a b c d : Addr × Obj} {R : Led} (D : ∀ q ∈ [e1, e2, e3, e4, a, b, c, d], ∀ p ∈ t :: R, q.1 ≠ p.1) :
    (t.1 ≠ a.1 ∧ t.1 ≠ b.1 ∧ t.1 ≠ c.1 ∧ t.1 ≠ d.1) ∧ (∀ p ∈ R, p.1 ≠ a.1) ∧ (∀ p ∈ R, p.1 ≠ b.1) ∧ (∀ p ∈ R, p.1 ≠ c.1) ∧ ∀ p ∈ R, p.1 ≠ d.1 := by
  have h : ∀ q ∈ [a, b, c, d], ∀ p ∈ t :: R, p.1 ≠ q.1 := fun q hq p hp => Ne.symm (D q (by simp only [List.mem_cons] at hq ⊢; rcases hq with rfl | rfl | rfl | rfl | hq <;> simp [*] at *) p hp)
  exact ⟨⟨h a (by simp) t (.head _), h b (by simp) t (.head _), h c (by simp) t (.head _), h d (by simp) t (.head _)⟩, fun p hp => h a (by simp) p (.tail _ hp), fun p hp => h b (by simp) p (.tail _ hp), fun p hp => h c (by simp) p (.tail _ hp), fun p hp => h d (by simp) p (.tail _ hp)⟩
theorem TreeAt.ofNews {h₀ h : Heap} {L : Addr} {tr : Addr} {as : List Addr} {T : List Row} {ts : List RTok} {n : Nat} {news : Led} (N : News h₀ L h news) (h1 : (tr, W.listOf (List.map Value.ref as).toArray n) ∈ news) (h2 : ∀ p ∈ rowLed as T ts, p ∈ news) (ha : as.length = T.length) (ht : ts.length = T.length) (hs : T.length ≤ 6) : TreeAt h tr as T ts :=
  ⟨N.isList h1, fun p hp => (N p (h2 p hp)).1, ha, ht, hs⟩
theorem news_trips {h₀ h : Heap} {L : Addr} {oo dl trp tb c3 c2 c1 wl cd tr : Addr × Obj} {OL rl : Led} (N : News h₀ L h (oo :: (OL ++ dl :: trp :: tb :: c3 :: c2 :: c1 :: wl :: cd :: tr :: rl))) : News h₀ L h (oo :: trp :: tb :: c3 :: c2 :: wl :: (OL ++ rl)) := fun p hp => N p (by
  simp only [List.mem_cons, List.mem_append] at hp ⊢
  rcases hp with h | h | h | h | h | h | h | h <;> simp [h])
section
variable {w : World} {p : Program} {loose : List Str} {mean : ExcName → Option Value} {mg mb : Str → Option Value} {dp un : Nat} {gd : Option (List Code)} {env : Env} {outer : List Env} {A₀ : Around} {base h₀ hp : Heap} {gs : Array GenState} {dr : Drawn} {tk : Nat} {os : OsState} {L : Addr} {m : Str → Option Value} {Q E : Value → Shared → Prop}
theorem use_tree {l : Addr} {vs : List Value} {xs : List Int} {T : List Row} {e1 e2 e3 e4 a b c d : Addr × Obj} (hI : IntsAre vs xs) (h5 : xs.length ≤ 5) (hT : treeOf [Row.root] xs = T)
    (B : Below A₀ base outer h₀) (F : Fr h₀ L hp m) (X : (Mine.hd.heap_1_1 w.params).In h₀) (N : News h₀ L hp [e1, e2, e3, e4, a, b, c, d]) (Tp : Top p loose mean mg mb h₀) (hf : env.frame = some L) (hk : env.scope.kind = .function)
    (hd : dp + 3 < recursionLimit) (hu : un + 8 * 3 < cLine) (hl : hp.IsList l vs.toArray)
    (ret : ∀ tr as ts n h' tk', as.length = T.length → ts.length = T.length → Fr h₀ L h' m → News h₀ L h' ((tr, W.listOf (List.map Value.ref as).toArray n) :: a :: b :: c :: d :: rowLed as T ts) →
      tr ≠ a.1 → tr ≠ b.1 → tr ≠ c.1 → tr ≠ d.1 → (∀ p ∈ rowLed as T ts, p.1 ≠ a.1) → (∀ p ∈ rowLed as T ts, p.1 ≠ b.1) → (∀ p ∈ rowLed as T ts, p.1 ≠ c.1) → (∀ p ∈ rowLed as T ts, p.1 ≠ d.1) → Q (.ref tr) ⟨h', gs, dr, tk', os⟩) :
    wpAny (model PySem.Challenge.rw_kt0070_01.row.prog w) (topA dp un gd env outer) (call (.ref 233) [.ref l]) Q E ⟨hp, gs, dr, tk, os⟩ := by
  subst hT
  refine PCon.use (s := ⟨hp, gs, dr, tk, os⟩) (c_tree w _ _ xs hI h5) B F X N Tp hf hk hd hu hl ?_
  intro r tl h9 tk9 S9 F9 N9 D9 O9
  obtain ⟨tr, as, ts, n, e9, ha, ht, e9'⟩ := O9
  subst e9 e9'
  obtain ⟨⟨q1, q2, q3, q4⟩, u1, u2, u3, u4⟩ := offs_tree D9
  exact ret tr as ts n h9 tk9 ha ht F9 (news_tree N9) q1 q2 q3 q4 u1 u2 u3 u4
theorem use_order {tr : Addr} {as : List Addr} {T : List Row} {ts : List RTok} {k : Nat} {x : Int} {t : Tok} {a b c d e : Addr × Obj} {R : Led} (hkT : k < T.length) (h6 : T.length ≤ 6) (hx : x = (k : Int))
    (B : Below A₀ base outer h₀) (F : Fr h₀ L hp m) (X : (Mine.hd.heap_1_1 w.params).In h₀) (N : News h₀ L hp (a :: b :: c :: d :: e :: R)) (Tp : Top p loose mean mg mb h₀) (hf : env.frame = some L) (hk : env.scope.kind = .function)
    (hd : dp + 9 < recursionLimit) (hu : un + 8 * 9 < cLine) (hT : TreeAt hp tr as T ts)
    (ret : ∀ od ovs n h' tk', IntsAre ovs (natsI (orderF T 6 k)) → Fr h₀ L h' m → News h₀ L h' ((od, W.listOf (List.toArray ovs) n) :: a :: b :: c :: d :: e :: R) →
      a.1 ≠ od → b.1 ≠ od → c.1 ≠ od → d.1 ≠ od → e.1 ≠ od → (∀ p ∈ R, p.1 ≠ od) → Q (.ref od) ⟨h', gs, dr, tk', os⟩) :
    wpAny (model PySem.Challenge.rw_kt0070_01.row.prog w) (topA dp un gd env outer) (call (.ref 240) [.ref tr, .int x t]) Q E ⟨hp, gs, dr, tk, os⟩ := by
  subst hx
  refine PCon.use (s := ⟨hp, gs, dr, tk, os⟩) (c_order6 w tr as T ts k t hkT h6) B F X N Tp hf hk hd hu hT ?_
  intro r tl h9 tk9 S9 F9 N9 D9 O9
  obtain ⟨od, ovs, n, e9, e9', hO⟩ := O9
  subst e9 e9'
  have f : ∀ q ∈ a :: b :: c :: d :: e :: R, q.1 ≠ od := fun q hq => D9 q hq _ (.head _)
  exact ret od ovs n h9 tk9 hO F9 N9 (f _ (by simp)) (f _ (by simp)) (f _ (by simp)) (f _ (by simp)) (f _ (by simp)) fun q hq => f q (by simp [hq])
theorem use_tape {tr ol : Addr} {as : List Addr} {T : List Row} {ts : List RTok} {vs : List Value} {ks : List Nat} {rows : List Row} {news : Led} (hr : ks.map (fun k => T.getD k Row.root) = rows) (hm : ∀ k ∈ ks, k < T.length) (hnm : ∀ k, k ∈ ks → (T.getD k Row.root).name ∈ names)
    (hmo : ∀ k, k < T.length → 0 ≤ (T.getD k Row.root).mode ∧ (T.getD k Row.root).mode < 65536) (hde : ∀ k, k ∈ ks → (T.getD k Row.root).dep ≤ 255) (hle : ks.length ≤ 6) (hi : IntsAre vs (natsI ks))
    (B : Below A₀ base outer h₀) (F : Fr h₀ L hp m) (X : (Mine.hd.heap_1_1 w.params).In h₀) (N : News h₀ L hp news) (Tp : Top p loose mean mg mb h₀) (hf : env.frame = some L) (hk : env.scope.kind = .function)
    (hd : dp + 3 < recursionLimit) (hu : un + 8 * 3 < cLine) (hT : TreeAt hp tr as T ts) (hl : hp.IsList ol vs.toArray)
    (ret : ∀ b t h' tk', KBw.bInts b = rows.flatMap rowTape → (rows.flatMap rowTape).length ≤ 1000 → Fr h₀ L h' m → News h₀ L h' news → Q (.bytes b t) ⟨h', gs, dr, tk', os⟩) :
    wpAny (model PySem.Challenge.rw_kt0070_01.row.prog w) (topA dp un gd env outer) (call (.ref 245) [.ref tr, .ref ol]) Q E ⟨hp, gs, dr, tk, os⟩ := by
  refine PCon.use (s := ⟨hp, gs, dr, tk, os⟩) (c_tape w tr ol as T ts vs ks hm hnm (fun k hk => hmo k (hm k hk)) hde hle hi) B F X N Tp hf hk hd hu ⟨hT, hl⟩ ?_
  intro r tl h9 tk9 S9 F9 N9 D9 O9
  obtain ⟨b, t, e9, e9', hB⟩ := O9
  subst e9 e9'
  have hks : KBw.bInts b = rows.flatMap rowTape := by rw [hB, ← hr, List.flatMap_map]
  exact ret b t h9 tk9 hks (by rw [← hks, hB]; have := tape_len hnm; omega) F9 N9
theorem use_stream {tb : Array UInt8} {t : Tok} {ks : List Int} {a b c d e : Addr × Obj} {R : Led} (hks : KBw.bInts tb = ks) (hkl : ks.length ≤ 1000)
    (B : Below A₀ base outer h₀) (F : Fr h₀ L hp m) (X : (Mine.hd.heap_1_1 w.params).In h₀) (N : News h₀ L hp (a :: b :: c :: d :: e :: (221, tabObj #[]) :: R)) (Tp : Top p loose mean mg mb h₀) (hf : env.frame = some L) (hk : env.scope.kind = .function)
    (hd : dp + 12 < recursionLimit) (hu : un + 8 * 12 < cLine) (o1 : a.1 ≠ 221) (o2 : b.1 ≠ 221) (o3 : c.1 ≠ 221) (o4 : d.1 ≠ 221) (o5 : e.1 ≠ 221) (oR : ∀ p ∈ R, p.1 ≠ 221) (hC : CodeHd h₀ 225 221)
    (ret : ∀ st SAt tl h' tk', Strm w SAt st ks → SAt 0 tl → (∀ pos tl, SAt pos tl → ∃ ps, ((221 : Addr), tabObj ps) ∈ tl) → Fr h₀ L h' m → News h₀ L h' (tl ++ (a :: b :: c :: d :: e :: R)) → (∀ q ∈ a :: b :: c :: d :: e :: R, ∀ p ∈ tl, q.1 ≠ p.1) → Q (.ref st) ⟨h', gs, dr, tk', os⟩) :
    wpAny (model PySem.Challenge.rw_kt0070_01.row.prog w) (topA dp un gd env outer) (call (.ref 226) [.bytes tb t]) Q E ⟨hp, gs, dr, tk, os⟩ := by
  refine HCon.useT (s := ⟨hp, gs, dr, tk, os⟩) (c_stream w tb t ks hks hkl) B F X N Tp hf hk hd hu o1 o2 o3 o4 o5 oR (fun g st => hC.keeps st) ?_
  intro r tl h9 tk9 F9 N9 D9 O9
  obtain ⟨st, SAt, e9, hS, hS0, h22⟩ := O9
  subst e9
  exact ret st SAt tl h9 tk9 hS hS0 h22 F9 N9 D9
theorem use_listing {SAt : Nat → Led → Prop} {st : Addr} {ks : List Int} {tl : Led} {rows : List Row} {od tr c3 c2 c1 : Addr × Obj} {R : Led} (hSt : Strm w SAt st ks) (hS0 : SAt 0 tl) (hks : ks = rows.flatMap rowTape) (hkl : ks.length ≤ 1000) (hrl : rows.length ≤ 6) (hL : LineOK [Str.ofString "/"] rows) (hmo : ∀ r ∈ rows, 0 ≤ r.mode ∧ r.mode < 65536)
    (B : Below A₀ h₀ [] h₀) (F : Fr h₀ L hp m) (X : (Mine.hd.heap_1_1 w.params).In h₀) (N : News h₀ L hp (tl ++ (od :: tr :: c3 :: c2 :: c1 :: R))) (Tp : Top p loose mean mg mb h₀) (hf : env.frame = some L) (hk : env.scope.kind = .function)
    (hd : dp + 30 < recursionLimit) (hu : un + 8 * 30 < cLine) (off : ∀ q ∈ od :: tr :: c3 :: c2 :: c1 :: R, ∀ p ∈ tl, q.1 ≠ p.1) (u3 : ∀ p ∈ R, p.1 ≠ c3.1) (u2 : ∀ p ∈ R, p.1 ≠ c2.1)
    (ret : ∀ tp wl cd wvs n9 kvs cdo tl2 pos2 rl h' tk', SAt pos2 tl2 → StrsAre wvs (rows.map Row.way) → Obj.IsDictOf (PySem.strKind PySem.Challenge.rw_kt0070_01.row.prog w) cdo kvs → FlatPairs PyData.str kvs (kdpD (costsF rows)) → (cd == sysModules) = false →
      (∀ p ∈ R, p ∈ rl) → (∀ p ∈ tl2, p ∈ rl) → Fr h₀ L h' m → News h₀ L h' (c3 :: c2 :: c1 :: od :: (wl, W.listOf (List.toArray wvs) n9) :: (cd, cdo) :: tr :: (tp, tupO [.ref wl, .ref cd]) :: rl) →
      wl ≠ c3.1 → wl ≠ c2.1 → cd ≠ c3.1 → cd ≠ c2.1 → tp ≠ c3.1 → tp ≠ c2.1 → (∀ p ∈ rl, p.1 ≠ c3.1) → (∀ p ∈ rl, p.1 ≠ c2.1) → Q (.ref tp) ⟨h', gs, dr, tk', os⟩) :
    wpAny (model PySem.Challenge.rw_kt0070_01.row.prog w) (topA dp un gd env []) (call (.ref 252) [.ref st]) Q E ⟨hp, gs, dr, tk, os⟩ := by
  refine LCon.useK (s := ⟨hp, gs, dr, tk, os⟩) (c_listing w SAt st ks hSt tl hS0 rows hks hkl hrl hL hmo) B F X N Tp hf hk hd hu off ?_
  intro r tl' h9 tk9 F9 N9 D9 O9
  obtain ⟨tp, wl, cd, wvs, n9, kvs, cdo, tl2, pos2, e9, e9', hS2, hwv, hcd, hfl, hsm⟩ := O9
  subst e9 e9'
  obtain ⟨⟨w1, w2, w3, w4, w5, w6⟩, y3, y2⟩ := offs_law (tp := (tp, _)) (wl := (wl, _)) (cd := (cd, _)) D9 u3 u2
  exact ret tp wl cd wvs n9 kvs cdo tl2 pos2 (R ++ tl2) h9 tk9 hS2 hwv hcd hfl hsm (fun p hp => List.mem_append_left _ hp) (fun p hp => List.mem_append_right _ hp) F9 (news_law (tp := (tp, _)) (wl := (wl, _)) (cd := (cd, _)) N9) w1 w2 w3 w4 w5 w6 y3 y2
theorem use_orders {l : Addr} {vs : List Value} {xs : List Int} {dl trp tb c3 c2 c1 wl cd tr : Addr × Obj} {rl : Led} (hi : IntsAre vs xs) (h6 : xs.length ≤ 6)
    (B : Below A₀ base outer h₀) (F : Fr h₀ L hp m) (X : (Mine.hd.heap_1_1 w.params).In h₀) (N : News h₀ L hp (dl :: trp :: tb :: c3 :: c2 :: c1 :: wl :: cd :: tr :: rl)) (Tp : Top p loose mean mg mb h₀) (hf : env.frame = some L) (hk : env.scope.kind = .function)
    (hd : dp + (6 + 12) < recursionLimit) (hu : un + 8 * (6 + 12) < cLine) (hl : hp.IsList l vs.toArray) (u1 : ∀ p ∈ rl, p.1 ≠ trp.1) (u3 : ∀ p ∈ rl, p.1 ≠ c3.1)
    (ret : ∀ oo oas ovss n RL h' tk', oas.length = ovss.length → ListsAre ovss (ordF 6 xs) → (∀ p ∈ ordLed oas ovss, p ∈ RL) → (∀ p ∈ rl, p ∈ RL) → (∀ p ∈ RL, p.1 ≠ trp.1) → (∀ p ∈ RL, p.1 ≠ c3.1) →
      Fr h₀ L h' m → News h₀ L h' ((oo, W.listOf (List.map Value.ref oas).toArray n) :: trp :: tb :: c3 :: c2 :: wl :: RL) → trp.1 ≠ oo → tb.1 ≠ oo → c3.1 ≠ oo → c2.1 ≠ oo → wl.1 ≠ oo → Q (.ref oo) ⟨h', gs, dr, tk', os⟩) :
    wpAny (model PySem.Challenge.rw_kt0070_01.row.prog w) (topA dp un gd env outer) (call (.ref 264) [.ref l]) Q E ⟨hp, gs, dr, tk, os⟩ := by
  refine PCon.use (s := ⟨hp, gs, dr, tk, os⟩) (c_orders w 6 (Nat.le_refl _) _ _ xs hi h6) B F X N Tp hf hk hd hu hl ?_
  intro r tl9 h9 tk9 S9 F9 N9 D9 O9
  obtain ⟨oo, oas, ovss, n, e9, e9', hol9, hOL⟩ := O9
  subst e9 e9'
  simp only [List.cons_append] at N9
  have D9t := D9 trp (by simp)
  have D93 := D9 c3 (by simp)
  have f : ∀ q ∈ [trp, tb, c3, c2, wl], q.1 ≠ oo := fun q hq => D9 q (by simp only [List.mem_cons, List.not_mem_nil, or_false] at hq ⊢; rcases hq with h | h | h | h | h <;> simp [h]) _ (.head _)
  exact ret oo oas ovss n (ordLed oas ovss ++ rl) h9 tk9 hol9 hOL (fun p hp => List.mem_append_left _ hp) (fun p hp => List.mem_append_right _ hp)
    (fun p hp => by
      rcases List.mem_append.mp hp with hp | hp
      · exact Ne.symm (D9t p (.tail _ hp))
      · exact u1 p hp)
    (fun p hp => by
      rcases List.mem_append.mp hp with hp | hp
      · exact Ne.symm (D93 p (.tail _ hp))
      · exact u3 p hp)
    F9 (news_trips N9) (f _ (by simp)) (f _ (by simp)) (f _ (by simp)) (f _ (by simp)) (f _ (by simp))
theorem c_pair (w : World) (d : Addr) (c : List (Str × Int)) (x y : Str) (t t' : Tok) (v : Int) (h : PairOK c x y v) : PCon w 259 7 [Value.ref d, Value.str x t, Value.str y t'] (fun h => Costs w h d c) (OutV fun t => .int v t) := by
  obtain ⟨cs, ds, ps, np, zx, zy, hrel, hl1, hl2, hso, hse, hsum⟩ := h
  exact c_cost w d c x y t t' cs ds ps np zx zy v hrel hl1 hl2 hso hse hsum
end
/-! small eliminations: one copy of the goal each -/
@[elab_as_elim]
theorem int_elim {x : Int} {v : Value} {P : Value → Prop} (h : ∃ t, v = .int x t) (k : ∀ t, P (.int x t)) : P v := by
  obtain ⟨t, rfl⟩ := h
  exact k t
@[elab_as_elim]
theorem ints_elim {tvs : List Value} {x : Int} {l : List Int} {P : List Value → Prop} (h : IntsAre tvs (x :: l)) (k : ∀ t r, IntsAre r l → P (.int x t :: r)) : P tvs := by
  cases h with
  | cons _ t hr => exact k t _ hr
@[elab_as_elim]
theorem order_at {ovs : List Value} {ks : List Nat} {i : Nat} {v : Value} {P : Value → Prop} (hO : IntsAre ovs (natsI ks)) (hv : ovs.toArray[i]? = some v) (k : ∀ k tt, ks[i]? = some k → P (.int (k : Int) tt)) : P v := by
  obtain ⟨kk, tt, ek, hk'⟩ := IntsAre.at hO i v (by simpa using hv)
  subst ek
  rw [List.getElem?_map, Option.map_eq_some_iff] at hk'
  obtain ⟨n, hk1, rfl⟩ := hk'
  exact k n tt hk1
section
variable {prog : Program} {w : World} {A : Around} {E : Value → Shared → Prop} {s : Shared} {h₀ : Heap} {L l : Addr} {m : Str → Option Value} {news : Led} {vs : List Value} {ms : List Int} {vl vu : Value} {Q : Value → Shared → Prop} {value slice : PySem.Expr}
theorem slice_from {k : Nat} (F : Fr h₀ L s.heap m) (N : News h₀ L s.heap news) (hl : s.heap.IsList l vs.toArray) (hi : IntsAre vs ms) (pl : IsPart vl (some (k : Int))) (pu : IsPart vu none)
    (h : ∀ D h' ws, Fr h₀ L h' m → News h₀ L h' ((D, W.listOf (List.toArray ws) 0) :: news) → IntsAre ws (ms.drop k) → (∀ p ∈ news, p.1 < D) → Q (.ref D) { s with heap := h' })
    (hs : subscripted slice false (.ref l) (.ref s.heap.objs.size) = operate [.ref s.heap.objs.size, .ref l] (getItem (.ref l) (.ref s.heap.objs.size))) (ht : ∀ r, letTemporaryGo value (.ref l) r = pure ()) (hz : vs.toArray.size ≤ sizeLine) :
    wpAny (model prog w) A (subscriptTail value slice (.ref l) (.ref s.heap.objs.size)) Q E { s with heap := s.heap.push { cls := .type "slice", data := .fields #[vl, vu, .none] } } :=
  kms_slice_lit F N hl pl pu (pick_from k) (fun D h' F' N' l1 => h D h' _ F' N' (hi.drop k) l1) hs ht hz
end
local macro_rules | `(tactic| k_all) => `(tactic| (walk_at "own off"; done))
local macro_rules | `(tactic| k_ne) => `(tactic| ((try dsimp only); first | assumption | exact Ne.symm (by assumption)))
theorem words_38_1 : True := by
  (k_with "my own updF" => first | (refine' UpdF.head ?a_q146; (case a_q146 => walk_at "own off"; done)) | (refine' UpdF.tail ?a_q146 ?b_q146; (case a_q146 => first | k_ne | assumption | exact Ne.symm (by assumption)); (case b_q146 => walk_at "own updF")))
  (k_with "my storeName" => (k_here; (with_reducible show wpAny _ _ (storeName (envOfC (Str.ofString "law") _ _ _ _) _ _) _ _ _); k_dflt (refine' storeX_C ?F_q147 ?N_q147 ?c_q147 ?U_q147 ?d_q147 ?_ ?a_q147 ?b_q147; (case a_q147 => rfl); (case b_q147 => rfl); (case F_q147 => k_asm); (case N_q147 => k_asm); (case c_q147 => rfl); (case U_q147 => walk_at "own updF"); (case d_q147 => k_asm)); intro h_p o_p F_p N_p d_p; (try dsimp only at N_p)))
  (k_with "my subscriptTail Name Slice ref ref" => (k_here; (with_reducible show wpAny _ (Around.deeper _ (envOfC (Str.ofString "law") _ _ _ _)) (subscriptTail _ (PySem.Expr.Slice (some _) none none _) (Value.ref _) (Value.ref _)) _ _ _); k_dflt (refine' slice_from ?F_q148 ?N_q148 ?l_q148 ?i_q148 ?p_q148 ?q_q148 ?_ ?s_q148 ?t_q148 ?z_q148; (case F_q148 => k_asm); (case N_q148 => k_asm); (case l_q148 => exact News.isList (by k_asm) (by k_mem)); (case i_q148 => exact .cons _ _ (.cons _ _ (.cons _ _ (.cons _ _ .nil)))); (case p_q148 => kmk_part); (case q_q148 => kmk_part); (case s_q148 => with_unfolding_all rfl); (case t_q148 => kmk_pure); (case z_q148 => exact Nat.le_of_ble_eq_true rfl)); intro D_p h_p ws_p F_p N_p hI_p l1_r; (try k_lt l1_r); (try k_sweep)))
  (k_with "my call ref" => (k_here; (first | (with_reducible show wpAny _ (Around.deeper _ (envOfC (Str.ofString "law") _ _ _ _)) (call (Value.ref 233) _) _ _ _) | (with_reducible show wpAny _ (Around.deeper _ (envOfC (Str.ofString "law") _ _ _ _)) (call (Value.ref 240) _) _ _ _) | (with_reducible show wpAny _ (Around.deeper _ (envOfC (Str.ofString "law") _ _ _ _)) (call (Value.ref 226) _) _ _ _) | (with_reducible show wpAny _ (Around.deeper _ (envOfC (Str.ofString "law") _ _ _ _)) (call (Value.ref 245) _) _ _ _) | (with_reducible show wpAny _ (Around.deeper _ (envOfC (Str.ofString "law") _ _ _ _)) (call (Value.ref 252) _) _ _ _) | (with_reducible show wpAny _ (Around.deeper _ (envOfC (Str.ofString "law") _ _ _ _)) (call (Value.ref 259) _) _ _ _) | (with_reducible show wpAny _ (Around.deeper _ (envOfC (Str.ofString "law") _ _ _ _)) (call (Value.ref 264) _) _ _ _) | (with_reducible show wpAny _ (Around.deeper _ (envOfC (Str.ofString "law") _ _ _ _)) (call (Value.ref 271) _) _ _ _)); refine Stop.out ?_))
  (k_with "my CompSrc" => ((with_reducible show LCg.CompSrc _ _ (Around.deeper _ (envOfC (Str.ofString "law") _ _ _ _)) _ _ _ _ _ _ _ _ _ _ _); refine Stop.out ?_))
  (k_with "my subscriptTail" => (k_here; (with_reducible show wpAny _ (Around.deeper _ (envOfC (Str.ofString "law") _ _ _ _)) (subscriptTail _ _ (Value.ref _) (Value.int _ _)) _ _ _); first | (refine' item_listL ?l_q151 ?a_q151 ?b_q151 ?c_q151 ?_; (case l_q151 => first | with_reducible assumption | exact News.isList (by k_asm) (by walk_at "own mem")); (case a_q151 => omega); (case b_q151 => omega); (case c_q151 => with_reducible assumption)) | (refine' item_tupleL ?l_q151 ?a_q151 ?b_q151 ?c_q151 ?d_q151 ?_; (case l_q151 => assumption); (case a_q151 => decide); (case b_q151 => decide); (case c_q151 => rfl); (case d_q151 => rfl))))
  (k_with "my exec For" => (k_here; (with_reducible show wpAny _ _ (exec (Stmt.For _ _ _ _ _) (envOfC (Str.ofString "law") _ _ _ _)) _ _ _); (rename Fr _ _ _ _ => lF_p); (with_unfolding_all refine' For_invVF lF_p ?g_q152 ?p_q152 ?_; (case g_q152 => exact rfl); (case p_q152 => exact rfl); k_whole)))
  (k_with "my pyIter ref" => ((with_reducible show wpAny _ (Around.deeper _ (envOfC (Str.ofString "law") _ _ _ _)) (pyIter (Value.ref _)) _ _ _); refine Stop.out ?_))
  (k_with "my compareOp NotEq ref ref" => (k_here; (with_reducible show wpAny _ (Around.deeper _ (envOfC (Str.ofString "law") _ _ _ _)) (compareOp CmpOp.NotEq (Value.ref _) (Value.ref _)) _ _ _); k_dflt (refine' ne_strsSame ?k1_q154 ?k2_q154 ?k3_q154 ?k4_q154 ?k5_q154 ?k6_q154 ?k7_q154 ?_; (case k1_q154 => exact News.isList (by k_asm) (by k_mem)); (case k2_q154 => exact News.isList (by k_asm) (by k_mem)); (case k3_q154 => with_reducible assumption); (case k4_q154 => with_reducible assumption); (case k5_q154 => first | exact Nat.le_of_ble_eq_true rfl | decide | walk_at "con room"); (case k6_q154 => with_reducible assumption); (case k7_q154 => with_reducible assumption))))
  (k_with "my call builtin:len" => (k_here; (with_reducible show wpAny _ (Around.deeper _ (envOfC (Str.ofString "law") _ _ _ _)) (call (Value.builtin "len") [Value.ref _]) _ _ _); k_dflt (refine' len_known ?l_q155 ?n_q155 ?z_q155 ?_; (case l_q155 => exact News.isList (by k_asm) (by k_mem)); (case n_q155 => with_reducible assumption); (case z_q155 => with_reducible assumption)); intro _ _))
  (k_with "my call type:range" => (k_here; (with_reducible show wpAny _ (Around.deeper _ (envOfC (Str.ofString "law") _ _ _ _)) _ _ _ _); (rename Fr _ _ _ _ => F_p); (rename News _ _ _ _ => N_p); first | (with_unfolding_all refine range1_rows F_p N_p ?_; intro _ _ _ _ _ _ _ _ _) | (with_unfolding_all refine range2_rows F_p N_p ?_; intro _ _ _ _ _ _ _ _ _)))
  trivial
/-! the law's table -/
theorem news_tab {h₀ h : Heap} {L : Addr} {tb dl c3 c2 c1 od wl cd tr tp : Addr × Obj} {rl : Led} (N : News h₀ L h (tb :: dl :: c3 :: c2 :: c1 :: od :: wl :: cd :: tr :: tp :: rl)) : News h₀ L h (tb :: c3 :: c2 :: c1 :: wl :: cd :: tr :: rl) := fun p hp => N p (by
  simp only [List.mem_cons] at hp ⊢
  rcases hp with h | h | h | h | h | h | h | h <;> simp [h])
theorem costs_at {w : World} {h₀ h : Heap} {L : Addr} {news : Led} {cd : Addr} {cdo : Obj} {kvs : List (Str × Value)} {c : List (Str × Int)} (N : News h₀ L h news) (lo : (cd == sysModules) = false) (hm : (cd, cdo) ∈ news) (hd : cdo.IsDictOf (PySem.strKind PySem.Challenge.rw_kt0070_01.row.prog w) kvs) (hf : FlatPairs PyData.str kvs (kdpD c)) : Costs w h cd c :=
  TabAt.ofObj lo (N _ hm).1 hd hf
/-- the table's rows as they lie -/
noncomputable def RowsIn (C : Nat → Nat → Int) (n : Nat) (rl : Led) (as : List Addr) (k : Nat) : Prop :=
  as.length = k ∧ ∀ i, i < k → ∃ (a : Addr) (vs : List Value) (nn : Nat), as[i]? = some a ∧ (a, W.listOf (List.toArray vs) nn) ∈ rl ∧ IntsAre vs ((List.range n).map (C i))
theorem RowsIn.snoc {C : Nat → Nat → Int} {n : Nat} {rl : Led} {as : List Addr} {k : Nat} {a : Addr} {vs : List Value} {nn : Nat} (h : RowsIn C n rl as k) (hi : IntsAre vs ((List.range n).map (C k))) : RowsIn C n ((a, W.listOf (List.toArray vs) nn) :: rl) (as ++ [a]) (k + 1) := by
  obtain ⟨h1, h2⟩ := h
  refine ⟨by simp [h1], fun i hk => ?_⟩
  rcases Nat.lt_succ_iff_lt_or_eq.mp hk with hk | rfl
  · obtain ⟨b, us, n2, g1, g2, g3⟩ := h2 i hk
    exact ⟨b, us, n2, by rw [List.getElem?_append_left (by omega)]; exact g1, .tail _ g2, g3⟩
  · exact ⟨a, vs, nn, by rw [List.getElem?_append_right (by omega), h1, Nat.sub_self]; rfl, .head _, hi⟩
theorem RowsIn.sub {C : Nat → Nat → Int} {n : Nat} {rl rl2 : Led} {as : List Addr} {k : Nat} (h : RowsIn C n rl as k) (hs : ∀ p ∈ rl, p ∈ rl2) : RowsIn C n rl2 as k :=
  ⟨h.1, fun i hk => let ⟨a, vs, nn, g1, g2, g3⟩ := h.2 i hk; ⟨a, vs, nn, g1, hs _ g2, g3⟩⟩
theorem UnrEnd.tab {h₀ : Heap} {L I : Addr} {it : Obj} {rest : (Str → Option Value) → Led → Prop} {s₁ : Shared} {h' : Heap} {tk : Nat} {m' : Str → Option Value} {e tb c3 c2 c1 wl cd tr : Addr × Obj} {rl : Led} (F : Fr h₀ L h' m') (N : News h₀ L h' (e :: (I, it) :: tb :: c3 :: c2 :: c1 :: wl :: cd :: tr :: rl))
    (off : ∀ p ∈ tb :: c3 :: c2 :: c1 :: wl :: cd :: tr :: e :: rl, p.1 ≠ I) (r : rest m' (tb :: c3 :: c2 :: c1 :: wl :: cd :: tr :: e :: rl)) : UnrEnd h₀ L s₁ I it rest { s₁ with heap := h', toks := tk } :=
  UnrEnd.sub F N (fun p hp => by
    simp only [List.mem_cons] at hp ⊢
    rcases hp with h | h | h | h | h | h | h | h | h | h <;> simp [h]) off r
noncomputable def TabJ (C : Nat → Nat → Int) (n : Nat) (m₀ : Str → Option Value) (news₀ : Led) (i : Nat) (m : Str → Option Value) (news : Led) : Prop :=
  ∃ (tb : Addr) (o₀ : Obj) (c3 c2 c1 wl cd tr : Addr × Obj) (rl₀ rl : Led) (as : List Addr) (nn : Nat), news₀ = (tb, o₀) :: c3 :: c2 :: c1 :: wl :: cd :: tr :: rl₀ ∧
    news = (tb, W.listOf (as.map Value.ref).toArray nn) :: c3 :: c2 :: c1 :: wl :: cd :: tr :: rl ∧ (∀ p ∈ rl₀, p ∈ rl) ∧ (∀ p ∈ rl, p.1 ≠ tb) ∧ (∀ p ∈ rl, p.1 ≠ c3.1) ∧
    RowsIn C n rl as i ∧ Keep (Str.ofString "i") [] [Str.ofString "costly", Str.ofString "j", Str.ofString "cost"] m₀ m
noncomputable def ColJ (C : Nat → Nat → Int) (i : Nat) (m₀ : Str → Option Value) (news₀ : Led) (j : Nat) (m : Str → Option Value) (news : Led) : Prop :=
  ∃ (cl : Addr) (o₀ : Obj) (q : Led) (vs : List Value) (nn : Nat), news₀ = (cl, o₀) :: q ∧ news = (cl, W.listOf vs.toArray nn) :: q ∧ IntsAre vs ((List.range j).map (C i)) ∧ Keep (Str.ofString "j") [] [Str.ofString "cost"] m₀ m
theorem way_at {wvs : List Value} {rows : List Row} (h : StrsAre wvs (rows.map Row.way)) {i : Nat} (hi : i < rows.length) : ∃ t, wvs[i]? = some (.str (rows.getD i Row.root).way t) :=
  h.at (by rw [List.getElem?_map, List.getElem?_eq_getElem hi, List.getD_eq_getElem?_getD, List.getElem?_eq_getElem hi]; rfl)
theorem way_at0 {wvs : List Value} {rows : List Row} (h : StrsAre wvs (rows.map Row.way)) {i : Nat} (hi : i < rows.length) : ∃ t, wvs[((0 : Int) + (i : Int)).toNat]? = some (.str (rows.getD i Row.root).way t) := by
  have e : ((0 : Int) + (i : Int)).toNat = i := by omega
  rw [e]; exact way_at h hi
theorem off_same {a I : Addr} {o o' : Obj} {q : Led} (h : ∀ p ∈ (a, o) :: q, p.1 ≠ I) : ∀ p ∈ (a, o') :: q, p.1 ≠ I := off_cons (h (a, o) (.head _)) fun p hp => h p (.tail _ hp)
theorem cost_snoc {C : Nat → Nat → Int} {cvs : List Value} {i j : Nat} {x : Int} {t : Tok} (h : IntsAre cvs ((List.range j).map (C i))) (e : C i j = x) : IntsAre (cvs ++ [.int x t]) ((List.range (j + 1)).map (C i)) := by
  rw [List.range_succ, List.map_append, List.map_cons, List.map_nil, e]
  exact h.append (.cons _ _ .nil)
theorem TabJ.start {C : Nat → Nat → Int} {n : Nat} {m₀ : Str → Option Value} {tb : Addr} {c3 c2 c1 wl cd tr : Addr × Obj} {rl : Led} (h1 : ∀ p ∈ rl, p.1 ≠ tb) (h2 : ∀ p ∈ rl, p.1 ≠ c3.1) :
    TabJ C n m₀ ((tb, W.listOf #[] 0) :: c3 :: c2 :: c1 :: wl :: cd :: tr :: rl) 0 m₀ ((tb, W.listOf #[] 0) :: c3 :: c2 :: c1 :: wl :: cd :: tr :: rl) :=
  ⟨_, _, _, _, _, _, _, _, rl, rl, [], 0, rfl, rfl, fun _ h => h, h1, h2, ⟨rfl, fun _ h => absurd h (Nat.not_lt_zero _)⟩, .refl (fun _ h => nomatch h)⟩
@[elab_as_elim]
theorem TabJ.elim {C : Nat → Nat → Int} {n i : Nat} {m₀ m : Str → Option Value} {news : Led} {tb a3 : Addr} {o₀ o3 : Obj} {c2 c1 wl cd tr : Addr × Obj} {rl₀ : Led} {P : (Str → Option Value) → Led → Prop} (hj : TabJ C n m₀ ((tb, o₀) :: (a3, o3) :: c2 :: c1 :: wl :: cd :: tr :: rl₀) i m news)
    (k : ∀ rl as nn (u : Str → Option Value), (∀ p ∈ rl₀, p ∈ rl) → (∀ p ∈ rl, p.1 ≠ tb) → (∀ p ∈ rl, p.1 ≠ a3) → RowsIn C n rl as i → (List.map Value.ref as).length ≤ 1048576 ∨ 1000 < i →
      P (fun z => if z = Str.ofString "i" then u z else if [Str.ofString "costly", Str.ofString "j", Str.ofString "cost"].contains z = true then u z else m₀ z) ((tb, W.listOf (List.map Value.ref as).toArray nn) :: (a3, o3) :: c2 :: c1 :: wl :: cd :: tr :: rl)) : P m news := by
  obtain ⟨tb', o', c3, c2', c1', wl', cd', tr', rl0, rl, as, nn, e0, rfl, e1, e3, e4, e5, hk⟩ := hj
  cases e0
  obtain ⟨u, rfl⟩ := hk.lam0
  refine k rl as nn u e1 e3 e4 e5 ?_
  rw [List.length_map, e5.1]
  omega
theorem TabJ.next {C : Nat → Nat → Int} {n i : Nat} {m₀ m : Str → Option Value} {tb a3 cl : Addr} {o₀ o3 : Obj} {c2 c1 wl cd tr : Addr × Obj} {rl₀ rl : Led} {as : List Addr} {nn n2 : Nat} {cvs : List Value} (e1 : ∀ p ∈ rl₀, p ∈ rl) (e3 : ∀ p ∈ rl, p.1 ≠ tb) (e4 : ∀ p ∈ rl, p.1 ≠ a3) (e5 : RowsIn C n rl as i) (f1 : IntsAre cvs ((List.range n).map (C i))) (h1 : cl ≠ tb) (h2 : cl ≠ a3)
    (h : ∀ z, z ≠ Str.ofString "i" → z ≠ Str.ofString "costly" → z ≠ Str.ofString "j" → z ≠ Str.ofString "cost" → m z = m₀ z) :
    TabJ C n m₀ ((tb, o₀) :: (a3, o3) :: c2 :: c1 :: wl :: cd :: tr :: rl₀) (i + 1) m ((tb, W.listOf ((List.map Value.ref as).toArray.push (.ref cl)) nn) :: (a3, o3) :: c2 :: c1 :: wl :: cd :: tr :: (cl, W.listOf cvs.toArray n2) :: rl) := by
  rw [push_ref]
  exact ⟨_, _, _, _, _, _, _, _, rl₀, _, as ++ [cl], nn, rfl, rfl, fun p hp => .tail _ (e1 p hp), off_cons h1 e3, off_cons h2 e4, e5.snoc f1, ⟨(fun _ h => nomatch h), fun z z1 _ z3 => by
    simp only [List.contains_cons, List.contains_nil, Bool.or_false, Bool.or_eq_false_iff, beq_eq_false_iff_ne, ne_eq] at z3
    exact h z z1 z3.1 z3.2.1 z3.2.2⟩⟩
theorem ColJ.start {C : Nat → Nat → Int} {i : Nat} {m₀ : Str → Option Value} {cl : Addr} {q : Led} : ColJ C i m₀ ((cl, W.listOf #[] 0) :: q) 0 m₀ ((cl, W.listOf #[] 0) :: q) := ⟨_, _, _, [], 0, rfl, rfl, .nil, .refl (fun _ h => nomatch h)⟩
@[elab_as_elim]
theorem ColJ.elim {C : Nat → Nat → Int} {i j : Nat} {m₀ m : Str → Option Value} {news q : Led} {cl : Addr} {o₀ : Obj} {P : (Str → Option Value) → Led → Prop} (hj : ColJ C i m₀ ((cl, o₀) :: q) j m news)
    (k : ∀ cvs n2 (u : Str → Option Value), IntsAre cvs ((List.range j).map (C i)) → P (fun z => if z = Str.ofString "j" then u z else if [Str.ofString "cost"].contains z = true then u z else m₀ z) ((cl, W.listOf (List.toArray cvs) n2) :: q)) : P m news := by
  obtain ⟨cl', o', q', cvs, n2, e0, rfl, f1, hk⟩ := hj
  cases e0
  obtain ⟨u, rfl⟩ := hk.lam0
  exact k cvs n2 u f1
theorem ColJ.next {C : Nat → Nat → Int} {i j : Nat} {m₀ m : Str → Option Value} {q : Led} {cl : Addr} {o₀ : Obj} {cvs : List Value} {n2 : Nat} {x : Int} {t : Tok} (f1 : IntsAre cvs ((List.range j).map (C i))) (e : C i j = x) (h : ∀ z, z ≠ Str.ofString "j" → z ≠ Str.ofString "cost" → m z = m₀ z) :
    ColJ C i m₀ ((cl, o₀) :: q) (j + 1) m ((cl, W.listOf (cvs.toArray.push (.int x t)) n2) :: q) := by
  rw [push_snoc]
  exact ⟨_, _, _, _, _, rfl, rfl, cost_snoc f1 e, ⟨(fun _ h => nomatch h), fun z z1 _ z3 => by
    simp only [List.contains_cons, List.contains_nil, Bool.or_false, beq_eq_false_iff_ne, ne_eq] at z3
    exact h z z1 z3⟩⟩
theorem words_39_1 : True := by
  (k_with "my call builtin:list.append" => (k_here; (with_reducible show wpAny _ (Around.deeper _ (envOfC (Str.ofString "law") _ _ _ _)) (call (Value.builtin _) [Value.ref _, _]) _ _ _); k_dflt (refine' append_K ?k1_q157 ?k2_q157 ?k3_q157 ?_ ?z_q157; (case k1_q157 => k_asm); (case k2_q157 => k_asm); (case k3_q157 => walk_at "own upd"); (case z_q157 => exact size_of_len (by with_reducible assumption)); k_whole); intro h_p F_p N_p; (try k_sweep)))
  (k_with "my subscriptTail Name Name ref int" => (k_here; (with_reducible show wpAny _ (Around.deeper _ (envOfC (Str.ofString "law") _ _ _ _)) (subscriptTail _ _ (Value.ref _) (Value.int _ _)) _ _ _); k_dflt (refine' item_listL ?l_q158 ?a_q158 ?b_q158 ?c_q158 ?_; (case l_q158 => exact News.isList (by k_asm) (by k_mem)); (case a_q158 => omega); (case b_q158 => omega); (case c_q158 => with_reducible assumption))))
  trivial
/-! the law's round trips -/
noncomputable def TripJ (C : Nat → Nat → Int) (n : Nat) (all : List (List Int)) (m₀ : Str → Option Value) (news₀ : Led) (r : List Value) (m : Str → Option Value) (news : Led) : Prop :=
  ∃ (trp c3 : Addr) (o₀ oc₀ oc : Obj) (oo tb c2 wl : Addr × Obj) (RL : Led) (tvs : List Value) (nn : Nat) (bs : List Addr) (wss : List (List Value)) (dn ks : List (List Int)) (cv : Option Value),
    news₀ = oo :: (trp, o₀) :: tb :: (c3, oc₀) :: c2 :: wl :: RL ∧ news = oo :: (trp, W.listOf tvs.toArray nn) :: tb :: (c3, oc) :: c2 :: wl :: RL ∧
    r = bs.map Value.ref ∧ bs.length = wss.length ∧ ListsAre wss ks ∧ dn ++ ks = all ∧ (∀ p ∈ ordLed bs wss, p ∈ RL) ∧ oc.data = .cell cv ∧ IntsAre tvs (dn.map (tripF C n)) ∧ Keep (Str.ofString "rest") [] [] m₀ m
theorem TripJ.start {C : Nat → Nat → Int} {n : Nat} {all : List (List Int)} {m₀ : Str → Option Value} {trp a3 : Addr} {o3 : Obj} {oo tb c2 wl : Addr × Obj} {RL : Led} {bs : List Addr} {wss : List (List Value)} {cv : Option Value} (hl : bs.length = wss.length) (hw : ListsAre wss all) (hm : ∀ p ∈ ordLed bs wss, p ∈ RL) (hc : o3.data = .cell cv) :
    TripJ C n all m₀ (oo :: (trp, W.listOf #[] 0) :: tb :: (a3, o3) :: c2 :: wl :: RL) (bs.map Value.ref) m₀ (oo :: (trp, W.listOf #[] 0) :: tb :: (a3, o3) :: c2 :: wl :: RL) :=
  ⟨_, _, _, _, _, _, _, _, _, RL, [], 0, bs, wss, [], _, _, rfl, rfl, rfl, hl, hw, rfl, hm, hc, .nil, .refl (fun _ h => nomatch h)⟩
@[elab_as_elim]
theorem TripJ.elim {C : Nat → Nat → Int} {n : Nat} {all : List (List Int)} {m₀ m : Str → Option Value} {news : Led} {trp a3 : Addr} {o₀ o3 : Obj} {oo tb c2 wl : Addr × Obj} {RL : Led} {v : Value} {r : List Value} {P : (Str → Option Value) → Led → Value → List Value → Prop} (hj : TripJ C n all m₀ (oo :: (trp, o₀) :: tb :: (a3, o3) :: c2 :: wl :: RL) (v :: r) m news)
    (k : ∀ (oc : Obj) (tvs : List Value) (nn : Nat) (b : Addr) (w0 : List Value) (bs : List Addr) (wss : List (List Value)) (dn ks : List (List Int)) (kk : List Int) (cv : Option Value) (u : Str → Option Value), bs.length = wss.length → IntsAre w0 kk → ListsAre wss ks → dn ++ kk :: ks = all → (b, W.listOf w0.toArray 0) ∈ RL → (∀ p ∈ ordLed bs wss, p ∈ RL) → oc.data = .cell cv → IntsAre tvs (dn.map (tripF C n)) →
      P (fun z => if z = Str.ofString "rest" then u z else if ([] : List Str).contains z = true then u z else m₀ z) (oo :: (trp, W.listOf tvs.toArray nn) :: tb :: (a3, oc) :: c2 :: wl :: RL) (.ref b) (bs.map Value.ref)) : P m news v r := by
  obtain ⟨trp', c3, o0, oc₀, oc, oo', tb', c2', wl', RL', tvs, nn', bs, wss, dn, ks, cv, e0, rfl, er, eb, ew, ed, hb, hcv, htv, hk⟩ := hj
  cases e0
  obtain ⟨u, rfl⟩ := hk.lam0
  cases bs with
  | nil => cases er
  | cons b bs =>
    cases wss with
    | nil => cases eb
    | cons w0 wss =>
      cases er
      cases ew with
      | cons hw0 hws => exact k oc tvs nn' b w0 bs wss dn _ _ cv u (by simpa using eb) hw0 hws ed (hb _ (.head _)) (fun p hp => hb p (.tail _ hp)) hcv htv
@[elab_as_elim]
theorem TripJ.fin {C : Nat → Nat → Int} {n : Nat} {all : List (List Int)} {m₀ m : Str → Option Value} {news : Led} {trp a3 : Addr} {o₀ o3 : Obj} {oo tb c2 wl : Addr × Obj} {RL : Led} {P : (Str → Option Value) → Led → Prop} (hj : TripJ C n all m₀ (oo :: (trp, o₀) :: tb :: (a3, o3) :: c2 :: wl :: RL) [] m news)
    (k : ∀ (oc : Obj) (tvs : List Value) (nn : Nat) (u : Str → Option Value), IntsAre tvs (all.map (tripF C n)) →
      P (fun z => if z = Str.ofString "rest" then u z else if ([] : List Str).contains z = true then u z else m₀ z) (oo :: (trp, W.listOf tvs.toArray nn) :: tb :: (a3, oc) :: c2 :: wl :: RL)) : P m news := by
  obtain ⟨trp', c3, o0, oc₀, oc, oo', tb', c2', wl', RL', tvs, nn', bs, wss, dn, ks, cv, e0, rfl, er, eb, ew, ed, hb, hcv, htv, hk⟩ := hj
  cases e0
  obtain ⟨u, rfl⟩ := hk.lam0
  cases bs with
  | cons _ _ => cases er
  | nil =>
    cases wss with
    | cons _ _ => cases eb
    | nil =>
      cases ew
      rw [List.append_nil] at ed
      subst ed
      exact k oc tvs nn' u htv
theorem TripJ.next {C : Nat → Nat → Int} {n : Nat} {all : List (List Int)} {m₀ m : Str → Option Value} {trp a3 : Addr} {o₀ o3 oc : Obj} {oo tb c2 wl : Addr × Obj} {RL : Led} {tvs : List Value} {nn : Nat} {bs : List Addr} {wss : List (List Value)} {dn ks : List (List Int)} {kk : List Int} {cv : Option Value} {t : Tok} (eb : bs.length = wss.length) (hws : ListsAre wss ks) (ed : dn ++ kk :: ks = all) (hb : ∀ p ∈ ordLed bs wss, p ∈ RL) (hcv : oc.data = .cell cv) (htv : IntsAre tvs (dn.map (tripF C n)))
    (h : ∀ z, z ≠ Str.ofString "rest" → m z = m₀ z) :
    TripJ C n all m₀ (oo :: (trp, o₀) :: tb :: (a3, o3) :: c2 :: wl :: RL) (bs.map Value.ref) m (oo :: (trp, W.listOf (tvs ++ [Value.int (tripF C n kk) t]).toArray nn) :: tb :: (a3, oc) :: c2 :: wl :: RL) :=
  ⟨_, _, _, _, _, _, _, _, _, RL, _, _, bs, wss, dn ++ [kk], ks, _, rfl, rfl, rfl, eb, hws, by rw [List.append_assoc]; exact ed, hb, hcv, by rw [List.map_append]; exact htv.append (.cons _ _ .nil), ⟨(fun _ h => nomatch h), fun z z1 _ _ => h z z1⟩⟩
theorem trip_at {kk : List Int} {n : Nat} (hl : kk.length = n - 1) (hn : 1 ≤ n) (hx : ∀ x ∈ kk, 0 ≤ x ∧ x < (n : Int)) {i : Nat} (hi : i ≤ n) : ∃ x, ([0] ++ kk ++ [0])[i]? = some x ∧ (tripL kk).getD i 0 = x ∧ 0 ≤ x ∧ x < (n : Int) := by
  have e : tripL kk = [0] ++ kk ++ [0] := rfl
  have hlen : i < (tripL kk).length := by unfold tripL; simp [hl]; omega
  refine ⟨(tripL kk).getD i 0, ?_, rfl, ?_⟩
  · rw [← e, List.getD_eq_getElem?_getD, List.getElem?_eq_getElem hlen]; rfl
  · have h : (tripL kk).getD i 0 = 0 ∨ (tripL kk).getD i 0 ∈ kk := by
      rw [List.getD_eq_getElem?_getD, List.getElem?_eq_getElem hlen]
      have := List.getElem_mem hlen
      unfold tripL at this
      simp only [List.mem_cons, List.mem_append, List.not_mem_nil, or_false] at this
      rcases this with h | h | h
      · exact .inl h
      · exact .inr h
      · exact .inl h
    rcases h with h | h
    · rw [h]; omega
    · exact hx _ h
theorem RowsIn.at {C : Nat → Nat → Int} {n k : Nat} {rl : Led} {as : List Addr} (h : RowsIn C n rl as k) {x y : Int} (h0 : 0 ≤ x) (h1 : x < (k : Int)) (h2 : 0 ≤ y) (h3 : y < (n : Int)) :
    ∃ (a : Addr) (vs : List Value) (nn : Nat) (t : Tok), (as.map Value.ref)[x.toNat]? = some (.ref a) ∧ (a, W.listOf (List.toArray vs) nn) ∈ rl ∧ vs[y.toNat]? = some (.int (C x.toNat y.toNat) t) := by
  obtain ⟨a, vs, nn, g1, g2, g3⟩ := h.2 x.toNat (by omega)
  obtain ⟨t, ht⟩ := g3.get y.toNat (C x.toNat y.toNat) (by rw [List.getElem?_map, List.getElem?_range (by omega)]; rfl)
  exact ⟨a, vs, nn, t, by rw [List.getElem?_map, g1]; rfl, g2, ht⟩
theorem RowsIn.elim {C : Nat → Nat → Int} {n k : Nat} {rl RL : Led} {as : List Addr} {P : Prop} (h : RowsIn C n rl as k) (hs : ∀ p ∈ rl, p ∈ RL) {x y : Int} (h0 : 0 ≤ x) (h1 : x < (k : Int)) (h2 : 0 ≤ y) (h3 : y < (n : Int))
    (q : ∀ (a : Addr) (vs : List Value) (nn : Nat) (t : Tok), (as.map Value.ref)[x.toNat]? = some (.ref a) → (a, W.listOf (List.toArray vs) nn) ∈ RL → vs[y.toNat]? = some (.int (C x.toNat y.toNat) t) → P) : P := by
  obtain ⟨a, vs, nn, t, r1, r2, r3⟩ := h.at h0 h1 h2 h3
  exact q a vs nn t r1 (hs _ r2) r3
theorem trip_get {kk : List Int} {ws : List Value} {n : Nat} (hT : IntsAre ws ([0] ++ kk ++ [0])) (hl : kk.length = n - 1) (hn : 1 ≤ n) (hx : ∀ x ∈ kk, 0 ≤ x ∧ x < (n : Int)) {j : Nat} {z : Int} (hz : z = (j : Int)) (hj : j ≤ n) : ∃ t, ws[z.toNat]? = some (.int ((tripL kk).getD j 0) t) := by
  obtain ⟨x, x1, x2, _⟩ := trip_at hl hn hx hj
  subst hz
  rw [x2]
  exact hT.get j x x1
theorem trip_in {kk : List Int} {n : Nat} (hl : kk.length = n - 1) (hn : 1 ≤ n) (hx : ∀ x ∈ kk, 0 ≤ x ∧ x < (n : Int)) {j : Nat} (hj : j ≤ n) : 0 ≤ (tripL kk).getD j 0 ∧ (tripL kk).getD j 0 < (n : Int) := by
  obtain ⟨x, _, x2, x3⟩ := trip_at hl hn hx hj
  rw [x2]; exact x3
theorem ints_snoc {D : Nat → Int} {ys : List Value} {i : Nat} {x : Int} {t : Tok} (h : IntsAre ys ((List.range i).map D)) (e : D i = x) : IntsAre (ys ++ [.int x t]) ((List.range (i + 1)).map D) := by
  rw [List.range_succ, List.map_append, List.map_cons, List.map_nil, e]
  exact h.append (.cons _ _ .nil)
theorem words_39_2 : True := by
  (k_with "my binaryOp Add ref ref" => (k_here; (with_reducible show wpAny _ (Around.deeper _ (envOfC (Str.ofString "law") _ _ _ _)) (binaryOp Operator.Add (Value.ref _) (Value.ref _)) _ _ _); k_dflt (refine' add_own ?F_q159 ?N_q159 ?l_q159 ?r_q159 ?a_q159 ?b_q159 ?_; (case F_q159 => k_asm); (case N_q159 => k_asm); (case l_q159 => exact News.isList (by k_asm) (by k_mem)); (case r_q159 => exact News.isList (by k_asm) (by (repeat (first | with_reducible assumption | refine List.mem_cons_of_mem _ ?_)))); (case a_q159 => exact Nat.le_of_ble_eq_true rfl); (case b_q159 => with_reducible assumption)); intro D_p h_p F_p N_p l1_r; (try k_lt l1_r); (try k_sweep)))
  (k_with "my law item" => (k_here; (with_reducible show wpAny _ (Around.deeper _ (envOfC (Str.ofString "law") _ _ _ _)) (subscriptTail _ _ (Value.ref _) (Value.int _ _)) _ _ _); k_dflt (refine' item_listL ?l_q160 ?a_q160 ?b_q160 ?c_q160 ?_; (case l_q160 => first | exact News.isList (by k_asm) (by (repeat (first | with_reducible assumption | exact List.Mem.head _ | refine List.mem_cons_of_mem _ ?_)))); (case a_q160 => omega); (case b_q160 => omega); (case c_q160 => with_reducible assumption))))
  (k_with "my subscriptTail Name Subscript ref int" => walk_at "law item")
  (k_with "my subscriptTail Name BinOp ref int" => walk_at "law item")
  (k_with "my subscriptTail Subscript Subscript ref int" => walk_at "law item")
  trivial
theorem c_law (w : World) (l : Addr) (vs : List Value) (ns : List Int) (hi : IntsAre vs ns) (h63 : ns.length ≤ 63) (TT : List Row) (hTe : treeOf [Row.root] (numsOf ns) = TT) (K : TreeOK TT) (C : Nat → Nat → Int) (KL : LawOK TT C) (rows : List Row) (hrows : (orderF TT 6 0).map (fun k => TT.getD k Row.root) = rows)
    {p : Program} {loose : List Str} {mean : ExcName → Option Value} {mg mb : Str → Option Value} {g : Heap} {s : Shared} {R : Result → Shared → Prop}
    (hg : g = hideAll s.heap ([((221 : Addr), tabObj #[])].map (·.1))) (X : (Mine.hd.heap_1_1 w.params).In g) (T : Top p loose mean mg mb g) (hh : ∀ q ∈ [((221 : Addr), tabObj #[])], s.heap.get? q.1 = some q.2) (hCH : CodeHd g 225 221) (hl : g.IsList l vs.toArray)
    (hR : ∀ h' tk' ps, g.StaysIn h' → h'.get? 221 = some (tabObj ps) → R (.ok (.ret (.bool true))) { s with heap := h', toks := tk' }) :
    codeAny (model PySem.Challenge.rw_kt0070_01.row.prog w) callerA (.call (.ref 276) ⟨[.ref l], []⟩) R s := by
  have hn5 : (numsOf ns).length ≤ 5 := by
    unfold numsOf
    rw [List.length_append, List.length_drop, List.length_take]
    simp only [List.length_cons, List.length_nil]
    omega
  have hmoR : ∀ r ∈ rows, 0 ≤ r.mode ∧ r.mode < 65536 := fun r hr => by
    rw [← hrows] at hr
    obtain ⟨k, hk, rfl⟩ := List.mem_map.mp hr
    exact K.mo k (K.m k hk)
  have hrl : rows.length ≤ 6 := by rw [← hrows, List.length_map]; exact K.le
  have hrl6 : rows.length ≤ 1000000 := by omega
  have hline := K.line
  rw [hrows] at hline
  have hsok := K.sok
  rw [hrows] at hsok
  have hwe : rows.map Row.way = (orderF TT 6 0).map (fun k => (TT.getD k Row.root).way) := by rw [← hrows, List.map_map]; rfl
  have hRf : rowsF TT = rows := hrows
  have hTab := KL.tab
  have hRest := KL.rest
  have hTrips := KL.trips
  have hBest := KL.best
  have hPos := KL.pos
  rw [hRf] at hTab hRest hTrips hBest hPos
  obtain ⟨b1, b2, b3, b4⟩ := hBest
  have hord := ordF_le 6 (placesF rows.length)
  have hpl : rangeKs 1 ((rows.length : Int) - 1).toNat = placesF rows.length := by
    have e : ((rows.length : Int) - 1).toNat = rows.length - 1 := by omega
    rw [e]; rfl
  have hpln : (placesF rows.length).length ≤ 6 := by unfold placesF; rw [List.length_map, List.length_range]; omega
  k_dflt (refine' enter_law ?kg ?k3 ?k5 ?kh ?k6 ?k7 ?k9 ?kB ?kD ?_ ?c2 ?c3 ?c4; (case kg => k_asm); (case k3 => k_asm); (case k5 => k_asm); (case kh => k_asm); (case k6 => k_is); (case k7 => k_is); (case k9 => first | exact BindsTo.of_eq rfl | exact binds_K (by k_in) rfl (by k_is) rfl rfl rfl); (case kB => exact rfl); (case kD => decide +kernel); (case c2 => exact rfl); (case c3 => exact rfl); (case c4 => exact rfl); k_whole)
  intro L' h' tk' cells' F' N' Y' B' l1
  k_lt l1
  k_cells Y'
  try simp only [List.cons_append, List.nil_append] at N'
  try dsimp only
  try k_fold
  k_steps
  with_reducible refine Stop.mk ?_
  rename Fr _ _ _ _ => lF
  rename News _ _ _ _ => lN
  rename IntsAre _ (_ ++ _) => hI
  rename Below _ _ _ _ => lB
  rename CodeHd _ _ _ => lC
  k_dflt (refine' use_tree hI hn5 hTe lB lF X lN T (by exact rfl) (by exact rfl) (by walk_at "con room") (by walk_at "con room") (News.isList lN (by k_mem)) ?_)
  clear lF lN
  intro tr as ts n h9 tk9 ha ht F9 N9 q1 q2 q3 q4 u1 u2 u3 u4
  dsimp only at q1 q2 q3 q4 u1 u2 u3 u4
  k_steps
  with_reducible refine Stop.mk ?_
  rename Fr _ _ _ _ => lF
  rename News _ _ _ _ => lN
  k_dflt (refine' use_order (k := 0) K.s1 K.s rfl lB lF X lN T (by exact rfl) (by exact rfl) (by walk_at "con room") (by walk_at "con room") (TreeAt.ofNews lN (.head _) (fun p hp => .tail _ (.tail _ (.tail _ (.tail _ (.tail _ hp))))) ha ht K.s) ?_)
  clear lF lN
  intro od ovs on h9 tk9 hO F9 N9 v1 v2 v3 v4 v5 vR
  dsimp only at v1 v2 v3 v4 v5
  have hol : ovs.toArray.size = (orderF TT 6 0).length := by rw [List.size_toArray, hO.length, List.length_map]
  k_steps
  with_reducible refine Stop.mk ?_
  rename Fr _ _ _ _ => lF
  rename News _ _ _ _ => lN
  k_dflt (refine' use_tape hrows K.m K.nm K.mo K.d K.le hO lB lF X lN T (by exact rfl) (by exact rfl) (by walk_at "con room") (by walk_at "con room") (TreeAt.ofNews lN (.tail _ (.head _)) (fun p hp => .tail _ (.tail _ (.tail _ (.tail _ (.tail _ (.tail _ hp)))))) ha ht K.s) (News.isList lN (.head _)) ?_)
  clear lF lN
  intro tb tt h9 tk9 hks hkl F9 N9
  k_steps
  with_reducible refine Stop.mk ?_
  rename Fr _ _ _ _ => lF
  rename News _ _ _ _ => lN
  k_dflt (refine' use_stream hks hkl lB lF X lN T ?hf ?hk ?hd ?hu ?o1 ?o2 ?o3 ?o4 ?o5 ?oR lC ?_)
  case hf => exact rfl
  case hk => exact rfl
  case hd => walk_at "con room"
  case hu => walk_at "con room"
  case o1 => exact Ne.symm v5
  case o2 => exact q4
  case o3 => (dsimp only; exact Nat.ne_of_gt (by omega))
  case o4 => (dsimp only; exact Nat.ne_of_gt (by omega))
  case o5 => (dsimp only; exact Nat.ne_of_gt (by omega))
  case oR => assumption
  clear lF lN
  intro st SAt tl h9 tk9 hStm hS0 h221 F9 N9 D9
  k_steps
  with_reducible refine Stop.mk ?_
  rename Fr _ _ _ _ => lF
  rename News _ _ _ _ => lN
  k_dflt (refine' use_listing hStm hS0 rfl hkl hrl hline hmoR lB lF X lN T (by exact rfl) (by exact rfl) (by walk_at "con room") (by walk_at "con room") D9 u1 u2 ?_)
  clear lF lN D9 u3 u4
  intro tp wl cd wvs n9 kvs cdo tl2 pos2 rl h9 tk9 hS2 hwv hcd hfl hsm hrow htl2 F9 NL w1 w2 w3 w4 w5 w6 y3 y2
  dsimp only at w1 w2 w3 w4 w5 w6 y3 y2
  have hwl : wvs.length = rows.length := by rw [hwv.length, List.length_map]
  k_steps
  with_reducible refine Stop.mk ?_
  rename Fr _ _ _ _ => lF
  rename News _ _ _ _ => lN
  refine LCg.CompSrc.ledger (its := ovs.toArray) (by exact rfl) lF lN (.tail _ (.tail _ (.tail _ (.head _)))) (by rw [hol]; have := K.le; unfold sizeLine; omega) ?_
  intro g'
  refine comp_gen (fun i ys => StrsAre ys (((orderF TT 6 0).take i).map fun k => (TT.getD k Row.root).way)) .nil (.inr ⟨_, .tail _ (.tail _ (.tail _ (.head _))), rfl, _, rfl⟩) ?turn ?fin
  case turn =>
    clear lF lN
    intro i v I oI Cc oC D m₂ ys h tk E' hi hv hys hC hx F' N'
    revert hx
    refine order_at hO hv ?_
    intro k tt hk1 hx
    have hkT : k < TT.length := K.m k (List.mem_of_getElem? hk1)
    have hs9 := K.s
    refine TreeAt.elim (x := (k : Int)) (TreeAt.ofNews N' (by k_mem) (fun p hp => .tail _ (.tail _ (.tail _ (.tail _ (.tail _ (.tail _ (.tail _ (.tail _ (.tail _ (.tail _ (.tail _ (hrow p hp)))))))))))) ha ht K.s) rfl hkT ?_
    intro ad t9 hl9 e3 e4
    unfold rowVals at e4
    k_steps
    rw [List.take_succ, hk1, Option.toList_some, List.map_append]
    exact StrsAre.snoc hys
  case fin =>
    intro ys hys
    rw [hol, List.take_of_length_le (Nat.le_refl _)] at hys
    clear lF lN
    k_steps
    with_reducible refine Stop.mk ?_
    rename Fr _ _ _ _ => lF
    rename News _ _ _ _ => lN
    rename IsRange _ _ _ _ _ _ _ _ => lR
    have lN2 := news_tab lN
    clear lN
    rename _ < _ ∧ _ < _ ∧ _ < _ ∧ _ < _ ∧ _ < _ ∧ _ < _ ∧ _ < _ ∧ _ < _ ∧ _ < _ ∧ AllLt _ _ => lT
    have t3 := lT.2.1
    with_unfolding_all refine' iter_rng rows.length (TabJ C rows.length) (by rfl) lR (small_rng (by omega) (by omega) (by omega) (by omega)) (by omega) lF lN2 (TabJ.start (off_allLt lT.2.2.2.2.2.2.2.2.2) y3) ?step ?done
    case step =>
      clear lF lN2 lR
      intro I i m news t' h tk lI hi hj hI F' N'
      revert hI F' N'
      refine TabJ.elim hj ?_
      clear hj
      intro rl' as' nn u e1 e3 e4 e5 haz hI F' N'
      k_lt lI
      replace haz := haz.resolve_right (by omega)
      have hIr : ∀ p ∈ rl', p.1 ≠ I := fun p hp => hI p (by simp [hp])
      clear hI
      k_steps
      with_reducible refine Stop.mk ?_
      rename Fr _ _ _ _ => lF
      rename News _ _ _ _ => lN
      rename IsRange _ _ _ _ _ _ _ _ => lR
      rename I < _ ∧ _ < _ ∧ _ < _ ∧ _ < _ ∧ _ < _ ∧ _ < _ ∧ _ < _ ∧ _ < _ ∧ AllLt _ _ => lC
      have hclr := off_allLt lC.2.2.2.2.2.2.2.2
      with_unfolding_all refine' iter_rng rows.length (ColJ C i) (by rfl) lR (small_rng (by omega) (by omega) (by omega) (by omega)) (by omega) lF lN ColJ.start ?step2 ?done2
      case step2 =>
        clear lF lN lR
        intro I2 j m2 news2 t2' h2 tk2 lI2 hj hcj hI2 F' N'
        revert hI2 F' N'
        refine ColJ.elim hcj ?_
        clear hcj
        intro cvs nn2 u2 f1 hI2 F' N'
        k_lt lI2
        have hx' := (way_at0 hwv hi).choose_spec
        have hy' := (way_at0 hwv hj).choose_spec
        have hcl : cvs.length ≤ 1048576 := by rw [f1.length, List.length_map, List.length_range]; omega
        k_steps
        · rename Fr _ _ _ _ => lF
          rename News _ _ _ _ => lN
          rename _ = (_ : Int) => hij
          exact UnrEnd.here lF lN (off_same hI2) (ColJ.next f1 (by rw [show i = j by omega]; exact KL.diag j) fun z z1 z2 => by simp [z1, z2])
        · with_reducible refine Stop.mk ?_
          rename Fr _ _ _ _ => lF
          rename News _ _ _ _ => lN
          rename _ ≠ (_ : Int) => hij
          k_dflt (refine' PCon.useV (c_pair w _ (costsF rows) _ _ _ _ (C i j) (hTab i j hi hj (by omega))) lB lF X lN T (by exact rfl) (by exact rfl) (by walk_at "con room") (by walk_at "con room") (costs_at lN hsm (by k_mem) hcd hfl) ?_)
          clear lF lN
          intro t9 h9 tk9 F9 N9
          k_steps
          rename Fr _ _ _ _ => lF
          rename News _ _ _ _ => lN
          exact UnrEnd.here lF lN (off_same hI2) (ColJ.next f1 rfl fun z z1 z2 => by simp [z1, z2])
      case done2 =>
        clear lF lN lR
        intro m2 news2 h2 tk2 hcj F' N'
        revert F' N'
        refine ColJ.elim hcj ?_
        clear hcj
        intro cvs nn2 u2 f1 F' N'
        k_steps
        rename Fr _ _ _ _ => lF
        rename News _ _ _ _ => lN
        exact UnrEnd.tab lF lN (by walk_at "own off") (TabJ.next e1 e3 e4 e5 f1 (Nat.ne_of_gt (by omega)) (Nat.ne_of_gt (by omega)) fun z z1 z2 z3 z4 => by simp [z1, z2, z3, z4])
    case done =>
      clear lF lN2 lR
      intro m news' h tk hj F' N'
      revert F' N'
      refine TabJ.elim hj ?_
      clear hj
      intro rl' as' nn u e1 e3 e4 e5 haz F' N'
      k_steps
      with_reducible refine Stop.mk ?_
      rename Fr _ _ _ _ => lF
      rename News _ _ _ _ => lN
      k_dflt (refine' PCon.useV (c_due w _ as TT ts K.s K.s1 K.mo) lB lF X lN T (by exact rfl) (by exact rfl) (by walk_at "con room") (by walk_at "con room") (TreeAt.ofNews lN (by k_mem) (fun p hp => .tail _ (.tail _ (.tail _ (.tail _ (.tail _ (.tail _ (.tail _ (e1 p (hrow p hp))))))))) ha ht K.s) ?_)
      clear lF lN
      intro t9 h9 tk9 F9 N9
      k_steps
      with_reducible refine Stop.mk ?_
      rename Fr _ _ _ _ => lF
      rename News _ _ _ _ => lN
      rename IntsAre _ (rangeKs _ _) => hPl
      rw [hpl] at hPl
      rename _ < _ ∧ _ < _ ∧ _ < _ ∧ _ < _ ∧ _ < _ ∧ _ < _ ∧ _ < _ ∧ AllLt _ rl' => lP
      have p3 := lP.2.1
      k_dflt (refine' use_orders hPl hpln lB lF X lN T (by exact rfl) (by exact rfl) (by walk_at "con room") (by walk_at "con room") (News.isList lN (by k_mem)) (off_allLt lP.2.2.2.2.2.2.2) e4 ?_)
      clear lF lN
      intro oo oas ovss on2 RL h9 tk9 hol9 hOL R1 R2 R3 R4 F9 N9 dt db d3 d2 dw
      dsimp only at R3 R4 dt db d3 d2 dw
      k_steps
      with_reducible refine Stop.mk ?_
      rename Fr _ _ _ _ => lF
      rename News _ _ _ _ => lN
      with_unfolding_all refine' iter_own2 (TripJ C rows.length (ordF 6 (placesF rows.length))) (by rfl) lF lN (.head _) (by rfl) (by rfl) (TripJ.start hol9 hOL R1 (by assumption)) ?step ?done
      case step =>
        clear lF lN
        intro I v r m news it h tk lI hj hI hic F' N'
        revert hI F' N'
        refine TripJ.elim hj ?_
        clear hj
        intro oc tvs nn' b w0 bs wss dn ks kk cv u' eb hw0 hws ed hbm hb hcv htv hI F' N'
        k_lt lI
        have hkm : kk ∈ ordF 6 (placesF rows.length) := by rw [← ed]; simp
        have hkL9 := (hRest kk hkm).1
        have hkX9 := (hRest kk hkm).2
        have hkd := (hTrips kk hkm).1
        have hke := (hTrips kk hkm).2
        have hw0l : w0.length ≤ 1000000 := by rw [hw0.length, hkL9]; omega
        have hIr : ∀ p ∈ RL, p.1 ≠ I := fun p hp => hI p (by simp [hp])
        clear hI
        have htl9 : tvs.length ≤ 1048576 := by
          rw [htv.length, List.length_map]
          have h1 := congrArg List.length ed
          rw [List.length_append] at h1
          have h2 : 7 ^ 6 = 117649 := by decide +kernel
          have h3 := hord (by omega)
          omega
        k_steps
        with_reducible refine Stop.mk ?_
        rename Fr _ _ _ _ => lF
        rename News _ _ _ _ => lN
        rename IsRange _ _ _ _ _ _ _ _ => lR
        refine LCg.CompSrc.range (n := rows.length) (by exact rfl) lF lN lR (small_rng (by omega) (by omega) (by omega) (by omega)) (by rw [rangeSize_nat]; omega) (by unfold sizeLine; omega) ?_
        intro g'
        refine comp_gen (fun i ys => IntsAre ys ((List.range i).map fun k => C ((tripL kk).getD k 0).toNat ((tripL kk).getD (k + 1) 0).toNat)) .nil trivial ?turn ?fin
        case turn =>
          clear lF lN lR
          intro j v I2 oI Cc oC D m₂ ys h2 tk2 E' hj hv hys hC hx F' N'
          revert hx
          refine int_elim hv ?_
          intro tj hx
          rename IntsAre _ ([0] ++ kk ++ [0]) => hTl
          have hx1 := (trip_get hTl hkL9 hPos hkX9 (j := j) (z := (0 : Int) + (j : Int)) (by omega) (by omega)).choose_spec
          have hy1 := (trip_get hTl hkL9 hPos hkX9 (j := j + 1) (z := (0 : Int) + (j : Int) + 1) (by omega) (by omega)).choose_spec
          have x3 := trip_in hkL9 hPos hkX9 (j := j) (by omega)
          have y3 := trip_in hkL9 hPos hkX9 (j := j + 1) (by omega)
          refine RowsIn.elim e5 R2 x3.1 x3.2 y3.1 y3.2 ?_
          intro ra rvs rn rt r1 r2 r3
          k_steps
          exact ints_snoc hys rfl
        case fin =>
          intro ys hys
          have hsum : ((List.range rows.length).map fun k => C ((tripL kk).getD k 0).toNat ((tripL kk).getD (k + 1) 0).toNat).sum = tripF C rows.length kk := rfl
          clear lF lN lR
          k_steps
          · rename Int.fmod _ 2 = 1 => hbad
            rw [hsum, hke] at hbad
            exact absurd hbad (by decide)
          · rename Fr _ _ _ _ => lF
            rename News _ _ _ _ => lN
            exact UnrEnd.sub lF lN (fun p hp => .tail _ (.tail _ (.tail _ (.tail _ (.tail _ hp))))) (by walk_at "own off") ⟨.head _, TripJ.next eb hws ed hb (by assumption) htv fun z z1 => by simp [z1]⟩
      case done =>
        clear lF lN
        intro m news' h tk hj F' N'
        revert F' N'
        refine TripJ.fin hj ?_
        clear hj
        intro oc tvs nn' u' htv
        rw [b3, List.map_cons, b4] at htv
        refine ints_elim htv ?_
        clear htv
        intro bt tvs htv F' N'
        have h0 : (Value.int (dueF TT (TT.length - 1)) bt :: tvs)[((0 : Int)).toNat]? = some (.int (dueF TT (TT.length - 1)) bt) := rfl
        have hdd : (dueF TT (TT.length - 1) == dueF TT (TT.length - 1)) = true := by simp
        have hps := (h221 pos2 tl2 hS2).choose_spec
        have hp9 := R2 _ (e1 _ (htl2 _ hps))
        k_steps
        walk_at "con end"
        rename Fr _ _ _ _ => lF
        rename News _ _ _ _ => lN
        rw [show ((dueF TT (TT.length - 1) :: List.map (tripF C rows.length) b2).getD (Int.toNat 0) 0 == dueF TT (TT.length - 1)) = true from hdd]
        exact hR _ _ _ lF.keep (lN _ (.tail _ (.tail _ (.tail _ (.tail _ (.tail _ (.tail _ hp9))))))).1
theorem law_top.tw10009937769249480025 : True := trivial
theorem law_top.tw10022954398334786472 : True := trivial
theorem law_top.tw1012689107648233940 : True := trivial
theorem law_top.tw10130442277283305240 : True := trivial
theorem law_top.tw1023444396693922510 : True := trivial
theorem law_top.tw10286201357013005377 : True := trivial
theorem law_top.tw10312902306739710145 : True := trivial
theorem law_top.tw10371041920847623128 : True := trivial
theorem law_top.tw10381211409784513274 : True := trivial
theorem law_top.tw10423077072043297293 : True := trivial
theorem law_top.tw10489098864946930052 : True := trivial
theorem law_top.tw10489179705248868120 : True := trivial
theorem law_top.tw10643894103495724296 : True := trivial
theorem law_top.tw10656630119939421962 : True := trivial
theorem law_top.tw10753425778081737074 : True := trivial
theorem law_top.tw10765115190881971295 : True := trivial
theorem law_top.tw10808874010780112386 : True := trivial
theorem law_top.tw1091123251261150752 : True := trivial
theorem law_top.tw10996880340528980882 : True := trivial
theorem law_top.tw11109962648497783193 : True := trivial
theorem law_top.tw11118050172241831894 : True := trivial
theorem law_top.tw11150521529030130331 : True := trivial
theorem law_top.tw11153753719859638668 : True := trivial
theorem law_top.tw11207669224365933885 : True := trivial
theorem law_top.tw11252408227385254122 : True := trivial
theorem law_top.tw11308803257360059616 : True := trivial
theorem law_top.tw11373745439413166461 : True := trivial
theorem law_top.tw11447950881053986945 : True := trivial
theorem law_top.tw11467734939437845060 : True := trivial
theorem law_top.tw1152095663418324545 : True := trivial
theorem law_top.tw11598849959208051911 : True := trivial
theorem law_top.tw11684210690171682069 : True := trivial
theorem law_top.tw11768769927125411566 : True := trivial
theorem law_top.tw11800595542214684199 : True := trivial
theorem law_top.tw11952766272208900384 : True := trivial
theorem law_top.tw11980320763153397962 : True := trivial
theorem law_top.tw12015765404883611054 : True := trivial
theorem law_top.tw12026654070091552410 : True := trivial
theorem law_top.tw12102968378589485275 : True := trivial
theorem law_top.tw12123228272840091106 : True := trivial
theorem law_top.tw12221533569620720199 : True := trivial
theorem law_top.tw12315322523353936860 : True := trivial
theorem law_top.tw12383567781034396973 : True := trivial
theorem law_top.tw1239071839171308677 : True := trivial
theorem law_top.tw12410780593926092251 : True := trivial
theorem law_top.tw12411813103585969329 : True := trivial
theorem law_top.tw12483686980596091950 : True := trivial
theorem law_top.tw12581318279992099673 : True := trivial
theorem law_top.tw12602365290385799353 : True := trivial
theorem law_top.tw12603643600705156480 : True := trivial
theorem law_top.tw12642894733483524384 : True := trivial
theorem law_top.tw12661805379483840412 : True := trivial
theorem law_top.tw12835476548120446910 : True := trivial
theorem law_top.tw1293550044248234499 : True := trivial
theorem law_top.tw1323582397888939860 : True := trivial
theorem law_top.tw13264726661616138972 : True := trivial
theorem law_top.tw13274752878174172470 : True := trivial
theorem law_top.tw13280073825119313307 : True := trivial
theorem law_top.tw13495758300109605228 : True := trivial
theorem law_top.tw13505924567701638405 : True := trivial
theorem law_top.tw13536622145382484277 : True := trivial
theorem law_top.tw13569769787879642480 : True := trivial
theorem law_top.tw13614607559452128130 : True := trivial
theorem law_top.tw13617616100846008015 : True := trivial
theorem law_top.tw13629386109417009619 : True := trivial
theorem law_top.tw13656351535292796931 : True := trivial
theorem law_top.tw13903284469890399892 : True := trivial
theorem law_top.tw13983874250533330049 : True := trivial
theorem law_top.tw14001335554848197737 : True := trivial
theorem law_top.tw14045353349613869895 : True := trivial
theorem law_top.tw14094308479182845342 : True := trivial
theorem law_top.tw14139451231886455591 : True := trivial
theorem law_top.tw14149293753504563448 : True := trivial
theorem law_top.tw14171916116217733337 : True := trivial
theorem law_top.tw14336093415811351552 : True := trivial
theorem law_top.tw14354878143330663600 : True := trivial
theorem law_top.tw14427177951809244936 : True := trivial
theorem law_top.tw14428659484844676847 : True := trivial
theorem law_top.tw14495200943341674868 : True := trivial
theorem law_top.tw14538551479329587425 : True := trivial
theorem law_top.tw14657218770554414550 : True := trivial
theorem law_top.tw14720682376575864081 : True := trivial
theorem law_top.tw14745367035689650665 : True := trivial
theorem law_top.tw14780399261912653854 : True := trivial
theorem law_top.tw14795834682912672649 : True := trivial
theorem law_top.tw14966000421873519779 : True := trivial
theorem law_top.tw15054528889983576359 : True := trivial
theorem law_top.tw15060859434628841481 : True := trivial
theorem law_top.tw15071836785205542102 : True := trivial
theorem law_top.tw15348294645224088440 : True := trivial
theorem law_top.tw15437651174255455370 : True := trivial
theorem law_top.tw15712796350406014708 : True := trivial
theorem law_top.tw157372793722717571 : True := trivial
theorem law_top.tw15775079376732303269 : True := trivial
theorem law_top.tw16034593955152035039 : True := trivial
theorem law_top.tw16086137715970823455 : True := trivial
theorem law_top.tw16167450759969532972 : True := trivial
theorem law_top.tw16227487660197021416 : True := trivial
theorem law_top.tw16234455562044715664 : True := trivial
theorem law_top.tw16370387802112053076 : True := trivial
theorem law_top.tw16402017977460028959 : True := trivial
theorem law_top.tw16404726318318808291 : True := trivial
theorem law_top.tw16453215271722744410 : True := trivial
theorem law_top.tw16516210430033194362 : True := trivial
theorem law_top.tw16571542119754277519 : True := trivial
theorem law_top.tw1672473405038974386 : True := trivial
theorem law_top.tw16804454591322870632 : True := trivial
theorem law_top.tw16852692392685713594 : True := trivial
theorem law_top.tw16920072114840945712 : True := trivial
theorem law_top.tw17122903829229300871 : True := trivial
theorem law_top.tw17233697202334638283 : True := trivial
theorem law_top.tw17241472212612190410 : True := trivial
theorem law_top.tw17329697038813146518 : True := trivial
theorem law_top.tw17373516556330895005 : True := trivial
theorem law_top.tw17418414475645254054 : True := trivial
theorem law_top.tw17502340256454306594 : True := trivial
theorem law_top.tw17749012049736168678 : True := trivial
theorem law_top.tw17826498178445789105 : True := trivial
theorem law_top.tw17913122038851051582 : True := trivial
theorem law_top.tw18203238465984659628 : True := trivial
theorem law_top.tw18229694076986752883 : True := trivial
theorem law_top.tw18249325978800452257 : True := trivial
theorem law_top.tw18272230019521340845 : True := trivial
theorem law_top.tw18276736662183687224 : True := trivial
theorem law_top.tw18308898082861124899 : True := trivial
theorem law_top.tw18444406557246085948 : True := trivial
theorem law_top.tw186610494773709257 : True := trivial
theorem law_top.tw1866561049575849890 : True := trivial
theorem law_top.tw1914564268808401517 : True := trivial
theorem law_top.tw1949957074159577291 : True := trivial
theorem law_top.tw2006347528899873046 : True := trivial
theorem law_top.tw2221346581984900321 : True := trivial
theorem law_top.tw2231769556475311179 : True := trivial
theorem law_top.tw2302899222408781742 : True := trivial
theorem law_top.tw2329917314736747074 : True := trivial
theorem law_top.tw2362908034175422153 : True := trivial
theorem law_top.tw2377461937612088731 : True := trivial
theorem law_top.tw2387479435186344434 : True := trivial
theorem law_top.tw2425259741698657634 : True := trivial
theorem law_top.tw2434788702601687341 : True := trivial
theorem law_top.tw2492899991669957969 : True := trivial
theorem law_top.tw2547710054892780505 : True := trivial
theorem law_top.tw2773272114844130751 : True := trivial
theorem law_top.tw2779505321668998331 : True := trivial
theorem law_top.tw2782996163467332843 : True := trivial
theorem law_top.tw2921725550714146573 : True := trivial
theorem law_top.tw2931800135006948302 : True := trivial
theorem law_top.tw2955606287360080163 : True := trivial
theorem law_top.tw3045735675050468237 : True := trivial
theorem law_top.tw3103645623598724647 : True := trivial
theorem law_top.tw3149648356839831761 : True := trivial
theorem law_top.tw338824571423488846 : True := trivial
theorem law_top.tw3388247595439114193 : True := trivial
theorem law_top.tw3546099850675824363 : True := trivial
theorem law_top.tw363188069846206536 : True := trivial
theorem law_top.tw3651440707554267873 : True := trivial
theorem law_top.tw3839028595492612301 : True := trivial
theorem law_top.tw3850716956298742147 : True := trivial
theorem law_top.tw394342335994243347 : True := trivial
theorem law_top.tw4035441743224856527 : True := trivial
theorem law_top.tw4081377120236623103 : True := trivial
theorem law_top.tw4216818783724148357 : True := trivial
theorem law_top.tw4295069414132922928 : True := trivial
theorem law_top.tw4402356946540952802 : True := trivial
theorem law_top.tw4463889121179344938 : True := trivial
theorem law_top.tw4545158686061949560 : True := trivial
theorem law_top.tw4606098849824373401 : True := trivial
theorem law_top.tw4752553660275263152 : True := trivial
theorem law_top.tw4771946411373943499 : True := trivial
theorem law_top.tw4798412317897671871 : True := trivial
theorem law_top.tw4831464691516966212 : True := trivial
theorem law_top.tw4902799851907889001 : True := trivial
theorem law_top.tw4988363707026695406 : True := trivial
theorem law_top.tw5007170068019768967 : True := trivial
theorem law_top.tw5065184931803596051 : True := trivial
theorem law_top.tw5078501238348620643 : True := trivial
theorem law_top.tw5205636598411918471 : True := trivial
theorem law_top.tw5227989748810768967 : True := trivial
theorem law_top.tw524847444842218799 : True := trivial
theorem law_top.tw5275388887275059251 : True := trivial
theorem law_top.tw5327052470748379237 : True := trivial
theorem law_top.tw5427493960770380056 : True := trivial
theorem law_top.tw5514729965730758136 : True := trivial
theorem law_top.tw5573422927650112384 : True := trivial
theorem law_top.tw5603597620517582467 : True := trivial
theorem law_top.tw5628761587620526709 : True := trivial
theorem law_top.tw563060009133142150 : True := trivial
theorem law_top.tw5643620551880373795 : True := trivial
theorem law_top.tw5645422842665200123 : True := trivial
theorem law_top.tw5666000718650403997 : True := trivial
theorem law_top.tw568671577668820102 : True := trivial
theorem law_top.tw5773618164531597519 : True := trivial
theorem law_top.tw5918911117149551867 : True := trivial
theorem law_top.tw6107954633774935487 : True := trivial
theorem law_top.tw6200633000750292626 : True := trivial
theorem law_top.tw6220095166607929328 : True := trivial
theorem law_top.tw6231661171454773142 : True := trivial
theorem law_top.tw6332348898915433874 : True := trivial
theorem law_top.tw6384960801885577542 : True := trivial
theorem law_top.tw6455669631191945550 : True := trivial
theorem law_top.tw6567166899327786579 : True := trivial
theorem law_top.tw6570004926812099685 : True := trivial
theorem law_top.tw6571784266805931033 : True := trivial
theorem law_top.tw6691817473938501154 : True := trivial
theorem law_top.tw6702296689421629000 : True := trivial
theorem law_top.tw6715644534668516160 : True := trivial
theorem law_top.tw6728521171586691776 : True := trivial
theorem law_top.tw6906202865061970149 : True := trivial
theorem law_top.tw7002399741392485577 : True := trivial
theorem law_top.tw702364760294200891 : True := trivial
theorem law_top.tw7192916113724826976 : True := trivial
theorem law_top.tw7424991271761715064 : True := trivial
theorem law_top.tw7442410216495771646 : True := trivial
theorem law_top.tw746700049945509401 : True := trivial
theorem law_top.tw7538845821040022998 : True := trivial
theorem law_top.tw763981247105307321 : True := trivial
theorem law_top.tw7709056981799277829 : True := trivial
theorem law_top.tw7749578265824211803 : True := trivial
theorem law_top.tw7753840532347138381 : True := trivial
theorem law_top.tw78286356675630153 : True := trivial
theorem law_top.tw7835778587273230915 : True := trivial
theorem law_top.tw7874791000614325088 : True := trivial
theorem law_top.tw7901011372787885319 : True := trivial
theorem law_top.tw7961211647153113775 : True := trivial
theorem law_top.tw7997751710175968671 : True := trivial
theorem law_top.tw8020521010272921470 : True := trivial
theorem law_top.tw8075993289377910668 : True := trivial
theorem law_top.tw8215069239419067212 : True := trivial
theorem law_top.tw8290622515634760966 : True := trivial
theorem law_top.tw8516294288858636724 : True := trivial
theorem law_top.tw8516433308118453871 : True := trivial
theorem law_top.tw8537840781554845856 : True := trivial
theorem law_top.tw8541371063899175888 : True := trivial
theorem law_top.tw8583280074064652360 : True := trivial
theorem law_top.tw8595125893235944113 : True := trivial
theorem law_top.tw8596519879069539569 : True := trivial
theorem law_top.tw86993288252840343 : True := trivial
theorem law_top.tw8724397498656394257 : True := trivial
theorem law_top.tw9016240424216776369 : True := trivial
theorem law_top.tw9064951770252628880 : True := trivial
theorem law_top.tw9123506925785963709 : True := trivial
theorem law_top.tw9172863912365401550 : True := trivial
theorem law_top.tw9219720148880281623 : True := trivial
theorem law_top.tw9259941148897125462 : True := trivial
theorem law_top.tw9280402338285684670 : True := trivial
theorem law_top.tw9303506434284490135 : True := trivial
theorem law_top.tw9353894778045770699 : True := trivial
theorem law_top.tw9450407298689094659 : True := trivial
theorem law_top.tw9466599591447242186 : True := trivial
theorem law_top.tw9503508857058909386 : True := trivial
theorem law_top.tw9594317797690140654 : True := trivial
theorem law_top.tw9622585942757630181 : True := trivial
theorem law_top.tw9706269618697672353 : True := trivial
theorem law_top.tw9810018367102170708 : True := trivial
theorem law_top.tw9943684967944149986 : True := trivial
theorem law_top.tw9946213130098028794 : True := trivial
theorem law_top.tw9967964381162025786 : True := trivial
set_option Elab.async true in
theorem law_top : PySem.Challenge.rw_kt0070_01.Holds := by
  w_on
  o_law
  k_head
  (case hw => w_witness2)
  k_fill
  intro w s₀ s₁ mg mb G Y fa o pm cd doc dV kV ho hd hcd hD hmg hg args vals as hpre hlay hrd hwl hlo
  have KX := km_in_of Y
  km_tabs Y
  have X := (Ground.X G).1
  have V := (Ground.X G).2
  refine Ground.open G ?_
  intro T B D TE TW
  try (refine guard_noD D (by decide +kernel) ?_; clear D)
  km_lay T hmg ho hd cd
  have hfa : mg (Str.ofString "law") = some (.ref 276) := mg_of KX (Top.g T) (by kernel_rfl)
  have hfa2 : fa = 276 := by
    have h1 := hmg.symm.trans hfa
    injection h1 with h1
    injection h1
  subst hfa2
  clear hmg hfa
  wrow_args hpre hlay hrd hwl hlo
  all_goals (
    first | refine callC_kw (enter_call ?_) | refine enter_call ?_)
  all_goals (w_top on)
  all_goals kn_posts
  rename IntsAre _ _ => hi
  rename ¬ _ < _ => h63
  rename Heap.IsList _ _ _ => hL
  clear hd hcd hD
  refine c_law w _ _ _ hi (by omega) _ rfl (plain_law _).1 (plain_law _).2.choose (plain_law _).2.choose_spec _ rfl (g := ghostOf s₁.heap [(225, 221)]) rfl (ghost_K hT9 KX (by kernel_rfl)) (ghost_top hT9 T) (fun q hq => by rw [List.mem_singleton.mp hq]; exact hT8 221 (.head _)) (ghost_code hT9).1 (ghost_list hT9 hL) ?_
  intro h' tk' ps hst h22
  refine ⟨?_, ⟨ps, h22⟩, trivial⟩
  refine ⟨.inl ⟨_, .bool true, [], rfl, raisesW_false ?_, .bool _, ?_, unshared_nil⟩, hst, rfl, hg⟩
  · wrow_none_raised
  · wrow_post
end Mine
theorem PySem.Challenge.cw_kt0070_01_holds : PySem.Challenge.rw_kt0070_01.Holds := by
  exact Mine.law_top
