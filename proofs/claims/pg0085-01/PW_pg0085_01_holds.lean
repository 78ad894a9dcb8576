import PyProof.Rows.All
import Wide.All
import OpenK.AllK
import Wide.FinOn
import Lean
import PySem.Challenge.RW_pg0085_01
open PySem PySem.W PyProof.Rows
set_option Elab.async false
namespace Mine
set_option maxRecDepth 100000 in
set_option maxHeartbeats 8000000 in
open_top hd for PySem.Challenge.rw_pg0085_01
end Mine
open PySem.Calls
set_option maxRecDepth 100000
set_option linter.all false
namespace Mine
section
/-- what every call of ours leans on: the text's own objects, the top's facts -/
structure Ok (w : World) (h : Heap) : Prop where
  x : (hd.heap_39 w.params).In h
  t : ∃ mean mg mb, Top hd.view_39 (looseW hd.view_39 []) mean mg mb h
theorem Ok.keeps {w : World} {h h' : Heap} (O : Ok w h) (k : ∀ b o, h.get? b = some o → h'.get? b = some o) : Ok w h' :=
  ⟨O.x.keeps k, let ⟨a, b, c, T⟩ := O.t; ⟨a, b, c, T.keeps k⟩⟩
/-- a call's end: the value is as told, all that stood stands -/
def Ret (s : Shared) (P : Value → Prop) (v : Value) (s' : Shared) : Prop := P v ∧ Keeps s s'
theorem Keeps.refl (s : Shared) : Keeps s s := ⟨s.heap, s.toks, rfl, fun _ _ e => e⟩
theorem Keeps.trans {s s' s'' : Shared} (a : Keeps s s') (b : Keeps s' s'') : Keeps s s'' := by
  obtain ⟨h1, t1, rfl, k1⟩ := a
  obtain ⟨h2, t2, rfl, k2⟩ := b
  exact ⟨h2, t2, rfl, fun b o e => k2 b o (k1 b o e)⟩
theorem Ret.of {s s' : Shared} {P : Value → Prop} {v : Value} {L : Addr} {m : Str → Option Value} {h₁ : Heap} {tk : Nat} (F : Fr s.heap L h₁ m) (p : P v) (e : s' = { s with heap := h₁, toks := tk }) : Ret s P v s' :=
  ⟨p, h₁, tk, e, F.keep⟩
section
variable {w : World} {A : Around} {s : Shared} {prog : Program}
/-- entering a def of the text: its block stands on all that stood -/
theorem enter {E : Value → Shared → Prop} {Q : Value → Shared → Prop} {name qual : Str} {params : Arguments} {body : List Stmt} {scope : Scope} {dV kV doc pm cdv ct oc : Value} {an od : Option Addr} {osl : Array (Option Value)} {f : Addr} {vs : List Value} {binds : List (Str × Value)}
    (O : Ok w s.heap)
    (ho : (hd.heap_39 w.params).lookup f = some ⟨oc, od, .func (fnOf name qual params body scope dV kV doc pm an cdv ct), osl⟩) (hcd : codeIn (hd.heap_39 w.params) cdv qual = true) (hroom : A.depth < recursionLimit)
    (hbind : BindsTo s (fnOf name qual params body scope dV kV doc pm an cdv ct) ⟨vs, []⟩ binds) (hloc : ∀ y ∈ binds, scope.names.lookup y.1 = some .local)
    (h : ∀ L' h₁ mean mg mb, Fr s.heap L' h₁ (fun y => binds.reverse.lookup y) → News s.heap L' h₁ [] → (hd.heap_39 w.params).In s.heap → Top hd.view_39 (looseW hd.view_39 []) mean mg mb s.heap →
      wpAny (model prog w) (A.deeper (envOf qual scope L' f cdv)) (execs body (envOf qual scope L' f cdv))
        (fun fl s' => Q (match fl with | .ret v => v | _ => .none) s')
        (fun _ _ => False)
        { s with heap := h₁, toks := s.toks + binds.length })
    (hco : scope.isCoroutine = false) (hgen : scope.isGenerator = false) (hk : scope.kind = .function)
    (hcell : ∀ x ∈ scope.names, x.2 ≠ .cell) : wpAny (model prog w) A (call (.ref f) vs) Q E s := by
  obtain ⟨mean, mg, mb, T⟩ := O.t
  refine wpAny_call (codeAny_call_def (fd := fnOf name qual params body scope dV kV doc pm an cdv ct) (body := body) (binds := binds) hroom (O.x _ _ ho) rfl T.nolimit (codeRec_of O.x hcd) rfl hbind hcell hloc (fun h₁ hns hk₁ => ?_) hco hgen hk)
  exact wpAny_mono (h s.heap.objs.size h₁ mean mg mb ⟨hns, hk₁, Nat.le_refl _⟩ News.nil O.x T) (fun _ _ q => q) fun _ _ e => e.elim
end
end
end Mine
namespace Mine
section
open PySem.Builtin.Str in
/-- got.find(w, i, j) -/
def find4 (x y : Str) (i j : Int) : Int := match occurrences x y (fromIndex x.length i) (min (fromIndex x.length j) x.length) 1 with | k :: _ => (k : Int) | [] => -1
open PySem.Builtin PySem.Builtin.Str in
theorem gives_find4 (x y : Str) (i j : Int) (t u v v' : Tok) : Gives («str.find» ⟨[.str x t, .str y u, .int i v, .int j v'], []⟩) (.int (find4 x y i j)) := by
  show Gives (match occurrences x y (fromIndex x.length i) (min (fromIndex x.length j) x.length) 1 with | k :: _ => retInt k | [] => (do rule "str.find.not-found"; retInt (-1))) _
  unfold find4
  cases occurrences x y (fromIndex x.length i) (min (fromIndex x.length j) x.length) 1 with
  | nil => exact .rule (.of_eq rfl)
  | cons k _ => exact .of_eq rfl
theorem call_find4 {prog : Program} {w : World} {A : Around} {E : Value → Shared → Prop} {s : Shared} {x y : Str} {t u v v' : Tok} {i j : Int} {Q : Value → Shared → Prop}
    (hq : Q (.int (find4 x y i j) s.toks) { s with toks := s.toks + 1 }) : wpAny (model prog w) A (call (.builtin "str.find") [.str x t, .str y u, .int i v, .int j v']) Q E s :=
  call_gives F.slot_str_find (typeIs_str _ _ _) F.entry_str_find (F.args_str_find_4 _ _ _ _) (gives_find4 x y i j t u v v') hq
end
end Mine
namespace Mine
section
/-- what the loop says: the parts, one behind the other, between sp and ep -/
def emGo (got : Str) (ep : Int) : Int → List Str → Bool
  | _, [] => true
  | sp, w :: ws => if find4 got w sp ep < 0 then false else emGo got ep (find4 got w sp ep + w.length) ws
def emC (got : Str) (sp ep : Int) (ms : List Str) : Bool := if ep < sp then false else emGo got ep sp ms
def emB (got : Str) (sp : Int) (ms : List Str) (z : Str) : Bool :=
  if (z.length : Int) = 0 then emC got sp got.length (ms ++ [z]) else if Txt.endswith got z = true then emC got sp (got.length - z.length) ms else false
/-- what _ellipsis_match says of a :: ms ++ [z], the want's parts -/
def em (a : Str) (ms : List Str) (z got : Str) : Bool :=
  if (a.length : Int) = 0 then emB got 0 (a :: ms) z else if Txt.startswith got a = true then emB got a.length ms z else false
section
variable {a z got : Str} {ms : List Str} {sp ep : Int} {w : Str}
theorem em_a0 (h : (a.length : Int) = 0) : em a ms z got = emB got 0 (a :: ms) z := by unfold em; rw [if_pos h]
theorem em_a1 (h : (a.length : Int) ≠ 0) (k : Txt.startswith got a = true) : em a ms z got = emB got a.length ms z := by unfold em; rw [if_neg h, if_pos k]
theorem em_a2 (h : (a.length : Int) ≠ 0) (k : Txt.startswith got a = false) : em a ms z got = false := by unfold em; rw [if_neg h, k]; rfl
theorem emB_0 (h : (z.length : Int) = 0) : emB got sp ms z = emC got sp got.length (ms ++ [z]) := by unfold emB; rw [if_pos h]
theorem emB_1 (h : (z.length : Int) ≠ 0) (k : Txt.endswith got z = true) : emB got sp ms z = emC got sp (got.length - z.length) ms := by unfold emB; rw [if_neg h, if_pos k]
theorem emB_2 (h : (z.length : Int) ≠ 0) (k : Txt.endswith got z = false) : emB got sp ms z = false := by unfold emB; rw [if_neg h, k]; rfl
theorem emC_0 (h : ep < sp) : emC got sp ep ms = false := by unfold emC; rw [if_pos h]
theorem emC_1 (h : ¬ ep < sp) : emC got sp ep ms = emGo got ep sp ms := by unfold emC; rw [if_neg h]
theorem emGo_0 (h : find4 got w sp ep < 0) : emGo got ep sp (w :: ms) = false := by unfold emGo; rw [if_pos h]
theorem emGo_1 (h : ¬ find4 got w sp ep < 0) : emGo got ep sp (w :: ms) = emGo got ep (find4 got w sp ep + w.length) ms := by rw [emGo]; rw [if_neg h]
end
end
end Mine
namespace Mine
section
local macro_rules | `(tactic| walk_at "call builtin:str.split") => `(tactic| (k_here; (with_reducible show wpAny _ _ (call (Value.builtin "str.split") _) _ _ _); (refine KSpl.split1 (by k_asm) (by k_asm) (by decide) ?_ (by size_fits)); (intro D' l' h' k' e' a' F' N' l1); (try k_lt l1); (with_reducible rename (Txt.split _ _ = _) => hsp); (rw [hsp] at e'); (kspl_open e'); (simp only [strValues, List.map_cons, List.map_nil] at N' a')))
local macro_rules | `(tactic| walk_at "call builtin:str.find") => `(tactic| ((with_reducible show wpAny _ _ (call (Value.builtin "str.find") [_, _, _, _]) _ _ _); refine call_find4 ?_))
local macro_rules | `(tactic| walk_at "pyIter ref") => `(tactic| ((with_reducible show wpAny _ _ (pyIter (Value.ref _)) (fun it s₂ => LoopAtV _ _ _ _ _ _ _ _ _ it s₂) _ _); k_listUnr))
local macro_rules | `(tactic| walk_at "truthy str") => `(tactic| ((with_reducible show wpAny _ _ (PySem.truthy (Value.str _ _)) _ _ _); (refine KXt.truthy rfl (by omega) ?_); intro _))
set_option maxHeartbeats 8000000 in
theorem ct_match2 {w : World} {dp un : Nat} {fr : Option (List Env)} {gd : Option (List Code)} {E : Value → Shared → Prop} {s : Shared} {want got : Str} {t1 t2 : Tok} {w0 w1 : Str} (O : Ok w s.heap) (hr : dp < recursionLimit)
  (h1 : want.length ≤ 1000) (h2 : got.length ≤ 1000) (hin : (Builtin.Str.occurrences want (Str.ofString "...") 0 want.length 1).isEmpty = false) (hs : Txt.split want (Str.ofString "...") = [w0, w1])
  (g0 : w0.length ≤ 1000) (g1 : w1.length ≤ 1000) :
    wpAny (model PySem.Challenge.rw_pg0085_01.row.prog w) ⟨none, dp, fr, gd, un⟩ (call (.ref 21) [.str want t1, .str got t2]) (Ret s (fun v => v = .bool (em w0 [] w1 got))) E s := by
  w_top off
  have X0 := (O).x
  revert X0
  k_fill
  intro X0
  refine' enter O ?k6 ?k7 ?k8 ?k9 ?kB ?_ ?c2 ?c3 ?c4 ?c5
  case k6 => k_is
  case k7 => k_is
  case k8 => exact hr
  case k9 => exact BindsTo.of_eq rfl
  case kB => exact locs rfl
  case c2 => exact rfl
  case c3 => exact rfl
  case c4 => exact rfl
  case c5 => decide
  intro L' h' mean mg mb F' N' X' T'
  clear X0
  (try dsimp only)
  (try k_fold)
  k_steps
  all_goals (try dsimp only)
  all_goals (refine Ret.of (by assumption) ?_ rfl)
  all_goals (refine congrArg Value.bool (Eq.symm ?_))
  all_goals (first | (refine (em_a0 ?_).trans ?_; (· assumption)) | (refine (em_a1 ?_ ?_).trans ?_; (· assumption); (· assumption)) | exact em_a2 (by assumption) (by assumption))
  all_goals (first | (refine (emB_0 ?_).trans ?_; (· assumption)) | (refine (emB_1 ?_ ?_).trans ?_; (· assumption); (· assumption)) | exact emB_2 (by assumption) (by assumption))
  all_goals (first | exact emC_0 (by assumption) | (refine (emC_1 ?_).trans ?_; (· first | assumption | omega)))
  all_goals repeat (first | exact rfl | exact emGo_0 (by assumption) | (refine (emGo_1 ?_).trans ?_; (· assumption)))
set_option maxHeartbeats 8000000 in
theorem ct_match4 {w : World} {dp un : Nat} {fr : Option (List Env)} {gd : Option (List Code)} {E : Value → Shared → Prop} {s : Shared} {want got : Str} {t1 t2 : Tok} {w0 w1 w2 w3 : Str} (O : Ok w s.heap) (hr : dp < recursionLimit)
  (h1 : want.length ≤ 1000) (h2 : got.length ≤ 1000) (hin : (Builtin.Str.occurrences want (Str.ofString "...") 0 want.length 1).isEmpty = false) (hs : Txt.split want (Str.ofString "...") = [w0, w1, w2, w3])
  (g0 : w0.length ≤ 1000) (g1 : w1.length ≤ 1000) (g2 : w2.length ≤ 1000) (g3 : w3.length ≤ 1000) :
    wpAny (model PySem.Challenge.rw_pg0085_01.row.prog w) ⟨none, dp, fr, gd, un⟩ (call (.ref 21) [.str want t1, .str got t2]) (Ret s (fun v => v = .bool (em w0 [w1, w2] w3 got))) E s := by
  w_top off
  have X0 := (O).x
  revert X0
  k_fill
  intro X0
  refine' enter O ?k6 ?k7 ?k8 ?k9 ?kB ?_ ?c2 ?c3 ?c4 ?c5
  case k6 => k_is
  case k7 => k_is
  case k8 => exact hr
  case k9 => exact BindsTo.of_eq rfl
  case kB => exact locs rfl
  case c2 => exact rfl
  case c3 => exact rfl
  case c4 => exact rfl
  case c5 => decide
  intro L' h' mean mg mb F' N' X' T'
  clear X0
  (try dsimp only)
  (try k_fold)
  k_steps
  all_goals (try dsimp only)
  all_goals (refine Ret.of (by assumption) ?_ rfl)
  all_goals (refine congrArg Value.bool (Eq.symm ?_))
  all_goals (first | (refine (em_a0 ?_).trans ?_; (· assumption)) | (refine (em_a1 ?_ ?_).trans ?_; (· assumption); (· assumption)) | exact em_a2 (by assumption) (by assumption))
  all_goals (first | (refine (emB_0 ?_).trans ?_; (· assumption)) | (refine (emB_1 ?_ ?_).trans ?_; (· assumption); (· assumption)) | exact emB_2 (by assumption) (by assumption))
  all_goals (first | exact emC_0 (by assumption) | (refine (emC_1 ?_).trans ?_; (· first | assumption | omega)))
  all_goals repeat (first | exact rfl | exact emGo_0 (by assumption) | (refine (emGo_1 ?_).trans ?_; (· assumption)))
end
end Mine
namespace Mine
section
namespace HA
theorem lk_getitem : typeLookup (.type "str") "__getitem__" = pure (some (.builtin "str.__getitem__")) := F.slot_str_getitem.lookup
theorem ty_getitem : typeOf (.builtin "str.__getitem__") = pure (.type "wrapper_descriptor") := by show builtinType _ = _; rw [builtinType_eq_fast]; kernel_rfl
theorem slot_get : Slot "wrapper_descriptor" "__get__" "wrapper_descriptor.__get__" :=
  .of (owner := "wrapper_descriptor") (n := "__get__") (by rw [typeLookup_type, builtinLookup_eq_fast]; kernel_rfl) (by decide +kernel) (by decide +kernel) (by decide +kernel)
    (by first | exact .inl (by decide +kernel) | exact .inr (by decide +kernel)) (by rw [isSubtype_type]; kernel_rfl)
theorem lk_set : typeLookup (.type "wrapper_descriptor") "__set__" = pure none := by rw [typeLookup_type, builtinLookup_eq_fast]; kernel_rfl
theorem lk_delete : typeLookup (.type "wrapper_descriptor") "__delete__" = pure none := by rw [typeLookup_type, builtinLookup_eq_fast]; kernel_rfl
theorem entry_get : entryFor table "wrapper_descriptor.__get__" = some Builtin.«wrapper_descriptor.__get__» := entryFor_of_tree (by kernel_rfl)
theorem args_get (a b c : Value) : argsOk "wrapper_descriptor.__get__" ⟨[a, b, c], []⟩ := by unfold argsOk; kernel_rfl
theorem kind_hasattr : builtinKind "hasattr" = none := by decide +kernel
theorem plain_hasattr : plainId "hasattr" = true := by decide +kernel
theorem entry_hasattr : entryFor table "hasattr" = some Builtin.«hasattr» := entryFor_of_tree (by kernel_rfl)
theorem args_hasattr_2 (a b : Value) : argsOk "hasattr" ⟨[a, b], []⟩ := by unfold argsOk; kernel_rfl
theorem owner : (".".intercalate ("str.__getitem__".cutAt '.').dropLast) = "str" := by
  have e0 : "str.__getitem__".cutAt '.' = ["str", "__getitem__"] := by first | rfl | decide +kernel
  rw [e0]; decide +kernel
theorem sub_owner : isSubtype (.type "str") (.type (".".intercalate ("str.__getitem__".cutAt '.').dropLast)) = pure true := by
  rw [owner, isSubtype_type]; kernel_rfl
end HA
section
variable {prog : Program} {w : World} {A : Around} {E : Value → Shared → Prop} {h : Heap} {g : Array GenState} {d : Drawn} {t : Nat} {os : OsState} {x : Str} {u tk : Tok}
theorem get_wrapper {R : Result → Shared → Prop} (hq : R (.ok (.ret (.ref h.objs.size))) ⟨h.push { cls := .type "method-wrapper", data := .fields #[.builtin "str.__getitem__", .str x u] }, g, d, t, os⟩) :
    codeAny (model prog w) A (.call (.builtin "wrapper_descriptor.__get__") ⟨[.builtin "str.__getitem__", .str x u, .type "str"], []⟩) R ⟨h, g, d, t, os⟩ := by
  have hT : (⟨h, g, d, t, os⟩ : Shared).TypeIs (.str x u) "str" := rfl
  have hT5 : (⟨h, g, d, t, os⟩ : Shared).TypeIs (.builtin "str.__getitem__") "wrapper_descriptor" := HA.ty_getitem
  refine codeAny_call_builtin HA.slot_get.plain HA.entry_get (HA.slot_get.check _ _ _ _ _ _ _ _ hT5 (HA.args_get _ _ _) ?_)
  have f8 := HA.sub_owner
  repeat (any_goals (first | assumption | wp_step))
theorem entry_getattr {Q : Fin → Shared → Prop} (hq : Q (.done (.ret (.ref h.objs.size))) ⟨h.push { cls := .type "method-wrapper", data := .fields #[.builtin "str.__getitem__", .str x u] }, g, d, t, os⟩) :
    wpAny (model prog w) A (Builtin.«object.__getattribute__» ⟨[.str x u, .str "__getitem__" tk], []⟩) Q E ⟨h, g, d, t, os⟩ := by
  have hT : (⟨h, g, d, t, os⟩ : Shared).TypeIs (.str x u) "str" := rfl
  have hT5 : (⟨h, g, d, t, os⟩ : Shared).TypeIs (.builtin "str.__getitem__") "wrapper_descriptor" := HA.ty_getitem
  have f4 := HA.lk_getitem
  have f5 := HA.ty_getitem
  have f6 := HA.slot_get.lookup
  have f7 := HA.lk_set
  have f8 := HA.lk_delete
  repeat (any_goals (first | assumption | wp_step))
  refine get_wrapper ?_
  repeat (any_goals (first | assumption | wp_step))
theorem call_getattr {R : Result → Shared → Prop} (hq : R (.ok (.ret (.ref h.objs.size))) ⟨h.push { cls := .type "method-wrapper", data := .fields #[.builtin "str.__getitem__", .str x u] }, g, d, t, os⟩) :
    codeAny (model prog w) A (.call (.builtin "object.__getattribute__") ⟨[.str x u, .str "__getitem__" tk], []⟩) R ⟨h, g, d, t, os⟩ :=
  codeAny_call_builtin F.slot_str_getattribute.plain F.entry_object_getattribute (F.slot_str_getattribute.check _ _ _ _ _ _ _ _ (show (⟨h, g, d, t, os⟩ : Shared).TypeIs (.str x u) "str" from rfl) (F.args_object_getattribute_2 _ _) (entry_getattr hq))
theorem by_getattr {Q : Value → Shared → Prop} (hq : Q (.ref h.objs.size) ⟨h.push { cls := .type "method-wrapper", data := .fields #[.builtin "str.__getitem__", .str x u] }, g, d, t, os⟩) :
    wpAny (model prog w) A (getAttrBy (.str x u) (.str "__getitem__" tk) false) Q E ⟨h, g, d, t, os⟩ := by
  have hT : (⟨h, g, d, t, os⟩ : Shared).TypeIs (.str x u) "str" := rfl
  have f2 := F.slot_str_getattribute.lookup
  have f3 := F.slot_str_getattribute.bind (.str x u)
  repeat (any_goals (first | assumption | wp_step))
  refine call_getattr ?_
  repeat (any_goals (first | assumption | wp_step))
theorem call_hasattr {s : Shared} {Q : Value → Shared → Prop} (hq : Q (.bool true) { s with heap := s.heap.push { cls := .type "method-wrapper", data := .fields #[.builtin "str.__getitem__", .str x u] } }) :
    wpAny (model prog w) A (call (.builtin "hasattr") [.str x u, .str "__getitem__" tk]) Q E s := by
  obtain ⟨h, g, d, t, os⟩ := s
  have hT : (⟨h, g, d, t, os⟩ : Shared).TypeIs (.str x u) "str" := rfl
  have f2 := F.slot_str_getattribute.lookup
  have f4 := HA.lk_getitem
  refine Calls.call_function_entry HA.kind_hasattr HA.plain_hasattr HA.entry_hasattr (HA.args_hasattr_2 _ _) ?_
  unfold Builtin.«hasattr»
  refine wpAny_bind (wpAny_of_eq (a := [.str x u, .str "__getitem__" tk]) (by first | rfl | kernel_rfl) ?_)
  dsimp only
  refine wpAny_bind (wpAny_of_eq (a := ()) (by first | rfl | kernel_rfl) ?_)
  refine wpAny_ite_false rfl ?_
  refine wpAny_bind (wpAny_of_eq (a := .type "str") (by first | rfl | kernel_rfl) ?_)
  dsimp only
  refine wpAny_bind (wpAny_of_eq (a := some (Str.ofString "__getitem__")) (by first | rfl | kernel_rfl) ?_)
  dsimp only
  refine wpAny_bind (wpAny_of_eq f4 ?_)
  dsimp only
  refine wpAny_bind (wpAny_of_eq f2 ?_)
  refine wpAny_ite_false (by decide +kernel) ?_
  refine wpAny_bind (wpAny_of_eq (a := 0) (by first | rfl | kernel_rfl) ?_)
  refine wpAny_ite_false (by decide +kernel) ?_
  refine wpAny_bind ?_
  unfold getAttrBy?
  refine wpAny_bind (wpAny_attempt (by_getattr ?_))
  refine wpAny_pure ?_
  exact wpAny_pure ⟨_, rfl, hq⟩
/-- concat's test: a text has __getitem__ -/
theorem hasattr_K {s : Shared} {h₀ : Heap} {L : Addr} {m : Str → Option Value} {news : List (Addr × Obj)} {Q : Value → Shared → Prop} (F : Fr h₀ L s.heap m) (N : News h₀ L s.heap news)
    (hq : ∀ h', Fr h₀ L h' m → News h₀ L h' news → Q (.bool true) { s with heap := h' }) :
    wpAny (model prog w) A (call (.builtin "hasattr") [.str x u, .str "__getitem__" tk]) Q E s :=
  call_hasattr (hq _ (F.push _) fun p hp => N.push F _ rfl p (List.mem_cons_of_mem _ hp))
end
end
end Mine
namespace Mine
section
local macro_rules | `(tactic| walk_at "call builtin:hasattr") => `(tactic| (k_here; k_dflt (refine' hasattr_K ?k1 ?k2 ?_; (case k1 => k_asm); (case k2 => k_asm); k_whole); intro h' F' N'; (try k_sweep)))
set_option maxHeartbeats 8000000 in
theorem ct_concat {w : World} {dp un : Nat} {fr : Option (List Env)} {gd : Option (List Code)} {E : Value → Shared → Prop} {s : Shared} {a b : Str} {t1 t2 : Tok} (O : Ok w s.heap) (hr : dp < recursionLimit)
  (h1 : a.length ≤ 1000) (h2 : b.length ≤ 1000) :
    wpAny (model PySem.Challenge.rw_pg0085_01.row.prog w) ⟨none, dp, fr, gd, un⟩ (call (.ref 77) [.str a t1, .str b t2]) (Ret s (fun v => ∃ t, v = .str (a ++ b) t)) E s := by
  w_top off
  have X0 := (O).x
  revert X0
  k_fill
  intro X0
  refine' enter O ?k6 ?k7 ?k8 ?k9 ?kB ?_ ?c2 ?c3 ?c4 ?c5
  case k6 => k_is
  case k7 => k_is
  case k8 => exact hr
  case k9 => exact BindsTo.of_eq rfl
  case kB => exact locs rfl
  case c2 => exact rfl
  case c3 => exact rfl
  case c4 => exact rfl
  case c5 => decide
  intro L' h' mean mg mb F' N' X' T'
  clear X0
  (try dsimp only)
  (try k_fold)
  k_steps
  all_goals (try dsimp only)
  all_goals (exact Ret.of (by assumption) ⟨_, rfl⟩ rfl)
end
end Mine
namespace Mine
section
section
variable {w : World} {A : Around} {s : Shared} {E : Value → Shared → Prop} {Q : Value → Shared → Prop} {h₀ : Heap} {L : Addr} {m : Str → Option Value} {news : List (Addr × Obj)} {mean : ExcName → Option Value} {mg mb : Str → Option Value}
theorem Ok.of (F : Fr h₀ L s.heap m) (X : (hd.heap_39 w.params).In h₀) (T : Top hd.view_39 (looseW hd.view_39 []) mean mg mb h₀) : Ok w s.heap :=
  ⟨X.keeps F.keep, mean, mg, mb, T.keeps F.keep⟩
theorem Fr.on {s' : Shared} (F : Fr h₀ L s.heap m) (k : Keeps s s') : Fr h₀ L s'.heap m := by
  obtain ⟨h', tk, rfl, k⟩ := k
  exact ⟨F.ns.keeps k, fun b o e => k b o (F.keep b o e), F.above⟩
theorem News.on {s' : Shared} (N : News h₀ L s.heap news) (k : Keeps s s') : News h₀ L s'.heap news := by
  obtain ⟨h', tk, rfl, k⟩ := k
  exact fun p hp => ⟨k _ _ (N p hp).1, (N p hp).2⟩
theorem use {f : Addr} {vs : List Value} {P : Value → Prop} {prog : Program} (F : Fr h₀ L s.heap m) (N : News h₀ L s.heap news) (ct : wpAny (model prog w) A (call (.ref f) vs) (Ret s P) E s)
    (h : ∀ v h' tk, P v → Fr h₀ L h' m → News h₀ L h' news → Q v { s with heap := h', toks := tk }) : wpAny (model prog w) A (call (.ref f) vs) Q E s :=
  wpAny_mono ct (fun v s' r => by
    obtain ⟨p, h', tk, rfl, k⟩ := r
    exact h v h' tk p (Fr.on F ⟨h', tk, rfl, k⟩) (News.on N ⟨h', tk, rfl, k⟩)) fun _ _ e => e
theorem use_concat {a b : Str} {t1 t2 : Tok} (F : Fr h₀ L s.heap m) (N : News h₀ L s.heap news) (X : (hd.heap_39 w.params).In h₀) (T : Top hd.view_39 (looseW hd.view_39 []) mean mg mb h₀)
    (hA : A.handled = none) (hr : A.depth < recursionLimit) (h1 : a.length ≤ 1000) (h2 : b.length ≤ 1000)
    (h : ∀ t h' tk, Fr h₀ L h' m → News h₀ L h' news → Q (.str (a ++ b) t) { s with heap := h', toks := tk }) :
    wpAny (model PySem.Challenge.rw_pg0085_01.row.prog w) A (call (.ref 77) [.str a t1, .str b t2]) Q E s := by
  obtain ⟨hh, dp, fr, gd, un⟩ := A
  cases hA
  refine use F N (ct_concat (Ok.of F X T) hr h1 h2) ?_
  rintro v h' tk ⟨t, rfl⟩ F' N'
  exact h t h' tk F' N'
end
end
end Mine
namespace Mine
section
/-- all signs of x are signs of ls -/
def Over (ls x : Str) : Prop := ∀ c ∈ x.cps, c ∈ ls.cps
theorem Over.nil {ls : Str} : Over ls (Str.ofString "") := by
  intro c hc
  have : (Str.ofString "").cps = #[] := by decide +kernel
  rw [this] at hc
  simp at hc
theorem Over.app {ls x y : Str} (h : Over ls x) (k : Over ls y) : Over ls (x ++ y) := by
  intro c hc
  rw [Str.cps_append] at hc
  rcases Array.mem_append.mp hc with q | q
  · exact h c q
  · exact k c q
section
variable {prog : Program} {w : World} {A : Around} {E : Value → Shared → Prop} {s : Shared} {Q : Value → Shared → Prop} {value slice : PySem.Expr} {h₀ : Heap} {L : Addr} {m : Str → Option Value}
theorem item_tup4 {t : Addr} {l : List Value} {n : Int} {u : Tok} {x : Value} (F : Fr h₀ L s.heap m) (ht : IsTup h₀ t l.toArray) (h4 : l.length = 4) (hit : l[(n.fmod 4).toNat]? = some x) (h : Q x s)
    (hs : subscripted slice false (.ref t) (.int (n.fmod 4) u) = operate [.ref t, .int (n.fmod 4) u] (getItem (.ref t) (.int (n.fmod 4) u)) := by with_unfolding_all rfl) :
    wpAny (model prog w) A (subscriptTail value slice (.ref t) (.int (n.fmod 4) u)) Q E s := by
  have h0 : 0 ≤ n.fmod 4 := Int.fmod_nonneg_of_pos _ (by decide)
  have h1 : n.fmod 4 < 4 := Int.fmod_lt_of_pos _ (by decide)
  refine item_tupleT (j := (n.fmod 4).toNat) (ht.keeps F.keep) (by omega) (by omega) ?_ hit h hs
  unfold seqIndex?
  rw [h4]
  simp
  omega
theorem item_ls {x : Str} {t u : Tok} {r : Int} (hl : 1 ≤ x.length) (hl2 : x.length ≤ 1000) (h : ∀ y t' k, y.length = 1 → Over x y → Q (.str y t') { s with toks := k })
    (hs : subscripted slice false (.str x t) (.int (r.fmod x.length) u) = operate [.str x t, .int (r.fmod x.length) u] (getItem (.str x t) (.int (r.fmod x.length) u)) := by with_unfolding_all rfl)
    (ht : ∀ r, letTemporaryGo value (.str x t) r = pure () := by intro _; with_unfolding_all rfl) :
    wpAny (model prog w) A (subscriptTail value slice (.str x t) (.int (r.fmod x.length) u)) Q E s := by
  have h0 : 0 ≤ r.fmod x.length := Int.fmod_nonneg_of_pos _ (by omega)
  have h1 : r.fmod x.length < x.length := Int.fmod_lt_of_pos _ (by omega)
  have h1' : -(x.length : Int) ≤ r.fmod x.length := by omega
  refine item_str (fitsSsize_of (N := 9223372036854775808) (by omega) (by omega) (Int.le_refl _)) (by omega) h1 (fun e => h _ _ _ (by omega) ?_) hs ht
  intro c hc
  have e := charAt_isSome h1' h1
  simp only [Txt.item, List.mem_toArray, List.mem_singleton] at hc
  obtain ⟨d, hd⟩ := Option.isSome_iff_exists.mp e
  rw [hd] at hc
  simp only [Option.getD_some] at hc
  subst hc
  unfold Txt.charAt at hd
  simp only [Option.bind_eq_some_iff] at hd
  obtain ⟨a, _, ha⟩ := hd
  exact Array.mem_of_getElem? ha
end
theorem len_nil : (Str.ofString "").length = 0 := by decide +kernel
theorem use_concatZ {w : World} {A : Around} {s : Shared} {E : Value → Shared → Prop} {Q : Value → Shared → Prop} {h₀ : Heap} {L : Addr} {m : Str → Option Value} {news : List (Addr × Obj)} {mean : ExcName → Option Value} {mg mb : Str → Option Value} {ls a b : Str} {t1 t2 : Tok} {n : Nat}
    (F : Fr h₀ L s.heap m) (N : News h₀ L s.heap news) (X : (hd.heap_39 w.params).In h₀) (T : Top hd.view_39 (looseW hd.view_39 []) mean mg mb h₀)
    (hA : A.handled = none) (hr : A.depth < recursionLimit) (hb : b.length = 1) (ob : Over ls b) (ha : a.length = n) (oa : Over ls a) (hn : n ≤ 900)
    (h : ∀ z t h' tk, z.length = n + 1 → Over ls z → Fr h₀ L h' m → News h₀ L h' news → Q (.str z t) { s with heap := h', toks := tk }) :
    wpAny (model PySem.Challenge.rw_pg0085_01.row.prog w) A (call (.ref 77) [.str a t1, .str b t2]) Q E s :=
  use_concat F N X T hA hr (by omega) (by omega) fun t h' tk F' N' => h _ t h' tk (by rw [Str.length_append]; omega) (oa.app ob) F' N'
local macro_rules | `(tactic| walk_at "call ref") => `(tactic| ((with_reducible show wpAny _ _ (call (Value.ref 77) [Value.str _ _, Value.str _ _]) _ _ _); k_dflt (refine' use_concatZ ?k1 ?k2 ?k3 ?k4 ?k5 ?k6 ?k7 ?k8 ?k9 ?j1 ?j2 ?_; (case k1 => k_asm); (case k2 => k_asm); (case k3 => k_asm); (case k4 => k_asm); (case k5 => exact rfl); (case k6 => (simp only [depth_deeper, depth_in1]; omega)); (case k7 => assumption); (case k8 => assumption); (case k9 => first | assumption | exact len_nil); (case j1 => first | assumption | exact Over.nil); (case j2 => decide); k_whole); intro z' t' h' tk' hz' oz' F' N'; (try k_sweep)))
local macro_rules | `(tactic| walk_at "subscriptTail") => `(tactic| ((with_reducible show wpAny _ _ (subscriptTail _ _ (Value.ref _) (Value.int (Int.fmod _ _) _)) _ _ _); k_dflt (refine' item_tup4 ?k1 ?k2 ?k3 ?k4 ?_ ?k5; (case k5 => with_unfolding_all rfl); (case k1 => k_asm); (case k2 => k_asm); (case k3 => k_asm); (case k4 => k_asm); k_whole)))
local macro_rules | `(tactic| walk_at "subscriptTail") => `(tactic| ((with_reducible show wpAny _ _ (subscriptTail _ _ (Value.str _ _) (Value.int (Int.fmod _ _) _)) _ _ _); k_dflt (refine' item_ls ?k1 ?k2 ?_ ?k4 ?k5; (case k4 => with_unfolding_all rfl); (case k5 => intro _; with_unfolding_all rfl); (case k1 => omega); (case k2 => omega); k_whole); intro y' t' k' hy' hy2'; (try k_sweep)))
set_option maxHeartbeats 8000000 in
theorem ct_word0 {w : World} {dp un : Nat} {fr : Option (List Env)} {gd : Option (List Code)} {E : Value → Shared → Prop} {s : Shared} {n : Int} {tn : Tok} {ax : Addr} {tz : Tok} {l : List Value} {ls : Str} {tl : Tok}
    (O : Ok w s.heap) (hr : dp + 2 < recursionLimit) (hn : 0 ≤ n) (hn2 : n < 1000000) (hl : 2 ≤ ls.length) (hl2 : ls.length ≤ 3)
    (ht : IsTup s.heap ax l.toArray) (h4 : l.length = 4) (hit : l[(n.fmod 4).toNat]? = some (.int 0 tz)) :
    wpAny (model PySem.Challenge.rw_pg0085_01.row.prog w) ⟨none, dp, fr, gd, un⟩ (call (.ref 91) [.int n tn, .ref ax, .str ls tl]) (Ret s (fun v => ∃ x t, v = .str x t ∧ x.length = 0 ∧ Over ls x)) E s := by
  have hr' : dp < recursionLimit := by omega
  w_top off
  have X0 := (O).x
  revert X0
  k_fill
  intro X0
  refine' enter O ?k6 ?k7 ?k8 ?k9 ?kB ?_ ?c2 ?c3 ?c4 ?c5
  case k6 => k_is
  case k7 => k_is
  case k8 => exact hr'
  case k9 => exact BindsTo.of_eq rfl
  case kB => exact locs rfl
  case c2 => exact rfl
  case c3 => exact rfl
  case c4 => exact rfl
  case c5 => decide
  intro L' h' mean mg mb F' N' X' T'
  clear X0
  (try dsimp only)
  (try k_fold)
  k_steps
  all_goals (try dsimp only)
  all_goals (exact Ret.of (by assumption) ⟨_, _, rfl, (by first | assumption | exact len_nil), (by first | assumption | exact Over.nil)⟩ rfl)
set_option maxHeartbeats 8000000 in
theorem ct_word1 {w : World} {dp un : Nat} {fr : Option (List Env)} {gd : Option (List Code)} {E : Value → Shared → Prop} {s : Shared} {n : Int} {tn : Tok} {ax : Addr} {tz : Tok} {l : List Value} {ls : Str} {tl : Tok}
    (O : Ok w s.heap) (hr : dp + 2 < recursionLimit) (hn : 0 ≤ n) (hn2 : n < 1000000) (hl : 2 ≤ ls.length) (hl2 : ls.length ≤ 3)
    (ht : IsTup s.heap ax l.toArray) (h4 : l.length = 4) (hit : l[(n.fmod 4).toNat]? = some (.int 1 tz)) :
    wpAny (model PySem.Challenge.rw_pg0085_01.row.prog w) ⟨none, dp, fr, gd, un⟩ (call (.ref 91) [.int n tn, .ref ax, .str ls tl]) (Ret s (fun v => ∃ x t, v = .str x t ∧ x.length = 1 ∧ Over ls x)) E s := by
  have hr' : dp < recursionLimit := by omega
  w_top off
  have X0 := (O).x
  revert X0
  k_fill
  intro X0
  refine' enter O ?k6 ?k7 ?k8 ?k9 ?kB ?_ ?c2 ?c3 ?c4 ?c5
  case k6 => k_is
  case k7 => k_is
  case k8 => exact hr'
  case k9 => exact BindsTo.of_eq rfl
  case kB => exact locs rfl
  case c2 => exact rfl
  case c3 => exact rfl
  case c4 => exact rfl
  case c5 => decide
  intro L' h' mean mg mb F' N' X' T'
  clear X0
  (try dsimp only)
  (try k_fold)
  k_steps
  all_goals (try dsimp only)
  all_goals (exact Ret.of (by assumption) ⟨_, _, rfl, (by first | assumption | exact len_nil), (by first | assumption | exact Over.nil)⟩ rfl)
set_option maxHeartbeats 8000000 in
theorem ct_word2 {w : World} {dp un : Nat} {fr : Option (List Env)} {gd : Option (List Code)} {E : Value → Shared → Prop} {s : Shared} {n : Int} {tn : Tok} {ax : Addr} {tz : Tok} {l : List Value} {ls : Str} {tl : Tok}
    (O : Ok w s.heap) (hr : dp + 2 < recursionLimit) (hn : 0 ≤ n) (hn2 : n < 1000000) (hl : 2 ≤ ls.length) (hl2 : ls.length ≤ 3)
    (ht : IsTup s.heap ax l.toArray) (h4 : l.length = 4) (hit : l[(n.fmod 4).toNat]? = some (.int 2 tz)) :
    wpAny (model PySem.Challenge.rw_pg0085_01.row.prog w) ⟨none, dp, fr, gd, un⟩ (call (.ref 91) [.int n tn, .ref ax, .str ls tl]) (Ret s (fun v => ∃ x t, v = .str x t ∧ x.length = 2 ∧ Over ls x)) E s := by
  have hr' : dp < recursionLimit := by omega
  w_top off
  have X0 := (O).x
  revert X0
  k_fill
  intro X0
  refine' enter O ?k6 ?k7 ?k8 ?k9 ?kB ?_ ?c2 ?c3 ?c4 ?c5
  case k6 => k_is
  case k7 => k_is
  case k8 => exact hr'
  case k9 => exact BindsTo.of_eq rfl
  case kB => exact locs rfl
  case c2 => exact rfl
  case c3 => exact rfl
  case c4 => exact rfl
  case c5 => decide
  intro L' h' mean mg mb F' N' X' T'
  clear X0
  (try dsimp only)
  (try k_fold)
  k_steps
  all_goals (try dsimp only)
  all_goals (exact Ret.of (by assumption) ⟨_, _, rfl, (by first | assumption | exact len_nil), (by first | assumption | exact Over.nil)⟩ rfl)
set_option maxHeartbeats 8000000 in
theorem ct_word3 {w : World} {dp un : Nat} {fr : Option (List Env)} {gd : Option (List Code)} {E : Value → Shared → Prop} {s : Shared} {n : Int} {tn : Tok} {ax : Addr} {tz : Tok} {l : List Value} {ls : Str} {tl : Tok}
    (O : Ok w s.heap) (hr : dp + 2 < recursionLimit) (hn : 0 ≤ n) (hn2 : n < 1000000) (hl : 2 ≤ ls.length) (hl2 : ls.length ≤ 3)
    (ht : IsTup s.heap ax l.toArray) (h4 : l.length = 4) (hit : l[(n.fmod 4).toNat]? = some (.int 3 tz)) :
    wpAny (model PySem.Challenge.rw_pg0085_01.row.prog w) ⟨none, dp, fr, gd, un⟩ (call (.ref 91) [.int n tn, .ref ax, .str ls tl]) (Ret s (fun v => ∃ x t, v = .str x t ∧ x.length = 3 ∧ Over ls x)) E s := by
  have hr' : dp < recursionLimit := by omega
  w_top off
  have X0 := (O).x
  revert X0
  k_fill
  intro X0
  refine' enter O ?k6 ?k7 ?k8 ?k9 ?kB ?_ ?c2 ?c3 ?c4 ?c5
  case k6 => k_is
  case k7 => k_is
  case k8 => exact hr'
  case k9 => exact BindsTo.of_eq rfl
  case kB => exact locs rfl
  case c2 => exact rfl
  case c3 => exact rfl
  case c4 => exact rfl
  case c5 => decide
  intro L' h' mean mg mb F' N' X' T'
  clear X0
  (try dsimp only)
  (try k_fold)
  k_steps
  all_goals (try dsimp only)
  all_goals (exact Ret.of (by assumption) ⟨_, _, rfl, (by first | assumption | exact len_nil), (by first | assumption | exact Over.nil)⟩ rfl)
/-- _law_word: a word of so many signs as the table says, all of them letters -/
theorem ct_word {w : World} {A : Around} {E : Value → Shared → Prop} {s : Shared} {n : Int} {tn : Tok} {ax : Addr} {tz : Tok} {l : List Value} {ls : Str} {tl : Tok} {k : Nat}
    (O : Ok w s.heap) (hA : A.handled = none) (hr : A.depth + 2 < recursionLimit) (hn : 0 ≤ n) (hn2 : n < 1000000) (hl : 2 ≤ ls.length) (hl2 : ls.length ≤ 3)
    (ht : IsTup s.heap ax l.toArray) (h4 : l.length = 4) (hit : l[(n.fmod 4).toNat]? = some (.int (k : Nat) tz)) (hk : k ≤ 3) :
    wpAny (model PySem.Challenge.rw_pg0085_01.row.prog w) A (call (.ref 91) [.int n tn, .ref ax, .str ls tl]) (Ret s (fun v => ∃ x t, v = .str x t ∧ x.length = k ∧ Over ls x)) E s := by
  obtain ⟨hh, dp, fr, gd, un⟩ := A
  cases hA
  match k, hk with
  | 0, _ => exact ct_word0 O hr hn hn2 hl hl2 ht h4 hit
  | 1, _ => exact ct_word1 O hr hn hn2 hl hl2 ht h4 hit
  | 2, _ => exact ct_word2 O hr hn hn2 hl hl2 ht h4 hit
  | 3, _ => exact ct_word3 O hr hn hn2 hl hl2 ht h4 hit
end
end Mine
namespace Mine
section
open PySem.StrLaws PySem.Builtin PySem.Builtin.Str
/-- a text's signs -/
abbrev Lx (x : Str) : List Nat := x.cps.toList
theorem Lx_len (x : Str) : (Lx x).length = x.length := by simp [Lx, Str.length]
theorem at_iff (x y : Str) (hi i : Nat) : At x y hi i ↔ i + y.length ≤ hi ∧ ((Lx x).drop i).take y.length = Lx y := by
  unfold At
  rw [subAt_eq]
  simp [Lx]
theorem fromIndex_nat (n i : Nat) : fromIndex n (i : Int) = i := by
  unfold fromIndex
  rw [if_neg (by omega)]
  omega
theorem find4_spec (x y : Str) (lo hi : Nat) (hh : hi ≤ x.length) :
    (find4 x y lo hi = -1 ∧ ∀ i, lo ≤ i → ¬ At x y hi i) ∨ ∃ i : Nat, find4 x y lo hi = (i : Int) ∧ lo ≤ i ∧ At x y hi i ∧ ∀ k, lo ≤ k → k < i → ¬ At x y hi k := by
  unfold find4
  rw [fromIndex_nat, fromIndex_nat, Nat.min_eq_left hh, occ_eq]
  rcases occ_first x y hi 1 (Nat.le_refl _) (List.range' lo (hi + 1 - lo)) lo (fun i hi' => by have := List.mem_range'_1.mp hi'; omega) with ⟨h0, hn⟩ | ⟨pre, a, post, e, h0, ha, hn⟩
  · left
    rw [h0]
    exact ⟨rfl, fun i hlo hA => hn i (by have := hA.1; rw [List.mem_range'_1]; omega) hA⟩
  · right
    have hs := range'_split_from e
    refine ⟨a, ?_, hs.1, ha, fun k hk0 hk => hn k (hs.2 k hk0 hk)⟩
    generalize (forIn (List.range' lo (hi + 1 - lo)) ((#[] : Array Nat), lo) (occBody x y hi 1)).run.fst = arr at h0
    have h1 : arr.toList[0]? = some a := by simpa using h0
    cases hL : arr.toList with
    | nil => rw [hL] at h1; cases h1
    | cons b t => rw [hL] at h1; simp at h1; rw [h1]
/-- the parts stand in x, one behind the other -/
def Sub : List (List Nat) → List Nat → Prop
  | [], _ => True
  | w :: ws, x => ∃ a b, x = a ++ (w ++ b) ∧ Sub ws b
theorem Sub.mono {ws : List (List Nat)} {b : List Nat} (c : List Nat) (h : Sub ws b) : Sub ws (c ++ b) := by
  cases ws with
  | nil => trivial
  | cons w ws =>
    obtain ⟨a, b', rfl, h⟩ := h
    exact ⟨c ++ a, b', by simp, h⟩
theorem Sub.drop {ws : List (List Nat)} {x : List Nat} {i j : Nat} (hij : i ≤ j) (h : Sub ws (x.drop j)) : Sub ws (x.drop i) := by
  have e : x.drop i = (x.drop i).take (j - i) ++ x.drop j := by
    have := List.take_append_drop (j - i) (x.drop i)
    rw [List.drop_drop] at this
    rw [show i + (j - i) = j by omega] at this
    exact this.symm
  rw [e]
  exact h.mono _
theorem sub_nil_cons {ws : List (List Nat)} {x : List Nat} : Sub ([] :: ws) x ↔ Sub ws x := by
  constructor
  · rintro ⟨a, b, rfl, h⟩
    exact Sub.mono a h
  · intro h
    exact ⟨[], x, rfl, h⟩
theorem sub_snoc_nil : ∀ {ws : List (List Nat)} {x : List Nat}, Sub (ws ++ [[]]) x ↔ Sub ws x
  | [], x => ⟨fun _ => trivial, fun _ => ⟨[], x, rfl, trivial⟩⟩
  | w :: ws, x => by
    constructor
    · rintro ⟨a, b, rfl, h⟩
      exact ⟨a, b, rfl, sub_snoc_nil.mp h⟩
    · rintro ⟨a, b, rfl, h⟩
      exact ⟨a, b, rfl, sub_snoc_nil.mpr h⟩
/-- the piece of x between lo and hi -/
abbrev cut (x : List Nat) (lo hi : Nat) : List Nat := (x.take hi).drop lo
theorem at_cut {x y : Str} {lo hi : Nat} (hh : hi ≤ x.length) {a b : List Nat} (e : cut (Lx x) lo hi = a ++ (Lx y ++ b)) (hlo : lo ≤ hi) : At x y hi (lo + a.length) := by
  have hlx := Lx_len x
  have hly := Lx_len y
  have hlen := congrArg List.length e
  simp only [cut, List.length_drop, List.length_take, List.length_append] at hlen
  rw [at_iff]
  refine ⟨by omega, ?_⟩
  have e2 : ((Lx x).take hi).drop (lo + a.length) = Lx y ++ b := by
    rw [← List.drop_drop, show ((Lx x).take hi).drop lo = _ from e, List.drop_left]
  have e3 : ((Lx x).drop (lo + a.length)).take y.length = (((Lx x).take hi).drop (lo + a.length)).take y.length := by
    rw [List.drop_take, List.take_take]
    congr 1
    omega
  rw [e3, e2, ← hly, List.take_left]
theorem cut_at {x y : Str} {lo hi i : Nat} (hlo : lo ≤ i) (h : At x y hi i) : cut (Lx x) lo hi = (cut (Lx x) lo hi).take (i - lo) ++ (Lx y ++ cut (Lx x) (i + y.length) hi) := by
  rw [at_iff] at h
  obtain ⟨h1, h2⟩ := h
  have e1 := (List.take_append_drop (i - lo) (cut (Lx x) lo hi)).symm
  refine e1.trans ?_
  congr 1
  rw [List.drop_drop, show lo + (i - lo) = i by omega]
  have e2 := (List.take_append_drop y.length (((Lx x).take hi).drop i)).symm
  refine e2.trans ?_
  rw [List.drop_drop]
  congr 1
  rw [← h2, List.drop_take, List.take_take]
  congr 1
  omega
theorem emGo_iff (got : Str) (hi : Nat) (hh : hi ≤ got.length) : ∀ (ms : List Str) (lo : Nat), lo ≤ hi → (emGo got hi lo ms = true ↔ Sub (ms.map Lx) (cut (Lx got) lo hi))
  | [], _, _ => ⟨fun _ => trivial, fun _ => rfl⟩
  | w :: ws, lo, hlo => by
    rcases find4_spec got w lo hi hh with ⟨e, hn⟩ | ⟨i, e, hi1, hA, hmin⟩
    · rw [emGo_0 (by rw [e]; decide)]
      constructor
      · intro h; cases h
      · rintro ⟨a, b, ea, _⟩
        exact absurd (at_cut hh ea hlo) (hn _ (by omega))
    · rw [emGo_1 (by rw [e]; omega), e, show ((i : Int) + (w.length : Int)) = ((i + w.length : Nat) : Int) by omega]
      have hiw : i + w.length ≤ hi := hA.1
      rw [emGo_iff got hi hh ws (i + w.length) hiw]
      constructor
      · intro h
        exact ⟨_, _, cut_at hi1 hA, h⟩
      · rintro ⟨a, b, ea, h⟩
        have hle : i ≤ lo + a.length := by
          by_cases hc : i ≤ lo + a.length
          · exact hc
          · exact absurd (at_cut hh ea hlo) (hmin _ (by omega) (by omega))
        have eb : b = cut (Lx got) (lo + a.length + w.length) hi := by
          have e2 : ((Lx got).take hi).drop (lo + (a.length + w.length)) = b := by
            rw [← List.drop_drop, show ((Lx got).take hi).drop lo = _ from ea, ← Lx_len w, ← List.append_assoc, ← List.length_append, List.drop_left]
          rw [← e2]
          congr 1
          omega
        rw [eb] at h
        exact Sub.drop (by omega) h
theorem starts_iff (x y : Str) : Txt.startswith x y = true ↔ ∃ r, Lx x = Lx y ++ r := by
  unfold Txt.startswith
  rw [subAt_eq]
  simp only [Bool.and_eq_true, decide_eq_true_eq, beq_iff_eq, List.drop_zero]
  have hx := Lx_len x
  have hy := Lx_len y
  constructor
  · rintro ⟨h1, h2⟩
    refine ⟨(Lx x).drop y.length, ?_⟩
    rw [← show (Lx x).take y.length = Lx y from h2]
    exact (List.take_append_drop _ _).symm
  · rintro ⟨r, e⟩
    have := congrArg List.length e
    rw [List.length_append] at this
    refine ⟨by omega, ?_⟩
    show (Lx x).take y.length = Lx y
    rw [e, ← hy, List.take_left]
theorem ends_iff (x y : Str) : Txt.endswith x y = true ↔ ∃ r, Lx x = r ++ Lx y := by
  unfold Txt.endswith
  rw [subAt_eq]
  simp only [Bool.and_eq_true, decide_eq_true_eq, beq_iff_eq]
  have hx := Lx_len x
  have hy := Lx_len y
  constructor
  · rintro ⟨h1, h2⟩
    refine ⟨(Lx x).take (x.length - y.length), ?_⟩
    have e : (Lx x).drop (x.length - y.length) = Lx y := by
      rw [← show ((Lx x).drop (x.length - y.length)).take y.length = Lx y from h2]
      exact (List.take_of_length_le (by rw [List.length_drop, hx]; omega)).symm
    rw [← e]
    exact (List.take_append_drop _ _).symm
  · rintro ⟨r, e⟩
    have hl := congrArg List.length e
    rw [List.length_append] at hl
    refine ⟨by omega, ?_⟩
    show ((Lx x).drop (x.length - y.length)).take y.length = Lx y
    rw [e, show x.length - y.length = r.length by omega, List.drop_left, ← hy, List.take_length]
theorem Lx_nil_of {x : Str} (h : (x.length : Int) = 0) : Lx x = [] := List.eq_nil_of_length_eq_zero (by rw [Lx_len]; omega)
theorem emC_iff (got : Str) (sp k : Nat) (hk : k ≤ got.length) (ms : List Str) :
    emC got sp ((got.length : Int) - k) ms = true ↔ sp + k ≤ got.length ∧ Sub (ms.map Lx) (cut (Lx got) sp (got.length - k)) := by
  rw [show ((got.length : Int) - k) = ((got.length - k : Nat) : Int) by omega]
  by_cases hc : got.length - k < sp
  · rw [emC_0 (by omega)]
    constructor
    · intro h; cases h
    · rintro ⟨h, _⟩; omega
  · rw [emC_1 (by omega), emGo_iff got _ (by omega) ms sp (by omega)]
    exact ⟨fun h => ⟨by omega, h⟩, fun h => h.2⟩
theorem emB_iff (got : Str) (sp : Nat) (ms : List Str) (z : Str) :
    emB got sp ms z = true ↔ ∃ r, Lx got = r ++ Lx z ∧ sp ≤ r.length ∧ Sub (ms.map Lx) (r.drop sp) := by
  have hx := Lx_len got
  have hz := Lx_len z
  by_cases h0 : (z.length : Int) = 0
  · have ez := Lx_nil_of h0
    rw [emB_0 h0]
    have := emC_iff got sp 0 (by omega) (ms ++ [z])
    rw [show ((got.length : Int) - ((0 : Nat) : Int)) = got.length by omega] at this
    rw [this, List.map_append, List.map_cons, List.map_nil, ez, sub_snoc_nil]
    simp only [List.append_nil, Nat.add_zero, Nat.sub_zero]
    rw [show cut (Lx got) sp got.length = (Lx got).drop sp from by unfold cut; rw [← hx, List.take_length]]
    constructor
    · rintro ⟨h1, h2⟩
      exact ⟨_, rfl, by omega, h2⟩
    · rintro ⟨r, e, h1, h2⟩
      rw [e]
      exact ⟨by rw [← hx, e]; exact h1, h2⟩
  · by_cases h1 : Txt.endswith got z = true
    · obtain ⟨r, e⟩ := (ends_iff got z).mp h1
      have hl := congrArg List.length e
      rw [List.length_append] at hl
      rw [emB_1 h0 h1, emC_iff got sp z.length (by omega) ms]
      have ec : cut (Lx got) sp (got.length - z.length) = r.drop sp := by
        unfold cut
        rw [e, show got.length - z.length = r.length by omega, List.take_left]
      rw [ec]
      constructor
      · rintro ⟨a, b⟩
        exact ⟨r, e, by omega, b⟩
      · rintro ⟨r', e', a, b⟩
        have : r' = r := List.append_cancel_right (e'.symm.trans e)
        subst this
        exact ⟨by omega, b⟩
    · rw [emB_2 h0 (by simpa using h1)]
      constructor
      · intro h; cases h
      · rintro ⟨r, e, _⟩
        exact absurd ((ends_iff got z).mpr ⟨r, e⟩) h1
/-- what _ellipsis_match says: the front, the parts one behind the other, the end -/
theorem em_iff (a : Str) (ms : List Str) (z got : Str) : em a ms z got = true ↔ ∃ x, Lx got = Lx a ++ (x ++ Lx z) ∧ Sub (ms.map Lx) x := by
  have ha := Lx_len a
  by_cases h0 : (a.length : Int) = 0
  · have ea := Lx_nil_of h0
    rw [em_a0 h0]
    have := emB_iff got 0 (a :: ms) z
    rw [show (((0 : Nat) : Int)) = 0 from rfl] at this
    rw [this, List.map_cons, ea]
    constructor
    · rintro ⟨r, e, _, h⟩
      exact ⟨r, e, sub_nil_cons.mp h⟩
    · rintro ⟨x, e, h⟩
      exact ⟨x, e, Nat.zero_le _, sub_nil_cons.mpr h⟩
  · by_cases h1 : Txt.startswith got a = true
    · obtain ⟨r, e⟩ := (starts_iff got a).mp h1
      rw [em_a1 h0 h1, emB_iff]
      constructor
      · rintro ⟨r', e', hl, h⟩
        have h2 : r' = Lx a ++ r'.drop a.length := by
          have e3 : (r' ++ Lx z).take a.length = Lx a := by rw [← e', e, ← ha, List.take_left]
          rw [List.take_append_of_le_length hl] at e3
          have := (List.take_append_drop a.length r').symm
          rw [e3] at this
          exact this
        refine ⟨r'.drop a.length, ?_, h⟩
        rw [e', ← List.append_assoc, ← h2]
      · rintro ⟨x, ex, h⟩
        refine ⟨Lx a ++ x, by rw [ex, List.append_assoc], by rw [List.length_append]; omega, ?_⟩
        rw [← ha, List.drop_left]
        exact h
    · rw [em_a2 h0 (by simpa using h1)]
      constructor
      · intro h; cases h
      · rintro ⟨x, ex, _⟩
        exact absurd ((starts_iff got a).mpr ⟨_, ex⟩) h1
end
end Mine
namespace Mine
section
open PySem.StrLaws PySem.Builtin PySem.Builtin.Str
abbrev dots : Str := Str.ofString "..."
theorem dots_len : dots.length = 3 := by decide +kernel
theorem dots_L : Lx dots = [46, 46, 46] := by decide +kernel
def NoDot (x : Str) : Prop := 46 ∉ Lx x
theorem Lx_app (a b : Str) : Lx (a ++ b) = Lx a ++ Lx b := by simp [Lx, Str.cps_append]
theorem at_dots (x : Str) (hi k : Nat) : At x dots hi k ↔ k + 3 ≤ hi ∧ ((Lx x).drop k).take 3 = [46, 46, 46] := by
  rw [at_iff, dots_len, dots_L]
theorem at_dot0 {x : Str} {hi k : Nat} (h : At x dots hi k) : (Lx x)[k]? = some 46 := by
  have h2 := ((at_dots x hi k).mp h).2
  have h3 : (((Lx x).drop k).take 3)[0]? = some 46 := by rw [h2]; rfl
  simpa using h3
theorem join_cons (sep p q : Str) (r : List Str) : Str.join sep (p :: q :: r) = p ++ sep ++ Str.join sep (q :: r) := rfl
theorem parts_of (x : Str) : ∀ (r : List Str) (p : Str) (a : Nat) (cuts : List Nat) (f : Nat), (∀ q ∈ p :: r, NoDot q) → (Lx x).drop a = Lx (Str.join dots (p :: r)) →
    ChainG x dots x.length a cuts f → (∀ k, f ≤ k → ¬ At x dots x.length k) → partsFrom x 3 a cuts = p :: r ∧ (r ≠ [] → cuts ≠ [])
  | [], p, a, cuts, f, hd, e, hc, hf => by
    have hx := Lx_len x
    have hno : ∀ k, a ≤ k → ¬ At x dots x.length k := by
      intro k hk hA
      have h0 := at_dot0 hA
      have h1 : (Lx x).drop a = Lx p := e
      have h2 : ((Lx x).drop a)[k - a]? = some 46 := by rw [List.getElem?_drop, show a + (k - a) = k by omega]; exact h0
      rw [h1] at h2
      exact hd p (List.mem_cons_self ..) (List.mem_of_getElem? h2)
    cases cuts with
    | cons c cs => exact absurd hc.2.1 (hno c hc.1)
    | nil =>
      refine ⟨?_, fun h => absurd rfl h⟩
      show [strSub x a x.length] = [p]
      congr 1
      refine Str.ext' (Array.toList_inj.mp ?_)
      rw [strSub_toList]
      show ((Lx x).drop a).take _ = Lx p
      rw [List.take_of_length_le (by rw [List.length_drop, hx]; omega)]
      exact e
  | q :: r, p, a, cuts, f, hd, e, hc, hf => by
    have hx := Lx_len x
    have hp := Lx_len p
    rw [join_cons, Lx_app, Lx_app, List.append_assoc] at e
    have hlen := congrArg List.length e
    simp only [List.length_drop, List.length_append, dots_L, List.length_cons, List.length_nil] at hlen
    have hA0 : At x dots x.length (a + p.length) := by
      rw [at_dots]
      refine ⟨by omega, ?_⟩
      rw [← List.drop_drop, e, ← hp, List.drop_left, dots_L]
      rfl
    cases cuts with
    | nil =>
      have hfa : f = a := hc
      exact absurd hA0 (hf _ (by omega))
    | cons c cs =>
      obtain ⟨h1, h2, h3, h4⟩ := hc
      have hle : c ≤ a + p.length := by
        by_cases hcc : c ≤ a + p.length
        · exact hcc
        · exact absurd hA0 (h3 _ (by omega) (by omega))
      have hge : ¬ c < a + p.length := by
        intro hlt
        have h0 := at_dot0 h2
        have h5 : ((Lx x).drop a)[c - a]? = some 46 := by rw [List.getElem?_drop, show a + (c - a) = c by omega]; exact h0
        rw [e, List.getElem?_append_left (by omega)] at h5
        exact hd p (List.mem_cons_self ..) (List.mem_of_getElem? h5)
      have hc' : c = a + p.length := by omega
      refine ⟨?_, fun _ h => by cases h⟩
      show strSub x a c :: partsFrom x 3 (c + 3) cs = p :: q :: r
      rw [dots_len] at h4
      have e2 : (Lx x).drop (c + 3) = Lx (Str.join dots (q :: r)) := by
        rw [hc', ← List.drop_drop, ← List.drop_drop, e, ← hp, List.drop_left, dots_L]
        rfl
      rw [(parts_of x r q (c + 3) cs f (fun z hz => hd z (List.mem_cons_of_mem _ hz)) e2 h4 hf).1]
      congr 1
      refine Str.ext' (Array.toList_inj.mp ?_)
      rw [strSub_toList]
      show ((Lx x).drop a).take _ = Lx p
      rw [e, show c - a = (Lx p).length by omega, List.take_left]
theorem kind_ge (x : Str) : ¬ Builtin.Str.strKind x < 1 := by unfold Builtin.Str.strKind; split; (· omega); split <;> omega
theorem dots_kind : Builtin.Str.strKind dots = 1 := by decide +kernel
/-- a want joined by dots is cut at its dots again -/
theorem split_join (p q : Str) (r : List Str) (hd : ∀ z ∈ p :: q :: r, NoDot z) : Txt.split (Str.join dots (p :: q :: r)) dots = p :: q :: r := by
  have hL := congrArg List.length (Lx_app (p ++ dots) (Str.join dots (q :: r)))
  simp only [Lx_len, List.length_append, Str.length_append, dots_len] at hL
  obtain ⟨f, hc, hf⟩ := occ_tight (Str.join dots (p :: q :: r)) dots (by rw [dots_len]; omega)
  obtain ⟨h1, h2⟩ := parts_of (Str.join dots (p :: q :: r)) (q :: r) p 0 _ f hd rfl hc hf
  unfold Txt.split
  rw [dots_kind, dots_len]
  have hne := h2 (by simp)
  rw [if_neg, if_neg, partsBetween_eq, h1]
  · simpa using hne
  · simp only [Bool.or_eq_true, decide_eq_true_eq, not_or]
    exact ⟨by rw [join_cons, Str.length_append, Str.length_append, dots_len]; omega, kind_ge _⟩
theorem has_dots (p q : Str) (r : List Str) : (occurrences (Str.join dots (p :: q :: r)) dots 0 (Str.join dots (p :: q :: r)).length 1).isEmpty = false := by
  have h := (found_iff (Str.join dots (p :: q :: r)) dots).mpr ?_
  · simpa using h
  · have hA : At (Str.join dots (p :: q :: r)) dots (Str.join dots (p :: q :: r)).length p.length := by
      rw [at_dots]
      refine ⟨by rw [join_cons, Str.length_append, Str.length_append, dots_len]; omega, ?_⟩
      rw [join_cons, Lx_app, Lx_app, List.append_assoc, ← Lx_len p, List.drop_left, dots_L]
      rfl
    exact ⟨_, hA⟩
end
end Mine
namespace Mine
section
section
variable {w : World} {A : Around} {s : Shared} {E : Value → Shared → Prop} {Q : Value → Shared → Prop} {h₀ : Heap} {L : Addr} {m : Str → Option Value} {news : List (Addr × Obj)} {mean : ExcName → Option Value} {mg mb : Str → Option Value}
theorem part_len {x : Str} {p q : Str} {r : List Str} (h : x = Str.join dots (p :: q :: r)) : p.length + 3 ≤ x.length := by
  rw [h, join_cons, Str.length_append, Str.length_append, dots_len]; omega
/-- the want's parts: a front, nothing or two pieces, an end -/
def Pieces (ms : List Str) : Prop := ms = [] ∨ ∃ b c, ms = [b, c]
theorem ct_want {a z got : Str} {ms : List Str} {t1 t2 : Tok} (O : Ok w s.heap) (hA : A.handled = none) (hr : A.depth < recursionLimit) (hm : Pieces ms) (hd : ∀ x ∈ a :: (ms ++ [z]), NoDot x)
    (hl : ∀ x ∈ a :: (ms ++ [z]), x.length ≤ 100) (hg : got.length ≤ 1000) :
    wpAny (model PySem.Challenge.rw_pg0085_01.row.prog w) A (call (.ref 21) [.str (Str.join dots (a :: (ms ++ [z]))) t1, .str got t2]) (Ret s (fun v => v = .bool (em a ms z got))) E s := by
  obtain ⟨hh, dp, fr, gd, un⟩ := A
  cases hA
  rcases hm with rfl | ⟨b, c, rfl⟩
  · have e0 := hl a (by simp)
    have e1 := hl z (by simp)
    refine ct_match2 O hr ?_ hg (has_dots a z []) (split_join a z [] hd) (by omega) (by omega)
    show (a ++ dots ++ z).length ≤ _
    rw [Str.length_append, Str.length_append, dots_len]; omega
  · have e0 := hl a (by simp)
    have e1 := hl z (by simp)
    have e2 := hl b (by simp)
    have e3 := hl c (by simp)
    refine ct_match4 O hr ?_ hg (has_dots a b [c, z]) (split_join a b [c, z] hd) (by omega) (by omega) (by omega) (by omega)
    show (a ++ dots ++ (b ++ dots ++ (c ++ dots ++ z))).length ≤ _
    simp only [Str.length_append, dots_len]; omega
theorem pre_em (a got : Str) : em a [] (Str.ofString "") got = (Lx a).isPrefixOf (Lx got) := by
  rw [Bool.eq_iff_iff, em_iff, List.isPrefixOf_iff_prefix]
  have e : Lx (Str.ofString "") = [] := by decide +kernel
  rw [e]
  constructor
  · rintro ⟨x, h, _⟩
    exact ⟨x, by rw [h]; simp⟩
  · rintro ⟨x, h⟩
    exact ⟨x, by rw [← h]; simp, trivial⟩
theorem use_pre {a got : Str} {t1 t2 : Tok} (F : Fr h₀ L s.heap m) (N : News h₀ L s.heap news) (X : (hd.heap_39 w.params).In h₀) (T : Top hd.view_39 (looseW hd.view_39 []) mean mg mb h₀)
    (hA : A.handled = none) (hr : A.depth < recursionLimit) (hd : NoDot a) (h1 : a.length ≤ 100) (h2 : got.length ≤ 1000)
    (h : ∀ h' tk, Fr h₀ L h' m → News h₀ L h' news → Q (.bool ((Lx a).isPrefixOf (Lx got))) { s with heap := h', toks := tk }) :
    wpAny (model PySem.Challenge.rw_pg0085_01.row.prog w) A (call (.ref 21) [.str (a ++ Str.ofString "...") t1, .str got t2]) Q E s := by
  have e : a ++ Str.ofString "..." = Str.join dots (a :: ([] ++ [Str.ofString ""])) := by
    show a ++ dots = a ++ dots ++ Str.ofString ""
    have : Str.ofString "" = Str.empty := by decide +kernel
    rw [this, Str.append_empty]
  have en : NoDot (Str.ofString "") := by
    have e : Lx (Str.ofString "") = [] := by decide +kernel
    unfold NoDot; rw [e]; simp
  have el : (Str.ofString "").length = 0 := by decide +kernel
  rw [e]
  refine use F N (ct_want (Ok.of F X T) hA hr (.inl rfl) ?_ ?_ h2) ?_
  · intro x hx
    simp only [List.nil_append, List.mem_cons, List.not_mem_nil, or_false] at hx
    rcases hx with rfl | rfl
    · exact hd
    · exact en
  · intro x hx
    simp only [List.nil_append, List.mem_cons, List.not_mem_nil, or_false] at hx
    rcases hx with rfl | rfl
    · exact h1
    · omega
  · rintro v h' tk rfl F' N'
    rw [pre_em]
    exact h h' tk F' N'
end
end
end Mine
namespace Mine
section
local macro_rules | `(tactic| walk_at "binaryOp Mult int int") => `(tactic| (refine mul_int ?_ (by assumption)))
local macro_rules | `(tactic| walk_at "binaryOp FloorDiv int int") => `(tactic| (refine floordiv_int (by assumption) ?_ (Or.inl (by assumption))))
local macro_rules | `(tactic| walk_at "binaryOp LShift int int") => `(tactic| (refine lshift_int (by assumption) (by assumption) ?_))
local macro_rules | `(tactic| walk_at "binaryOp RShift int int") => `(tactic| (refine rshift_int (by assumption) ?_))
set_option maxHeartbeats 8000000 in
theorem ct_add {w : World} {dp un : Nat} {fr : Option (List Env)} {gd : Option (List Code)} {E : Value → Shared → Prop} {s : Shared} {a b : Int} {ta tb : Tok}
    (O : Ok w s.heap) (hr : dp < recursionLimit)   :
    wpAny (model PySem.Challenge.rw_pg0085_01.row.prog w) ⟨none, dp, fr, gd, un⟩ (call (.ref 28) [.int a ta, .int b tb]) (Ret s (fun v => ∃ t, v = .int (a+b) t)) E s := by
  w_top off
  have X0 := (O).x
  revert X0
  k_fill
  intro X0
  refine' enter O ?k6 ?k7 ?k8 ?k9 ?kB ?_ ?c2 ?c3 ?c4 ?c5
  case k6 => k_is
  case k7 => k_is
  case k8 => exact hr
  case k9 => exact BindsTo.of_eq rfl
  case kB => exact locs rfl
  case c2 => exact rfl
  case c3 => exact rfl
  case c4 => exact rfl
  case c5 => decide
  intro L' h' mean mg mb F' N' X' T'
  clear X0
  (try dsimp only)
  (try k_fold)
  k_steps
  all_goals (try dsimp only)
  all_goals (exact Ret.of (by assumption) ⟨_, rfl⟩ rfl)
theorem use_add {w : World} {A : Around} {s : Shared} {E : Value → Shared → Prop} {Q : Value → Shared → Prop} {h₀ : Heap} {L : Addr} {m : Str → Option Value} {news : List (Addr × Obj)} {mean : ExcName → Option Value} {mg mb : Str → Option Value} {a b : Int} {ta tb : Tok}
    (F : Fr h₀ L s.heap m) (N : News h₀ L s.heap news) (X : (hd.heap_39 w.params).In h₀) (T : Top hd.view_39 (looseW hd.view_39 []) mean mg mb h₀)
    (hA : A.handled = none) (hr : A.depth < recursionLimit)  
    (h : ∀ t h' tk, Fr h₀ L h' m → News h₀ L h' news → Q (.int (a+b) t) { s with heap := h', toks := tk }) :
    wpAny (model PySem.Challenge.rw_pg0085_01.row.prog w) A (call (.ref 28) [.int a ta, .int b tb]) Q E s := by
  obtain ⟨hh, dp, fr, gd, un⟩ := A
  cases hA
  refine use F N (ct_add (Ok.of F X T) hr ) ?_
  rintro v h' tk ⟨t, rfl⟩ F' N'
  exact h t h' tk F' N'
set_option maxHeartbeats 8000000 in
theorem ct_sub {w : World} {dp un : Nat} {fr : Option (List Env)} {gd : Option (List Code)} {E : Value → Shared → Prop} {s : Shared} {a b : Int} {ta tb : Tok}
    (O : Ok w s.heap) (hr : dp < recursionLimit)   :
    wpAny (model PySem.Challenge.rw_pg0085_01.row.prog w) ⟨none, dp, fr, gd, un⟩ (call (.ref 70) [.int a ta, .int b tb]) (Ret s (fun v => ∃ t, v = .int (a-b) t)) E s := by
  w_top off
  have X0 := (O).x
  revert X0
  k_fill
  intro X0
  refine' enter O ?k6 ?k7 ?k8 ?k9 ?kB ?_ ?c2 ?c3 ?c4 ?c5
  case k6 => k_is
  case k7 => k_is
  case k8 => exact hr
  case k9 => exact BindsTo.of_eq rfl
  case kB => exact locs rfl
  case c2 => exact rfl
  case c3 => exact rfl
  case c4 => exact rfl
  case c5 => decide
  intro L' h' mean mg mb F' N' X' T'
  clear X0
  (try dsimp only)
  (try k_fold)
  k_steps
  all_goals (try dsimp only)
  all_goals (exact Ret.of (by assumption) ⟨_, rfl⟩ rfl)
theorem use_sub {w : World} {A : Around} {s : Shared} {E : Value → Shared → Prop} {Q : Value → Shared → Prop} {h₀ : Heap} {L : Addr} {m : Str → Option Value} {news : List (Addr × Obj)} {mean : ExcName → Option Value} {mg mb : Str → Option Value} {a b : Int} {ta tb : Tok}
    (F : Fr h₀ L s.heap m) (N : News h₀ L s.heap news) (X : (hd.heap_39 w.params).In h₀) (T : Top hd.view_39 (looseW hd.view_39 []) mean mg mb h₀)
    (hA : A.handled = none) (hr : A.depth < recursionLimit)  
    (h : ∀ t h' tk, Fr h₀ L h' m → News h₀ L h' news → Q (.int (a-b) t) { s with heap := h', toks := tk }) :
    wpAny (model PySem.Challenge.rw_pg0085_01.row.prog w) A (call (.ref 70) [.int a ta, .int b tb]) Q E s := by
  obtain ⟨hh, dp, fr, gd, un⟩ := A
  cases hA
  refine use F N (ct_sub (Ok.of F X T) hr ) ?_
  rintro v h' tk ⟨t, rfl⟩ F' N'
  exact h t h' tk F' N'
set_option maxHeartbeats 8000000 in
theorem ct_mul {w : World} {dp un : Nat} {fr : Option (List Env)} {gd : Option (List Code)} {E : Value → Shared → Prop} {s : Shared} {a b : Int} {ta tb : Tok}
    (O : Ok w s.heap) (hr : dp < recursionLimit) (hm:IntMulOk a b) :
    wpAny (model PySem.Challenge.rw_pg0085_01.row.prog w) ⟨none, dp, fr, gd, un⟩ (call (.ref 56) [.int a ta, .int b tb]) (Ret s (fun v => ∃ t, v = .int (a*b) t)) E s := by
  w_top off
  have X0 := (O).x
  revert X0
  k_fill
  intro X0
  refine' enter O ?k6 ?k7 ?k8 ?k9 ?kB ?_ ?c2 ?c3 ?c4 ?c5
  case k6 => k_is
  case k7 => k_is
  case k8 => exact hr
  case k9 => exact BindsTo.of_eq rfl
  case kB => exact locs rfl
  case c2 => exact rfl
  case c3 => exact rfl
  case c4 => exact rfl
  case c5 => decide
  intro L' h' mean mg mb F' N' X' T'
  clear X0
  (try dsimp only)
  (try k_fold)
  k_steps
  all_goals (try dsimp only)
  all_goals (exact Ret.of (by assumption) ⟨_, rfl⟩ rfl)
theorem use_mul {w : World} {A : Around} {s : Shared} {E : Value → Shared → Prop} {Q : Value → Shared → Prop} {h₀ : Heap} {L : Addr} {m : Str → Option Value} {news : List (Addr × Obj)} {mean : ExcName → Option Value} {mg mb : Str → Option Value} {a b : Int} {ta tb : Tok}
    (F : Fr h₀ L s.heap m) (N : News h₀ L s.heap news) (X : (hd.heap_39 w.params).In h₀) (T : Top hd.view_39 (looseW hd.view_39 []) mean mg mb h₀)
    (hA : A.handled = none) (hr : A.depth < recursionLimit) (hm:IntMulOk a b)
    (h : ∀ t h' tk, Fr h₀ L h' m → News h₀ L h' news → Q (.int (a*b) t) { s with heap := h', toks := tk }) :
    wpAny (model PySem.Challenge.rw_pg0085_01.row.prog w) A (call (.ref 56) [.int a ta, .int b tb]) Q E s := by
  obtain ⟨hh, dp, fr, gd, un⟩ := A
  cases hA
  refine use F N (ct_mul (Ok.of F X T) hr hm) ?_
  rintro v h' tk ⟨t, rfl⟩ F' N'
  exact h t h' tk F' N'
set_option maxHeartbeats 8000000 in
theorem ct_floordiv {w : World} {dp un : Nat} {fr : Option (List Env)} {gd : Option (List Code)} {E : Value → Shared → Prop} {s : Shared} {a b : Int} {ta tb : Tok}
    (O : Ok w s.heap) (hr : dp < recursionLimit) (hb:b≠0) (hp:Builtin.divisionGoesByPylong a b=false) :
    wpAny (model PySem.Challenge.rw_pg0085_01.row.prog w) ⟨none, dp, fr, gd, un⟩ (call (.ref 42) [.int a ta, .int b tb]) (Ret s (fun v => ∃ t, v = .int (a.fdiv b) t)) E s := by
  w_top off
  have X0 := (O).x
  revert X0
  k_fill
  intro X0
  refine' enter O ?k6 ?k7 ?k8 ?k9 ?kB ?_ ?c2 ?c3 ?c4 ?c5
  case k6 => k_is
  case k7 => k_is
  case k8 => exact hr
  case k9 => exact BindsTo.of_eq rfl
  case kB => exact locs rfl
  case c2 => exact rfl
  case c3 => exact rfl
  case c4 => exact rfl
  case c5 => decide
  intro L' h' mean mg mb F' N' X' T'
  clear X0
  (try dsimp only)
  (try k_fold)
  k_steps
  all_goals (try dsimp only)
  all_goals (exact Ret.of (by assumption) ⟨_, rfl⟩ rfl)
theorem use_floordiv {w : World} {A : Around} {s : Shared} {E : Value → Shared → Prop} {Q : Value → Shared → Prop} {h₀ : Heap} {L : Addr} {m : Str → Option Value} {news : List (Addr × Obj)} {mean : ExcName → Option Value} {mg mb : Str → Option Value} {a b : Int} {ta tb : Tok}
    (F : Fr h₀ L s.heap m) (N : News h₀ L s.heap news) (X : (hd.heap_39 w.params).In h₀) (T : Top hd.view_39 (looseW hd.view_39 []) mean mg mb h₀)
    (hA : A.handled = none) (hr : A.depth < recursionLimit) (hb:b≠0) (hp:Builtin.divisionGoesByPylong a b=false)
    (h : ∀ t h' tk, Fr h₀ L h' m → News h₀ L h' news → Q (.int (a.fdiv b) t) { s with heap := h', toks := tk }) :
    wpAny (model PySem.Challenge.rw_pg0085_01.row.prog w) A (call (.ref 42) [.int a ta, .int b tb]) Q E s := by
  obtain ⟨hh, dp, fr, gd, un⟩ := A
  cases hA
  refine use F N (ct_floordiv (Ok.of F X T) hr hb hp) ?_
  rintro v h' tk ⟨t, rfl⟩ F' N'
  exact h t h' tk F' N'
set_option maxHeartbeats 8000000 in
theorem ct_lshift {w : World} {dp un : Nat} {fr : Option (List Env)} {gd : Option (List Code)} {E : Value → Shared → Prop} {s : Shared} {a b : Int} {ta tb : Tok}
    (O : Ok w s.heap) (hr : dp < recursionLimit) (hn:0≤b) (hsz:(Builtin.Int.intBits a:Int)+b≤2^27) :
    wpAny (model PySem.Challenge.rw_pg0085_01.row.prog w) ⟨none, dp, fr, gd, un⟩ (call (.ref 49) [.int a ta, .int b tb]) (Ret s (fun v => ∃ t, v = .int (a*2^b.toNat) t)) E s := by
  w_top off
  have X0 := (O).x
  revert X0
  k_fill
  intro X0
  refine' enter O ?k6 ?k7 ?k8 ?k9 ?kB ?_ ?c2 ?c3 ?c4 ?c5
  case k6 => k_is
  case k7 => k_is
  case k8 => exact hr
  case k9 => exact BindsTo.of_eq rfl
  case kB => exact locs rfl
  case c2 => exact rfl
  case c3 => exact rfl
  case c4 => exact rfl
  case c5 => decide
  intro L' h' mean mg mb F' N' X' T'
  clear X0
  (try dsimp only)
  (try k_fold)
  k_steps
  all_goals (try dsimp only)
  all_goals (exact Ret.of (by assumption) ⟨_, rfl⟩ rfl)
theorem use_lshift {w : World} {A : Around} {s : Shared} {E : Value → Shared → Prop} {Q : Value → Shared → Prop} {h₀ : Heap} {L : Addr} {m : Str → Option Value} {news : List (Addr × Obj)} {mean : ExcName → Option Value} {mg mb : Str → Option Value} {a b : Int} {ta tb : Tok}
    (F : Fr h₀ L s.heap m) (N : News h₀ L s.heap news) (X : (hd.heap_39 w.params).In h₀) (T : Top hd.view_39 (looseW hd.view_39 []) mean mg mb h₀)
    (hA : A.handled = none) (hr : A.depth < recursionLimit) (hn:0≤b) (hsz:(Builtin.Int.intBits a:Int)+b≤2^27)
    (h : ∀ t h' tk, Fr h₀ L h' m → News h₀ L h' news → Q (.int (a*2^b.toNat) t) { s with heap := h', toks := tk }) :
    wpAny (model PySem.Challenge.rw_pg0085_01.row.prog w) A (call (.ref 49) [.int a ta, .int b tb]) Q E s := by
  obtain ⟨hh, dp, fr, gd, un⟩ := A
  cases hA
  refine use F N (ct_lshift (Ok.of F X T) hr hn hsz) ?_
  rintro v h' tk ⟨t, rfl⟩ F' N'
  exact h t h' tk F' N'
set_option maxHeartbeats 8000000 in
theorem ct_rshift {w : World} {dp un : Nat} {fr : Option (List Env)} {gd : Option (List Code)} {E : Value → Shared → Prop} {s : Shared} {a b : Int} {ta tb : Tok}
    (O : Ok w s.heap) (hr : dp < recursionLimit) (hn:0≤b) :
    wpAny (model PySem.Challenge.rw_pg0085_01.row.prog w) ⟨none, dp, fr, gd, un⟩ (call (.ref 63) [.int a ta, .int b tb]) (Ret s (fun v => ∃ t, v = .int (a.fdiv (2^b.toNat)) t)) E s := by
  w_top off
  have X0 := (O).x
  revert X0
  k_fill
  intro X0
  refine' enter O ?k6 ?k7 ?k8 ?k9 ?kB ?_ ?c2 ?c3 ?c4 ?c5
  case k6 => k_is
  case k7 => k_is
  case k8 => exact hr
  case k9 => exact BindsTo.of_eq rfl
  case kB => exact locs rfl
  case c2 => exact rfl
  case c3 => exact rfl
  case c4 => exact rfl
  case c5 => decide
  intro L' h' mean mg mb F' N' X' T'
  clear X0
  (try dsimp only)
  (try k_fold)
  k_steps
  all_goals (try dsimp only)
  all_goals (exact Ret.of (by assumption) ⟨_, rfl⟩ rfl)
theorem use_rshift {w : World} {A : Around} {s : Shared} {E : Value → Shared → Prop} {Q : Value → Shared → Prop} {h₀ : Heap} {L : Addr} {m : Str → Option Value} {news : List (Addr × Obj)} {mean : ExcName → Option Value} {mg mb : Str → Option Value} {a b : Int} {ta tb : Tok}
    (F : Fr h₀ L s.heap m) (N : News h₀ L s.heap news) (X : (hd.heap_39 w.params).In h₀) (T : Top hd.view_39 (looseW hd.view_39 []) mean mg mb h₀)
    (hA : A.handled = none) (hr : A.depth < recursionLimit) (hn:0≤b)
    (h : ∀ t h' tk, Fr h₀ L h' m → News h₀ L h' news → Q (.int (a.fdiv (2^b.toNat)) t) { s with heap := h', toks := tk }) :
    wpAny (model PySem.Challenge.rw_pg0085_01.row.prog w) A (call (.ref 63) [.int a ta, .int b tb]) Q E s := by
  obtain ⟨hh, dp, fr, gd, un⟩ := A
  cases hA
  refine use F N (ct_rshift (Ok.of F X T) hr hn) ?_
  rintro v h' tk ⟨t, rfl⟩ F' N'
  exact h t h' tk F' N'
set_option maxHeartbeats 8000000 in
theorem ct_and_ {w : World} {dp un : Nat} {fr : Option (List Env)} {gd : Option (List Code)} {E : Value → Shared → Prop} {s : Shared} {a b : Int} {ta tb : Tok}
    (O : Ok w s.heap) (hr : dp < recursionLimit)   :
    wpAny (model PySem.Challenge.rw_pg0085_01.row.prog w) ⟨none, dp, fr, gd, un⟩ (call (.ref 35) [.int a ta, .int b tb]) (Ret s (fun v => ∃ t, v = .int (Builtin.bitAnd a b) t)) E s := by
  w_top off
  have X0 := (O).x
  revert X0
  k_fill
  intro X0
  refine' enter O ?k6 ?k7 ?k8 ?k9 ?kB ?_ ?c2 ?c3 ?c4 ?c5
  case k6 => k_is
  case k7 => k_is
  case k8 => exact hr
  case k9 => exact BindsTo.of_eq rfl
  case kB => exact locs rfl
  case c2 => exact rfl
  case c3 => exact rfl
  case c4 => exact rfl
  case c5 => decide
  intro L' h' mean mg mb F' N' X' T'
  clear X0
  (try dsimp only)
  (try k_fold)
  k_steps
  all_goals (try dsimp only)
  all_goals (exact Ret.of (by assumption) ⟨_, rfl⟩ rfl)
theorem use_and_ {w : World} {A : Around} {s : Shared} {E : Value → Shared → Prop} {Q : Value → Shared → Prop} {h₀ : Heap} {L : Addr} {m : Str → Option Value} {news : List (Addr × Obj)} {mean : ExcName → Option Value} {mg mb : Str → Option Value} {a b : Int} {ta tb : Tok}
    (F : Fr h₀ L s.heap m) (N : News h₀ L s.heap news) (X : (hd.heap_39 w.params).In h₀) (T : Top hd.view_39 (looseW hd.view_39 []) mean mg mb h₀)
    (hA : A.handled = none) (hr : A.depth < recursionLimit)  
    (h : ∀ t h' tk, Fr h₀ L h' m → News h₀ L h' news → Q (.int (Builtin.bitAnd a b) t) { s with heap := h', toks := tk }) :
    wpAny (model PySem.Challenge.rw_pg0085_01.row.prog w) A (call (.ref 35) [.int a ta, .int b tb]) Q E s := by
  obtain ⟨hh, dp, fr, gd, un⟩ := A
  cases hA
  refine use F N (ct_and_ (Ok.of F X T) hr ) ?_
  rintro v h' tk ⟨t, rfl⟩ F' N'
  exact h t h' tk F' N'
end
end Mine
namespace Mine
section
theorem call_len_lit {prog : Program} {w : World} {A : Around} {E : Value → Shared → Prop} {s : Shared} {x : Str} {t : Tok} {k : Nat} {Q : Value → Shared → Prop} (hx : x.length = k) (hk : k ≤ 1000) (h : ∀ t' tk, Q (.int (k : Nat) t') { s with toks := tk }) :
    wpAny (model prog w) A (call (.builtin "len") [.str x t]) Q E s := by
  refine SBL.len (by omega) ?_
  rw [hx]
  exact h _ _
theorem slice_L (p : Str) (i : Nat) (h : i ≤ p.length) : Lx (Txt.slice p (some (0 + (i : Int))) none) = (Lx p).drop i := by
  have hp := Lx_len p
  show Lx (StrLaws.sliceText p (some (0 + (i : Int))) none) = _
  rw [StrLaws.sliceText_from ⟨by omega, by rw [show p.cps.toList.length = p.length from hp]; omega⟩]
  show List.take _ _ = _
  rw [show (0 + (i : Int)).toNat = i by omega]
  refine List.take_of_length_le ?_
  rw [List.length_drop, show p.cps.toList.length = p.length from hp]
  omega
theorem NoDot.drop {p a : Str} {i : Nat} (h : NoDot p) (e : Lx a = (Lx p).drop i) : NoDot a := by
  intro hm
  rw [e] at hm
  exact h (List.mem_of_mem_drop hm)
section
variable {w : World} {A : Around} {s : Shared} {E : Value → Shared → Prop} {Q : Value → Shared → Prop} {h₀ : Heap} {L : Addr} {m : Str → Option Value} {news : List (Addr × Obj)} {mean : ExcName → Option Value} {mg mb : Str → Option Value}
theorem use_concatS {p : Str} {i : Nat} {t1 t2 : Tok} (F : Fr h₀ L s.heap m) (N : News h₀ L s.heap news) (X : (hd.heap_39 w.params).In h₀) (T : Top hd.view_39 (looseW hd.view_39 []) mean mg mb h₀)
    (hA : A.handled = none) (hr : A.depth < recursionLimit) (h1 : p.length ≤ 100) (hi : i ≤ p.length)
    (h : ∀ a t h' tk, Lx a = (Lx p).drop i → Fr h₀ L h' m → News h₀ L h' news → Q (.str (a ++ Str.ofString "...") t) { s with heap := h', toks := tk }) :
    wpAny (model PySem.Challenge.rw_pg0085_01.row.prog w) A (call (.ref 77) [.str (Txt.slice p (some (0 + (i : Int))) none) t1, .str (Str.ofString "...") t2]) Q E s := by
  have e := slice_L p i hi
  refine use_concat F N X T hA hr ?_ (by decide +kernel) fun t h' tk F' N' => h _ t h' tk e F' N'
  rw [← Lx_len, e, List.length_drop, Lx_len]; omega
theorem use_preS {p a : Str} {i : Nat} {t1 t2 : Tok} (F : Fr h₀ L s.heap m) (N : News h₀ L s.heap news) (X : (hd.heap_39 w.params).In h₀) (T : Top hd.view_39 (looseW hd.view_39 []) mean mg mb h₀)
    (hA : A.handled = none) (hr : A.depth < recursionLimit) (hd : NoDot p) (h1 : p.length ≤ 100) (e : Lx a = (Lx p).drop i)
    (h : ∀ h' tk, Fr h₀ L h' m → News h₀ L h' news → Q (.bool (((Lx p).drop i).isPrefixOf (Lx p))) { s with heap := h', toks := tk }) :
    wpAny (model PySem.Challenge.rw_pg0085_01.row.prog w) A (call (.ref 21) [.str (a ++ Str.ofString "...") t1, .str p t2]) Q E s := by
  refine use_pre F N X T hA hr (hd.drop e) ?_ (by omega) ?_
  · rw [← Lx_len, e, List.length_drop, Lx_len]; omega
  · rw [e]; exact h
end
local macro_rules | `(tactic| walk_at "call builtin:len") => `(tactic| ((with_reducible show wpAny _ _ (call (Value.builtin "len") [Value.str _ _]) _ _ _); (refine' call_len_lit ?k1 ?k2 ?_; (case k1 => assumption); (case k2 => decide)); (intro t' tk'); (try dsimp only); (try simp only [Int.cast_ofNat_Int])))
local macro_rules | `(tactic| walk_at "call ref") => `(tactic| ((with_reducible show wpAny _ _ (call (Value.ref 28) [Value.int _ _, Value.int _ _]) _ _ _); k_dflt (refine' use_add ?k1 ?k2 ?k3 ?k4 ?k5 ?k6   ?_; (case k1 => k_asm); (case k2 => k_asm); (case k3 => k_asm); (case k4 => k_asm); (case k5 => exact rfl); (case k6 => (simp only [depth_deeper, depth_in1]; omega));   k_whole); intro t' h' tk' F' N'; (try k_sweep)))
local macro_rules | `(tactic| walk_at "call ref") => `(tactic| ((with_reducible show wpAny _ _ (call (Value.ref 49) [Value.int _ _, Value.int _ _]) _ _ _); k_dflt (refine' use_lshift ?k1 ?k2 ?k3 ?k4 ?k5 ?k6 ?k7 ?k8 ?_; (case k1 => k_asm); (case k2 => k_asm); (case k3 => k_asm); (case k4 => k_asm); (case k5 => exact rfl); (case k6 => (simp only [depth_deeper, depth_in1]; omega)); (case k7 => decide +kernel); (case k8 => decide +kernel); k_whole); intro t' h' tk' F' N'; (try k_sweep)))
local macro_rules | `(tactic| walk_at "call ref") => `(tactic| ((with_reducible show wpAny _ _ (call (Value.ref 77) [Value.str _ _, Value.str _ _]) _ _ _); k_dflt (refine' use_concatS ?k1 ?k2 ?k3 ?k4 ?k5 ?k6 ?k7 ?k8 ?_; (case k1 => k_asm); (case k2 => k_asm); (case k3 => k_asm); (case k4 => k_asm); (case k5 => exact rfl); (case k6 => (simp only [depth_deeper, depth_in1]; omega)); (case k7 => omega); (case k8 => omega); k_whole); intro a' t' h' tk' e' F' N'; (try k_sweep)))
local macro_rules | `(tactic| walk_at "call ref") => `(tactic| ((with_reducible show wpAny _ _ (call (Value.ref 21) [Value.str _ _, Value.str _ _]) _ _ _); k_dflt (refine' use_preS ?k1 ?k2 ?k3 ?k4 ?k5 ?k6 ?k7 ?k8 ?k9 ?_; (case k1 => k_asm); (case k2 => k_asm); (case k3 => k_asm); (case k4 => k_asm); (case k5 => exact rfl); (case k6 => (simp only [depth_deeper, depth_in1]; omega)); (case k7 => assumption); (case k8 => omega); (case k9 => assumption); k_whole); intro h' tk' F' N'; (try k_sweep)))
/-- a piece's overlaps: a figure to the base 1024 for each of its ends -/
def ovBit (p : List Nat) (i : Nat) : Int := if (p.drop i).isPrefixOf p = true then 1 else 0
def ovl (p : List Nat) : Nat → Int
  | 0 => 0
  | n + 1 => ovl p n * 1024 + ovBit p n
theorem ovBit_t {p : List Nat} {i : Nat} (h : (p.drop i).isPrefixOf p = true) : ovBit p i = 1 := if_pos h
theorem ovBit_f {p : List Nat} {i : Nat} (h : (p.drop i).isPrefixOf p = false) : ovBit p i = 0 := if_neg (by rw [h]; decide)
set_option maxHeartbeats 8000000 in
theorem ct_over0 {w : World} {dp un : Nat} {fr : Option (List Env)} {gd : Option (List Code)} {E : Value → Shared → Prop} {s : Shared} {p : Str} {tp : Tok}
    (O : Ok w s.heap) (hr : dp + 2 < recursionLimit) (hp : p.length = 0) (hd : NoDot p) :
    wpAny (model PySem.Challenge.rw_pg0085_01.row.prog w) ⟨none, dp, fr, gd, un⟩ (call (.ref 98) [.str p tp]) (Ret s (fun v => ∃ t, v = .int (ovl (Lx p) 0) t)) E s := by
  have hr' : dp < recursionLimit := by omega
  w_top off
  have X0 := (O).x
  revert X0
  k_fill
  intro X0
  refine' enter O ?k6 ?k7 ?k8 ?k9 ?kB ?_ ?c2 ?c3 ?c4 ?c5
  case k6 => k_is
  case k7 => k_is
  case k8 => exact hr'
  case k9 => exact BindsTo.of_eq rfl
  case kB => exact locs rfl
  case c2 => exact rfl
  case c3 => exact rfl
  case c4 => exact rfl
  case c5 => decide
  intro L' h' mean mg mb F' N' X' T'
  clear X0
  (try dsimp only)
  (try k_fold)
  k_steps
  all_goals (try dsimp only)
  all_goals (refine Ret.of (by assumption) ⟨_, congrArg (Value.int · _) ?_⟩ rfl)
  all_goals show _ = (0:Int)
  all_goals decide +kernel
set_option maxHeartbeats 8000000 in
theorem ct_over1 {w : World} {dp un : Nat} {fr : Option (List Env)} {gd : Option (List Code)} {E : Value → Shared → Prop} {s : Shared} {p : Str} {tp : Tok}
    (O : Ok w s.heap) (hr : dp + 2 < recursionLimit) (hp : p.length = 1) (hd : NoDot p) :
    wpAny (model PySem.Challenge.rw_pg0085_01.row.prog w) ⟨none, dp, fr, gd, un⟩ (call (.ref 98) [.str p tp]) (Ret s (fun v => ∃ t, v = .int (ovl (Lx p) 1) t)) E s := by
  have hr' : dp < recursionLimit := by omega
  w_top off
  have X0 := (O).x
  revert X0
  k_fill
  intro X0
  refine' enter O ?k6 ?k7 ?k8 ?k9 ?kB ?_ ?c2 ?c3 ?c4 ?c5
  case k6 => k_is
  case k7 => k_is
  case k8 => exact hr'
  case k9 => exact BindsTo.of_eq rfl
  case kB => exact locs rfl
  case c2 => exact rfl
  case c3 => exact rfl
  case c4 => exact rfl
  case c5 => decide
  intro L' h' mean mg mb F' N' X' T'
  clear X0
  (try dsimp only)
  (try k_fold)
  k_steps
  all_goals (try dsimp only)
  all_goals (refine Ret.of (by assumption) ⟨_, congrArg (Value.int · _) ?_⟩ rfl)
  all_goals show _ = (0:Int)*1024+ovBit (Lx p) 0
  all_goals (first | rw [ovBit_t (p := Lx p) (i := 0) (by assumption)] | rw [ovBit_f (p := Lx p) (i := 0) (by assumption)])
  all_goals decide +kernel
set_option maxHeartbeats 8000000 in
theorem ct_over2 {w : World} {dp un : Nat} {fr : Option (List Env)} {gd : Option (List Code)} {E : Value → Shared → Prop} {s : Shared} {p : Str} {tp : Tok}
    (O : Ok w s.heap) (hr : dp + 2 < recursionLimit) (hp : p.length = 2) (hd : NoDot p) :
    wpAny (model PySem.Challenge.rw_pg0085_01.row.prog w) ⟨none, dp, fr, gd, un⟩ (call (.ref 98) [.str p tp]) (Ret s (fun v => ∃ t, v = .int (ovl (Lx p) 2) t)) E s := by
  have hr' : dp < recursionLimit := by omega
  w_top off
  have X0 := (O).x
  revert X0
  k_fill
  intro X0
  refine' enter O ?k6 ?k7 ?k8 ?k9 ?kB ?_ ?c2 ?c3 ?c4 ?c5
  case k6 => k_is
  case k7 => k_is
  case k8 => exact hr'
  case k9 => exact BindsTo.of_eq rfl
  case kB => exact locs rfl
  case c2 => exact rfl
  case c3 => exact rfl
  case c4 => exact rfl
  case c5 => decide
  intro L' h' mean mg mb F' N' X' T'
  clear X0
  (try dsimp only)
  (try k_fold)
  k_steps
  all_goals (try dsimp only)
  all_goals (refine Ret.of (by assumption) ⟨_, congrArg (Value.int · _) ?_⟩ rfl)
  all_goals show _ = ((0:Int)*1024+ovBit (Lx p) 0)*1024+ovBit (Lx p) 1
  all_goals (first | rw [ovBit_t (p := Lx p) (i := 0) (by assumption)] | rw [ovBit_f (p := Lx p) (i := 0) (by assumption)])
  all_goals (first | rw [ovBit_t (p := Lx p) (i := 1) (by assumption)] | rw [ovBit_f (p := Lx p) (i := 1) (by assumption)])
  all_goals decide +kernel
set_option maxHeartbeats 8000000 in
theorem ct_over3 {w : World} {dp un : Nat} {fr : Option (List Env)} {gd : Option (List Code)} {E : Value → Shared → Prop} {s : Shared} {p : Str} {tp : Tok}
    (O : Ok w s.heap) (hr : dp + 2 < recursionLimit) (hp : p.length = 3) (hd : NoDot p) :
    wpAny (model PySem.Challenge.rw_pg0085_01.row.prog w) ⟨none, dp, fr, gd, un⟩ (call (.ref 98) [.str p tp]) (Ret s (fun v => ∃ t, v = .int (ovl (Lx p) 3) t)) E s := by
  have hr' : dp < recursionLimit := by omega
  w_top off
  have X0 := (O).x
  revert X0
  k_fill
  intro X0
  refine' enter O ?k6 ?k7 ?k8 ?k9 ?kB ?_ ?c2 ?c3 ?c4 ?c5
  case k6 => k_is
  case k7 => k_is
  case k8 => exact hr'
  case k9 => exact BindsTo.of_eq rfl
  case kB => exact locs rfl
  case c2 => exact rfl
  case c3 => exact rfl
  case c4 => exact rfl
  case c5 => decide
  intro L' h' mean mg mb F' N' X' T'
  clear X0
  (try dsimp only)
  (try k_fold)
  k_steps
  all_goals (try dsimp only)
  all_goals (refine Ret.of (by assumption) ⟨_, congrArg (Value.int · _) ?_⟩ rfl)
  all_goals show _ = (((0:Int)*1024+ovBit (Lx p) 0)*1024+ovBit (Lx p) 1)*1024+ovBit (Lx p) 2
  all_goals (first | rw [ovBit_t (p := Lx p) (i := 0) (by assumption)] | rw [ovBit_f (p := Lx p) (i := 0) (by assumption)])
  all_goals (first | rw [ovBit_t (p := Lx p) (i := 1) (by assumption)] | rw [ovBit_f (p := Lx p) (i := 1) (by assumption)])
  all_goals (first | rw [ovBit_t (p := Lx p) (i := 2) (by assumption)] | rw [ovBit_f (p := Lx p) (i := 2) (by assumption)])
  all_goals decide +kernel
/-- _law_overlaps -/
theorem ct_over {w : World} {A : Around} {E : Value → Shared → Prop} {s : Shared} {p : Str} {tp : Tok}
    (O : Ok w s.heap) (hA : A.handled = none) (hr : A.depth + 2 < recursionLimit) (hp : p.length ≤ 3) (hd : NoDot p) :
    wpAny (model PySem.Challenge.rw_pg0085_01.row.prog w) A (call (.ref 98) [.str p tp]) (Ret s (fun v => ∃ t, v = .int (ovl (Lx p) p.length) t)) E s := by
  obtain ⟨hh, dp, fr, gd, un⟩ := A
  cases hA
  have h : p.length = 0 ∨ p.length = 1 ∨ p.length = 2 ∨ p.length = 3 := by omega
  rcases h with h | h | h | h <;> rw [h]
  · exact ct_over0 O hr h hd
  · exact ct_over1 O hr h hd
  · exact ct_over2 O hr h hd
  · exact ct_over3 O hr h hd
end
end Mine
namespace Mine
section
section
variable {w : World} {A : Around} {s : Shared} {prog : Program}
theorem Ret.ofH {s s' : Shared} {P : Value → Prop} {v : Value} {L ax : Addr} {lo : Obj} {m : Str → Option Value} {h₁ : Heap} {tk : Nat} {news : List (Addr × Obj)} (hx : s.heap.get? ax = some lo)
    (F : Fr (s.heap.hide ax) L h₁ m) (N : News (s.heap.hide ax) L h₁ news) (hm : (ax, lo) ∈ news) (p : P v) (e : s' = { s with heap := h₁, toks := tk }) : Ret s P v s' :=
  ⟨p, h₁, tk, e, fun b o q => by
    by_cases hb : b = ax
    · subst hb
      rw [hx] at q
      cases q
      exact (N _ hm).1
    · exact F.keep b o ((Heap.hide_ne s.heap hb).trans q)⟩
/-- entering a def whose argument is a list of the caller's: it stands on the ledger -/
theorem enterH {E : Value → Shared → Prop} {Q : Value → Shared → Prop} {name qual : Str} {params : Arguments} {body : List Stmt} {scope : Scope} {dV kV doc pm cdv ct oc : Value} {an od : Option Addr} {osl : Array (Option Value)} {f : Addr} {vs : List Value} {binds : List (Str × Value)}
    {ax : Addr} {lo : Obj} (O : Ok w (s.heap.hide ax)) (hx : s.heap.get? ax = some lo)
    (ho : (hd.heap_39 w.params).lookup f = some ⟨oc, od, .func (fnOf name qual params body scope dV kV doc pm an cdv ct), osl⟩) (hcd : codeIn (hd.heap_39 w.params) cdv qual = true) (hroom : A.depth < recursionLimit)
    (hbind : BindsTo s (fnOf name qual params body scope dV kV doc pm an cdv ct) ⟨vs, []⟩ binds) (hloc : ∀ y ∈ binds, scope.names.lookup y.1 = some .local)
    (h : ∀ L' h₁ mean mg mb, Fr (s.heap.hide ax) L' h₁ (fun y => binds.reverse.lookup y) → News (s.heap.hide ax) L' h₁ [(ax, lo)] → (hd.heap_39 w.params).In (s.heap.hide ax) → Top hd.view_39 (looseW hd.view_39 []) mean mg mb (s.heap.hide ax) →
      wpAny (model prog w) (A.deeper (envOf qual scope L' f cdv)) (execs body (envOf qual scope L' f cdv))
        (fun fl s' => Q (match fl with | .ret v => v | _ => .none) s')
        (fun _ _ => False)
        { s with heap := h₁, toks := s.toks + binds.length })
    (hco : scope.isCoroutine = false) (hgen : scope.isGenerator = false) (hk : scope.kind = .function)
    (hcell : ∀ x ∈ scope.names, x.2 ≠ .cell) : wpAny (model prog w) A (call (.ref f) vs) Q E s := by
  obtain ⟨mean, mg, mb, T⟩ := O.t
  have up : ∀ b o, (s.heap.hide ax).get? b = some o → s.heap.get? b = some o := fun b o e => Heap.of_hide e
  have O' := O.keeps up
  refine wpAny_call (codeAny_call_def (fd := fnOf name qual params body scope dV kV doc pm an cdv ct) (body := body) (binds := binds) hroom (O'.x _ _ ho) rfl (T.nolimit.keeps up) (codeRec_of O'.x hcd) rfl hbind hcell hloc (fun h₁ hns hk₁ => ?_) hco hgen hk)
  refine wpAny_mono (h s.heap.objs.size h₁ mean mg mb ⟨hns, fun b o e => hk₁ b o (up b o e), Nat.le_of_eq (Heap.hide_size ..)⟩ ?_ O.x T) (fun _ _ q => q) fun _ _ e => e.elim
  intro p hp
  rw [List.mem_singleton.mp hp]
  exact ⟨hk₁ _ _ hx, Nat.ne_of_lt (Heap.lt_size hx), Heap.hide_self ..⟩
end
end
end Mine
namespace Mine
section
theorem ovBit_bd (p : List Nat) (i : Nat) : 0 ≤ ovBit p i ∧ ovBit p i ≤ 1 := by unfold ovBit; split <;> omega
theorem ovl_bd (p : List Nat) : ∀ n, 0 ≤ ovl p n ∧ ovl p n < 1024 ^ n
  | 0 => by simp [ovl]
  | n + 1 => by
    have h := ovl_bd p n
    have b := ovBit_bd p n
    rw [ovl, Int.pow_succ]
    omega
theorem ovl_lt (p : List Nat) (n : Nat) (h : n ≤ 3) : 0 ≤ ovl p n ∧ ovl p n < 1073741824 := by
  have b := ovl_bd p n
  have : n = 0 ∨ n = 1 ∨ n = 2 ∨ n = 3 := by omega
  rcases this with rfl | rfl | rfl | rfl <;> simp at b <;> omega
section
variable {w : World} {A : Around} {s : Shared} {E : Value → Shared → Prop} {Q : Value → Shared → Prop} {h₀ : Heap} {L : Addr} {m : Str → Option Value} {news : List (Addr × Obj)} {mean : ExcName → Option Value} {mg mb : Str → Option Value}
theorem use_over {p : Str} {tp : Tok} (F : Fr h₀ L s.heap m) (N : News h₀ L s.heap news) (X : (hd.heap_39 w.params).In h₀) (T : Top hd.view_39 (looseW hd.view_39 []) mean mg mb h₀)
    (hA : A.handled = none) (hr : A.depth + 2 < recursionLimit) (hp : p.length ≤ 3) (hd : NoDot p)
    (h : ∀ o t h' tk, ovl (Lx p) p.length = o → 0 ≤ o → o < 1073741824 → Fr h₀ L h' m → News h₀ L h' news → Q (.int o t) { s with heap := h', toks := tk }) :
    wpAny (model PySem.Challenge.rw_pg0085_01.row.prog w) A (call (.ref 98) [.str p tp]) Q E s := by
  refine use F N (ct_over (Ok.of F X T) hA hr hp hd) ?_
  rintro v h' tk ⟨t, rfl⟩ F' N'
  have b := ovl_lt (Lx p) p.length hp
  exact h _ t h' tk rfl b.1 b.2 F' N'
end
theorem mul_ok_l {a b : Int} (h0 : 0 ≤ a) (h : a < 18446744073709551616) : IntMulOk a b := IntMulOk.of_left (intBits_le_64 (by omega) (by omega))
theorem mul_ok_r {a b : Int} (h0 : 0 ≤ b) (h : b < 18446744073709551616) : IntMulOk a b := IntMulOk.of_right (intBits_le_64 (by omega) (by omega))
theorem prod_pos {a b c : Int} (ha : 0 < a) (hb : 0 < b) (hc : 0 < c) : a * b * c ≠ 0 := Int.ne_of_gt (Int.mul_pos (Int.mul_pos ha hb) hc)
theorem prod_pylong {x a b c : Int} (ha : 0 < a) (hb : 0 < b) (hc : 0 < c) (ha' : a < 1024) (hb' : b < 4398046511104) (hc' : c < 4398046511104) : Builtin.divisionGoesByPylong x (a * b * c) = false := by
  refine PyProof.noPylong_of_log2 ?_
  have h1 : a * b * c < 2 ^ 100 := by
    have e1 : a * b ≤ 1024 * 4398046511104 := Int.mul_le_mul (by omega) (by omega) (by omega) (by omega)
    have e2 : a * b * c ≤ 1024 * 4398046511104 * 4398046511104 := Int.mul_le_mul e1 (by omega) (by omega) (by omega)
    exact Int.lt_of_le_of_lt e2 (by decide)
  have h2 : 0 < a * b * c := Int.mul_pos (Int.mul_pos ha hb) hc
  have h3 : (a * b * c).natAbs < 2 ^ 100 := by omega
  have h4 : (a * b * c).natAbs ≠ 0 := by omega
  have h5 := (Nat.log2_lt h4).mpr h3
  omega
local macro_rules | `(tactic| walk_at "call ref") => `(tactic| ((with_reducible show wpAny _ _ (call (Value.ref 28) [Value.int _ _, Value.int _ _]) _ _ _); k_dflt (refine' use_add ?k1 ?k2 ?k3 ?k4 ?k5 ?k6   ?_; (case k1 => k_asm); (case k2 => k_asm); (case k3 => k_asm); (case k4 => k_asm); (case k5 => exact rfl); (case k6 => (simp only [depth_deeper, depth_in1]; omega));   k_whole); intro t' h' tk' F' N'; (try k_sweep)))
local macro_rules | `(tactic| walk_at "call ref") => `(tactic| ((with_reducible show wpAny _ _ (call (Value.ref 70) [Value.int _ _, Value.int _ _]) _ _ _); k_dflt (refine' use_sub ?k1 ?k2 ?k3 ?k4 ?k5 ?k6   ?_; (case k1 => k_asm); (case k2 => k_asm); (case k3 => k_asm); (case k4 => k_asm); (case k5 => exact rfl); (case k6 => (simp only [depth_deeper, depth_in1]; omega));   k_whole); intro t' h' tk' F' N'; (try k_sweep)))
local macro_rules | `(tactic| walk_at "call ref") => `(tactic| ((with_reducible show wpAny _ _ (call (Value.ref 56) [Value.int _ _, Value.int _ _]) _ _ _); k_dflt (refine' use_mul ?k1 ?k2 ?k3 ?k4 ?k5 ?k6 ?k7 ?_; (case k1 => k_asm); (case k2 => k_asm); (case k3 => k_asm); (case k4 => k_asm); (case k5 => exact rfl); (case k6 => (simp only [depth_deeper, depth_in1]; omega)); (case k7 => first | exact mul_ok_l (by omega) (by omega) | exact mul_ok_r (by omega) (by omega)); k_whole); intro t' h' tk' F' N'; (try k_sweep)))
local macro_rules | `(tactic| walk_at "call ref") => `(tactic| ((with_reducible show wpAny _ _ (call (Value.ref 42) [Value.int _ _, Value.int _ _]) _ _ _); k_dflt (refine' use_floordiv ?k1 ?k2 ?k3 ?k4 ?k5 ?k6 ?k7 ?k8 ?_; (case k1 => k_asm); (case k2 => k_asm); (case k3 => k_asm); (case k4 => k_asm); (case k5 => exact rfl); (case k6 => (simp only [depth_deeper, depth_in1]; omega)); (case k7 => exact prod_pos (by omega) (by omega) (by omega)); (case k8 => exact prod_pylong (by omega) (by omega) (by omega) (by omega) (by omega) (by omega)); k_whole); intro t' h' tk' F' N'; (try k_sweep)))
local macro_rules | `(tactic| walk_at "call ref") => `(tactic| ((with_reducible show wpAny _ _ (call (Value.ref 49) [Value.int _ _, Value.int _ _]) _ _ _); k_dflt (refine' use_lshift ?k1 ?k2 ?k3 ?k4 ?k5 ?k6 ?k7 ?k8 ?_; (case k1 => k_asm); (case k2 => k_asm); (case k3 => k_asm); (case k4 => k_asm); (case k5 => exact rfl); (case k6 => (simp only [depth_deeper, depth_in1]; omega)); (case k7 => omega); (case k8 => (rw [show Builtin.Int.intBits 1=1 by decide +kernel]; omega)); k_whole); intro t' h' tk' F' N'; (try k_sweep)))
local macro_rules | `(tactic| walk_at "call ref") => `(tactic| ((with_reducible show wpAny _ _ (call (Value.ref 98) [Value.str _ _]) _ _ _); k_dflt (refine' use_over ?k1 ?k2 ?k3 ?k4 ?k5 ?k6 ?k7 ?k8 ?_; (case k1 => k_asm); (case k2 => k_asm); (case k3 => k_asm); (case k4 => k_asm); (case k5 => exact rfl); (case k6 => (simp only [depth_deeper, depth_in1]; omega)); (case k7 => assumption); (case k8 => assumption); k_whole); intro o' t' h' tk' e' o0' o1' F' N'; (try k_sweep)))
local macro_rules | `(tactic| walk_at "pyIter ref") => `(tactic| ((with_reducible show wpAny _ _ (pyIter (Value.ref _)) (fun it s₂ => LoopAtV _ _ _ _ _ _ _ _ _ it s₂) _ _); k_listUnr))
/-- the quotient, by the signs' number and the pieces' overlaps -/
def qt (K o1 o2 f : Int) : Int := ((1 : Int) * 2 ^ (10 * (f + 1)).toNat).fdiv ((1024 - K) * (1 + (1024 - K) * o1) * (1 + (1024 - K) * o2))
set_option maxHeartbeats 8000000 in
theorem ct_quot2 {w : World} {dp un : Nat} {fr : Option (List Env)} {gd : Option (List Code)} {E : Value → Shared → Prop} {s : Shared} {ax : Addr} {nn : Nat} {p1 p2 : Str} {t1 t2 tk tf : Tok} {f : Int}
    (O : Ok w (s.heap.hide ax)) (hx : s.heap.get? ax = some (W.listOf #[.str p1 t1, .str p2 t2] nn)) (hr : dp + 6 < recursionLimit) (hf0 : 0 ≤ f) (hf1 : f ≤ 5)
    (l1 : p1.length ≤ 3) (l2 : p2.length ≤ 3) (d1 : NoDot p1) (d2 : NoDot p2) :
    wpAny (model PySem.Challenge.rw_pg0085_01.row.prog w) ⟨none, dp, fr, gd, un⟩ (call (.ref 105) [.ref ax, .int 2 tk, .int f tf]) (Ret s (fun v => ∃ t, v = .int (qt 2 (ovl (Lx p1) p1.length) (ovl (Lx p2) p2.length) f) t)) E s := by
  have hr' : dp < recursionLimit := by omega
  w_top off
  have X0 := (O).x
  revert X0
  k_fill
  intro X0
  refine' enterH O hx ?k6 ?k7 ?k8 ?k9 ?kB ?_ ?c2 ?c3 ?c4 ?c5
  case k6 => k_is
  case k7 => k_is
  case k8 => exact hr'
  case k9 => exact BindsTo.of_eq rfl
  case kB => exact locs rfl
  case c2 => exact rfl
  case c3 => exact rfl
  case c4 => exact rfl
  case c5 => decide
  intro L' h' mean mg mb F' N' X' T'
  clear X0
  (try dsimp only)
  (try k_fold)
  k_steps
  (with_reducible rename (ovl (Lx p1) _ = _) => e1)
  (with_reducible rename (ovl (Lx p2) _ = _) => e2)
  rw [e1, e2]
  exact Ret.ofH hx (by assumption) (by assumption) (by k_mem) ⟨_, rfl⟩ rfl
set_option maxHeartbeats 8000000 in
theorem ct_quot3 {w : World} {dp un : Nat} {fr : Option (List Env)} {gd : Option (List Code)} {E : Value → Shared → Prop} {s : Shared} {ax : Addr} {nn : Nat} {p1 p2 : Str} {t1 t2 tk tf : Tok} {f : Int}
    (O : Ok w (s.heap.hide ax)) (hx : s.heap.get? ax = some (W.listOf #[.str p1 t1, .str p2 t2] nn)) (hr : dp + 6 < recursionLimit) (hf0 : 0 ≤ f) (hf1 : f ≤ 5)
    (l1 : p1.length ≤ 3) (l2 : p2.length ≤ 3) (d1 : NoDot p1) (d2 : NoDot p2) :
    wpAny (model PySem.Challenge.rw_pg0085_01.row.prog w) ⟨none, dp, fr, gd, un⟩ (call (.ref 105) [.ref ax, .int 3 tk, .int f tf]) (Ret s (fun v => ∃ t, v = .int (qt 3 (ovl (Lx p1) p1.length) (ovl (Lx p2) p2.length) f) t)) E s := by
  have hr' : dp < recursionLimit := by omega
  w_top off
  have X0 := (O).x
  revert X0
  k_fill
  intro X0
  refine' enterH O hx ?k6 ?k7 ?k8 ?k9 ?kB ?_ ?c2 ?c3 ?c4 ?c5
  case k6 => k_is
  case k7 => k_is
  case k8 => exact hr'
  case k9 => exact BindsTo.of_eq rfl
  case kB => exact locs rfl
  case c2 => exact rfl
  case c3 => exact rfl
  case c4 => exact rfl
  case c5 => decide
  intro L' h' mean mg mb F' N' X' T'
  clear X0
  (try dsimp only)
  (try k_fold)
  k_steps
  (with_reducible rename (ovl (Lx p1) _ = _) => e1)
  (with_reducible rename (ovl (Lx p2) _ = _) => e2)
  rw [e1, e2]
  exact Ret.ofH hx (by assumption) (by assumption) (by k_mem) ⟨_, rfl⟩ rfl
/-- _law_quotient -/
theorem ct_quot {w : World} {A : Around} {E : Value → Shared → Prop} {s : Shared} {ax : Addr} {nn : Nat} {p1 p2 : Str} {t1 t2 tk tf : Tok} {f : Int} {k : Nat} (hk : k = 2 ∨ k = 3)
    (O : Ok w (s.heap.hide ax)) (hx : s.heap.get? ax = some (W.listOf #[.str p1 t1, .str p2 t2] nn)) (hA : A.handled = none) (hr : A.depth + 6 < recursionLimit) (hf0 : 0 ≤ f) (hf1 : f ≤ 5)
    (l1 : p1.length ≤ 3) (l2 : p2.length ≤ 3) (d1 : NoDot p1) (d2 : NoDot p2) :
    wpAny (model PySem.Challenge.rw_pg0085_01.row.prog w) A (call (.ref 105) [.ref ax, .int (k : Nat) tk, .int f tf]) (Ret s (fun v => ∃ t, v = .int (qt (k : Nat) (ovl (Lx p1) p1.length) (ovl (Lx p2) p2.length) f) t)) E s := by
  obtain ⟨hh, dp, fr, gd, un⟩ := A
  cases hA
  rcases hk with rfl | rfl
  · exact ct_quot2 O hx hr hf0 hf1 l1 l2 d1 d2
  · exact ct_quot3 O hx hr hf0 hf1 l1 l2 d1 d2
end
end Mine
namespace Mine
section
section
variable {prog : Program} {w : World} {A : Around} {E : Value → Shared → Prop} {s : Shared} {env : Env} {h₀ : Heap} {x : Str} {body : List Stmt} {Q : Flow → Shared → Prop}
/-- a loop over a list that stood before, by what holds of the frame between its turns -/
theorem iter_vals {l : Addr} {vs : List Value} {m₀ : Str → Option Value} {news : List (Addr × Obj)} (J : Nat → (Str → Option Value) → Prop)
    (hh : A.handled = none) (hl : h₀.IsList l vs.toArray) (F : Fr h₀ env.locals s.heap m₀) (N : News h₀ env.locals s.heap news) (hj : J 0 m₀)
    (turn : ∀ (i : Nat) v m₁ h tk own, vs[i]? = some v → J i m₁ → Fr h₀ env.locals h (fun y => if y = x then some v else m₁ y) → News h₀ env.locals h (own ++ news) →
      wpAny (model prog w) A (execs body env) (InvPost h₀ env.locals (J (i + 1)) (own ++ news) { s with heap := h, toks := tk } Q) E { s with heap := h, toks := tk })
    (done : ∀ m₁ h tk, J vs.length m₁ → Fr h₀ env.locals h m₁ → News h₀ env.locals h news → Q .next { s with heap := h, toks := tk }) :
    wpAny (model prog w) A (pyIter (.ref l)) (fun it s₂ => LoopAtV prog w A h₀ env x body Q E it s₂) E s := by
  have hls : s.heap.IsList l vs.toArray := hl.at fun o e => F.keep l o e
  obtain ⟨ol, hol, _⟩ := id hl
  have hlt : l < h₀.objs.size := Heap.lt_size hol
  have hne : l ≠ s.heap.objs.size := Nat.ne_of_lt (Nat.lt_trans (Nat.lt_of_lt_of_le hlt F.above) F.ns.lt)
  refine wpAny_pyIter_list hls ?_
  have W := Walks.list (prog := prog) (w := w) hh s.heap.objs.size l hne vs.toArray
  have hlen : vs.toArray.size = vs.length := by simp
  rw [hlen] at W
  let J' : Nat → (Str → Option Value) → List (Addr × Obj) → Prop := fun i m₁ news₁ => news₁ = news ∧ J i m₁
  refine ⟨_, _, _, vs.length, _, _, m₀, news, J', rfl, W, ?_, ?_, ?_, ⟨⟨_, Heap.get?_push_size _ rfl, rfl, rfl⟩, hls.at fun o e => Heap.get?_push_of_some _ e⟩, F.push _, (fun p hp => ⟨Heap.get?_push_of_some _ (N p hp).1, (N p hp).2⟩), ⟨rfl, hj⟩, ?_, ?_⟩
  · intro hm
    rcases List.mem_cons.mp hm with e | hm
    · exact absurd F.ns.lt (e ▸ Nat.lt_irrefl _)
    · exact absurd (Nat.lt_of_lt_of_le hlt F.above) ((List.mem_singleton.mp hm) ▸ Nat.lt_irrefl _)
  · intro b hb
    rw [List.mem_singleton.mp hb]
    exact next_is_new F
  · intro p hp hI
    exact absurd (Heap.lt_size (N p hp).1) ((List.mem_singleton.mp hI) ▸ Nat.lt_irrefl _)
  · rintro i v m₁ news₁ s₁ own ⟨hh', tk', rfl⟩ hin hP ⟨rfl, hJ⟩ hoff _ _ _ _ F₁ N₁
    have hv : vs[i]? = some v := by simpa using hP
    refine wpAny_mono (turn i v m₁ hh' tk' own hv hJ F₁ N₁) (fun f s₂ p => ?_) fun _ _ e => e
    have fin : InvEnd h₀ env.locals (J (i + 1)) (own ++ news₁) { s with heap := hh', toks := tk' } s₂ → LoopStepU h₀ env.locals [s.heap.objs.size] own (J' (i + 1)) { s with heap := hh', toks := tk' } .next s₂ := by
      rintro ⟨h', tk, m', news', e, F', N', hn, hm⟩
      exact ⟨rfl, h', tk, m', news₁, e, F', fun p hp => N' p (hn p hp), hoff, rfl, hm⟩
    cases f with
    | ret v => exact .ret p
    | brk => exact .brk p
    | next => exact .next (fin p)
    | cont => exact .cont (fin p)
  · rintro h' tk m' news' F' N' _ ⟨rfl, hJ⟩
    exact done m' h' tk hJ F' N'
/-- the same, one name that holds an int -/
theorem iter_accV {l : Addr} {vs : List Value} {m₀ : Str → Option Value} {news : List (Addr × Obj)} {y : Str} {a₀ : Int} {t₀ : Tok} (g : Int → Value → Int)
    (hh : A.handled = none) (hl : h₀.IsList l vs.toArray) (F : Fr h₀ env.locals s.heap m₀) (N : News h₀ env.locals s.heap news) (hy : m₀ y = some (.int a₀ t₀)) (hyx : y ≠ x)
    (turn : ∀ (i : Nat) v a ta h tk own, vs[i]? = some v → Fr h₀ env.locals h (fun z => if z = x then some v else if z = y then some (.int a ta) else m₀ z) → News h₀ env.locals h (own ++ news) →
      wpAny (model prog w) A (execs body env) (InvPost h₀ env.locals (fun m' => (∃ t', m' y = some (.int (g a v) t')) ∧ ∀ z, z ≠ x → z ≠ y → m' z = m₀ z) (own ++ news) { s with heap := h, toks := tk } Q) E { s with heap := h, toks := tk })
    (done : ∀ (u : Str → Option Value) t h tk, Fr h₀ env.locals h (fun z => if z = x then u z else if z = y then some (.int (vs.foldl g a₀) t) else m₀ z) → News h₀ env.locals h news → Q .next { s with heap := h, toks := tk }) :
    wpAny (model prog w) A (pyIter (.ref l)) (fun it s₂ => LoopAtV prog w A h₀ env x body Q E it s₂) E s := by
  refine iter_vals (fun i m => (∃ t, m y = some (.int ((vs.take i).foldl g a₀) t)) ∧ ∀ z, z ≠ x → z ≠ y → m z = m₀ z) hh hl F N ⟨⟨t₀, by simpa using hy⟩, fun _ _ _ => rfl⟩ ?_ ?_
  · rintro i v m₁ h tk own hv ⟨⟨ta, ha⟩, hm⟩ F₁ N₁
    have e : (fun z => if z = x then some v else m₁ z) = fun z => if z = x then some v else if z = y then some (Value.int ((vs.take i).foldl g a₀) ta) else m₀ z := by
      funext z
      by_cases h1 : z = x
      · simp [h1]
      · simp only [if_neg h1]
        by_cases h2 : z = y
        · subst h2; simp [ha]
        · simp only [if_neg h2]; exact hm z h1 h2
    rw [e] at F₁
    have hs : (vs.take (i + 1)).foldl g a₀ = g ((vs.take i).foldl g a₀) v := by
      rw [List.take_add_one, hv]; simp
    rw [hs]
    exact turn i v _ ta h tk own hv F₁ N₁
  · rintro m₁ h tk ⟨⟨t, ha⟩, hm⟩ F₁ N₁
    rw [List.take_length] at ha
    refine done m₁ t h tk ?_ N₁
    have e : (fun z => if z = x then m₁ z else if z = y then some (Value.int (vs.foldl g a₀) t) else m₀ z) = m₁ := by
      funext z
      by_cases h1 : z = x
      · simp [h1]
      · simp only [if_neg h1]
        by_cases h2 : z = y
        · subst h2; simp [ha]
        · simp only [if_neg h2]; exact (hm z h1 h2).symm
    rw [e]; exact F₁
end
end
end Mine
namespace Mine
section
theorem fold_cnt : ∀ (bs : List Bool) (a : Int), (bs.map Value.bool).foldl (fun a v => a + (if v = .bool true then 1 else 0)) a = a + ((bs.count true : Nat) : Int)
  | [], a => by simp
  | b :: r, a => by
    rw [List.map_cons, List.foldl_cons, fold_cnt r]
    cases b <;> simp <;> omega
theorem iter_cnt {prog : Program} {w : World} {A : Around} {E : Value → Shared → Prop} {s : Shared} {env : Env} {h₀ : Heap} {x : Str} {body : List Stmt} {Q : Flow → Shared → Prop}
    {l : Addr} {bs : List Bool} {m₀ : Str → Option Value} {news : List (Addr × Obj)} {y : Str} {a₀ : Int} {t₀ : Tok}
    (hh : A.handled = none) (hl : h₀.IsList l (bs.map Value.bool).toArray) (F : Fr h₀ env.locals s.heap m₀) (N : News h₀ env.locals s.heap news) (hy : m₀ y = some (.int a₀ t₀)) (hyx : y ≠ x)
    (tt : ∀ a ta h tk own, Fr h₀ env.locals h (fun z => if z = x then some (.bool true) else if z = y then some (.int a ta) else m₀ z) → News h₀ env.locals h (own ++ news) →
      wpAny (model prog w) A (execs body env) (InvPost h₀ env.locals (fun m' => (∃ t', m' y = some (.int (a + 1) t')) ∧ ∀ z, z ≠ x → z ≠ y → m' z = m₀ z) (own ++ news) { s with heap := h, toks := tk } Q) E { s with heap := h, toks := tk })
    (ff : ∀ a ta h tk own, Fr h₀ env.locals h (fun z => if z = x then some (.bool false) else if z = y then some (.int a ta) else m₀ z) → News h₀ env.locals h (own ++ news) →
      wpAny (model prog w) A (execs body env) (InvPost h₀ env.locals (fun m' => (∃ t', m' y = some (.int a t')) ∧ ∀ z, z ≠ x → z ≠ y → m' z = m₀ z) (own ++ news) { s with heap := h, toks := tk } Q) E { s with heap := h, toks := tk })
    (done : ∀ (u : Str → Option Value) t h tk, Fr h₀ env.locals h (fun z => if z = x then u z else if z = y then some (.int (a₀ + ((bs.count true : Nat) : Int)) t) else m₀ z) → News h₀ env.locals h news → Q .next { s with heap := h, toks := tk }) :
    wpAny (model prog w) A (pyIter (.ref l)) (fun it s₂ => LoopAtV prog w A h₀ env x body Q E it s₂) E s := by
  refine iter_accV (y := y) (fun a v => a + (if v = .bool true then 1 else 0)) hh hl F N hy hyx ?_ ?_
  · intro i v a ta h tk own hv F' N'
    rw [List.getElem?_map] at hv
    obtain ⟨b, hb, e⟩ := Option.map_eq_some_iff.mp hv
    subst e
    cases b
    · have e : (a + (if Value.bool false = Value.bool true then (1 : Int) else 0)) = a := by simp
      rw [e]
      exact ff a ta h tk own F' N'
    · exact tt a ta h tk own F' N'
  · rw [fold_cnt]
    exact done
local macro_rules | `(tactic| walk_at "exec For Name Name cons nil") => `(tactic| (k_here; (rename Fr _ _ _ _ => lF'); (with_unfolding_all refine' For_invVF lF' ?k1 ?k2 ?_; (case k1 => exact rfl); (case k2 => exact rfl); k_whole)))
local macro_rules | `(tactic| walk_at "pyIter ref") => `(tactic| ((with_reducible show wpAny _ _ (pyIter (Value.ref _)) (fun it s₂ => LoopAtV _ _ _ _ _ _ _ _ _ it s₂) _ _); (rename Fr _ _ _ _ => lF'); (rename News _ _ _ _ => lN'); (with_unfolding_all refine iter_cnt (y := Str.ofString "count") (by rfl) (by assumption) lF' lN' (by rfl) (by decide) (fun a' ta' h' tk' own' F' N' => ?_) (fun a' ta' h' tk' own' F' N' => ?_) (fun u' t' h' tk' F' N' => ?_)) <;> (clear lF' lN')))
set_option maxHeartbeats 8000000 in
theorem ct_count {w : World} {dp un : Nat} {fr : Option (List Env)} {gd : Option (List Code)} {E : Value → Shared → Prop} {s : Shared} {l : Addr} {bs : List Bool}
    (O : Ok w s.heap) (hr : dp < recursionLimit) (hl : s.heap.IsList l (bs.map Value.bool).toArray) :
    wpAny (model PySem.Challenge.rw_pg0085_01.row.prog w) ⟨none, dp, fr, gd, un⟩ (call (.ref 84) [.ref l, .bool true]) (Ret s (fun v => ∃ t, v = .int ((bs.count true : Nat) : Int) t)) E s := by
  w_top off
  have X0 := (O).x
  revert X0
  k_fill
  intro X0
  refine' enter O ?k6 ?k7 ?k8 ?k9 ?kB ?_ ?c2 ?c3 ?c4 ?c5
  case k6 => k_is
  case k7 => k_is
  case k8 => exact hr
  case k9 => exact BindsTo.of_eq rfl
  case kB => exact locs rfl
  case c2 => exact rfl
  case c3 => exact rfl
  case c4 => exact rfl
  case c5 => decide
  intro L' h' mean mg mb F' N' X' T'
  clear X0
  (try dsimp only)
  (try k_fold)
  k_steps
  all_goals (try dsimp only)
  all_goals (exact Ret.of (by assumption) ⟨_, congrArg (Value.int · _) (Int.zero_add _)⟩ rfl)
theorem ct_countA {w : World} {A : Around} {E : Value → Shared → Prop} {s : Shared} {l : Addr} {bs : List Bool}
    (O : Ok w s.heap) (hA : A.handled = none) (hr : A.depth < recursionLimit) (hl : s.heap.IsList l (bs.map Value.bool).toArray) :
    wpAny (model PySem.Challenge.rw_pg0085_01.row.prog w) A (call (.ref 84) [.ref l, .bool true]) (Ret s (fun v => ∃ t, v = .int ((bs.count true : Nat) : Int) t)) E s := by
  obtain ⟨hh, dp, fr, gd, un⟩ := A
  cases hA
  exact ct_count O hr hl
end
end Mine
namespace Mine
section
section
variable {w : World} {A : Around} {s : Shared} {prog : Program}
/-- entering a def that has cells -/
theorem enterC {E : Value → Shared → Prop} {Q : Value → Shared → Prop} {name qual : Str} {params : Arguments} {body : List Stmt} {scope : Scope} {dV kV doc pm cdv ct oc : Value} {an od : Option Addr} {osl : Array (Option Value)} {f : Addr} {vs : List Value} {binds : List (Str × Value)}
    (O : Ok w s.heap)
    (ho : (hd.heap_39 w.params).lookup f = some ⟨oc, od, .func (fnOf name qual params body scope dV kV doc pm an cdv ct), osl⟩) (hcd : codeIn (hd.heap_39 w.params) cdv qual = true) (hroom : A.depth < recursionLimit)
    (hbind : BindsTo s (fnOf name qual params body scope dV kV doc pm an cdv ct) ⟨vs, []⟩ binds)
    (hkind : (binds.all fun y => scope.names.lookup y.1 == some .local || scope.names.lookup y.1 == some .cell) = true)
    (hnd : ((cellsFrom 0 scope.names []).map (·.1)).Nodup)
    (h : ∀ L' h₁ tk cells mean mg mb, Fr s.heap L' h₁ (bindL (envOfC qual scope L' f cdv).kindOf binds fun _ => none) → News s.heap L' h₁ cells →
      CellsAre (bindC (envOfC qual scope L' f cdv).kindOf binds fun _ => none) (cellsFrom (L' + 1) scope.names []) cells → (hd.heap_39 w.params).In s.heap → Top hd.view_39 (looseW hd.view_39 []) mean mg mb s.heap →
      wpAny (model prog w) (A.deeper (envOfC qual scope L' f cdv)) (execs body (envOfC qual scope L' f cdv))
        (fun fl s' => Q (match fl with | .ret v => v | _ => .none) s')
        (fun _ _ => False)
        { s with heap := h₁, toks := tk })
    (hco : scope.isCoroutine = false) (hgen : scope.isGenerator = false) (hk : scope.kind = .function) : wpAny (model prog w) A (call (.ref f) vs) Q E s := by
  obtain ⟨mean, mg, mb, T⟩ := O.t
  refine wpAny_call (codeAny_call_function (fd := fnOf name qual params body scope dV kV doc pm an cdv ct) hroom (O.x _ _ ho) rfl hco hgen rfl (codeRec_of O.x hcd) (hbind _ _ _ _ ?_))
  refine wpAny_newFunctionEnv_cells hk (kindsX hkind _) fun env' he s' x => ?_
  subst he
  refine ⟨T.nolimit.keeps x.toInCall.keep, codeAny_func ?_⟩
  obtain ⟨h₁, tk, rfl, _⟩ := x.done
  obtain ⟨cells, NC, Y⟩ := Cl.news (h₀ := s.heap) (Nat.le_refl _) fun n c hm => ⟨x.cell n c (lookup_of_mem_nodup (cellsFrom_names scope.names 0 (s.heap.objs.size + 1) [] [] rfl ▸ hnd) hm), x.above n c hm⟩
  exact wpAny_mono (h s.heap.objs.size h₁ tk cells mean mg mb ⟨x.toInCall.ns, x.toInCall.keep, Nat.le_refl _⟩ NC Y O.x T) (fun _ _ q => q) fun _ _ e => e.elim
end
end
end Mine
namespace Mine
section
open LCg
/-- an element's end: the value as told, the rest as it was -/
def EltEnd (s : Shared) (h₀ : Heap) (L : Addr) (m : Str → Option Value) (nw : List (Addr × Obj)) (R : Value → Prop) (y : Value) (s₂ : Shared) : Prop :=
  ∃ h' tk', s₂ = { s with heap := h', toks := tk' } ∧ Fr h₀ L h' m ∧ News h₀ L h' nw ∧ R y
section
variable {prog : Program} {w : World} {A : Around} {s : Shared} {h₀ : Heap} {L : Addr} {m : Str → Option Value} {env : Env} {elt : PySem.Expr} {x : Str} {scope : Scope} {cl : List (Str × Addr)} {S : List (Addr × Obj) → Prop} {news : List (Addr × Obj)}
/-- a comprehension over any number of items: each element is told by G -/
theorem comp_rest {vs : List Value} {Fin : List Value → List (Addr × Obj) → Prop} (G : Value → Value → Prop) (hS : S news)
    (el : ∀ (v : Value) I oI C oC D ys m₂ h tk (E' : Value → Shared → Prop) (R : Value → Prop), v ∈ vs → NsObj oC m₂ → m₂ x = some v → Fr h₀ L h m → News h₀ L h ((I, oI) :: (C, oC) :: (D, lst ys) :: news) →
      (∀ y, G v y → R y) →
      wpAny (model prog w) A (eval elt (compEnvC scope cl C env)) (EltEnd s h₀ L m ((I, oI) :: (C, oC) :: (D, lst ys) :: news) R) E' { s with heap := h, toks := tk }) :
    ∀ (n i : Nat) (ys : List Value), i + n = vs.length → (∀ zs, Paired G (vs.drop i) zs → Fin (ys ++ zs) news) → CompRest prog w A h₀ L m env elt x scope cl s S (fun i v => vs.toArray[i]? = some v) Fin n i ys news
  | 0, i, ys, hn, hf => by
    refine CompRest.zero ?_
    have e : vs.drop i = [] := List.drop_eq_nil_of_le (by omega)
    have := hf [] (by rw [e]; exact .nil)
    rwa [List.append_nil] at this
  | n + 1, i, ys, hn, hf => by
    refine CompRest.succ ?_
    intro v I oI C oC D m₂ h tk E' hP hoC hm F N off hne
    have hv : vs[i]? = some v := by simpa using hP
    have hd : vs.drop i = v :: vs.drop (i + 1) := by
      obtain ⟨hlt, he⟩ := List.getElem?_eq_some_iff.mp hv
      rw [List.drop_eq_getElem_cons hlt, he]
    refine wpAny_mono (el v I oI C oC D ys m₂ h tk E' (fun y => CompRest prog w A h₀ L m env elt x scope cl s S (fun i v => vs.toArray[i]? = some v) Fin n (i + 1) (ys ++ [y]) news) (List.mem_of_getElem? hv) hoC hm F N (fun y hy => ?_)) (fun y s₂ q => ?_) fun _ _ e => e
    · refine comp_rest G hS el n (i + 1) (ys ++ [y]) (by omega) fun zs hz => ?_
      have := hf (y :: zs) (by rw [hd]; exact .cons hy hz)
      rwa [List.append_assoc]
    · obtain ⟨h', tk', rfl, F', N', k⟩ := q
      exact ⟨h', tk', news, rfl, F', N', off, hS, k⟩
end
section
variable {prog : Program} {w : World} {A : Around} {E : Value → Shared → Prop} {s : Shared} {h₀ : Heap} {L : Addr} {m : Str → Option Value} {env : Env} {elt c : PySem.Expr} {x : Str} {scope : Scope} {news : List (Addr × Obj)} {Q : Value → Shared → Prop}
/-- a test's end: false, the rest as it was -/
def TestEnd (s : Shared) (ok : Bool) (s' : Shared) : Prop := ok = false ∧ Keeps s s'
/-- a comprehension whose test takes no item: a new list without items -/
theorem comp_none {ax : Addr} {its : Array Value} (hh : A.handled = none) (F : Fr h₀ L s.heap m) (N : News h₀ L s.heap news) (hl : s.heap.IsList ax its) (hsz : its.size ≤ sizeLine)
    (test : ∀ C v s₃ m₃ (E' : Value → Shared → Prop), v ∈ its → s₃.heap.Ns C m₃ → m₃ x = some v → Fr h₀ L s₃.heap m → News h₀ L s₃.heap news →
      wpAny (model prog w) A (isTrue c (compEnv scope C env) (eval c (compEnv scope C env))) (TestEnd s₃) E' s₃)
    (h : ∀ D h' tk n, Fr h₀ L h' m → News h₀ L h' ((D, W.listOf #[] n) :: news) → Q (.ref D) { s with heap := h', toks := tk }) :
    wpAny (model prog w) A (pyIter (.ref ax)) (CompPost prog w A env scope x [c] elt Q) E s := by
  obtain ⟨ol, hol, hol'⟩ := id hl
  have hax : ax < s.heap.objs.size := Heap.lt_size hol
  refine wpAny_pyIter_list hl ?_
  have up : ∀ b o, s.heap.get? b = some o → (s.heap.push { cls := .type "list_iterator", data := .fields #[.ref ax, .int 0 0] }).get? b = some o := fun b o e => Heap.get?_push_of_some _ e
  have lt : ∀ b o, s.heap.get? b = some o → b ∉ [s.heap.objs.size] := fun b o e hb => by
    have := Heap.lt_size e
    rw [List.mem_singleton.mp hb] at this
    exact Nat.lt_irrefl _ this
  refine ⟨fun _ => false, fun _ _ => True, s.heap.objs.size, _, _, _, _, _, rfl, Walks.list hh s.heap.objs.size ax (Nat.ne_of_lt hax) its, hsz, ⟨⟨_, Heap.get?_push_size _ rfl, rfl, rfl⟩, hl.push _⟩, ?_, ⟨?_, ?_⟩, ?_⟩
  · intro b hb
    show b < (s.heap.push _).objs.size
    rw [Heap.size_push]
    rcases List.mem_cons.mp hb with rfl | hb
    · exact Nat.lt_succ_self _
    · rw [List.mem_singleton.mp hb]; exact Nat.lt_succ_of_lt hax
  · intro C i v s₃ m₃ E' hv hn hm hk htk
    have hv' : v ∈ its := Array.mem_of_getElem? hv
    have k : ∀ b o, s.heap.get? b = some o → s₃.heap.get? b = some o := fun b o e => hk b o (lt b o e) (up b o e)
    refine wpAny_tests_one (wpAny_mono (test C v s₃ m₃ E' hv' hn hm ⟨F.ns.keeps k, fun b o e => k b o (F.keep b o e), F.above⟩ fun p hp => ⟨k _ _ (N p hp).1, (N p hp).2⟩) (fun _ _ q => q) fun _ _ e => e)
  · intro C i v s₃ m₃ E' _ hp
    cases hp
  · intro D h' tk ys vs hD _ hpl _ _ hP hk
    have k : ∀ b o, s.heap.get? b = some o → h'.get? b = some o := fun b o e => hk b o (lt b o e) (up b o e)
    have e0 : vs.filter (fun _ => false) = [] := by simp
    rw [e0] at hP
    have e1 : ys.toList = [] := by
      have := hP.length
      exact List.eq_nil_of_length_eq_zero (by simpa using this.symm)
    have e2 : ys = #[] := Array.toList_inj.mp e1
    obtain ⟨n, hn⟩ := hpl
    rw [e2] at hn
    have hDs : s.heap.get? D = none := by
      cases q : s.heap.get? D with
      | none => rfl
      | some o => have := up D o q; rw [hD] at this; cases this
    refine h D h' tk n ⟨F.ns.keeps k, fun b o e => k b o (F.keep b o e), F.above⟩ fun p hp => ?_
    rcases List.mem_cons.mp hp with rfl | hp
    · refine ⟨hn, fun e => ?_, ?_⟩
      · obtain ⟨o, _, _, ho, _⟩ := F.ns
        have e' : D = L := e
        rw [e', ho] at hDs; cases hDs
      · cases q : h₀.get? D with
        | none => rfl
        | some o => have := F.keep D o q; rw [hDs] at this; cases this
    · exact ⟨k _ _ (N p hp).1, (N p hp).2⟩
end
end
end Mine
namespace Mine
section
section
variable {M : Model} {w : World} {A : Around} {E : Value → Shared → Prop} {s : Shared} {h₀ : Heap} {L C : Addr} {m m₃ mg mb : Str → Option Value} {mean : ExcName → Option Value} {env : Env} {x : Str} {pos : Pos} {scope : Scope} {v : Value} {Q : Value → Shared → Prop}
theorem nameC_L (hn : s.heap.Ns C m₃) (hv : m₃ x = some v) (h : Q v s) (hk : scope.kind = .function) (hx : (compEnv scope C env).kindOf x = some .local) (hb : (x == ("__debug__" : Str)) = false) :
    wpAny M A (eval (.Name x pos) (compEnv scope C env)) Q E s := wpAny_Name (wpAny_loadName_local hk hx hn hv h) hb
theorem nameC_B (F : Fr h₀ L s.heap m) (X : (hd.heap_39 w.params).In h₀) (T : Top hd.view_39 (looseW hd.view_39 []) mean mg mb h₀) (e : nsIn (hd.heap_39 w.params) mainGlobals x = some none) (hv : bootBuiltins x = some v) (hn : x ≠ "__name__") (h : Q v s)
    (hg : env.globals = mainGlobals) (hb : env.builtins = builtinsNs) (hk : scope.kind = .function) (hx : (compEnv scope C env).kindOf x = some .globalImplicit) (hd : (x == ("__debug__" : Str)) = false) :
    wpAny M A (eval (.Name x pos) (compEnv scope C env)) Q E s :=
  Name_function_global hk hx (loadGlobal_builtin (env := compEnv scope C env) (by show Heap.Ns _ env.globals _; rw [hg]; exact T.g.keeps F.keep) (mg_none_of X T.g e) (by show Heap.Ns _ env.builtins _; rw [hb]; exact T.b.keeps F.keep) ((T.builtins x hn).trans hv) h) hd
end
local macro_rules | `(tactic| walk_at "eval Name") => `(tactic| (k_here; (with_reducible show wpAny _ _ (eval (Expr.Name _ _) (compEnv _ _ _)) _ _ _); k_dflt (first
  | (refine' nameC_L ?k1 ?k2 ?_ ?a ?b ?c; (case a => rfl); (case b => rfl); (case c => decide); (case k1 => assumption); (case k2 => assumption); k_whole)
  | (refine' nameC_B ?F ?X ?T ?e ?v ?n ?_ ?g ?bb ?a ?b ?c; (case g => rfl); (case bb => rfl); (case a => rfl); (case b => rfl); (case c => decide); (case F => k_asm); (case X => k_asm); (case T => k_asm); (case e => k_is); (case v => boot_fast); (case n => decide); k_whole))))
theorem strs_mem {vs : List Value} {ws : List Str} (h : StrsAre vs ws) {v : Value} (hv : v ∈ vs) : ∃ x t, v = .str x t ∧ x ∈ ws := by
  induction h with
  | nil => cases hv
  | cons y t _ ih =>
    rcases List.mem_cons.mp hv with rfl | hv
    · exact ⟨y, t, rfl, List.mem_cons_self ..⟩
    · obtain ⟨x, t', e, hx⟩ := ih hv
      exact ⟨x, t', e, List.mem_cons_of_mem _ hx⟩
theorem paired_bools (f : Str → Bool) {vs : List Value} {ws : List Str} (h : StrsAre vs ws) : ∀ {zs : List Value}, Paired (fun v y => ∃ x t, v = .str x t ∧ y = .bool (f x)) vs zs → zs = (ws.map f).map Value.bool := by
  induction h with
  | nil => intro zs hz; cases hz; rfl
  | cons y t _ ih =>
    intro zs hz
    cases hz with
    | cons hy hr =>
      obtain ⟨x, t', e, rfl⟩ := hy
      cases e
      rw [ih hr]
      rfl
set_option maxHeartbeats 8000000 in
theorem ct_counted' {w : World} {dp un : Nat} {fr : Option (List Env)} {gd : Option (List Code)} {E : Value → Shared → Prop} {s : Shared} {l : Addr} {ws : List Str} {vs : List Value} {tw : Tok} {a z : Str} {ms : List Str}
    (O : Ok w s.heap) (hr : dp + 4 < recursionLimit) (hl : s.heap.IsList l vs.toArray) (hs : StrsAre vs ws) (hsz : vs.length ≤ 1000) (hws : ∀ x ∈ ws, x.length ≤ 1000)
    (hm : Pieces ms) (hd : ∀ x ∈ a :: (ms ++ [z]), NoDot x) (hl100 : ∀ x ∈ a :: (ms ++ [z]), x.length ≤ 100) :
    wpAny (model PySem.Challenge.rw_pg0085_01.row.prog w) ⟨none, dp, fr, gd, un⟩ (call (.ref 110) [.str (Str.join dots (a :: (ms ++ [z]))) tw, .ref l]) (Ret s (fun v => ∃ t, v = .int (((ws.map (em a ms z)).count true : Nat) : Int) t)) E s := by
  have hr' : dp < recursionLimit := by omega
  have hsz' : vs.toArray.size ≤ sizeLine := by rw [sizeLine_eq]; simp; omega
  w_top off
  have X0 := (O).x
  revert X0
  k_fill
  intro X0
  refine' enterC O ?k6 ?k7 ?k8 ?k9 ?kB ?kD ?_ ?c2 ?c3 ?c4
  case k6 => k_is
  case k7 => k_is
  case k8 => exact hr'
  case k9 => exact BindsTo.of_eq rfl
  case kB => exact rfl
  case kD => decide +kernel
  case c2 => exact rfl
  case c3 => exact rfl
  case c4 => exact rfl
  intro L' h' tk' cells' mean mg mb F' N' Y' X' T'
  clear X0
  k_cells Y'
  (try dsimp only)
  (try k_fold)
  k_steps
  refine Or.inl ⟨l, vs.toArray, _, rfl, rfl, F', N', Or.inl hl, hsz', ?_⟩
  rintro s₂ ⟨h, rfl⟩
  refine comp_rest (fun v y => ∃ x t, v = .str x t ∧ y = .bool (em a ms z x)) (Or.inl hl) ?_ vs.length 0 [] (by simp) ?_
  · intro v I oI C oC D ys m₂ h tk E' R hv hoC hm F N hR
    obtain ⟨x, t, rfl, hx⟩ := strs_mem hs hv
    k_steps
    refine use F N (ct_want (Ok.of F X' T') rfl ?_ ‹_› hd hl100 (hws x hx)) ?_
    · simp only [depth_deeper, depth_in1]; omega
    · rintro v h2 tk2 rfl F2 N2
      exact ⟨_, _, rfl, F2, N2, hR _ ⟨x, t, rfl, rfl⟩⟩
  · intro zs hz
    have ez := paired_bools (em a ms z) hs hz
    subst ez
    intro D h tk F N off
    k_steps
    refine comp_none rfl (by assumption) (by assumption) (News.isList (by assumption) (by k_mem)) ?_ ?_ ?_
    · rw [sizeLine_eq]
      have := hs.length
      simp
      omega
    · intro C v s₃ m₃ E' hv hn hm F3 N3
      have hv' : ∃ b, v = .bool b := by
        have h1 : v ∈ (ws.map (em a ms z)).map Value.bool := by simpa using hv
        obtain ⟨b, _, e⟩ := List.mem_map.mp h1
        exact ⟨b, e.symm⟩
      obtain ⟨b, rfl⟩ := hv'
      k_steps
      exact ⟨rfl, Keeps.refl _⟩
    · intro D2 h2 tk2 n2 F2 N2
      k_steps
      refine use F2 N2 (ct_countA (bs := ws.map (em a ms z)) (Ok.of F2 X' T') rfl ?_ (News.isList N2 (by k_mem))) ?_
      · simp only [depth_deeper]; omega
      · rintro v h3 tk3 ⟨t, rfl⟩ F4 N4
        exact Ret.of F4 ⟨_, rfl⟩ rfl
end
end Mine
namespace Mine
section
abbrev Ex2 (elt iter1 iter2 : PySem.Expr) (x1 x2 : Str) (q1 q2 : Pos) (scope : Scope) (pos : Pos) : PySem.Expr :=
  .ListComp elt [⟨.Name x1 q1, iter1, [], 0⟩, ⟨.Name x2 q2, iter2, [], 0⟩] scope pos
section
variable {elt iter1 iter2 : PySem.Expr} {x1 x2 : Str} {q1 q2 : Pos} {scope : Scope} {pos : Pos} {it acc : Value} {env : Env}
theorem turn_in : compTurn (Ex2 elt iter1 iter2 x1 x2 q1 q2 scope pos) 1 it acc env = (standAt iter2.pos >>= fun _ => pyNext it >>= fun r => match r with
      | none => pure (.done .next)
      | some v => letOwnedTupleGo (.Name x2 q2) it v >>= fun _ => assign (.Name x2 q2) env v >>= fun _ =>
        (eval elt env >>= fun x => call (.builtin "list.append") [acc, x] >>= fun _ => pure ()) >>= fun _ =>
          again (.compLoop (Ex2 elt iter1 iter2 x1 x2 q1 q2 scope pos) 1 it acc env)) := by rfl
theorem turn_out : compTurn (Ex2 elt iter1 iter2 x1 x2 q1 q2 scope pos) 0 it acc env = (standAt iter1.pos >>= fun _ => pyNext it >>= fun r => match r with
      | none => pure (.done .next)
      | some v => letOwnedTupleGo (.Name x1 q1) it v >>= fun _ => assign (.Name x1 q1) env v >>= fun _ =>
        eval iter2 env >>= fun x => standAt iter2.pos >>= fun _ => foldedSetIterable iter2 env x >>= fun x => holding [x] (pyIter x) >>= fun it2 =>
          runOwn (.compStart (Ex2 elt iter1 iter2 x1 x2 q1 q2 scope pos) 1 it2 acc env) env >>= fun _ =>
          again (.compLoop (Ex2 elt iter1 iter2 x1 x2 q1 q2 scope pos) 0 it acc env)) := by rfl
end
section
variable {prog : Program} {w : World} {A : Around} {R : Result → Shared → Prop} {s : Shared} {elt iter1 iter2 : PySem.Expr} {x1 x2 : Str} {q1 q2 : Pos} {scope : Scope} {pos : Pos} {it acc : Value} {env : Env}
theorem start_2 {d : Nat} (hd : d < 2)
    (h0 : codeAny (model prog w) A (.compLoop (Ex2 elt iter1 iter2 x1 x2 q1 q2 scope pos) d it acc env) R s)
    (h : wpAny (model prog w) A (pyIter it) (fun it' s' => codeAny (model prog w) A (.compLoop (Ex2 elt iter1 iter2 x1 x2 q1 q2 scope pos) d it' acc env) R s')
      (notedBy (model prog w) A env fun x s' => R (.error x) s') s) :
    codeAny (model prog w) A (.compStart (Ex2 elt iter1 iter2 x1 x2 q1 q2 scope pos) d it acc env) R s := by
  refine codeAny_of_tree ?_
  show wpAny _ _ ((compStart (Ex2 elt iter1 iter2 x1 x2 q1 q2 scope pos) d it acc env).onRaise (fun x => do noteFrame x env; standAt theWindowsPlace)) _ _ s
  refine wpAny_notedAt ?_
  unfold compStart
  have hd' : d = 0 ∨ d = 1 := by omega
  rcases hd' with rfl | rfl
  · show wpAny _ _ (ask >>= _) _ _ s
    refine wpAny_bind (wpAny_askSetting (wpAny_ite ?_))
    split
    · first
        | exact wpAny_bind (wpAny_pure (wpAny_pure (And.intro rfl h0)))
        | exact wpAny_pure (And.intro rfl h0)
    · refine wpAny_bind (wpAny_rule ?_)
      show wpAny _ _ (standAt iter1.pos >>= _) _ _ s
      exact wpAny_bind (wpAny_standAt (wpAny_bind (wpAny_mono h (fun it' s' h' => wpAny_pure (And.intro rfl h')) fun _ _ x => x)))
  · show wpAny _ _ (ask >>= _) _ _ s
    refine wpAny_bind (wpAny_askSetting (wpAny_ite ?_))
    split
    · first
        | exact wpAny_bind (wpAny_pure (wpAny_pure (And.intro rfl h0)))
        | exact wpAny_pure (And.intro rfl h0)
    · refine wpAny_bind (wpAny_rule ?_)
      show wpAny _ _ (standAt iter2.pos >>= _) _ _ s
      exact wpAny_bind (wpAny_standAt (wpAny_bind (wpAny_mono h (fun it' s' h' => wpAny_pure (And.intro rfl h')) fun _ _ x => x)))
end
theorem strsAre_snoc {y : Str} {t : Tok} : ∀ {vs : List Value} {ys : List Str}, StrsAre vs ys → StrsAre (vs ++ [.str y t]) (ys ++ [y])
  | _, _, .nil => .cons y t .nil
  | _, _, .cons z u r => .cons z u (strsAre_snoc r)
theorem strsAre_len : ∀ {vs : List Value} {ys : List Str}, StrsAre vs ys → vs.length = ys.length
  | _, _, .nil => rfl
  | _, _, .cons _ _ r => by rw [List.length_cons, List.length_cons, strsAre_len r]
section
variable {prog : Program} {w : World} {A : Around} {R : Result → Shared → Prop} {s : Shared} {elt iter1 iter2 : PySem.Expr} {x1 x2 : Str} {q1 q2 : Pos} {scope : Scope} {pos : Pos} {env : Env}
/-- the inner clause: a word and all letters -/
theorem loop_in {I2 D : Addr} {ls : Str} {St : Nat → Heap → Prop} {v1 : Value} {wd : Str} {m : Str → Option Value} {ys : Array Value} {Y : List Str}
    (W : Walks prog w A I2 [I2] [I2] ls.cps.size (SignAt ls) St) (hx2 : env.kindOf x2 = some .local) (hx12 : x1 ≠ x2)
    (hp : (env.scope.kind == .class || (env.scope.kind == .module && env.locals != env.globals)) = false)
    (hD : D ≠ I2) (hC : env.locals ≠ I2) (hDC : D ≠ env.locals) (hst : St 0 s.heap) (hl : s.heap.PlainList D ys) (hY : StrsAre ys.toList Y) (hn : s.heap.Ns env.locals m) (hm : m x1 = some v1)
    (hsz : Y.length + ls.length ≤ 5000)
    (el : ∀ c u s₂ m₂, c ∈ ls.cps → s₂.heap.Ns env.locals m₂ → m₂ x1 = some v1 → m₂ x2 = some (.str ⟨#[c]⟩ u) → (∀ b o, b ≠ env.locals → b ≠ I2 → b ≠ D → s.heap.get? b = some o → s₂.heap.get? b = some o) →
      wpAny (model prog w) A (eval elt env) (fun y s₃ => (∃ t, y = .str (wd ++ ⟨#[c]⟩) t) ∧ Keeps s₂ s₃) (notedBy (model prog w) A env fun e s' => R (.error e) s') s₂)
    (hR : ∀ h' tk m' ys', h'.Ns env.locals m' → m' x1 = some v1 → h'.PlainList D ys' → StrsAre ys'.toList (Y ++ ls.cps.toList.map (fun c => wd ++ ⟨#[c]⟩)) →
      (∀ b o, b ≠ env.locals → b ≠ I2 → b ≠ D → s.heap.get? b = some o → h'.get? b = some o) → R (.ok .next) { s with heap := h', toks := tk }) :
    codeAny (model prog w) A (.compLoop (Ex2 elt iter1 iter2 x1 x2 q1 q2 scope pos) 1 (.ref I2) (.ref D) env) R s := by
  have hcs : ls.cps.size = ls.length := rfl
  refine codeAny_loop rfl (fun k s' => ∃ h' tk i ys' m', s' = { s with heap := h', toks := tk } ∧ i ≤ ls.cps.size ∧ k = ls.cps.size + 1 - i ∧ St i h' ∧ h'.PlainList D ys' ∧ StrsAre ys'.toList (Y ++ (ls.cps.toList.take i).map (fun c => wd ++ ⟨#[c]⟩)) ∧
      h'.Ns env.locals m' ∧ m' x1 = some v1 ∧ ∀ b o, b ≠ env.locals → b ≠ I2 → b ≠ D → s.heap.get? b = some o → h'.get? b = some o) (fun k s' hI => ?_) (ls.cps.size + 1)
    ⟨s.heap, s.toks, 0, ys, m, rfl, Nat.zero_le _, rfl, hst, hl, by simpa using hY, hn, hm, fun _ _ _ _ _ e => e⟩
  obtain ⟨H, tk, i, ys', m', rfl, hi, rfl, hst', hl', hY', hn', hm', hk⟩ := hI
  show wpAny _ A ((compTurn (Ex2 elt iter1 iter2 x1 x2 q1 q2 scope pos) 1 (.ref I2) (.ref D) env).onRaise (fun x => do noteFrame x env; theTreesLotGoes x)) _ _ _
  refine wpAny_noted ?_
  rw [turn_in]
  refine wpAny_bind (wpAny_standAt (wpAny_bind ?_))
  by_cases hlt : i < ls.cps.size
  · refine W.item i _ _ _ hlt hst' fun v h₁ tk₁ hPv hst₁ hk₁ => ?_
    obtain ⟨c, u, hc, rfl⟩ := hPv
    refine wpAny_bind (wpAny_pure ?_)
    refine wpAny_bind (wpAny_assign_Name (wpAny_storeName_local hx2 (hn'.at' fun o e => hk₁ _ o (by simpa using hC) e) (fun h₂ hn₂ hs₂ => ?_) hp))
    have up : ∀ b o, b ≠ env.locals → b ≠ I2 → H.get? b = some o → h₂.get? b = some o := fun b o hbC hbI e => hs₂.extBut b o hbC (hk₁ b o (by simpa using hbI) e)
    have hmem : c ∈ ls.cps := Array.mem_of_getElem? hc
    refine wpAny_bind (wpAny_bind (wpAny_mono (el c u _ _ hmem hn₂ (by simp only [if_neg hx12]; exact hm') (by simp) fun b o hbC hbI hbD e => up b o hbC hbI (hk b o hbC hbI hbD e)) (fun y s₃ h₃ => ?_) fun _ _ e => e))
    obtain ⟨⟨ty, rfl⟩, h₃, tk₃, rfl, hk₃⟩ := h₃
    have hl₃ : h₃.PlainList D ys' := hl'.at fun o e => hk₃ _ o (up D o hDC hD e)
    have hn₃ := hn₂.keeps hk₃
    have hlen := strsAre_len hY'
    simp only [Array.length_toList, List.length_append, List.length_map, List.length_take] at hlen
    refine wpAny_bind (wpAny_list_append_plain hl₃ (fun h₄ hl₄ hs₄ => ?_) (by rw [sizeLine_eq]; omega))
    refine wpAny_pure (wpAny_pure ⟨rfl, ls.cps.size + 1 - (i + 1), by omega, h₄, tk₃, i + 1, _, _, rfl, hlt, rfl, ?_, hl₄, ?_, hn₃.sameBut hs₄ (Ne.symm hDC), (by simp only [if_neg hx12]; exact hm'), ?_⟩)
    · exact W.frame _ _ _ hst₁ fun b hb o e => by
        have hb' : b = I2 := by simpa using hb
        subst hb'
        exact hs₄.extBut _ o (Ne.symm hD) (hk₃ _ o (hs₂.extBut _ o (Ne.symm hC) e))
    · have e1 : ls.cps.toList[i]? = some c := by simpa using hc
      rw [List.take_add_one, e1, Array.toList_push]
      simp only [Option.toList_some, List.map_append, List.map_cons, List.map_nil]
      rw [← List.append_assoc]
      exact strsAre_snoc hY'
    · intro b o hbC hbI hbD e
      exact hs₄.extBut b o hbD (hk₃ b o (up b o hbC hbI (hk b o hbC hbI hbD e)))
  · have hi' : i = ls.cps.size := by omega
    subst hi'
    refine W.done _ _ _ hst' fun h₁ tk₁ hk₁ => ?_
    refine wpAny_pure (hR h₁ tk₁ m' ys' (hn'.at' fun o e => hk₁ _ o (by simpa using hC) e) hm' (hl'.at fun o e => hk₁ _ o (by simpa using hD) e) ?_ fun b o hbC hbI hbD e => hk₁ b o (by simpa using hbI) (hk b o hbC hbI hbD e))
    rwa [List.take_of_length_le (by simp)] at hY'
/-- the outer clause: all words -/
theorem loop_out {I ax D : Addr} {ls : Str} {tl : Tok} {ws : List Str} {vs : List Value} {m : Str → Option Value}
    (hh : A.handled = none) (hx1 : env.kindOf x1 = some .local) (hx2 : env.kindOf x2 = some .local) (hx12 : x1 ≠ x2)
    (hp : (env.scope.kind == .class || (env.scope.kind == .module && env.locals != env.globals)) = false)
    (hDI : D ≠ I) (hDC : D ≠ env.locals) (hIC : I ≠ env.locals) (haI : ax ≠ I) (haC : ax ≠ env.locals) (haD : ax ≠ D)
    (hit : s.heap.IsListIter I ax 0) (hl : s.heap.IsList ax vs.toArray) (hs : StrsAre vs ws) (hacc : s.heap.PlainList D #[]) (hn : s.heap.Ns env.locals m)
    (hsz : ws.length * ls.length ≤ 4000) (hls : ls.length ≤ 1000) (hf : ∀ x, foldedSetIterable iter2 env x = pure x)
    (it2 : ∀ s₂ (E' : Value → Shared → Prop) (Q : Value → Shared → Prop), (∀ b o, b ≠ env.locals → b ≠ I → b ≠ D → s.heap.get? b = some o → s₂.heap.get? b = some o) → Q (.str ls tl) s₂ →
      wpAny (model prog w) A (eval iter2 env) Q E' s₂)
    (el : ∀ wd t1 c u s₂ m₂ (E' : Value → Shared → Prop), wd ∈ ws → c ∈ ls.cps → s₂.heap.Ns env.locals m₂ → m₂ x1 = some (.str wd t1) → m₂ x2 = some (.str ⟨#[c]⟩ u) → (∀ b o, b ≠ env.locals → b ≠ I → b ≠ D → s.heap.get? b = some o → s₂.heap.get? b = some o) →
      wpAny (model prog w) A (eval elt env) (fun y s₃ => (∃ t, y = .str (wd ++ ⟨#[c]⟩) t) ∧ Keeps s₂ s₃) E' s₂)
    (hR : ∀ h' tk m' ys', h'.Ns env.locals m' → h'.PlainList D ys' → StrsAre ys'.toList (ws.flatMap fun wd => ls.cps.toList.map (fun c => wd ++ ⟨#[c]⟩)) →
      (∀ b o, b ≠ env.locals → b ≠ I → b ≠ D → s.heap.get? b = some o → h'.get? b = some o) → R (.ok .next) { s with heap := h', toks := tk }) :
    codeAny (model prog w) A (.compLoop (Ex2 elt iter1 iter2 x1 x2 q1 q2 scope pos) 0 (.ref I) (.ref D) env) R s := by
  have hvl := strsAre_len hs
  have hsize : vs.toArray.size = vs.length := by simp
  refine codeAny_loop rfl (fun k s' => ∃ h' tk i ys' m', s' = { s with heap := h', toks := tk } ∧ i ≤ vs.length ∧ k = vs.length + 1 - i ∧ h'.IsListIter I ax i ∧ h'.IsList ax vs.toArray ∧ h'.PlainList D ys' ∧
      StrsAre ys'.toList ((ws.take i).flatMap fun wd => ls.cps.toList.map (fun c => wd ++ ⟨#[c]⟩)) ∧
      h'.Ns env.locals m' ∧ ∀ b o, b ≠ env.locals → b ≠ I → b ≠ D → s.heap.get? b = some o → h'.get? b = some o) (fun k s' hI => ?_) (vs.length + 1)
    ⟨s.heap, s.toks, 0, #[], m, rfl, Nat.zero_le _, rfl, hit, hl, hacc, by simpa using StrsAre.nil, hn, fun _ _ _ _ _ e => e⟩
  obtain ⟨H, tk, i, ys', m', rfl, hi, rfl, hit', hl', hacc', hY', hn', hk⟩ := hI
  show wpAny _ A ((compTurn (Ex2 elt iter1 iter2 x1 x2 q1 q2 scope pos) 0 (.ref I) (.ref D) env).onRaise (fun x => do noteFrame x env; theTreesLotGoes x)) _ _ _
  refine wpAny_noted ?_
  rw [turn_out]
  refine wpAny_bind (wpAny_standAt (wpAny_bind ?_))
  cases hv : vs.toArray[i]? with
  | none =>
    have hi' : i = vs.length := by
      have : vs.length ≤ i := by simpa using hv
      omega
    refine wpAny_pyNext_list_end hh hit' hl' hv fun h₁ he₁ => ?_
    refine wpAny_pure (hR h₁ tk m' ys' (hn'.extBut he₁ (Ne.symm hIC)) (hacc'.extBut he₁ hDI) ?_ fun b o hbC hbI hbD e => he₁ b o hbI (hk b o hbC hbI hbD e))
    rwa [List.take_of_length_le (by omega)] at hY'
  | some v =>
    have hv' : vs[i]? = some v := by simpa using hv
    have hlt : i < vs.length := (List.getElem?_eq_some_iff.mp hv').1
    obtain ⟨wd, t1, rfl, hw⟩ : ∃ wd t1, v = .str wd t1 ∧ ws[i]? = some wd := by
      have hg : ∀ {vs : List Value} {ws : List Str} (i : Nat) (v : Value), StrsAre vs ws → vs[i]? = some v → ∃ wd t1, v = .str wd t1 ∧ ws[i]? = some wd := by
        intro vs ws i v h
        induction h generalizing i with
        | nil => intro h; simp at h
        | cons y t _ ih =>
          intro h
          cases i with
          | zero => simp at h; exact ⟨y, t, h.symm, by simp⟩
          | succ j => simp at h; simpa using ih j h
      exact hg i v hs hv'
    have hwm : wd ∈ ws := List.mem_of_getElem? hw
    refine wpAny_pyNext_list_item hit' hl' hv fun h₁ hit₁ hs₁ => ?_
    refine wpAny_bind (wpAny_pure ?_)
    refine wpAny_bind (wpAny_assign_Name (wpAny_storeName_local hx1 (hn'.sameBut hs₁ (Ne.symm hIC)) (fun h₂ hn₂ hs₂ => ?_) hp))
    have up : ∀ b o, b ≠ env.locals → b ≠ I → H.get? b = some o → h₂.get? b = some o := fun b o hbC hbI e => hs₂.extBut b o hbC (hs₁.extBut b o hbI e)
    refine wpAny_bind (it2 _ _ _ (fun b o hbC hbI hbD e => up b o hbC hbI (hk b o hbC hbI hbD e)) ?_)
    refine wpAny_bind (wpAny_standAt (wpAny_bind (wpAny_of_eq (hf _) (wpAny_bind (wpAny_holding (wpAny_pyIter_str fun o St hW hst => ?_))))))
    dsimp only
    have hlen := strsAre_len hY'
    have hYl : ((ws.take i).flatMap fun wd => ls.cps.toList.map (fun c => wd ++ (⟨#[c]⟩ : Str))).length ≤ ws.length * ls.length := by
      have key : ∀ l : List Str, (l.flatMap fun wd => ls.cps.toList.map (fun c => wd ++ (⟨#[c]⟩ : Str))).length = l.length * ls.length := by
        intro l
        induction l with
        | nil => simp
        | cons a r ih => rw [List.flatMap_cons, List.length_append, ih, List.length_map, List.length_cons, Nat.succ_mul]; simp only [Str.length, Array.length_toList]; omega
      rw [key]
      exact Nat.mul_le_mul_right _ (by rw [List.length_take]; omega)
    have lt₂ : ∀ b o, h₂.get? b = some o → b ≠ h₂.objs.size := fun b o e => Nat.ne_of_lt (Heap.lt_size e)
    have push : ∀ b o', h₂.get? b = some o' → (h₂.push o).get? b = some o' := fun b o' e => Heap.get?_push_of_some _ e
    have hD₂ : h₂.PlainList D ys' := hacc'.at fun o e => up D o hDC hDI e
    obtain ⟨nD, eD⟩ := id hD₂
    obtain ⟨oC, _, _, eC, _⟩ := id hn₂
    obtain ⟨oI, eI, hoI⟩ := id (hit₁.extBut hs₂.extBut hIC)
    obtain ⟨oa, ea, hoa⟩ := id (hl'.at (h' := h₂) fun o e => up ax o haC haI e)
    have goal : ∀ R' : Result → Shared → Prop, (∀ h' tk m' ys'', h'.Ns env.locals m' → h'.PlainList D ys'' → StrsAre ys''.toList ((ws.take (i + 1)).flatMap fun wd => ls.cps.toList.map (fun c => wd ++ (⟨#[c]⟩ : Str))) →
        (∀ b o', b ≠ env.locals → b ≠ h₂.objs.size → b ≠ D → (h₂.push o).get? b = some o' → h'.get? b = some o') → R' (.ok .next) { s with heap := h', toks := tk }) →
        ∀ tk₀, codeAny (model prog w) A (.compStart (Ex2 elt iter1 iter2 x1 x2 q1 q2 scope pos) 1 (.ref h₂.objs.size) (.ref D) env) R' { s with heap := h₂.push o, toks := tk₀ } := by
      intro R' hR' tk₀
      have lp : codeAny (model prog w) A (.compLoop (Ex2 elt iter1 iter2 x1 x2 q1 q2 scope pos) 1 (.ref h₂.objs.size) (.ref D) env) R' { s with heap := h₂.push o, toks := tk₀ } := by
        refine loop_in (v1 := .str wd t1) (wd := wd) (ls := ls) (Y := (ws.take i).flatMap fun wd => ls.cps.toList.map (fun c => wd ++ (⟨#[c]⟩ : Str))) (hW A hh) hx2 hx12 hp (lt₂ _ _ eD) (lt₂ _ _ eC) hDC hst (hD₂.at fun o e => push _ _ e) hY' (hn₂.keeps push) (by simp) (by omega) ?_ ?_
        · intro c u s₂ m₂ hc hn hm1 hm2 hkk
          refine el wd t1 c u s₂ m₂ _ hwm hc hn hm1 hm2 fun b o' hbC hbI hbD e => ?_
          have e2 := up b o' hbC hbI (hk b o' hbC hbI hbD e)
          exact hkk b o' hbC (lt₂ _ _ e2) hbD (push _ _ e2)
        · intro h' tk m' ys'' hn hm hpl hS hkk
          refine hR' h' tk m' ys'' hn hpl ?_ hkk
          rw [List.take_add_one, hw]
          simpa using hS
      exact start_2 (by decide) lp ((hW A hh).self 0 _ _ _ hst lp)
    refine wpAny_bind (wpAny_runOwn (goal _ ?_ _))
    intro h' tk' m₄ ys'' hn₄ hpl₄ hS₄ hk₄
    refine wpAny_pure ⟨rfl, vs.length + 1 - (i + 1), by omega, h', tk', i + 1, ys'', m₄, rfl, hlt, rfl, ?_, ?_, hpl₄, hS₄, hn₄, ?_⟩
    · exact ⟨oI, hk₄ I oI hIC (lt₂ _ _ eI) (Ne.symm hDI) (push _ _ eI), hoI⟩
    · exact ⟨oa, hk₄ ax oa haC (lt₂ _ _ ea) haD (push _ _ ea), hoa⟩
    · intro b o' hbC hbI hbD e
      have e2 := up b o' hbC hbI (hk b o' hbC hbI hbD e)
      exact hk₄ b o' hbC (lt₂ _ _ e2) hbD (push _ _ e2)
end
section
variable {prog : Program} {w : World} {A : Around} {E : Value → Shared → Prop} {s : Shared} {h₀ : Heap} {L : Addr} {m : Str → Option Value} {env : Env} {elt iter1 iter2 : PySem.Expr} {x1 x2 y : Str} {q1 q2 py : Pos} {scope : Scope} {cl : List (Str × Addr)} {pos spos : Pos} {news : List (Addr × Obj)} {Q : Flow → Shared → Prop}
/-- words = [.. for word in words for sign in letters] -/
theorem assign_2 {ax : Addr} {vs : List Value} {ws : List Str} {ls : Str} {tl : Tok} (hh : A.handled = none) (F : Fr h₀ L s.heap m) (N : News h₀ L s.heap news) (hLe : env.locals = L)
    (hsw : swapsWith (Ex2 elt iter1 iter2 x1 x2 q1 q2 scope pos) (some (.Name y py)) spos.line env = pure true)
    (hclos : closureFor scope env = pure cl) (hcell : ∀ z ∈ scope.names, z.2 ≠ .cell) (hkind : scope.kind = .function)
    (hnames : ∀ z ∈ scope.names, z.2 = .local → scope.names.lookup z.1 = some .local) (hx1 : scope.names.lookup x1 = some .local) (hx2 : scope.names.lookup x2 = some .local) (hx12 : x1 ≠ x2)
    (hy : env.kindOf y = some .local) (hp : (env.scope.kind == .class || (env.scope.kind == .module && env.locals != env.globals)) = false)
    (hl : s.heap.IsList ax vs.toArray) (hs : StrsAre vs ws) (hsz : ws.length * ls.length ≤ 4000) (hls : ls.length ≤ 1000)
    (it1 : ∀ (E' : Value → Shared → Prop) (Q : Value → Shared → Prop), Q (.ref ax) s → wpAny (model prog w) A (eval iter1 env) Q E' s)
    (it2 : ∀ C s₂ (E' : Value → Shared → Prop) (Q : Value → Shared → Prop), News h₀ L s₂.heap news → Q (.str ls tl) s₂ → wpAny (model prog w) A (eval iter2 (compEnvC scope cl C env)) Q E' s₂)
    (el : ∀ C wd t1 c u s₂ m₂ (E' : Value → Shared → Prop), wd ∈ ws → c ∈ ls.cps → Fr h₀ L s₂.heap m → News h₀ L s₂.heap news → s₂.heap.Ns C m₂ → m₂ x1 = some (.str wd t1) → m₂ x2 = some (.str ⟨#[c]⟩ u) →
      wpAny (model prog w) A (eval elt (compEnvC scope cl C env)) (Ret s₂ (fun y => ∃ t, y = .str (wd ++ ⟨#[c]⟩) t)) E' s₂)
    (h : ∀ D n ys h' tk, StrsAre ys.toList (ws.flatMap fun wd => ls.cps.toList.map (fun c => wd ++ ⟨#[c]⟩)) → Fr h₀ L h' (fun z => if z = y then some (.ref D) else m z) → News h₀ L h' ((D, W.listOf ys n) :: news) → Q .next { s with heap := h', toks := tk })
    (hf1 : ∀ x, foldedSetIterable iter1 env x = pure x := by intro _; rfl) (hf2 : ∀ C x, foldedSetIterable iter2 (compEnvC scope cl C env) x = pure x := by intro _ _; rfl) :
    wpAny (model prog w) A (exec (.Assign [.Name y py] (Ex2 elt iter1 iter2 x1 x2 q1 q2 scope pos) spos) env) Q E s := by
  subst hLe
  rw [exec_Assign_Name_used _ _ _ _ hsw]
  refine wpAny_bind (wpAny_standAt (wpAny_bind ?_))
  show wpAny _ A (do let _ ← comprehension (Ex2 elt iter1 iter2 x1 x2 q1 q2 scope pos) scope env _ (newList []) false (eval iter1 env) (some (assign (.Name y py) env))) _ _ s
  refine wpAny_bind (wpAny_mono (wpAny_comprehension_free (use := some (assign (.Name y py) env)) (Q := fun _ s' => Q .next s') rfl hf1 hclos hkind hnames
    (it1 _ _ ?_)) (fun _ s' hq => wpAny_pure (wpAny_pure hq)) fun _ _ e => e)
  obtain ⟨ol, hol, hol'⟩ := id hl
  have hax : ax < s.heap.objs.size := Heap.lt_size hol
  have haL : ax ≠ env.locals := by
    rintro rfl
    obtain ⟨o, es, ep, ho, hd, _⟩ := F.ns
    rw [ho] at hol
    cases hol
    obtain ⟨_, n, hd'⟩ := hol'
    rw [hd] at hd'
    cases hd'
  refine wpAny_pyIter_list hl (wpAny_newObj_type (hd := by size_fits) (wpAny_newFunctionEnv hcell (by intro y hy; simp at hy) (fun h₁ hns₁ hsb₁ => ?_) hkind))
  dsimp only at hns₁ hsb₁ ⊢
  generalize hH1 : s.heap.push { cls := .type "list_iterator", data := .fields #[.ref ax, .int 0 0] } = H1 at hns₁ hsb₁ ⊢
  have hD : H1.objs.size = s.heap.objs.size + 1 := by rw [← hH1, Heap.size_push]
  generalize hH2 : H1.push { cls := .type "list", dict := none, data := .seq ([] : List Value).toArray } = H2 at hns₁ hsb₁ ⊢
  have hC : H2.objs.size = s.heap.objs.size + 2 := by rw [← hH2, Heap.size_push, hD]
  have hDI : H1.objs.size ≠ s.heap.objs.size := by rw [hD]; exact Nat.succ_ne_self _
  have hDC : H1.objs.size ≠ H2.objs.size := by rw [hD, hC]; exact Nat.ne_of_lt (Nat.lt_succ_self _)
  have hIC : s.heap.objs.size ≠ H2.objs.size := by rw [hC]; exact Nat.ne_of_lt (Nat.lt_succ_of_lt (Nat.lt_succ_self _))
  have below : ∀ b, b < s.heap.objs.size → b ≠ H2.objs.size ∧ b ≠ s.heap.objs.size ∧ b ≠ H1.objs.size := fun b hb =>
    ⟨by rw [hC]; exact Nat.ne_of_lt (Nat.lt_succ_of_lt (Nat.lt_succ_of_lt hb)), Nat.ne_of_lt hb, by rw [hD]; exact Nat.ne_of_lt (Nat.lt_succ_of_lt hb)⟩
  have old : ∀ b o, s.heap.get? b = some o → h₁.get? b = some o := fun b o e =>
    hsb₁.extBut b o (below b (Heap.lt_size e)).1 (Heap.get?_push_of_some _ (hH2 ▸ Heap.get?_push_of_some _ (hH1 ▸ Heap.get?_push_of_some _ e)))
  have hit : h₁.IsListIter s.heap.objs.size ax 0 :=
    ⟨_, hsb₁.extBut _ _ hIC (Heap.get?_push_of_some _ (hH2 ▸ Heap.get?_push_of_some _ (hH1 ▸ Heap.get?_push_size _ rfl))), rfl, rfl⟩
  have hacc : h₁.PlainList H1.objs.size #[] := ⟨_, hsb₁.extBut _ _ hDC (Heap.get?_push_of_some _ (hH2 ▸ Heap.get?_push_size _ rfl))⟩
  have hl₁ : h₁.IsList ax vs.toArray := ⟨ol, old _ _ hol, hol'⟩
  have fresh : ∀ a, s.heap.objs.size ≤ a → s.heap.get? a = none := fun a ha => by
    cases e : s.heap.get? a with
    | none => rfl
    | some o' => exact absurd (Heap.lt_size e) (Nat.not_lt.mpr ha)
  have keepF : ∀ {h' : Heap}, (∀ b o, b ≠ H2.objs.size → b ≠ s.heap.objs.size → b ≠ H1.objs.size → h₁.get? b = some o → h'.get? b = some o) → ∀ b o, s.heap.get? b = some o → h'.get? b = some o :=
    fun hk b o e => hk b o (below b (Heap.lt_size e)).1 (below b (Heap.lt_size e)).2.1 (below b (Heap.lt_size e)).2.2 (old b o e)
  have toF : ∀ {h' : Heap}, (∀ b o, s.heap.get? b = some o → h'.get? b = some o) → Fr h₀ env.locals h' m := fun k => ⟨F.ns.keeps k, fun b o e => k b o (F.keep b o e), F.above⟩
  have toN : ∀ {h' : Heap}, (∀ b o, s.heap.get? b = some o → h'.get? b = some o) → News h₀ env.locals h' news := fun k p hp => ⟨k _ _ (N p hp).1, (N p hp).2⟩
  have loop : ∀ s₃ : Shared, s₃ = { s with heap := h₁, toks := s.toks + ([] : List (Str × Value)).length } →
      codeAny (model prog w) A (.compLoop (Ex2 elt iter1 iter2 x1 x2 q1 q2 scope pos) 0 (.ref s.heap.objs.size) (.ref H1.objs.size) (compEnvC scope cl H2.objs.size env))
        (compPost (model prog w) A E (some (assign (.Name y py) env)) (fun _ s' => Q .next s') (.ref H1.objs.size) H2.objs.size) s₃ := by
    rintro s₃ rfl
    refine loop_out (env := compEnvC scope cl H2.objs.size env) (ls := ls) (tl := tl) (ws := ws) (vs := vs) hh (lookup_relabel_local hx1) (lookup_relabel_local hx2) hx12 (by simp [compEnvC, relabel, hkind]) hDI hDC hIC (below ax hax).2.1 (below ax hax).1 (below ax hax).2.2
      hit hl₁ hs hacc hns₁ hsz hls (hf2 _) ?_ ?_ ?_
    · intro s₂ E' Q' hk hq
      exact it2 _ s₂ E' Q' (toN (keepF hk)) hq
    · intro wd t1 c u s₂ m₂ E' hw hc hn hm1 hm2 hk
      exact el _ wd t1 c u s₂ m₂ E' hw hc (toF (keepF hk)) (toN (keepF hk)) hn hm1 hm2
    · intro h' tk m' ys' hnC hpl hS hk
      have k := keepF hk
      have F' := toF k
      have N' := toN k
      have hLD : env.locals ≠ H1.objs.size := (below _ F.ns.lt).2.2
      have hLC : env.locals ≠ H2.objs.size := (below _ F.ns.lt).1
      show wpAny _ A (assign (.Name y py) env (.ref H1.objs.size)) _ _ _
      refine wpAny_assign_Name (wpAny_storeName_local hy F'.ns (fun h₂ hn₂ hs₂ => ?_) hp)
      refine ⟨m', hnC.sameBut hs₂ (Ne.symm hLC), fun h₃ hs₃ => ?_⟩
      have hpl₃ : h₃.PlainList H1.objs.size ys' := (hpl.extBut hs₂.extBut (Ne.symm hLD)).extBut hs₃.extBut hDC
      obtain ⟨nD, eD⟩ := hpl₃
      have ne₀ : ∀ b o, h₀.get? b = some o → b ≠ env.locals ∧ b ≠ H2.objs.size := fun b o e =>
        ⟨Nat.ne_of_lt (Nat.lt_of_lt_of_le (Heap.lt_size e) F.above), (below b (Heap.lt_size (F.keep b o e))).1⟩
      refine h H1.objs.size nD ys' h₃ _ hS ⟨hn₂.sameBut hs₃ hLC, fun b o e => hs₃.extBut b o (ne₀ b o e).2 (hs₂.extBut b o (ne₀ b o e).1 (F'.keep b o e)), F.above⟩ fun p hp => ?_
      rcases List.mem_cons.mp hp with rfl | hp
      · refine ⟨eD, Ne.symm hLD, ?_⟩
        cases q : h₀.get? H1.objs.size with
        | none => rfl
        | some o => have := F.keep _ o q; rw [fresh _ (by rw [hD]; exact Nat.le_succ _)] at this; cases this
      · exact ⟨hs₃.extBut _ _ (below _ (Heap.lt_size (N p hp).1)).1 (hs₂.extBut _ _ (N p hp).2.1 (N' p hp).1), (N p hp).2⟩
  exact start_2 (by decide) (loop _ rfl) (wpAny_pyIter_listiter hit (loop _ rfl))
end
end
end Mine
namespace Mine
section
section
variable {M : Model} {A : Around} {E : Value → Shared → Prop} {s : Shared} {env : Env} {Q : Flow → Shared → Prop}
theorem execs_cut (pre rest : List Stmt) (h : wpAny M A (execs pre env) (fun f s' => match f with | .next => wpAny M A (execs rest env) Q E s' | f => Q f s') E s) : wpAny M A (execs (pre ++ rest) env) Q E s := by
  intro Γ p hΓ
  replace h := h Γ p hΓ
  induction pre generalizing p s with
  | nil => exact h Γ p hΓ
  | cons st pre ih =>
    rw [List.cons_append, execs_cons, Sem.wp_bind']
    rw [execs_cons, Sem.wp_bind'] at h
    refine Sem.wp_mono M Γ _ (fun f p' s' h' => ?_) (fun _ _ _ h' => h') _ _ h
    cases f with
    | next => exact ih p' h'
    | _ => exact h'
theorem execs_cutN {b : List Stmt} (n : Nat) (h : wpAny M A (execs (b.take n) env) (fun f s' => match f with | .next => wpAny M A (execs (b.drop n) env) Q E s' | f => Q f s') E s) : wpAny M A (execs b env) Q E s := by
  have := execs_cut (b.take n) (b.drop n) h
  rwa [List.take_append_drop] at this
/-- a block whose end is told -/
theorem execs_mid {b : List Stmt} (n : Nat) (P : Shared → Prop) (h1 : wpAny M A (execs (b.take n) env) (fun f s' => f = .next ∧ P s') (fun _ _ => False) s) (h2 : ∀ s', P s' → wpAny M A (execs (b.drop n) env) Q E s') : wpAny M A (execs b env) Q E s :=
  execs_cutN n (wpAny_mono h1 (fun f s' q => by obtain ⟨rfl, q⟩ := q; exact h2 s' q) fun _ _ e => e.elim)
end
end
end Mine
namespace Mine
section
theorem use_word {w : World} {A : Around} {s : Shared} {E : Value → Shared → Prop} {Q : Value → Shared → Prop} {h₀ : Heap} {L : Addr} {m : Str → Option Value} {news : List (Addr × Obj)} {mean : ExcName → Option Value} {mg mb : Str → Option Value}
    {n : Int} {tn : Tok} {ax : Addr} {z0 z1 z2 z3 : Int} {a b c d tl : Tok} {ls : Str} (M : Nat)
    (F : Fr h₀ L s.heap m) (N : News h₀ L s.heap news) (X : (hd.heap_39 w.params).In h₀) (T : Top hd.view_39 (looseW hd.view_39 []) mean mg mb h₀)
    (hA : A.handled = none) (hr : A.depth + 2 < recursionLimit) (hn : 0 ≤ n ∧ n < 1000000) (hl : 2 ≤ ls.length ∧ ls.length ≤ 3)
    (ht : IsTup s.heap ax #[.int z0 a, .int z1 b, .int z2 c, .int z3 d]) (hz : (0 ≤ z0 ∧ z0 ≤ M) ∧ (0 ≤ z1 ∧ z1 ≤ M) ∧ (0 ≤ z2 ∧ z2 ≤ M) ∧ (0 ≤ z3 ∧ z3 ≤ M)) (hM : M ≤ 3)
    (h : ∀ x t h' tk, x.length ≤ M → Over ls x → Fr h₀ L h' m → News h₀ L h' news → Q (.str x t) { s with heap := h', toks := tk }) :
    wpAny (model PySem.Challenge.rw_pg0085_01.row.prog w) A (call (.ref 91) [.int n tn, .ref ax, .str ls tl]) Q E s := by
  have key : ∀ (k : Nat) (tz : Tok), k ≤ M → [Value.int z0 a, .int z1 b, .int z2 c, .int z3 d][(n.fmod 4).toNat]? = some (.int (k : Nat) tz) →
      wpAny (model PySem.Challenge.rw_pg0085_01.row.prog w) A (call (.ref 91) [.int n tn, .ref ax, .str ls tl]) Q E s := by
    intro k tz hk hit
    refine use F N (ct_word (l := [Value.int z0 a, .int z1 b, .int z2 c, .int z3 d]) (Ok.of F X T) hA hr hn.1 hn.2 hl.1 hl.2 ht rfl hit (by omega)) ?_
    rintro v h' tk ⟨x, t, rfl, hx, ox⟩ F' N'
    exact h x t h' tk (by omega) ox F' N'
  have b0 : 0 ≤ n.fmod 4 := Int.fmod_nonneg_of_pos _ (by decide)
  have b1 : n.fmod 4 < 4 := Int.fmod_lt_of_pos _ (by decide)
  have : (n.fmod 4).toNat = 0 ∨ (n.fmod 4).toNat = 1 ∨ (n.fmod 4).toNat = 2 ∨ (n.fmod 4).toNat = 3 := by omega
  rcases this with e | e | e | e
  · exact key z0.toNat a (by omega) (by rw [e, show ((z0.toNat : Nat) : Int) = z0 by omega]; rfl)
  · exact key z1.toNat b (by omega) (by rw [e, show ((z1.toNat : Nat) : Int) = z1 by omega]; rfl)
  · exact key z2.toNat c (by omega) (by rw [e, show ((z2.toNat : Nat) : Int) = z2 by omega]; rfl)
  · exact key z3.toNat d (by omega) (by rw [e, show ((z3.toNat : Nat) : Int) = z3 by omega]; rfl)
end
end Mine
namespace Mine
section
section
variable {w : World} {A : Around} {s : Shared} {E : Value → Shared → Prop} {Q : Value → Shared → Prop} {h₀ : Heap} {L : Addr} {m : Str → Option Value} {news : List (Addr × Obj)} {mean : ExcName → Option Value} {mg mb : Str → Option Value}
theorem Ok.hidden {ax : Addr} {lo : Obj} (F : Fr h₀ L s.heap m) (N : News h₀ L s.heap news) (X : (hd.heap_39 w.params).In h₀) (T : Top hd.view_39 (looseW hd.view_39 []) mean mg mb h₀) (hm : (ax, lo) ∈ news) : Ok w (s.heap.hide ax) := by
  have k : ∀ b o, h₀.get? b = some o → (s.heap.hide ax).get? b = some o := fun b o e => by
    have hb : b ≠ ax := by
      rintro rfl
      have := (N _ hm).2.2
      rw [this] at e
      cases e
    rw [Heap.hide_ne _ hb]
    exact F.keep b o e
  exact ⟨X.keeps k, mean, mg, mb, T.keeps k⟩
theorem use_quot {ax : Addr} {nn : Nat} {p1 p2 : Str} {t1 t2 tk tf : Tok} {f : Int} {k : Nat} (F : Fr h₀ L s.heap m) (N : News h₀ L s.heap news) (X : (hd.heap_39 w.params).In h₀) (T : Top hd.view_39 (looseW hd.view_39 []) mean mg mb h₀)
    (hA : A.handled = none) (hr : A.depth + 6 < recursionLimit) (hm : (ax, W.listOf #[.str p1 t1, .str p2 t2] nn) ∈ news) (hk : k = 2 ∨ k = 3) (hf : 0 ≤ f ∧ f ≤ 5)
    (l1 : p1.length ≤ 3) (l2 : p2.length ≤ 3) (d1 : NoDot p1) (d2 : NoDot p2)
    (h : ∀ q t h' tk, qt (k : Nat) (ovl (Lx p1) p1.length) (ovl (Lx p2) p2.length) f = q → Fr h₀ L h' m → News h₀ L h' news → Q (.int q t) { s with heap := h', toks := tk }) :
    wpAny (model PySem.Challenge.rw_pg0085_01.row.prog w) A (call (.ref 105) [.ref ax, .int (k : Nat) tk, .int f tf]) Q E s := by
  refine use F N (ct_quot hk (Ok.hidden F N X T hm) (N _ hm).1 hA hr hf.1 hf.2 l1 l2 d1 d2) ?_
  rintro v h' tk ⟨t, rfl⟩ F' N'
  exact h _ t h' tk rfl F' N'
end
end
end Mine
namespace Mine
section
theorem ne_two {prog : Program} {w : World} {A : Around} {E : Value → Shared → Prop} {s : Shared} {Q : Value → Shared → Prop} {a b : Addr} {p1 p2 : Str} {t1 t2 t3 t4 : Tok} {n n' : Nat} {r : Bool}
    (ha : s.heap.get? a = some (W.listOf #[.str p1 t1, .str p2 t2] n)) (hb : s.heap.get? b = some (W.listOf #[.str (Str.ofString "") t3, .str (Str.ofString "") t4] n')) (hu : A.units + 64 < cLine)
    (k1 : PyData.strOk p1 = true) (k2 : PyData.strOk p2 = true) (he : (p1 == Str.ofString "" && p2 == Str.ofString "") = r) (h : Q (.bool (!r)) s) : wpAny (model prog w) A (compareOp .NotEq (.ref a) (.ref b)) Q E s := by
  refine ne_dataH (reads_list_at ha rfl rfl (.cons (.str _ _) (.cons (.str _ _) .nil))) (reads_list_at hb rfl rfl (.cons (.str _ _) (.cons (.str _ _) .nil))) (by simp [SeqAt.shaped, PyData.canLay0, PyData.canLayAll0, PyData.depth, PyData.depthAll, k1, k2]) (by decide +kernel) hu ?_
  have e : PyData.eqv (.list [.str p1, .str p2]) (.list [.str (Str.ofString ""), .str (Str.ofString "")]) = r := by
    rw [← he]
    simp [PyData.eqv, PyData.eqvAll]
  rw [e]
  exact h
end
end Mine
namespace Mine
section
section
variable {prog : Program} {w : World} {A : Around} {E : Value → Shared → Prop} {s : Shared} {env : Env} {h₀ : Heap} {x : Str} {body : List Stmt} {Q : Flow → Shared → Prop}
/-- a loop over a range, by what holds at each turn's start -/
theorem range_ind {I : Addr} {a : Int} {n : Nat} (Inv : Nat → (Str → Option Value) → List (Addr × Obj) → Prop)
    (turn : ∀ i m news, i < n → Inv i m news → ∀ t h tk, Fr h₀ env.locals h (fun y => if y = x then some (.int (a + (i : Int)) t) else m y) → News h₀ env.locals h ((I, itR (a + ((i + 1 : Nat) : Int)) ((n : Int) - ((i + 1 : Nat) : Int))) :: news) →
      wpAny (model prog w) A (execs body env) (UnrPost h₀ env.locals { s with heap := h, toks := tk } I (itR (a + ((i + 1 : Nat) : Int)) ((n : Int) - ((i + 1 : Nat) : Int))) (Inv (i + 1)) Q) E { s with heap := h, toks := tk })
    (done : ∀ m news h tk, Inv n m news → Fr h₀ env.locals h m → News h₀ env.locals h news → Q .next { s with heap := h, toks := tk }) :
    ∀ (k i : Nat) m news, k + i = n → Inv i m news → RangeRest prog w A E h₀ env x body Q s I a n k i m news
  | 0, i, m, news, hk, hi => by
    have e : i = n := by omega
    subst e
    exact RangeRest.zero fun h tk F N => done m news h tk hi F N
  | k + 1, i, m, news, hk, hi => by
    refine RangeRest.succ fun t h tk F N => wpAny_mono (turn i m news (by omega) hi t h tk F N) (fun f s₂ p => ?_) fun _ _ e => e
    have fin : UnrEnd h₀ env.locals { s with heap := h, toks := tk } I (itR (a + ((i + 1 : Nat) : Int)) ((n : Int) - ((i + 1 : Nat) : Int))) (Inv (i + 1)) s₂ →
        UnrEnd h₀ env.locals { s with heap := h, toks := tk } I (itR (a + ((i + 1 : Nat) : Int)) ((n : Int) - ((i + 1 : Nat) : Int))) (RangeRest prog w A E h₀ env x body Q s I a n k (i + 1)) s₂ := by
      rintro ⟨h', tk', m', news', e, F', N', off, r⟩
      exact ⟨h', tk', m', news', e, F', N', off, range_ind Inv turn done k (i + 1) m' news' (by omega) r⟩
    cases f with
    | ret v => exact p
    | brk => exact p
    | next => exact fin p
    | cont => exact fin p
end
section
variable {w : World} {A : Around} {s : Shared} {E : Value → Shared → Prop} {Q : Value → Shared → Prop} {h₀ : Heap} {L : Addr} {m : Str → Option Value} {news : List (Addr × Obj)} {mean : ExcName → Option Value} {mg mb : Str → Option Value}
theorem use_cnt {ax : Addr} {ys : Array Value} {nn : Nat} {ws : List Str} {a z : Str} {ms : List Str} {tw : Tok} {v : Int} (F : Fr h₀ L s.heap m) (N : News h₀ L s.heap news) (X : (hd.heap_39 w.params).In h₀) (T : Top hd.view_39 (looseW hd.view_39 []) mean mg mb h₀)
    (hA : A.handled = none) (hr : A.depth + 4 < recursionLimit) (hm : (ax, W.listOf ys nn) ∈ news) (hs : StrsAre ys.toList ws) (hsz : ws.length ≤ 1000) (hws : ∀ x ∈ ws, x.length ≤ 1000)
    (hp : Pieces ms) (hd : ∀ x ∈ a :: (ms ++ [z]), NoDot x) (hl : ∀ x ∈ a :: (ms ++ [z]), x.length ≤ 100) (hv : (((ws.map (em a ms z)).count true : Nat) : Int) = v)
    (h : ∀ t h' tk, Fr h₀ L h' m → News h₀ L h' news → Q (.int v t) { s with heap := h', toks := tk }) :
    wpAny (model PySem.Challenge.rw_pg0085_01.row.prog w) A (call (.ref 110) [.str (Str.join dots (a :: (ms ++ [z]))) tw, .ref ax]) Q E s := by
  obtain ⟨hh, dp, fr, gd, un⟩ := A
  cases hA
  have hlen := strsAre_len hs
  have hl' : s.heap.IsList ax ys.toList.toArray := ⟨_, (N _ hm).1, rfl, nn, by simp [W.listOf]⟩
  refine use F N (ct_counted' (vs := ys.toList) (ws := ws) (Ok.of F X T) hr hl' hs (by omega) hws hp hd hl) ?_
  rintro v' h' tk ⟨t, rfl⟩ F' N'
  rw [hv]
  exact h t h' tk F' N'
end
end
end Mine
namespace Mine
section
/-- all words of n signs -/
def wl (A : List Nat) : Nat → List (List Nat)
  | 0 => [[]]
  | n + 1 => (wl A n).flatMap fun w => A.map fun c => w ++ [c]
def cnt (A : List Nat) (n : Nat) (P : List Nat → Bool) : Nat := (wl A n).countP P
theorem wl_len {A : List Nat} : ∀ {n : Nat} {u : List Nat}, u ∈ wl A n → u.length = n
  | 0, u, h => by simp [wl] at h; simp [h]
  | n + 1, u, h => by
    obtain ⟨w, hw, hu⟩ := List.mem_flatMap.mp (show u ∈ (wl A n).flatMap _ from h)
    obtain ⟨c, _, rfl⟩ := List.mem_map.mp hu
    rw [List.length_append, wl_len hw]; rfl
theorem wl_add (A : List Nat) (i : Nat) : ∀ j, wl A (i + j) = (wl A i).flatMap fun u => (wl A j).map fun v => u ++ v
  | 0 => by
    simp [wl]
  | j + 1 => by
    show (wl A (i + j)).flatMap _ = _
    rw [wl_add A i j, List.flatMap_assoc]
    congr 1
    funext u
    rw [List.flatMap_map]
    show _ = ((wl A j).flatMap fun w => A.map fun c => w ++ [c]).map (fun v => u ++ v)
    rw [List.map_flatMap]
    congr 1
    funext v
    rw [List.map_map]
    congr 1
    funext c
    simp
theorem mem_wl {A : List Nat} : ∀ {p : List Nat}, (∀ c ∈ p, c ∈ A) → p ∈ wl A p.length
  | [], _ => by simp [wl]
  | c :: p, h => by
    have e : (c :: p).length = 1 + p.length := by simp; omega
    rw [e, wl_add]
    refine List.mem_flatMap.mpr ⟨[c], ?_, List.mem_map.mpr ⟨p, mem_wl fun d hd => h d (List.mem_cons_of_mem _ hd), rfl⟩⟩
    show [c] ∈ (wl A 0).flatMap _
    simp only [wl, List.flatMap_cons, List.flatMap_nil, List.append_nil, List.nil_append]
    exact List.mem_map.mpr ⟨c, h c (List.mem_cons_self ..), rfl⟩
theorem cnt_congr {A : List Nat} {n : Nat} {P R : List Nat → Bool} (h : ∀ x, x.length = n → P x = R x) : cnt A n P = cnt A n R := by
  unfold cnt
  exact List.countP_congr fun x hx => by rw [h x (wl_len hx)]
theorem cnt_prod (A : List Nat) (i j : Nat) (P R : List Nat → Bool) : cnt A (i + j) (fun x => P (x.take i) && R (x.drop i)) = cnt A i P * cnt A j R := by
  unfold cnt
  rw [wl_add]
  have key : ∀ L : List (List Nat), (∀ u ∈ L, u.length = i) → (L.flatMap fun u => (wl A j).map fun v => u ++ v).countP (fun x => P (x.take i) && R (x.drop i)) = L.countP P * (wl A j).countP R := by
    intro L
    induction L with
    | nil => intro _; simp
    | cons u L ih =>
      intro h
      have hu : u.length = i := h u (List.mem_cons_self ..)
      rw [List.flatMap_cons, List.countP_append, ih fun v hv => h v (List.mem_cons_of_mem _ hv), List.countP_map, List.countP_cons]
      have e : ((fun x => P (x.take i) && R (x.drop i)) ∘ fun v => u ++ v) = fun v => P u && R v := by
        funext v
        simp only [Function.comp]
        rw [← hu, List.take_left, List.drop_left]
      rw [e]
      cases hp : P u with
      | true => simp [Nat.add_mul, Nat.add_comm]
      | false => simp
  exact key _ fun u hu => wl_len hu
theorem cnt_all (A : List Nat) : ∀ n, cnt A n (fun _ => true) = A.length ^ n
  | 0 => by simp [cnt, wl]
  | n + 1 => by
    have h := cnt_prod A n 1 (fun _ => true) (fun _ => true)
    have e : cnt A 1 (fun _ => true) = A.length := by simp [cnt, wl]
    rw [show (fun x : List Nat => (fun _ : List Nat => true) (x.take n) && (fun _ : List Nat => true) (x.drop n)) = fun _ => true from by funext x; rfl] at h
    rw [h, cnt_all A n, e, Nat.pow_succ]
theorem count_one {a : Nat} : ∀ {l : List Nat}, l.Nodup → a ∈ l → l.countP (fun d => d == a) = 1
  | [], _, h => by cases h
  | b :: l, hn, h => by
    have hn' := List.nodup_cons.mp hn
    rw [List.countP_cons]
    by_cases hb : b = a
    · subst hb
      have : l.countP (fun d => d == b) = 0 := by
        rw [List.countP_eq_zero]
        intro d hd hc
        have : d = b := by simpa using hc
        subst this
        exact hn'.1 hd
      simp [this]
    · have hm : a ∈ l := by
        rcases List.mem_cons.mp h with e | e
        · exact absurd e.symm hb
        · exact e
      rw [count_one hn'.2 hm]
      simp [hb]
theorem least (P : Nat → Bool) : ∀ n, P n = true → ∃ i, P i = true ∧ ∀ k, k < i → P k = false := by
  intro n
  induction n using Nat.strongRecOn with
  | ind n ih =>
    intro h
    by_cases hc : ∃ k, k < n ∧ P k = true
    · obtain ⟨k, hk, hp⟩ := hc
      exact ih k hk hp
    · exact ⟨n, h, fun k hk => by
        cases hp : P k with
        | false => rfl
        | true => exact absurd ⟨k, hk, hp⟩ hc⟩
theorem cnt_one {A : List Nat} (hA : A.Nodup) : ∀ {p : List Nat}, (∀ c ∈ p, c ∈ A) → cnt A p.length (fun x => x == p) = 1
  | [], _ => by simp [cnt, wl]
  | c :: p, h => by
    have e : (c :: p).length = 1 + p.length := by simp; omega
    rw [e]
    have h1 : cnt A (1 + p.length) (fun x => x == c :: p) = cnt A (1 + p.length) (fun x => (fun u => u == [c]) (x.take 1) && (fun v => v == p) (x.drop 1)) := by
      refine cnt_congr fun x hx => ?_
      cases x with
      | nil => simp at hx; omega
      | cons d x => rw [Bool.eq_iff_iff]; simp
    rw [h1]
    refine (cnt_prod A 1 p.length (fun u => u == [c]) (fun v => v == p)).trans ?_
    rw [cnt_one hA fun d hd => h d (List.mem_cons_of_mem _ hd), Nat.mul_one]
    have h2 : wl A 1 = A.map fun d => [d] := by simp [wl]
    unfold cnt
    rw [h2, List.countP_map]
    have h3 : ((fun u : List Nat => u == [c]) ∘ fun d => [d]) = fun d => d == c := by
      funext d; simp only [Function.comp]; rw [Bool.eq_iff_iff]; simp
    rw [h3]
    exact count_one hA (h c (List.mem_cons_self ..))
/-- p stands in u -/
def occ (p : List Nat) : List Nat → Bool
  | [] => p.isEmpty
  | c :: u => p.isPrefixOf (c :: u) || occ p u
theorem occ_iff (p : List Nat) : ∀ u, occ p u = true ↔ ∃ a b, u = a ++ (p ++ b)
  | [] => by
    constructor
    · intro h
      have : p = [] := by simpa [occ] using h
      exact ⟨[], [], by simp [this]⟩
    · rintro ⟨a, b, h⟩
      have := congrArg List.length h
      simp only [List.length_nil, List.length_append] at this
      have : p = [] := List.eq_nil_of_length_eq_zero (by omega)
      simp [occ, this]
  | c :: u => by
    have ih := occ_iff p u
    rw [occ, Bool.or_eq_true, List.isPrefixOf_iff_prefix, ih]
    constructor
    · rintro (⟨b, h⟩ | ⟨a, b, h⟩)
      · exact ⟨[], b, by simpa using h.symm⟩
      · exact ⟨c :: a, b, by rw [h]; rfl⟩
    · rintro ⟨a, b, h⟩
      cases a with
      | nil => exact .inl ⟨b, by simpa using h.symm⟩
      | cons d a =>
        simp only [List.cons_append, List.cons.injEq] at h
        exact .inr ⟨a, b, h.2⟩
/-- p stands in u for the first time at its end -/
def fe (p u : List Nat) : Bool := occ p u && (u.isEmpty || !(occ p u.dropLast))
theorem occ_take_mono {p x : List Nat} {i j : Nat} (hij : i ≤ j) (h : occ p (x.take i) = true) : occ p (x.take j) = true := by
  obtain ⟨a, b, e⟩ := (occ_iff p _).mp h
  refine (occ_iff p _).mpr ⟨a, b ++ (x.take j).drop i, ?_⟩
  have e2 := List.take_append_drop i (x.take j)
  rw [List.take_take, Nat.min_eq_left hij, e] at e2
  exact e2.symm.trans (by simp)
theorem fe_take {p x : List Nat} {i : Nat} (hi : i ≤ x.length) : fe p (x.take i) = true ↔ occ p (x.take i) = true ∧ (i = 0 ∨ occ p (x.take (i - 1)) = false) := by
  unfold fe
  rw [Bool.and_eq_true, Bool.or_eq_true]
  refine and_congr Iff.rfl ?_
  have h1 : (x.take i).isEmpty = true ↔ i = 0 := by
    rw [List.isEmpty_iff]
    constructor
    · intro h
      have := congrArg List.length h
      rw [List.length_take, List.length_nil] at this
      omega
    · intro h; subst h; simp
  have h2 : (x.take i).dropLast = x.take (i - 1) := by
    rw [List.dropLast_eq_take, List.length_take, List.take_take]
    congr 1
    omega
  rw [h1, h2]
  simp
open Classical in
noncomputable def subB (ms : List (List Nat)) (x : List Nat) : Bool := decide (Sub ms x)
theorem subB_iff {ms : List (List Nat)} {x : List Nat} : subB ms x = true ↔ Sub ms x := by unfold subB; simp
/-- the first place where p is through, one at most -/
theorem one_place (p : List Nat) (ms : List (List Nat)) (x : List Nat) :
    (List.range (x.length + 1)).countP (fun i => fe p (x.take i) && subB ms (x.drop i)) = if subB (p :: ms) x = true then 1 else 0 := by
  by_cases ho : occ p x = true
  · obtain ⟨i0, h0, hmin⟩ := least (fun i => occ p (x.take i)) x.length (by rw [List.take_length]; exact ho)
    have hi0 : i0 ≤ x.length := by
      by_cases h : i0 ≤ x.length
      · exact h
      · have := hmin x.length (by omega)
        rw [List.take_length, ho] at this
        cases this
    have hfe : ∀ i, i ≤ x.length → (fe p (x.take i) = true ↔ i = i0) := by
      intro i hi
      rw [fe_take hi]
      constructor
      · rintro ⟨h1, h2⟩
        have hge : i0 ≤ i := by
          by_cases h : i0 ≤ i
          · exact h
          · have := hmin i (by omega)
            rw [h1] at this; cases this
        rcases h2 with h2 | h2
        · omega
        · by_cases h : i = i0
          · exact h
          · have := occ_take_mono (i := i0) (j := i - 1) (by omega) h0
            rw [h2] at this; cases this
      · rintro rfl
        refine ⟨h0, ?_⟩
        by_cases h : i = 0
        · exact .inl h
        · exact .inr (hmin _ (by omega))
    have hsub : Sub (p :: ms) x ↔ Sub ms (x.drop i0) := by
      constructor
      · rintro ⟨a, b, e, h⟩
        have hle : i0 ≤ a.length + p.length := by
          by_cases hc : i0 ≤ a.length + p.length
          · exact hc
          · have h1 := hmin (a.length + p.length) (by omega)
            have h2 : occ p (x.take (a.length + p.length)) = true := by
              refine (occ_iff p _).mpr ⟨a, [], ?_⟩
              rw [e, ← List.append_assoc, ← List.length_append, List.take_left]
              simp
            rw [h2] at h1; cases h1
        have eb : b = x.drop (a.length + p.length) := by
          rw [e, ← List.append_assoc, ← List.length_append, List.drop_left]
        rw [eb] at h
        exact Sub.drop hle h
      · intro h
        obtain ⟨a, b, e⟩ := (occ_iff p _).mp h0
        refine ⟨a, b ++ x.drop i0, ?_, h.mono b⟩
        have e2 := (List.take_append_drop i0 x).symm
        rw [e] at e2
        exact e2.trans (by simp)
    have e1 : (List.range (x.length + 1)).countP (fun i => fe p (x.take i) && subB ms (x.drop i)) = (List.range (x.length + 1)).countP (fun i => (i == i0) && subB ms (x.drop i0)) := by
      refine List.countP_congr fun i hi => ?_
      have hi' := List.mem_range.mp hi
      have := hfe i (by omega)
      simp only [Bool.and_eq_true, beq_iff_eq]
      constructor
      · rintro ⟨a, b⟩
        have := this.mp a
        subst this
        exact ⟨rfl, b⟩
      · rintro ⟨rfl, b⟩
        exact ⟨this.mpr rfl, b⟩
    rw [e1]
    by_cases hs : Sub (p :: ms) x
    · rw [if_pos (subB_iff.mpr hs)]
      have e2 : subB ms (x.drop i0) = true := subB_iff.mpr (hsub.mp hs)
      simp only [e2, Bool.and_true]
      exact count_one List.nodup_range (List.mem_range.mpr (by omega))
    · rw [if_neg (fun h => hs (subB_iff.mp h))]
      have e2 : subB ms (x.drop i0) = false := by
        cases h : subB ms (x.drop i0) with
        | false => rfl
        | true => exact absurd (hsub.mpr (subB_iff.mp h)) hs
      simp [e2]
  · have hn : ¬ Sub (p :: ms) x := by
      rintro ⟨a, b, e, _⟩
      exact ho ((occ_iff p x).mpr ⟨a, b, e⟩)
    rw [if_neg (fun h => hn (subB_iff.mp h)), List.countP_eq_zero]
    intro i hi h
    have hi' := List.mem_range.mp hi
    rw [Bool.and_eq_true, fe_take (by omega)] at h
    have := occ_take_mono (j := x.length) (by omega) h.1.1
    rw [List.take_length] at this
    exact ho this
theorem sum_swap (L : List (List Nat)) (N : Nat) (P : List Nat → Bool) (R : Nat → List Nat → Bool) (h : ∀ x ∈ L, (List.range N).countP (fun i => R i x) = if P x = true then 1 else 0) :
    L.countP P = ((List.range N).map fun i => L.countP (R i)).sum := by
  induction L with
  | nil =>
    have : ∀ l : List Nat, (l.map fun _ => 0).sum = 0 := by intro l; induction l with | nil => rfl | cons a l ih => simp [ih]
    simp [this]
  | cons x L ih =>
    have key : ∀ l : List Nat, (l.map fun i => (x :: L).countP (R i)).sum = (l.map fun i => L.countP (R i)).sum + l.countP (fun i => R i x) := by
      intro l
      induction l with
      | nil => rfl
      | cons a l ih2 =>
        rw [List.map_cons, List.sum_cons, ih2, List.map_cons, List.sum_cons, List.countP_cons, List.countP_cons]
        omega
    rw [key, h x (List.mem_cons_self ..), List.countP_cons, ih fun y hy => h y (List.mem_cons_of_mem _ hy)]
/-- by the first place of the first part -/
theorem cnt_first (A : List Nat) (n : Nat) (p : List Nat) (ms : List (List Nat)) :
    cnt A n (subB (p :: ms)) = ((List.range (n + 1)).map fun i => cnt A i (fe p) * cnt A (n - i) (subB ms)).sum := by
  have h1 : cnt A n (subB (p :: ms)) = ((List.range (n + 1)).map fun i => cnt A n (fun x => fe p (x.take i) && subB ms (x.drop i))).sum := by
    refine sum_swap _ _ _ _ fun x hx => ?_
    have := one_place p ms x
    rwa [wl_len hx] at this
  rw [h1]
  congr 1
  refine List.map_congr_left fun i hi => ?_
  have hi' := List.mem_range.mp hi
  have := cnt_prod A i (n - i) (fe p) (subB ms)
  rwa [show i + (n - i) = n by omega] at this
theorem cnt_nil (A : List Nat) (n : Nat) : cnt A n (subB []) = A.length ^ n := by
  rw [← cnt_all]
  exact cnt_congr fun x _ => subB_iff.mpr trivial
end
end Mine
namespace Mine
section
/-- the alphabets -/
def abc : List (List Nat) := [[97, 98], [97, 98, 42], [97, 10], [97, 10, 42], [10, 32], [10, 32, 97], [42, 91], [42, 91, 92]]
/-- the letters: two or three, no two alike, no dot -/
structure Letters (ls : Str) : Prop where
  len : ls.length = 2 ∨ ls.length = 3
  dot : NoDot ls
  nodup : (Lx ls).Nodup
  low : PyData.strOk ls = true
  one : Lx ls ∈ abc
/-- all words of so many signs -/
def Wd (ls : Str) : Nat → List Str
  | 0 => [Str.ofString ""]
  | i + 1 => (Wd ls i).flatMap fun wd => ls.cps.toList.map (fun c => wd ++ ⟨#[c]⟩)
/-- what the law asks, as numbers -/
def Asks (K : Nat) (ls p1 p2 fo en : Str) (ms : List Str) (q : Int) : Prop :=
  Letters ls ∧ ls.length = K ∧ (p1.length ≤ 3 ∧ Over ls p1) ∧ (p2.length ≤ 3 ∧ Over ls p2) ∧ (fo.length ≤ 2 ∧ Over ls fo) ∧ (en.length ≤ 2 ∧ Over ls en) ∧
  qt (K : Nat) (ovl (Lx p1) p1.length) (ovl (Lx p2) p2.length) (7 - (K : Int) - fo.length - en.length) = q ∧ (ms = [p1, p2] ∨ (ms = [] ∧ p1 = Str.ofString "" ∧ p2 = Str.ofString ""))
def classes : List Int := [0, 1, 1024, 1025, 1048576, 1048577, 1049601]
/-- how many words of n signs end with a piece for the first time, by its overlaps -/
def tb (K : Nat) (o : Int) : List Nat :=
  if K = 2 then (if o = 0 then [1, 0, 0, 0, 0, 0] else if o = 1 then [0, 1, 1, 1, 1, 1] else if o = 1024 then [0, 0, 1, 2, 3, 4] else if o = 1025 then [0, 0, 1, 1, 2, 3] else if o = 1048576 then [0, 0, 0, 1, 2, 4] else if o = 1048577 then [0, 0, 0, 1, 2, 3] else [0, 0, 0, 1, 1, 2])
  else (if o = 0 then [1, 0, 0, 0, 0] else if o = 1 then [0, 1, 2, 4, 8] else if o = 1024 then [0, 0, 1, 3, 8] else if o = 1025 then [0, 0, 1, 2, 6] else if o = 1048576 then [0, 0, 0, 1, 3] else if o = 1048577 then [0, 0, 0, 1, 3] else [0, 0, 0, 1, 2])
def tbn (K : Nat) (o : Int) (n : Nat) : Nat := (tb K o).getD n 0
def tabOk (A : List Nat) (m : Nat) : Bool := (wl A m).all fun p => classes.contains (ovl p m) && (List.range (8 - A.length)).all fun n => cnt A n (fe p) == tbn A.length (ovl p m) n
set_option maxHeartbeats 1000000 in
theorem tab0 : (abc.all fun A => tabOk A 0 && tabOk A 1) = true := by decide +kernel
set_option maxHeartbeats 1000000 in
theorem tab2 : (abc.all fun A => tabOk A 2) = true := by decide +kernel
set_option maxHeartbeats 1000000 in
theorem tab3a : tabOk [97, 98] 3 = true := by decide +kernel
set_option maxHeartbeats 1000000 in
theorem tab3b : tabOk [97, 98, 42] 3 = true := by decide +kernel
set_option maxHeartbeats 1000000 in
theorem tab3c : tabOk [97, 10] 3 = true := by decide +kernel
set_option maxHeartbeats 1000000 in
theorem tab3d : tabOk [97, 10, 42] 3 = true := by decide +kernel
set_option maxHeartbeats 1000000 in
theorem tab3e : tabOk [10, 32] 3 = true := by decide +kernel
set_option maxHeartbeats 1000000 in
theorem tab3f : tabOk [10, 32, 97] 3 = true := by decide +kernel
set_option maxHeartbeats 1000000 in
theorem tab3g : tabOk [42, 91] 3 = true := by decide +kernel
set_option maxHeartbeats 1000000 in
theorem tab3h : tabOk [42, 91, 92] 3 = true := by decide +kernel
theorem tab3 : (abc.all fun A => tabOk A 3) = true := by
  rw [abc]
  simp only [List.all_cons, List.all_nil, tab3a, tab3b, tab3c, tab3d, tab3e, tab3f, tab3g, tab3h, Bool.and_self]
theorem tab_ok {A : List Nat} (hA : A ∈ abc) {m : Nat} (hm : m ≤ 3) : tabOk A m = true := by
  have h0 := List.all_eq_true.mp tab0 A hA
  have h2 := List.all_eq_true.mp tab2 A hA
  have h3 := List.all_eq_true.mp tab3 A hA
  rw [Bool.and_eq_true] at h0
  have : m = 0 ∨ m = 1 ∨ m = 2 ∨ m = 3 := by omega
  rcases this with rfl | rfl | rfl | rfl
  · exact h0.1
  · exact h0.2
  · exact h2
  · exact h3
theorem tab_use {A : List Nat} (hA : A ∈ abc) {p : List Nat} (hp : ∀ c ∈ p, c ∈ A) (hl : p.length ≤ 3) :
    ovl p p.length ∈ classes ∧ ∀ n, n < 8 - A.length → cnt A n (fe p) = tbn A.length (ovl p p.length) n := by
  have h := List.all_eq_true.mp (tab_ok hA hl) p (mem_wl hp)
  rw [Bool.and_eq_true] at h
  refine ⟨by simpa using h.1, fun n hn => ?_⟩
  have := List.all_eq_true.mp h.2 n (List.mem_range.mpr hn)
  simpa using this
/-- both pieces, then anything -/
def cv (K : Nat) (o1 o2 : Int) (n : Nat) : Nat :=
  ((List.range (n + 1)).map fun i => tbn K o1 i * ((List.range (n - i + 1)).map fun j => tbn K o2 j * K ^ (n - i - j)).sum).sum
theorem cnt_two {A : List Nat} (hA : A ∈ abc) {p1 p2 : List Nat} (h1 : ∀ c ∈ p1, c ∈ A) (l1 : p1.length ≤ 3) (h2 : ∀ c ∈ p2, c ∈ A) (l2 : p2.length ≤ 3) {n : Nat} (hn : n < 8 - A.length) :
    cnt A n (subB [p1, p2]) = cv A.length (ovl p1 p1.length) (ovl p2 p2.length) n := by
  rw [cnt_first]
  unfold cv
  congr 1
  refine List.map_congr_left fun i hi => ?_
  have hi' := List.mem_range.mp hi
  rw [(tab_use hA h1 l1).2 i (by omega), cnt_first]
  congr 2
  refine List.map_congr_left fun j hj => ?_
  have hj' := List.mem_range.mp hj
  rw [(tab_use hA h2 l2).2 j (by omega), cnt_nil]
def digOk (K : Nat) : Bool := classes.all fun o1 => classes.all fun o2 => (List.range (8 - K)).all fun F => (List.range (8 - K)).all fun t =>
  Builtin.bitAnd ((qt (K : Nat) o1 o2 (F : Nat)).fdiv (2 ^ (10 * t))) 1023 == (if t ≤ F then ((cv K o1 o2 (F - t) : Nat) : Int) else 0)
set_option maxHeartbeats 1000000 in
theorem dig2 : digOk 2 = true := by decide +kernel
set_option maxHeartbeats 1000000 in
theorem dig3 : digOk 3 = true := by decide +kernel
theorem dig_use {K : Nat} (hK : K = 2 ∨ K = 3) {o1 o2 : Int} (h1 : o1 ∈ classes) (h2 : o2 ∈ classes) {F t : Nat} (hF : F < 8 - K) (ht : t < 8 - K) :
    Builtin.bitAnd ((qt (K : Nat) o1 o2 (F : Nat)).fdiv (2 ^ (10 * t))) 1023 = (if t ≤ F then ((cv K o1 o2 (F - t) : Nat) : Int) else 0) := by
  have h : digOk K = true := by
    rcases hK with rfl | rfl
    · exact dig2
    · exact dig3
  have a := List.all_eq_true.mp (List.all_eq_true.mp (List.all_eq_true.mp (List.all_eq_true.mp h o1 h1) o2 h2) F (List.mem_range.mpr hF)) t (List.mem_range.mpr ht)
  simpa using a
theorem wd_wl (ls : Str) : ∀ i, (Wd ls i).map Lx = wl (Lx ls) i
  | 0 => by
    have : Lx (Str.ofString "") = [] := by decide +kernel
    simp [Wd, wl, this]
  | i + 1 => by
    show ((Wd ls i).flatMap _).map Lx = (wl (Lx ls) i).flatMap _
    rw [← wd_wl ls i, List.map_flatMap, List.flatMap_map]
    congr 1
    funext wd
    rw [List.map_map]
    congr 1
    funext c
    simp [Lx_app]
open Classical in
noncomputable def emP (f e : List Nat) (ms : List (List Nat)) (x : List Nat) : Bool := decide (∃ y, x = f ++ (y ++ e) ∧ Sub ms y)
theorem emP_iff {f e : List Nat} {ms : List (List Nat)} {x : List Nat} : emP f e ms x = true ↔ ∃ y, x = f ++ (y ++ e) ∧ Sub ms y := by unfold emP; simp
theorem em_emP (fo : Str) (ms : List Str) (en w : Str) : em fo ms en w = emP (Lx fo) (Lx en) (ms.map Lx) (Lx w) := by
  rw [Bool.eq_iff_iff, em_iff]
  unfold emP
  simp
theorem count_emP (ls fo en : Str) (ms : List Str) (i : Nat) : ((Wd ls i).map (em fo ms en)).count true = cnt (Lx ls) i (emP (Lx fo) (Lx en) (ms.map Lx)) := by
  unfold cnt
  rw [← wd_wl, List.countP_map, List.count, List.countP_map]
  refine List.countP_congr fun w _ => ?_
  simp only [Function.comp, em_emP, beq_true]
/-- the front and the end are one word each -/
theorem cnt_strip {A f e : List Nat} (hA : A.Nodup) (hf : ∀ c ∈ f, c ∈ A) (he : ∀ c ∈ e, c ∈ A) (ms : List (List Nat)) (n : Nat) : cnt A (f.length + (n + e.length)) (emP f e ms) = cnt A n (subB ms) := by
  have h1 : cnt A (f.length + (n + e.length)) (emP f e ms) = cnt A (f.length + (n + e.length)) (fun x => (fun u => u == f) (x.take f.length) && (fun z => subB ms (z.take n) && (fun v => v == e) (z.drop n)) (x.drop f.length)) := by
    refine cnt_congr fun x hx => ?_
    rw [Bool.eq_iff_iff]
    unfold emP
    simp only [decide_eq_true_eq, Bool.and_eq_true, beq_iff_eq, subB_iff]
    constructor
    · rintro ⟨y, rfl, h⟩
      simp only [List.length_append] at hx
      have hy : y.length = n := by omega
      refine ⟨by simp, ?_, ?_⟩
      · rw [List.drop_left, ← hy, List.take_left]; exact h
      · rw [List.drop_left, ← hy, List.drop_left]
    · rintro ⟨a, b, c⟩
      refine ⟨(x.drop f.length).take n, ?_, b⟩
      have e1 := (List.take_append_drop f.length x).symm
      have e2 := (List.take_append_drop n (x.drop f.length)).symm
      rw [c] at e2
      rw [a] at e1
      rw [← e2]
      exact e1
  rw [h1]
  refine (cnt_prod A f.length (n + e.length) (fun u => u == f) (fun z => subB ms (z.take n) && (fun v => v == e) (z.drop n))).trans ?_
  rw [cnt_one hA hf, Nat.one_mul]
  refine (cnt_prod A n e.length (subB ms) (fun v => v == e)).trans ?_
  rw [cnt_one hA he, Nat.mul_one]
theorem cnt_short {A f e : List Nat} (ms : List (List Nat)) {i : Nat} (h : i < f.length + e.length) : cnt A i (emP f e ms) = 0 := by
  unfold cnt
  rw [List.countP_eq_zero]
  intro x hx hc
  have hl := wl_len hx
  obtain ⟨y, rfl, _⟩ := emP_iff.mp hc
  simp only [List.length_append] at hl
  omega
theorem over_L {ls x : Str} (h : Over ls x) : ∀ c ∈ Lx x, c ∈ Lx ls := by
  intro c hc
  have : c ∈ x.cps := by simpa [Lx] using hc
  simpa [Lx] using h c this
/-- what the law asks is so -/
theorem main_eq {K : Nat} {ls p1 p2 fo en : Str} {ms : List Str} {q : Int} (hK : K = 2 ∨ K = 3) (h : Asks K ls p1 p2 fo en ms q) (i : Nat) (hi : i ≤ 7 - K) :
    ((((Wd ls i).map (em fo ms en)).count true : Nat) : Int) = Builtin.bitAnd (q.fdiv (2 ^ (10 * (7 - (K : Int) - (0 + (i : Int)))).toNat)) 1023 := by
  obtain ⟨hls, hl, ⟨lp1, op1⟩, ⟨lp2, op2⟩, ⟨lfo, ofo⟩, ⟨len, oen⟩, hq, hms⟩ := h
  have hAl : (Lx ls).length = K := by rw [Lx_len, hl]
  have m1 := Lx_len p1
  have m2 := Lx_len p2
  have m3 := Lx_len fo
  have m4 := Lx_len en
  have hsub : ∀ x, Sub (ms.map Lx) x ↔ Sub [Lx p1, Lx p2] x := by
    intro x
    rcases hms with rfl | ⟨rfl, rfl, rfl⟩
    · exact Iff.rfl
    · have e : Lx (Str.ofString "") = [] := by decide +kernel
      rw [e, sub_nil_cons, sub_nil_cons]
      exact Iff.rfl
  have hemP : emP (Lx fo) (Lx en) (ms.map Lx) = emP (Lx fo) (Lx en) [Lx p1, Lx p2] := by
    funext x
    rw [Bool.eq_iff_iff]
    unfold emP
    simp only [decide_eq_true_eq, hsub]
  rw [count_emP, hemP]
  have t1 := tab_use hls.one (over_L op1) (by omega)
  have t2 := tab_use hls.one (over_L op2) (by omega)
  have hFe : (7 - (K : Int) - fo.length - en.length) = ((7 - K - fo.length - en.length : Nat) : Int) := by omega
  have hte : (10 * (7 - (K : Int) - (0 + (i : Int)))).toNat = 10 * (7 - K - i) := by omega
  rw [hte, ← hq, hFe, ← m1, ← m2]
  rw [dig_use hK t1.1 t2.1 (by omega) (by omega)]
  by_cases hc : i < fo.length + en.length
  · rw [cnt_short _ (by omega), if_neg (by omega)]
    rfl
  · rw [if_pos (by omega)]
    have hie : i = (Lx fo).length + ((i - fo.length - en.length) + (Lx en).length) := by omega
    have e1 : cnt (Lx ls) i (emP (Lx fo) (Lx en) [Lx p1, Lx p2]) = cnt (Lx ls) (i - fo.length - en.length) (subB [Lx p1, Lx p2]) := by
      have := cnt_strip hls.nodup (over_L ofo) (over_L oen) [Lx p1, Lx p2] (i - fo.length - en.length)
      rwa [← hie] at this
    rw [e1, cnt_two hls.one (over_L op1) (by omega) (over_L op2) (by omega) (by omega), hAl]
    congr 2
    omega
end
end Mine
namespace Mine
section
theorem Fr.named {h₀ h : Heap} {L : Addr} {m : Str → Option Value} {y : Str} {v : Value} (F : Fr h₀ L h m) (e : m y = some v) : Fr h₀ L h (fun z => if z = y then some v else m z) := by
  have : (fun z => if z = y then some v else m z) = m := by
    funext z
    by_cases hz : z = y
    · subst hz; simp [e]
    · simp [hz]
  rw [this]; exact F
/-- behind the first row: the script's first four, by their remainders -/
def MidA (s : Shared) (L : Addr) (s' : Shared) : Prop := ∃ (h : Heap) (tk : Nat) (u : Str → Option Value) (D : Addr) (n : Nat) (ys : List Value) (ds : List Int) (o : Obj), s' = { s with heap := h, toks := tk } ∧
  Fr s.heap L h (fun z => if z = Str.ofString "drawn" then some (.ref D) else u z) ∧ News s.heap L h [(D, W.listOf ys.toArray n), (L + 1, o)] ∧ IntsAre ys ds ∧ ds.length ≤ 4 ∧ (∀ d ∈ ds, 0 ≤ d ∧ d < 1000000) ∧ o.data = .cell none
theorem drawn_ok (ns : List Int) : (List.map (fun k' => Int.fmod k' (10 ^ Int.toNat 6)) (List.take 4 ns)).length ≤ 4 ∧ ∀ d ∈ List.map (fun k' => Int.fmod k' (10 ^ Int.toNat 6)) (List.take 4 ns), 0 ≤ d ∧ d < 1000000 := by
  refine ⟨by simp; omega, fun d hd => ?_⟩
  obtain ⟨k, _, rfl⟩ := List.mem_map.mp hd
  have e : ((10 : Int) ^ Int.toNat 6) = 1000000 := by decide
  rw [e]
  exact ⟨Int.fmod_nonneg_of_pos _ (by decide), Int.fmod_lt_of_pos _ (by decide)⟩
def Cell (c : Int) : Prop := 0 ≤ c ∧ c < 1000000
/-- behind the second row: four cells -/
def MidB (s : Shared) (L : Addr) (s' : Shared) : Prop := ∃ (h : Heap) (tk : Nat) (u : Str → Option Value) (D : Addr) (n : Nat) (c0 c1 c2 c3 : Int) (t0 t1 t2 t3 : Tok) (o : Obj), s' = { s with heap := h, toks := tk } ∧
  Fr s.heap L h (fun z => if z = Str.ofString "cells" then some (.ref D) else u z) ∧ News s.heap L h [(D, W.listOf #[.int c0 t0, .int c1 t1, .int c2 t2, .int c3 t3] n), (L + 1, o)] ∧
  Cell c0 ∧ Cell c1 ∧ Cell c2 ∧ Cell c3 ∧ o.data = .cell none
/-- behind the fourth row: the letters -/
def MidC (s : Shared) (L : Addr) (s' : Shared) : Prop := ∃ (h : Heap) (tk : Nat) (u : Str → Option Value) (D : Addr) (n : Nat) (c0 c1 c2 c3 : Int) (t0 t1 t2 t3 tl : Tok) (o : Obj) (ls : Str), s' = { s with heap := h, toks := tk } ∧
  Fr s.heap L h (fun z => if z = Str.ofString "cells" then some (.ref D) else u z) ∧ News s.heap L h [(D, W.listOf #[.int c0 t0, .int c1 t1, .int c2 t2, .int c3 t3] n), (L + 1, o)] ∧
  Cell c0 ∧ Cell c1 ∧ Cell c2 ∧ Cell c3 ∧ o.data = .cell (some (.str ls tl)) ∧ Letters ls
theorem letters_of {x : Str} {k : Int} (h0 : Letters (Txt.slice x none (some 2))) (h1 : Letters (Txt.slice x none (some 3))) : Letters (Txt.slice x none (some (2 + k.fmod 2))) := by
  have a : 0 ≤ k.fmod 2 := Int.fmod_nonneg_of_pos _ (by decide)
  have b : k.fmod 2 < 2 := Int.fmod_lt_of_pos _ (by decide)
  have : k.fmod 2 = 0 ∨ k.fmod 2 = 1 := by omega
  rcases this with e | e <;> rw [e]
  · exact h0
  · exact h1
theorem letters_all {k : Int} : Letters (Txt.slice (Str.ofString "ab*") none (some (2 + k.fmod 2))) ∧ Letters (Txt.slice (Str.ofString "a\n*") none (some (2 + k.fmod 2))) ∧
    Letters (Txt.slice (Str.ofString "\n a") none (some (2 + k.fmod 2))) ∧ Letters (Txt.slice (Str.ofString "*[\\") none (some (2 + k.fmod 2))) :=
  ⟨letters_of ⟨by decide +kernel, by unfold NoDot; decide +kernel, by decide +kernel, by decide +kernel, by decide +kernel⟩ ⟨by decide +kernel, by unfold NoDot; decide +kernel, by decide +kernel, by decide +kernel, by decide +kernel⟩,
   letters_of ⟨by decide +kernel, by unfold NoDot; decide +kernel, by decide +kernel, by decide +kernel, by decide +kernel⟩ ⟨by decide +kernel, by unfold NoDot; decide +kernel, by decide +kernel, by decide +kernel, by decide +kernel⟩,
   letters_of ⟨by decide +kernel, by unfold NoDot; decide +kernel, by decide +kernel, by decide +kernel, by decide +kernel⟩ ⟨by decide +kernel, by unfold NoDot; decide +kernel, by decide +kernel, by decide +kernel, by decide +kernel⟩,
   letters_of ⟨by decide +kernel, by unfold NoDot; decide +kernel, by decide +kernel, by decide +kernel, by decide +kernel⟩ ⟨by decide +kernel, by unfold NoDot; decide +kernel, by decide +kernel, by decide +kernel, by decide +kernel⟩⟩
theorem over_ok {ls x : Str} (h : Over ls x) (k : PyData.strOk ls = true) : PyData.strOk x = true := by
  unfold PyData.strOk at *
  rw [Array.all_eq_true'] at *
  exact fun c hc => k c (h c hc)
theorem over_dot {ls x : Str} (h : Over ls x) (k : NoDot ls) : NoDot x := by
  intro hc
  have : 46 ∈ x.cps := by simpa [Lx] using hc
  exact k (by simpa [Lx] using h 46 this)
def Stop (P : Prop) : Prop := P
theorem Stop.out {P : Prop} (h : Stop P) : P := h
theorem paired_two {G : Value → Value → Prop} {a b : Value} {zs : List Value} (h : Paired G [a, b] zs) : ∃ y z, zs = [y, z] ∧ G a y ∧ G b z := by
  cases h with
  | cons h1 h =>
    cases h with
    | cons h2 h =>
      cases h
      exact ⟨_, _, rfl, h1, h2⟩
/-- behind the sixth row: the pieces, the front, the end -/
def MidD (s : Shared) (L : Addr) (s' : Shared) : Prop := ∃ (h : Heap) (tk : Nat) (u : Str → Option Value) (D : Addr) (n : Nat) (p1 p2 fo en ls : Str) (t1 t2 tf te tl : Tok) (o : Obj), s' = { s with heap := h, toks := tk } ∧
  Fr s.heap L h (fun z => if z = Str.ofString "pieces" then some (.ref D) else if z = Str.ofString "front" then some (.str fo tf) else if z = Str.ofString "end" then some (.str en te) else u z) ∧
  News s.heap L h [(D, W.listOf #[.str p1 t1, .str p2 t2] n), (L + 1, o)] ∧ o.data = .cell (some (.str ls tl)) ∧ Letters ls ∧
  (p1.length ≤ 3 ∧ Over ls p1) ∧ (p2.length ≤ 3 ∧ Over ls p2) ∧ (fo.length ≤ 2 ∧ Over ls fo) ∧ (en.length ≤ 2 ∧ Over ls en)
/-- behind the eighth row: the greatest length, the quotient -/
def MidE (K : Nat) (s : Shared) (L : Addr) (s' : Shared) : Prop := ∃ (h : Heap) (tk : Nat) (u : Str → Option Value) (D : Addr) (n : Nat) (p1 p2 fo en ls : Str) (t1 t2 tf te tl tt tq : Tok) (o : Obj) (q : Int), s' = { s with heap := h, toks := tk } ∧
  Fr s.heap L h (fun z => if z = Str.ofString "pieces" then some (.ref D) else if z = Str.ofString "front" then some (.str fo tf) else if z = Str.ofString "end" then some (.str en te) else if z = Str.ofString "top" then some (.int (7 - (K : Int)) tt) else if z = Str.ofString "quotient" then some (.int q tq) else u z) ∧
  News s.heap L h [(D, W.listOf #[.str p1 t1, .str p2 t2] n), (L + 1, o)] ∧ o.data = .cell (some (.str ls tl)) ∧ Letters ls ∧ ls.length = K ∧
  (p1.length ≤ 3 ∧ Over ls p1) ∧ (p2.length ≤ 3 ∧ Over ls p2) ∧ (fo.length ≤ 2 ∧ Over ls fo) ∧ (en.length ≤ 2 ∧ Over ls en) ∧
  qt (K : Nat) (ovl (Lx p1) p1.length) (ovl (Lx p2) p2.length) (7 - (K : Int) - fo.length - en.length) = q
theorem join_eq (l : List Str) : Txt.join dots l = Str.join dots l := StrLaws.glued_eq_join dots l
/-- behind the tenth row: the want, the words -/
def MidF (K : Nat) (s : Shared) (L : Addr) (s' : Shared) : Prop := ∃ (h : Heap) (tk : Nat) (u : Str → Option Value) (D : Addr) (n : Nat) (p1 p2 fo en ls : Str) (ms : List Str) (t0 tl tt tq tw : Tok) (o : Obj) (q : Int), s' = { s with heap := h, toks := tk } ∧
  Fr s.heap L h (fun z => if z = Str.ofString "words" then some (.ref D) else if z = Str.ofString "want" then some (.str (Str.join dots (fo :: (ms ++ [en]))) tw) else if z = Str.ofString "top" then some (.int (7 - (K : Int)) tt) else if z = Str.ofString "quotient" then some (.int q tq) else u z) ∧
  News s.heap L h [(D, W.listOf #[.str (Str.ofString "") t0] n), (L + 1, o)] ∧ o.data = .cell (some (.str ls tl)) ∧ Asks K ls p1 p2 fo en ms q
def LoopInv (K : Nat) (L : Addr) (o : Obj) (ls fo en : Str) (ms : List Str) (q : Int) (tt tq tw : Tok) (i : Nat) (m : Str → Option Value) (news : List (Addr × Obj)) : Prop :=
  ∃ (D : Addr) (n : Nat) (ys : Array Value) (u : Str → Option Value), m = (fun z => if z = Str.ofString "words" then some (.ref D) else if z = Str.ofString "want" then some (.str (Str.join dots (fo :: (ms ++ [en]))) tw) else if z = Str.ofString "top" then some (.int (7 - (K : Int)) tt) else if z = Str.ofString "quotient" then some (.int q tq) else u z) ∧
    (D, W.listOf ys n) ∈ news ∧ (L + 1, o) ∈ news ∧ StrsAre ys.toList (Wd ls (i - 1))
theorem map_words {m : Str → Option Value} {D : Addr} {a b c : Value} (e0 : m (Str.ofString "words") = some (.ref D)) (e1 : m (Str.ofString "want") = some a) (e2 : m (Str.ofString "top") = some b) (e3 : m (Str.ofString "quotient") = some c) :
    m = (fun z => if z = Str.ofString "words" then some (.ref D) else if z = Str.ofString "want" then some a else if z = Str.ofString "top" then some b else if z = Str.ofString "quotient" then some c else m z) := by
  funext z
  by_cases h0 : z = Str.ofString "words"
  · rw [if_pos h0, h0, e0]
  · by_cases h1 : z = Str.ofString "want"
    · rw [if_neg h0, if_pos h1, h1, e1]
    · by_cases h2 : z = Str.ofString "top"
      · rw [if_neg h0, if_neg h1, if_pos h2, h2, e2]
      · by_cases h3 : z = Str.ofString "quotient"
        · rw [if_neg h0, if_neg h1, if_neg h2, if_pos h3, h3, e3]
        · rw [if_neg h0, if_neg h1, if_neg h2, if_neg h3]
theorem wd_len (ls : Str) (hl : ls.length ≤ 3) : ∀ i, (Wd ls i).length = ls.length ^ i ∧ ∀ x ∈ Wd ls i, x.length = i
  | 0 => by
    refine ⟨by simp [Wd], fun x hx => ?_⟩
    simp only [Wd, List.mem_singleton] at hx
    subst hx
    decide +kernel
  | i + 1 => by
    obtain ⟨h1, h2⟩ := wd_len ls hl i
    refine ⟨?_, fun x hx => ?_⟩
    · have key : ∀ l : List Str, (l.flatMap fun wd => ls.cps.toList.map (fun c => wd ++ (⟨#[c]⟩ : Str))).length = l.length * ls.length := by
        intro l
        induction l with
        | nil => simp
        | cons a r ih => rw [List.flatMap_cons, List.length_append, ih, List.length_map, List.length_cons, Nat.succ_mul]; simp only [Str.length, Array.length_toList]; omega
      show ((Wd ls i).flatMap _).length = _
      rw [key, h1, Nat.pow_succ]
    · obtain ⟨wd, hw, hx⟩ := List.mem_flatMap.mp (show x ∈ (Wd ls i).flatMap _ from hx)
      obtain ⟨c, _, rfl⟩ := List.mem_map.mp hx
      rw [Str.length_append, h2 wd hw]
      rfl
theorem wd_small (ls : Str) (hl : ls.length ≤ 3) (i : Nat) (hi : i ≤ 5) : (Wd ls i).length ≤ 1000 ∧ ∀ x ∈ Wd ls i, x.length ≤ 1000 := by
  obtain ⟨h1, h2⟩ := wd_len ls hl i
  refine ⟨?_, fun x hx => by rw [h2 x hx]; omega⟩
  rw [h1]
  have a : ls.length ^ i ≤ 3 ^ i := Nat.pow_le_pow_left hl i
  have b : 3 ^ i ≤ 3 ^ 5 := Nat.pow_le_pow_right (by omega) hi
  have c : (3 : Nat) ^ 5 = 243 := by decide
  omega
section
variable {M : Model} {w : World} {A : Around} {E : Value → Shared → Prop} {s : Shared} {h₀ : Heap} {L C : Addr} {m m₃ mg mb : Str → Option Value} {mean : ExcName → Option Value} {env : Env} {x : Str} {pos : Pos} {scope : Scope} {cl : List (Str × Addr)} {v : Value} {Q : Value → Shared → Prop}
theorem nameD_L (hn : s.heap.Ns C m₃) (hv : m₃ x = some v) (h : Q v s) (hk : (compEnvC scope cl C env).scope.kind = .function) (hx : (compEnvC scope cl C env).kindOf x = some .local) (hb : (x == ("__debug__" : Str)) = false) :
    wpAny M A (eval (.Name x pos) (compEnvC scope cl C env)) Q E s := wpAny_Name (wpAny_loadName_local hk hx hn hv h) hb
theorem nameD_K (F : Fr h₀ L s.heap m) (X : (hd.heap_39 w.params).In h₀) (T : Top hd.view_39 (looseW hd.view_39 []) mean mg mb h₀) (e : nsIn (hd.heap_39 w.params) mainGlobals x = some (some v)) (h : Q v s)
    (hg : env.globals = mainGlobals) (hk : (compEnvC scope cl C env).scope.kind = .function) (hx : (compEnvC scope cl C env).kindOf x = some .globalImplicit) (hd : (x == ("__debug__" : Str)) = false) :
    wpAny M A (eval (.Name x pos) (compEnvC scope cl C env)) Q E s :=
  Name_function_global hk hx (loadGlobal_global (env := compEnvC scope cl C env) (by show Heap.Ns _ env.globals _; rw [hg]; exact T.g.keeps F.keep) (mg_of X T.g e) h) hd
theorem ct_concatA {A : Around} {a b : Str} {t1 t2 : Tok} (O : Ok w s.heap) (hA : A.handled = none) (hr : A.depth < recursionLimit) (h1 : a.length ≤ 1000) (h2 : b.length ≤ 1000) :
    wpAny (model PySem.Challenge.rw_pg0085_01.row.prog w) A (call (.ref 77) [.str a t1, .str b t2]) (Ret s (fun v => ∃ t, v = .str (a ++ b) t)) E s := by
  obtain ⟨hh, dp, fr, gd, un⟩ := A
  cases hA
  exact ct_concat O hr h1 h2
end
section
local macro_rules | `(tactic| walk_at "call ref") => `(tactic| ((with_reducible show wpAny _ _ (call (Value.ref 91) [Value.int _ _, Value.ref _, Value.str _ _]) _ _ _); k_dflt (refine' use_word 3 ?k1 ?k2 ?k3 ?k4 ?k5 ?k6 ?k7 ?k8 ?k9 ?j1 ?j2 ?_; (case k1 => k_asm); (case k2 => k_asm); (case k3 => k_asm); (case k4 => k_asm); (case k5 => exact rfl); (case k6 => (simp only [depth_deeper, depth_in1]; omega)); (case k9 => exact News.isTup (by k_asm) (by k_mem)); (case k7 => assumption); (case k8 => assumption); (case j1 => decide); (case j2 => decide); k_whole); intro x' t' h' tk' hx' ox' F' N'; (try k_sweep)))
local macro_rules | `(tactic| walk_at "call ref") => `(tactic| ((with_reducible show wpAny _ _ (call (Value.ref 91) [Value.int _ _, Value.ref _, Value.str _ _]) _ _ _); k_dflt (refine' use_word 2 ?k1 ?k2 ?k3 ?k4 ?k5 ?k6 ?k7 ?k8 ?k9 ?j1 ?j2 ?_; (case k1 => k_asm); (case k2 => k_asm); (case k3 => k_asm); (case k4 => k_asm); (case k5 => exact rfl); (case k6 => (simp only [depth_deeper, depth_in1]; omega)); (case k9 => exact News.isTup (by k_asm) (by k_mem)); (case k7 => assumption); (case k8 => assumption); (case j1 => decide); (case j2 => decide); k_whole); intro x' t' h' tk' hx' ox' F' N'; (try k_sweep)))
local macro_rules | `(tactic| walk_at "CompSrc") => `(tactic| ((with_reducible show LCg.CompSrc _ _ _ _ _ _ _ _ _ _ _ _ _ _); (have hLt9 := Letters.len (by assumption)); clear hLt9; refine Stop.out ?_))
local macro_rules | `(tactic| walk_at "call builtin:len") => `(tactic| ((with_reducible show wpAny _ _ (call (Value.builtin "len") [Value.str _ _]) _ _ _); (refine' call_len_lit ?k1 ?k2 ?_; (case k1 => assumption); (case k2 => decide)); (intro t' tk'); (try dsimp only); (try simp only [Int.cast_ofNat_Int])))
local macro_rules | `(tactic| walk_at "call ref") => `(tactic| ((with_reducible show wpAny _ _ (call (Value.ref 105) [Value.ref _, Value.int _ _, Value.int _ _]) _ _ _); k_dflt (refine' use_quot (k := 2) ?k1 ?k2 ?k3 ?k4 ?k5 ?k6 ?k7 ?k8 ?k9 ?j1 ?j2 ?j3 ?j4 ?_; (case k1 => k_asm); (case k2 => k_asm); (case k3 => k_asm); (case k4 => k_asm); (case k5 => exact rfl); (case k6 => (simp only [depth_deeper, depth_in1]; omega)); (case k7 => k_mem); (case k8 => decide); (case k9 => omega); (case j1 => assumption); (case j2 => assumption); (case j3 => assumption); (case j4 => assumption); k_whole); intro q' t' h' tk' eq' F' N'; (try k_sweep)))
local macro_rules | `(tactic| walk_at "call ref") => `(tactic| ((with_reducible show wpAny _ _ (call (Value.ref 105) [Value.ref _, Value.int _ _, Value.int _ _]) _ _ _); k_dflt (refine' use_quot (k := 3) ?k1 ?k2 ?k3 ?k4 ?k5 ?k6 ?k7 ?k8 ?k9 ?j1 ?j2 ?j3 ?j4 ?_; (case k1 => k_asm); (case k2 => k_asm); (case k3 => k_asm); (case k4 => k_asm); (case k5 => exact rfl); (case k6 => (simp only [depth_deeper, depth_in1]; omega)); (case k7 => k_mem); (case k8 => decide); (case k9 => omega); (case j1 => assumption); (case j2 => assumption); (case j3 => assumption); (case j4 => assumption); k_whole); intro q' t' h' tk' eq' F' N'; (try k_sweep)))
local macro_rules | `(tactic| walk_at "compareOp NotEq ref ref") => `(tactic| ((with_reducible show wpAny _ _ (compareOp CmpOp.NotEq (Value.ref _) (Value.ref _)) _ _ _); k_dflt (refine' ne_two ?k1 ?k2 ?k3 ?k5 ?k6 ?k4 ?_; (case k1 => exact News.get (by k_asm) (by k_mem)); (case k2 => exact News.get (by k_asm) (by k_mem)); (case k3 => (simp only [units_deeper, units_in1]; omega)); (case k5 => assumption); (case k6 => assumption); (case k4 => assumption); k_whole); (try dsimp only [Bool.not_true, Bool.not_false])))
local macro_rules | `(tactic| walk_at "RangeRest") => `(tactic| ((with_reducible show RangeRest _ _ _ _ _ _ _ _ _ _ _ _ _ _ _ _ _); refine Stop.out ?_))
local macro_rules | `(tactic| walk_at "exec Assign cons ListComp") => `(tactic| ((with_reducible show wpAny _ _ (exec (Stmt.Assign _ (Expr.ListComp _ (_ :: _ :: _) _ _) _) _) _ _ _); refine Stop.out ?_))
local macro_rules | `(tactic| walk_at "call ref") => `(tactic| ((with_reducible show wpAny _ _ (call (Value.ref 35) [Value.int _ _, Value.int _ _]) _ _ _); k_dflt (refine' use_and_ ?k1 ?k2 ?k3 ?k4 ?k5 ?k6   ?_; (case k1 => k_asm); (case k2 => k_asm); (case k3 => k_asm); (case k4 => k_asm); (case k5 => exact rfl); (case k6 => (simp only [depth_deeper, depth_in1]; omega));   k_whole); intro t' h' tk' F' N'; (try k_sweep)))
local macro_rules | `(tactic| walk_at "call ref") => `(tactic| ((with_reducible show wpAny _ _ (call (Value.ref 63) [Value.int _ _, Value.int _ _]) _ _ _); k_dflt (refine' use_rshift ?k1 ?k2 ?k3 ?k4 ?k5 ?k6 ?k7 ?_; (case k1 => k_asm); (case k2 => k_asm); (case k3 => k_asm); (case k4 => k_asm); (case k5 => exact rfl); (case k6 => (simp only [depth_deeper, depth_in1]; omega)); (case k7 => omega); k_whole); intro t' h' tk' F' N'; (try k_sweep)))
local macro_rules | `(tactic| walk_at "call ref") => `(tactic| ((with_reducible show wpAny _ _ (call (Value.ref 110) [Value.str _ _, Value.ref _]) _ _ _); k_dflt (refine' use_cnt ?k1 ?k2 ?k3 ?k4 ?k5 ?k6 ?k7 ?k8 ?k9 ?j1 ?j2 ?j3 ?j4 ?j5 ?_; (case k1 => k_asm); (case k2 => k_asm); (case k3 => k_asm); (case k4 => k_asm); (case k5 => exact rfl); (case k6 => (simp only [depth_deeper, depth_in1]; omega)); (case k7 => k_mem); (case k8 => assumption); (case k9 => assumption); (case j1 => assumption); (case j2 => assumption); (case j3 => assumption); (case j4 => assumption); (case j5 => assumption); k_whole); intro t' h' tk' F' N'; (try k_sweep)))
local macro_rules | `(tactic| walk_at "eval Name") => `(tactic| (k_here; (with_reducible show wpAny _ _ (eval (Expr.Name _ _) (compEnvC _ _ _ _)) _ _ _); k_dflt (first
  | (refine' nameD_L ?k1 ?k2 ?_ ?a ?b ?c; (case a => rfl); (case b => rfl); (case c => decide); (case k1 => assumption); (case k2 => assumption); k_whole)
  | (refine' nameD_K ?F ?X ?T ?e ?_ ?g ?a ?b ?c; (case g => rfl); (case a => rfl); (case b => rfl); (case c => decide); (case F => k_asm); (case X => k_asm); (case T => k_asm); (case e => k_is); k_whole))))
set_option maxHeartbeats 8000000 in
theorem ct_law {w : World} {dp un : Nat} {fr : Option (List Env)} {gd : Option (List Code)} {E : Value → Shared → Prop} {s : Shared} {l : Addr} {vs : List Value} {ns : List Int}
    (O : Ok w s.heap) (hr : dp + 20 < recursionLimit) (hl : s.heap.IsList l vs.toArray) (hI : IntsAre vs ns) (hn : ns.length ≤ 63) (hu : un + 200 < cLine) :
    wpAny (model PySem.Challenge.rw_pg0085_01.row.prog w) ⟨none, dp, fr, gd, un⟩ (call (.ref 115) [.ref l]) (Ret s (fun v => v = .bool true)) E s := by
  have hr' : dp < recursionLimit := by omega
  w_top off
  have X0 := (O).x
  revert X0
  k_fill
  intro X0
  refine' enterC O ?k6 ?k7 ?k8 ?k9 ?kB ?kD ?_ ?c2 ?c3 ?c4
  case k6 => k_is
  case k7 => k_is
  case k8 => exact hr'
  case k9 => exact BindsTo.of_eq rfl
  case kB => exact rfl
  case kD => decide +kernel
  case c2 => exact rfl
  case c3 => exact rfl
  case c4 => exact rfl
  intro L' h' tk' cells' mean mg mb F' N' Y' X' T'
  clear X0
  k_cells Y'
  (try dsimp only)
  (try k_fold)
  refine execs_mid 1 (MidA s L') ?_ ?_
  · dsimp only [List.take]
    (try k_fold)
    k_steps
    refine ⟨_, _, _, _, _, _, _, _, rfl, Fr.named (v := Value.ref _) (by assumption) (by rfl), cb_drop (by assumption) (by kcj_all), (by assumption), (drawn_ok ns).1, (drawn_ok ns).2, (by assumption)⟩
  · rintro s' ⟨h, tk, u, D, n, ys, ds, o, rfl, F, N, hI2, hd4, hds, ho⟩
    clear hl hI hn
    refine execs_mid 1 (MidB s L') ?_ ?_
    · rcases ds with _ | ⟨a, _ | ⟨b, _ | ⟨c, _ | ⟨d, _ | ⟨e, r⟩⟩⟩⟩⟩
      · cases hI2 with | nil =>
        dsimp only [List.take, List.drop]
        (try k_fold)
        k_steps
        refine ⟨_, _, _, _, _, _, _, _, _, _, _, _, _, _, rfl, Fr.named (v := Value.ref _) (by assumption) (by rfl), cb_drop (by assumption) (by kcj_all), ?_, ?_, ?_, ?_, (by assumption)⟩
        all_goals (first | exact hds _ (by k_mem) | (unfold Cell; decide))
      · cases hI2 with | cons _ t1 hI2 => cases hI2 with | nil =>
        dsimp only [List.take, List.drop]
        (try k_fold)
        k_steps
        refine ⟨_, _, _, _, _, _, _, _, _, _, _, _, _, _, rfl, Fr.named (v := Value.ref _) (by assumption) (by rfl), cb_drop (by assumption) (by kcj_all), ?_, ?_, ?_, ?_, (by assumption)⟩
        all_goals (first | exact hds _ (by k_mem) | (unfold Cell; decide))
      · cases hI2 with | cons _ t1 hI2 => cases hI2 with | cons _ t2 hI2 => cases hI2 with | nil =>
        dsimp only [List.take, List.drop]
        (try k_fold)
        k_steps
        refine ⟨_, _, _, _, _, _, _, _, _, _, _, _, _, _, rfl, Fr.named (v := Value.ref _) (by assumption) (by rfl), cb_drop (by assumption) (by kcj_all), ?_, ?_, ?_, ?_, (by assumption)⟩
        all_goals (first | exact hds _ (by k_mem) | (unfold Cell; decide))
      · cases hI2 with | cons _ t1 hI2 => cases hI2 with | cons _ t2 hI2 => cases hI2 with | cons _ t3 hI2 => cases hI2 with | nil =>
        dsimp only [List.take, List.drop]
        (try k_fold)
        k_steps
        refine ⟨_, _, _, _, _, _, _, _, _, _, _, _, _, _, rfl, Fr.named (v := Value.ref _) (by assumption) (by rfl), cb_drop (by assumption) (by kcj_all), ?_, ?_, ?_, ?_, (by assumption)⟩
        all_goals (first | exact hds _ (by k_mem) | (unfold Cell; decide))
      · cases hI2 with | cons _ t1 hI2 => cases hI2 with | cons _ t2 hI2 => cases hI2 with | cons _ t3 hI2 => cases hI2 with | cons _ t4 hI2 => cases hI2 with | nil =>
        dsimp only [List.take, List.drop]
        (try k_fold)
        k_steps
        refine ⟨_, _, _, _, _, _, _, _, _, _, _, _, _, _, rfl, Fr.named (v := Value.ref _) (by assumption) (by rfl), cb_drop (by assumption) (by kcj_all), ?_, ?_, ?_, ?_, (by assumption)⟩
        all_goals (first | exact hds _ (by k_mem) | (unfold Cell; decide))
      · exact absurd hd4 (by simp only [List.length_cons]; omega)
    · clear F N hI2 hd4 hds ho
      rintro s' ⟨h, tk, u, D, n, c0, c1, c2, c3, t0, t1, t2, t3, o, rfl, F, N, hc0, hc1, hc2, hc3, ho⟩
      refine execs_mid 2 (MidC s L') ?_ ?_
      · dsimp only [List.take, List.drop]
        (try k_fold)
        k_steps
        all_goals (refine ⟨_, _, _, _, _, _, _, _, _, _, _, _, _, _, _, _, rfl, Fr.named (y := Str.ofString "cells") (v := Value.ref _) (by assumption) (by rfl), cb_drop (by assumption) (by kcj_all), hc0, hc1, hc2, hc3, (by assumption), ?_⟩)
        all_goals (first | exact letters_all.1 | exact letters_all.2.1 | exact letters_all.2.2.1 | exact letters_all.2.2.2)
      · clear F N hc0 hc1 hc2 hc3 ho
        rintro s' ⟨h, tk, u, D, n, c0, c1, c2, c3, t0, t1, t2, t3, tl, o, ls, rfl, F, N, hc0, hc1, hc2, hc3, ho, hls⟩
        have hll : 2 ≤ ls.length ∧ ls.length ≤ 3 := by have := hls.len; omega
        have hc0' : 0 ≤ c0 ∧ c0 < 1000000 := hc0
        have hc1' : 0 ≤ c1 ∧ c1 < 1000000 := hc1
        have hc2' : 0 ≤ c2 ∧ c2 < 1000000 := hc2
        have hc3' : 0 ≤ c3 ∧ c3 < 1000000 := hc3
        refine execs_mid 2 (MidD s L') ?_ ?_
        · dsimp only [List.take, List.drop]
          (try k_fold)
          k_steps
          refine Stop.out (show LCg.CompSrc _ _ _ _ _ _ _ _ _ _ _ _ _ _ from Or.inl ⟨_, [Value.int c0 t0, Value.int c1 t1].toArray, _, rfl, rfl, (by assumption), (by assumption), Or.inr ⟨_, (by k_mem), rfl, _, rfl⟩, (by rw [sizeLine_eq]; exact Nat.le_of_ble_eq_true rfl), ?_⟩)
          rintro s₂ ⟨hh, rfl⟩
          refine comp_rest (vs := [Value.int c0 t0, Value.int c1 t1]) (fun _ y => ∃ x t, y = .str x t ∧ x.length ≤ 3 ∧ Over ls x) (Or.inr ⟨_, (by k_mem), rfl, _, rfl⟩) ?_ 2 0 [] rfl ?_
          · intro v I oI C oC D ys m₂ h tk E' R hv hoC hm F N hR
            have hv' : ∃ c t, v = .int c t ∧ (0 ≤ c ∧ c < 1000000) := by
              simp only [List.mem_cons, List.not_mem_nil, or_false] at hv
              rcases hv with rfl | rfl
              · exact ⟨_, _, rfl, hc0'⟩
              · exact ⟨_, _, rfl, hc1'⟩
            obtain ⟨c, t, rfl, hc⟩ := hv'
            k_steps
            exact ⟨_, _, rfl, (by assumption), cb_drop (by assumption) (by kcj_all), hR _ ⟨_, _, rfl, (by assumption), (by assumption)⟩⟩
          · intro zs hz
            obtain ⟨y1, y2, rfl, ⟨p1, tp1, rfl, lp1, op1⟩, ⟨p2, tp2, rfl, lp2, op2⟩⟩ := paired_two hz
            intro D h tk F N off
            k_steps
            refine Stop.out (show LCg.CompSrc _ _ _ _ _ _ _ _ _ _ _ _ _ _ from Or.inl ⟨_, [Value.int c2 t2, Value.int c3 t3].toArray, _, rfl, rfl, (by assumption), (by assumption), Or.inr ⟨_, (by k_mem), rfl, _, rfl⟩, (by rw [sizeLine_eq]; exact Nat.le_of_ble_eq_true rfl), ?_⟩)
            rintro s₂ ⟨hh, rfl⟩
            refine comp_rest (vs := [Value.int c2 t2, Value.int c3 t3]) (fun _ y => ∃ x t, y = .str x t ∧ x.length ≤ 2 ∧ Over ls x) (Or.inr ⟨_, (by k_mem), rfl, _, rfl⟩) ?_ 2 0 [] rfl ?_
            · intro v I oI C oC D ys m₂ h tk E' R hv hoC hm F N hR
              have hv' : ∃ c t, v = .int c t ∧ (0 ≤ c ∧ c < 1000000) := by
                simp only [List.mem_cons, List.not_mem_nil, or_false] at hv
                rcases hv with rfl | rfl
                · exact ⟨_, _, rfl, hc2'⟩
                · exact ⟨_, _, rfl, hc3'⟩
              obtain ⟨c, t, rfl, hc⟩ := hv'
              k_steps
              exact ⟨_, _, rfl, (by assumption), cb_drop (by assumption) (by kcj_all), hR _ ⟨_, _, rfl, (by assumption), (by assumption)⟩⟩
            · intro zs hz
              obtain ⟨y1, y2, rfl, ⟨fo, tfo, rfl, lfo, ofo⟩, ⟨en, ten, rfl, len, oen⟩⟩ := paired_two hz
              intro D h tk F N off
              k_steps
              exact ⟨_, _, _, _, _, p1, p2, fo, en, ls, _, _, _, _, _, _, rfl, Fr.named (v := Value.ref _) (Fr.named (y := Str.ofString "front") (v := Value.str fo tfo) (Fr.named (y := Str.ofString "end") (v := Value.str en ten) (by assumption) (by rfl)) (by rfl)) (by rfl), cb_drop (by assumption) (by kcj_all), ho, hls, ⟨lp1, op1⟩, ⟨lp2, op2⟩, ⟨lfo, ofo⟩, ⟨len, oen⟩⟩
        · clear F N hc0 hc1 hc2 hc3 ho hls hll hc0' hc1' hc2' hc3'
          rintro s' ⟨h, tk, u, D, n, p1, p2, fo, en, ls, t1, t2, tf, te, tl, o, rfl, F, N, ho, hls, ⟨lp1, op1⟩, ⟨lp2, op2⟩, ⟨lfo, ofo⟩, ⟨len, oen⟩⟩
          have d1 : NoDot p1 := over_dot op1 hls.dot
          have d2 : NoDot p2 := over_dot op2 hls.dot
          rcases hls.len with hK | hK
          · refine execs_mid 2 (MidE 2 s L') ?_ ?_
            · dsimp only [List.take, List.drop]
              (try k_fold)
              k_steps
              exact ⟨_, _, _, _, _, p1, p2, fo, en, ls, _, _, _, _, _, _, _, _, _, rfl, Fr.named (v := Value.ref _) (Fr.named (y := Str.ofString "front") (v := Value.str fo tf) (Fr.named (y := Str.ofString "end") (v := Value.str en te) (Fr.named (y := Str.ofString "top") (v := Value.int _ _) (Fr.named (y := Str.ofString "quotient") (v := Value.int _ _) (by assumption) (by rfl)) (by rfl)) (by rfl)) (by rfl)) (by rfl), cb_drop (by assumption) (by kcj_all), ho, hls, hK, ⟨lp1, op1⟩, ⟨lp2, op2⟩, ⟨lfo, ofo⟩, ⟨len, oen⟩, (by assumption)⟩
            · clear F N ho hls hK lp1 op1 lp2 op2 lfo ofo len oen d1 d2
              rintro s' ⟨h, tk, u, D, n, p1, p2, fo, en, ls, t1, t2, tf, te, tl, tt, tq, o, q, rfl, F, N, ho, hls, hK, ⟨lp1, op1⟩, ⟨lp2, op2⟩, ⟨lfo, ofo⟩, ⟨len, oen⟩, hq⟩
              refine execs_mid 2 (MidF 2 s L') ?_ ?_
              · have k1 := over_ok op1 hls.low
                have k2 := over_ok op2 hls.low
                rcases hE : (p1 == Str.ofString "" && p2 == Str.ofString "") with _ | _
                · dsimp only [List.take, List.drop]
                  (try k_fold)
                  k_steps
                  exact ⟨_, _, _, _, _, p1, p2, fo, en, ls, [p1, p2], _, _, _, _, _, _, _, rfl, Fr.named (v := Value.ref _) (Fr.named (y := Str.ofString "want") (v := Value.str (Str.join dots (fo :: ([p1, p2] ++ [en]))) _) (Fr.named (y := Str.ofString "top") (v := Value.int _ _) (Fr.named (y := Str.ofString "quotient") (v := Value.int _ _) (by assumption) (by rfl)) (by rfl)) (by exact congrArg (fun x => some (Value.str x _)) (join_eq [fo, p1, p2, en]))) (by rfl), cb_drop (by assumption) (by kcj_all), ho, ⟨hls, hK, ⟨lp1, op1⟩, ⟨lp2, op2⟩, ⟨lfo, ofo⟩, ⟨len, oen⟩, hq, Or.inl rfl⟩⟩
                · have hE' : p1 = Str.ofString "" ∧ p2 = Str.ofString "" := by simpa using hE
                  dsimp only [List.take, List.drop]
                  (try k_fold)
                  k_steps
                  exact ⟨_, _, _, _, _, p1, p2, fo, en, ls, [], _, _, _, _, _, _, _, rfl, Fr.named (v := Value.ref _) (Fr.named (y := Str.ofString "want") (v := Value.str (Str.join dots (fo :: ([] ++ [en]))) _) (Fr.named (y := Str.ofString "top") (v := Value.int _ _) (Fr.named (y := Str.ofString "quotient") (v := Value.int _ _) (by assumption) (by rfl)) (by rfl)) (by exact congrArg (fun x => some (Value.str x _)) (join_eq [fo, en]))) (by rfl), cb_drop (by assumption) (by kcj_all), ho, ⟨hls, hK, ⟨lp1, op1⟩, ⟨lp2, op2⟩, ⟨lfo, ofo⟩, ⟨len, oen⟩, hq, Or.inr ⟨rfl, hE'.1, hE'.2⟩⟩⟩
              · clear F N ho hls hK lp1 op1 lp2 op2 lfo ofo len oen hq
                rintro s' ⟨h, tk, u, D, n, p1, p2, fo, en, ls, ms, t0, tl, tt, tq, tw, o, q, rfl, F, N, ho, hq⟩
                dsimp only [List.take, List.drop]
                (try k_fold)
                k_steps
                have hKK : (2 : Nat) = 2 ∨ (2 : Nat) = 3 := by decide
                have me := fun i hi => main_eq (K := 2) hKK hq i hi
                obtain ⟨hls, hK, ⟨lp1, op1⟩, ⟨lp2, op2⟩, ⟨lfo, ofo⟩, ⟨len, oen⟩, _, hms⟩ := hq
                have hll : ls.length ≤ 3 := by omega
                have hP : Pieces ms := by
                  rcases hms with e | ⟨e, _⟩
                  · exact .inr ⟨_, _, e⟩
                  · exact .inl e
                have hsub : ∀ x ∈ fo :: (ms ++ [en]), x = fo ∨ x = p1 ∨ x = p2 ∨ x = en := by
                  intro x hx
                  rcases hms with e | ⟨e, _⟩
                  · subst e
                    simp only [List.cons_append, List.nil_append, List.mem_cons, List.not_mem_nil, or_false] at hx
                    exact hx
                  · subst e
                    simp only [List.nil_append, List.mem_cons, List.not_mem_nil, or_false] at hx
                    rcases hx with e | e
                    · exact .inl e
                    · exact .inr (.inr (.inr e))
                have hD : ∀ x ∈ fo :: (ms ++ [en]), NoDot x := by
                  intro x hx
                  rcases hsub x hx with rfl | rfl | rfl | rfl
                  · exact over_dot ofo hls.dot
                  · exact over_dot op1 hls.dot
                  · exact over_dot op2 hls.dot
                  · exact over_dot oen hls.dot
                have hL : ∀ x ∈ fo :: (ms ++ [en]), x.length ≤ 100 := by
                  intro x hx
                  rcases hsub x hx with rfl | rfl | rfl | rfl <;> omega
                change RangeRest _ _ _ _ _ _ _ _ _ _ _ _ _ _ _ _ _
                refine range_ind (LoopInv 2 L' o ls fo en ms q tt tq tw) ?_ ?_ 6 0 _ _ rfl ⟨D, n, _, u, rfl, by k_mem, by k_mem, StrsAre.cons _ _ StrsAre.nil⟩
                · intro i m news hi ⟨D, n, ys, u, em, hm1, hm2, hS⟩ t h tk F N
                  subst em
                  replace N := cb_drop N (List.forall_mem_cons.mpr ⟨List.mem_cons_self .., List.forall_mem_cons.mpr ⟨List.mem_cons_of_mem _ hm1, List.forall_mem_cons.mpr ⟨List.mem_cons_of_mem _ hm2, List.forall_mem_nil _⟩⟩⟩)
                  clear hm1 hm2 news
                  cases i with
                  | zero =>
                    have hv := me 0 (by omega)
                    have hw := wd_small ls hll 0 (by omega)
                    have hw1 := hw.1
                    have hw2 := hw.2
                    k_steps
                    · exact absurd rfl (by assumption)
                    · exact ⟨D, n, ys, _, map_words rfl rfl rfl rfl, (by k_mem), (by k_mem), hS⟩
                  | succ j =>
                    have hv := me (j + 1) (by omega)
                    have hw := wd_small ls hll (j + 1) (by omega)
                    have hw1 := hw.1
                    have hw2 := hw.2
                    have hw0 := wd_small ls hll j (by omega)
                    have hwl := wd_len ls hll (j + 1)
                    k_steps
                    refine Stop.out (assign_2 (ax := D) (tl := tl) (ls := ls) (ws := Wd ls j) (vs := ys.toList) rfl (by assumption) (by assumption) rfl (by with_unfolding_all rfl) (by with_unfolding_all rfl) (by decide) rfl (by decide) rfl rfl (by decide) rfl rfl ?_ hS ?_ (by omega) ?_ ?_ ?_ ?_)
                    · exact ⟨_, News.get (by assumption) (by k_mem), rfl, n, (by simp)⟩
                    · have := Nat.mul_le_mul hw0.1 hll
                      omega
                    · intro E' Q hq
                      exact nameX_L (by assumption) rfl hq rfl rfl
                    · intro C s₂ E' Q N2 hq
                      exact lcf_cell N2 rfl (by k_mem) ho hq rfl rfl
                    · intro C wd t1 c u s₂ m₂ E' hwd hc F2 N2 hn hm1 hm2
                      k_steps
                      refine ct_concatA (Ok.of F2 X' T') rfl ?_ (hw0.2 wd hwd) ?_
                      · simp only [depth_deeper]; omega
                      · show 1 ≤ 1000
                        decide
                    · intro D2 n2 ys2 h2 tk2 hS2 F2 N2
                      have hS3 : StrsAre ys2.toList (Wd ls (j + 1)) := hS2
                      k_steps
                      · exact absurd rfl (by assumption)
                      · exact ⟨D2, n2, ys2, _, map_words rfl rfl rfl rfl, (by k_mem), (by k_mem), hS3⟩
                · intro m news h tk hinv F N
                  k_steps
                  dsimp only
                  exact Ret.of F rfl rfl
          · refine execs_mid 2 (MidE 3 s L') ?_ ?_
            · dsimp only [List.take, List.drop]
              (try k_fold)
              k_steps
              exact ⟨_, _, _, _, _, p1, p2, fo, en, ls, _, _, _, _, _, _, _, _, _, rfl, Fr.named (v := Value.ref _) (Fr.named (y := Str.ofString "front") (v := Value.str fo tf) (Fr.named (y := Str.ofString "end") (v := Value.str en te) (Fr.named (y := Str.ofString "top") (v := Value.int _ _) (Fr.named (y := Str.ofString "quotient") (v := Value.int _ _) (by assumption) (by rfl)) (by rfl)) (by rfl)) (by rfl)) (by rfl), cb_drop (by assumption) (by kcj_all), ho, hls, hK, ⟨lp1, op1⟩, ⟨lp2, op2⟩, ⟨lfo, ofo⟩, ⟨len, oen⟩, (by assumption)⟩
            · clear F N ho hls hK lp1 op1 lp2 op2 lfo ofo len oen d1 d2
              rintro s' ⟨h, tk, u, D, n, p1, p2, fo, en, ls, t1, t2, tf, te, tl, tt, tq, o, q, rfl, F, N, ho, hls, hK, ⟨lp1, op1⟩, ⟨lp2, op2⟩, ⟨lfo, ofo⟩, ⟨len, oen⟩, hq⟩
              refine execs_mid 2 (MidF 3 s L') ?_ ?_
              · have k1 := over_ok op1 hls.low
                have k2 := over_ok op2 hls.low
                rcases hE : (p1 == Str.ofString "" && p2 == Str.ofString "") with _ | _
                · dsimp only [List.take, List.drop]
                  (try k_fold)
                  k_steps
                  exact ⟨_, _, _, _, _, p1, p2, fo, en, ls, [p1, p2], _, _, _, _, _, _, _, rfl, Fr.named (v := Value.ref _) (Fr.named (y := Str.ofString "want") (v := Value.str (Str.join dots (fo :: ([p1, p2] ++ [en]))) _) (Fr.named (y := Str.ofString "top") (v := Value.int _ _) (Fr.named (y := Str.ofString "quotient") (v := Value.int _ _) (by assumption) (by rfl)) (by rfl)) (by exact congrArg (fun x => some (Value.str x _)) (join_eq [fo, p1, p2, en]))) (by rfl), cb_drop (by assumption) (by kcj_all), ho, ⟨hls, hK, ⟨lp1, op1⟩, ⟨lp2, op2⟩, ⟨lfo, ofo⟩, ⟨len, oen⟩, hq, Or.inl rfl⟩⟩
                · have hE' : p1 = Str.ofString "" ∧ p2 = Str.ofString "" := by simpa using hE
                  dsimp only [List.take, List.drop]
                  (try k_fold)
                  k_steps
                  exact ⟨_, _, _, _, _, p1, p2, fo, en, ls, [], _, _, _, _, _, _, _, rfl, Fr.named (v := Value.ref _) (Fr.named (y := Str.ofString "want") (v := Value.str (Str.join dots (fo :: ([] ++ [en]))) _) (Fr.named (y := Str.ofString "top") (v := Value.int _ _) (Fr.named (y := Str.ofString "quotient") (v := Value.int _ _) (by assumption) (by rfl)) (by rfl)) (by exact congrArg (fun x => some (Value.str x _)) (join_eq [fo, en]))) (by rfl), cb_drop (by assumption) (by kcj_all), ho, ⟨hls, hK, ⟨lp1, op1⟩, ⟨lp2, op2⟩, ⟨lfo, ofo⟩, ⟨len, oen⟩, hq, Or.inr ⟨rfl, hE'.1, hE'.2⟩⟩⟩
              · clear F N ho hls hK lp1 op1 lp2 op2 lfo ofo len oen hq
                rintro s' ⟨h, tk, u, D, n, p1, p2, fo, en, ls, ms, t0, tl, tt, tq, tw, o, q, rfl, F, N, ho, hq⟩
                dsimp only [List.take, List.drop]
                (try k_fold)
                k_steps
                have hKK : (3 : Nat) = 2 ∨ (3 : Nat) = 3 := by decide
                have me := fun i hi => main_eq (K := 3) hKK hq i hi
                obtain ⟨hls, hK, ⟨lp1, op1⟩, ⟨lp2, op2⟩, ⟨lfo, ofo⟩, ⟨len, oen⟩, _, hms⟩ := hq
                have hll : ls.length ≤ 3 := by omega
                have hP : Pieces ms := by
                  rcases hms with e | ⟨e, _⟩
                  · exact .inr ⟨_, _, e⟩
                  · exact .inl e
                have hsub : ∀ x ∈ fo :: (ms ++ [en]), x = fo ∨ x = p1 ∨ x = p2 ∨ x = en := by
                  intro x hx
                  rcases hms with e | ⟨e, _⟩
                  · subst e
                    simp only [List.cons_append, List.nil_append, List.mem_cons, List.not_mem_nil, or_false] at hx
                    exact hx
                  · subst e
                    simp only [List.nil_append, List.mem_cons, List.not_mem_nil, or_false] at hx
                    rcases hx with e | e
                    · exact .inl e
                    · exact .inr (.inr (.inr e))
                have hD : ∀ x ∈ fo :: (ms ++ [en]), NoDot x := by
                  intro x hx
                  rcases hsub x hx with rfl | rfl | rfl | rfl
                  · exact over_dot ofo hls.dot
                  · exact over_dot op1 hls.dot
                  · exact over_dot op2 hls.dot
                  · exact over_dot oen hls.dot
                have hL : ∀ x ∈ fo :: (ms ++ [en]), x.length ≤ 100 := by
                  intro x hx
                  rcases hsub x hx with rfl | rfl | rfl | rfl <;> omega
                change RangeRest _ _ _ _ _ _ _ _ _ _ _ _ _ _ _ _ _
                refine range_ind (LoopInv 3 L' o ls fo en ms q tt tq tw) ?_ ?_ 5 0 _ _ rfl ⟨D, n, _, u, rfl, by k_mem, by k_mem, StrsAre.cons _ _ StrsAre.nil⟩
                · intro i m news hi ⟨D, n, ys, u, em, hm1, hm2, hS⟩ t h tk F N
                  subst em
                  replace N := cb_drop N (List.forall_mem_cons.mpr ⟨List.mem_cons_self .., List.forall_mem_cons.mpr ⟨List.mem_cons_of_mem _ hm1, List.forall_mem_cons.mpr ⟨List.mem_cons_of_mem _ hm2, List.forall_mem_nil _⟩⟩⟩)
                  clear hm1 hm2 news
                  cases i with
                  | zero =>
                    have hv := me 0 (by omega)
                    have hw := wd_small ls hll 0 (by omega)
                    have hw1 := hw.1
                    have hw2 := hw.2
                    k_steps
                    · exact absurd rfl (by assumption)
                    · exact ⟨D, n, ys, _, map_words rfl rfl rfl rfl, (by k_mem), (by k_mem), hS⟩
                  | succ j =>
                    have hv := me (j + 1) (by omega)
                    have hw := wd_small ls hll (j + 1) (by omega)
                    have hw1 := hw.1
                    have hw2 := hw.2
                    have hw0 := wd_small ls hll j (by omega)
                    have hwl := wd_len ls hll (j + 1)
                    k_steps
                    refine Stop.out (assign_2 (ax := D) (tl := tl) (ls := ls) (ws := Wd ls j) (vs := ys.toList) rfl (by assumption) (by assumption) rfl (by with_unfolding_all rfl) (by with_unfolding_all rfl) (by decide) rfl (by decide) rfl rfl (by decide) rfl rfl ?_ hS ?_ (by omega) ?_ ?_ ?_ ?_)
                    · exact ⟨_, News.get (by assumption) (by k_mem), rfl, n, (by simp)⟩
                    · have := Nat.mul_le_mul hw0.1 hll
                      omega
                    · intro E' Q hq
                      exact nameX_L (by assumption) rfl hq rfl rfl
                    · intro C s₂ E' Q N2 hq
                      exact lcf_cell N2 rfl (by k_mem) ho hq rfl rfl
                    · intro C wd t1 c u s₂ m₂ E' hwd hc F2 N2 hn hm1 hm2
                      k_steps
                      refine ct_concatA (Ok.of F2 X' T') rfl ?_ (hw0.2 wd hwd) ?_
                      · simp only [depth_deeper]; omega
                      · show 1 ≤ 1000
                        decide
                    · intro D2 n2 ys2 h2 tk2 hS2 F2 N2
                      have hS3 : StrsAre ys2.toList (Wd ls (j + 1)) := hS2
                      k_steps
                      · exact absurd rfl (by assumption)
                      · exact ⟨D2, n2, ys2, _, map_words rfl rfl rfl rfl, (by k_mem), (by k_mem), hS3⟩
                · intro m news h tk hinv F N
                  k_steps
                  dsimp only
                  exact Ret.of F rfl rfl
end
end
end Mine
namespace Mine
section
theorem ct_lawA {w : World} {A : Around} {E : Value → Shared → Prop} {s : Shared} {l : Addr} {vs : List Value} {ns : List Int}
    (O : Ok w s.heap) (hA : A.handled = none) (hr : A.depth + 20 < recursionLimit) (hu : A.units + 200 < cLine) (hl : s.heap.IsList l vs.toArray) (hI : IntsAre vs ns) (hn : ns.length ≤ 63) :
    wpAny (model PySem.Challenge.rw_pg0085_01.row.prog w) A (call (.ref 115) [.ref l]) (Ret s (fun v => v = .bool true)) E s := by
  obtain ⟨hh, dp, fr, gd, un⟩ := A
  cases hA
  exact ct_law O hr hl hI hn hu
end
end Mine
set_option maxHeartbeats 8000000 in
theorem PySem.Challenge.cw_pg0085_01_holds : PySem.Challenge.rw_pg0085_01.Holds := by
  refine Mine.hd ?_
  k_fill
  intro w s₀ s₁ mg mb G Y fa o pm cd doc dV kV ho hdd hcd hD hmg hg args vals as hpre hlay hrd hwl hlo
  have KX := kIn_of Y
  refine Ground.open G ?_
  intro T B D TE TW
  wrow_args hpre hlay hrd hwl hlo
  have e1 : mg (Str.ofString "law") = some (.ref 115) := mg_of KX T.g (by k_is)
  have e2 : mg (Str.ofString "law") = some (.ref fa) := hmg
  have e3 : fa = 115 := by
    rw [e1] at e2
    cases e2
    rfl
  subst e3
  have hcond : ∀ {n : List Int}, ¬ ((63 : Nat) : Int) < (n.length : Nat) → n.length ≤ 63 := fun h => by omega
  refine wpAny_mono (Mine.ct_lawA (A := callerA) ⟨KX, _, _, _, T⟩ rfl (by decide +kernel) (by decide +kernel) (by assumption) (by assumption) (hcond (by assumption))) (fun v s' r => ?_) (fun _ _ e => e)
  obtain ⟨rfl, h', tk, rfl, k⟩ := r
  refine ⟨Or.inl ⟨_, .bool true, [], rfl, ?_, .bool _, ?_, fun _ => ⟨.nil, fun a ha => nomatch ha⟩⟩, .of_keep k, rfl, .of_eq hg⟩
  · intro cls
    rfl
  · wrow_post
