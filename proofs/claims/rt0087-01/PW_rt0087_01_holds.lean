import PyProof.Rows.All
import Wide.All
import OpenK.AllK
import Wide.FinOn
import Lean
import PySem.Challenge.RW_rt0087_01
set_option Elab.async false
section
open PySem PySem.W PyProof.Rows
namespace Mine
section
set_option maxRecDepth 100000
set_option maxHeartbeats 8000000
/-- the looks at the text, each by itself -/
abbrev pp : Program := (PySem.Challenge.rw_rt0087_01).row.prog
theorem look_imp : (importedModules pp.main.body).all cThrough.contains = true := by kernel_rfl
theorem look_v : readsOut pp pp.main.body "vars" = false := by kernel_rfl
theorem look_d : readsOut pp pp.main.body "dir" = false := by kernel_rfl
theorem look_l : readsOut pp pp.main.body "locals" = false := by kernel_rfl
theorem look_bare : (["vars", "dir", "locals"] : List Str).filter (readsOut pp pp.main.body) = [] := by
  rw [List.filter_cons_of_neg (by rw [look_v]; exact Bool.false_ne_true), List.filter_cons_of_neg (by rw [look_d]; exact Bool.false_ne_true), List.filter_cons_of_neg (by rw [look_l]; exact Bool.false_ne_true), List.filter_nil]
theorem look_fenced : sreFenced pp.main = true := by kernel_rfl
theorem look_names : namesResolve pp = true := by kernel_rfl
theorem look_road : noRoadLSs { strict := !true, foot := none, bare := [] } pp.main.body = true := by kernel_rfl
theorem look_attr : (namesMeet pp pp.main.body fun _ n => attrL n) = true := by kernel_rfl
theorem look_open : looksOpen pp = true := by
  unfold looksOpen
  rw [look_imp, look_bare]
  refine look_both (look_both (look_both (look_both (look_both look_fenced ?_) look_names) ?_) look_road) look_attr
  all_goals kernel_rfl
theorem said_ok : OpenLaw.wellSaid PySem.Challenge.rw_rt0087_01 = true := by
  unfold OpenLaw.wellSaid
  repeat' with_reducible refine look_both ?_ ?_
  · unfold OpenRow.wellSaid OpenRow.partSaid
    repeat' with_reducible refine look_both ?_ ?_
    · exact look_open
    all_goals kernel_rfl
  all_goals kernel_rfl
end
section
local macro_rules | `(tactic| o_law) => `(tactic| refine holds_law said_ok fun said => ?_)
open Lean in
local macro_rules
  | `(tactic| refine $e) => do
    let `($f:ident $_args*) := e | Macro.throwUnsupported
    unless f.getId == ``PySem.W.holds_open do Macro.throwUnsupported
    `(tactic| (refine' $e; (case' hl => (intro w; kernel_rfl))))
set_option maxRecDepth 100000 in
set_option maxHeartbeats 8000000 in
open_top hd for PySem.Challenge.rw_rt0087_01
end
end Mine
end
local macro_rules | `(tactic| walk_at $s:str) => `(tactic| k_extra $s)
local macro_rules | `(tactic| k_ne) => `(tactic| k_extra "k_ne")
local macro_rules | `(tactic| k_room) => `(tactic| k_extra "k_room")
local macro_rules | `(tactic| k_mem) => `(tactic| k_extra "k_mem")
section
open PySem PySem.W PyProof.Rows PySem.Calls
set_option maxRecDepth 100000
namespace Mine

/-- the surroundings of a call -/
abbrev AA (dp un : Nat) (gd : Option (List Code)) (fs : List Env) : Around := { handled := none, depth := dp, frames := some fs, guards := gd, units := un }

/-- room on the stack, in literals -/
theorem roomD {dp a b c lim : Nat} (h : dp + c < lim) (k : Nat.ble (a + b) c = true) : dp + a + b < lim := Nat.lt_of_le_of_lt (by rw [Nat.add_assoc]; exact Nat.add_le_add_left (Nat.le_of_ble_eq_true k) dp) h
theorem roomU {un a b c lim : Nat} (h : un + 8 * c < lim) (k : Nat.ble (a + 8 * b) (8 * c) = true) : un + a + 8 * b < lim := Nat.lt_of_le_of_lt (by rw [Nat.add_assoc]; exact Nat.add_le_add_left (Nat.le_of_ble_eq_true k) un) h
theorem roomV {un a b c lim : Nat} (h : un + 8 * c < lim) (k : Nat.ble (a + b) (8 * c) = true) : un + a + b < lim := Nat.lt_of_le_of_lt (by rw [Nat.add_assoc]; exact Nat.add_le_add_left (Nat.le_of_ble_eq_true k) un) h
theorem room0 {dp c lim : Nat} (h : dp + c < lim) : dp < lim := Nat.lt_of_le_of_lt (Nat.le_add_right _ _) h
section
variable {prog : Program} {w : World} {A : Around} {s : Shared} {base : Heap} {frames : List Env} {K : Frag} {p : Program} {loose : List Str} {mean : ExcName → Option Value} {mg mb : Str → Option Value} {Q E : Value → Shared → Prop}
/-- a def without cells is entered: the heap at the call is the base -/
theorem enter0 {name qual : Str} {params : Arguments} {body : List Stmt} {scope : Scope} {dV kV doc pm cdv ct oc : Value} {an od : Option Addr} {osl : Array (Option Value)} {f : Addr} {vals : List Value} {binds : List (Str × Value)}
    (_B : Below A base frames s.heap) (X : K.In s.heap) (T : Top p loose mean mg mb s.heap)
    (ho : K.lookup f = some ⟨oc, od, .func (fnOf name qual params body scope dV kV doc pm an cdv ct), osl⟩) (hcd : codeIn K cdv qual = true) (hroom : A.depth < recursionLimit)
    (hbind : BindsTo s (fnOf name qual params body scope dV kV doc pm an cdv ct) ⟨vals, []⟩ binds) (hloc : ∀ y ∈ binds, scope.names.lookup y.1 = some .local)
    (h : ∀ L h₁, Fr s.heap L h₁ (fun y => binds.reverse.lookup y) → News s.heap L h₁ [] →
      wpAny (model prog w) (A.deeper (envOf qual scope L f cdv)) (execs body (envOf qual scope L f cdv))
        (fun fl s' => Q (match fl with | .ret v => v | _ => .none) s')
        (fun e s' => wpAny (model prog w) (A.deeper (envOf qual scope L f cdv)) (leaving (envOf qual scope L f cdv) e) (fun _ s'' => E e s'') (fun e' s'' => E e' s'') s')
        { s with heap := h₁, toks := s.toks + binds.length })
    (hco : scope.isCoroutine = false) (hgen : scope.isGenerator = false) (hk : scope.kind = .function)
    (hcell : ∀ x ∈ scope.names, x.2 ≠ .cell) : wpAny (model prog w) A (call (.ref f) vals) Q E s := by
  refine wpAny_call ?_
  refine codeAny_call_def (fd := fnOf name qual params body scope dV kV doc pm an cdv ct) (body := body) (binds := binds) hroom (X _ _ ho) rfl T.nolimit (codeRec_of X hcd) rfl hbind hcell hloc (fun h₁ hns hk₁ => ?_) hco hgen hk
  exact h _ h₁ ⟨hns, hk₁, Nat.le_refl _⟩ News.nil
end

/-- a call of a def of the text that keeps the heap and hands back a value that lies in no heap -/
def Calls0 (w : World) (f : Addr) (vals : List Value) (lv : Nat) (R : Tok → Value) : Prop :=
  ∀ (loose : List Str) (mean : ExcName → Option Value) (mg mb : Str → Option Value) (dp un : Nat) (gd : Option (List Code)) (frames : List Env) (base : Heap) (s : Shared) (Q E : Value → Shared → Prop),
    Below (AA dp un gd frames) base frames s.heap → (Mine.hd.heap_1 w.params).In s.heap → Top topProg loose mean mg mb s.heap → dp + lv < recursionLimit → un + 8 * lv < cLine →
    (∀ t h' tk', s.heap.StaysIn h' → Q (R t) { s with heap := h', toks := tk' }) →
    wpAny (model PySem.Challenge.rw_rt0087_01.row.prog w) (AA dp un gd frames) (call (.ref f) vals) Q E s

/-- a call of a def of the text that keeps the heap; what it hands back may lie in the new heap -/
def Calls1 (w : World) (f : Addr) (vals : List Value) (lv : Nat) (pre : Heap → Prop) (post : Heap → Value → Heap → Prop) : Prop :=
  ∀ (loose : List Str) (mean : ExcName → Option Value) (mg mb : Str → Option Value) (dp un : Nat) (gd : Option (List Code)) (frames : List Env) (base : Heap) (s : Shared) (Q E : Value → Shared → Prop),
    Below (AA dp un gd frames) base frames s.heap → (Mine.hd.heap_1 w.params).In s.heap → Top topProg loose mean mg mb s.heap → dp + lv < recursionLimit → un + 8 * lv < cLine → pre s.heap →
    (∀ v h' tk', s.heap.StaysIn h' → post s.heap v h' → Q v { s with heap := h', toks := tk' }) →
    wpAny (model PySem.Challenge.rw_rt0087_01.row.prog w) (AA dp un gd frames) (call (.ref f) vals) Q E s

theorem fr_stays {h₀ h h' : Heap} {L : Addr} {m : Str → Option Value} (F : Fr h₀ L h m) (k : h.StaysIn h') : Fr h₀ L h' m :=
  ⟨F.ns.at' fun o e => k _ o e, fun b o e => k b o (F.keep b o e), F.above⟩
theorem news_stays {h₀ h h' : Heap} {L : Addr} {news : List (Addr × Obj)} (N : News h₀ L h news) (k : h.StaysIn h') : News h₀ L h' news :=
  fun p hp => ⟨k _ _ (N p hp).1, (N p hp).2⟩

section
variable {w : World} {A₀ : Around} {s : Shared} {base h₀ : Heap} {outer : List Env} {env : Env} {L : Addr} {m : Str → Option Value} {news : List (Addr × Obj)} {loose : List Str} {mean : ExcName → Option Value} {mg mb : Str → Option Value} {Q E : Value → Shared → Prop} {dp un : Nat} {gd : Option (List Code)}
theorem below_here (B : Below A₀ base outer h₀) (F : Fr h₀ L s.heap m) (hf : env.frame = some L) (hk : env.scope.kind = .function) : Below (AA dp un gd (env :: outer)) base (env :: outer) s.heap :=
  have P := pushX B F hf hk
  ⟨rfl, P.stays, P.frames⟩
theorem use0 {f : Addr} {vals : List Value} {lv : Nat} {R : Tok → Value} (C : Calls0 w f vals lv R) (B : Below A₀ base outer h₀) (F : Fr h₀ L s.heap m) (X : (Mine.hd.heap_1 w.params).In h₀) (N : News h₀ L s.heap news) (T : Top topProg loose mean mg mb h₀)
    (hf : env.frame = some L) (hk : env.scope.kind = .function) (hd : dp + lv < recursionLimit) (hu : un + 8 * lv < cLine)
    (ret : ∀ t h' tk', Fr h₀ L h' m → News h₀ L h' news → Q (R t) { s with heap := h', toks := tk' }) :
    wpAny (model PySem.Challenge.rw_rt0087_01.row.prog w) (AA dp un gd (env :: outer)) (call (.ref f) vals) Q E s :=
  C loose mean mg mb dp un gd (env :: outer) base s Q E (below_here B F hf hk) (X.keeps F.keep) (T.keeps F.keep) hd hu fun t h' tk' k => ret t h' tk' (fr_stays F k) (news_stays N k)
theorem use1 {f : Addr} {vals : List Value} {lv : Nat} {pre : Heap → Prop} {post : Heap → Value → Heap → Prop} (C : Calls1 w f vals lv pre post) (B : Below A₀ base outer h₀) (F : Fr h₀ L s.heap m) (X : (Mine.hd.heap_1 w.params).In h₀) (N : News h₀ L s.heap news) (T : Top topProg loose mean mg mb h₀)
    (hf : env.frame = some L) (hk : env.scope.kind = .function) (hd : dp + lv < recursionLimit) (hu : un + 8 * lv < cLine) (hp : pre s.heap)
    (ret : ∀ v h' tk', Fr h₀ L h' m → News h₀ L h' news → s.heap.StaysIn h' → post s.heap v h' → Q v { s with heap := h', toks := tk' }) :
    wpAny (model PySem.Challenge.rw_rt0087_01.row.prog w) (AA dp un gd (env :: outer)) (call (.ref f) vals) Q E s :=
  C loose mean mg mb dp un gd (env :: outer) base s Q E (below_here B F hf hk) (X.keeps F.keep) (T.keeps F.keep) hd hu hp fun v h' tk' k hpost => ret v h' tk' (fr_stays F k) (news_stays N k) k hpost
end
end Mine
end
section
open PySem PySem.W PyProof.Rows PySem.Calls
set_option maxRecDepth 100000
namespace Mine
namespace Fa
theorem kind_issubclass : builtinKind "issubclass" = none := by decide +kernel
theorem plain_issubclass : plainId "issubclass" = true := by decide +kernel
theorem args_issubclass_2 (a b : Value) : argsOk "issubclass" ⟨[a, b], []⟩ := by unfold argsOk; kernel_rfl
theorem entry_issubclass : entryFor table "issubclass" = some Builtin.«issubclass» := entryFor_of_tree (by kernel_rfl)
theorem kind_issubclass_nested : builtinKind "issubclass.nested" = none := by decide +kernel
theorem plain_issubclass_nested : plainId "issubclass.nested" = true := by decide +kernel
theorem args_issubclass_nested_3 (a b c : Value) : argsOk "issubclass.nested" ⟨[a, b, c], []⟩ := by unfold argsOk; kernel_rfl
theorem entry_issubclass_nested : entryFor table "issubclass.nested" = some Builtin.«issubclass.nested» := entryFor_of_tree (by kernel_rfl)
theorem ty_str : typeOf (.type "str") = pure (.type "type") := by kernel_rfl
theorem sub_str_str : isSubtype (.type "str") (.type "str") = pure true := by rw [isSubtype_type]; kernel_rfl
theorem isType_str : isType (.type "str") = pure true := by kernel_rfl
end Fa
section
variable {prog : Program} {w : World} {A : Around} {E : Value → Shared → Prop} {s : Shared}
theorem issub_one {k : Value} {dep : Int} {tk : Tok} {Q : Fin → Shared → Prop} (hk : k = .int dep tk) (hq : Q (.done (.ret (.bool true))) s) :
    wpAny (model prog w) A (Builtin.«issubclass.nested» ⟨[.type "str", .type "str", k], []⟩) Q E s := by
  subst hk
  have f1 := Fa.ty_str
  have f2 := Fa.sub_str_str
  have f3 := Fa.isType_str
  repeat (any_goals (first | assumption | wp_step))
theorem issub_items (cs : List Value) (Q : Option Fin × Unit → Shared → Prop)
    (h : Q (some (.done (.ret (.bool true))), ()) s) :
    wpAny (model prog w) A (forIn (.type "str" :: cs) ((none : Option Fin), ()) fun c _ => do
      if ← truthy (← call (.builtin "issubclass.nested") [.type "str", c, rawInt (0 + 1)]) then
        let r ← ret (.bool true)
        pure (ForInStep.done (some r, ()))
      else pure (ForInStep.yield (none, ()))) Q E s := by
  rw [List.forIn_cons]
  refine wpAny_bind (wpAny_bind (call_function_meets Fa.kind_issubclass_nested Fa.plain_issubclass_nested Fa.entry_issubclass_nested (Fa.args_issubclass_nested_3 _ _ _) (S := fun _ R s => R (.ok (.ret (.bool true))) s)
    (fun _ _ _ _ s hs => issub_one rfl hs) ?_))
  show wpAny _ _ (truthy (.bool true) >>= _) _ _ _
  refine wpAny_bind (m := truthy (.bool true)) (wpAny_pure ?_)
  exact wpAny_bind (wpAny_pure (wpAny_pure (wpAny_pure h)))
theorem issub_tuple {tp : Addr} {cs l : List Value} {n : Nat} {tk : Tok} {Q : Fin → Shared → Prop} (hl : l = .type "str" :: cs)
    (htp : s.heap.get? tp = some { cls := .type "tuple", data := .seq l.toArray n })
    (hq : Q (.done (.ret (.bool true))) s) : wpAny (model prog w) A (Builtin.«issubclass.nested» ⟨[.type "str", .ref tp, .int 0 tk], []⟩) Q E s := by
  obtain ⟨h, g, d, t, os⟩ := s
  have hT2 : (⟨h, g, d, t, os⟩ : Shared).TypeIs (.ref tp) "tuple" := ⟨_, htp, rfl⟩
  have f1 := F.isi_sub_tuple
  repeat (any_goals (first | assumption | wp_step))
  refine wpAny_arrayLoop ?_
  simp only [Option.getD_some, List.toList_toArray]
  subst hl
  refine issub_items cs _ ?_
  repeat (any_goals (first | assumption | wp_step))
theorem issub_call {tp : Addr} {cs : List Value} {n : Nat} {Q : Value → Shared → Prop}
    (htp : s.heap.get? tp = some { cls := .type "tuple", data := .seq (.type "str" :: cs).toArray n })
    (h : Q (.bool true) s) : wpAny (model prog w) A (call (.builtin "issubclass") [.type "str", .ref tp]) Q E s :=
  call_function_meets Fa.kind_issubclass Fa.plain_issubclass Fa.entry_issubclass (Fa.args_issubclass_2 _ _) (S := fun _ R s' => s' = s ∧ R (.ok (.ret (.bool true))) s)
    (fun prog w A R s' hs => by
      obtain ⟨rfl, hR⟩ := hs
      repeat (any_goals (first | assumption | wp_step))
      refine ⟨Code.quiet_builtin _ (by decide +kernel), codeAny_builtin Fa.entry_issubclass_nested ?_⟩
      exact issub_tuple rfl htp hR) ⟨rfl, h⟩
end
end Mine
end
section
open PySem PySem.W PyProof.Rows PySem.Calls
set_option maxRecDepth 100000
namespace Mine
set_option maxHeartbeats 4000000 in
theorem fspath_c {w : World} (x : Str) (t : Tok) : Calls0 w 136 [.str x t] 10 (fun _ => .str x t) := by
  w_top off
  k_with_none
  k_with "ENTER0" => ((
  k_with "exec Assign" => k_fold
  k_with "exec If" => k_fold
  k_with "exec Expr" => k_fold
  k_with "exec AugAssign" => k_fold
  k_with "exec Return some" => k_fold
  refine' enter0 (by assumption) (by assumption) (by assumption) ?k6 ?k7 ?k8 ?k9 ?kB ?_ ?c2 ?c3 ?c4 ?c5
  (case k6 => k_is)
  (case k7 => k_is)
  (case k8 => exact room0 hd)
  (case k9 => exact BindsTo.of_eq rfl)
  (case kB => exact locs rfl)
  (case c5 => decide); (case c2 => exact rfl); (case c3 => exact rfl); (case c4 => exact rfl)
  k_whole
  intro L h' F' N'
  dsimp only
  try k_fold))
  k_with "k_room" => (ktr_room)
  k_with "call builtin:issubclass" => ((k_here; k_dflt (refine' issub_call ?k1 ?_; (case k1 => exact News.get (by k_asm) (by k_mem)); k_whole)))
  intro loose mean mg mb dp un gd frames base s Q E B X T hd hu ret
  revert X; k_fill; intro X
  k_dflt walk_at "ENTER0"
  k_steps
  all_goals (try dsimp only)
  all_goals exact ret 0 _ _ (Fr.keep (by assumption))
set_option maxHeartbeats 4000000 in
theorem getsep_c {w : World} (x : Str) (t : Tok) : Calls0 w 150 [.str x t] 10 (fun t => .str (Str.ofString "/") t) := by
  w_top off
  k_with_none
  k_with "ENTER0" => ((
  k_with "exec Assign" => k_fold
  k_with "exec If" => k_fold
  k_with "exec Expr" => k_fold
  k_with "exec AugAssign" => k_fold
  k_with "exec Return some" => k_fold
  refine' enter0 (by assumption) (by assumption) (by assumption) ?k6 ?k7 ?k8 ?k9 ?kB ?_ ?c2 ?c3 ?c4 ?c5
  (case k6 => k_is)
  (case k7 => k_is)
  (case k8 => exact room0 hd)
  (case k9 => exact BindsTo.of_eq rfl)
  (case kB => exact locs rfl)
  (case c5 => decide); (case c2 => exact rfl); (case c3 => exact rfl); (case c4 => exact rfl)
  k_whole
  intro L h' F' N'
  dsimp only
  try k_fold))
  k_with "k_room" => (ktr_room)
  k_with "call builtin:issubclass" => ((k_here; k_dflt (refine' issub_call ?k1 ?_; (case k1 => exact News.get (by k_asm) (by k_mem)); k_whole)))
  intro loose mean mg mb dp un gd frames base s Q E B X T hd hu ret
  revert X; k_fill; intro X
  k_dflt walk_at "ENTER0"
  k_steps
  all_goals (try dsimp only)
  all_goals exact ret _ _ _ (Fr.keep (by assumption))
def nameS (i : Int) : Str := Txt.item (Str.ofString "0123456789") (i.fdiv 10) ++ Txt.item (Str.ofString "0123456789") (i.fmod 10)
set_option maxHeartbeats 4000000 in
theorem name_c {w : World} (i : Int) (t : Tok) (h0 : 0 ≤ i) (h1 : i < 64) : Calls0 w 202 [.int i t] 10 (fun t => .str (nameS i) t) := by
  w_top off
  k_with_none
  k_with "ENTER0" => ((
  k_with "exec Assign" => k_fold
  k_with "exec If" => k_fold
  k_with "exec Expr" => k_fold
  k_with "exec AugAssign" => k_fold
  k_with "exec Return some" => k_fold
  refine' enter0 (by assumption) (by assumption) (by assumption) ?k6 ?k7 ?k8 ?k9 ?kB ?_ ?c2 ?c3 ?c4 ?c5
  (case k6 => k_is)
  (case k7 => k_is)
  (case k8 => exact room0 hd)
  (case k9 => exact BindsTo.of_eq rfl)
  (case kB => exact locs rfl)
  (case c5 => decide); (case c2 => exact rfl); (case c3 => exact rfl); (case c4 => exact rfl)
  k_whole
  intro L h' F' N'
  dsimp only
  try k_fold))
  k_with "k_room" => (ktr_room)
  k_with "call builtin:issubclass" => ((k_here; k_dflt (refine' issub_call ?k1 ?_; (case k1 => exact News.get (by k_asm) (by k_mem)); k_whole)))
  intro loose mean mg mb dp un gd frames base s Q E B X T hd hu ret
  revert X; k_fill; intro X
  k_dflt walk_at "ENTER0"
  k_steps
  all_goals (try dsimp only)
  all_goals exact ret _ _ _ (Fr.keep (by assumption))
def cmpS (x y : Str) : Int := b2i (decide (y.cps.toList < x.cps.toList)) - b2i (decide (x.cps.toList < y.cps.toList))
set_option maxHeartbeats 4000000 in
theorem cmp_c {w : World} (x y : Str) (t u : Tok) : Calls0 w 190 [.str x t, .str y u] 10 (fun t => .int (cmpS x y) t) := by
  w_top off
  k_with_none
  k_with "ENTER0" => ((
  k_with "exec Assign" => k_fold
  k_with "exec If" => k_fold
  k_with "exec Expr" => k_fold
  k_with "exec AugAssign" => k_fold
  k_with "exec Return some" => k_fold
  refine' enter0 (by assumption) (by assumption) (by assumption) ?k6 ?k7 ?k8 ?k9 ?kB ?_ ?c2 ?c3 ?c4 ?c5
  (case k6 => k_is)
  (case k7 => k_is)
  (case k8 => exact room0 hd)
  (case k9 => exact BindsTo.of_eq rfl)
  (case kB => exact locs rfl)
  (case c5 => decide); (case c2 => exact rfl); (case c3 => exact rfl); (case c4 => exact rfl)
  k_whole
  intro L h' F' N'
  dsimp only
  try k_fold))
  k_with "k_room" => (ktr_room)
  k_with "call builtin:issubclass" => ((k_here; k_dflt (refine' issub_call ?k1 ?_; (case k1 => exact News.get (by k_asm) (by k_mem)); k_whole)))
  intro loose mean mg mb dp un gd frames base s Q E B X T hd hu ret
  revert X; k_fill; intro X
  k_dflt walk_at "ENTER0"
  k_steps
  all_goals (try dsimp only)
  all_goals exact ret _ _ _ (Fr.keep (by assumption))
end Mine
end
section
open PySem PySem.W PyProof.Rows PySem.Calls
set_option maxRecDepth 100000
namespace Mine
section
variable {prog : Program} {w : World} {A : Around} {s : Shared} {base : Heap} {frames : List Env} {K : Frag} {p : Program} {loose : List Str} {mean : ExcName → Option Value} {mg mb : Str → Option Value} {Q E : Value → Shared → Prop}
/-- the ledger that a call is entered with: what stands at the hidden addresses -/
def LedAt (h : Heap) (X : List Addr) (led : List (Addr × Obj)) : Prop := ∀ p ∈ led, h.get? p.1 = some p.2 ∧ p.1 ∈ X
/-- a def without cells is entered: the heap at the call, less the addresses X, is the base -/
theorem enterT {X : List Addr} {led : List (Addr × Obj)} {name qual : Str} {params : Arguments} {body : List Stmt} {scope : Scope} {dV kV doc pm cdv ct oc : Value} {an od : Option Addr} {osl : Array (Option Value)} {f : Addr} {vals : List Value} {binds : List (Str × Value)}
    (_B : Below A base frames (hideAll s.heap X)) (XK : K.In (hideAll s.heap X)) (T : Top p loose mean mg mb (hideAll s.heap X)) (hl : LedAt s.heap X led)
    (ho : K.lookup f = some ⟨oc, od, .func (fnOf name qual params body scope dV kV doc pm an cdv ct), osl⟩) (hcd : codeIn K cdv qual = true) (hroom : A.depth < recursionLimit)
    (hbind : BindsTo s (fnOf name qual params body scope dV kV doc pm an cdv ct) ⟨vals, []⟩ binds) (hloc : ∀ y ∈ binds, scope.names.lookup y.1 = some .local)
    (h : ∀ L h₁, Fr (hideAll s.heap X) L h₁ (fun y => binds.reverse.lookup y) → News (hideAll s.heap X) L h₁ led → (∀ p ∈ led, p.1 < L) →
      wpAny (model prog w) (A.deeper (envOf qual scope L f cdv)) (execs body (envOf qual scope L f cdv))
        (fun fl s' => Q (match fl with | .ret v => v | _ => .none) s')
        (fun e s' => wpAny (model prog w) (A.deeper (envOf qual scope L f cdv)) (leaving (envOf qual scope L f cdv) e) (fun _ s'' => E e s'') (fun e' s'' => E e' s'') s')
        { s with heap := h₁, toks := s.toks + binds.length })
    (hco : scope.isCoroutine = false) (hgen : scope.isGenerator = false) (hk : scope.kind = .function)
    (hcell : ∀ x ∈ scope.names, x.2 ≠ .cell) : wpAny (model prog w) A (call (.ref f) vals) Q E s := by
  refine wpAny_call ?_
  have st : (hideAll s.heap X).StaysIn s.heap := fun b o e => of_hideAll _ e
  refine codeAny_call_def (fd := fnOf name qual params body scope dV kV doc pm an cdv ct) (body := body) (binds := binds) hroom (st _ _ (XK _ _ ho)) rfl (T.nolimit.keeps st) (codeRec_of (XK.keeps st) hcd) rfl hbind hcell hloc (fun h₁ hns hk₁ => ?_) hco hgen hk
  exact h _ h₁ ⟨hns, fun b o e => hk₁ b o (of_hideAll _ e), Nat.le_of_eq (hideAll_size _ _)⟩
    (fun p hp => ⟨hk₁ _ _ (hl p hp).1, Nat.ne_of_lt (Heap.lt_size (hl p hp).1), hideAll_none _ (hl p hp).2⟩) (fun p hp => Heap.lt_size (hl p hp).1)
/-- a def with cells -/
theorem enterTC {X : List Addr} {led : List (Addr × Obj)} {name qual : Str} {params : Arguments} {body : List Stmt} {scope : Scope} {dV kV doc pm cdv ct oc : Value} {an od : Option Addr} {osl : Array (Option Value)} {f : Addr} {vals : List Value} {binds : List (Str × Value)}
    (_B : Below A base frames (hideAll s.heap X)) (XK : K.In (hideAll s.heap X)) (T : Top p loose mean mg mb (hideAll s.heap X)) (hl : LedAt s.heap X led)
    (ho : K.lookup f = some ⟨oc, od, .func (fnOf name qual params body scope dV kV doc pm an cdv ct), osl⟩) (hcd : codeIn K cdv qual = true) (hroom : A.depth < recursionLimit)
    (hbind : BindsTo s (fnOf name qual params body scope dV kV doc pm an cdv ct) ⟨vals, []⟩ binds) (hkind : (binds.all fun y => scope.names.lookup y.1 == some .local || scope.names.lookup y.1 == some .cell) = true)
    (hnd : ((cellsFrom 0 scope.names []).map (·.1)).Nodup)
    (h : ∀ L h₁ tk cells, Fr (hideAll s.heap X) L h₁ (bindL (envOfC qual scope L f cdv).kindOf binds fun _ => none) → News (hideAll s.heap X) L h₁ (cells ++ led) →
      CellsAre (bindC (envOfC qual scope L f cdv).kindOf binds fun _ => none) (cellsFrom (L + 1) scope.names []) cells → (∀ p ∈ led, p.1 < L) →
      wpAny (model prog w) (A.deeper (envOfC qual scope L f cdv)) (execs body (envOfC qual scope L f cdv))
        (fun fl s' => Q (match fl with | .ret v => v | _ => .none) s')
        (fun e s' => wpAny (model prog w) (A.deeper (envOfC qual scope L f cdv)) (leaving (envOfC qual scope L f cdv) e) (fun _ s'' => E e s'') (fun e' s'' => E e' s'') s')
        { s with heap := h₁, toks := tk })
    (hco : scope.isCoroutine = false) (hgen : scope.isGenerator = false) (hk : scope.kind = .function) : wpAny (model prog w) A (call (.ref f) vals) Q E s := by
  refine wpAny_call ?_
  have st : (hideAll s.heap X).StaysIn s.heap := fun b o e => of_hideAll _ e
  refine codeAny_call_function (fd := fnOf name qual params body scope dV kV doc pm an cdv ct) (body := body) hroom (st _ _ (XK _ _ ho)) rfl hco hgen rfl (codeRec_of (XK.keeps st) hcd) (hbind _ _ _ _ ?_)
  refine wpAny_newFunctionEnv_cells hk (kindsX hkind _) fun env' he s' x => ?_
  subst he
  refine ⟨(T.nolimit.keeps st).keeps x.toInCall.keep, codeAny_func ?_⟩
  obtain ⟨h₁, tk, rfl, _⟩ := x.done
  have hk₁ := x.toInCall.keep
  obtain ⟨cells, NC, Y⟩ := Cl.news (h₀ := s.heap) (Nat.le_refl _) fun n c hm => ⟨x.cell n c (lookup_of_mem_nodup (cellsFrom_names scope.names 0 (s.heap.objs.size + 1) [] [] rfl ▸ hnd) hm), x.above n c hm⟩
  refine h s.heap.objs.size h₁ tk cells ⟨x.toInCall.ns, fun b o e => hk₁ b o (of_hideAll _ e), Nat.le_of_eq (hideAll_size _ _)⟩ (fun p hp => ?_) Y (fun p hp => Heap.lt_size (hl p hp).1)
  rcases List.mem_append.mp hp with hp | hp
  · refine ⟨(NC p hp).1, (NC p hp).2.1, ?_⟩
    cases q : (hideAll s.heap X).get? p.1 with
    | none => rfl
    | some o => have := of_hideAll _ q; rw [(NC p hp).2.2] at this; cases this
  · exact ⟨hk₁ _ _ (hl p hp).1, Nat.ne_of_lt (Heap.lt_size (hl p hp).1), hideAll_none _ (hl p hp).2⟩
end
end Mine
end
section
open PySem PySem.W PyProof.Rows PySem.Calls
set_option maxRecDepth 100000
namespace Mine
/-- kept but at Y -/
def KeepBut (Y : List Addr) (h h' : Heap) : Prop := ∀ b o, b ∉ Y → h.get? b = some o → h'.get? b = some o
theorem KeepBut.refl {Y : List Addr} {h : Heap} : KeepBut Y h h := fun _ _ _ e => e
theorem KeepBut.trans {Y : List Addr} {h h' h'' : Heap} (a : KeepBut Y h h') (b : KeepBut Y h' h'') : KeepBut Y h h'' := fun x o n e => b x o n (a x o n e)
theorem KeepBut.mono {Y Z : List Addr} {h h' : Heap} (a : KeepBut Y h h') (hs : ∀ b ∈ Y, b ∈ Z) : KeepBut Z h h' := fun x o n e => a x o (fun q => n (hs _ q)) e
theorem KeepBut.stays {Y : List Addr} {h h' h₀ : Heap} (a : KeepBut Y h h') (k : h₀.StaysIn h) (hY : ∀ b ∈ Y, h₀.get? b = none) : h₀.StaysIn h' :=
  fun b o e => a b o (fun q => by rw [hY b q] at e; cases e) (k b o e)
theorem fr_but {h₀ h h' : Heap} {L : Addr} {m : Str → Option Value} {Y : List Addr} (F : Fr h₀ L h m) (k : KeepBut Y h h') (hL : L ∉ Y) (hY : ∀ b ∈ Y, h₀.get? b = none) : Fr h₀ L h' m :=
  ⟨F.ns.at' fun o e => k L o hL e, fun b o e => k b o (fun q => by rw [hY b q] at e; cases e) (F.keep b o e), F.above⟩
theorem news_but {h₀ h h' : Heap} {L : Addr} {led : List (Addr × Obj)} {Y : List Addr} (N : News h₀ L h led) (k : KeepBut Y h h') (hd : ∀ p ∈ led, p.1 ∉ Y) : News h₀ L h' led :=
  fun p hp => ⟨k _ _ (hd p hp) (N p hp).1, (N p hp).2⟩
theorem news_cons {h₀ h : Heap} {L a : Addr} {o : Obj} {led : List (Addr × Obj)} (N : News h₀ L h led) (e : h.get? a = some o) (n : a ≠ L) (f : h₀.get? a = none) : News h₀ L h ((a, o) :: led) :=
  fun p hp => (List.mem_cons.mp hp).elim (fun q => q ▸ ⟨e, n, f⟩) (N p)
theorem news_sub {h₀ h : Heap} {L : Addr} {led led' : List (Addr × Obj)} (N : News h₀ L h led) (hs : ∀ p ∈ led', p ∈ led) : News h₀ L h led' := fun p hp => N p (hs p hp)
section
variable {prog : Program} {w : World} {A A₀ : Around} {s : Shared} {base h₀ : Heap} {frames outer : List Env} {L : Addr} {env : Env} {m : Str → Option Value} {K : Frag} {p : Program} {loose : List Str} {mean : ExcName → Option Value} {mg mb : Str → Option Value} {Q E : Value → Shared → Prop}
/-- a made def without cells is entered -/
theorem enterF {X : List Addr} {led : List (Addr × Obj)} {name qual : Str} {params : Arguments} {body : List Stmt} {scope : Scope} {cl : List (Str × Addr)} {doc pm ctv : Value} {c' f : Addr} {vals : List Value} {binds : List (Str × Value)}
    (_B : Below A base frames (hideAll s.heap X)) (T : Top p loose mean mg mb (hideAll s.heap X)) (hl : LedAt s.heap X led)
    (ho : s.heap.get? f = some (fnMade name qual params body scope cl doc pm c' ctv)) (hcd : s.heap.CodeRec (.ref c') qual) (hroom : A.depth < recursionLimit)
    (hbind : BindsTo s (fnX name qual params body scope cl .none .none doc pm none (.ref c') ctv) ⟨vals, []⟩ binds) (hloc : ∀ y ∈ binds, scope.names.lookup y.1 = some .local)
    (h : ∀ L h₁, Fr (hideAll s.heap X) L h₁ (fun y => binds.reverse.lookup y) → News (hideAll s.heap X) L h₁ led → (∀ p ∈ led, p.1 < L) →
      wpAny (model prog w) (A.deeper (envX qual scope L f (.ref c') cl)) (execs body (envX qual scope L f (.ref c') cl))
        (fun fl s' => Q (match fl with | .ret v => v | _ => .none) s')
        (fun e s' => wpAny (model prog w) (A.deeper (envX qual scope L f (.ref c') cl)) (leaving (envX qual scope L f (.ref c') cl) e) (fun _ s'' => E e s'') (fun e' s'' => E e' s'') s')
        { s with heap := h₁, toks := s.toks + binds.length })
    (hco : scope.isCoroutine = false) (hgen : scope.isGenerator = false) (hk : scope.kind = .function)
    (hcell : ∀ x ∈ scope.names, x.2 ≠ .cell) : wpAny (model prog w) A (call (.ref f) vals) Q E s := by
  refine wpAny_call ?_
  have st : (hideAll s.heap X).StaysIn s.heap := fun b o e => of_hideAll _ e
  refine codeAny_call_def (fd := fnX name qual params body scope cl .none .none doc pm none (.ref c') ctv) (body := body) (binds := binds) hroom ho rfl (T.nolimit.keeps st) hcd rfl hbind hcell hloc (fun h₁ hns hk₁ => ?_) hco hgen hk
  exact h _ h₁ ⟨hns, fun b o e => hk₁ b o (of_hideAll _ e), Nat.le_of_eq (hideAll_size _ _)⟩
    (fun p hp => ⟨hk₁ _ _ (hl p hp).1, Nat.ne_of_lt (Heap.lt_size (hl p hp).1), hideAll_none _ (hl p hp).2⟩) (fun p hp => Heap.lt_size (hl p hp).1)
/-- what a call finds, the ledger's X laid aside -/
theorem ambient {X : List Addr} {led : List (Addr × Obj)} (hX : led.map (·.1) = X) (B : Below A₀ base outer h₀) (F : Fr h₀ L s.heap m) (N : News h₀ L s.heap led) (XK : K.In h₀) (T : Top p loose mean mg mb h₀)
    (hA : A.frames = some (env :: outer)) (hf : env.frame = some L) (hke : env.scope.kind = .function) :
    Below A base (env :: outer) (hideAll s.heap X) ∧ K.In (hideAll s.heap X) ∧ Top p loose mean mg mb (hideAll s.heap X) ∧ LedAt s.heap X led := by
  subst hX
  obtain ⟨_, BG, st, _⟩ := groundX (R := fun _ _ => True) B F N hA hf hke
  exact ⟨BG, XK.keeps st, T.keeps st, fun p hp => ⟨(N p hp).1, List.mem_map_of_mem hp⟩⟩
end
theorem cd41 {w : World} {g : Heap} (X : (Mine.hd.heap_1 w.params).In g) : CodeHd g 41 37 :=
  ⟨_, _, _, _, _, _, _, _, _, X 41 _ (by rfl), rfl, rfl, rfl, rfl, rfl, rfl, rfl, rfl, by decide⟩
theorem cd48 {w : World} {g : Heap} (X : (Mine.hd.heap_1 w.params).In g) : CodeHd g 48 44 :=
  ⟨_, _, _, _, _, _, _, _, _, X 48 _ (by rfl), rfl, rfl, rfl, rfl, rfl, rfl, rfl, rfl, by decide⟩
theorem cells3 {cm : Str → Option Value} {n₁ n₂ n₃ : Str} {c₁ c₂ c₃ : Addr} {v₁ v₂ v₃ : Option Value} {cells : List (Addr × Obj)} (x : CellsAre cm [(n₁, c₁), (n₂, c₂), (n₃, c₃)] cells)
   (h1 : cm n₁ = v₁) (h2 : cm n₂ = v₂) (h3 : cm n₃ = v₃) : ∃ o₁ o₂ o₃ : Obj, cells = [(c₁, o₁), (c₂, o₂), (c₃, o₃)] ∧ o₁.data = .cell v₁ ∧ o₂.data = .cell v₂ ∧ o₃.data = .cell v₃ := by
  obtain ⟨o₁, o₂, o₃, h, a, b, c⟩ := CellsAre.three x
  exact ⟨o₁, o₂, o₃, h, h1 ▸ a, h2 ▸ b, h3 ▸ c⟩
theorem fr_map {h₀ h : Heap} {L : Addr} {m m' : Str → Option Value} (F : Fr h₀ L h m) (e : m = m') : Fr h₀ L h m' := e ▸ F
end Mine
end
section
open PySem PySem.W PyProof.Rows PySem.Calls
namespace Mine
theorem intBits_le {a : Int} {k : Nat} (h0 : 0 ≤ a) (h : a < 2 ^ k) : Builtin.Int.intBits a ≤ k := by
  unfold Builtin.Int.intBits
  split
  · (first | lia | omega)
  · rename_i hn
    have hn' : a ≠ 0 := by simpa using hn
    have h1 : a.natAbs ≠ 0 := by (first | lia | omega)
    have h2 : a.natAbs < 2 ^ k := by
      have : (a.natAbs : Int) < ((2 ^ k : Nat) : Int) := by
        rw [Int.natAbs_of_nonneg h0]; simpa using h
      exact Int.ofNat_lt.mp this
    exact (Nat.log2_lt h1).mpr h2
theorem nat_and_low (x k : Nat) : x &&& (x / 2 ^ k * 2 ^ k) = x / 2 ^ k * 2 ^ k := by
  apply Nat.eq_of_testBit_eq
  intro i
  rw [Nat.testBit_and, ← Nat.shiftLeft_eq, ← Nat.shiftRight_eq_div_pow, Nat.testBit_shiftLeft, Nat.testBit_shiftRight]
  by_cases h : k ≤ i
  · simp [h]
  · simp [h]
theorem fdiv_pow {x : Int} {k : Nat} : x.fdiv (2 ^ k) = x / 2 ^ k := Int.fdiv_eq_ediv_of_nonneg _ (Int.le_of_lt (Int.pow_pos (by decide)))
theorem xor_low {x : Int} (k : Nat) (h0 : 0 ≤ x) : Builtin.bitXor x (x.fdiv (2 ^ k) * 2 ^ k) = x % 2 ^ k := by
  have hp : (0 : Int) < 2 ^ k := Int.pow_pos (by decide)
  obtain ⟨n, rfl⟩ := Int.eq_ofNat_of_zero_le h0
  have e : ((n : Int).fdiv (2 ^ k) * 2 ^ k) = ((n / 2 ^ k * 2 ^ k : Nat) : Int) := by
    rw [fdiv_pow]; simp
  rw [e, bitXor_and, bitAnd_pp (Int.natCast_nonneg _) (Int.natCast_nonneg _), Int.toNat_natCast, Int.toNat_natCast, nat_and_low]
  have h1 : (n : Int) % 2 ^ k = ((n % 2 ^ k : Nat) : Int) := by simp
  rw [h1]
  have h2 := Nat.div_add_mod n (2 ^ k)
  rw [Nat.mul_comm] at h2
  (first | lia | omega)
/-- the lowest k digits, each n bits -/
def digs (n : Nat) : Nat → Int → List Int
  | 0, _ => []
  | k + 1, x => x % 2 ^ n :: digs n k (x / 2 ^ n)
theorem digs_length (n : Nat) : ∀ (k : Nat) (x : Int), (digs n k x).length = k
  | 0, _ => rfl
  | k + 1, x => by rw [digs, List.length_cons, digs_length]
theorem digs_one {n : Nat} {x : Int} (h0 : 0 ≤ x) (h : x < 2 ^ n) : digs n 1 x = [x] := by
  show [x % 2 ^ n] = [x]
  rw [Int.emod_eq_of_lt h0 h]
theorem digs_mod (n : Nat) : ∀ (i : Nat) (x : Int) (m : Nat), i ≤ m → digs n i (x % 2 ^ (n * m)) = digs n i x
  | 0, _, _, _ => rfl
  | i + 1, x, m, h => by
    obtain ⟨m', rfl⟩ : ∃ m', m = m' + 1 := ⟨m - 1, by (first | lia | omega)⟩
    have e : (2 : Int) ^ (n * (m' + 1)) = 2 ^ n * 2 ^ (n * m') := by rw [← Int.pow_add]; congr 1; rw [Nat.mul_succ, Nat.add_comm]
    have hp : (0 : Int) < 2 ^ n := Int.pow_pos (by decide)
    have hq : (0 : Int) < 2 ^ (n * m') := Int.pow_pos (by decide)
    rw [digs, digs, e, Int.emod_emod_of_dvd _ (Int.dvd_mul_right _ _), ← digs_mod n i (x / 2 ^ n) m' (by (first | lia | omega))]
    congr 2
    rw [Int.emod_def x, Int.emod_def (x / 2 ^ n), Int.ediv_ediv_of_nonneg (Int.le_of_lt hp), Int.mul_assoc]
    exact Int.sub_mul_ediv_left x _ (Int.ne_of_gt hp)
theorem digs_split (n : Nat) : ∀ (i j : Nat) (x : Int), digs n i (x % 2 ^ (n * i)) ++ digs n j (x / 2 ^ (n * i)) = digs n (i + j) x := by
  intro i
  suffices h : ∀ (j : Nat) (x : Int), digs n i x ++ digs n j (x / 2 ^ (n * i)) = digs n (i + j) x by
    intro j x; rw [digs_mod n i x i (Nat.le_refl _)]; exact h j x
  induction i with
  | zero => intro j x; simp [digs]
  | succ i ih =>
    intro j x
    rw [Nat.succ_add, digs, digs, List.cons_append]
    congr 1
    rw [← ih j]
    congr 2
    rw [show n * (i + 1) = n + n * i by rw [Nat.mul_succ, Nat.add_comm], Int.pow_add, Int.ediv_ediv_of_nonneg (Int.le_of_lt (Int.pow_pos (by decide)))]
/-- ds laid over ns from lo on -/
def putAt (ns : List Int) (lo : Nat) (ds : List Int) : List Int := ns.take lo ++ (ds ++ ns.drop (lo + ds.length))
theorem putAt_length {ns : List Int} {lo : Nat} {ds : List Int} (h : lo + ds.length ≤ ns.length) : (putAt ns lo ds).length = ns.length := by
  simp [putAt]; (first | lia | omega)
theorem putAt_two {ns : List Int} {lo : Nat} {ds es : List Int} (h : lo + ds.length + es.length ≤ ns.length) : putAt (putAt ns lo ds) (lo + ds.length) es = putAt ns lo (ds ++ es) := by
  have e1 : (ns.take lo).length = lo := by simp; (first | lia | omega)
  unfold putAt
  rw [List.take_append, List.drop_append, e1, List.take_of_length_le (by (first | lia | omega) : (ns.take lo).length ≤ lo + ds.length), List.drop_of_length_le (by (first | lia | omega) : (ns.take lo).length ≤ lo + ds.length + es.length),
    show lo + ds.length - lo = ds.length by (first | lia | omega), show lo + ds.length + es.length - lo = ds.length + es.length by (first | lia | omega), List.take_left, List.drop_append, List.drop_of_length_le (by (first | lia | omega) : ds.length ≤ ds.length + es.length),
    show ds.length + es.length - ds.length = es.length by (first | lia | omega), List.drop_drop, List.length_append, List.append_assoc, List.append_assoc]
  simp [Nat.add_assoc]
theorem putAt_set {ns : List Int} {lo : Nat} {x : Int} (h : lo < ns.length) : ns.set lo x = putAt ns lo [x] := by
  unfold putAt
  rw [List.set_eq_take_append_cons_drop, if_pos h]; rfl
theorem putAt_all {ns ds : List Int} (h : ds.length = ns.length) : putAt ns 0 ds = ds := by
  simp [putAt, h]
end Mine
end
section
open PySem PySem.W PyProof.Rows PySem.Calls
namespace Mine
def undig (n : Nat) : List Int → Int
  | [] => 0
  | d :: r => d + 2 ^ n * undig n r
theorem undig_append (n : Nat) : ∀ a b : List Int, undig n (a ++ b) = undig n a + 2 ^ (n * a.length) * undig n b
  | [], b => by simp [undig]
  | d :: a, b => by
    rw [List.cons_append, undig, undig, undig_append n a b, List.length_cons, Nat.mul_succ, Nat.add_comm (n * a.length) n, Int.pow_add, Int.mul_add, Int.mul_assoc]
    (first | lia | omega)
def Digits (n : Nat) (l : List Int) : Prop := ∀ d ∈ l, 0 ≤ d ∧ d < 2 ^ n
theorem undig_bounds {n : Nat} : ∀ {l : List Int}, Digits n l → 0 ≤ undig n l ∧ undig n l < 2 ^ (n * l.length)
  | [], _ => by simp [undig]
  | d :: r, h => by
    have h1 := h d (.head _)
    have h2 := undig_bounds (n := n) (l := r) fun x hx => h x (.tail _ hx)
    have hp : (0 : Int) < 2 ^ n := Int.pow_pos (by decide)
    have h3 := Int.mul_nonneg (Int.le_of_lt hp) h2.1
    have h4 : 2 ^ n * (undig n r + 1) ≤ 2 ^ n * 2 ^ (n * r.length) := Int.mul_le_mul_of_nonneg_left (by (first | lia | omega)) (Int.le_of_lt hp)
    rw [Int.mul_add, Int.mul_one] at h4
    rw [undig, List.length_cons, Nat.mul_succ, Nat.add_comm (n * r.length) n, Int.pow_add]
    (first | lia | omega)
theorem digs_ok {n : Nat} : ∀ (k : Nat) (x : Int), Digits n (digs n k x)
  | 0, _ => fun _ h => nomatch h
  | k + 1, x => fun d hd => by
    have hp : (0 : Int) < 2 ^ n := Int.pow_pos (by decide)
    rcases List.mem_cons.mp hd with rfl | hd
    · exact ⟨Int.emod_nonneg _ (Int.ne_of_gt hp), Int.emod_lt_of_pos _ hp⟩
    · exact digs_ok k _ d hd
theorem undig_digs (n : Nat) : ∀ (k : Nat) (x : Int), 0 ≤ x → x < 2 ^ (n * k) → undig n (digs n k x) = x
  | 0, x, h0, h1 => by simp [digs, undig] at *; (first | lia | omega)
  | k + 1, x, h0, h1 => by
    have hp : (0 : Int) < 2 ^ n := Int.pow_pos (by decide)
    rw [digs, undig, undig_digs n k (x / 2 ^ n) (Int.ediv_nonneg h0 (Int.le_of_lt hp)) (by
      refine Int.ediv_lt_of_lt_mul hp ?_
      rw [← Int.pow_add]; rwa [Nat.mul_succ] at h1)]
    have := Int.mul_ediv_add_emod x (2 ^ n)
    (first | lia | omega)
theorem undig_one {n : Nat} {ns : List Int} {lo : Nat} (h : lo < ns.length) : undig n ((ns.drop lo).take 1) = ns.getD lo 0 := by
  rw [List.drop_eq_getElem_cons h]
  show ns[lo] + 2 ^ n * 0 = _
  rw [Int.mul_zero, Int.add_zero]; simp [List.getD, h]
theorem undig_two {n : Nat} {ns : List Int} {lo i j : Nat} (h : lo + i ≤ ns.length) : undig n ((ns.drop (lo + i)).take j) * 2 ^ (n * i) + undig n ((ns.drop lo).take i) = undig n ((ns.drop lo).take (i + j)) := by
  rw [List.take_add, undig_append, List.drop_drop, List.length_take, List.length_drop, Nat.min_eq_left (by (first | lia | omega)), Int.mul_comm]
  (first | lia | omega)
theorem Digits.sub {n : Nat} {l : List Int} (h : Digits n l) (i j : Nat) : Digits n ((l.drop i).take j) := fun d hd => h d (List.mem_of_mem_drop (List.mem_of_mem_take hd))
end Mine
end
section
open PySem PySem.W PyProof.Rows PySem.Calls
namespace Mine
theorem ld_turn {B b r d x q r' : Int} (_hB : 0 < B) (hb : 0 < b) (hr : 0 ≤ r) (hr' : r < b) (hd : 0 ≤ d) (hd' : d < B) (hx : x = r * B + d) (hq : q = x / b) (hm : r' = x % b) : 0 ≤ x ∧ x < b * B ∧ 0 ≤ q ∧ q < B ∧ 0 ≤ r' ∧ r' < b ∧ x = b * q + r' := by
  have h0 : 0 ≤ r * B := Int.mul_nonneg hr (by (first | lia | omega))
  have h1 : (r + 1) * B ≤ b * B := Int.mul_le_mul_of_nonneg_right (by (first | lia | omega)) (by (first | lia | omega))
  rw [Int.add_mul, Int.one_mul] at h1
  have hx0 : 0 ≤ x := by (first | lia | omega)
  have hx1 : x < b * B := by (first | lia | omega)
  refine ⟨hx0, hx1, ?_, ?_, ?_, ?_, ?_⟩
  · rw [hq]; exact Int.ediv_nonneg hx0 (Int.le_of_lt hb)
  · rw [hq]; exact Int.ediv_lt_of_lt_mul hb (by rw [Int.mul_comm]; exact hx1)
  · rw [hm]; exact Int.emod_nonneg _ (by (first | lia | omega))
  · rw [hm]; exact Int.emod_lt_of_pos _ hb
  · rw [hq, hm]; exact (Int.mul_ediv_add_emod x b).symm
theorem ld_end {a b q r : Int} (hb : 0 < b) (h : a = b * q + r) (h0 : 0 ≤ r) (h1 : r < b) : q = a / b ∧ r = a % b := by
  subst h
  constructor
  · rw [Int.add_comm, Int.add_mul_ediv_left _ _ (by (first | lia | omega)), Int.ediv_eq_zero_of_lt h0 h1]; (first | lia | omega)
  · rw [Int.add_comm, Int.add_mul_emod_self_left, Int.emod_eq_of_lt h0 h1]
theorem ld3 {n : Nat} {b d0 d1 d2 q0 q1 q2 r0 r1 r2 : Int} (e2 : 0 * 2 ^ n + d2 = b * q2 + r2) (e1 : r2 * 2 ^ n + d1 = b * q1 + r1) (e0 : r1 * 2 ^ n + d0 = b * q0 + r0) :
    undig n [d0, d1, d2] = b * undig n [q0, q1, q2] + r0 := by
  simp only [undig]
  generalize (2 : Int) ^ n = B at *
  grind
theorem ld2 {n : Nat} {b d0 d1 q0 q1 r0 r1 : Int} (e1 : 0 * 2 ^ n + d1 = b * q1 + r1) (e0 : r1 * 2 ^ n + d0 = b * q0 + r0) :
    undig n [d0, d1] = b * undig n [q0, q1] + r0 := by
  simp only [undig]
  generalize (2 : Int) ^ n = B at *
  grind
theorem ld1 {n : Nat} {b d0 q0 r0 : Int} (e0 : 0 * 2 ^ n + d0 = b * q0 + r0) : undig n [d0] = b * undig n [q0] + r0 := by
  simp only [undig]
  generalize (2 : Int) ^ n = B at *
  grind
end Mine
end
section
open PySem PySem.W PyProof.Rows PySem.Calls
set_option maxRecDepth 100000
namespace Mine
abbrev progR : Program := PySem.Challenge.rw_rt0087_01.row.prog
def bodyOf : Stmt → List Stmt | .FunctionDef _ _ b .. => b | _ => []
def paramsOf : Stmt → Arguments | .FunctionDef _ a .. => a | _ => default
def scopeOf : Stmt → Scope | .FunctionDef _ _ _ _ _ _ sc .. => sc | _ => default
def i2dDef : Stmt := (bodyOf (PySem.Challenge.pw_rt0087_01.main.body.getD 5 (.Pass default))).getD 1 (.Pass default)
def d2iDef : Stmt := (bodyOf (PySem.Challenge.pw_rt0087_01.main.body.getD 6 (.Pass default))).getD 0 (.Pass default)
section
variable {M : Program} {w : World} {A : Around} {s : Shared} {Q E : Value → Shared → Prop} {a b : Int} {t u : Tok}
theorem rsh_half (h : ∀ v t, a = 2 * v ∨ a = 2 * v + 1 → Q (.int v t) { s with toks := s.toks + 1 }) : wpAny (model M w) A (binaryOp .RShift (.int a t) (.int 1 u)) Q E s :=
  rshift_int (by decide) (h _ _ (by rw [show ((1 : Int).toNat) = 1 from rfl, fdiv_pow]; (first | lia | omega)))
theorem mul_gen (ha : 0 ≤ a) (ha' : a < 100) (hb : 0 ≤ b) (hb' : b < 10) (h : ∀ v t, v = a * b → 0 ≤ v → v < 1000 → Q (.int v t) { s with toks := s.toks + 1 }) : wpAny (model M w) A (binaryOp .Mult (.int a t) (.int b u)) Q E s :=
  mul_int (h _ _ rfl (Int.mul_nonneg ha hb) (by have := Int.mul_le_mul (show a ≤ 99 by (first | lia | omega)) (show b ≤ 9 by (first | lia | omega)) hb (by decide); (first | lia | omega))) (IntMulOk.of_right (Nat.le_trans (intBits_le (k := 10) hb (by (first | lia | omega))) (by decide)))
/-- the middle of two ends -/
theorem rsh_mid {lo hi : Int} {m : Nat} (h1 : 1 ≤ m) (h6 : m < 6) (hhi : hi = lo + m) (hne : lo + 1 ≠ hi) (h : ∀ (k1 k2 : Nat) t, hi = lo + k1 + k2 → k1 + k2 = m → k1 < m → k2 < m → 1 ≤ k1 → 1 ≤ k2 → k1 < 6 → Q (.int (lo + k1) t) { s with toks := s.toks + 1 }) :
    wpAny (model M w) A (binaryOp .RShift (.int (lo + hi) t) (.int 1 u)) Q E s := by
  refine rsh_half fun v t hv => ?_
  have hm2 : 2 ≤ m := by (first | lia | omega)
  obtain ⟨k1, k2, e1, e2⟩ : ∃ k1 k2 : Nat, v = lo + k1 ∧ (m = k1 + k2 ∧ (k2 = k1 ∨ k2 = k1 + 1)) := ⟨m / 2, m - m / 2, by (first | lia | omega), by (first | lia | omega)⟩
  clear hv hne
  obtain ⟨rfl, e3⟩ := e2
  subst e1 hhi
  refine h k1 k2 t (by rw [Int.natCast_add, Int.add_assoc]) rfl ?_ ?_ ?_ ?_ ?_ <;> (first | lia | omega)
theorem mul_mid {lo : Int} {k nn : Nat} (hk : k < 6) (hn : nn < 10) (h : ∀ v t, v.toNat = nn * k → 0 ≤ v → v < 1000 → Q (.int v t) { s with toks := s.toks + 1 }) : wpAny (model M w) A (binaryOp .Mult (.int (lo + k - lo) t) (.int nn u)) Q E s := by
  rw [show lo + (k : Int) - lo = k by (first | lia | omega)]
  refine mul_gen (by (first | lia | omega)) (by (first | lia | omega)) (by (first | lia | omega)) (by (first | lia | omega)) fun v t hv => h v t ?_
  rw [hv, ← Int.natCast_mul, Int.toNat_natCast, Nat.mul_comm]
theorem room_in {dp m k lim : Nat} (h : dp + m < lim) (hk : k < m) : dp + 1 + k < lim := by (first | lia | omega)
theorem unit_in {un m k lim : Nat} (h : un + 8 * m < lim) (hk : k < m) : un + 3 + 8 * k < lim := by (first | lia | omega)
theorem mid_nat {lo : Int} (h : 0 ≤ lo) (k : Nat) : (lo + k).toNat = lo.toNat + k := by (first | lia | omega)
theorem rsh_gen (hb : 0 ≤ b) (ha : 0 ≤ a) (h : ∀ v t, v = a / 2 ^ b.toNat → 0 ≤ v → v ≤ a → Q (.int v t) { s with toks := s.toks + 1 }) : wpAny (model M w) A (binaryOp .RShift (.int a t) (.int b u)) Q E s :=
  have hp : (0 : Int) < 2 ^ b.toNat := Int.pow_pos (by decide)
  rshift_int hb (by rw [fdiv_pow]; exact h _ _ rfl (Int.ediv_nonneg ha (Int.le_of_lt hp)) (Int.ediv_le_self _ ha))
theorem lsh_gen (hb : 0 ≤ b) (hb' : b < 1000) (ha : 0 ≤ a) (ha' : a < 2 ^ 60) (h : ∀ v t, v = a * 2 ^ b.toNat → Q (.int v t) { s with toks := s.toks + 1 }) : wpAny (model M w) A (binaryOp .LShift (.int a t) (.int b u)) Q E s :=
  lshift_int hb (by have := intBits_le ha ha'; (first | lia | omega)) (h _ _ rfl)
theorem xor_gen {x v c : Int} {k : Nat} (h0 : 0 ≤ x) (hv : v = x / 2 ^ k) (hc : c = v * 2 ^ k) (h : ∀ v t, v = x % 2 ^ k → 0 ≤ v → v ≤ x → Q (.int v t) { s with toks := s.toks + 1 }) : wpAny (model M w) A (binaryOp .BitXor (.int x t) (.int c u)) Q E s :=
  have hp : (0 : Int) < 2 ^ k := Int.pow_pos (by decide)
  xor_int (by
    have e : Builtin.bitXor x c = x % 2 ^ k := by rw [hc, hv, ← fdiv_pow]; exact xor_low k h0
    rw [e]; exact h _ _ rfl (Int.emod_nonneg _ (Int.ne_of_gt hp)) (by have h1 := Int.mul_ediv_add_emod x (2 ^ k); have h2 := Int.mul_nonneg (Int.le_of_lt hp) (Int.ediv_nonneg h0 (Int.le_of_lt hp)); (first | lia | omega)))
end
/-- a list of ints that a call writes into -/
abbrev innerX (D f cn ci cd : Addr) : List Addr := [D, f, cn, ci, cd]
abbrev innerLed (qual : Str) (doc pm ctv : Value) (D f c' cn ci cd : Addr) (on oi od : Obj) (its : List Value) (n0 : Nat) : List (Addr × Obj) :=
  [(D, W.listOf its.toArray n0), (f, fnMade (Str.ofString "inner") qual (paramsOf i2dDef) (bodyOf i2dDef) (scopeOf i2dDef) [(Str.ofString "n", cn), (Str.ofString "inner", ci), (Str.ofString "a_digits", cd)] doc pm c' ctv),
   (cn, on), (ci, oi), (cd, od)]
def InnerC (w : World) (qual : Str) (doc pm ctv : Value) (D f c' cn ci cd : Addr) (on oi od : Obj) (n0 nn : Nat) (m : Nat) : Prop :=
  ∀ (loose : List Str) (mean : ExcName → Option Value) (mg mb : Str → Option Value) (dp un : Nat) (gd : Option (List Code)) (frames : List Env) (base : Heap) (s : Shared) (Q E : Value → Shared → Prop) (its : List Value) (ns : List Int) (xs lo hi : Int) (t1 t2 t3 : Tok),
   Below (AA dp un gd frames) base frames (hideAll s.heap (innerX D f cn ci cd)) → (Mine.hd.heap_1 w.params).In (hideAll s.heap (innerX D f cn ci cd)) → Top topProg loose mean mg mb (hideAll s.heap (innerX D f cn ci cd)) →
   LedAt s.heap (innerX D f cn ci cd) (innerLed qual doc pm ctv D f c' cn ci cd on oi od its n0) → (hideAll s.heap (innerX D f cn ci cd)).CodeRec (.ref c') qual →
   IntsAre its ns → 0 ≤ lo → hi = lo + m → hi ≤ ns.length → (ns.length : Int) < 1000 → 0 ≤ xs → xs < 2 ^ (nn * m) → 
   dp + m < recursionLimit → un + 8 * m < cLine →
   (∀ h' tk' its', KeepBut [D] s.heap h' → h'.get? D = some (W.listOf its'.toArray n0) → IntsAre its' (putAt ns lo.toNat (digs nn m xs)) → Q .none { s with heap := h', toks := tk' }) →
   wpAny (model PySem.Challenge.rw_rt0087_01.row.prog w) (AA dp un gd frames) (call (.ref f) [.int xs t1, .int lo t2, .int hi t3]) Q E s
theorem codeRec_hide {h : Heap} {qual : Str} {doc pm ctv : Value} {D f c' cn ci cd : Addr} {on oi od : Obj} {its : List Value} {n0 : Nat} (hl : LedAt h (innerX D f cn ci cd) (innerLed qual doc pm ctv D f c' cn ci cd on oi od its n0)) (hcd : h.CodeRec (.ref c') qual)
    (q2 : ∃ v, on.data = .cell v) (q3 : ∃ v, oi.data = .cell v) (q4 : ∃ v, od.data = .cell v) : (hideAll h (innerX D f cn ci cd)).CodeRec (.ref c') qual := by
  obtain ⟨c, oc, vs, t, e, ho, hd, hv⟩ := hcd
  cases e
  refine ⟨c', oc, vs, t, rfl, hideAll_get _ ho fun hm => ?_, hd, hv⟩
  obtain ⟨_, q2⟩ := q2; obtain ⟨_, q3⟩ := q3; obtain ⟨_, q4⟩ := q4
  simp only [List.mem_cons, List.not_mem_nil, or_false] at hm
  rcases hm with rfl | rfl | rfl | rfl | rfl
  · have z := (hl _ (.head _)).1; rw [ho] at z; cases z; cases hd
  · have z := (hl _ (.tail _ (.head _))).1; rw [ho] at z; cases z; cases hd
  · have z := (hl _ (.tail _ (.tail _ (.head _)))).1; rw [ho] at z; cases z; rw [q2] at hd; cases hd
  · have z := (hl _ (.tail _ (.tail _ (.tail _ (.head _))))).1; rw [ho] at z; cases z; rw [q3] at hd; cases hd
  · have z := (hl _ (.tail _ (.tail _ (.tail _ (.tail _ (.head _)))))).1; rw [ho] at z; cases z; rw [q4] at hd; cases hd
section
variable {w : World} {A₀ : Around} {s : Shared} {base h₀ : Heap} {outer : List Env} {env : Env} {L : Addr} {m : Str → Option Value} {loose : List Str} {mean : ExcName → Option Value} {mg mb : Str → Option Value} {Q E : Value → Shared → Prop} {dp un : Nat} {gd : Option (List Code)}
  {qual : Str} {doc pm ctv : Value} {D f c' cn ci cd : Addr} {on oi od : Obj} {its : List Value} {ns : List Int} {n0 nn k : Nat} {xs lo hi : Int} {t1 t2 t3 : Tok}
/-- the same, from a frame whose ledger it is -/
theorem use_inner (C : InnerC w qual doc pm ctv D f c' cn ci cd on oi od n0 nn k) (B : Below A₀ base outer h₀) (F : Fr h₀ L s.heap m) (X : (Mine.hd.heap_1 w.params).In h₀) (led rest : List (Addr × Obj)) (N : News h₀ L s.heap led) (hsub : ∀ p ∈ innerLed qual doc pm ctv D f c' cn ci cd on oi od its n0, p ∈ led) (hrest : ∀ p ∈ rest, p ∈ led) (hrD : ∀ p ∈ rest, p.1 ≠ D) (T : Top topProg loose mean mg mb h₀)
    (hf : env.frame = some L) (hk : env.scope.kind = .function) (hcd : s.heap.CodeRec (.ref c') qual) (q2 : ∃ v, on.data = .cell v) (q3 : ∃ v, oi.data = .cell v) (q4 : ∃ v, od.data = .cell v) (hia : IntsAre its ns) (hlo : 0 ≤ lo) (hhi : hi = lo + k) (hh : hi ≤ ns.length) (hnl : (ns.length : Int) < 1000) (hx : 0 ≤ xs) (hx' : xs < 2 ^ (nn * k))
    (g1 : @Ne Nat D f) (g3 : @Ne Nat D cn) (g4 : @Ne Nat D ci) (g5 : @Ne Nat D cd)
    (hd : dp + k < recursionLimit) (hu : un + 8 * k < cLine)
    (ret : ∀ h' tk' its', Fr h₀ L h' m → News h₀ L h' (innerLed qual doc pm ctv D f c' cn ci cd on oi od its' n0 ++ rest) → IntsAre its' (putAt ns lo.toNat (digs nn k xs)) → Q .none { s with heap := h', toks := tk' }) :
    wpAny (model PySem.Challenge.rw_rt0087_01.row.prog w) (AA dp un gd (env :: outer)) (call (.ref f) [.int xs t1, .int lo t2, .int hi t3]) Q E s := by
  obtain ⟨B', X', T', hl⟩ := ambient (A := AA dp un gd (env :: outer)) (env := env) (outer := outer) rfl B F (news_sub N hsub) X T rfl hf hk
  refine C loose mean mg mb dp un gd (env :: outer) base s Q E its ns xs lo hi t1 t2 t3 B' X' T' hl (codeRec_hide hl hcd q2 q3 q4) hia hlo hhi hh hnl hx hx' hd hu fun h' tk' its' k hD hi' => ?_
  have zD := N _ (hsub (D, W.listOf its.toArray n0) (.head _))
  have F' : Fr h₀ L h' m := fr_but F k (by simpa using Ne.symm zD.2.1) (by simpa using zD.2.2)
  refine ret h' tk' its' F' ?_ hi'
  show News h₀ L h' ((D, W.listOf its'.toArray n0) :: (_ :: _ :: _ :: _ :: [] ++ rest))
  refine news_cons (news_but (led := _ :: _ :: _ :: _ :: [] ++ rest) (fun p hp => N p ?_) k ?_) hD zD.2.1 zD.2.2
  · rcases List.mem_append.mp hp with hp | hp
    · exact hsub _ (.tail _ hp)
    · exact hrest _ hp
  intro p hp
  simp only [List.mem_cons, List.not_mem_nil, or_false]
  rcases List.mem_append.mp hp with hp | hp
  · simp only [List.mem_cons, List.not_mem_nil, or_false] at hp
    rcases hp with rfl | rfl | rfl | rfl
    · exact Ne.symm g1
    · exact Ne.symm g3
    · exact Ne.symm g4
    · exact Ne.symm g5
  · exact hrD _ hp
end
theorem keepBut_of {X Y : List Addr} {h h' : Heap} {L : Addr} {m : Str → Option Value} {led' : List (Addr × Obj)} (F : Fr (hideAll h X) L h' m) (N : News (hideAll h X) L h' led') (hx : ∀ b ∈ X, b ∉ Y → ∃ o, h.get? b = some o ∧ (b, o) ∈ led') : KeepBut Y h h' := fun b o hb e => by
  by_cases hX : b ∈ X
  · obtain ⟨o', e', hm⟩ := hx b hX hb
    rw [e] at e'; cases e'
    exact (N _ hm).1
  · exact F.keep b o (hideAll_get X e hX)
theorem leave_but {h h' : Heap} {L D f c' cn ci cd : Addr} {m : Str → Option Value} {qual : Str} {doc pm ctv : Value} {on oi od : Obj} {its its' : List Value} {n0 : Nat} (hl : LedAt h (innerX D f cn ci cd) (innerLed qual doc pm ctv D f c' cn ci cd on oi od its n0))
    (F : Fr (hideAll h (innerX D f cn ci cd)) L h' m) (N : News (hideAll h (innerX D f cn ci cd)) L h' (innerLed qual doc pm ctv D f c' cn ci cd on oi od its' n0)) : KeepBut [D] h h' := by
  refine keepBut_of F N fun b hb hY => ?_
  simp only [List.mem_cons, List.not_mem_nil, or_false] at hb hY
  rcases hb with rfl | rfl | rfl | rfl | rfl
  · exact absurd rfl hY
  · exact ⟨_, (hl _ (.tail _ (.head _))).1, .tail _ (.head _)⟩
  · exact ⟨_, (hl _ (.tail _ (.tail _ (.head _)))).1, .tail _ (.tail _ (.head _))⟩
  · exact ⟨_, (hl _ (.tail _ (.tail _ (.tail _ (.head _))))).1, .tail _ (.tail _ (.tail _ (.head _)))⟩
  · exact ⟨_, (hl _ (.tail _ (.tail _ (.tail _ (.tail _ (.head _)))))).1, .tail _ (.tail _ (.tail _ (.tail _ (.head _))))⟩
theorem toNat_mul {k nn : Nat} {a v : Int} (e : v = a * nn) (ha : a = k) : v.toNat = nn * k := by
  subst e; subst ha
  rw [← Int.natCast_mul, Int.toNat_natCast, Nat.mul_comm]
section
set_option maxHeartbeats 400000 in
theorem inner_c {w : World} {qual : Str} {doc pm ctv : Value} {D f c' cn ci cd : Addr} {on oi od : Obj} {n0 nn : Nat} {u : Tok} (e1 : on.data = .cell (some (.int nn u))) (e2 : oi.data = .cell (some (.ref f))) (e3 : od.data = .cell (some (.ref D)))
   (hnn : nn < 10)
   (g1 : @Ne Nat D f) (g3 : @Ne Nat D cn) (g4 : @Ne Nat D ci) (g5 : @Ne Nat D cd) : ∀ (m : Nat), 1 ≤ m → m < 6 → InnerC w qual doc pm ctv D f c' cn ci cd on oi od n0 nn m := by
  w_top off
  k_with_none
  k_with "k_room" => (ktr_room)
  k_with "setItem ref int" => (((refine' ksa_set ?k1 ?k2 ?k3 ?k4 ?k5 ?k6 ?k7 ?_; (case k1 => k_asm); (case k2 => k_asm); (case k3 => k_upd); (case k4 => assumption); (case k5 => (first | lia | omega)); (case k6 => (first | lia | omega)); (case k7 => (first | lia | omega))); intro _ _ _ _ _ _; (try k_sweep)))
  k_with "binaryOp RShift int int" => ((first
  | (refine rsh_mid hm1 hm6 hhi (by assumption) ?_; intro _ _ _ _ _ _ _ _ _ _; try dsimp only)
  | (refine rsh_gen (by assumption) (by assumption) ?_; intro _ _ _ _ _; try dsimp only)))
  k_with "binaryOp Mult int int" => ((refine mul_mid (by assumption) hnn ?_; intro _ _ _ _ _; try dsimp only))
  k_with "binaryOp LShift int int" => ((refine lsh_gen (by assumption) (by assumption) (by assumption) (Int.lt_of_le_of_lt (by assumption) hxb) ?_; intro _ _ _; try dsimp only))
  k_with "binaryOp BitXor int int" => ((refine xor_gen (by assumption) (by assumption) (by assumption) ?_; intro _ _ _ _ _; try dsimp only))
  k_with "exec Assign" => k_fold
  k_with "exec If" => k_fold
  k_with "exec Expr" => k_fold
  k_with "exec AugAssign" => k_fold
  k_with "exec Return some" => k_fold
  intro m
  induction m using Nat.strongRecOn with
  | ind m ih =>
  intro hm1 hm6 loose mean mg mb dp un gd frames base s Q E its ns xs lo hi t1 t2 t3 B X T hl hcr hia hlo hhi hh hnl hx hx' hd hu ret
  have CD := cd41 X
  have hxb : xs < 2 ^ 60 := Int.lt_of_lt_of_le hx' (by
    have : nn * m ≤ 60 := Nat.le_trans (Nat.mul_le_mul (Nat.le_of_lt hnn) (Nat.le_of_lt hm6)) (by decide)
    exact_mod_cast Nat.pow_le_pow_right (by decide) this)
  revert X; k_fill; intro X
  refine' enterF (binds := [(Str.ofString "x", .int xs t1), (Str.ofString "L", .int lo t2), (Str.ofString "R", .int hi t3)]) (by assumption) (by assumption) (by assumption) (hl _ (List.Mem.tail _ (List.Mem.head _))).1 (hcr.keeps fun _ _ e => of_hideAll _ e) ?k8 ?k9 ?kB ?_ ?c2 ?c3 ?c4 ?c5
  (case k8 => exact room0 hd)
  (case k9 => exact BindsTo.of_eq rfl)
  (case kB => exact locs (by rfl))
  (case c5 => decide)
  (case c2 => exact rfl); (case c3 => exact rfl); (case c4 => exact rfl)
  intro L h' F' N' l1
  conv in (execs _ _) => arg 1; whnf
  (try k_lt l1)
  try dsimp only
  try k_fold
  k_steps
  · rename_i hq h1 F1 N1 hi1 hl1 hs1
    have hm : m = 1 := by (first | lia | omega)
    subst hm
    show Q .none _
    refine ret _ _ (its.set lo.toNat (.int xs t1)) (leave_but hl F1 N1) (N1 _ (List.Mem.head _)).1 ?_
    rw [digs_one hx (by simpa using hx'), ← putAt_set (by (first | lia | omega))]
    exact hi1
  · rename_i hne _ _ _ k1 k2 tm1 hhk hkk k1m k2m k11 k21 k16 h1 _ _ _ sh tm2 hs hsh0 hsh1 h2 _ _ _ up tm3 hup hup0 hup1 h3 _ _ _ sl tm4 hsl lw tm5 hlw hlw0 hlw1 h4 F4 N4
    rw [hs] at hup hlw
    have hp : (0 : Int) < 2 ^ (nn * k1) := Int.pow_pos (by decide)
    have hle : lo + k1 ≤ hi := by rw [hhk]; exact Int.le_add_of_nonneg_right (Int.natCast_nonneg _)
    have hmn := mid_nat hlo k1
    have hnat : lo.toNat + k1 ≤ ns.length := by rw [← hmn]; exact Int.toNat_le.mpr (Int.le_trans hle hh)
    have hnat2 : lo.toNat + k1 + k2 ≤ ns.length := by
      have := Int.toNat_le.mpr hh
      rw [hhk, mid_nat (Int.add_nonneg hlo (Int.natCast_nonneg _)), hmn] at this
      exact this
    refine use_inner (ih k1 k1m k11 k16) B F4 X _ [] N4 (fun _ h => h) (fun _ h => nomatch h) (fun _ h => nomatch h) T rfl rfl (hcr.keeps F4.keep) ⟨_, e1⟩ ⟨_, e2⟩ ⟨_, e3⟩ hia hlo rfl (Int.le_trans hle hh) hnl hlw0 (by rw [hlw]; exact Int.emod_lt_of_pos _ hp) g1 g3 g4 g5 (room_in hd k1m) (unit_in hu k1m) ?_
    intro h5 tk5 its5 F5 N5 hi5
    rw [List.append_nil] at N5
    have hlen5 : (putAt ns lo.toNat (digs nn k1 lw)).length = ns.length := putAt_length (by rw [digs_length]; exact hnat)
    k_steps
    refine use_inner (ih k2 k2m k21 (Nat.lt_trans k2m hm6)) B F5 X _ [] N5 (fun _ h => h) (fun _ h => nomatch h) (fun _ h => nomatch h) T rfl rfl (hcr.keeps F5.keep) ⟨_, e1⟩ ⟨_, e2⟩ ⟨_, e3⟩ hi5 (Int.add_nonneg hlo (Int.natCast_nonneg _)) hhk (by rw [hlen5]; exact hh) (by rw [hlen5]; exact hnl) hup0 ?_ g1 g3 g4 g5 (room_in hd k2m) (unit_in hu k2m) ?_
    · rw [hup]
      refine Int.ediv_lt_of_lt_mul hp ?_
      rw [← Int.pow_add, ← Nat.mul_add, Nat.add_comm, hkk]
      exact hx'
    intro h6 tk6 its6 F6 N6 hi6
    rw [List.append_nil] at N6
    k_steps
    refine ret _ _ its6 (leave_but hl F6 N6) (N6 _ (List.Mem.head _)).1 ?_
    have e1 : (lo + (k1 : Int)).toNat = lo.toNat + (digs nn k1 lw).length := by rw [digs_length]; exact hmn
    have e2 : digs nn k1 lw ++ digs nn k2 up = digs nn m xs := by rw [hlw, hup, digs_split, hkk]
    rw [e1, putAt_two (by rw [digs_length, digs_length]; exact hnat2), e2] at hi6
    exact hi6
end
end Mine
end
section
open PySem PySem.W PyProof.Rows PySem.Calls
set_option maxRecDepth 100000
namespace Mine
def posOf : Stmt → Pos | .FunctionDef _ _ _ _ _ _ _ _ _ p => p | _ => default
abbrev tabX : List Addr := [44, 37]
def q37 : Str := Str.ofString "_int2digits.<locals>.inner"
def q44 : Str := Str.ofString "_digits2int.<locals>.inner"
abbrev full (d : Stmt) (cc : Addr) : Array Value := #[rawInt (posOf d).line, rawInt (posOf d).col, .ref cc]
/-- a table of a code's inner codes: nothing, or the one -/
def TabOne (P : Addr) (d : Stmt) (q : Str) (h : Heap) : Prop := ∃ ps, h.get? P = some (tabObj ps) ∧ (ps = #[] ∨ ∃ cc, ps = full d cc ∧ h.CodeRec (.ref cc) q)
def TabStep (P : Addr) (d : Stmt) (q : Str) (h h' : Heap) : Prop := h'.get? P = h.get? P ∨ ∃ cc, h'.get? P = some (tabObj (full d cc)) ∧ h.get? cc = none ∧ h'.CodeRec (.ref cc) q
def Tabs (h : Heap) : Prop := TabOne 37 i2dDef q37 h ∧ TabOne 44 d2iDef q44 h
def TabsStep (h h' : Heap) : Prop := TabStep 37 i2dDef q37 h h' ∧ TabStep 44 d2iDef q44 h h'
theorem TabOne.not_code {P : Addr} {d : Stmt} {q q' : Str} {h : Heap} {cc : Addr} (x : TabOne P d q h) (c : h.CodeRec (.ref cc) q') : cc ≠ P := by
  rintro rfl
  obtain ⟨ps, e, r⟩ := x
  obtain ⟨c₁, oc, vs, t, e1, e2, e3, e4⟩ := c
  cases e1
  rw [e] at e2; cases e2; cases e3
  rcases r with rfl | ⟨cc', rfl, _⟩
  · cases e4
  · cases e4
theorem Tabs.code {h h' : Heap} {cc : Addr} {q : Str} (x : Tabs h) (k : KeepBut tabX h h') (c : h.CodeRec (.ref cc) q) : h'.CodeRec (.ref cc) q := by
  have n1 := x.1.not_code c
  have n2 := x.2.not_code c
  obtain ⟨c₁, oc, vs, t, e1, e2, e3, e4⟩ := c
  cases e1
  exact ⟨_, oc, vs, t, rfl, k _ _ (by simp; exact ⟨n2, n1⟩) e2, e3, e4⟩
theorem TabOne.step {P : Addr} {d : Stmt} {q : Str} {h h' : Heap} (x : TabOne P d q h) (y : Tabs h) (k : KeepBut tabX h h') (st : TabStep P d q h h') : TabOne P d q h' := by
  rcases st with e | ⟨cc, e, _, r⟩
  · obtain ⟨ps, e1, r⟩ := x
    exact ⟨ps, e.trans e1, r.imp id fun ⟨cc, e2, r⟩ => ⟨cc, e2, y.code k r⟩⟩
  · exact ⟨_, e, .inr ⟨cc, rfl, r⟩⟩
theorem Tabs.step {h h' : Heap} (x : Tabs h) (k : KeepBut tabX h h') (st : TabsStep h h') : Tabs h' := ⟨x.1.step x k st.1, x.2.step x k st.2⟩
theorem Tabs.keeps {h h' : Heap} (x : Tabs h) (k : h.StaysIn h') : Tabs h' :=
  ⟨let ⟨ps, e, r⟩ := x.1; ⟨ps, k _ _ e, r.imp id fun ⟨cc, e, c⟩ => ⟨cc, e, c.keeps k⟩⟩, let ⟨ps, e, r⟩ := x.2; ⟨ps, k _ _ e, r.imp id fun ⟨cc, e, c⟩ => ⟨cc, e, c.keeps k⟩⟩⟩
theorem TabStep.refl {P : Addr} {d : Stmt} {q : Str} {h : Heap} : TabStep P d q h h := .inl rfl
theorem TabStep.trans {P : Addr} {d : Stmt} {q : Str} {h h' h'' : Heap} (y : Tabs h') (k : KeepBut tabX h h') (k' : KeepBut tabX h' h'') (a : TabStep P d q h h') (b : TabStep P d q h' h'') : TabStep P d q h h'' := by
  rcases b with e | ⟨cc, e, f, r⟩
  · rcases a with e' | ⟨cc, e', f', r'⟩
    · exact .inl (e.trans e')
    · exact .inr ⟨cc, e.trans e', f', y.code k' r'⟩
  · refine .inr ⟨cc, e, ?_, r⟩
    cases q : h.get? cc with
    | none => rfl
    | some o =>
      by_cases hm : cc ∈ tabX
      · exfalso
        simp only [List.mem_cons, List.not_mem_nil, or_false] at hm
        obtain ⟨p1, e1, _⟩ := y.1
        obtain ⟨p2, e2, _⟩ := y.2
        rcases hm with rfl | rfl
        · rw [e2] at f; cases f
        · rw [e1] at f; cases f
      · have := k _ _ hm q; rw [f] at this; cases this
theorem TabsStep.trans {h h' h'' : Heap} (x : Tabs h) (k : KeepBut tabX h h') (k' : KeepBut tabX h' h'') (a : TabsStep h h') (b : TabsStep h' h'') : TabsStep h h'' :=
  have y := x.step k a
  ⟨a.1.trans y k k' b.1, a.2.trans y k k' b.2⟩
/-- a call of a def of the text that keeps the heap but the two tables -/
def CallsT (w : World) (f : Addr) (vals : List Value) (lv : Nat) (pre : Heap → Prop) (post : Heap → Value → Heap → Prop) : Prop :=
  ∀ (loose : List Str) (mean : ExcName → Option Value) (mg mb : Str → Option Value) (dp un : Nat) (gd : Option (List Code)) (frames : List Env) (base : Heap) (s : Shared) (Q E : Value → Shared → Prop),
    Below (AA dp un gd frames) base frames (hideAll s.heap tabX) → (Mine.hd.heap_1 w.params).In (hideAll s.heap tabX) → Top topProg loose mean mg mb (hideAll s.heap tabX) → Tabs s.heap →
    dp + lv < recursionLimit → un + 8 * lv < cLine → pre s.heap →
    (∀ v h' tk', KeepBut tabX s.heap h' → TabsStep s.heap h' → post s.heap v h' → Q v { s with heap := h', toks := tk' }) →
    wpAny (model PySem.Challenge.rw_rt0087_01.row.prog w) (AA dp un gd frames) (call (.ref f) vals) Q E s

/-- the tables in a ledger; h₁ is the heap at the call. Where a table stands as it stood, its place stands twice -/
def TabPart (h₁ : Heap) (P : Addr) (d : Stmt) (q : Str) (o : Obj) (c : Addr) (oc : Obj) : Prop :=
  (h₁.get? P = some o ∧ c = P ∧ oc = o) ∨ (o = tabObj (full d c) ∧ ∃ vs t, oc.data = .fields vs ∧ vs[1]? = some (.str q t))
abbrev tab4 (o1 : Obj) (c1 : Addr) (oc1 : Obj) (o2 : Obj) (c2 : Addr) (oc2 : Obj) : List (Addr × Obj) := [(37, o1), (c1, oc1), (44, o2), (c2, oc2)]
def TabSt (h₁ : Heap) (o1 : Obj) (c1 : Addr) (oc1 : Obj) (o2 : Obj) (c2 : Addr) (oc2 : Obj) : Prop := TabPart h₁ 37 i2dDef q37 o1 c1 oc1 ∧ TabPart h₁ 44 d2iDef q44 o2 c2 oc2
theorem TabOne.some {P : Addr} {d : Stmt} {q : Str} {h : Heap} (x : TabOne P d q h) : ∃ o, h.get? P = some o := let ⟨_, e, _⟩ := x; ⟨_, e⟩
theorem TabSt.of {h : Heap} (y : Tabs h) : ∃ o1 o2, TabSt h o1 37 o1 o2 44 o2 ∧ LedAt h tabX (tab4 o1 37 o1 o2 44 o2) := by
  obtain ⟨o₁, e₁⟩ := y.1.some
  obtain ⟨o₂, e₂⟩ := y.2.some
  refine ⟨o₁, o₂, ⟨.inl ⟨e₁, rfl, rfl⟩, .inl ⟨e₂, rfl, rfl⟩⟩, fun p hp => ?_⟩
  simp only [tab4, List.mem_cons, List.not_mem_nil, or_false] at hp
  rcases hp with rfl | rfl | rfl | rfl
  · exact ⟨e₁, .tail _ (.head _)⟩
  · exact ⟨e₁, .tail _ (.head _)⟩
  · exact ⟨e₂, .head _⟩
  · exact ⟨e₂, .head _⟩
section
variable {P c : Addr} {d : Stmt} {q : Str} {o oc : Obj} {h₁ h h' : Heap} {L : Addr} {o1 oc1 o2 oc2 : Obj} {c1 c2 : Addr}
theorem code_kept {cc : Addr} (y : Tabs h₁) (F : ∀ b o, (hideAll h₁ tabX).get? b = some o → h.get? b = some o) (c : h₁.CodeRec (.ref cc) q) : h.CodeRec (.ref cc) q := by
  have n1 := y.1.not_code c
  have n2 := y.2.not_code c
  obtain ⟨c₁, oc, vs, t, e1, ho, r⟩ := c
  cases e1
  exact ⟨_, oc, vs, t, rfl, F _ _ (hideAll_get _ ho (by simp; exact ⟨n2, n1⟩)), r⟩
theorem TabPart.one (y : Tabs h₁) (hy : TabOne P d q h₁) (x : TabPart h₁ P d q o c oc) (N : News (hideAll h₁ tabX) L h [(P, o), (c, oc)]) (F : ∀ b o, (hideAll h₁ tabX).get? b = some o → h.get? b = some o) : TabOne P d q h := by
  rcases x with ⟨e, rfl, rfl⟩ | ⟨rfl, vs, t, hd, hv⟩
  · obtain ⟨ps, e', r⟩ := hy
    rw [e] at e'; cases e'
    exact ⟨ps, (N _ (.head _)).1, r.imp id fun ⟨cc, e2, c⟩ => ⟨cc, e2, code_kept y F c⟩⟩
  · exact ⟨_, (N _ (.head _)).1, .inr ⟨c, rfl, c, oc, vs, t, rfl, (N _ (.tail _ (.head _))).1, hd, hv⟩⟩
theorem tab_left (N : News (hideAll h₁ tabX) L h (tab4 o1 c1 oc1 o2 c2 oc2)) : News (hideAll h₁ tabX) L h [(37, o1), (c1, oc1)] := news_sub N (by
  simp only [List.mem_cons, List.not_mem_nil, or_false]
  rintro _ (rfl | rfl)
  · exact .inl rfl
  · exact .inr (.inl rfl))
theorem tab_right (N : News (hideAll h₁ tabX) L h (tab4 o1 c1 oc1 o2 c2 oc2)) : News (hideAll h₁ tabX) L h [(44, o2), (c2, oc2)] := news_sub N (by
  simp only [List.mem_cons, List.not_mem_nil, or_false]
  rintro _ (rfl | rfl)
  · exact .inr (.inr (.inl rfl))
  · exact .inr (.inr (.inr rfl)))
theorem tab_both (N : News (hideAll h₁ tabX) L h [(37, o1), (c1, oc1)]) (N' : News (hideAll h₁ tabX) L h [(44, o2), (c2, oc2)]) : News (hideAll h₁ tabX) L h (tab4 o1 c1 oc1 o2 c2 oc2) := fun p hp => by
  simp only [List.mem_cons, List.not_mem_nil, or_false] at hp
  rcases hp with rfl | rfl | rfl | rfl
  · exact N _ (.head _)
  · exact N _ (.tail _ (.head _))
  · exact N' _ (.head _)
  · exact N' _ (.tail _ (.head _))
theorem TabSt.tabs (y : Tabs h₁) (x : TabSt h₁ o1 c1 oc1 o2 c2 oc2) (N : News (hideAll h₁ tabX) L h (tab4 o1 c1 oc1 o2 c2 oc2)) (F : ∀ b o, (hideAll h₁ tabX).get? b = some o → h.get? b = some o) : Tabs h :=
  ⟨x.1.one y y.1 (tab_left N) F, x.2.one y y.2 (tab_right N) F⟩
theorem TabPart.next (x : TabPart h₁ P d q o c oc) (N : News (hideAll h₁ tabX) L h [(P, o), (c, oc)]) (y : Tabs h) (F : ∀ b o, (hideAll h₁ tabX).get? b = some o → h.get? b = some o) (hL : ∃ o, h.get? L = some o) (k : KeepBut tabX h h') (st : TabStep P d q h h') :
    ∃ o' c' oc', TabPart h₁ P d q o' c' oc' ∧ News (hideAll h₁ tabX) L h' [(P, o'), (c', oc')] ∧ (c' = c ∨ h.get? c' = none) := by
  have zP := N _ (.head _)
  rcases st with e | ⟨cc, e, f, cr⟩
  · refine ⟨o, c, oc, x, fun p hp => ?_, .inl rfl⟩
    rcases x with ⟨_, rfl, rfl⟩ | ⟨rfl, vs, t, hd, hv⟩
    · have z := N p hp
      have : p = (c, oc) := by simp only [List.mem_cons, List.not_mem_nil, or_false, or_self] at hp; exact hp
      subst this
      exact ⟨e.trans z.1, z.2⟩
    · have z := N p hp
      rcases List.mem_cons.mp hp with rfl | hp
      · exact ⟨e.trans z.1, z.2⟩
      · rcases List.mem_singleton.mp hp with rfl
        have cr : h.CodeRec (.ref c) q := ⟨c, oc, vs, t, rfl, z.1, hd, hv⟩
        exact ⟨k _ _ (by simp; exact ⟨y.2.not_code cr, y.1.not_code cr⟩) z.1, z.2⟩
  · obtain ⟨c₁, oc', vs, t, e1, e2, e3, e4⟩ := cr
    cases e1
    refine ⟨_, cc, oc', .inr ⟨rfl, vs, t, e3, e4⟩, fun p hp => ?_, .inr f⟩
    rcases List.mem_cons.mp hp with rfl | hp
    · exact ⟨e, zP.2⟩
    · rcases List.mem_singleton.mp hp with rfl
      refine ⟨e2, ?_, ?_⟩
      · rintro rfl; obtain ⟨o, ho⟩ := hL; rw [f] at ho; cases ho
      · cases q : (hideAll h₁ tabX).get? cc with
        | none => rfl
        | some o => have := F _ _ q; rw [f] at this; cases this
theorem TabPart.step (x : TabPart h₁ P d q o c oc) (N : News (hideAll h₁ tabX) L h [(P, o), (c, oc)]) (hT : Tabs h) : TabStep P d q h₁ h := by
  rcases x with ⟨e, rfl, rfl⟩ | ⟨rfl, vs, t, hd, hv⟩
  · exact .inl ((N _ (.head _)).1.trans e.symm)
  · have z := N (c, oc) (.tail _ (.head _))
    have cr : h.CodeRec (.ref c) q := ⟨c, oc, vs, t, rfl, z.1, hd, hv⟩
    refine .inr ⟨c, (N _ (.head _)).1, ?_, cr⟩
    cases e : h₁.get? c with
    | none => rfl
    | some o => have := hideAll_get tabX e (by simp; exact ⟨hT.2.not_code cr, hT.1.not_code cr⟩); rw [z.2.2] at this; cases this
/-- the end of a call: what a frame's ledger says of the heap at the call -/
theorem leaveT {m : Str → Option Value} (y : Tabs h₁) (F : Fr (hideAll h₁ tabX) L h m) (N : News (hideAll h₁ tabX) L h (tab4 o1 c1 oc1 o2 c2 oc2)) (x : TabSt h₁ o1 c1 oc1 o2 c2 oc2) : KeepBut tabX h₁ h ∧ TabsStep h₁ h := by
  have hT := x.tabs y N F.keep
  exact ⟨fun b o hb e => F.keep _ _ (hideAll_get _ e hb), x.1.step (tab_left N) hT, x.2.step (tab_right N) hT⟩
theorem fresh_at {a : Addr} {o : Obj} {led : List (Addr × Obj)} (N : News (hideAll h₁ tabX) L h led) (hm : (a, o) ∈ led) (hX : a ∉ tabX) : h₁.get? a = none := by
  cases q : h₁.get? a with
  | none => rfl
  | some o' => have := (N _ hm).2.2; rw [hideAll_get tabX q hX] at this; cases this
end
/-- a ledger's tail, and what it is with another tail -/
inductive Tail (T : List (Addr × Obj)) : List (Addr × Obj) → (List (Addr × Obj) → List (Addr × Obj)) → Prop
  | here : Tail T T (fun T' => T')
  | app {l} : (∀ p ∈ l, p.1 ∉ tabX) → Tail T (l ++ T) (fun T' => l ++ T')
  | cons {p l g} : (@Ne Nat p.1 37) → (@Ne Nat p.1 44) → Tail T l g → Tail T (p :: l) (fun T' => p :: g T')
theorem Tail.again {T l : List (Addr × Obj)} {g : List (Addr × Obj) → List (Addr × Obj)} (x : Tail T l g) (T' : List (Addr × Obj)) : Tail T' (g T') g := by
  induction x with
  | here => exact .here
  | app h => exact .app h
  | cons h1 h2 _ ih => exact .cons h1 h2 ih
theorem Tail.split {T l : List (Addr × Obj)} {g : List (Addr × Obj) → List (Addr × Obj)} (x : Tail T l g) : ∃ pre, l = pre ++ T ∧ (∀ T', g T' = pre ++ T') ∧ ∀ p ∈ pre, p.1 ∉ tabX := by
  induction x with
  | here => exact ⟨[], rfl, fun _ => rfl, fun _ h => nomatch h⟩
  | app h => exact ⟨_, rfl, fun _ => rfl, h⟩
  | @cons p l g h1 h2 _ ih =>
    obtain ⟨pre, rfl, h3, h4⟩ := ih
    refine ⟨p :: pre, rfl, fun T' => congrArg (p :: ·) (h3 T'), fun q hq => ?_⟩
    rcases List.mem_cons.mp hq with rfl | hq
    · simp; exact ⟨h2, h1⟩
    · exact h4 q hq
theorem off_fresh {h₀ h : Heap} {L a : Addr} (hf : h.get? a = none) : ∀ {led : List (Addr × Obj)}, News h₀ L h led → LCg.Off1 a led
  | [], _ => trivial
  | p :: _, N => ⟨fun e => (by have := (N p (.head _)).1; rw [show p.1 = a from e, hf] at this; cases this), off_fresh hf fun q hq => N q (.tail _ hq)⟩
section
variable {w : World} {A₀ : Around} {s : Shared} {base h₁ : Heap} {outer : List Env} {env : Env} {L : Addr} {m : Str → Option Value} {loose : List Str} {mean : ExcName → Option Value} {mg mb : Str → Option Value} {Q E : Value → Shared → Prop} {dp un : Nat} {gd : Option (List Code)} {led : List (Addr × Obj)} {g : List (Addr × Obj) → List (Addr × Obj)}
  {o1 oc1 o2 oc2 : Obj} {c1 c2 : Addr}
theorem useT {f : Addr} {vals : List Value} {lv : Nat} {pre : Heap → Prop} {post : Heap → Value → Heap → Prop} (C : CallsT w f vals lv pre post) (B : Below A₀ base outer (hideAll h₁ tabX)) (F : Fr (hideAll h₁ tabX) L s.heap m) (X : (Mine.hd.heap_1 w.params).In (hideAll h₁ tabX)) (N : News (hideAll h₁ tabX) L s.heap led) (y : Tabs h₁) (TS : TabSt h₁ o1 c1 oc1 o2 c2 oc2) (TL : Tail (tab4 o1 c1 oc1 o2 c2 oc2) led g) (Tp : Top topProg loose mean mg mb (hideAll h₁ tabX))
    (hf : env.frame = some L) (hk : env.scope.kind = .function) (hd : dp + lv < recursionLimit) (hu : un + 8 * lv < cLine) (hp : pre s.heap)
    (ret : ∀ v h' tk' o1' c1' oc1' o2' c2' oc2', Fr (hideAll h₁ tabX) L h' m → News (hideAll h₁ tabX) L h' (g (tab4 o1' c1' oc1' o2' c2' oc2')) → TabSt h₁ o1' c1' oc1' o2' c2' oc2' → KeepBut tabX s.heap h' → (c1' = c1 ∨ LCg.Off1 c1' (g [])) → (c2' = c2 ∨ LCg.Off1 c2' (g [])) → post s.heap v h' → Q v { s with heap := h', toks := tk' }) :
    wpAny (model PySem.Challenge.rw_rt0087_01.row.prog w) (AA dp un gd (env :: outer)) (call (.ref f) vals) Q E s := by
  obtain ⟨pr, rfl, hg, hoff⟩ := TL.split
  have NT : News (hideAll h₁ tabX) L s.heap (tab4 o1 c1 oc1 o2 c2 oc2) := news_sub N fun p hp => List.mem_append_right _ hp
  have tabs := TS.tabs y NT F.keep
  have N₁ := tab_left NT
  have N₂ := tab_right NT
  have NX : News (hideAll h₁ tabX) L s.heap [(44, o2), (37, o1)] := fun p hp => by
    rcases List.mem_cons.mp hp with rfl | hp
    · exact N₂ _ (.head _)
    · rcases List.mem_singleton.mp hp with rfl; exact N₁ _ (.head _)
  obtain ⟨B', X', T', _⟩ := ambient (A := AA dp un gd (env :: outer)) (env := env) (outer := outer) (X := tabX) rfl B F NX X Tp rfl hf hk
  refine C loose mean mg mb dp un gd (env :: outer) base s Q E B' X' T' tabs hd hu hp fun v h' tk' k st po => ?_
  have hL : L ∉ tabX := by
    simp only [List.mem_cons, List.not_mem_nil, or_false]
    rintro (rfl | rfl)
    · exact (N₂ _ (.head _)).2.1 rfl
    · exact (N₁ _ (.head _)).2.1 rfl
  have h0X : ∀ b ∈ tabX, (hideAll h₁ tabX).get? b = none := fun b hb => hideAll_none _ hb
  have Lh : ∃ o, s.heap.get? L = some o := let ⟨o, _, _, e, _⟩ := F.ns; ⟨o, e⟩
  obtain ⟨_, _, _, a', n₁, f₁⟩ := TS.1.next N₁ tabs F.keep Lh k st.1
  obtain ⟨_, _, _, b', n₂, f₂⟩ := TS.2.next N₂ tabs F.keep Lh k st.2
  refine ret v h' tk' _ _ _ _ _ _ (fr_but F k hL h0X) ?_ ⟨a', b'⟩ k (f₁.imp id fun f => by rw [hg, List.append_nil]; exact off_fresh f (news_sub N fun p hp => List.mem_append_left _ hp)) (f₂.imp id fun f => by rw [hg, List.append_nil]; exact off_fresh f (news_sub N fun p hp => List.mem_append_left _ hp)) po
  rw [hg]
  intro p hp
  rcases List.mem_append.mp hp with hp | hp
  · exact news_but (news_sub N fun p hp => List.mem_append_left _ hp) k hoff p hp
  · exact tab_both n₁ n₂ p hp
end
end Mine
end
section
open PySem PySem.W PyProof.Rows PySem.Calls
set_option maxRecDepth 100000
namespace Mine
theorem hide_less {h : Heap} {X Y : List Addr} (hs : ∀ b ∈ Y, b ∈ X) : (hideAll h X).StaysIn (hideAll h Y) := fun b o e => by
  have e' := of_hideAll X e
  refine hideAll_get Y e' fun hm => ?_
  rw [hideAll_none X (hs b hm)] at e; cases e
theorem below_more {A : Around} {base h h' : Heap} {frames : List Env} (B : Below A base frames h) (k : h.StaysIn h') : Below A base frames h' :=
  ⟨B.stack, fun b o e => k b o (B.stays b o e), B.frames.of_keeps fun b o e _ => ⟨o, k b o e, rfl⟩⟩
section
variable {M : Program} {w : World} {A : Around} {s : Shared} {Q E : Value → Shared → Prop} {h₀ : Heap} {L : Addr} {m : Str → Option Value} {news : List (Addr × Obj)}
theorem mul_one {l : Addr} {v : Value} {n : Nat} {x : Int} {u : Tok} (F : Fr h₀ L s.heap m) (N : News h₀ L s.heap news) (hm : (l, W.listOf #[v] n) ∈ news) (h0 : 0 ≤ x) (hx : x < 1000)
    (h : ∀ a h', Fr h₀ L h' m → News h₀ L h' ((a, W.listOf (List.replicate x.toNat v).toArray 0) :: news) → (∀ p ∈ news, p.1 < a) → Q (.ref a) { s with heap := h' }) :
    wpAny (model M w) A (binaryOp .Mult (.ref l) (.int x u)) Q E s := by
  refine mul_list F N (N _ hm).1 (by (first | lia | omega)) (by (first | lia | omega)) (by show 1 * x.toNat ≤ _; (first | lia | omega)) fun h' F' N' => h _ h' F' ?_ fun p hp => Heap.lt_size (N p hp).1
  have e : List.foldl (fun x1 x2 => x1 ++ x2) #[] (List.replicate (if (#[v] : Array Value).isEmpty = true then 0 else x.toNat) #[v]) = (List.replicate x.toNat v).toArray := by
    rw [listMul_foldl_if, lm_rep_flat_one]
  rw [e] at N'
  exact N'
end
/-- a goal that the walk is to leave -/
def Held (p : Prop) : Prop := p
theorem held {p : Prop} (h : Held p) : p := h
theorem fdiv_known {M : Program} {w : World} {A : Around} {s : Shared} {Q E : Value → Shared → Prop} {a b k : Int} {t u : Tok} (hk : a.fdiv b = k) (hb : 0 < b) (hs : b < 1000000) (h : ∀ t, Q (.int k t) { s with toks := s.toks + 1 }) :
   wpAny (model M w) A (binaryOp .FloorDiv (.int a t) (.int b u)) Q E s := 
  floordiv_int (by (first | lia | omega)) (by rw [hk]; exact h _) (Or.inl (PyProof.noPylong_small (by (first | lia | omega))))
section
/-- what the call hands back -/
inductive i2dPost (nn k : Nat) (a : Int) (h : Heap) (v : Value) (h' : Heap) : Prop
  | mk (D : Addr) (its : List Value) (n0 : Nat) (f0 : v = .ref D) (f1 : h.get? D = none) (f2 : h'.get? D = some (W.listOf its.toArray n0)) (f3 : IntsAre its (digs nn k a)) : i2dPost nn k a h v h'
theorem ints_rep {t : Tok} : ∀ k : Nat, IntsAre (List.replicate k (.int 0 t)) (List.replicate k 0)
  | 0 => .nil
  | k + 1 => .cons 0 t (ints_rep k)
theorem codeRec_hid {h : Heap} {X : List Addr} {cc : Addr} {q : Str} (n : cc ∉ X) (x : h.CodeRec (.ref cc) q) : (hideAll h X).CodeRec (.ref cc) q := by
  obtain ⟨c, oc, vs, t, e, ho, r⟩ := x
  cases e
  exact ⟨_, oc, vs, t, rfl, hideAll_get _ ho n, r⟩
theorem fresh_of {h h' : Heap} {X : List Addr} {L a : Addr} {o : Obj} {led : List (Addr × Obj)} (N : News (hideAll h X) L h' led) (hm : (a, o) ∈ led) (hX : a ∉ X) : h.get? a = none := by
  cases q : h.get? a with
  | none => rfl
  | some o' => have := (N _ hm).2.2; rw [hideAll_get X q hX] at this; cases this
theorem keep37 {h h' : Heap} {L : Addr} {m : Str → Option Value} (F : Fr (hideAll h [37]) L h' m) : KeepBut tabX h h' := fun b o hb e => F.keep _ _ (hideAll_get _ e (by simp at hb ⊢; exact hb.2))
theorem step37_44 {h h' : Heap} {L : Addr} {m : Str → Option Value} (F : Fr (hideAll h [37]) L h' m) (hT : TabOne 44 d2iDef q44 h) : TabStep 44 d2iDef q44 h h' :=
  let ⟨_, e, _⟩ := hT; .inl ((F.keep _ _ (hideAll_get _ e (by simp))).trans e.symm)
theorem q37_is {L : Addr} {f : Addr} {cd : Value} : qualnameIn (envOfC (Str.ofString "_int2digits") { kind := ScopeKind.function, names := [(Str.ofString "a", NameKind.local), (Str.ofString "n", NameKind.cell), (Str.ofString "a_digits", NameKind.cell), (Str.ofString "inner", NameKind.cell), (Str.ofString "len", NameKind.globalImplicit)], isGenerator := false, isCoroutine := false } L f cd) (Str.ofString "inner") (Str.ofString "inner") = q37 := by
  with_unfolding_all rfl
set_option maxHeartbeats 400000 in
theorem i2d_empty {w : World} (a : Int) (nn k : Nat) (t u : Tok) (h0 : 0 ≤ a) (hn : 1 ≤ nn) (hn' : nn < 10) (hk : ((Builtin.Int.intBits a : Nat) + (nn : Int) - 1).fdiv nn = (k : Int)) (hk5 : k < 6) (ha : a < 2 ^ (nn * k)) {loose : List Str} {mean : ExcName → Option Value} {mg mb : Str → Option Value} {dp un : Nat} {gd : Option (List Code)} {frames : List Env} {base : Heap} {s : Shared} {Q E : Value → Shared → Prop}
    (B : Below (AA dp un gd frames) base frames (hideAll s.heap [37])) (X : (Mine.hd.heap_1 w.params).In (hideAll s.heap [37])) (T : Top topProg loose mean mg mb (hideAll s.heap [37])) (hp : s.heap.get? 37 = some (tabObj #[]))
    (hT2 : TabOne 44 d2iDef q44 s.heap) (hd : dp + 12 < recursionLimit) (hu : un + 8 * 12 < cLine)
    (ret : ∀ v h' tk', KeepBut tabX s.heap h' → TabsStep s.heap h' → i2dPost nn k a s.heap v h' → Q v { s with heap := h', toks := tk' }) :
    wpAny (model PySem.Challenge.rw_rt0087_01.row.prog w) (AA dp un gd frames) (call (.ref 42) [.int a t, .int nn u]) Q E s := by
  w_top off
  k_with_none
  k_with "k_room" => (ktr_room)
  k_with "binaryOp FloorDiv int int" => (((refine fdiv_known (by assumption) (by assumption) (by assumption) ?_); intro _; try dsimp only))
  k_with "binaryOp Mult ref int" => (((refine' mul_one ?k1 ?k2 ?k3 ?k4 ?k5 ?_; (case k1 => k_asm); (case k2 => k_asm); (case k3 => k_mem); (case k4 => (first | lia | omega)); (case k5 => (first | lia | omega))); intro _ _ _ _ l1m; (try k_lt l1m); (try k_sweep); revert l1m; intro _))
  k_with "call builtin:len" => ((refine kun_lenL (News.isList (by k_asm) (by k_mem)) (by simp; rfl) (by (first | lia | omega)) ?_))
  k_with "call ref" => ((refine held (p := wpAny _ _ (PySem.call (Value.ref _) _) _ _ _) ?_))
  k_with "exec Assign" => k_fold
  k_with "exec If" => k_fold
  k_with "exec Expr" => k_fold
  k_with "exec AugAssign" => k_fold
  k_with "exec Return some" => k_fold
  have CD := cd41 X
  have hnp : (0 : Int) < nn := by (first | lia | omega)
  have hns : (nn : Int) < 1000000 := by (first | lia | omega)
  have hl : LedAt s.heap [37] [(37, tabObj #[])] := fun p hp' => by rcases List.mem_singleton.mp hp' with rfl; exact ⟨hp, .head _⟩
  revert X; k_fill; intro X
  refine' enterTC (binds := [(Str.ofString "a", .int a t), (Str.ofString "n", .int nn u)]) (by assumption) (by assumption) (by assumption) (by assumption) ?k6 ?k7 ?k8 ?k9 ?kB ?kD ?_ ?c2 ?c3 ?c4
  (case k6 => k_dflt k_is)
  (case k7 => k_dflt k_is)
  (case k8 => exact room0 hd)
  (case k9 => exact BindsTo.of_eq rfl)
  (case kB => exact rfl)
  (case kD => decide +kernel)
  (case c2 => exact rfl); (case c3 => exact rfl); (case c4 => exact rfl)
  intro L h' tk cells F' N' Y' l1
  replace F' := fr_map (m' := fun y => if y = Str.ofString "a" then some (.int a t) else none) F' (by with_unfolding_all rfl)
  obtain ⟨o1, o2, o3, hE, d1, d2, d3⟩ := cells3 Y' (v₁ := none) (v₂ := none) (v₃ := some (.int nn u)) (by with_unfolding_all rfl) (by with_unfolding_all rfl) (by with_unfolding_all rfl)
  subst hE; clear Y'
  (try k_lt l1); (try simp only [List.cons_append, List.nil_append] at N')
  try dsimp only
  try k_fold
  k_steps
  · rename_i l6 h1 lt1 td D h2 lt2 h3 oD dD f c' oc vs t' ct' dc' h4 tk4 e1 e2 lt3 lt4 h5 oI F5 N5 dI _ _ hane
    clear hl
    simp only [q37_is] at N5 e2
    have NL := N5 (f, fnMade (Str.ofString "inner") q37 (paramsOf i2dDef) (bodyOf i2dDef) (scopeOf i2dDef) [(Str.ofString "n", L+1), (Str.ofString "inner", L+1+1+1), (Str.ofString "a_digits", L+1+1)] dc' ((mg (Str.ofString "__name__")).getD .none) c' ct') (List.Mem.head _)
    have NM := N5 (D, W.listOf (List.replicate k (.int 0 _)).toArray 0) (by k_mem)
    have hkp : 1 ≤ k := by
      rcases Nat.eq_zero_or_pos k with rfl | h
      · rw [Nat.mul_zero] at ha; exact absurd (Int.lt_of_lt_of_le ha (by decide : (2:Int)^0 ≤ 1)) (by (first | lia | omega))
      · exact h
    have g1 : @Ne Nat D f := by (first | lia | omega)
    have g3 : @Ne Nat D (L + 1) := by (first | lia | omega)
    have g4 : @Ne Nat D (L + 1 + 1 + 1) := by (first | lia | omega)
    have g5 : @Ne Nat D (L + 1 + 1) := by (first | lia | omega)
    have C := inner_c (w := w) (qual := q37) (doc := dc') (pm := ((mg (Str.ofString "__name__")).getD .none)) (ctv := ct') (D := D) (f := f) (c' := c') (cn := L + 1) (ci := L + 1 + 1 + 1) (cd := L + 1 + 1) (n0 := 0) (nn := nn) d3 dI dD hn' g1 g3 g4 g5 k hkp hk5
    refine use_inner C B F5 X _ [(c', oc), (37, tabObj (#[] ++ #[rawInt 35, rawInt 4, .ref c']))] N5 (its := List.replicate k (.int 0 _)) (List.forall_mem_cons.mpr ⟨by k_mem, List.forall_mem_cons.mpr ⟨List.Mem.head _, by lcg_sub⟩⟩) ?_ ?_ T rfl rfl ?_ ⟨_, d3⟩ ⟨_, dI⟩ ⟨_, dD⟩ (ints_rep k) (by decide) (by simp) (by simp) (by simp; (first | lia | omega)) h0 ha g1 g3 g4 g5 (by show dp + 1 + k < _; (first | lia | omega)) (by show un + 3 + 8 * k < _; (first | lia | omega)) ?_
    · lcg_sub
    · k_all
    · exact codeRec_news N5 (by k_mem) e1 e2
    intro h6 tk6 its6 F6 N6 hi6
    k_steps
    show Q (.ref D) _
    refine ret _ _ _ (keep37 F6) ⟨.inr ⟨c', (N6 (37, tabObj (#[] ++ #[rawInt 35, rawInt 4, .ref c'])) (by k_mem)).1, fresh_of N6 (List.mem_append_right _ (.head _)) (by simp; exact neN (by (first | lia | omega))), codeRec_news N6 (List.mem_append_right _ (.head _)) e1 e2⟩, step37_44 F6 hT2⟩ ⟨D, its6, 0, rfl, fresh_of N6 (.head _) (by simp; exact neN (by (first | lia | omega))), (N6 _ (.head _)).1, ?_⟩
    rw [show Int.toNat 0 = 0 from rfl, putAt_all (by rw [digs_length]; simp)] at hi6
    exact hi6
  · rename_i l6 h1 lt1 td D h2 lt2 h3 oD dD f c' oc vs t' ct' dc' h4 tk4 e1 e2 lt3 lt4 h5 oI F5 N5 dI _ _ hane
    simp only [q37_is] at N5 e2
    have hk0 : k = 0 := by
      subst hane
      rw [show Builtin.Int.intBits 0 = 0 from rfl] at hk
      have : ((0 : Nat) + (nn : Int) - 1).fdiv nn = 0 := by
        rw [Int.fdiv_eq_ediv_of_nonneg _ (by (first | lia | omega))]; exact Int.ediv_eq_zero_of_lt (by (first | lia | omega)) (by (first | lia | omega))
      (first | lia | omega)
    subst hk0
    show Q (.ref D) _
    refine ret _ _ _ (keep37 F5) ⟨.inr ⟨c', (N5 (37, tabObj (#[] ++ #[rawInt 35, rawInt 4, .ref c'])) (by k_mem)).1, fresh_of N5 (o := oc) (by k_mem) (by simp; exact neN (by (first | lia | omega))), codeRec_news N5 (by k_mem) e1 e2⟩, step37_44 F5 hT2⟩ ⟨D, [], 0, rfl, fresh_of N5 (o := W.listOf (List.replicate 0 (.int 0 _)).toArray 0) (by k_mem) (by simp; exact neN (by (first | lia | omega))), (N5 (D, W.listOf (List.replicate 0 (.int 0 _)).toArray 0) (by k_mem)).1, .nil⟩
set_option maxHeartbeats 400000 in
theorem i2d_full {w : World} (a : Int) (nn k : Nat) (t u : Tok) (h0 : 0 ≤ a) (hn : 1 ≤ nn) (hn' : nn < 10) (hk : ((Builtin.Int.intBits a : Nat) + (nn : Int) - 1).fdiv nn = (k : Int)) (hk5 : k < 6) (ha : a < 2 ^ (nn * k)) {loose : List Str} {mean : ExcName → Option Value} {mg mb : Str → Option Value} {dp un : Nat} {gd : Option (List Code)} {frames : List Env} {base : Heap} {s : Shared} {Q E : Value → Shared → Prop}
    (B : Below (AA dp un gd frames) base frames (hideAll s.heap [37])) (X : (Mine.hd.heap_1 w.params).In (hideAll s.heap [37])) (T : Top topProg loose mean mg mb (hideAll s.heap [37])) (cc : Addr) (hp : s.heap.get? 37 = some (tabObj #[rawInt 35, rawInt 4, .ref cc])) (hcc : s.heap.CodeRec (.ref cc) q37)
    (hT2 : TabOne 44 d2iDef q44 s.heap) (hd : dp + 12 < recursionLimit) (hu : un + 8 * 12 < cLine)
    (ret : ∀ v h' tk', KeepBut tabX s.heap h' → TabsStep s.heap h' → i2dPost nn k a s.heap v h' → Q v { s with heap := h', toks := tk' }) :
    wpAny (model PySem.Challenge.rw_rt0087_01.row.prog w) (AA dp un gd frames) (call (.ref 42) [.int a t, .int nn u]) Q E s := by
  w_top off
  k_with_none
  k_with "k_room" => (ktr_room)
  k_with "binaryOp FloorDiv int int" => (((refine fdiv_known (by assumption) (by assumption) (by assumption) ?_); intro _; try dsimp only))
  k_with "binaryOp Mult ref int" => (((refine' mul_one ?k1 ?k2 ?k3 ?k4 ?k5 ?_; (case k1 => k_asm); (case k2 => k_asm); (case k3 => k_mem); (case k4 => (first | lia | omega)); (case k5 => (first | lia | omega))); intro _ _ _ _ l1m; (try k_lt l1m); (try k_sweep); revert l1m; intro _))
  k_with "call builtin:len" => ((refine kun_lenL (News.isList (by k_asm) (by k_mem)) (by simp; rfl) (by (first | lia | omega)) ?_))
  k_with "call ref" => ((refine held (p := wpAny _ _ (PySem.call (Value.ref _) _) _ _ _) ?_))
  k_with "exec Assign" => k_fold
  k_with "exec If" => k_fold
  k_with "exec Expr" => k_fold
  k_with "exec AugAssign" => k_fold
  k_with "exec Return some" => k_fold
  have CD := cd41 X
  have hcn : cc ≠ 37 := TabOne.not_code (P := 37) (d := i2dDef) (q := q37) ⟨_, hp, .inr ⟨cc, rfl, hcc⟩⟩ hcc
  have hnp : (0 : Int) < nn := by (first | lia | omega)
  have hns : (nn : Int) < 1000000 := by (first | lia | omega)
  have hl : LedAt s.heap [37] [(37, tabObj #[rawInt 35, rawInt 4, .ref cc])] := fun p hp' => by rcases List.mem_singleton.mp hp' with rfl; exact ⟨hp, .head _⟩
  revert X; k_fill; intro X
  refine' enterTC (binds := [(Str.ofString "a", .int a t), (Str.ofString "n", .int nn u)]) (by assumption) (by assumption) (by assumption) (by assumption) ?k6 ?k7 ?k8 ?k9 ?kB ?kD ?_ ?c2 ?c3 ?c4
  (case k6 => k_dflt k_is)
  (case k7 => k_dflt k_is)
  (case k8 => exact room0 hd)
  (case k9 => exact BindsTo.of_eq rfl)
  (case kB => exact rfl)
  (case kD => decide +kernel)
  (case c2 => exact rfl); (case c3 => exact rfl); (case c4 => exact rfl)
  intro L h' tk cells F' N' Y' l1
  replace F' := fr_map (m' := fun y => if y = Str.ofString "a" then some (.int a t) else none) F' (by with_unfolding_all rfl)
  obtain ⟨o1, o2, o3, hE, d1, d2, d3⟩ := cells3 Y' (v₁ := none) (v₂ := none) (v₃ := some (.int nn u)) (by with_unfolding_all rfl) (by with_unfolding_all rfl) (by with_unfolding_all rfl)
  subst hE; clear Y'
  (try k_lt l1); (try simp only [List.cons_append, List.nil_append] at N')
  try dsimp only
  try k_fold
  k_steps
  · rename_i l6 h1 lt1 td D h2 lt2 h3 oD dD f ct' dc' h4 tk4 lt3 h5 oI F5 N5 dI _ _ hane
    clear hl
    simp only [q37_is] at N5
    have hcg : (hideAll s.heap [37]).CodeRec (.ref cc) q37 := codeRec_hid (by simpa using hcn) hcc
    have hkp : 1 ≤ k := by
      rcases Nat.eq_zero_or_pos k with rfl | h
      · rw [Nat.mul_zero] at ha; exact absurd (Int.lt_of_lt_of_le ha (by decide : (2:Int)^0 ≤ 1)) (by (first | lia | omega))
      · exact h
    have g1 : @Ne Nat D f := by (first | lia | omega)
    have g3 : @Ne Nat D (L + 1) := by (first | lia | omega)
    have g4 : @Ne Nat D (L + 1 + 1 + 1) := by (first | lia | omega)
    have g5 : @Ne Nat D (L + 1 + 1) := by (first | lia | omega)
    have C := inner_c (w := w) (qual := q37) (doc := dc') (pm := ((mg (Str.ofString "__name__")).getD .none)) (ctv := ct') (D := D) (f := f) (c' := cc) (cn := L + 1) (ci := L + 1 + 1 + 1) (cd := L + 1 + 1) (n0 := 0) (nn := nn) d3 dI dD hn' g1 g3 g4 g5 k hkp hk5
    refine use_inner C B F5 X _ [(37, tabObj #[rawInt 35, rawInt 4, .ref cc])] N5 (its := List.replicate k (.int 0 _)) (List.forall_mem_cons.mpr ⟨by k_mem, List.forall_mem_cons.mpr ⟨List.Mem.head _, by lcg_sub⟩⟩) ?_ ?_ T rfl rfl ?_ ⟨_, d3⟩ ⟨_, dI⟩ ⟨_, dD⟩ (ints_rep k) (by decide) (by simp) (by simp) (by simp; (first | lia | omega)) h0 ha g1 g3 g4 g5 (by show dp + 1 + k < _; (first | lia | omega)) (by show un + 3 + 8 * k < _; (first | lia | omega)) ?_
    · lcg_sub
    · k_all
    · exact hcg.keeps F5.keep
    intro h6 tk6 its6 F6 N6 hi6
    k_steps
    show Q (.ref D) _
    refine ret _ _ _ (keep37 F6) ⟨.inl ((N6 (37, tabObj #[rawInt 35, rawInt 4, .ref cc]) (List.mem_append_right _ (.head _))).1.trans hp.symm), step37_44 F6 hT2⟩ ⟨D, its6, 0, rfl, fresh_of N6 (.head _) (by simp; exact neN (by (first | lia | omega))), (N6 _ (.head _)).1, ?_⟩
    rw [show Int.toNat 0 = 0 from rfl, putAt_all (by rw [digs_length]; simp)] at hi6
    exact hi6
  · rename_i l6 h1 lt1 td D h2 lt2 h3 oD dD f ct' dc' h4 tk4 lt3 h5 oI F5 N5 dI _ _ hane
    simp only [q37_is] at N5
    have hcg : (hideAll s.heap [37]).CodeRec (.ref cc) q37 := codeRec_hid (by simpa using hcn) hcc
    have hk0 : k = 0 := by
      subst hane
      rw [show Builtin.Int.intBits 0 = 0 from rfl] at hk
      have : ((0 : Nat) + (nn : Int) - 1).fdiv nn = 0 := by
        rw [Int.fdiv_eq_ediv_of_nonneg _ (by (first | lia | omega))]; exact Int.ediv_eq_zero_of_lt (by (first | lia | omega)) (by (first | lia | omega))
      (first | lia | omega)
    subst hk0
    show Q (.ref D) _
    refine ret _ _ _ (keep37 F5) ⟨.inl ((N5 (37, tabObj #[rawInt 35, rawInt 4, .ref cc]) (by k_mem)).1.trans hp.symm), step37_44 F5 hT2⟩ ⟨D, [], 0, rfl, fresh_of N5 (o := W.listOf (List.replicate 0 (.int 0 _)).toArray 0) (by k_mem) (by simp; exact neN (by (first | lia | omega))), (N5 (D, W.listOf (List.replicate 0 (.int 0 _)).toArray 0) (by k_mem)).1, .nil⟩
theorem i2d_c {w : World} (a : Int) (nn k : Nat) (t u : Tok) (h0 : 0 ≤ a) (hn : 1 ≤ nn) (hn' : nn < 10) (hk : ((Builtin.Int.intBits a : Nat) + (nn : Int) - 1).fdiv nn = (k : Int)) (hk5 : k < 6) (ha : a < 2 ^ (nn * k)) : CallsT w 42 [.int a t, .int nn u] 12 (fun _ => True) (i2dPost nn k a) := by
  intro loose mean mg mb dp un gd frames base s Q E B X T hT hd hu _ ret
  have hl37 : (hideAll s.heap tabX).StaysIn (hideAll s.heap [37]) := hide_less (by simp)
  obtain ⟨⟨ps, hp, hps⟩, hT2⟩ := hT
  rcases hps with rfl | ⟨cc, rfl, hcc⟩
  · exact i2d_empty a nn k t u h0 hn hn' hk hk5 ha (below_more B hl37) (X.keeps hl37) (T.keeps hl37) hp hT2 hd hu ret
  · exact i2d_full a nn k t u h0 hn hn' hk hk5 ha (below_more B hl37) (X.keeps hl37) (T.keeps hl37) cc hp hcc hT2 hd hu ret
end
end Mine
end
section
open PySem PySem.W PyProof.Rows PySem.Calls
set_option maxRecDepth 100000
namespace Mine
abbrev innerX2 (f cn ci cd : Addr) : List Addr := [f, cn, ci, cd]
abbrev innerLed2 (qual : Str) (doc pm ctv : Value) (f c' cn ci cd : Addr) (on oi od : Obj) : List (Addr × Obj) :=
  [(f, fnMade (Str.ofString "inner") qual (paramsOf d2iDef) (bodyOf d2iDef) (scopeOf d2iDef) [(Str.ofString "n", cn), (Str.ofString "inner", ci), (Str.ofString "digits", cd)] doc pm c' ctv),
   (cn, on), (ci, oi), (cd, od)]
def InnerD (w : World) (qual : Str) (doc pm ctv : Value) (D f c' cn ci cd : Addr) (on oi od : Obj) (nn : Nat) (its : List Value) (ns : List Int) (m : Nat) : Prop :=
  ∀ (loose : List Str) (mean : ExcName → Option Value) (mg mb : Str → Option Value) (dp un : Nat) (gd : Option (List Code)) (frames : List Env) (base : Heap) (s : Shared) (Q E : Value → Shared → Prop) (lo hi : Int) (t2 t3 : Tok),
   Below (AA dp un gd frames) base frames (hideAll s.heap (innerX2 f cn ci cd)) → (Mine.hd.heap_1 w.params).In (hideAll s.heap (innerX2 f cn ci cd)) → Top topProg loose mean mg mb (hideAll s.heap (innerX2 f cn ci cd)) →
   LedAt s.heap (innerX2 f cn ci cd) (innerLed2 qual doc pm ctv f c' cn ci cd on oi od) → (hideAll s.heap (innerX2 f cn ci cd)).CodeRec (.ref c') qual → (hideAll s.heap (innerX2 f cn ci cd)).IsList D its.toArray →
   0 ≤ lo → hi = lo + m → hi ≤ ns.length → 
   dp + m < recursionLimit → un + 8 * m < cLine →
   (∀ h' tk' t', s.heap.StaysIn h' → Q (.int (undig nn ((ns.drop lo.toNat).take m)) t') { s with heap := h', toks := tk' }) →
   wpAny (model PySem.Challenge.rw_rt0087_01.row.prog w) (AA dp un gd frames) (call (.ref f) [.int lo t2, .int hi t3]) Q E s
theorem off_X2 {h : Heap} {qual : Str} {doc pm ctv : Value} {f c' cn ci cd : Addr} {on oi od : Obj} (hl : LedAt h (innerX2 f cn ci cd) (innerLed2 qual doc pm ctv f c' cn ci cd on oi od))
    (q2 : ∃ v, on.data = .cell v) (q3 : ∃ v, oi.data = .cell v) (q4 : ∃ v, od.data = .cell v) {a : Addr} {o : Obj} (ho : h.get? a = some o) (n1 : ∀ v, o.data ≠ .cell v) (n2 : ∀ fd, o.data ≠ .func fd) : a ∉ innerX2 f cn ci cd := by
  intro hm
  obtain ⟨_, q2⟩ := q2; obtain ⟨_, q3⟩ := q3; obtain ⟨_, q4⟩ := q4
  simp only [List.mem_cons, List.not_mem_nil, or_false] at hm
  rcases hm with rfl | rfl | rfl | rfl
  · have z := (hl _ (.head _)).1; rw [ho] at z; cases z; exact n2 _ rfl
  · have z := (hl _ (.tail _ (.head _))).1; rw [ho] at z; cases z; exact n1 _ q2
  · have z := (hl _ (.tail _ (.tail _ (.head _)))).1; rw [ho] at z; cases z; exact n1 _ q3
  · have z := (hl _ (.tail _ (.tail _ (.tail _ (.head _))))).1; rw [ho] at z; cases z; exact n1 _ q4
theorem codeRec_hide2 {h : Heap} {qual : Str} {doc pm ctv : Value} {f c' cn ci cd : Addr} {on oi od : Obj} (hl : LedAt h (innerX2 f cn ci cd) (innerLed2 qual doc pm ctv f c' cn ci cd on oi od)) (hcd : h.CodeRec (.ref c') qual)
    (q2 : ∃ v, on.data = .cell v) (q3 : ∃ v, oi.data = .cell v) (q4 : ∃ v, od.data = .cell v) : (hideAll h (innerX2 f cn ci cd)).CodeRec (.ref c') qual := by
  obtain ⟨c, oc, vs, t, e, ho, hd, hv⟩ := hcd
  cases e
  exact ⟨c', oc, vs, t, rfl, hideAll_get _ ho (off_X2 hl q2 q3 q4 ho (fun v e => by rw [hd] at e; cases e) (fun v e => by rw [hd] at e; cases e)), hd, hv⟩
theorem list_hide2 {h : Heap} {qual : Str} {doc pm ctv : Value} {D f c' cn ci cd : Addr} {on oi od : Obj} {its : Array Value} (hl : LedAt h (innerX2 f cn ci cd) (innerLed2 qual doc pm ctv f c' cn ci cd on oi od)) (hD : h.IsList D its)
    (q2 : ∃ v, on.data = .cell v) (q3 : ∃ v, oi.data = .cell v) (q4 : ∃ v, od.data = .cell v) : (hideAll h (innerX2 f cn ci cd)).IsList D its := by
  obtain ⟨o, ho, hc, n, hd⟩ := hD
  exact ⟨o, hideAll_get _ ho (off_X2 hl q2 q3 q4 ho (fun v e => by rw [hd] at e; cases e) (fun v e => by rw [hd] at e; cases e)), hc, n, hd⟩
section
variable {w : World} {A₀ : Around} {s : Shared} {base h₀ : Heap} {outer : List Env} {env : Env} {L : Addr} {m : Str → Option Value} {loose : List Str} {mean : ExcName → Option Value} {mg mb : Str → Option Value} {Q E : Value → Shared → Prop} {dp un : Nat} {gd : Option (List Code)}
  {qual : Str} {doc pm ctv : Value} {D f c' cn ci cd : Addr} {on oi od : Obj} {its : List Value} {ns : List Int} {nn k : Nat} {lo hi : Int} {t2 t3 : Tok}
theorem use_innerD (C : InnerD w qual doc pm ctv D f c' cn ci cd on oi od nn its ns k) (B : Below A₀ base outer h₀) (F : Fr h₀ L s.heap m) (X : (Mine.hd.heap_1 w.params).In h₀) (led : List (Addr × Obj)) (N : News h₀ L s.heap led) (hsub : ∀ p ∈ innerLed2 qual doc pm ctv f c' cn ci cd on oi od, p ∈ led) (T : Top topProg loose mean mg mb h₀)
    (hf : env.frame = some L) (hk : env.scope.kind = .function) (hcd : s.heap.CodeRec (.ref c') qual) (hDl : s.heap.IsList D its.toArray) (q2 : ∃ v, on.data = .cell v) (q3 : ∃ v, oi.data = .cell v) (q4 : ∃ v, od.data = .cell v) (hlo : 0 ≤ lo) (hhi : hi = lo + k) (hh : hi ≤ ns.length)
    (hd : dp + k < recursionLimit) (hu : un + 8 * k < cLine)
    (ret : ∀ h' tk' t', Fr h₀ L h' m → News h₀ L h' led → Q (.int (undig nn ((ns.drop lo.toNat).take k)) t') { s with heap := h', toks := tk' }) :
    wpAny (model PySem.Challenge.rw_rt0087_01.row.prog w) (AA dp un gd (env :: outer)) (call (.ref f) [.int lo t2, .int hi t3]) Q E s := by
  obtain ⟨B', X', T', hl⟩ := ambient (A := AA dp un gd (env :: outer)) (env := env) (outer := outer) rfl B F (news_sub N hsub) X T rfl hf hk
  exact C loose mean mg mb dp un gd (env :: outer) base s Q E lo hi t2 t3 B' X' T' hl (codeRec_hide2 hl hcd q2 q3 q4) (list_hide2 hl hDl q2 q3 q4) hlo hhi hh hd hu fun h' tk' t' k => ret h' tk' t' (fr_stays F k) (news_stays N k)
end
theorem stays_of {X : List Addr} {h h' : Heap} {L : Addr} {m : Str → Option Value} {led led' : List (Addr × Obj)} (hl : LedAt h X led) (hX : X = led.map (·.1)) (F : Fr (hideAll h X) L h' m) (N : News (hideAll h X) L h' led') (hs : ∀ p ∈ led, p ∈ led') : h.StaysIn h' := fun b o e => by
  by_cases hb : b ∈ X
  · rw [hX] at hb
    obtain ⟨p, hp, rfl⟩ := List.mem_map.mp hb
    have := (hl p hp).1
    rw [e] at this; cases this
    exact (N _ (hs p hp)).1
  · exact F.keep b o (hideAll_get X e hb)
section
set_option maxHeartbeats 400000 in
theorem innerD_c {w : World} {qual : Str} {doc pm ctv : Value} {D f c' cn ci cd : Addr} {on oi od : Obj} {nn : Nat} {its : List Value} {ns : List Int} {u : Tok} (e1 : on.data = .cell (some (.int nn u))) (e2 : oi.data = .cell (some (.ref f))) (e3 : od.data = .cell (some (.ref D)))
   (hia : IntsAre its ns) (hnl : (ns.length : Int) < 1000) (hdg : Digits nn ns) (hnn : nn < 10) : ∀ (m : Nat), 1 ≤ m → m < 6 → InnerD w qual doc pm ctv D f c' cn ci cd on oi od nn its ns m := by
  w_top off
  k_with_none
  k_with "k_room" => (ktr_room)
  k_with "call ref" => ((refine held (p := wpAny _ _ (PySem.call (Value.ref _) _) _ _ _) ?_))
  k_with "binaryOp RShift int int" => ((refine rsh_mid hm1 hm6 hhi (by assumption) ?_; intro _ _ _ _ _ _ _ _ _ _; try dsimp only))
  k_with "binaryOp Mult int int" => ((refine mul_mid (by assumption) hnn ?_; intro _ _ _ _ _; try dsimp only))
  k_with "binaryOp LShift int int" => ((refine lsh_gen (by assumption) (by assumption) (by assumption) (by assumption) ?_; intro _ _ _; try dsimp only))
  k_with "subscriptTail" => ((refine item_anyK (stays_list (Fr.keep (by k_asm)) (by assumption)) (by assumption) (by assumption) (by (first | lia | omega)) (by (first | lia | omega)) ?_ (by with_unfolding_all rfl); intro _))
  intro m
  induction m using Nat.strongRecOn with
  | ind m ih =>
  intro hm1 hm6 loose mean mg mb dp un gd frames base s Q E lo hi t2 t3 B X T hl hcr hDl hlo hhi hh hd hu ret
  have CD := cd41 X
  revert X; k_fill; intro X
  refine' enterF (binds := [(Str.ofString "L", .int lo t2), (Str.ofString "R", .int hi t3)]) (by assumption) (by assumption) (by assumption) (hl _ (List.Mem.head _)).1 (hcr.keeps fun _ _ e => of_hideAll _ e) ?k8 ?k9 ?kB ?_ ?c2 ?c3 ?c4 ?c5
  (case k8 => exact room0 hd)
  (case k9 => exact BindsTo.of_eq rfl)
  (case kB => exact locs (by rfl))
  (case c5 => decide)
  (case c2 => exact rfl); (case c3 => exact rfl); (case c4 => exact rfl)
  intro L h' F' N' l1
  conv in (execs _ _) => arg 1; whnf
  (try k_lt l1)
  try dsimp only
  try k_fold
  k_steps
  · rename_i hq td
    have hm : m = 1 := by (first | lia | omega)
    subst hm
    show Q (.int (ns.getD lo.toNat 0) td) _
    rw [← undig_one (n := nn) (by (first | lia | omega))]
    exact ret _ _ _ (stays_of hl rfl F' N' fun _ h => h)
  · rename_i hne _ k1 k2 tm1 hhk hkk k1m k2m k11 k21 k16 h1 _ sh tm2 hs hsh0 hsh1 h2 F4 N4
    have hle : lo + k1 ≤ hi := by rw [hhk]; exact Int.le_add_of_nonneg_right (Int.natCast_nonneg _)
    have hmn := mid_nat hlo k1
    have hnat2 : lo.toNat + k1 + k2 ≤ ns.length := by
      have := Int.toNat_le.mpr hh
      rw [hhk, mid_nat (Int.add_nonneg hlo (Int.natCast_nonneg _)), hmn] at this
      exact this
    refine use_innerD (ih k2 k2m k21 (Nat.lt_trans k2m hm6)) B F4 X _ N4 (fun _ h => h) T rfl rfl (hcr.keeps F4.keep) (stays_list F4.keep hDl) ⟨_, e1⟩ ⟨_, e2⟩ ⟨_, e3⟩ (Int.add_nonneg hlo (Int.natCast_nonneg _)) hhk hh (room_in hd k2m) (unit_in hu k2m) ?_
    intro h5 tk5 t5 F5 N5
    generalize hv1 : undig nn ((ns.drop (lo + (k1 : Int)).toNat).take k2) = v1
    have b1 := undig_bounds (hdg.sub (lo + (k1 : Int)).toNat k2)
    rw [hv1] at b1
    have b10 : 0 ≤ v1 := b1.1
    have b11 : v1 < 2 ^ 60 := Int.lt_of_lt_of_le b1.2 (by
      have h1 : ((ns.drop (lo + (k1 : Int)).toNat).take k2).length ≤ 6 := by rw [List.length_take]; exact Nat.le_trans (Nat.min_le_left _ _) (Nat.le_of_lt (Nat.lt_trans k2m hm6))
      have : nn * ((ns.drop (lo + (k1 : Int)).toNat).take k2).length ≤ 60 := Nat.le_trans (Nat.mul_le_mul (Nat.le_of_lt hnn) h1) (by decide)
      exact_mod_cast Nat.pow_le_pow_right (by decide) this)
    k_steps
    rename_i sl tm4 hsl
    refine use_innerD (ih k1 k1m k11 k16) B F5 X _ N5 (fun _ h => h) T rfl rfl (hcr.keeps F5.keep) (stays_list F5.keep hDl) ⟨_, e1⟩ ⟨_, e2⟩ ⟨_, e3⟩ hlo rfl (Int.le_trans hle hh) (room_in hd k1m) (unit_in hu k1m) ?_
    intro h6 tk6 t6 F6 N6
    k_steps
    rw [hs, ← hv1, hmn] at hsl
    have hsum := undig_two (n := nn) (ns := ns) (lo := lo.toNat) (i := k1) (j := k2) (Nat.le_trans (Nat.le_add_right _ _) hnat2)
    rw [← hsl, hkk] at hsum
    rw [hsum]
    exact ret _ _ _ (stays_of hl rfl F6 N6 fun _ h => h)
end
end Mine
end
section
open PySem PySem.W PyProof.Rows PySem.Calls
set_option maxRecDepth 100000
namespace Mine
theorem q44_is {L : Addr} {f : Addr} {cd : Value} : qualnameIn (envOfC (Str.ofString "_digits2int") { kind := ScopeKind.function, names := [(Str.ofString "digits", NameKind.cell), (Str.ofString "n", NameKind.cell), (Str.ofString "inner", NameKind.cell), (Str.ofString "len", NameKind.globalImplicit)], isGenerator := false, isCoroutine := false } L f cd) (Str.ofString "inner") (Str.ofString "inner") = q44 := by
  with_unfolding_all rfl
theorem keep44 {h h' : Heap} {L : Addr} {m : Str → Option Value} (F : Fr (hideAll h [44]) L h' m) : KeepBut tabX h h' := fun b o hb e => F.keep _ _ (hideAll_get _ e (by simp at hb ⊢; exact hb.1))
theorem step44_37 {h h' : Heap} {L : Addr} {m : Str → Option Value} (F : Fr (hideAll h [44]) L h' m) (hT : TabOne 37 i2dDef q37 h) : TabStep 37 i2dDef q37 h h' :=
  let ⟨_, e, _⟩ := hT; .inl ((F.keep _ _ (hideAll_get _ e (by simp))).trans e.symm)
theorem truthy_has {M : Program} {w : World} {A : Around} {s : Shared} {E : Value → Shared → Prop} {Q : Bool → Shared → Prop} {l : Addr} {its : List Value} (hl : s.heap.IsList l its.toArray) (hn : its ≠ []) (hz : its.length < 1000) (h : Q true { s with toks := s.toks + 1 + 1 }) : wpAny (model M w) A (truthy (.ref l)) Q E s :=
  wpAny_truthy_list hl (by rw [List.size_toArray]; (first | lia | omega)) (by rw [show its.toArray.isEmpty = false by simpa using hn]; exact h)
theorem truthy_hasnt {M : Program} {w : World} {A : Around} {s : Shared} {E : Value → Shared → Prop} {Q : Bool → Shared → Prop} {l : Addr} {its : List Value} (hl : s.heap.IsList l its.toArray) (hn : its = []) (h : Q false { s with toks := s.toks + 1 + 1 }) : wpAny (model M w) A (truthy (.ref l)) Q E s :=
  wpAny_truthy_list hl (by subst hn; decide) (by subst hn; exact h)
section
set_option maxHeartbeats 400000 in
theorem d2i_empty {w : World} {D : Addr} {its : List Value} {ns : List Int} (nn : Nat) (u : Tok) (hia : IntsAre its ns) (hdg : Digits nn ns) (hl6 : ns.length < 6) (hn' : nn < 10) {loose : List Str} {mean : ExcName → Option Value} {mg mb : Str → Option Value} {dp un : Nat} {gd : Option (List Code)} {frames : List Env} {base : Heap} {s : Shared} {Q E : Value → Shared → Prop}
    (B : Below (AA dp un gd frames) base frames (hideAll s.heap [44])) (X : (Mine.hd.heap_1 w.params).In (hideAll s.heap [44])) (T : Top topProg loose mean mg mb (hideAll s.heap [44])) (hp : s.heap.get? 44 = some (tabObj #[]))
    (hDl : (hideAll s.heap [44]).IsList D its.toArray)
    (hT1 : TabOne 37 i2dDef q37 s.heap) (hd : dp + 12 < recursionLimit) (hu : un + 8 * 12 < cLine)
    (ret : ∀ h' tk' t', KeepBut tabX s.heap h' → TabsStep s.heap h' → Q (.int (undig nn ns) t') { s with heap := h', toks := tk' }) :
    wpAny (model PySem.Challenge.rw_rt0087_01.row.prog w) (AA dp un gd frames) (call (.ref 49) [.ref D, .int nn u]) Q E s := by
  w_top off
  k_with_none
  k_with "k_room" => (ktr_room)
  k_with "call ref" => ((refine held (p := wpAny _ _ (PySem.call (Value.ref _) _) _ _ _) ?_))
  k_with "call builtin:len" => ((refine kun_lenL (stays_list (Fr.keep (by k_asm)) (by assumption)) (by simp; rfl) (by (first | lia | omega)) ?_))
  have CD := cd48 X
  have hl : LedAt s.heap [44] [(44, tabObj #[])] := fun p hp' => by rcases List.mem_singleton.mp hp' with rfl; exact ⟨hp, .head _⟩
  have hlen := hia.length
  have hl1 : its.length < 1000 := by (first | lia | omega)
  revert X; k_fill; intro X
  refine' enterTC (binds := [(Str.ofString "digits", .ref D), (Str.ofString "n", .int nn u)]) (by assumption) (by assumption) (by assumption) (by assumption) ?k6 ?k7 ?k8 ?k9 ?kB ?kD ?_ ?c2 ?c3 ?c4
  (case k6 => k_dflt k_is)
  (case k7 => k_dflt k_is)
  (case k8 => exact room0 hd)
  (case k9 => exact BindsTo.of_eq rfl)
  (case kB => exact rfl)
  (case kD => decide +kernel)
  (case c2 => exact rfl); (case c3 => exact rfl); (case c4 => exact rfl)
  intro L h' tk cells F' N' Y' l1
  replace F' := fr_map (m' := fun y => none) F' (by with_unfolding_all rfl)
  obtain ⟨o1, o2, o3, hE, d1, d2, d3⟩ := cells3 Y' (v₁ := none) (v₂ := some (.int nn u)) (v₃ := some (.ref D)) (by with_unfolding_all rfl) (by with_unfolding_all rfl) (by with_unfolding_all rfl)
  subst hE; clear Y'
  (try k_lt l1); (try simp only [List.cons_append, List.nil_append] at N')
  try dsimp only
  try k_fold
  k_steps
  · rename_i f c' oc vs t' ct' dc' h4 tk4 e1 e2 lt3 lt4 h5 oI F5 N5 dI hpos
    simp only [q44_is] at N5 e2
    have C := innerD_c (w := w) (qual := q44) (doc := dc') (pm := ((mg (Str.ofString "__name__")).getD .none)) (ctv := ct') (D := D) (f := f) (c' := c') (cn := L + 1 + 1) (ci := L + 1 + 1 + 1) (cd := L + 1) (nn := nn) d2 dI d3 hia (by (first | lia | omega)) hdg hn' ns.length (by (first | lia | omega)) hl6
    refine use_innerD C B F5 X _ N5 (List.forall_mem_cons.mpr ⟨List.Mem.head _, by lcg_sub⟩) T rfl rfl (codeRec_news N5 (by k_mem) e1 e2) (stays_list F5.keep hDl) ⟨_, d2⟩ ⟨_, dI⟩ ⟨_, d3⟩ (by decide) (by simp [hlen]) (by simp [hlen]) (by show dp + 1 + ns.length < _; (first | lia | omega)) (by show un + 3 + 8 * ns.length < _; (first | lia | omega)) ?_
    intro h6 tk6 t6 F6 N6
    k_steps
    rw [show (ns.drop (Int.toNat 0)).take ns.length = ns by rw [show Int.toNat 0 = 0 from rfl, List.drop_zero, List.take_length]]
    exact ret _ _ _ (keep44 F6) ⟨step44_37 F6 hT1, (.inr ⟨c', (N6 (44, tabObj (#[] ++ #[rawInt 50, rawInt 4, .ref c'])) (by k_mem)).1, fresh_of N6 (o := oc) (by k_mem) (by simp; exact neN (by (first | lia | omega))), codeRec_news N6 (by k_mem) e1 e2⟩)⟩
  · rename_i f c' oc vs t' ct' dc' h4 tk4 e1 e2 lt3 lt4 h5 oI F5 N5 dI hpos
    simp only [q44_is] at N5 e2
    obtain rfl : ns = [] := List.length_eq_zero_iff.mp (by (first | lia | omega))
    exact ret _ _ _ (keep44 F5) ⟨step44_37 F5 hT1, (.inr ⟨c', (N5 (44, tabObj (#[] ++ #[rawInt 50, rawInt 4, .ref c'])) (by k_mem)).1, fresh_of N5 (o := oc) (by k_mem) (by simp; exact neN (by (first | lia | omega))), codeRec_news N5 (by k_mem) e1 e2⟩)⟩
set_option maxHeartbeats 400000 in
theorem d2i_full {w : World} {D : Addr} {its : List Value} {ns : List Int} (nn : Nat) (u : Tok) (hia : IntsAre its ns) (hdg : Digits nn ns) (hl6 : ns.length < 6) (hn' : nn < 10) {loose : List Str} {mean : ExcName → Option Value} {mg mb : Str → Option Value} {dp un : Nat} {gd : Option (List Code)} {frames : List Env} {base : Heap} {s : Shared} {Q E : Value → Shared → Prop}
    (B : Below (AA dp un gd frames) base frames (hideAll s.heap [44])) (X : (Mine.hd.heap_1 w.params).In (hideAll s.heap [44])) (T : Top topProg loose mean mg mb (hideAll s.heap [44])) (cc : Addr) (hp : s.heap.get? 44 = some (tabObj #[rawInt 50, rawInt 4, .ref cc])) (hcc : s.heap.CodeRec (.ref cc) q44)
    (hDl : (hideAll s.heap [44]).IsList D its.toArray)
    (hT1 : TabOne 37 i2dDef q37 s.heap) (hd : dp + 12 < recursionLimit) (hu : un + 8 * 12 < cLine)
    (ret : ∀ h' tk' t', KeepBut tabX s.heap h' → TabsStep s.heap h' → Q (.int (undig nn ns) t') { s with heap := h', toks := tk' }) :
    wpAny (model PySem.Challenge.rw_rt0087_01.row.prog w) (AA dp un gd frames) (call (.ref 49) [.ref D, .int nn u]) Q E s := by
  w_top off
  k_with_none
  k_with "k_room" => (ktr_room)
  k_with "call ref" => ((refine held (p := wpAny _ _ (PySem.call (Value.ref _) _) _ _ _) ?_))
  k_with "call builtin:len" => ((refine kun_lenL (stays_list (Fr.keep (by k_asm)) (by assumption)) (by simp; rfl) (by (first | lia | omega)) ?_))
  have CD := cd48 X
  have hcn : cc ≠ 44 := TabOne.not_code (P := 44) (d := d2iDef) (q := q44) ⟨_, hp, .inr ⟨cc, rfl, hcc⟩⟩ hcc
  have hcg : (hideAll s.heap [44]).CodeRec (.ref cc) q44 := codeRec_hid (by simpa using hcn) hcc
  have hl : LedAt s.heap [44] [(44, tabObj #[rawInt 50, rawInt 4, .ref cc])] := fun p hp' => by rcases List.mem_singleton.mp hp' with rfl; exact ⟨hp, .head _⟩
  have hlen := hia.length
  have hl1 : its.length < 1000 := by (first | lia | omega)
  revert X; k_fill; intro X
  refine' enterTC (binds := [(Str.ofString "digits", .ref D), (Str.ofString "n", .int nn u)]) (by assumption) (by assumption) (by assumption) (by assumption) ?k6 ?k7 ?k8 ?k9 ?kB ?kD ?_ ?c2 ?c3 ?c4
  (case k6 => k_dflt k_is)
  (case k7 => k_dflt k_is)
  (case k8 => exact room0 hd)
  (case k9 => exact BindsTo.of_eq rfl)
  (case kB => exact rfl)
  (case kD => decide +kernel)
  (case c2 => exact rfl); (case c3 => exact rfl); (case c4 => exact rfl)
  intro L h' tk cells F' N' Y' l1
  replace F' := fr_map (m' := fun y => none) F' (by with_unfolding_all rfl)
  obtain ⟨o1, o2, o3, hE, d1, d2, d3⟩ := cells3 Y' (v₁ := none) (v₂ := some (.int nn u)) (v₃ := some (.ref D)) (by with_unfolding_all rfl) (by with_unfolding_all rfl) (by with_unfolding_all rfl)
  subst hE; clear Y'
  (try k_lt l1); (try simp only [List.cons_append, List.nil_append] at N')
  try dsimp only
  try k_fold
  k_steps
  · rename_i f ct' dc' h4 tk4 lt3 h5 oI F5 N5 dI hpos
    simp only [q44_is] at N5
    have C := innerD_c (w := w) (qual := q44) (doc := dc') (pm := ((mg (Str.ofString "__name__")).getD .none)) (ctv := ct') (D := D) (f := f) (c' := cc) (cn := L + 1 + 1) (ci := L + 1 + 1 + 1) (cd := L + 1) (nn := nn) d2 dI d3 hia (by (first | lia | omega)) hdg hn' ns.length (by (first | lia | omega)) hl6
    refine use_innerD C B F5 X _ N5 (List.forall_mem_cons.mpr ⟨List.Mem.head _, by lcg_sub⟩) T rfl rfl (hcg.keeps F5.keep) (stays_list F5.keep hDl) ⟨_, d2⟩ ⟨_, dI⟩ ⟨_, d3⟩ (by decide) (by simp [hlen]) (by simp [hlen]) (by show dp + 1 + ns.length < _; (first | lia | omega)) (by show un + 3 + 8 * ns.length < _; (first | lia | omega)) ?_
    intro h6 tk6 t6 F6 N6
    k_steps
    rw [show (ns.drop (Int.toNat 0)).take ns.length = ns by rw [show Int.toNat 0 = 0 from rfl, List.drop_zero, List.take_length]]
    exact ret _ _ _ (keep44 F6) ⟨step44_37 F6 hT1, (.inl ((N6 (44, tabObj #[rawInt 50, rawInt 4, .ref cc]) (by k_mem)).1.trans hp.symm))⟩
  · rename_i f ct' dc' h4 tk4 lt3 h5 oI F5 N5 dI hpos
    simp only [q44_is] at N5
    obtain rfl : ns = [] := List.length_eq_zero_iff.mp (by (first | lia | omega))
    exact ret _ _ _ (keep44 F5) ⟨step44_37 F5 hT1, (.inl ((N5 (44, tabObj #[rawInt 50, rawInt 4, .ref cc]) (by k_mem)).1.trans hp.symm))⟩
theorem d2i_c {w : World} {D : Addr} {its : List Value} {ns : List Int} (nn : Nat) (u : Tok) (hia : IntsAre its ns) (hdg : Digits nn ns) (hl6 : ns.length < 6) (hn' : nn < 10) :
    CallsT w 49 [.ref D, .int nn u] 12 (fun h => h.IsList D its.toArray) (fun _ v _ => ∃ t, v = .int (undig nn ns) t) := by
  intro loose mean mg mb dp un gd frames base s Q E B X T hT hd hu hD ret
  have hl44 : (hideAll s.heap tabX).StaysIn (hideAll s.heap [44]) := hide_less (by simp)
  obtain ⟨hT1, ps, hp, hps⟩ := hT
  have hDl : (hideAll s.heap [44]).IsList D its.toArray := by
    obtain ⟨o, ho, hc, n, hd⟩ := hD
    refine ⟨o, hideAll_get _ ho ?_, hc, n, hd⟩
    simp only [List.mem_cons, List.not_mem_nil, or_false]
    rintro rfl
    rw [hp] at ho; cases ho; cases hd
  rcases hps with rfl | ⟨cc, rfl, hcc⟩
  · exact d2i_empty nn u hia hdg hl6 hn' (below_more B hl44) (X.keeps hl44) (T.keeps hl44) hp hDl hT1 hd hu fun h' tk' t' a b => ret _ _ _ a b ⟨t', rfl⟩
  · exact d2i_full nn u hia hdg hl6 hn' (below_more B hl44) (X.keeps hl44) (T.keeps hl44) cc hp hcc hDl hT1 hd hu fun h' tk' t' a b => ret _ _ _ a b ⟨t', rfl⟩
end
end Mine
end
section
open PySem PySem.W PyProof.Rows PySem.Calls
set_option maxRecDepth 100000
namespace Mine
abbrev tupOf (vs : List Value) : Obj := { cls := .type "tuple", data := .seq vs.toArray }
section
set_option maxHeartbeats 400000 in
theorem div2_c {w : World} (a b n : Int) (t u v : Tok) (ha : 0 ≤ a) (ha' : a < 2 ^ 60) (hb : 0 < b) (hb' : b < 1000000) (hn : 0 ≤ n) (hbit : ((Builtin.Int.intBits a : Nat) : Int) ≤ 60) : Calls1 w 28 [.int a t, .int b u, .int n v] 10 (fun _ => True) (fun h v h' => ∃ T t1 t2, v = .ref T ∧ h.get? T = none ∧ h'.get? T = some (tupOf [.int (a / b) t1, .int (a % b) t2])) := by
  w_top off
  k_with_none
  k_with "ENTER0" => ((
  refine' enter0 (by assumption) (by assumption) (by assumption) ?k6 ?k7 ?k8 ?k9 ?kB ?_ ?c2 ?c3 ?c4 ?c5
  (case k6 => k_is)
  (case k7 => k_is)
  (case k8 => exact room0 hd)
  (case k9 => exact BindsTo.of_eq rfl)
  (case kB => exact locs rfl)
  (case c5 => decide); (case c2 => exact rfl); (case c3 => exact rfl); (case c4 => exact rfl)
  k_whole
  intro L h' F' N'
  dsimp only
  try k_fold))
  k_with "k_room" => (ktr_room)
  intro loose mean mg mb dp un gd frames base s Q E B X T hd hu _ ret
  revert X; k_fill; intro X
  k_dflt walk_at "ENTER0"
  k_steps
  rename_i F1 N1
  rw [Int.fdiv_eq_ediv_of_nonneg a (Int.le_of_lt hb), Int.fmod_eq_emod_of_nonneg a (Int.le_of_lt hb)] at N1
  have z := N1 _ (List.Mem.head _)
  exact ret _ _ _ F1.keep ⟨_, _, _, rfl, z.2.2, z.1⟩
end
end Mine
end
section
open PySem PySem.W PyProof.Rows PySem.Calls
set_option maxRecDepth 100000
namespace Mine
theorem new_obj {h₀ h h' : Heap} {L a : Addr} {m : Str → Option Value} {led led' : List (Addr × Obj)} {o : Obj} (F : Fr h₀ L h m) (N : News h₀ L h led) (N' : News h₀ L h' led') (hf : h.get? a = none) (hg : h'.get? a = some o) :
    News h₀ L h' ((a, o) :: led') ∧ LCg.Off1 a led := by
  obtain ⟨oL, _, _, eL, _⟩ := F.ns
  refine ⟨news_cons N' hg (fun e => by rw [e, eL] at hf; cases hf) ?_, ?_⟩
  · cases q : h₀.get? a with
    | none => rfl
    | some o' => rw [F.keep _ _ q] at hf; cases hf
  · clear N'
    induction led with
    | nil => trivial
    | cons p r ih => exact ⟨fun e => (by have := (N p (.head _)).1; rw [show p.1 = a from e, hf] at this; cases this), ih fun q hq => N q (.tail _ hq)⟩
theorem offN {a b : Addr} {o : Obj} : ∀ {led : List (Addr × Obj)}, LCg.Off1 a led → (b, o) ∈ led → @Ne Nat b a
  | _ :: _, x, .head _ => x.1
  | _ :: _, x, .tail _ h => offN x.2 h
theorem offC {c c' b : Addr} {o : Obj} {led : List (Addr × Obj)} (h : c' = c ∨ LCg.Off1 c' led) (hm : (b, o) ∈ led) (n : @Ne Nat b c) : @Ne Nat b c' :=
  h.elim (fun e => by rw [e]; exact n) fun x => offN x hm
end Mine
end
section
open PySem PySem.W PyProof.Rows PySem.Calls
set_option maxRecDepth 100000
namespace Mine
theorem bB_bound {b : Int} {nn : Nat} (hb : 0 < b) (hb' : b < 1000000) (hn : nn < 10) : b * 2 ^ nn < 2 ^ 60 := by
  have h1 : (2 : Int) ^ nn ≤ 2 ^ 10 := by exact_mod_cast Nat.pow_le_pow_right (by decide) (Nat.le_of_lt hn)
  have h2 : b * 2 ^ nn ≤ b * 2 ^ 10 := Int.mul_le_mul_of_nonneg_left h1 (Int.le_of_lt hb)
  (first | lia | omega)
section
variable {w : World} {A₀ : Around} {s : Shared} {base h₀ : Heap} {outer : List Env} {env : Env} {L : Addr} {m : Str → Option Value} {loose : List Str} {mean : ExcName → Option Value} {mg mb : Str → Option Value} {Q E : Value → Shared → Prop} {dp un : Nat} {gd : Option (List Code)} {led : List (Addr × Obj)}
theorem use_div {x b n : Int} {t u v : Tok} (hx : 0 ≤ x) (hx' : x < 2 ^ 60) (hb : 0 < b) (hb' : b < 1000000) (hn : 0 ≤ n) (B : Below A₀ base outer h₀) (F : Fr h₀ L s.heap m) (X : (Mine.hd.heap_1 w.params).In h₀) (N : News h₀ L s.heap led) (T : Top topProg loose mean mg mb h₀)
    (hf : env.frame = some L) (hk : env.scope.kind = .function) (hd : dp + 10 < recursionLimit) (hu : un + 8 * 10 < cLine)
    (ret : ∀ Tt t1 t2 h' tk', Fr h₀ L h' m → News h₀ L h' ((Tt, tupOf [.int (x / b) t1, .int (x % b) t2]) :: led) → LCg.Off1 Tt led → Q (.ref Tt) { s with heap := h', toks := tk' }) :
    wpAny (model PySem.Challenge.rw_rt0087_01.row.prog w) (AA dp un gd (env :: outer)) (call (.ref 28) [.int x t, .int b u, .int n v]) Q E s := by
  refine use1 (div2_c x b n t u v hx hx' hb hb' hn (by have := intBits_le hx hx'; (first | lia | omega))) B F X N T hf hk hd hu trivial fun v h' tk' F' N' _ ⟨Tt, t1, t2, hv, hfr, hg⟩ => ?_
  subst hv
  obtain ⟨N2, o2⟩ := new_obj F N N' hfr hg
  exact ret Tt t1 t2 h' tk' F' N2 o2
end
theorem digs_get (n : Nat) : ∀ (k : Nat) (x : Int) (j : Nat), j < k → (digs n k x)[j]? = some (x / 2 ^ (n * j) % 2 ^ n)
  | 0, _, _, h => absurd h (Nat.not_lt_zero _)
  | k + 1, x, 0, _ => by show some (x % 2 ^ n) = _; rw [Nat.mul_zero, Int.pow_zero, Int.ediv_one]
  | k + 1, x, j + 1, h => by
    show (digs n k (x / 2 ^ n))[j]? = _
    rw [digs_get n k _ j (Nat.lt_of_succ_lt_succ h), Nat.mul_succ, Nat.add_comm, Int.pow_add, Int.ediv_ediv_of_nonneg (Int.le_of_lt (Int.pow_pos (by decide)))]
theorem dmp_step {B b U r d x A A' : Int} (hA : A = b * U + r) (hA' : A' = A * B + d) (hx : x = r * B + d) : A' = b * (x / b + B * U) + x % b := by
  have e := Int.mul_ediv_add_emod x b
  rw [Int.mul_add, Int.add_assoc, Int.add_comm (b * (B * U)), ← Int.add_assoc, e, hA', hA, hx, Int.add_mul, Int.mul_left_comm b B U, Int.mul_comm (b * U) B]
  (first | lia | omega)
/-- the names of _divmod_pos in its loop -/
def dmm (a b n : Int) (ta tb tn : Tok) (D l : Addr) (r : Int) (tr : Tok) (ad qd : Option Value) : Str → Option Value := fun y =>
  if y = Str.ofString "q_digit" then qd else if y = Str.ofString "a_digit" then ad else if y = Str.ofString "q_digits" then some (.ref l) else if y = Str.ofString "r" then some (.int r tr)
  else if y = Str.ofString "a_digits" then some (.ref D) else if y = Str.ofString "n" then some (.int n tn) else [(Str.ofString "a", Value.int a ta), (Str.ofString "b", Value.int b tb)].reverse.lookup y
theorem dmm_zero {a b n : Int} {ta tb tn : Tok} {D l : Addr} {r : Int} {tr : Tok} :
    (fun y => if y = Str.ofString "q_digits" then some (Value.ref l) else if y = Str.ofString "r" then some (Value.int r tr) else if y = Str.ofString "a_digits" then some (Value.ref D) else if y = Str.ofString "n" then some (Value.int n tn) else [(Str.ofString "a", Value.int a ta), (Str.ofString "b", Value.int b tb)].reverse.lookup y)
      = dmm a b n ta tb tn D l r tr none none := by
  funext y
  by_cases q1 : y = Str.ofString "q_digit"
  · subst q1; rfl
  by_cases q2 : y = Str.ofString "a_digit"
  · subst q2; rfl
  simp only [dmm, q1, q2, if_false]
theorem dmm_next {a b n : Int} {ta tb tn : Tok} {D l : Addr} {r r' : Int} {tr tr' : Tok} {ad qd : Option Value} {v q : Value} :
    (fun y => if y = Str.ofString "r" then some (Value.int r' tr') else if y = Str.ofString "q_digit" then some q else if y = Str.ofString "a_digit" then some v else dmm a b n ta tb tn D l r tr ad qd y)
      = dmm a b n ta tb tn D l r' tr' (some v) (some q) := by
  funext y
  by_cases q1 : y = Str.ofString "q_digit"
  · subst q1; rfl
  by_cases q2 : y = Str.ofString "a_digit"
  · subst q2; rfl
  by_cases q3 : y = Str.ofString "r"
  · subst q3; rfl
  simp only [dmm, q1, q2, q3, if_false]
section
variable {prog : Program} {w : World} {A : Around} {E : Value → Shared → Prop} {h₀ : Heap} {env : Env} {x : Str} {body : List Stmt} {Q : Flow → Shared → Prop} {s : Shared} {I : Addr} {lp : Addr × Obj}
/-- a loop over a reversed list, by an invariant -/
theorem revRest_ind {J : Nat → (Str → Option Value) → List (Addr × Obj) → Prop} (rs : List Value)
    (turn : ∀ i v m news (it : Obj) h tk, rs[i]? = some v → J i m news → it.cls = .type "list_reverseiterator" → Fr h₀ env.locals h (fun y => if y = x then some v else m y) → News h₀ env.locals h ((I, it) :: news) →
      wpAny (model prog w) A (execs body env) (fun f s₂ => f = .next ∧ UnrEnd h₀ env.locals { s with heap := h, toks := tk } I it (fun m' n' => lp ∈ n' ∧ J (i + 1) m' n') s₂) E { s with heap := h, toks := tk })
    (fin : ∀ m news h tk, J rs.length m news → Fr h₀ env.locals h m → News h₀ env.locals h news → Q .next { s with heap := h, toks := tk }) :
    ∀ (r : List Value) (i : Nat) m news, rs.drop i = r → i ≤ rs.length → J i m news → RevRest prog w A E h₀ env x body Q s I lp r m news
  | [], i, m, news, hr, hi, hJ => by
    have e : i = rs.length := Nat.le_antisymm hi (List.drop_eq_nil_iff.mp hr)
    subst e
    exact fun h tk F N => fin m news h tk hJ F N
  | v :: r, i, m, news, hr, hi, hJ => by
    intro it h tk hit F N
    have hv : rs[i]? = some v := by rw [← List.head?_drop, hr]; rfl
    have hr' : rs.drop (i + 1) = r := by rw [← List.tail_drop, hr]; rfl
    have hi' : i + 1 ≤ rs.length := (List.getElem?_eq_some_iff.mp hv).1
    refine wpAny_mono (turn i v m news it h tk hv hJ hit F N) (fun f s₂ hf => ?_) fun _ _ e => e
    obtain ⟨rfl, h', tk', m', news', e, F', N', o, hm, hJ'⟩ := hf
    exact ⟨h', tk', m', news', e, F', N', o, hm, revRest_ind rs turn fin r (i + 1) m' news' hr' hi' hJ'⟩
end
theorem ints_add {vs : List Value} {ys : List Int} {y : Int} {t : Tok} (h : IntsAre vs ys) : IntsAre (vs ++ [.int y t]) (ys ++ [y]) := by
  induction h with
  | nil => exact .cons y t .nil
  | cons z u _ ih => exact .cons z u ih
theorem ints_rev {vs : List Value} {ys : List Int} (h : IntsAre vs ys) : IntsAre vs.reverse ys.reverse := by
  induction h with
  | nil => exact .nil
  | cons z u _ ih => rw [List.reverse_cons, List.reverse_cons]; exact ints_add ih
/-- long division in its loop: i figures are done -/
inductive DmpJ (a b : Int) (nn k : Nat) (ta tb tn : Tok) (D l : Addr) (its : List Value) (n0 : Nat) (p1 : Obj) (c1 : Addr) (q1 p2 : Obj) (c2 : Addr) (q2 : Obj) (i : Nat) (m : Str → Option Value) (news : List (Addr × Obj)) : Prop
  | mk (r : Int) (tr : Tok) (ad qd : Option Value) (Vq : List Value) (ys : List Int) (nq : Nat) (em : m = dmm a b nn ta tb tn D l r tr ad qd) (en : ∀ p ∈ [(l, W.listOf Vq.toArray nq), (D, W.listOf its.toArray n0), (37, p1), (c1, q1), (44, p2), (c2, q2)], p ∈ news)
    (iq : IntsAre Vq ys) (hl : ys.length = i) (dg : Digits nn ys) (ha : a / 2 ^ (nn * (k - i)) = b * undig nn ys.reverse + r) (r0 : 0 ≤ r) (r1 : r < b) : DmpJ a b nn k ta tb tn D l its n0 p1 c1 q1 p2 c2 q2 i m news
section
set_option maxHeartbeats 4000000 in
theorem dmp_c {w : World} (a b : Int) (k : Nat) (t u : Tok) (h0 : 0 ≤ a) (hb : 0 < b) (hb' : b < 1000000) (hn : 1 ≤ Builtin.Int.intBits b) (hn' : Builtin.Int.intBits b < 10) (hk : ((Builtin.Int.intBits a : Nat) + ((Builtin.Int.intBits b : Nat) : Int) - 1).fdiv (Builtin.Int.intBits b : Nat) = (k : Int)) (hk5 : k < 4) (ha : a < 2 ^ (Builtin.Int.intBits b * k)) :
    CallsT w 56 [.int a t, .int b u] 20 (fun _ => True) (fun h v h' => ∃ T t1 t2, v = .ref T ∧ h.get? T = none ∧ h'.get? T = some (tupOf [.int (a / b) t1, .int (a % b) t2])) := by
  w_top off
  k_with_none
  k_with "k_room" => (ktr_room)
  k_with "k_ne" => (first | exact offN (by assumption) (by k_mem) | exact Ne.symm (offN (by assumption) (by k_mem)) | (refine neN ?_; (try dsimp only); (first | lia | omega)))
  k_with "TAIL" => ((first | exact Tail.here | (refine' Tail.cons ?ta ?tb ?tc; (case ta => k_ne); (case tb => k_ne); (case tc => walk_at "TAIL"))))
  k_with "binaryOp LShift int int" => ((refine lsh_gen (by (first | lia | omega)) (by (first | lia | omega)) (by assumption) (by assumption) ?_; intro _ _ _; try dsimp only))
  k_with "pyIter ref" => (refine held (p := wpAny _ _ (pyIter (Value.ref _)) _ _ _) ?_)
  k_with "call ref" => ((refine held (p := wpAny _ _ (PySem.call (Value.ref _) _) _ _ _) ?_))
  k_with "exec Assign" => k_fold
  k_with "exec If" => k_fold
  k_with "exec Expr" => k_fold
  k_with "exec AugAssign" => k_fold
  k_with "exec Return some" => k_fold
  intro loose mean mg mb dp un gd frames base s Q E B X T hT hd hu _ ret
  obtain ⟨p1, p2, TS, hl⟩ := TabSt.of hT
  revert X; k_fill; intro X
  refine' enterT (binds := [(Str.ofString "a", .int a t), (Str.ofString "b", .int b u)]) (by assumption) (by assumption) (by assumption) (by assumption) ?k6 ?k7 ?k8 ?k9 ?kB ?_ ?c2 ?c3 ?c4 ?c5
  (case k6 => k_dflt k_is)
  (case k7 => k_dflt k_is)
  (case k8 => exact room0 hd)
  (case k9 => exact BindsTo.of_eq rfl)
  (case kB => exact locs (by rfl))
  (case c5 => decide)
  (case c2 => exact rfl); (case c3 => exact rfl); (case c4 => exact rfl)
  intro L h' F' N' l1
  k_lt l1
  dsimp only [tab4] at N'
  try dsimp only
  try k_fold
  k_steps
  rename_i h1 F1 N1
  refine useT (i2d_c a (Builtin.Int.intBits b) k t _ h0 hn hn' hk (by (first | lia | omega)) ha) B F1 X N1 hT TS (by walk_at "TAIL") T rfl rfl (by exact roomD hd rfl) (by exact roomU hu rfl) trivial ?_
  intro v h2 tk2 p1 c1 q1 p2 c2 q2 F2 N2 TS2 kb f1 f2 ⟨D, its, n0, hv, hf, hg, hia⟩
  subst hv
  obtain ⟨N2, o2⟩ := new_obj F1 N1 N2 hf hg
  dsimp only [tab4] at N2
  clear N1 F1
  k_steps
  rename_i h3 tk3 h4 l h5 l2 h6 I h7 F3 N3 l3
  rw [dmm_zero] at F3
  have hlen := hia.length
  rw [digs_length] at hlen
  have dok := digs_ok (n := Builtin.Int.intBits b) k a
  have dget := digs_get (Builtin.Int.intBits b) k a
  generalize hnn : Builtin.Int.intBits b = nn at *
  have hB : (0 : Int) < 2 ^ nn := Int.pow_pos (by decide)
  have hBb : b * 2 ^ nn < 2 ^ 60 := bB_bound hb hb' hn'
  replace F3 : ∃ tn tr, Fr (hideAll s.heap tabX) L h7 (dmm a b nn t u tn D l 0 tr none none) := ⟨_, _, F3⟩
  obtain ⟨tn, tr0, F3⟩ := F3
  refine iter_revUnr (lo := W.listOf its.toArray n0) (vs := its) rfl F3 N3 (by k_offL) (.tail _ (.head _)) rfl rfl ?_
  refine revRest_ind (J := DmpJ a b nn k t u tn D l its n0 p1 c1 q1 p2 c2 q2) its.reverse ?turn ?fin its.reverse 0 _ _ rfl (Nat.zero_le _) ?start
  case start => exact ⟨0, tr0, none, none, [], [], 0, rfl, (fun _ h => h), .nil, rfl, (fun _ h => nomatch h), (by rw [Nat.sub_zero, Int.ediv_eq_zero_of_lt h0 ha]; show 0 = b * 0 + 0; rw [Int.mul_zero]; rfl), Int.le_refl 0, hb⟩
  case turn =>
    clear F3 N3
    intro i v m news it h tk hv hJ hit F N
    obtain ⟨r, tr, ad, qd, Vq, ys, nq, rfl, en, iq, hl', dg, hA, r0, r1⟩ := hJ
    have hi : i < k := by rw [← hlen, ← List.length_reverse]; exact (List.getElem?_eq_some_iff.mp hv).1
    obtain ⟨j, hj⟩ : ∃ j, k - i = j + 1 := ⟨k - i - 1, by (first | lia | omega)⟩
    have hvj : its[j]? = some v := by
      rw [List.getElem?_reverse (by (first | lia | omega)), hlen, show k - 1 - i = j by (first | lia | omega)] at hv; exact hv
    have gj := dget j (by (first | lia | omega))
    generalize hd' : a / 2 ^ (nn * j) % 2 ^ nn = d at *
    have dk := dok d (List.mem_of_getElem? gj)
    obtain ⟨td, rfl⟩ : ∃ td, v = .int d td := by
      obtain ⟨td, e⟩ := hia.get j d gj
      rw [e] at hvj
      exact ⟨td, (Option.some.inj hvj).symm⟩
    have hA' : a / 2 ^ (nn * j) = a / 2 ^ (nn * (j + 1)) * 2 ^ nn + d := by
      rw [← hd', Nat.mul_succ, Int.pow_add, ← Int.ediv_ediv_of_nonneg (Int.le_of_lt (Int.pow_pos (by decide))), Int.ediv_mul_add_emod]
    rw [hj] at hA
    have rb : r < 2 ^ 60 := Int.lt_trans r1 (Int.lt_trans hb' (by decide))
    clear gj hvj hv dget hd' hia dok
    replace F : Fr (hideAll s.heap tabX) L h (fun y => if y = Str.ofString "a_digit" then some (Value.int d td) else dmm a b nn t u tn D l r tr ad qd y) := F
    replace N : News (hideAll s.heap tabX) L h [(I, it), (l, W.listOf Vq.toArray nq), (D, W.listOf its.toArray n0), (37, p1), (c1, q1), (44, p2), (c2, q2)] := news_sub N fun p hp => by
      rcases List.mem_cons.mp hp with rfl | hp
      · exact .head _
      · exact .tail _ (en p hp)
    clear en
    k_steps
    rename_i sl tm hsl
    rw [Int.toNat_natCast] at hsl
    have B1 := ld_turn (x := sl + d) hB hb r0 r1 dk.1 dk.2 (by rw [hsl]) rfl rfl
    refine use_div B1.1 (Int.lt_trans B1.2.1 hBb) hb hb' (Int.natCast_nonneg _) B F X N T rfl rfl (by exact roomD hd rfl) (by exact roomU hu rfl) ?_
    intro T0 u0 v0 h0' tk0' G0 M0 o0
    obtain ⟨-, -, q0, q1', s0, s1, x0⟩ := B1
    have hA2 := dmp_step hA hA' (by rw [hsl] : sl + d = r * 2 ^ nn + d)
    generalize (sl + d) / b = y0 at *
    generalize (sl + d) % b = r' at *
    clear F N x0 hsl hA hA'
    k_steps
    rw [dmm_next]
    refine ⟨r', v0, some (.int d td), some (.int y0 u0), Vq ++ [.int y0 u0], ys ++ [y0], nq + 1, rfl, fun p hp => .tail _ (by rw [List.push_toArray]; exact hp), ints_add iq, by rw [List.length_append, hl']; rfl, fun z hz => ?_, ?_, s0, s1⟩
    · rcases List.mem_append.mp hz with hz | hz
      · exact dg z hz
      · rw [List.mem_singleton.mp hz]; exact ⟨q0, q1'⟩
    · rw [List.reverse_append, show k - (i + 1) = j by (first | lia | omega)]; exact hA2
  case fin =>
    intro m news h tk hJ F N
    obtain ⟨r, tr, ad, qd, Vq, ys, nq, rfl, en, iq, hl', dg, hA, r0, r1⟩ := hJ
    replace F : Fr (hideAll s.heap tabX) L h (dmm a b nn t u tn D l r tr ad qd) := F
    replace N : News (hideAll s.heap tabX) L h [(l, W.listOf Vq.toArray nq), (D, W.listOf its.toArray n0), (37, p1), (c1, q1), (44, p2), (c2, q2)] := news_sub N en
    rw [List.length_reverse, hlen] at hl' hA
    rw [Nat.sub_self, Nat.mul_zero, Int.pow_zero, Int.ediv_one] at hA
    k_with "call builtin:list.reverse" => (refine held (p := wpAny _ _ (PySem.call _ _) _ _ _) ?_)
    k_steps
    have hlq := iq.length
    refine kl_reverse (its := Vq.toArray) (l := Vq.reverse) F N rfl (by k_upd) (by show Vq.length ≤ _; rw [PySem.sizeLine_eq, hlq, hl']; (first | lia | omega)) ?_
    intro h9 F9 N9
    clear F N en F3 N3
    k_steps
    refine useT (d2i_c nn _ (ints_rev iq) (fun d hd => dg d (List.mem_reverse.mp hd)) (by rw [List.length_reverse, hl']; (first | lia | omega)) hn') B F9 X N9 hT TS2 (by walk_at "TAIL") T rfl rfl (by exact roomD hd rfl) (by exact roomU hu rfl) (PySem.IsL.isList (n := nq) (N9 (_, W.listOf Vq.reverse.toArray nq) (.head _)).1) ?_
    intro v h9 tk9 s1 b1 w1 s2 b2 w2 F9 N9 TS9 kb9 f19 f29 ⟨t9, hv⟩
    subst hv
    dsimp only [tab4] at N9
    k_steps
    rename_i h10 tk10 Dr h11 FF NF lF
    obtain ⟨kk, st⟩ := leaveT hT FF (news_sub NF (by lcg_sub)) TS9
    obtain ⟨e1, e2⟩ := ld_end hb hA r0 r1
    have z := NF _ (List.Mem.head _)
    rw [e1, e2] at z
    exact ret _ _ _ kk st ⟨Dr, _, _, rfl, fresh_at NF (List.Mem.head _) (by simp; exact ⟨neN (by (first | lia | omega)), neN (by (first | lia | omega))⟩), z.1⟩
end
end Mine
end
section
open PySem PySem.W PyProof.Rows PySem.Calls
set_option maxRecDepth 100000
namespace Mine
theorem peek1_wp {α : Type} {K : Frag} {M : Model} {A : Around} {E : Value → Shared → Prop} {Q : α → Shared → Prop} {s : Shared} {o : Obj} {r : Addr → α}
    (X : K.In s.heap) (q : Q (r s.heap.objs.size) { s with heap := s.heap.push o }) :
    ∀ (t : Sem α) (g : Addr → Option α), peek1 K ⟨M.prog, M.w.params⟩ t = some (o, g) → (∀ D, g D = some (r D)) → wpAny M A t Q E s := by
  intro t
  induction t with
  | rule _ k ih => intro g e hg Γ p hΓ; exact ih () g e hg Γ p hΓ
  | point _ k ih => intro g e hg Γ p hΓ; exact ih () g e hg Γ p hΓ
  | ask k ih => intro g e hg Γ p hΓ; exact ih _ g e hg Γ p hΓ
  | load a _ k ih =>
    intro g e hg Γ p hΓ
    simp only [peek1] at e
    split at e
    · rename_i ob ho; exact ⟨ob, X _ _ ho, ih ob g e hg Γ p hΓ⟩
    · cases e
  | alloc ob k _ =>
    intro g e hg
    have e : some (ob, fun D => peek K ⟨M.prog, M.w.params⟩ (k D)) = some (o, g) := e
    obtain ⟨e1, e2⟩ := Prod.mk.inj (Option.some.inj e)
    subst e1
    subst e2
    show wpAny M A (alloc ob >>= k) Q E s
    exact wpAny_bind (wpAny_alloc ((Looks.of_peek (M := M) (h := s.heap.push ob) (X.keeps fun b x hb => Heap.get?_push_of_some _ hb) (hg s.heap.objs.size)).here (s := { s with heap := s.heap.push ob }) q))
  | _ => intro g e; cases e
section
variable {prog : Program} {w : World} {A : Around} {s : Shared} {base : Heap} {frames : List Env} {K : Frag} {p : Program} {loose : List Str} {mean : ExcName → Option Value} {mg mb : Str → Option Value} {Q E : Value → Shared → Prop}
/-- a def with *rest is entered -/
theorem enterV {name qual : Str} {params : Arguments} {body : List Stmt} {scope : Scope} {dV kV doc pm cdv ct oc : Value} {an od : Option Addr} {osl : Array (Option Value)} {f : Addr} {vals vs : List Value} {g₁ : Addr → Option (List (Str × Value))} {binds : Addr → List (Str × Value)}
    (_B : Below A base frames s.heap) (X : K.In s.heap) (T : Top p loose mean mg mb s.heap)
    (ho : K.lookup f = some ⟨oc, od, .func (fnOf name qual params body scope dV kV doc pm an cdv ct), osl⟩) (hcd : codeIn K cdv qual = true) (hroom : A.depth < recursionLimit)
    (hp : peek1 K ⟨prog, w.params⟩ (bindArgs (fnOf name qual params body scope dV kV doc pm an cdv ct) ⟨vals, []⟩) = some (tupOf vs, g₁))
    (hg : ∀ D, g₁ D = some (binds D)) (hloc : ∀ D, ∀ y ∈ binds D, scope.names.lookup y.1 = some .local)
    (h : ∀ D L h₁, Fr s.heap L h₁ (fun y => (binds D).reverse.lookup y) → News s.heap L h₁ [(D, tupOf vs)] → @LT.lt Nat _ D L →
      wpAny (model prog w) (A.deeper (envOf qual scope L f cdv)) (execs body (envOf qual scope L f cdv))
        (fun fl s' => Q (match fl with | .ret v => v | _ => .none) s')
        (fun e s' => wpAny (model prog w) (A.deeper (envOf qual scope L f cdv)) (leaving (envOf qual scope L f cdv) e) (fun _ s'' => E e s'') (fun e' s'' => E e' s'') s')
        { s with heap := h₁, toks := s.toks + (binds D).length })
    (hco : scope.isCoroutine = false) (hgen : scope.isGenerator = false) (hk : scope.kind = .function)
    (hcell : ∀ x ∈ scope.names, x.2 ≠ .cell) : wpAny (model prog w) A (call (.ref f) vals) Q E s := by
  refine wpAny_call ?_
  refine codeAny_call_function (fd := fnOf name qual params body scope dV kV doc pm an cdv ct) (body := body) hroom (X _ _ ho) rfl hco hgen rfl (codeRec_of X hcd) ?_
  refine peek1_wp (M := model prog w) (o := tupOf vs) (r := binds) X ?_ _ g₁ hp hg
  refine wpAny_newFunctionEnv hcell (hloc _) (fun h₁ hns hsb => ⟨(T.nolimit.keeps fun b o e => Heap.get?_push_of_some _ e).fresh _ hsb, codeAny_func ?_⟩) hk
  have hk₁ : ∀ b o, (s.heap.push (tupOf vs)).get? b = some o → h₁.get? b = some o := fun b o e => hsb.extBut b o (Nat.ne_of_lt (Heap.lt_size e)) (Heap.get?_push_of_some _ e)
  have hsz : (s.heap.push (tupOf vs)).objs.size = s.heap.objs.size + 1 := Heap.size_push ..
  refine h s.heap.objs.size (s.heap.push (tupOf vs)).objs.size h₁ ⟨hns, fun b o e => hk₁ b o (Heap.get?_push_of_some _ e), by rw [hsz]; exact Nat.le_succ _⟩ (fun q hq => ?_) (by rw [hsz]; exact Nat.lt_succ_self _)
  rcases List.mem_singleton.mp hq with rfl
  refine ⟨hk₁ _ _ (Heap.get?_push_size _ rfl), ?_, Heap.get?_none_of_le (Nat.le_refl _)⟩
  show s.heap.objs.size ≠ _
  rw [hsz]; exact Nat.ne_of_lt (Nat.lt_succ_self _)
end
end Mine
end
section
open PySem PySem.W PyProof.Rows PySem.Calls
set_option maxRecDepth 100000
namespace Mine
abbrev slS : Str := Str.ofString "/"
def joinS (x y : Str) : Str := if Txt.endswith x slS then x ++ y else x ++ (slS ++ y)
section
set_option maxHeartbeats 400000 in
theorem join_c {w : World} (x y : Str) (t u : Tok) (hy : Txt.startswith y slS = false) (hx : x.length ≠ 0) (hl : x.length < 1000) (hl' : y.length < 1000) : Calls0 w 157 [.str x t, .str y u] 20 (fun t => .str (joinS x y) t) := by
  w_top off
  k_with_none
  k_with "k_room" => (ktr_room)
  k_with "call ref" => ((first
   | (k_dflt refine use0 (fspath_c _ _) (by assumption) (by assumption) (by assumption) (by assumption) (by assumption) rfl rfl (by exact roomD hd rfl) (by exact roomU hu rfl) ?_; intro _ _ _ _ _; try dsimp only)
   | (k_dflt refine use0 (getsep_c _ _) (by assumption) (by assumption) (by assumption) (by assumption) (by assumption) rfl rfl (by exact roomD hd rfl) (by exact roomU hu rfl) ?_; intro _ _ _ _ _; try dsimp only)
   | (refine held (p := wpAny _ _ (PySem.call (Value.ref _) _) _ _ _) ?_)))
  k_with "exec Assign" => k_fold
  k_with "exec If" => k_fold
  k_with "exec Expr" => k_fold
  k_with "exec AugAssign" => k_fold
  k_with "exec Return some" => k_fold
  intro loose mean mg mb dp un gd frames base s Q E B X T hd hu ret
  revert X; k_fill; intro X
  refine' enterV (vs := [.str y u]) (binds := fun D => [(Str.ofString "a", .str x t), (Str.ofString "p", .ref D)]) (by assumption) (by assumption) (by assumption) ?k6 ?k7 ?k8 ?k9 ?k10 ?kB ?_ ?c2 ?c3 ?c4 ?c5
  (case k6 => k_dflt k_is)
  (case k7 => k_dflt k_is)
  (case k8 => exact room0 hd)
  (case k9 => with_unfolding_all rfl)
  (case k10 => intro D; with_unfolding_all rfl)
  (case kB => intro D; exact locs (by rfl))
  (case c5 => decide)
  (case c2 => exact rfl); (case c3 => exact rfl); (case c4 => exact rfl)
  intro D L h' F' N' l1
  try dsimp only
  try k_fold
  k_steps
  · have e : joinS x y = x ++ y := if_pos (by assumption)
    have r := fun t => ret t
    simp only [e] at r
    exact r _ _ _ (Fr.keep (by assumption))
  · have e : joinS x y = x ++ (slS ++ y) := if_neg (by rw [show Txt.endswith x slS = false from by assumption]; exact Bool.false_ne_true)
    have r := fun t => ret t
    simp only [e] at r
    exact r _ _ _ (Fr.keep (by assumption))
  · exact absurd (Int.ofNat_eq_zero.mp (by assumption)) hx
end
end Mine
end
section
open PySem PySem.W PyProof.Rows PySem.Calls
set_option maxRecDepth 100000
namespace Mine
def baseS (x : Str) : Str := Txt.slice x (some (Txt.rfind x slS + 1)) none
def headS (x : Str) : Str := Txt.slice x none (some (Txt.rfind x slS + 1))
def dirS (x : Str) : Str := if (headS x).length ≠ 0 ∧ (headS x != Txt.mul slS (headS x).length) = true then Txt.rstripChars (headS x) slS else headS x
section
set_option maxHeartbeats 400000 in
theorem base_c {w : World} (x : Str) (t : Tok) (hl : x.length < 1000) : Calls0 w 164 [.str x t] 20 (fun t => .str (baseS x) t) := by
  w_top off
  k_with_none
  k_with "k_room" => (ktr_room)
  k_with "call ref" => ((first
   | (k_dflt refine use0 (fspath_c _ _) (by assumption) (by assumption) (by assumption) (by assumption) (by assumption) rfl rfl (by exact roomD hd rfl) (by exact roomU hu rfl) ?_; intro _ _ _ _ _; try dsimp only)
   | (k_dflt refine use0 (getsep_c _ _) (by assumption) (by assumption) (by assumption) (by assumption) (by assumption) rfl rfl (by exact roomD hd rfl) (by exact roomU hu rfl) ?_; intro _ _ _ _ _; try dsimp only)
   | (refine held (p := wpAny _ _ (PySem.call (Value.ref _) _) _ _ _) ?_)))
  k_with "exec Assign" => k_fold
  k_with "exec If" => k_fold
  k_with "exec Expr" => k_fold
  k_with "exec AugAssign" => k_fold
  k_with "exec Return some" => k_fold
  intro loose mean mg mb dp un gd frames base s Q E B X T hd hu ret
  revert X; k_fill; intro X
  refine' enter0 (binds := [(Str.ofString "p", .str x t)]) (by assumption) (by assumption) (by assumption) ?k6 ?k7 ?k8 ?k9 ?kB ?_ ?c2 ?c3 ?c4 ?c5
  (case k6 => k_dflt k_is)
  (case k7 => k_dflt k_is)
  (case k8 => exact room0 hd)
  (case k9 => exact BindsTo.of_eq rfl)
  (case kB => exact locs (by rfl))
  (case c5 => decide)
  (case c2 => exact rfl); (case c3 => exact rfl); (case c4 => exact rfl)
  intro L h' F' N'
  try dsimp only
  try k_fold
  k_steps
  exact ret _ _ _ (Fr.keep (by assumption))
set_option maxHeartbeats 400000 in
theorem dir_c {w : World} (x : Str) (t : Tok) (hl : x.length < 1000) : Calls0 w 171 [.str x t] 20 (fun t => .str (dirS x) t) := by
  w_top off
  k_with_none
  k_with "k_room" => (ktr_room)
  k_with "call ref" => ((first
   | (k_dflt refine use0 (fspath_c _ _) (by assumption) (by assumption) (by assumption) (by assumption) (by assumption) rfl rfl (by exact roomD hd rfl) (by exact roomU hu rfl) ?_; intro _ _ _ _ _; try dsimp only)
   | (k_dflt refine use0 (getsep_c _ _) (by assumption) (by assumption) (by assumption) (by assumption) (by assumption) rfl rfl (by exact roomD hd rfl) (by exact roomU hu rfl) ?_; intro _ _ _ _ _; try dsimp only)
   | (refine held (p := wpAny _ _ (PySem.call (Value.ref _) _) _ _ _) ?_)))
  k_with "exec Assign" => k_fold
  k_with "exec If" => k_fold
  k_with "exec Expr" => k_fold
  k_with "exec AugAssign" => k_fold
  k_with "exec Return some" => k_fold
  intro loose mean mg mb dp un gd frames base s Q E B X T hd hu ret
  revert X; k_fill; intro X
  refine' enter0 (binds := [(Str.ofString "p", .str x t)]) (by assumption) (by assumption) (by assumption) ?k6 ?k7 ?k8 ?k9 ?kB ?_ ?c2 ?c3 ?c4 ?c5
  (case k6 => k_dflt k_is)
  (case k7 => k_dflt k_is)
  (case k8 => exact room0 hd)
  (case k9 => exact BindsTo.of_eq rfl)
  (case kB => exact locs (by rfl))
  (case c5 => decide)
  (case c2 => exact rfl); (case c3 => exact rfl); (case c4 => exact rfl)
  intro L h' F' N'
  try dsimp only
  try k_fold
  k_steps
  · have e : dirS x = Txt.rstripChars (headS x) slS := if_pos ⟨fun q => absurd (congrArg Int.ofNat q) (by assumption), by assumption⟩
    simp only [e] at ret
    exact ret _ _ _ (Fr.keep (by assumption))
  · have hb : (headS x != Txt.mul slS (headS x).length) = false := by assumption
    have e : dirS x = headS x := if_neg fun q => by rw [hb] at q; exact Bool.false_ne_true q.2
    simp only [e] at ret
    exact ret _ _ _ (Fr.keep (by assumption))
  · have hz : ((headS x).length : Int) = 0 := by assumption
    have e : dirS x = headS x := if_neg fun q => q.1 (Int.ofNat_eq_zero.mp hz)
    simp only [e] at ret
    exact ret _ _ _ (Fr.keep (by assumption))
end
end Mine
end
section
open PySem PySem.W PyProof.Rows PySem.Calls PyProof.Rows.LCg
set_option maxRecDepth 100000
namespace Mine
abbrev testsT (ifs : List Expr) (env : Env) : Sem Bool := forIn ifs true fun c r => if r = true then do let ok ← isTrue c env (eval c env); pure (ForInStep.yield ok) else pure (ForInStep.yield r)
/-- a turn's end -/
inductive TurnEndI (h₀ : Heap) (L : Addr) (m : Str → Option Value) (g : Array GenState) (dr : Drawn) (os : OsState) (I : Addr) (oI : Obj) (C : Addr) (oC : Obj) (D : Addr) (ys : List Value) (Inv : List (Addr × Obj) → Prop) (s₂ : Shared) : Prop
  | mk (h' : Heap) (tk : Nat) (news' : List (Addr × Obj)) (f0 : s₂ = { heap := h', gens := g, drawn := dr, toks := tk, os := os }) (f1 : Fr h₀ L h' m) (f2 : News h₀ L h' ((I, oI) :: (C, oC) :: (D, lst ys) :: news')) (f3 : Off3 I C D news') (f4 : Inv news') : TurnEndI h₀ L m g dr os I oI C oC D ys Inv s₂
def TurnEnd (h₀ : Heap) (L : Addr) (m : Str → Option Value) (s₁ : Shared) (I : Addr) (oI : Obj) (C : Addr) (oC : Obj) (D : Addr) (ys : List Value) (Inv : List (Addr × Obj) → Prop) (s₂ : Shared) : Prop := TurnEndI h₀ L m s₁.gens s₁.drawn s₁.os I oI C oC D ys Inv s₂
/-- what is asked of a turn -/
def TurnV (prog : Program) (w : World) (A : Around) (h₀ : Heap) (L : Addr) (m : Str → Option Value) (env : Env) (elt : Expr) (ifs : List Expr) (x : Str) (scope : Scope) (cl : List (Str × Addr)) (s : Shared) (n : Nat) (P : Nat → Value → Prop)
    (Inv : Nat → List Value → List (Addr × Obj) → Prop) : Prop :=
  ∀ i v I oI C oC D m₂ h tk ys news (E' : Value → Shared → Prop), i < n → P i v → Inv i ys news → NsObj oC m₂ → m₂ x = some v → Fr h₀ L h m → News h₀ L h ((I, oI) :: (C, oC) :: (D, lst ys) :: news) → Off3 I C D news → ((@Ne Nat I C) ∧ (@Ne Nat I D) ∧ (@Ne Nat C D)) →
    wpAny (model prog w) A (testsT ifs (compEnvC scope cl C env)) (fun ok s₃ => if ok = true then
        wpAny (model prog w) A (eval elt (compEnvC scope cl C env)) (fun y s₄ => TurnEnd h₀ L m { s with heap := h, toks := tk } I oI C oC D ys (Inv (i + 1) (ys ++ [y])) s₄) E' s₃
      else TurnEnd h₀ L m { s with heap := h, toks := tk } I oI C oC D ys (Inv (i + 1) ys) s₃) E' { s with heap := h, toks := tk }
section
variable {prog : Program} {w : World} {A : Around} {E : Value → Shared → Prop} {s : Shared} {h₀ : Heap} {L : Addr} {m : Str → Option Value} {env : Env}
end
end Mine
end
section
open PySem PySem.W PyProof.Rows PySem.Calls PyProof.Rows.LCg
set_option maxRecDepth 100000
namespace Mine
/-- what is iterated, the iterator aside -/
def SrcOf (prog : Program) (w : World) (A : Around) (h₀ : Heap) (L : Addr) (m : Str → Option Value) (xv : Value) (s₁ : Shared) (news : List (Addr × Obj)) (n : Nat) (P : Nat → Value → Prop) (S : List (Addr × Obj) → Prop) : Prop :=
  ∀ (Q' : Value → Shared → Prop) (E : Value → Shared → Prop), (∀ I fp (St : Nat → Heap → Prop) h', Walks prog w A I fp [I] n P St → (∀ i h, St i h → ∃ o, h.get? I = some o) →
    (∀ i h h' o nw, St i h → h.get? I = some o → h'.get? I = some o → (∀ b o, h₀.get? b = some o → h'.get? b = some o) → News h₀ L h' nw → S nw → St i h') → St 0 h' → (∀ b ∈ fp, b < h'.objs.size) →
    Fr h₀ L h' m → News h₀ L h' news → L ≠ I → h₀.get? I = none → (∀ p ∈ news, p.1 ≠ I) → Q' (.ref I) { s₁ with heap := h' }) → wpAny (model prog w) A (pyIter xv) Q' E s₁
section
variable {prog : Program} {w : World} {A : Around} {E : Value → Shared → Prop} {s s₁ : Shared} {h₀ : Heap} {L : Addr} {m : Str → Option Value} {env : Env} {news : List (Addr × Obj)}
theorem srcList {ax : Addr} {its : Array Value} (hh : A.handled = none) (F : Fr h₀ L s₁.heap m) (N : News h₀ L s₁.heap news) (S : SrcAt h₀ ax its news) : SrcOf prog w A h₀ L m (.ref ax) s₁ news its.size (fun i v => its[i]? = some v) (SrcAt h₀ ax its) := by
  intro Q' E k
  have hl := S.list F.keep N
  have hlt : ax < s₁.heap.objs.size := by obtain ⟨_, e, _⟩ := hl; exact Heap.lt_size e
  refine wpAny_pyIter_list hl ?_
  have up : ∀ b o, s₁.heap.get? b = some o → (s₁.heap.push { cls := .type "list_iterator", data := .fields #[.ref ax, .int 0 0] }).get? b = some o := fun b o e => Heap.get?_push_of_some _ e
  refine k _ _ _ _ (Walks.list hh s₁.heap.objs.size ax (Nat.ne_of_lt hlt) its) (fun i h st => by obtain ⟨o, e, _⟩ := st.1; exact ⟨o, e⟩) list_st ⟨⟨_, Heap.get?_push_size _ rfl, rfl, rfl⟩, hl.push _⟩ (fun b hb => ?_)
      (F.keeps up) (N.grown up) (Nat.ne_of_lt F.ns.lt) (next_is_new F) (fun p hp => Nat.ne_of_lt (Heap.lt_size (N p hp).1))
  rw [Heap.size_push]
  rcases List.mem_cons.mp hb with rfl | hb
  · exact Nat.lt_succ_self _
  · rw [List.mem_singleton.mp hb]; exact Nat.lt_succ_of_lt hlt
theorem srcRange {r : Addr} {a b : Int} {t u v : Tok} {n : Nat} (hh : A.handled = none) (F : Fr h₀ L s₁.heap m) (N : News h₀ L s₁.heap news) (hr : IsRange s₁.heap r a b 1 t u v) (hsm : Builtin.Range.small a b 1 = true) (hn : Builtin.Range.rangeSize a b 1 = ((n : Nat) : Int)) :
    SrcOf prog w A h₀ L m (.ref r) s₁ news n (fun i v => ∃ t, v = .int (a + (i : Int)) t) (fun _ => True) := by
  intro Q' E k
  refine wpAny_pyIter_range hr hsm ?_
  refine k _ _ _ _ (range_walks hh a n) (fun i h st => ⟨_, st⟩) range_st (by show IsRangeIter _ _ _ _ _; rw [hn]; simpa using Heap.get?_push_size _ rfl) (fun b hb => ?_)
      (F.keeps fun _ _ e => Heap.get?_push_of_some _ e) (N.grown fun _ _ e => Heap.get?_push_of_some _ e) (Nat.ne_of_lt F.ns.lt) (next_is_new F) (fun p hp => Nat.ne_of_lt (Heap.lt_size (N p hp).1))
  rw [List.mem_singleton.mp hb, Heap.size_push]; exact Nat.lt_succ_self _
end
end Mine
end
section
open PySem PySem.W PyProof.Rows PySem.Calls PyProof.Rows.LCg
set_option maxRecDepth 100000
namespace Mine
theorem noPy {a b : Int} (hb : 0 < b) (hb' : b < 2 ^ 60) : Builtin.divisionGoesByPylong a b = false :=
  PyProof.noPylong_of_log2 (Nat.lt_of_lt_of_le ((Nat.log2_lt (k := 60) (by (first | lia | omega))).mpr (by (first | lia | omega))) (by decide))
section
variable {M : Program} {w : World} {A : Around} {s : Shared} {Q E : Value → Shared → Prop} {a b : Int} {t u : Tok}
theorem fdiv_gen (hb : 0 < b) (hb' : b < 2 ^ 60) (h : ∀ v t, v = a / b → Q (.int v t) { s with toks := s.toks + 1 }) : wpAny (model M w) A (binaryOp .FloorDiv (.int a t) (.int b u)) Q E s :=
  floordiv_int (by (first | lia | omega)) (by rw [Int.fdiv_eq_ediv_of_nonneg a (Int.le_of_lt hb)]; exact h _ _ rfl) (Or.inl (noPy hb hb'))
theorem fmod_gen (hb : 0 < b) (h : ∀ v t, v = a % b → 0 ≤ v → v < b → Q (.int v t) { s with toks := s.toks + 1 }) : wpAny (model M w) A (binaryOp .Mod (.int a t) (.int b u)) Q E s :=
  mod_int' (by (first | lia | omega)) (by rw [Int.fmod_eq_emod_of_nonneg a (Int.le_of_lt hb)]; exact h _ _ rfl (Int.emod_nonneg _ (by (first | lia | omega))) (Int.emod_lt_of_pos _ hb))
theorem pow_gen {k : Nat} (ha : 0 < a) (ha' : a < 1000) (hk : b = k) (hk' : k < 6) (h : ∀ v t, v = a ^ k → 0 < v → v < 2 ^ 60 → Q (.int v t) { s with toks := s.toks + 1 }) : wpAny (model M w) A (binaryOp .Pow (.int a t) (.int b u)) Q E s := by
  subst hk
  refine pow_int (by (first | lia | omega)) ?_ ?_
  · have h1 : Builtin.Int.intBits a ≤ 10 := intBits_le (by (first | lia | omega)) (by (first | lia | omega))
    have h2 : Builtin.Int.intBits a * k ≤ 10 * 6 := Nat.mul_le_mul h1 (Nat.le_of_lt hk')
    have h3 : ((Builtin.Int.intBits a : Nat) : Int) * ((k : Nat) : Int) = ((Builtin.Int.intBits a * k : Nat) : Int) := by simp
    rw [h3]; (first | lia | omega)
  · rw [Int.toNat_natCast]
    refine h _ _ rfl (Int.pow_pos ha) ?_
    obtain ⟨n, rfl⟩ := Int.eq_ofNat_of_zero_le (Int.le_of_lt ha)
    have h1 : n ^ k ≤ 1000 ^ k := Nat.pow_le_pow_left (by (first | lia | omega)) k
    have h2 : 1000 ^ k ≤ 1000 ^ 5 := Nat.pow_le_pow_right (by decide) (by (first | lia | omega) : k ≤ 5)
    have h3 : n ^ k < 2 ^ 60 := Nat.lt_of_le_of_lt (Nat.le_trans h1 h2) (by decide)
    exact_mod_cast h3
end
theorem off3I {I C D b : Addr} {o : Obj} : ∀ {led : List (Addr × Obj)}, Off3 I C D led → (b, o) ∈ led → (@Ne Nat b I) ∧ (@Ne Nat b C) ∧ (@Ne Nat b D)
  | _ :: _, x, .head _ => x.1
  | _ :: _, x, .tail _ h => off3I x.2 h
end Mine
end
section
open PySem PySem.W PyProof.Rows PySem.Calls PyProof.Rows.LCg
set_option maxRecDepth 100000
namespace Mine
/-- what a clause's loop does, turn by turn -/
def LoopRule (prog : Program) (w : World) (A : Around) (e : Expr) (d : Nat) (it acc : Value) (env : Env) (asgn : Value → Sem Unit) (ifs : List Expr) (body : Sem Unit) : Prop :=
  ∀ (R : Result → Shared → Prop) (I : Nat → Shared → Prop),
    (∀ n s, I n s → wpAny (model prog w) A (pyNext it) (fun r s₁ => match r with
      | none => R (.ok .next) s₁
      | some v => wpAny (model prog w) A (asgn v) (fun _ s₂ =>
          wpAny (model prog w) A (testsT ifs env) (fun ok s₃ =>
            if ok = true then wpAny (model prog w) A body (fun _ s₅ => ∃ m, m < n ∧ I m s₅) (notedBy (model prog w) A env fun e s' => R (.error e) s') s₃
            else ∃ m, m < n ∧ I m s₃) (notedBy (model prog w) A env fun e s' => R (.error e) s') s₂) (notedBy (model prog w) A env fun e s' => R (.error e) s') s₁) (notedBy (model prog w) A env fun e s' => R (.error e) s') s) →
    ∀ n s, I n s → codeAny (model prog w) A (.compLoop e d it acc env) R s
def emitB (elt : Expr) (acc : Value) (env : Env) : Sem Unit := do let _ ← call (.builtin "list.append") [acc, ← eval elt env]
def nestB (e iter : Expr) (acc : Value) (env : Env) : Sem Unit := do
  let x ← eval iter env
  standAt iter.pos
  let x ← foldedSetIterable iter env x
  let _ ← runOwn (.compStart e 1 (← holding [x] (pyIter x)) acc env) env
section
variable {prog : Program} {w : World} {A : Around} {E : Value → Shared → Prop} {s : Shared}
theorem rule_one {elt iter : Expr} {x : Str} {px : Pos} {ifs : List Expr} {scope : Scope} {pos : Pos} {it acc : Value} {env : Env} :
    LoopRule prog w A (.ListComp elt [⟨.Name x px, iter, ifs, 0⟩] scope pos) 0 it acc env (assign (.Name x px) env) ifs (emitB elt acc env) := by
  intro R I turn n s h
  refine codeAny_loop rfl I (fun n s hI => ?_) n h
  show wpAny _ A ((compTurn (.ListComp elt [⟨.Name x px, iter, ifs, 0⟩] scope pos) 0 it acc env).onRaise (fun x => do noteFrame x env; theTreesLotGoes x)) _ _ s
  refine wpAny_noted ?_
  rw [compTurn_list]
  refine wpAny_bind (wpAny_standAt (wpAny_bind (wpAny_mono (turn n s hI) (fun r s₁ h₁ => ?_) fun _ _ h' => h')))
  cases r with
  | none => exact wpAny_pure h₁
  | some v =>
    refine wpAny_bind (wpAny_of_eq (show letOwnedTupleGo (.Name x px) it v = pure () from rfl) ?_)
    refine wpAny_bind (wpAny_mono h₁ (fun _ s₂ h₂ => wpAny_bind (wpAny_mono h₂ (fun ok s₃ h₃ => ?_) fun _ _ h' => h')) fun _ _ h' => h')
    cases ok with
    | false => exact wpAny_pure ⟨rfl, h₃⟩
    | true => exact wpAny_bind (wpAny_mono h₃ (fun _ s₅ h₅ => wpAny_pure ⟨rfl, h₅⟩) fun _ _ h' => h')
theorem rule_tup {elt iter : Expr} {elts : List Expr} {x1} {tp : Pos} {ifs : List Expr} {scope : Scope} {pos : Pos} {it acc : Value} {env : Env} :
    LoopRule prog w A (.ListComp elt [⟨.Tuple elts x1 tp, iter, ifs, 0⟩] scope pos) 0 it acc env (fun v => do letOwnedTupleGo (.Tuple elts x1 tp) it v; assign (.Tuple elts x1 tp) env v) ifs (emitB elt acc env) := by
  intro R I turn n s h
  refine codeAny_loop rfl I (fun n s hI => ?_) n h
  show wpAny _ A ((compTurn (.ListComp elt [⟨.Tuple elts x1 tp, iter, ifs, 0⟩] scope pos) 0 it acc env).onRaise (fun x => do noteFrame x env; theTreesLotGoes x)) _ _ s
  refine wpAny_noted ?_
  rw [compTurn_list]
  refine wpAny_bind (wpAny_standAt (wpAny_bind (wpAny_mono (turn n s hI) (fun r s₁ h₁ => ?_) fun _ _ h' => h')))
  cases r with
  | none => exact wpAny_pure h₁
  | some v =>
    have z := wpAny_bind (f := fun _ => testsT ifs env >>= fun ok => if ok = true then (emitB elt acc env >>= fun _ => again (.compLoop (.ListComp elt [⟨.Tuple elts x1 tp, iter, ifs, 0⟩] scope pos) 0 it acc env)) else again (.compLoop (.ListComp elt [⟨.Tuple elts x1 tp, iter, ifs, 0⟩] scope pos) 0 it acc env))
      (wpAny_mono h₁ (fun _ s₂ h₂ => wpAny_bind (wpAny_mono h₂ (fun ok s₃ h₃ => by
      cases ok with
      | false => exact wpAny_pure (Q := fun (fin : PySem.Fin) s' => match fin with | .done f => R (.ok f) s' | .again c' => c' = (.compLoop (.ListComp elt [⟨.Tuple elts x1 tp, iter, ifs, 0⟩] scope pos) 0 it acc env) ∧ ∃ m, m < n ∧ I m s') ⟨rfl, h₃⟩
      | true => exact wpAny_bind (wpAny_mono h₃ (fun _ s₅ h₅ => wpAny_pure ⟨rfl, h₅⟩) fun _ _ h' => h')) fun _ _ h' => h')) fun _ _ h' => h')
    simp only [emitB, bind_assoc] at z ⊢
    exact z
theorem compTurn_two0 (elt t0 i0 t1 i1 : Expr) (f0 f1 : List Expr) (scope : Scope) (pos : Pos) (it acc : Value) (env : Env) :
    compTurn (.ListComp elt [⟨t0, i0, f0, 0⟩, ⟨t1, i1, f1, 0⟩] scope pos) 0 it acc env = (do
      standAt i0.pos
      match ← pyNext it with
      | none => pure (.done .next)
      | some v =>
        letOwnedTupleGo t0 it v
        assign t0 env v
        let mut ok := true
        for c in f0 do
          if ok then ok ← isTrue c env (eval c env)
        if ok then
          let x ← eval i1 env
          standAt i1.pos
          let x ← foldedSetIterable i1 env x
          let _ ← runOwn (.compStart (.ListComp elt [⟨t0, i0, f0, 0⟩, ⟨t1, i1, f1, 0⟩] scope pos) 1 (← holding [x] (pyIter x)) acc env) env
        again (.compLoop (.ListComp elt [⟨t0, i0, f0, 0⟩, ⟨t1, i1, f1, 0⟩] scope pos) 0 it acc env)) := by rfl
theorem compTurn_two1 (elt t0 i0 t1 i1 : Expr) (f0 f1 : List Expr) (scope : Scope) (pos : Pos) (it acc : Value) (env : Env) :
    compTurn (.ListComp elt [⟨t0, i0, f0, 0⟩, ⟨t1, i1, f1, 0⟩] scope pos) 1 it acc env = (do
      standAt i1.pos
      match ← pyNext it with
      | none => pure (.done .next)
      | some v =>
        letOwnedTupleGo t1 it v
        assign t1 env v
        let mut ok := true
        for c in f1 do
          if ok then ok ← isTrue c env (eval c env)
        if ok then
          emitB elt acc env
        again (.compLoop (.ListComp elt [⟨t0, i0, f0, 0⟩, ⟨t1, i1, f1, 0⟩] scope pos) 1 it acc env)) := by rfl
theorem rule_two0 {elt i0 t1 i1 : Expr} {f0 f1 : List Expr} {x : Str} {px : Pos} {scope : Scope} {pos : Pos} {it acc : Value} {env : Env} :
    LoopRule prog w A (.ListComp elt [⟨.Name x px, i0, f0, 0⟩, ⟨t1, i1, f1, 0⟩] scope pos) 0 it acc env (assign (.Name x px) env) f0 (nestB (.ListComp elt [⟨.Name x px, i0, f0, 0⟩, ⟨t1, i1, f1, 0⟩] scope pos) i1 acc env) := by
  intro R I turn n s h
  refine codeAny_loop rfl I (fun n s hI => ?_) n h
  show wpAny _ A ((compTurn (.ListComp elt [⟨.Name x px, i0, f0, 0⟩, ⟨t1, i1, f1, 0⟩] scope pos) 0 it acc env).onRaise (fun x => do noteFrame x env; theTreesLotGoes x)) _ _ s
  refine wpAny_noted ?_
  rw [compTurn_two0]
  refine wpAny_bind (wpAny_standAt (wpAny_bind (wpAny_mono (turn n s hI) (fun r s₁ h₁ => ?_) fun _ _ h' => h')))
  cases r with
  | none => exact wpAny_pure h₁
  | some v =>
    refine wpAny_bind (wpAny_of_eq (show letOwnedTupleGo (.Name x px) it v = pure () from rfl) ?_)
    refine wpAny_bind (wpAny_mono h₁ (fun _ s₂ h₂ => wpAny_bind (wpAny_mono h₂ (fun ok s₃ h₃ => ?_) fun _ _ h' => h')) fun _ _ h' => h')
    cases ok with
    | false => exact wpAny_pure ⟨rfl, h₃⟩
    | true =>
      have z := wpAny_bind (f := fun _ => again (.compLoop (.ListComp elt [⟨.Name x px, i0, f0, 0⟩, ⟨t1, i1, f1, 0⟩] scope pos) 0 it acc env)) (wpAny_mono h₃ (fun _ s₅ h₅ => wpAny_pure (Q := fun (fin : PySem.Fin) s' => match fin with | .done f => R (.ok f) s' | .again c' => c' = (.compLoop (.ListComp elt [⟨.Name x px, i0, f0, 0⟩, ⟨t1, i1, f1, 0⟩] scope pos) 0 it acc env) ∧ ∃ m, m < n ∧ I m s') ⟨rfl, h₅⟩) fun _ _ h' => h')
      unfold nestB at z
      simp only [bind_assoc, pure_bind] at z
      exact z
theorem rule_two1 {elt t0 i0 i1 : Expr} {f0 f1 : List Expr} {x : Str} {px : Pos} {scope : Scope} {pos : Pos} {it acc : Value} {env : Env} :
    LoopRule prog w A (.ListComp elt [⟨t0, i0, f0, 0⟩, ⟨.Name x px, i1, f1, 0⟩] scope pos) 1 it acc env (assign (.Name x px) env) f1 (emitB elt acc env) := by
  intro R I turn n s h
  refine codeAny_loop rfl I (fun n s hI => ?_) n h
  show wpAny _ A ((compTurn (.ListComp elt [⟨t0, i0, f0, 0⟩, ⟨.Name x px, i1, f1, 0⟩] scope pos) 1 it acc env).onRaise (fun x => do noteFrame x env; theTreesLotGoes x)) _ _ s
  refine wpAny_noted ?_
  rw [compTurn_two1]
  refine wpAny_bind (wpAny_standAt (wpAny_bind (wpAny_mono (turn n s hI) (fun r s₁ h₁ => ?_) fun _ _ h' => h')))
  cases r with
  | none => exact wpAny_pure h₁
  | some v =>
    refine wpAny_bind (wpAny_of_eq (show letOwnedTupleGo (.Name x px) it v = pure () from rfl) ?_)
    refine wpAny_bind (wpAny_mono h₁ (fun _ s₂ h₂ => wpAny_bind (wpAny_mono h₂ (fun ok s₃ h₃ => ?_) fun _ _ h' => h')) fun _ _ h' => h')
    cases ok with
    | false => exact wpAny_pure ⟨rfl, h₃⟩
    | true => exact wpAny_bind (wpAny_mono h₃ (fun _ s₅ h₅ => wpAny_pure ⟨rfl, h₅⟩) fun _ _ h' => h')
theorem compStart_two1 {elt t0 i0 t1 i1 : Expr} {f0 f1 : List Expr} {scope : Scope} {pos : Pos} {it acc : Value} {env : Env} {R : Result → Shared → Prop}
    (h0 : codeAny (model prog w) A (.compLoop (.ListComp elt [⟨t0, i0, f0, 0⟩, ⟨t1, i1, f1, 0⟩] scope pos) 1 it acc env) R s)
    (h : wpAny (model prog w) A (pyIter it) (fun it' s' => codeAny (model prog w) A (.compLoop (.ListComp elt [⟨t0, i0, f0, 0⟩, ⟨t1, i1, f1, 0⟩] scope pos) 1 it' acc env) R s')
      (notedBy (model prog w) A env fun x s' => R (.error x) s') s) :
    codeAny (model prog w) A (.compStart (.ListComp elt [⟨t0, i0, f0, 0⟩, ⟨t1, i1, f1, 0⟩] scope pos) 1 it acc env) R s := by
  refine codeAny_of_tree ?_
  show wpAny _ _ ((compStart (.ListComp elt [⟨t0, i0, f0, 0⟩, ⟨t1, i1, f1, 0⟩] scope pos) 1 it acc env).onRaise (fun x => do noteFrame x env; standAt theWindowsPlace)) _ _ s
  refine wpAny_notedAt ?_
  unfold compStart
  show wpAny _ _ (ask >>= _) _ _ s
  refine wpAny_bind (wpAny_askSetting (wpAny_ite ?_))
  split
  · first
      | exact wpAny_bind (wpAny_pure (wpAny_pure (And.intro rfl h0)))
      | exact wpAny_pure (And.intro rfl h0)
  · first
      | exact wpAny_bind (wpAny_rule (wpAny_bind (wpAny_standAt (wpAny_bind (wpAny_mono h (fun it' s' h' => wpAny_pure (And.intro rfl h')) fun _ _ x => x)))))
      | (refine wpAny_bind (wpAny_rule ?_); show wpAny _ _ (standAt i1.pos >>= _) _ _ s; exact wpAny_bind (wpAny_standAt (wpAny_bind (wpAny_mono h (fun it' s' h' => wpAny_pure (And.intro rfl h')) fun _ _ x => x))))
theorem wp_nestB {e iter : Expr} {acc : Value} {env : Env} {Q : Unit → Shared → Prop} (hs : ∀ x, foldedSetIterable iter env x = pure x)
    (h : wpAny (model prog w) A (eval iter env) (fun xv s₁ => wpAny (model prog w) A (pyIter xv) (fun it s₂ => codeAny (model prog w) A (.compStart e 1 it acc env) (fun r s' => match r with | .ok _ => Q () s' | .error x => cameBackBy (model prog w) A env E x s') s₂) E s₁) E s) :
    wpAny (model prog w) A (nestB e iter acc env) Q E s := by
  unfold nestB
  refine wpAny_bind (wpAny_mono h (fun xv s₁ h₁ => wpAny_bind (wpAny_standAt (wpAny_bind (wpAny_of_eq (hs xv) (wpAny_bind (wpAny_holding (wpAny_mono h₁ (fun it s₂ h₂ => ?_) fun _ _ x => x))))))) fun _ _ x => x)
  refine wpAny_bind (wpAny_runOwn (codeAny_mono h₂ fun r s' hr => ?_))
  cases r with
  | ok f => exact wpAny_pure hr
  | error x => exact hr
end
end Mine
end
section
open PySem PySem.W PyProof.Rows PySem.Calls PyProof.Rows.LCg
set_option maxRecDepth 100000
namespace Mine
/-- a turn's end: the comprehension's list is ys -/
inductive EndBI (h₀ : Heap) (L : Addr) (m : Str → Option Value) (g : Array GenState) (dr : Drawn) (os : OsState) (I : Addr) (oI : Obj) (C D : Addr) (NsP : (Str → Option Value) → Prop) (Inv : List Value → List (Addr × Obj) → Prop) (s₂ : Shared) : Prop
  | mk (h' : Heap) (tk : Nat) (ys : List Value) (oC : Obj) (m' : Str → Option Value) (news' : List (Addr × Obj)) (f0 : s₂ = { heap := h', gens := g, drawn := dr, toks := tk, os := os }) (f1 : NsObj oC m') (f2 : NsP m') (f3 : Fr h₀ L h' m) (f4 : News h₀ L h' ((I, oI) :: (C, oC) :: (D, lst ys) :: news')) (f5 : Off3 I C D news') (f6 : Inv ys news') : EndBI h₀ L m g dr os I oI C D NsP Inv s₂
def EndB (h₀ : Heap) (L : Addr) (m : Str → Option Value) (s₁ : Shared) (I : Addr) (oI : Obj) (C D : Addr) (NsP : (Str → Option Value) → Prop) (Inv : List Value → List (Addr × Obj) → Prop) (s₂ : Shared) : Prop := EndBI h₀ L m s₁.gens s₁.drawn s₁.os I oI C D NsP Inv s₂
/-- where three addresses stand -/
structure Apart3 (h₀ : Heap) (L I C D : Addr) (fp : List Addr) : Prop where
  IC : (@Ne Nat I C)
  ID : (@Ne Nat I D)
  CD : (@Ne Nat C D)
  LI : (@Ne Nat L I)
  CL : (@Ne Nat C L)
  DL : (@Ne Nat D L)
  I0 : h₀.get? I = none
  C0 : h₀.get? C = none
  D0 : h₀.get? D = none
  Cf : C ∉ fp
  Df : D ∉ fp
section
variable {prog : Program} {w : World} {A : Around} {E : Value → Shared → Prop} {s s₁ : Shared} {h₀ : Heap} {L : Addr} {m : Str → Option Value} {env cenv : Env}
theorem loop_G {e : Expr} {d : Nat} {I : Addr} {acc : Value} {asgn : Value → Sem Unit} {ifs : List Expr} {body : Sem Unit} {fp : List Addr} {n : Nat} {P : Nat → Value → Prop} {St : Nat → Heap → Prop} {R : Result → Shared → Prop}
    (rule : LoopRule prog w A e d (.ref I) acc env asgn ifs body) (W : Walks prog w A I fp [I] n P St) (J : Nat → Shared → Prop) (hSt : ∀ i s, J i s → St i s.heap)
    (turn : ∀ i v s h₂ tk₂ EE, i < n → J i s → P i v → St (i + 1) h₂ → (∀ b o, b ∉ [I] → s.heap.get? b = some o → h₂.get? b = some o) →
      wpAny (model prog w) A (asgn v) (fun _ s₂ => wpAny (model prog w) A (testsT ifs env) (fun ok s₃ => if ok = true then wpAny (model prog w) A body (fun _ s₅ => J (i + 1) s₅) EE s₃ else J (i + 1) s₃) EE s₂) EE { s with heap := h₂, toks := tk₂ })
    (fin : ∀ s h₂ tk₂, J n s → (∀ b o, b ∉ [I] → s.heap.get? b = some o → h₂.get? b = some o) → R (.ok .next) { s with heap := h₂, toks := tk₂ })
    (i : Nat) (hi : i ≤ n) (h : J i s) : codeAny (model prog w) A (.compLoop e d (.ref I) acc env) R s := by
  refine rule R (fun k s => ∃ i, i ≤ n ∧ k = n - i ∧ J i s) ?_ (n - i) s ⟨i, hi, rfl, h⟩
  rintro k s' ⟨j, hj, rfl, hJ⟩
  by_cases hlt : j < n
  · refine W.item j _ _ _ hlt (hSt _ _ hJ) fun v h₂ tk₂ hPv hst₂ hk₂ => ?_
    refine wpAny_mono (turn j v s' h₂ tk₂ _ hlt hJ hPv hst₂ hk₂) (fun _ s₂ h₂' => wpAny_mono h₂' (fun ok s₃ h₃ => ?_) fun _ _ e => e) fun _ _ e => e
    cases ok with
    | false => exact ⟨n - (j + 1), by (first | lia | omega), j + 1, hlt, rfl, by simpa using h₃⟩
    | true => exact wpAny_mono (show wpAny (model prog w) A body (fun _ s₅ => J (j + 1) s₅) _ s₃ from by simpa using h₃) (fun _ s₅ h₅ => ⟨n - (j + 1), by (first | lia | omega), j + 1, hlt, rfl, h₅⟩) fun _ _ e => e
  · obtain rfl : j = n := Nat.le_antisymm hj (Nat.not_lt.mp hlt)
    exact W.done _ _ _ (hSt _ _ hJ) fun h₂ tk₂ hk₂ => fin _ _ _ hJ hk₂
/-- the loop of a clause, in the ledger's words -/
theorem loop_V {e : Expr} {d : Nat} {I C D : Addr} {asgn : Value → Sem Unit} {ifs : List Expr} {body : Sem Unit} {fp : List Addr} {n : Nat} {P : Nat → Value → Prop} {St : Nat → Heap → Prop} {S : List (Addr × Obj) → Prop} {R : Result → Shared → Prop}
    {Inv : Nat → List Value → List (Addr × Obj) → Prop} {NsP : (Str → Option Value) → Prop} {Mid : Nat → Value → (Str → Option Value) → List Value → List (Addr × Obj) → Prop}
    (rule : LoopRule prog w A e d (.ref I) (.ref D) env asgn ifs body) (W : Walks prog w A I fp [I] n P St) (ap : Apart3 h₀ L I C D fp) (hIo : ∀ i h, St i h → ∃ o, h.get? I = some o)
    (hSt : ∀ i h h' o nw, St i h → h.get? I = some o → h'.get? I = some o → (∀ b o, h₀.get? b = some o → h'.get? b = some o) → News h₀ L h' nw → S nw → St i h') (hS : ∀ i ys nw, Inv i ys nw → S nw)
    (hasg : ∀ i v ys news m' h tk (Q : Unit → Shared → Prop) EE, i < n → P i v → Inv i ys news → h.Ns C m' → NsP m' → Fr h₀ L h m → News h₀ L h ((D, lst ys) :: news) → Off3 I C D news → St (i + 1) h →
      (∀ h₃ m₃ tk₃ news₃, St (i + 1) h₃ → h₃.Ns C m₃ → Mid i v m₃ ys news₃ → Fr h₀ L h₃ m → News h₀ L h₃ ((D, lst ys) :: news₃) → Off3 I C D news₃ → Q () { s₁ with heap := h₃, toks := tk₃ }) →
      wpAny (model prog w) A (asgn v) Q EE { s₁ with heap := h, toks := tk })
    (turn : ∀ i v oI oC m₂ h tk ys news EE, i < n → P i v → Mid i v m₂ ys news → NsObj oC m₂ → Fr h₀ L h m → News h₀ L h ((I, oI) :: (C, oC) :: (D, lst ys) :: news) → Off3 I C D news →
      wpAny (model prog w) A (testsT ifs env) (fun ok s₃ => if ok = true then wpAny (model prog w) A body (fun _ s₄ => EndB h₀ L m s₁ I oI C D NsP (Inv (i + 1)) s₄) EE s₃ else EndB h₀ L m s₁ I oI C D NsP (Inv (i + 1)) s₃) EE { s₁ with heap := h, toks := tk })
    (fin : ∀ h tk m' ys news, Fr h₀ L h m → h.Ns C m' → NsP m' → News h₀ L h ((D, lst ys) :: news) → Off3 I C D news → Inv n ys news → R (.ok .next) { s₁ with heap := h, toks := tk })
    {h : Heap} {tk : Nat} {m' : Str → Option Value} {ys : List Value} {news : List (Addr × Obj)} (hst : St 0 h) (F : Fr h₀ L h m) (hn : h.Ns C m') (hP : NsP m') (N : News h₀ L h ((D, lst ys) :: news)) (off : Off3 I C D news) (h0 : Inv 0 ys news) :
    codeAny (model prog w) A (.compLoop e d (.ref I) (.ref D) env) R { s₁ with heap := h, toks := tk } := by
  have kept : ∀ {h h₂ : Heap} {ys : List Value} {news : List (Addr × Obj)} {m' : Str → Option Value}, (∀ b o, b ∉ [I] → h.get? b = some o → h₂.get? b = some o) → Fr h₀ L h m → h.Ns C m' → News h₀ L h ((D, lst ys) :: news) → Off3 I C D news →
      Fr h₀ L h₂ m ∧ h₂.Ns C m' ∧ News h₀ L h₂ ((D, lst ys) :: news) := fun hk F hn N off => by
    have off3 := off.mem
    exact ⟨LCg.fr_but F hk ap.LI ap.I0, hn.at' fun o e => hk _ o (by simpa using Ne.symm ap.IC) e, LCg.news_but N hk fun p hp => by
      rcases List.mem_cons.mp hp with rfl | hp
      · exact Ne.symm ap.ID
      · exact (off3 p hp).1⟩
  refine loop_G rule W (fun i s => ∃ h tk ys m' news, s = { s₁ with heap := h, toks := tk } ∧ St i h ∧ Fr h₀ L h m ∧ h.Ns C m' ∧ NsP m' ∧ News h₀ L h ((D, lst ys) :: news) ∧ Off3 I C D news ∧ Inv i ys news) ?_ ?_ ?_ 0 (Nat.zero_le _)
    ⟨h, tk, ys, m', news, rfl, hst, F, hn, hP, N, off, h0⟩
  · rintro i s ⟨_, _, _, _, _, rfl, hst, _⟩; exact hst
  · rintro i v s h₂ tk₂ EE hi ⟨h, tk, ys, m', news, rfl, hst, F, hn, hP, N, off, hI⟩ hPv hst₂ hk
    obtain ⟨F₂, hn₂, N₂⟩ := kept hk F hn N off
    refine hasg i v ys news m' h₂ tk₂ _ _ hi hPv hI hn₂ hP F₂ N₂ off hst₂ fun h₃ m₃ tk₃ news₃ hst₃ hn₃ hM F₃ N₃ off₃ => ?_
    obtain ⟨oI, heI⟩ := hIo _ _ hst₃
    obtain ⟨oC, heC, hoC⟩ := ns_obj hn₃
    have N₄ : News h₀ L h₃ ((I, oI) :: (C, oC) :: (D, lst ys) :: news₃) := fun p hp => by
      rcases List.mem_cons.mp hp with rfl | hp
      · exact ⟨heI, Ne.symm ap.LI, ap.I0⟩
      · rcases List.mem_cons.mp hp with rfl | hp
        · exact ⟨heC, ap.CL, ap.C0⟩
        · exact N₃ p hp
    have back : ∀ s₄, EndB h₀ L m s₁ I oI C D NsP (Inv (i + 1)) s₄ → ∃ h tk ys m' news, s₄ = { s₁ with heap := h, toks := tk } ∧ St (i + 1) h ∧ Fr h₀ L h m ∧ h.Ns C m' ∧ NsP m' ∧ News h₀ L h ((D, lst ys) :: news) ∧ Off3 I C D news ∧ Inv (i + 1) ys news := by
      rintro s₄ ⟨h₄, tk₄, ys₄, oC₄, m₄, news₄, rfl, hoC₄, hP₄, F₄, N₄, off₄, hI₄⟩
      refine ⟨h₄, tk₄, ys₄, m₄, news₄, rfl, hSt _ _ _ _ _ hst₃ heI (N₄ (I, oI) List.mem_cons_self).1 F₄.keep (fun p hp => N₄ p (List.mem_cons_of_mem _ (List.mem_cons_of_mem _ (List.mem_cons_of_mem _ hp)))) (hS _ _ _ hI₄), F₄,
        hoC₄.ns (N₄ (C, oC₄) (List.mem_cons_of_mem _ List.mem_cons_self)).1, hP₄, fun p hp => N₄ p (List.mem_cons_of_mem _ (List.mem_cons_of_mem _ hp)), off₄, hI₄⟩
    refine wpAny_mono (turn i v oI oC m₃ h₃ tk₃ ys news₃ EE hi hPv hM hoC F₃ N₄ off₃) (fun ok s₃ h₃' => ?_) fun _ _ e => e
    cases ok with
    | false => simp only [Bool.false_eq_true, if_false] at h₃' ⊢; exact back _ h₃'
    | true => simp only [if_true] at h₃' ⊢; exact wpAny_mono h₃' (fun _ s₄ h₄ => back _ h₄) fun _ _ e => e
  · rintro s h₂ tk₂ ⟨h, tk, ys, m', news, rfl, hst, F, hn, hP, N, off, hI⟩ hk
    obtain ⟨F₂, hn₂, N₂⟩ := kept hk F hn N off
    exact fin h₂ tk₂ m' ys news F₂ hn₂ hP N₂ off hI
/-- a local name is the target -/
theorem asg_name {I C D : Addr} {x : Str} {px : Pos} {scope : Scope} {cl : List (Str × Addr)} {fp : List Addr} {n : Nat} {P : Nat → Value → Prop} {St : Nat → Heap → Prop} {Inv : Nat → List Value → List (Addr × Obj) → Prop} {NsP : (Str → Option Value) → Prop}
    (W : Walks prog w A I fp [I] n P St) (ap : Apart3 h₀ L I C D fp) (hkind : scope.kind = .function) (hx : scope.names.lookup x = some .local) (hNs : ∀ m v, NsP m → NsP (fun y => if y = x then some v else m y)) :
    ∀ i v ys news m' h tk (Q : Unit → Shared → Prop) EE, i < n → P i v → Inv i ys news → h.Ns C m' → NsP m' → Fr h₀ L h m → News h₀ L h ((D, lst ys) :: news) → Off3 I C D news → St (i + 1) h →
      (∀ h₃ m₃ tk₃ news₃, St (i + 1) h₃ → h₃.Ns C m₃ → (Inv i ys news₃ ∧ m₃ x = some v ∧ NsP m₃) → Fr h₀ L h₃ m → News h₀ L h₃ ((D, lst ys) :: news₃) → Off3 I C D news₃ → Q () { s₁ with heap := h₃, toks := tk₃ }) →
      wpAny (model prog w) A (assign (.Name x px) (compEnvC scope cl C env) v) Q EE { s₁ with heap := h, toks := tk } := by
  intro i v ys news m' h tk Q EE hi hPv hI hn hP F N off hst q
  refine wpAny_assign_Name (wpAny_storeName_local (lookup_relabel_local hx) hn (fun h₃ hn₃ hs₃ => ?_) (by simp [compEnvC, relabel, hkind]))
  have off3 := off.mem
  refine q h₃ _ _ news (W.frame _ _ _ hst fun b hb o e => hs₃.extBut b o (fun q => ap.Cf (by have q' : b = C := q; rw [← q']; exact hb)) e) hn₃ ⟨hI, by simp, hNs _ _ hP⟩ (F.change hs₃ ap.CL ap.C0) (fun p hp => ?_) off
  have z := N p hp
  refine ⟨hs₃.extBut _ _ ?_ z.1, z.2⟩
  rcases List.mem_cons.mp hp with rfl | hp
  · exact Ne.symm ap.CD
  · exact (off3 p hp).2.1
/-- two local names in a tuple are the target; the tuples lie in the ledger -/
theorem asg_pair {I C D : Addr} {x x₂ : Str} {px px₂ tp : Pos} {tk0} {scope : Scope} {cl : List (Str × Addr)} {fp : List Addr} {n : Nat} {P : Nat → Value → Prop} {St : Nat → Heap → Prop} {Inv : Nat → List Value → List (Addr × Obj) → Prop} {V : Nat → Value → Value → Prop}
    (W : Walks prog w A I fp [I] n P St) (ap : Apart3 h₀ L I C D fp) (hh : A.handled = none) (hLI : ∀ i h, St i h → ∃ l j, h.IsListIter I l j) (hkind : scope.kind = .function) (hx : scope.names.lookup x = some .local) (hx₂ : scope.names.lookup x₂ = some .local) (hxx : x ≠ x₂)
    (hT : ∀ i v ys news, P i v → Inv i ys news → ∃ t v₁ v₂ nt, v = .ref t ∧ (t, ({ cls := .type "tuple", data := .seq #[v₁, v₂] nt } : Obj)) ∈ news ∧ V i v₁ v₂) :
    ∀ i v ys news m' h tk (Q : Unit → Shared → Prop) EE, i < n → P i v → Inv i ys news → h.Ns C m' → True → Fr h₀ L h m → News h₀ L h ((D, lst ys) :: news) → Off3 I C D news → St (i + 1) h →
      (∀ h₃ m₃ tk₃ news₃, St (i + 1) h₃ → h₃.Ns C m₃ → (Inv i ys news₃ ∧ ∃ v₁ v₂, V i v₁ v₂ ∧ m₃ x = some v₁ ∧ m₃ x₂ = some v₂) → Fr h₀ L h₃ m → News h₀ L h₃ ((D, lst ys) :: news₃) → Off3 I C D news₃ → Q () { s₁ with heap := h₃, toks := tk₃ }) →
      wpAny (model prog w) A (do letOwnedTupleGo (.Tuple [.Name x px, .Name x₂ px₂] tk0 tp) (.ref I) v; assign (.Tuple [.Name x px, .Name x₂ px₂] tk0 tp) (compEnvC scope cl C env) v) Q EE { s₁ with heap := h, toks := tk } := by
  intro i v ys news m' h tk Q EE hi hPv hI hn _ F N off hst q
  obtain ⟨t, v₁, v₂, nt, rfl, hmt, hV⟩ := hT i v ys news hPv hI
  have off3 := off.mem
  have ht : IsTup h t #[v₁, v₂] := ⟨_, (N _ (List.mem_cons_of_mem _ hmt)).1, rfl, nt, rfl⟩
  obtain ⟨lI, jI, hLi⟩ := hLI _ _ hst
  refine wpAny_bind (wpAny_letOwnedTupleGo_listiter hLi ?_)
  refine assign_Tuple_tuple hh ht rfl rfl fun h₅ he => ?_
  have he' : ∀ b o, h.get? b = some o → h₅.get? b = some o := fun b o e => he b o (Nat.ne_of_lt (Heap.lt_size e)) e
  refine assignInOrder_cons (wpAny_assign_Name (wpAny_storeName_local (lookup_relabel_local hx) (hn.at' fun o e => he' _ o e) (fun h₆ hn₆ hs₆ => ?_) (by simp [compEnvC, relabel, hkind])))
  refine assignInOrder_cons (wpAny_assign_Name (wpAny_storeName_local (lookup_relabel_local hx₂) hn₆ (fun h₃ hn₃ hs₃ => ?_) (by simp [compEnvC, relabel, hkind])))
  refine assignInOrder_nil ?_
  have old3 : ∀ b o, b ≠ C → h.get? b = some o → h₃.get? b = some o := fun b o hb e => hs₃.extBut b o hb (hs₆.extBut b o hb (he' b o e))
  refine q h₃ _ _ news (W.frame _ _ _ hst fun b hb o e => old3 b o (fun q => ap.Cf (by rw [← q]; exact hb)) e) hn₃ ⟨hI, v₁, v₂, hV, by simp [hxx], by simp⟩ (((F.keeps he').change hs₆ ap.CL ap.C0).change hs₃ ap.CL ap.C0) (fun p hp => ?_) off
  have z := N p hp
  refine ⟨old3 _ _ ?_ z.1, z.2⟩
  rcases List.mem_cons.mp hp with rfl | hp
  · exact Ne.symm ap.CD
  · exact (off3 p hp).2.1
/-- a name that is a cell is the target; its cell heads the ledger -/
theorem asg_cell {I C D cq : Addr} {x : Str} {px : Pos} {fp : List Addr} {n : Nat} {P : Nat → Value → Prop} {St : Nat → Heap → Prop} {Inv : Nat → List Value → List (Addr × Obj) → Prop}
    (W : Walks prog w A I fp [I] n P St) (ap : Apart3 h₀ L I C D fp) (hkind : cenv.scope.kind = .function) (hx : cenv.kindOf x = some .cell) (hc : cenv.cells.lookup x = some cq) (hcf : cq ∉ fp) (hcL : (@Ne Nat cq L)) (hc0 : h₀.get? cq = none) (hcC : (@Ne Nat cq C))
    (hsp : ∀ i ys nw, Inv i ys nw → ∃ oq nw', nw = (cq, oq) :: nw' ∧ (∃ v, oq.data = .cell v) ∧ Off1 cq nw' ∧ (@Ne Nat D cq)) (hup : ∀ i ys oq oq' nw', Inv i ys ((cq, oq) :: nw') → (∃ v, oq'.data = .cell v) → Inv i ys ((cq, oq') :: nw')) :
    ∀ i v ys news m' h tk (Q : Unit → Shared → Prop) EE, i < n → P i v → Inv i ys news → h.Ns C m' → True → Fr h₀ L h m → News h₀ L h ((D, lst ys) :: news) → Off3 I C D news → St (i + 1) h →
      (∀ h₃ m₃ tk₃ news₃, St (i + 1) h₃ → h₃.Ns C m₃ → (Inv i ys news₃ ∧ ∃ oq nw', news₃ = (cq, oq) :: nw' ∧ oq.data = .cell (some v)) → Fr h₀ L h₃ m → News h₀ L h₃ ((D, lst ys) :: news₃) → Off3 I C D news₃ → Q () { s₁ with heap := h₃, toks := tk₃ }) →
      wpAny (model prog w) A (assign (.Name x px) cenv v) Q EE { s₁ with heap := h, toks := tk } := by
  intro i v ys news m' h tk Q EE hi hPv hI hn _ F N off hst q
  obtain ⟨oq, nw', rfl, ⟨v₀, hv₀⟩, oq1, hDq⟩ := hsp _ _ _ hI
  have zq := N (cq, oq) (List.mem_cons_of_mem _ List.mem_cons_self)
  refine wpAny_assign_Name (wpAny_storeName_cell (v₀ := v₀) hkind hx hc ⟨oq, zq.1, hv₀⟩ fun h₃ hc₃ hs₃ => ?_)
  obtain ⟨oq', e', d'⟩ := hc₃
  refine q h₃ m' _ ((cq, oq') :: nw') (W.frame _ _ _ hst fun b hb o e => hs₃.extBut b o (fun q => hcf (by have q' : b = cq := q; rw [← q']; exact hb)) e) (hn.sameBut hs₃ (Ne.symm hcC)) ⟨hup _ _ _ _ _ hI ⟨_, d'⟩, oq', nw', rfl, d'⟩ (F.change hs₃ hcL hc0) (fun p hp => ?_) ⟨off.1, off.2⟩
  rcases List.mem_cons.mp hp with rfl | hp
  · have z := N (D, lst ys) List.mem_cons_self
    exact ⟨hs₃.extBut _ _ hDq z.1, z.2⟩
  · rcases List.mem_cons.mp hp with rfl | hp
    · exact ⟨e', hcL, hc0⟩
    · have z := N p (List.mem_cons_of_mem _ (List.mem_cons_of_mem _ hp))
      refine ⟨hs₃.extBut _ _ ?_ z.1, z.2⟩
      have : ∀ {l : List (Addr × Obj)}, Off1 cq l → ∀ p ∈ l, p.1 ≠ cq := by
        intro l
        induction l with
        | nil => intro _ p hp; cases hp
        | cons a r ih => intro x p hp; rcases List.mem_cons.mp hp with rfl | hp; exact x.1; exact ih x.2 p hp
      exact this oq1 p hp
/-- the element is reckoned and appended -/
theorem emit_V {elt : Expr} {I C D : Addr} {oI oC : Obj} {fp : List Addr} {m₂ : Str → Option Value} {NsP : (Str → Option Value) → Prop} {ys : List Value} {Inv' : List Value → List (Addr × Obj) → Prop} (ap : Apart3 h₀ L I C D fp) (hoC : NsObj oC m₂) (hP : NsP m₂) (hsz : ys.length ≤ sizeLine)
    (h : wpAny (model prog w) A (eval elt env) (fun y s₄ => TurnEnd h₀ L m s₁ I oI C oC D ys (Inv' (ys ++ [y])) s₄) E s) :
    wpAny (model prog w) A (emitB elt (.ref D) env) (fun _ s₄ => EndB h₀ L m s₁ I oI C D NsP Inv' s₄) E s := by
  unfold emitB
  refine wpAny_bind (wpAny_mono h (fun y s₄ h₄ => ?_) fun _ _ e => e)
  obtain ⟨h₄, tk₄, news₄, rfl, F₄, N₄, off₄, hI₄⟩ := h₄
  have zD := (N₄ (D, lst ys) (List.mem_cons_of_mem _ (List.mem_cons_of_mem _ List.mem_cons_self))).1
  refine wpAny_bind (append_at (hsz := by show ys.toArray.size ≤ sizeLine; rw [List.size_toArray]; exact hsz) zD fun h₅ hs₅ hD₅ => wpAny_pure ?_)
  have off4 := off₄.mem
  refine ⟨h₅, tk₄, ys ++ [y], oC, m₂, news₄, rfl, hoC, hP, F₄.change hs₅ ap.DL ap.D0, fun p hp => ?_, off₄, hI₄⟩
  rcases List.mem_cons.mp hp with rfl | hp'
  · exact ⟨hs₅.extBut _ _ ap.ID (N₄ _ (.head _)).1, (N₄ _ (.head _)).2⟩
  · rcases List.mem_cons.mp hp' with rfl | hp'
    · exact ⟨hs₅.extBut _ _ ap.CD (N₄ _ (.tail _ (.head _))).1, (N₄ _ (.tail _ (.head _))).2⟩
    · rcases List.mem_cons.mp hp' with rfl | hp'
      · exact ⟨hD₅.trans (congrArg some (lst_snoc ys y)), ap.DL, ap.D0⟩
      · have hp4 : p ∈ (I, oI) :: (C, oC) :: (D, lst ys) :: news₄ := List.mem_cons_of_mem _ (List.mem_cons_of_mem _ (List.mem_cons_of_mem _ hp'))
        exact ⟨hs₅.extBut _ _ (off4 p hp').2.2 (N₄ p hp4).1, (N₄ p hp4).2⟩
theorem endB_of {I C D : Addr} {oI oC : Obj} {m₂ : Str → Option Value} {NsP : (Str → Option Value) → Prop} {ys : List Value} {Inv' : List Value → List (Addr × Obj) → Prop} (hoC : NsObj oC m₂) (hP : NsP m₂)
    (h : TurnEnd h₀ L m s₁ I oI C oC D ys (Inv' ys) s) : EndB h₀ L m s₁ I oI C D NsP Inv' s := by
  obtain ⟨h₄, tk₄, news₄, rfl, F₄, N₄, off₄, hI₄⟩ := h
  exact ⟨h₄, tk₄, ys, oC, m₂, news₄, rfl, hoC, hP, F₄, N₄, off₄, hI₄⟩
end
end Mine
end
section
open PySem PySem.W PyProof.Rows PySem.Calls PyProof.Rows.LCg
set_option maxRecDepth 100000
namespace Mine
/-- a comprehension's surroundings, its cells told -/
def compEnvX (scope : Scope) (cl : List (Str × Addr)) (C : Addr) (env : Env) : Env := compEnvC scope cl C env
section
variable {prog : Program} {w : World} {A : Around} {E : Value → Shared → Prop} {s s₁ s₂ : Shared} {h₀ : Heap} {L : Addr} {m : Str → Option Value} {env : Env} {news : List (Addr × Obj)}
theorem newEnv_comp {scope : Scope} {cl : List (Str × Addr)} {Q : Env → Shared → Prop}
    (h : Q { scope := scope, locals := s.heap.objs.size, globals := env.globals, cells := cellsFrom (s.heap.objs.size + 1) scope.names cl, qual := env.qual, func := none, code := env.code, frame := env.frame, builtins := env.builtins }
      { s with heap := pushCells (s.heap.push { cls := .type "dict", data := .dict #[] }) scope.names }) :
    wpAny (model prog w) A (newFunctionEnv scope env.globals cl [] env.qual none .none (some env)) Q E s := by
  simp only [newFunctionEnv, Option.isSome_some, if_true]
  refine wpAny_bind (wpAny_alloc ?_)
  refine wpAny_bind (wpAny_layCells _ (fun name kind cells => by cases hkc : kind == NameKind.cell <;> simp [hkc]) _ _ _ _ ?_)
  rw [show ({ s with heap := s.heap.push { cls := .type "dict", data := .dict #[] } } : Shared).heap.objs.size = s.heap.objs.size + 1 from Heap.size_push ..]
  exact wpAny_bind (wpAny_pure (wpAny_pure h))
theorem fresh_ge {h : Heap} {a : Addr} (ha : h.objs.size ≤ a) : h.get? a = none := Heap.get?_none_of_le ha
theorem base_fresh {h : Heap} {a : Addr} (F : Fr h₀ L h m) (ha : h.objs.size ≤ a) : h₀.get? a = none := by
  cases e : h₀.get? a with
  | none => rfl
  | some o' => have := F.keep a o' e; rw [fresh_ge ha] at this; cases this
/-- the list and the frame of a comprehension are made -/
theorem frame_V {scope : Scope} {cl : List (Str × Addr)} {K : Value → Env → Shared → Prop} {I : Addr} {fp : List Addr} {St : Nat → Heap → Prop} {n : Nat} {P : Nat → Value → Prop} (W : Walks prog w A I fp [I] n P St)
    (hc1 : ∀ k, cellsFrom k scope.names cl = cl) (hc2 : ∀ h, pushCells h scope.names = h) (hst : St 0 s₂.heap) (hfp : ∀ b ∈ fp, b < s₂.heap.objs.size) (F : Fr h₀ L s₂.heap m) (N : News h₀ L s₂.heap news) (hIL : L ≠ I) (hI₀ : h₀.get? I = none) (off : ∀ p ∈ news, p.1 ≠ I)
    (k : ∀ D C h₁, Apart3 h₀ L I C D fp → St 0 h₁ → Fr h₀ L h₁ m → h₁.Ns C (fun _ => none) → News h₀ L h₁ ((D, lst []) :: news) → Off3 I C D news →
      K (.ref D) { scope := scope, locals := C, globals := env.globals, cells := cl, qual := env.qual, func := none, code := env.code, frame := env.frame, builtins := env.builtins } { s₂ with heap := h₁ }) :
    wpAny (model prog w) A (newList []) (fun acc s₃ => wpAny (model prog w) A (newFunctionEnv scope env.globals cl [] env.qual none .none (some env)) (fun cenv s₄ => K acc cenv s₄) E s₃) E s₂ := by
  refine wpAny_newObj_type (newEnv_comp ?_)
  rw [hc1, hc2]
  dsimp only
  generalize hH1 : s₂.heap.push { cls := .type "list", dict := none, data := .seq ([] : List Value).toArray } = H1
  have z1 : H1.objs.size = s₂.heap.objs.size + 1 := by rw [← hH1, Heap.size_push]
  have old1 : ∀ b o, s₂.heap.get? b = some o → H1.get? b = some o := fun b o e => by rw [← hH1]; exact Heap.get?_push_of_some _ e
  have old : ∀ b o, s₂.heap.get? b = some o → (H1.push { cls := .type "dict", data := .dict #[] }).get? b = some o := fun b o e => Heap.get?_push_of_some _ (old1 b o e)
  have hIf : I ∈ fp := W.sub I (List.mem_singleton.mpr rfl)
  have hI := hfp I hIf
  have hD : (H1.push { cls := .type "dict", data := .dict #[] }).get? s₂.heap.objs.size = some (lst []) := Heap.get?_push_of_some _ (by rw [← hH1]; exact Heap.get?_push_size _ rfl)
  have hLlt : L < s₂.heap.objs.size := F.ns.lt
  have nlt : ∀ {a b : Nat}, a < b → a ≠ b := fun h => Nat.ne_of_lt h
  have ap : Apart3 h₀ L I H1.objs.size s₂.heap.objs.size fp := {
    IC := by rw [z1]; exact nlt (Nat.lt_succ_of_lt hI)
    ID := nlt hI
    CD := by rw [z1]; exact Ne.symm (nlt (Nat.lt_succ_self _))
    LI := hIL
    CL := by rw [z1]; exact Ne.symm (nlt (Nat.lt_succ_of_lt hLlt))
    DL := Ne.symm (nlt hLlt)
    I0 := hI₀
    C0 := base_fresh F (by rw [z1]; exact Nat.le_succ _)
    D0 := base_fresh F (Nat.le_refl _)
    Cf := fun hm => by have := hfp _ hm; rw [z1] at this; exact Nat.lt_irrefl _ (Nat.lt_of_succ_lt this)
    Df := fun hm => Nat.lt_irrefl _ (hfp _ hm) }
  refine k _ _ _ ap (W.frame _ _ _ hst fun b _ o e => old b o e) (F.keeps old) (Heap.Ns.new H1 (.type "dict")) (fun p hp => ?_) (Off3.of fun p hp => ?_)
  · rcases List.mem_cons.mp hp with rfl | hp
    · exact ⟨hD, ap.DL, ap.D0⟩
    · exact ⟨old _ _ (N p hp).1, (N p hp).2⟩
  · have := Heap.lt_size (N p hp).1
    exact ⟨off p hp, by rw [z1]; exact nlt (Nat.lt_succ_of_lt this), nlt this⟩
/-- the same, where one name is a cell -/
theorem frame_C {scope : Scope} {cl : List (Str × Addr)} {x : Str} {K : Value → Env → Shared → Prop} {I : Addr} {fp : List Addr} {St : Nat → Heap → Prop} {n : Nat} {P : Nat → Value → Prop} (W : Walks prog w A I fp [I] n P St)
    (hc1 : ∀ k, cellsFrom k scope.names cl = (x, k) :: cl) (hc2 : ∀ h, pushCells h scope.names = h.push { cls := .type "cell", data := .cell none }) (hst : St 0 s₂.heap) (hfp : ∀ b ∈ fp, b < s₂.heap.objs.size) (F : Fr h₀ L s₂.heap m) (N : News h₀ L s₂.heap news) (hIL : L ≠ I) (hI₀ : h₀.get? I = none) (off : ∀ p ∈ news, p.1 ≠ I)
    (k : ∀ D C cq h₁, Apart3 h₀ L I C D fp → cq ∉ fp → (@Ne Nat cq L) → h₀.get? cq = none → (@Ne Nat cq C) → (@Ne Nat D cq) → Off1 cq news → St 0 h₁ → Fr h₀ L h₁ m → h₁.Ns C (fun _ => none) →
      News h₀ L h₁ ((D, lst []) :: (cq, { cls := .type "cell", data := .cell none }) :: news) → Off3 I C D ((cq, { cls := .type "cell", data := .cell none }) :: news) →
      K (.ref D) { scope := scope, locals := C, globals := env.globals, cells := (x, cq) :: cl, qual := env.qual, func := none, code := env.code, frame := env.frame, builtins := env.builtins } { s₂ with heap := h₁ }) :
    wpAny (model prog w) A (newList []) (fun acc s₃ => wpAny (model prog w) A (newFunctionEnv scope env.globals cl [] env.qual none .none (some env)) (fun cenv s₄ => K acc cenv s₄) E s₃) E s₂ := by
  refine wpAny_newObj_type (newEnv_comp ?_)
  rw [hc1, hc2]
  dsimp only
  generalize hH1 : s₂.heap.push { cls := .type "list", dict := none, data := .seq ([] : List Value).toArray } = H1
  generalize hH2 : H1.push { cls := .type "dict", data := .dict #[] } = H2
  have z1 : H1.objs.size = s₂.heap.objs.size + 1 := by rw [← hH1, Heap.size_push]
  have z2 : H2.objs.size = H1.objs.size + 1 := by rw [← hH2, Heap.size_push]
  have old1 : ∀ b o, s₂.heap.get? b = some o → H1.get? b = some o := fun b o e => by rw [← hH1]; exact Heap.get?_push_of_some _ e
  have old2 : ∀ b o, H1.get? b = some o → H2.get? b = some o := fun b o e => by rw [← hH2]; exact Heap.get?_push_of_some _ e
  have old3 : ∀ b o, H2.get? b = some o → (H2.push { cls := .type "cell", data := .cell none }).get? b = some o := fun b o e => Heap.get?_push_of_some _ e
  have old : ∀ b o, s₂.heap.get? b = some o → (H2.push { cls := .type "cell", data := .cell none }).get? b = some o := fun b o e => old3 _ _ (old2 _ _ (old1 b o e))
  have hIf : I ∈ fp := W.sub I (List.mem_singleton.mpr rfl)
  have hI := hfp I hIf
  have hLlt : L < s₂.heap.objs.size := F.ns.lt
  have nlt : ∀ {a b : Nat}, a < b → a ≠ b := fun h => Nat.ne_of_lt h
  have hns : (H2.push { cls := .type "cell", data := .cell none }).Ns H1.objs.size (fun _ => none) := by
    have := Heap.Ns.new H1 (.type "dict")
    rw [hH2] at this
    exact this.at' fun o e => old3 _ _ e
  have ap : Apart3 h₀ L I H1.objs.size s₂.heap.objs.size fp := {
    IC := by rw [z1]; exact nlt (Nat.lt_succ_of_lt hI)
    ID := nlt hI
    CD := by rw [z1]; exact Ne.symm (nlt (Nat.lt_succ_self _))
    LI := hIL
    CL := by rw [z1]; exact Ne.symm (nlt (Nat.lt_succ_of_lt hLlt))
    DL := Ne.symm (nlt hLlt)
    I0 := hI₀
    C0 := base_fresh F (by rw [z1]; exact Nat.le_succ _)
    D0 := base_fresh F (Nat.le_refl _)
    Cf := fun hm => by have := hfp _ hm; rw [z1] at this; exact Nat.lt_irrefl _ (Nat.lt_of_succ_lt this)
    Df := fun hm => Nat.lt_irrefl _ (hfp _ hm) }
  have q : s₂.heap.objs.size < H1.objs.size + 1 := by rw [z1]; exact Nat.lt_succ_of_lt (Nat.lt_succ_self _)
  have q2 : s₂.heap.objs.size < H2.objs.size := by rw [z2]; exact q
  have cqL : (@Ne Nat (H1.objs.size + 1) L) := Ne.symm (nlt (Nat.lt_trans hLlt q))
  have cq0 : h₀.get? (H1.objs.size + 1) = none := base_fresh F (Nat.le_of_lt q)
  have offq : ∀ p ∈ news, (@Ne Nat p.1 (H1.objs.size + 1)) := fun p hp => nlt (Nat.lt_trans (Heap.lt_size (N p hp).1) q)
  refine k _ _ _ _ ap (fun hm => absurd (hfp _ hm) (Nat.not_lt.mpr (Nat.le_of_lt q))) cqL cq0 (Ne.symm (nlt (Nat.lt_succ_self _))) (nlt q) ?_ (W.frame _ _ _ hst fun b _ o e => old b o e) (F.keeps old) hns (fun p hp => ?_) (Off3.of fun p hp => ?_)
  · have : ∀ {l : List (Addr × Obj)}, (∀ p ∈ l, (@Ne Nat p.1 (H1.objs.size + 1))) → Off1 (H1.objs.size + 1) l := by
      intro l
      induction l with
      | nil => intro _; trivial
      | cons a r ih => intro h; exact ⟨h a (.head _), ih fun p hp => h p (.tail _ hp)⟩
    exact this offq
  · rcases List.mem_cons.mp hp with rfl | hp
    · exact ⟨old3 _ _ (old2 _ _ (by rw [← hH1]; exact Heap.get?_push_size _ rfl)), ap.DL, ap.D0⟩
    · rcases List.mem_cons.mp hp with rfl | hp
      · exact ⟨by rw [← z2]; exact Heap.get?_push_size _ rfl, cqL, cq0⟩
      · exact ⟨old _ _ (N p hp).1, (N p hp).2⟩
  · rcases List.mem_cons.mp hp with rfl | hp
    · exact ⟨Ne.symm (nlt (Nat.lt_trans hI q)), Ne.symm (nlt (Nat.lt_succ_self _)), Ne.symm (nlt q)⟩
    · have := Heap.lt_size (N p hp).1
      exact ⟨off p hp, by rw [z1]; exact nlt (Nat.lt_succ_of_lt this), nlt this⟩
/-- what is wanted behind a comprehension's loop -/
def RROK (h₀ : Heap) (L : Addr) (m : Str → Option Value) (s₁ : Shared) (G : List Value → List (Addr × Obj) → Prop) (RR : Value → Addr → Result → Shared → Prop) : Prop :=
  ∀ D C h tk m' ys news', Fr h₀ L h m → News h₀ L h ((D, lst ys) :: news') → Off1 D news' → h.Ns C m' → h₀.get? C = none → h₀.get? D = none → C ≠ L → D ≠ L → C ≠ D → (∀ p ∈ news', p.1 ≠ C) → G ys news' → RR (.ref D) C (.ok .next) { s₁ with heap := h, toks := tk }
def BlkV (prog : Program) (w : World) (A : Around) (h₀ : Heap) (L : Addr) (m : Str → Option Value) (env : Env) (e : Expr) (scope : Scope) (cl : List (Str × Addr)) (G : List Value → List (Addr × Obj) → Prop) (xv : Value) (s₁ : Shared) : Prop :=
  ∀ RR E, RROK h₀ L m s₁ G RR → wpAny (model prog w) A (pyIter xv) (fun it s₂ => wpAny (model prog w) A (newList []) (fun acc s₃ => wpAny (model prog w) A (newFunctionEnv scope env.globals cl [] env.qual none .none (some env)) (fun cenv s₄ =>
      codeAny (model prog w) A (.compStart e 0 it acc { cenv with scope := relabel scope env }) (RR acc cenv.locals) s₄) E s₃) E s₂) E s₁
theorem rr_fin {I C D : Addr} {fp : List Addr} {G : List Value → List (Addr × Obj) → Prop} {RR : Value → Addr → Result → Shared → Prop} (ok : RROK h₀ L m s₁ G RR) (ap : Apart3 h₀ L I C D fp) :
    ∀ h tk m' ys news, Fr h₀ L h m → h.Ns C m' → True → News h₀ L h ((D, lst ys) :: news) → Off3 I C D news → G ys news → RR (.ref D) C (.ok .next) { s₁ with heap := h, toks := tk } :=
  fun h tk m' ys news F hn _ N off hG => ok D C h tk m' ys news F N off.one hn ap.C0 ap.D0 ap.CL ap.DL ap.CD (fun p hp => (off.mem p hp).2.1) hG
section
variable {n : Nat} {P : Nat → Value → Prop} {S : List (Addr × Obj) → Prop} {xv : Value} {Inv : Nat → List Value → List (Addr × Obj) → Prop}
/-- one clause, a local name -/
theorem blk_V {elt iter : Expr} {ifs : List Expr} {x : Str} {px : Pos} {scope : Scope} {cl : List (Str × Addr)} {pos : Pos} (src : SrcOf prog w A h₀ L m xv s₁ news n P S)
    (hc1 : ∀ k, cellsFrom k scope.names cl = cl) (hc2 : ∀ h, pushCells h scope.names = h) (hkind : scope.kind = .function) (hx : scope.names.lookup x = some .local)
    (hsz : ∀ i ys nw, i < n → Inv i ys nw → ys.length ≤ sizeLine) (hS : ∀ i ys nw, Inv i ys nw → S nw) (h0 : Inv 0 [] news) (R : TurnV prog w A h₀ L m env elt ifs x scope cl s₁ n P Inv) :
    BlkV prog w A h₀ L m env (.ListComp elt [⟨.Name x px, iter, ifs, 0⟩] scope pos) scope cl (Inv n) xv s₁ := by
  intro RR E ok
  refine src _ _ fun I fp St g W hIo hSt hst hfp F N hIL hI₀ off => ?_
  refine frame_V W hc1 hc2 hst hfp F N hIL hI₀ off fun D C h₁ ap hst₁ F₁ hn₁ N₁ off₁ => ?_
  have L0 := loop_V (s₁ := s₁) (R := RR (.ref D) C) (NsP := fun _ => True) (Mid := fun i v m₃ ys news => Inv i ys news ∧ m₃ x = some v ∧ True) (tk := s₁.toks) (rule_one (iter := iter) (scope := scope) (pos := pos) (px := px) (elt := elt) (env := compEnvC scope cl C env)) W ap hIo hSt hS (asg_name W ap hkind hx fun _ _ _ => trivial)
    (fun i v oI oC m₂ h tk ys news EE hi hP hM hoC F N off => wpAny_mono (R i v I oI C oC D m₂ h tk ys news EE hi hP hM.1 hoC hM.2.1 F N off ⟨ap.IC, ap.ID, ap.CD⟩) (fun okk s₃ h₃ => by
      cases okk with
      | false => simp only [Bool.false_eq_true, if_false] at h₃ ⊢; exact endB_of hoC trivial h₃
      | true => simp only [if_true] at h₃ ⊢; exact emit_V ap hoC trivial (hsz _ _ _ hi hM.1) h₃) fun _ _ e => e) (rr_fin ok ap) hst₁ F₁ hn₁ trivial N₁ off₁ h0
  exact codeAny_compStart_list L0 (W.self 0 _ _ _ hst₁ L0)
end
end
end Mine
end
section
open PySem PySem.W PyProof.Rows PySem.Calls PyProof.Rows.LCg
set_option maxRecDepth 100000
namespace Mine
/-- what is iterated, of a list: the iterator is a list's -/
def SrcLi (prog : Program) (w : World) (A : Around) (h₀ : Heap) (L : Addr) (m : Str → Option Value) (xv : Value) (s₁ : Shared) (news : List (Addr × Obj)) (n : Nat) (P : Nat → Value → Prop) (S : List (Addr × Obj) → Prop) : Prop :=
  ∀ (Q' : Value → Shared → Prop) (E : Value → Shared → Prop), (∀ I fp (St : Nat → Heap → Prop) h', Walks prog w A I fp [I] n P St → (∀ i h, St i h → ∃ o, h.get? I = some o) → (∀ i h, St i h → ∃ l j, h.IsListIter I l j) →
    (∀ i h h' o nw, St i h → h.get? I = some o → h'.get? I = some o → (∀ b o, h₀.get? b = some o → h'.get? b = some o) → News h₀ L h' nw → S nw → St i h') → St 0 h' → (∀ b ∈ fp, b < h'.objs.size) →
    Fr h₀ L h' m → News h₀ L h' news → L ≠ I → h₀.get? I = none → (∀ p ∈ news, p.1 ≠ I) → Q' (.ref I) { s₁ with heap := h' }) → wpAny (model prog w) A (pyIter xv) Q' E s₁
/-- the same, of a range: only the iterator is read -/
def SrcRa (prog : Program) (w : World) (A : Around) (h₀ : Heap) (L : Addr) (m : Str → Option Value) (xv : Value) (s₁ : Shared) (news : List (Addr × Obj)) (n : Nat) (P : Nat → Value → Prop) : Prop :=
  ∀ (Q' : Value → Shared → Prop) (E : Value → Shared → Prop), (∀ I (St : Nat → Heap → Prop) h', Walks prog w A I [I] [I] n P St → (∀ i h, St i h → ∃ o, h.get? I = some o) →
    (∀ i h h' o nw, St i h → h.get? I = some o → h'.get? I = some o → (∀ b o, h₀.get? b = some o → h'.get? b = some o) → News h₀ L h' nw → True → St i h') → St 0 h' →
    Fr h₀ L h' m → News h₀ L h' news → L ≠ I → h₀.get? I = none → (∀ p ∈ news, p.1 ≠ I) → Q' (.ref I) { s₁ with heap := h' }) → wpAny (model prog w) A (pyIter xv) Q' E s₁
/-- a clause within a clause: what is asked where the inner source stands -/
inductive InnerV (prog : Program) (w : World) (A : Around) (h₀ : Heap) (L : Addr) (m : Str → Option Value) (cenv : Env) (elt : Expr) (f1 : List Expr) (x0 x1 : Str) (s₁ : Shared) (I : Addr) (oI : Obj) (C D : Addr) (v0 : Value) (Inv' : List Value → List (Addr × Obj) → Prop) (xv : Value) (s₄ : Shared) : Prop
  | mk (h4 : Heap) (tk4 n1 : Nat) (P1 : Nat → Value → Prop) (Inv1 : Nat → List Value → List (Addr × Obj) → Prop) (ys : List Value) (oC : Obj) (m₂ : Str → Option Value) (nw : List (Addr × Obj)) (g0 : s₄ = { s₁ with heap := h4, toks := tk4 }) (g1 : NsObj oC m₂) (g2 : m₂ x0 = some v0) (g3 : SrcRa prog w A h₀ L m xv s₄ ((I, oI) :: (C, oC) :: (D, lst ys) :: nw) n1 P1) (g4 : Off3 I C D nw) (g5 : (∀ i ys nw, i < n1 → Inv1 i ys nw → ys.length ≤ sizeLine)) (g6 : Inv1 0 ys nw) (g7 : (∀ i ys nw, Inv1 i ys nw → Off1 I nw)) (g8 : (∀ ys nw, Inv1 n1 ys nw → Inv' ys nw)) (g9 : ∀ i v I1 oI1 oC1 m1 h tk ys nw (E' : Value → Shared → Prop), i < n1 → P1 i v → Inv1 i ys nw → NsObj oC1 m1 → m1 x1 = some v → m1 x0 = some v0 → Fr h₀ L h m → News h₀ L h ((I1, oI1) :: (C, oC1) :: (D, lst ys) :: (I, oI) :: nw) → Off3 I1 C D ((I, oI) :: nw) → ((@Ne Nat I1 C) ∧ (@Ne Nat I1 D) ∧ (@Ne Nat C D)) → wpAny (model prog w) A (testsT f1 cenv) (fun ok s₃ => if ok = true then wpAny (model prog w) A (eval elt cenv) (fun y s₅ => TurnEnd h₀ L m { s₁ with heap := h, toks := tk } I1 oI1 C oC1 D ys (fun nw' => ∃ nw, nw' = (I, oI) :: nw ∧ Inv1 (i + 1) (ys ++ [y]) nw) s₅) E' s₃ else TurnEnd h₀ L m { s₁ with heap := h, toks := tk } I1 oI1 C oC1 D ys (fun nw' => ∃ nw, nw' = (I, oI) :: nw ∧ Inv1 (i + 1) ys nw) s₃) E' { s₁ with heap := h, toks := tk }) : InnerV prog w A h₀ L m cenv elt f1 x0 x1 s₁ I oI C D v0 Inv' xv s₄
section
variable {prog : Program} {w : World} {A : Around} {E : Value → Shared → Prop} {s s₁ s₂ : Shared} {h₀ : Heap} {L : Addr} {m : Str → Option Value} {env : Env} {news : List (Addr × Obj)}
theorem srcLi {ax : Addr} {its : Array Value} (hh : A.handled = none) (F : Fr h₀ L s₁.heap m) (N : News h₀ L s₁.heap news) (S : SrcAt h₀ ax its news) : SrcLi prog w A h₀ L m (.ref ax) s₁ news its.size (fun i v => its[i]? = some v) (SrcAt h₀ ax its) := by
  intro Q' E k
  have hl := S.list F.keep N
  have hlt : ax < s₁.heap.objs.size := by obtain ⟨_, e, _⟩ := hl; exact Heap.lt_size e
  refine wpAny_pyIter_list hl ?_
  have up : ∀ b o, s₁.heap.get? b = some o → (s₁.heap.push { cls := .type "list_iterator", data := .fields #[.ref ax, .int 0 0] }).get? b = some o := fun b o e => Heap.get?_push_of_some _ e
  refine k _ _ _ _ (Walks.list hh s₁.heap.objs.size ax (Nat.ne_of_lt hlt) its) (fun i h st => by obtain ⟨o, e, _⟩ := st.1; exact ⟨o, e⟩) (fun i h st => ⟨_, _, st.1⟩) list_st ⟨⟨_, Heap.get?_push_size _ rfl, rfl, rfl⟩, hl.push _⟩ (fun b hb => ?_)
      (F.keeps up) (N.grown up) (Nat.ne_of_lt F.ns.lt) (next_is_new F) (fun p hp => Nat.ne_of_lt (Heap.lt_size (N p hp).1))
  rw [Heap.size_push]
  rcases List.mem_cons.mp hb with rfl | hb
  · exact Nat.lt_succ_self _
  · rw [List.mem_singleton.mp hb]; exact Nat.lt_succ_of_lt hlt
theorem srcRa {r : Addr} {a b : Int} {t u v : Tok} {n : Nat} (hh : A.handled = none) (F : Fr h₀ L s₁.heap m) (N : News h₀ L s₁.heap news) (hr : IsRange s₁.heap r a b 1 t u v) (hsm : Builtin.Range.small a b 1 = true) (hn : Builtin.Range.rangeSize a b 1 = ((n : Nat) : Int)) :
    SrcRa prog w A h₀ L m (.ref r) s₁ news n (fun i v => ∃ t, v = .int (a + (i : Int)) t) := by
  intro Q' E k
  refine wpAny_pyIter_range hr hsm ?_
  exact k _ _ _ (range_walks hh a n) (fun i h st => ⟨_, st⟩) range_st (by show IsRangeIter _ _ _ _ _; rw [hn]; simpa using Heap.get?_push_size _ rfl)
      (F.keeps fun _ _ e => Heap.get?_push_of_some _ e) (N.grown fun _ _ e => Heap.get?_push_of_some _ e) (Nat.ne_of_lt F.ns.lt) (next_is_new F) (fun p hp => Nat.ne_of_lt (Heap.lt_size (N p hp).1))
section
variable {n : Nat} {P : Nat → Value → Prop} {S : List (Addr × Obj) → Prop} {xv : Value} {Inv : Nat → List Value → List (Addr × Obj) → Prop}
/-- a pair is the target -/
theorem blk_P {elt iter : Expr} {x x₂ : Str} {px px₂ tp : Pos} {tk0} {scope : Scope} {cl : List (Str × Addr)} {pos : Pos} {V : Nat → Value → Value → Prop} (hh : A.handled = none) (src : SrcLi prog w A h₀ L m xv s₁ news n P S)
    (hc1 : ∀ k, cellsFrom k scope.names cl = cl) (hc2 : ∀ h, pushCells h scope.names = h) (hkind : scope.kind = .function) (hx : scope.names.lookup x = some .local) (hx₂ : scope.names.lookup x₂ = some .local) (hxx : x ≠ x₂)
    (hT : ∀ i v ys news, P i v → Inv i ys news → ∃ t v₁ v₂ nt, v = .ref t ∧ (t, ({ cls := .type "tuple", data := .seq #[v₁, v₂] nt } : Obj)) ∈ news ∧ V i v₁ v₂)
    (hsz : ∀ i ys nw, i < n → Inv i ys nw → ys.length ≤ sizeLine) (hS : ∀ i ys nw, Inv i ys nw → S nw) (h0 : Inv 0 [] news)
    (R : ∀ i v₁ v₂ I oI C oC D m₂ h tk ys nw (E' : Value → Shared → Prop), i < n → V i v₁ v₂ → Inv i ys nw → NsObj oC m₂ → m₂ x = some v₁ → m₂ x₂ = some v₂ → Fr h₀ L h m → News h₀ L h ((I, oI) :: (C, oC) :: (D, lst ys) :: nw) → Off3 I C D nw → ((@Ne Nat I C) ∧ (@Ne Nat I D) ∧ (@Ne Nat C D)) →
      wpAny (model prog w) A (eval elt (compEnvC scope cl C env)) (fun y s₄ => TurnEnd h₀ L m { s₁ with heap := h, toks := tk } I oI C oC D ys (Inv (i + 1) (ys ++ [y])) s₄) E' { s₁ with heap := h, toks := tk }) :
    BlkV prog w A h₀ L m env (.ListComp elt [⟨.Tuple [.Name x px, .Name x₂ px₂] tk0 tp, iter, [], 0⟩] scope pos) scope cl (Inv n) xv s₁ := by
  intro RR E ok
  refine src _ _ fun I fp St g W hIo hLI hSt hst hfp F N hIL hI₀ off => ?_
  refine frame_V W hc1 hc2 hst hfp F N hIL hI₀ off fun D C h₁ ap hst₁ F₁ hn₁ N₁ off₁ => ?_
  have L0 := loop_V (s₁ := s₁) (R := RR (.ref D) C) (NsP := fun _ => True) (Mid := fun i v m₃ ys news => Inv i ys news ∧ ∃ v₁ v₂, V i v₁ v₂ ∧ m₃ x = some v₁ ∧ m₃ x₂ = some v₂) (tk := s₁.toks) (rule_tup (iter := iter) (scope := scope) (pos := pos) (elt := elt) (env := compEnvC scope cl C env)) W ap hIo hSt hS (asg_pair (px := px) (px₂ := px₂) (tp := tp) (tk0 := tk0) W ap hh hLI hkind hx hx₂ hxx hT)
    (fun i v oI oC m₂ h tk ys news EE hi hP ⟨hI, v₁, v₂, hV, e₁, e₂⟩ hoC F N off => wpAny_tests_nil (by
      simp only [if_true]
      exact emit_V ap hoC trivial (hsz _ _ _ hi hI) (R i v₁ v₂ I oI C oC D m₂ h tk ys news EE hi hV hI hoC e₁ e₂ F N off ⟨ap.IC, ap.ID, ap.CD⟩))) (rr_fin ok ap) hst₁ F₁ hn₁ trivial N₁ off₁ h0
  exact codeAny_compStart_list L0 (W.self 0 _ _ _ hst₁ L0)
/-- a name that is a cell is the target -/
theorem blk_C {elt iter : Expr} {x : Str} {px : Pos} {scope : Scope} {cl : List (Str × Addr)} {pos : Pos} (src : SrcOf prog w A h₀ L m xv s₁ news n P S)
    (hc1 : ∀ k, cellsFrom k scope.names cl = (x, k) :: cl) (hc2 : ∀ h, pushCells h scope.names = h.push { cls := .type "cell", data := .cell none }) (hkind : scope.kind = .function) (hx : (relabel scope env).names.lookup x = some .cell)
    (hsz : ∀ i ys nw, i < n → Inv i ys nw → ys.length ≤ sizeLine) (hS : ∀ i ys nw, Inv i ys nw → ∀ p, S (p :: nw)) (h0 : Inv 0 [] news)
    (R : ∀ i v I oI C oC cq oq D m₂ h tk ys nw (E' : Value → Shared → Prop), i < n → P i v → Inv i ys nw → NsObj oC m₂ → oq.data = .cell (some v) → Fr h₀ L h m → News h₀ L h ((I, oI) :: (C, oC) :: (D, lst ys) :: (cq, oq) :: nw) → Off3 I C D ((cq, oq) :: nw) → Off1 cq nw → (@Ne Nat D cq) → ((@Ne Nat I C) ∧ (@Ne Nat I D) ∧ (@Ne Nat C D)) →
      wpAny (model prog w) A (eval elt (compEnvC scope ((x, cq) :: cl) C env)) (fun y s₄ => TurnEnd h₀ L m { s₁ with heap := h, toks := tk } I oI C oC D ys (fun nw' => ∃ nw, nw' = (cq, oq) :: nw ∧ Off1 cq nw ∧ Inv (i + 1) (ys ++ [y]) nw) s₄) E' { s₁ with heap := h, toks := tk }) :
    BlkV prog w A h₀ L m env (.ListComp elt [⟨.Name x px, iter, [], 0⟩] scope pos) scope cl (Inv n) xv s₁ := by
  intro RR E ok
  refine src _ _ fun I fp St g W hIo hSt hst hfp F N hIL hI₀ off => ?_
  refine frame_C (x := x) W hc1 hc2 hst hfp F N hIL hI₀ off fun D C cq h₁ ap hcf hcL hc0 hcC hDq hq1 hst₁ F₁ hn₁ N₁ off₁ => ?_
  have L0 := loop_V (s₁ := s₁) (R := RR (.ref D) C) (NsP := fun _ => True) (Inv := fun i ys news => ∃ oq nw', news = (cq, oq) :: nw' ∧ (∃ v, oq.data = .cell v) ∧ Off1 cq nw' ∧ (@Ne Nat D cq) ∧ Inv i ys nw')
    (Mid := fun i v m₃ ys news => (∃ oq nw', news = (cq, oq) :: nw' ∧ (∃ v, oq.data = .cell v) ∧ Off1 cq nw' ∧ (@Ne Nat D cq) ∧ Inv i ys nw') ∧ ∃ oq nw', news = (cq, oq) :: nw' ∧ oq.data = .cell (some v)) (tk := s₁.toks) (rule_one (iter := iter) (scope := scope) (pos := pos) (px := px) (elt := elt) (env := compEnvC scope ((x, cq) :: cl) C env)) W ap hIo hSt
    (fun i ys nw ⟨oq, nw', e, _, _, _, hI⟩ => by subst e; exact hS _ _ _ hI _)
    (asg_cell (cq := cq) W ap (by show (relabel scope env).kind = _; exact hkind) hx (by show List.lookup x ((x, cq) :: cl) = _; simp [List.lookup]) hcf hcL hc0 hcC
      (fun i ys nw ⟨oq, nw', e, hv, h1, h2, _⟩ => ⟨oq, nw', e, hv, h1, h2⟩) (fun i ys oq oq' nw' ⟨_, _, e, _, h1, h2, h3⟩ hv => by cases e; exact ⟨oq', _, rfl, hv, h1, h2, h3⟩))
    (fun i v oI oC m₂ h tk ys news EE hi hP ⟨⟨oq, nw', e, _, h1, h2, hI⟩, oq2, nw2, e2, hd⟩ hoC F N off => wpAny_tests_nil (by
      subst e
      cases e2
      simp only [if_true]
      exact emit_V ap hoC trivial (hsz _ _ _ hi hI) (wpAny_mono (R i v I oI C oC cq oq D m₂ h tk ys nw' EE hi hP hI hoC hd F N off h1 h2 ⟨ap.IC, ap.ID, ap.CD⟩) (fun y s₄ ⟨h', tk', news', a, b, c, d, nw3, e3, o3, i3⟩ => ⟨h', tk', news', a, b, c, d, oq, nw3, e3, ⟨_, hd⟩, o3, h2, i3⟩) fun _ _ e => e)))
    (rr_fin (G := fun ys news => ∃ oq nw', news = (cq, oq) :: nw' ∧ (∃ v, oq.data = .cell v) ∧ Off1 cq nw' ∧ (@Ne Nat D cq) ∧ Inv n ys nw') (fun D' C' h tk m' ys news' F N o hn c0 d0 cl' dl cd oc ⟨oq, nw', e, _, _, _, hI⟩ => by
      subst e
      exact ok D' C' h tk m' ys nw' F (fun p hp => N p (by rcases List.mem_cons.mp hp with rfl | hp; exact .head _; exact .tail _ (.tail _ hp))) o.2 hn c0 d0 cl' dl cd (fun p hp => oc p (.tail _ hp)) hI) ap) hst₁ F₁ hn₁ trivial N₁ off₁ ⟨_, news, rfl, ⟨_, rfl⟩, hq1, hDq, h0⟩
  exact codeAny_compStart_list L0 (W.self 0 _ _ _ hst₁ L0)
theorem off3_of {I I1 C D : Addr} : ∀ {l : List (Addr × Obj)}, Off1 I l → Off3 I1 C D l → Off3 I C D l
  | [], _, _ => trivial
  | _ :: _, a, b => ⟨⟨a.1, b.1.2.1, b.1.2.2⟩, off3_of a.2 b.2⟩
/-- two clauses, the inner one over a range -/
theorem blk_VV {elt i0 i1 : Expr} {f0 f1 : List Expr} {x0 x1 : Str} {px0 px1 : Pos} {scope : Scope} {cl : List (Str × Addr)} {pos : Pos} (src : SrcOf prog w A h₀ L m xv s₁ news n P S)
    (hc1 : ∀ k, cellsFrom k scope.names cl = cl) (hc2 : ∀ h, pushCells h scope.names = h) (hkind : scope.kind = .function) (hx0 : scope.names.lookup x0 = some .local) (hx1 : scope.names.lookup x1 = some .local) (hxx : x0 ≠ x1)
    (hs : ∀ (C : Addr) x, foldedSetIterable i1 (compEnvC scope cl C env) x = pure x) (hS : ∀ i ys nw, Inv i ys nw → S nw) (h0 : Inv 0 [] news)
    (R : ∀ i v I oI C oC D m₂ h tk ys nw (E' : Value → Shared → Prop), i < n → P i v → Inv i ys nw → NsObj oC m₂ → m₂ x0 = some v → Fr h₀ L h m → News h₀ L h ((I, oI) :: (C, oC) :: (D, lst ys) :: nw) → Off3 I C D nw → ((@Ne Nat I C) ∧ (@Ne Nat I D) ∧ (@Ne Nat C D)) →
      wpAny (model prog w) A (testsT f0 (compEnvC scope cl C env)) (fun ok s₃ => if ok = true then
        wpAny (model prog w) A (eval i1 (compEnvC scope cl C env)) (InnerV prog w A h₀ L m (compEnvC scope cl C env) elt f1 x0 x1 s₁ I oI C D v (Inv (i + 1))) E' s₃
        else TurnEnd h₀ L m { s₁ with heap := h, toks := tk } I oI C oC D ys (Inv (i + 1) ys) s₃) E' { s₁ with heap := h, toks := tk }) :
    BlkV prog w A h₀ L m env (.ListComp elt [⟨.Name x0 px0, i0, f0, 0⟩, ⟨.Name x1 px1, i1, f1, 0⟩] scope pos) scope cl (Inv n) xv s₁ := by
  intro RR E ok
  refine src _ _ fun I fp St g W hIo hSt hst hfp F N hIL hI₀ off => ?_
  refine frame_V W hc1 hc2 hst hfp F N hIL hI₀ off fun D C h₁ ap hst₁ F₁ hn₁ N₁ off₁ => ?_
  have L0 := loop_V (s₁ := s₁) (R := RR (.ref D) C) (NsP := fun _ => True) (Mid := fun i v m₃ ys news => Inv i ys news ∧ m₃ x0 = some v ∧ True) (tk := s₁.toks) (rule_two0 (i0 := i0) (t1 := .Name x1 px1) (i1 := i1) (f1 := f1) (scope := scope) (pos := pos) (px := px0) (elt := elt) (env := compEnvC scope cl C env)) W ap hIo hSt hS (asg_name W ap hkind hx0 fun _ _ _ => trivial)
    (fun i v oI oC m₂ h tk ys nw EE hi hP hM hoC F N off => wpAny_mono (R i v I oI C oC D m₂ h tk ys nw EE hi hP hM.1 hoC hM.2.1 F N off ⟨ap.IC, ap.ID, ap.CD⟩) (fun okk s₃ h₃ => by
      cases okk with
      | false => simp only [Bool.false_eq_true, if_false] at h₃ ⊢; exact endB_of hoC trivial h₃
      | true =>
        simp only [if_true] at h₃ ⊢
        refine wp_nestB (hs C) (wpAny_mono h₃ (fun xv s₄ hin => ?_) fun _ _ e => e)
        obtain ⟨h4, tk4, n1, P1, Inv1, ys4, oC4, m4, nw4, rfl, hoC4, hm4, src1, off4, hsz1, i10, hO1, hfin, turn1⟩ := hin
        refine src1 _ _ fun I1 St1 g1 W1 hIo1 hSt1 hst1 F1 N1 hIL1 hI₀1 offI1 => ?_
        have ne1 : ∀ {b : Addr}, b ∈ ([I1] : List Addr) → b = I1 := fun h => List.mem_singleton.mp h
        have ap1 : Apart3 h₀ L I1 C D [I1] := {
          IC := Ne.symm (offI1 (C, oC4) (.tail _ (.head _)))
          ID := Ne.symm (offI1 (D, lst ys4) (.tail _ (.tail _ (.head _))))
          CD := ap.CD
          LI := hIL1
          CL := ap.CL
          DL := ap.DL
          I0 := hI₀1
          C0 := ap.C0
          D0 := ap.D0
          Cf := fun h => offI1 (C, oC4) (.tail _ (.head _)) (ne1 h)
          Df := fun h => offI1 (D, lst ys4) (.tail _ (.tail _ (.head _))) (ne1 h) }
        have mem4 := off4.mem
        have L1 := loop_V (s₁ := s₁) (R := fun r s' => match r with | .ok _ => EndB h₀ L m s₁ I oI C D (fun _ => True) (Inv (i + 1)) s' | .error x => cameBackBy (model prog w) A (compEnvC scope cl C env) EE x s') (NsP := fun m => m x0 = some v)
          (Inv := fun i ys nw' => ∃ nw, nw' = (I, oI) :: nw ∧ Inv1 i ys nw) (Mid := fun i v1 m₃ ys nw' => (∃ nw, nw' = (I, oI) :: nw ∧ Inv1 i ys nw) ∧ m₃ x1 = some v1 ∧ m₃ x0 = some v) (S := fun _ => True) (h := g1) (tk := tk4)
          (rule_two1 (t0 := .Name x0 px0) (i0 := i0) (i1 := i1) (f0 := f0) (scope := scope) (pos := pos) (px := px1) (elt := elt) (env := compEnvC scope cl C env)) W1 ap1 hIo1 hSt1 (fun _ _ _ _ => trivial)
          (asg_name W1 ap1 hkind hx1 fun m v1 hm => by show (if x0 = x1 then _ else _) = _; rw [if_neg hxx]; exact hm)
          (fun i1 v1 oI1 oC1 m1 h tk ys nw EE hi1 hP1 ⟨⟨nw', e, hI1⟩, e1, e0⟩ hoC1 F N off => by
            subst e
            refine wpAny_mono (turn1 i1 v1 I1 oI1 oC1 m1 h tk ys nw' EE hi1 hP1 hI1 hoC1 e1 e0 F N off ⟨ap1.IC, ap1.ID, ap1.CD⟩) (fun okk s₃ h₃ => ?_) fun _ _ e => e
            cases okk with
            | false => simp only [Bool.false_eq_true, if_false] at h₃ ⊢; exact endB_of (Inv' := fun ys nw' => ∃ nw, nw' = (I, oI) :: nw ∧ Inv1 (i1 + 1) ys nw) hoC1 e0 h₃
            | true => simp only [if_true] at h₃ ⊢; exact emit_V (Inv' := fun ys nw' => ∃ nw, nw' = (I, oI) :: nw ∧ Inv1 (i1 + 1) ys nw) ap1 hoC1 e0 (hsz1 _ _ _ hi1 hI1) h₃)
          (fun h tk m' ys nw' F hn hm N off ⟨nw, e, hI1⟩ => by
            subst e
            obtain ⟨oC', eC, hoC'⟩ := ns_obj hn
            refine ⟨h, tk, ys, oC', m', nw, rfl, hoC', trivial, F, fun p hp => ?_, off3_of (hO1 _ _ _ hI1) off.2, hfin _ _ hI1⟩
            rcases List.mem_cons.mp hp with rfl | hp
            · exact N _ (.tail _ (.head _))
            · rcases List.mem_cons.mp hp with rfl | hp
              · exact ⟨eC, ap.CL, ap.C0⟩
              · rcases List.mem_cons.mp hp with rfl | hp
                · exact N _ (.head _)
                · exact N _ (.tail _ (.tail _ hp)))
          hst1 F1 (hoC4.ns (N1 (C, oC4) (.tail _ (.head _))).1) hm4 (fun p hp => by
            rcases List.mem_cons.mp hp with rfl | hp
            · exact N1 _ (.tail _ (.tail _ (.head _)))
            · rcases List.mem_cons.mp hp with rfl | hp
              · exact N1 _ (.head _)
              · exact N1 _ (.tail _ (.tail _ (.tail _ hp))))
          (Off3.of fun p hp => by
            rcases List.mem_cons.mp hp with rfl | hp
            · exact ⟨offI1 _ (.head _), ap.IC, ap.ID⟩
            · exact ⟨offI1 p (.tail _ (.tail _ (.tail _ hp))), (mem4 p hp).2.1, (mem4 p hp).2.2⟩) ⟨nw4, rfl, i10⟩
        exact compStart_two1 L1 (W1.self 0 _ _ _ hst1 L1)) fun _ _ e => e) (rr_fin ok ap) hst₁ F₁ hn₁ trivial N₁ off₁ h0
  exact codeAny_compStart_list L0 (W.self 0 _ _ _ hst₁ L0)
end
/-- what is asked where a comprehension's source stands -/
inductive CompE (prog : Program) (w : World) (A : Around) (h₀ : Heap) (L : Addr) (m : Str → Option Value) (env : Env) (e : Expr) (scope : Scope) (cl : List (Str × Addr)) (Fin : Shared → List Value → List (Addr × Obj) → Prop) (xv : Value) (s₁ : Shared) : Prop
  | mk (G : List Value → List (Addr × Obj) → Prop) (b : BlkV prog w A h₀ L m env e scope cl G xv s₁) (f : ∀ ys news', G ys news' → Fin s₁ ys news') : CompE prog w A h₀ L m env e scope cl Fin xv s₁
/-- a comprehension's value -/
theorem comp_eval {elt t iter : Expr} {ifs : List Expr} {gs : List Comprehension} {scope : Scope} {cl : List (Str × Addr)} {pos : Pos} {Q : Value → Shared → Prop} (_F₀ : Fr h₀ L s.heap m)
    (hclos : closureFor scope env = pure cl) (hkind : scope.kind = .function) (hnames : ∀ y ∈ scope.names, y.2 = .local → scope.names.lookup y.1 = some .local)
    (h : wpAny (model prog w) A (eval iter env) (CompE prog w A h₀ L m env (.ListComp elt (⟨t, iter, ifs, 0⟩ :: gs) scope pos) scope cl (fun s₁ => FinE h₀ L m s₁ Q)) E s)
    (hs : ∀ x, foldedSetIterable iter env x = pure x := by intro _; rfl) :
    wpAny (model prog w) A (eval (.ListComp elt (⟨t, iter, ifs, 0⟩ :: gs) scope pos) env) Q E s := by
  rw [eval_ListComp]
  refine wpAny_comprehension_free (use := none) rfl hs hclos hkind hnames (wpAny_mono h (fun xv s₁ ⟨G, blk, fin⟩ => ?_) fun _ _ e => e)
  refine blk _ _ fun D C h tk m' ys news' F' N' o1 hn hC₀ hD₀ hCL hDL hCD offC hG => ?_
  refine ⟨m', hn, fun h'' hs'' => fin ys news' hG D h'' tk (F'.change hs'' hCL hC₀) (fun p hp => ?_) o1⟩
  refine ⟨hs''.extBut _ _ ?_ (N' p hp).1, (N' p hp).2⟩
  rcases List.mem_cons.mp hp with rfl | hp
  · exact Ne.symm hCD
  · exact offC p hp
/-- a comprehension's value goes to a local name -/
theorem comp_local {elt t iter : Expr} {ifs : List Expr} {gs : List Comprehension} {y : Str} {py : Pos} {scope : Scope} {cl : List (Str × Addr)} {pos spos : Pos} {Q : Flow → Shared → Prop} (_F₀ : Fr h₀ L s.heap m) (hLe : env.locals = L)
    (hsw : swapsWith (.ListComp elt (⟨t, iter, ifs, 0⟩ :: gs) scope pos) (some (.Name y py)) spos.line env = pure true)
    (hclos : closureFor scope env = pure cl) (hkind : scope.kind = .function) (hnames : ∀ z ∈ scope.names, z.2 = .local → scope.names.lookup z.1 = some .local)
    (hy : env.kindOf y = some .local) (hp : (env.scope.kind == .class || (env.scope.kind == .module && env.locals != env.globals)) = false)
    (h : wpAny (model prog w) A (eval iter env) (CompE prog w A h₀ L m env (.ListComp elt (⟨t, iter, ifs, 0⟩ :: gs) scope pos) scope cl (fun s₁ => FinA h₀ L m s₁ y Q)) E s)
    (hs : ∀ x, foldedSetIterable iter env x = pure x := by intro _; rfl) :
    wpAny (model prog w) A (exec (.Assign [.Name y py] (.ListComp elt (⟨t, iter, ifs, 0⟩ :: gs) scope pos) spos) env) Q E s := by
  subst hLe
  rw [exec_Assign_Name_used _ _ _ _ hsw]
  refine wpAny_bind (wpAny_standAt (wpAny_bind ?_))
  show wpAny _ A (do let _ ← comprehension (.ListComp elt (⟨t, iter, ifs, 0⟩ :: gs) scope pos) scope env _ (newList []) false (eval iter env) (some (assign (.Name y py) env))) _ _ s
  refine wpAny_bind (wpAny_mono (wpAny_comprehension_free (use := some (assign (.Name y py) env)) (Q := fun _ s' => Q .next s') rfl hs hclos hkind hnames
    (wpAny_mono h (fun xv s₁ ⟨G, blk, fin⟩ => ?_) fun _ _ e => e)) (fun _ s' hq => wpAny_pure (wpAny_pure hq)) fun _ _ e => e)
  refine blk _ _ fun D C h' tk m' ys news' F' N' o1 hn hC₀ hD₀ hCL hDL hCD offC hG => ?_
  show wpAny _ A (assign (.Name y py) env (.ref D)) _ _ _
  refine wpAny_assign_Name (wpAny_storeName_local hy F'.ns (fun h₂ hn₂ hs₂ => ?_) hp)
  have hL₀ : h₀.get? env.locals = none := Heap.get?_none_of_le F'.above
  have F₂ : Fr h₀ env.locals h₂ (fun z => if z = y then some (.ref D) else m z) := ⟨hn₂, fun b o e => hs₂.extBut b o (fun q => by rw [q, hL₀] at e; cases e) (F'.keep b o e), F'.above⟩
  refine ⟨m', hn.sameBut hs₂ hCL, fun h'' hs'' => fin ys news' hG D h'' _ (F₂.change hs'' hCL hC₀) (fun p hp => ?_) o1⟩
  have z : h₂.get? p.1 = some p.2 := hs₂.extBut _ _ (N' p hp).2.1 (N' p hp).1
  refine ⟨hs''.extBut _ _ ?_ z, (N' p hp).2⟩
  rcases List.mem_cons.mp hp with rfl | hp
  · exact Ne.symm hCD
  · exact offC p hp
/-- what is wanted where a comprehension's value has gone to a name that is a cell -/
def FinC (h₀ : Heap) (L : Addr) (m : Str → Option Value) (s : Shared) (cy : Addr) (Q : Flow → Shared → Prop) (ys : List Value) (news : List (Addr × Obj)) : Prop :=
  ∃ rest oy v₀, (cy, oy) ∈ news ∧ oy.data = .cell v₀ ∧ (∀ p ∈ rest, p ∈ news) ∧ Off1 cy rest ∧
    ∀ D h tk oy', oy'.data = .cell (some (.ref D)) → Fr h₀ L h m → News h₀ L h ((D, lst ys) :: (cy, oy') :: rest) → Off1 D ((cy, oy') :: rest) → Q .next { s with heap := h, toks := tk }
theorem off1_mem {c : Addr} {l : List (Addr × Obj)} (h : Off1 c l) : ∀ p ∈ l, p.1 ≠ c := by
  induction l with
  | nil => intro p hp; cases hp
  | cons a r ih =>
    intro p hp
    rcases List.mem_cons.mp hp with rfl | hp
    · exact h.1
    · exact ih h.2 p hp
theorem off1_of {c : Addr} {l : List (Addr × Obj)} (h : ∀ p ∈ l, p.1 ≠ c) : Off1 c l := by
  induction l with
  | nil => trivial
  | cons a r ih => exact ⟨h a (.head _), ih fun q hq => h q (.tail _ hq)⟩
theorem comp_cell {elt t iter : Expr} {ifs : List Expr} {gs : List Comprehension} {y : Str} {py : Pos} {scope : Scope} {cl : List (Str × Addr)} {pos spos : Pos} {cy : Addr} {Q : Flow → Shared → Prop} (_F₀ : Fr h₀ L s.heap m)
    (hsw : swapsWith (.ListComp elt (⟨t, iter, ifs, 0⟩ :: gs) scope pos) (some (.Name y py)) spos.line env = pure true)
    (hclos : closureFor scope env = pure cl) (hkind : scope.kind = .function) (hnames : ∀ z ∈ scope.names, z.2 = .local → scope.names.lookup z.1 = some .local)
    (hke : env.scope.kind = .function) (hy : env.kindOf y = some .cell) (hcy : env.cells.lookup y = some cy)
    (h : wpAny (model prog w) A (eval iter env) (CompE prog w A h₀ L m env (.ListComp elt (⟨t, iter, ifs, 0⟩ :: gs) scope pos) scope cl (fun s₁ => FinC h₀ L m s₁ cy Q)) E s)
    (hs : ∀ x, foldedSetIterable iter env x = pure x := by intro _; rfl) :
    wpAny (model prog w) A (exec (.Assign [.Name y py] (.ListComp elt (⟨t, iter, ifs, 0⟩ :: gs) scope pos) spos) env) Q E s := by
  rw [exec_Assign_Name_used _ _ _ _ hsw]
  refine wpAny_bind (wpAny_standAt (wpAny_bind ?_))
  show wpAny _ A (do let _ ← comprehension (.ListComp elt (⟨t, iter, ifs, 0⟩ :: gs) scope pos) scope env _ (newList []) false (eval iter env) (some (assign (.Name y py) env))) _ _ s
  refine wpAny_bind (wpAny_mono (wpAny_comprehension_free (use := some (assign (.Name y py) env)) (Q := fun _ s' => Q .next s') rfl hs hclos hkind hnames
    (wpAny_mono h (fun xv s₁ ⟨G, blk, fin⟩ => ?_) fun _ _ e => e)) (fun _ s' hq => wpAny_pure (wpAny_pure hq)) fun _ _ e => e)
  refine blk _ _ fun D C h' tk m' ys news' F' N' o1 hn hC₀ hD₀ hCL hDL hCD offC hG => ?_
  obtain ⟨rest, oy, v₀, hm, hd, hsub, hoff, k⟩ := fin ys news' hG
  have zy := N' _ (.tail _ hm)
  show wpAny _ A (assign (.Name y py) env (.ref D)) _ _ _
  refine wpAny_assign_Name (wpAny_storeName_cell hke hy hcy ⟨oy, zy.1, hd⟩ fun h₂ hc₂ hs₂ => ?_)
  obtain ⟨oy', e', d'⟩ := hc₂
  have hDy : (@Ne Nat D cy) := Ne.symm (off1_mem o1 _ hm)
  refine ⟨m', hn.sameBut hs₂ (Ne.symm (offC _ hm)), fun h'' hs'' => k D h'' _ oy' d' ((F'.change hs₂ zy.2.1 zy.2.2).change hs'' hCL hC₀) (fun p hp => ?_) ⟨Ne.symm hDy, off1_of fun p hp => off1_mem o1 p (hsub p hp)⟩⟩
  rcases List.mem_cons.mp hp with rfl | hp
  · have z := N' (D, lst ys) (.head _)
    exact ⟨hs''.extBut _ _ (Ne.symm hCD) (hs₂.extBut _ _ hDy z.1), z.2⟩
  · rcases List.mem_cons.mp hp with rfl | hp
    · have zc := offC _ hm
      exact ⟨hs''.extBut _ _ zc e', zy.2⟩
    · have z := N' p (.tail _ (hsub p hp))
      exact ⟨hs''.extBut _ _ (offC p (hsub p hp)) (hs₂.extBut _ _ (off1_mem hoff p hp) z.1), z.2⟩
end
end Mine
end
section
open PySem PySem.W PyProof.Rows PySem.Calls PyProof.Rows.LCg
set_option maxRecDepth 100000
namespace Mine
/-- «/» and the name of the k-th figure -/
def pieceS (x b : Int) (k : Nat) : Str := slS ++ nameS (x / b ^ k % b)
def dueS (x b : Int) : Str := Txt.join (Str.ofString "") [pieceS x b 2, pieceS x b 1, pieceS x b 0]
theorem StrsAre.snoc {vs : List Value} {ys : List Str} {y : Str} {t : Tok} (h : StrsAre vs ys) : StrsAre (vs ++ [.str y t]) (ys ++ [y]) := by
  induction h with
  | nil => exact .cons y t .nil
  | cons z u _ ih => exact .cons z u ih
theorem name_len : ∀ i : Fin 64, (nameS (i.val : Int)).length = 2 := by decide +kernel
theorem nameS_len {i : Int} (h0 : 0 ≤ i) (h1 : i < 64) : (nameS i).length = 2 := by
  have := name_len ⟨i.toNat, by (first | lia | omega)⟩
  rwa [show (((⟨i.toNat, by (first | lia | omega)⟩ : Fin 64).val : Nat) : Int) = i from by simp; (first | lia | omega)] at this
theorem pieceS_len {x b : Int} {k : Nat} (hb : 0 < b) (hb' : b < 65) : (pieceS x b k).length = 3 := by
  unfold pieceS
  rw [Str.length_append, nameS_len (Int.emod_nonneg _ (by (first | lia | omega))) (by have := Int.emod_lt_of_pos (x / b ^ k) hb; (first | lia | omega))]
  rfl
section
set_option maxHeartbeats 400000 in
theorem due_c {w : World} (x b : Int) (t u : Tok) (hb : 0 < b) (hb' : b < 65) : Calls0 w 214 [.int x t, .int b u] 20 (fun t => .str (dueS x b) t) := by
  w_top off
  k_with_none
  k_with "k_room" => (ktr_room)
  k_with "k_ne" => (first | exact offN (by assumption) (by k_mem) | exact Ne.symm (offN (by assumption) (by k_mem)) | (refine neN ?_; (try dsimp only); (first | lia | omega)))
  k_with "call ref" => ((first
   | (refine held (p := wpAny _ _ (PySem.call (Value.ref _) _) _ _ _) ?_)))
  k_with "binaryOp FloorDiv int int" => ((refine fdiv_gen (by assumption) (by assumption) ?_; intro _ _ _; try dsimp only))
  k_with "binaryOp Mod int int" => ((refine fmod_gen (by assumption) ?_; intro _ _ _ _ _; try dsimp only))
  k_with "binaryOp Pow int int" => ((refine pow_gen (by assumption) (by (first | lia | omega)) (by assumption) (by assumption) ?_; intro _ _ _ _ _; try dsimp only))
  k_with "call builtin:str.join" => ((refine held (p := wpAny _ _ (PySem.call _ _) _ _ _) ?_))
  k_with "eval ListComp" => ((k_here; k_dflt (refine comp_eval (by k_asm) (by with_unfolding_all rfl) (by rfl) (by decide) ?_)))
  k_with "exec Assign" => k_fold
  k_with "exec If" => k_fold
  k_with "exec Expr" => k_fold
  k_with "exec AugAssign" => k_fold
  k_with "exec Return some" => k_fold
  intro loose mean mg mb dp un gd frames base s Q E B X T hd hu ret
  revert X; k_fill; intro X
  refine' enterTC (X := []) (led := []) (binds := [(Str.ofString "number", .int x t), (Str.ofString "base", .int b u)]) (by assumption) (by assumption) (by assumption) (fun _ h => nomatch h) ?k6 ?k7 ?k8 ?k9 ?kB ?kD ?_ ?c2 ?c3 ?c4
  (case k6 => k_dflt k_is)
  (case k7 => k_dflt k_is)
  (case k8 => exact room0 hd)
  (case k9 => exact BindsTo.of_eq rfl)
  (case kB => exact rfl)
  (case kD => decide +kernel)
  (case c2 => exact rfl); (case c3 => exact rfl); (case c4 => exact rfl)
  intro L h' tk cells F' N' Y' l1
  dsimp only [hideAll] at F' N'
  replace F' := fr_map (m' := fun y => none) F' (by with_unfolding_all rfl)
  obtain ⟨o1, o2, hE, d1, d2⟩ := CellsAre.two Y'
  replace d1 : o1.data = .cell (some (.int b u)) := d1.trans (by with_unfolding_all rfl)
  replace d2 : o2.data = .cell (some (.int x t)) := d2.trans (by with_unfolding_all rfl)
  subst hE; clear Y' l1
  (try simp only [List.cons_append, List.nil_append] at N')
  try dsimp only
  try k_fold
  k_steps
  rename_i lk hk1 Fk lk1 Nk
  refine ⟨_, blk_V (Inv := fun i ys nw => nw = _ ∧ StrsAre ys (([2, 1, 0].take i).map (pieceS x b))) (srcList rfl (by assumption) (by assumption) (.inr ⟨_, List.Mem.head _, rfl, _, rfl⟩)) (fun _ => rfl) (fun _ => rfl) rfl (by rfl) (fun i ys nw hi h => ?_) (fun i ys nw h => ?_) ⟨rfl, .nil⟩ ?_, ?_⟩
  · have := h.2.length
    rw [List.length_map, List.length_take] at this
    rw [PySem.sizeLine_eq, this]
    exact Nat.le_trans (Nat.min_le_left _ _) (Nat.le_trans (Nat.le_of_lt hi) (by show 3 ≤ 16777216; decide))
  · obtain ⟨rfl, _⟩ := h; exact .inr ⟨_, List.Mem.head _, rfl, _, rfl⟩
  · intro i v I oI C oC D m₂ h tk2 ys news E' hi hP ⟨hn, hys⟩ hC hx F N off ne
    subst hn
    obtain ⟨kk, tv, rfl, hk3, hki⟩ : ∃ (kk : Nat) (tv : Tok), v = .int (kk : Int) tv ∧ kk < 6 ∧ [2, 1, 0][i]? = some kk := by
      have hi3 : i < 3 := hi
      rcases (by (first | lia | omega) : i = 0 ∨ i = 1 ∨ i = 2) with rfl | rfl | rfl <;> (simp at hP; subst hP)
      · exact ⟨2, _, rfl, by decide, rfl⟩
      · exact ⟨1, _, rfl, by decide, rfl⟩
      · exact ⟨0, _, rfl, by decide, rfl⟩
    have hkk : (kk : Int) = (kk : Nat) := rfl
    clear hP
    refine wpAny_tests_nil ?_
    simp only [if_true]
    k_steps
    rename_i vp tp hvp _ _ vq tq hvq vm tm hvm hvm0 hvm1
    refine use0 (name_c vm _ hvm0 (by (first | lia | omega))) B F X N T rfl rfl (by exact roomD hd rfl) (by exact roomU hu rfl) ?_
    intro tc hc tkc Fc Nc
    k_steps
    have e : (slS ++ nameS vm) = pieceS x b kk := by rw [hvm, hvq, hvp]; rfl
    refine ⟨_, _, _, rfl, Fc, Nc, off, rfl, ?_⟩
    rw [List.take_add_one, hki, Option.toList_some, List.map_append, List.map_singleton, ← e]
    exact StrsAre.snoc hys
  · rintro ys news' ⟨hn, hys⟩ D h tk2 F N o1
    subst hn
    replace hys : StrsAre ys [pieceS x b 2, pieceS x b 1, pieceS x b 0] := hys
    have hl : h.IsList D ys.toArray := ⟨_, (N _ (List.Mem.head _)).1, rfl, _, rfl⟩
    have hok : ([pieceS x b 2, pieceS x b 1, pieceS x b 0].map (·.length)).sum + [pieceS x b 2, pieceS x b 1, pieceS x b 0].length * 64 ≤ 16777216 := by simp [pieceS_len hb hb']
    k_steps
    refine join_listC (x := Str.ofString "") (s := { heap := h, gens := _, drawn := _, toks := _, os := _ }) hl hys (by decide) hok ?_
    intro t' k'
    exact ret _ _ _ F.keep
end
end Mine
end
section
open PySem PySem.W PyProof.Rows PySem.Calls
namespace Mine
theorem name_start : ∀ i : Fin 64, Txt.startswith (nameS (i.val : Int)) slS = false := by decide +kernel
theorem nameS_start {i : Int} (h0 : 0 ≤ i) (h1 : i < 64) : Txt.startswith (nameS i) slS = false := by
  have := name_start ⟨i.toNat, by (first | lia | omega)⟩
  rwa [show (((⟨i.toNat, by (first | lia | omega)⟩ : Fin 64).val : Nat) : Int) = i from by simp; (first | lia | omega)] at this
def WLen (x : Str) : Prop := 0 < x.length ∧ x.length < 100
theorem WLen.one : WLen slS := ⟨by decide, by decide⟩
theorem joinS_len {x y : Str} : x.length + y.length ≤ (joinS x y).length ∧ (joinS x y).length ≤ x.length + 1 + y.length := by
  unfold joinS
  split
  · rw [Str.length_append]; (first | lia | omega)
  · rw [Str.length_append, Str.length_append]
    have : slS.length = 1 := rfl
    (first | lia | omega)
/-- number of figures -/
def nfig (n : Nat) (x : Int) : Nat := (Builtin.Int.intBits x + n - 1) / n
theorem nfig_is {n : Nat} {x : Int} (hn : 1 ≤ n) : ((Builtin.Int.intBits x : Nat) + (n : Int) - 1).fdiv n = (nfig n x : Int) := by
  rw [Int.fdiv_eq_ediv_of_nonneg _ (by (first | lia | omega))]
  unfold nfig
  rw [show ((Builtin.Int.intBits x : Nat) + (n : Int) - 1) = ((Builtin.Int.intBits x + n - 1 : Nat) : Int) by (first | lia | omega)]
  simp
theorem lt_two_bits {x : Int} (h0 : 0 ≤ x) : x < 2 ^ Builtin.Int.intBits x := by
  have := natAbs_lt_pow_bits x
  have h1 : ((x.natAbs : Nat) : Int) < ((2 ^ Builtin.Int.intBits x : Nat) : Int) := Int.ofNat_lt.mpr this
  rw [Int.natAbs_of_nonneg h0] at h1
  simpa using h1
theorem lt_nfig {n : Nat} {x : Int} (hn : 1 ≤ n) (h0 : 0 ≤ x) : x < 2 ^ (n * nfig n x) := by
  refine Int.lt_of_lt_of_le (lt_two_bits h0) ?_
  have h : Builtin.Int.intBits x ≤ n * nfig n x := by
    unfold nfig
    have := Nat.div_add_mod (Builtin.Int.intBits x + n - 1) n
    have := Nat.mod_lt (Builtin.Int.intBits x + n - 1) (show 0 < n by (first | lia | omega))
    (first | lia | omega)
  exact_mod_cast Nat.pow_le_pow_right (by decide) h
theorem nfig_le {n k : Nat} {x : Int} (hn : 1 ≤ n) (h0 : 0 ≤ x) (h : x < 2 ^ (n * k)) : nfig n x ≤ k := by
  have := intBits_le h0 h
  unfold nfig
  refine Nat.le_of_lt_succ ((Nat.div_lt_iff_lt_mul (by (first | lia | omega))).mpr ?_)
  rw [Nat.succ_mul, Nat.mul_comm]; (first | lia | omega)
theorem ge_two_bits {x : Int} (h0 : 0 < x) : 2 ^ (Builtin.Int.intBits x - 1) ≤ x := by
  unfold Builtin.Int.intBits
  rw [if_neg (by simp; (first | lia | omega))]
  have : 2 ^ x.natAbs.log2 ≤ x.natAbs := Nat.log2_self_le (by (first | lia | omega))
  have h1 : ((2 ^ x.natAbs.log2 : Nat) : Int) ≤ ((x.natAbs : Nat) : Int) := Int.ofNat_le.mpr this
  rw [Int.natAbs_of_nonneg (Int.le_of_lt h0)] at h1
  simpa using h1
/-- the top figure is no nought -/
theorem top_pos {n k : Nat} {x : Int} (hn : 1 ≤ n) (h0 : 0 ≤ x) (hk : nfig n x = k + 1) : 0 < x / 2 ^ (n * k) := by
  have hx : x ≠ 0 := by
    rintro rfl
    unfold nfig at hk
    rw [show Builtin.Int.intBits 0 = 0 from rfl, Nat.zero_add, Nat.div_eq_of_lt (by (first | lia | omega))] at hk
    (first | lia | omega)
  have h1 := ge_two_bits (x := x) (by (first | lia | omega))
  have h2 : n * k ≤ Builtin.Int.intBits x - 1 := by
    unfold nfig at hk
    have := Nat.div_mul_le_self (Builtin.Int.intBits x + n - 1) n
    rw [hk, Nat.succ_mul, Nat.mul_comm k n] at this
    (first | lia | omega)
  have h3 : (2 : Int) ^ (n * k) ≤ 2 ^ (Builtin.Int.intBits x - 1) := by exact_mod_cast Nat.pow_le_pow_right (by decide) h2
  have hp : (0 : Int) < 2 ^ (n * k) := Int.pow_pos (by decide)
  have := Int.ediv_le_ediv hp (Int.le_trans h3 h1)
  rw [Int.ediv_self (by (first | lia | omega))] at this
  (first | lia | omega)
end Mine
end
section
open PySem PySem.W PyProof.Rows PySem.Calls
set_option maxRecDepth 100000
namespace Mine
abbrev tupPost (x y : Int) (h : Heap) (v : Value) (h' : Heap) : Prop := ∃ T t1 t2, v = .ref T ∧ h.get? T = none ∧ h'.get? T = some (tupOf [.int x t1, .int y t2])
section
set_option maxHeartbeats 400000 in
theorem idm_c {w : World} (a b : Int) (k : Nat) (t u : Tok) (h0 : 0 ≤ a) (hb : 0 < b) (hb' : b < 1000000) (hn : 1 ≤ Builtin.Int.intBits b) (hn' : Builtin.Int.intBits b < 10) (hk : ((Builtin.Int.intBits a : Nat) + ((Builtin.Int.intBits b : Nat) : Int) - 1).fdiv (Builtin.Int.intBits b : Nat) = (k : Int)) (hk5 : k < 4) (ha : a < 2 ^ (Builtin.Int.intBits b * k)) :
    CallsT w 63 [.int a t, .int b u] 22 (fun _ => True) (tupPost (a / b) (a % b)) := by
  w_top off
  k_with_none
  k_with "k_room" => (ktr_room)
  k_with "k_ne" => (first | exact offN (by assumption) (by k_mem) | exact Ne.symm (offN (by assumption) (by k_mem)) | (refine neN ?_; (try dsimp only); (first | lia | omega)))
  k_with "TAIL" => ((first | exact Tail.here | (refine' Tail.cons ?ta ?tb ?tc; (case ta => k_ne); (case tb => k_ne); (case tc => walk_at "TAIL"))))
  k_with "call ref" => ((refine held (p := wpAny _ _ (PySem.call (Value.ref _) _) _ _ _) ?_))
  k_with "exec Assign" => k_fold
  k_with "exec If" => k_fold
  k_with "exec Expr" => k_fold
  k_with "exec AugAssign" => k_fold
  k_with "exec Return some" => k_fold
  intro loose mean mg mb dp un gd frames base s Q E B X T hT hd hu _ ret
  obtain ⟨p1, p2, TS, hl⟩ := TabSt.of hT
  revert X; k_fill; intro X
  refine' enterT (binds := [(Str.ofString "a", .int a t), (Str.ofString "b", .int b u)]) (by assumption) (by assumption) (by assumption) (by assumption) ?k6 ?k7 ?k8 ?k9 ?kB ?_ ?c2 ?c3 ?c4 ?c5
  (case k6 => k_dflt k_is)
  (case k7 => k_dflt k_is)
  (case k8 => exact room0 hd)
  (case k9 => exact BindsTo.of_eq rfl)
  (case kB => exact locs (by rfl))
  (case c5 => decide)
  (case c2 => exact rfl); (case c3 => exact rfl); (case c4 => exact rfl)
  intro L h' F' N' l1
  k_lt l1
  dsimp only [tab4] at N'
  try dsimp only
  try k_fold
  k_steps
  · exact absurd (by assumption : b = 0) (by (first | lia | omega))
  refine useT (dmp_c a b k t u h0 hb hb' hn hn' hk hk5 ha) B F' X N' hT TS (by walk_at "TAIL") T rfl rfl (by exact roomD hd rfl) (by exact roomU hu rfl) trivial ?_
  intro v h2 tk2 p1 c1 q1 p2 c2 q2 F2 N2 TS2 kb f1 f2 ⟨D, t1, t2, hv, hf, hg⟩
  subst hv
  obtain ⟨N3, o3⟩ := new_obj F' N' N2 hf hg
  dsimp only [tab4] at N2 N3
  k_steps
  obtain ⟨kk, st⟩ := leaveT hT F2 N2 TS2
  exact ret _ _ _ kk st ⟨D, t1, t2, rfl, fresh_at N3 (List.Mem.head _) (by simp; exact ⟨Ne.symm (offN o3 (.tail _ (.tail _ (.head _)))), Ne.symm (offN o3 (.head _))⟩), hg⟩
end
end Mine
end
section
open PySem PySem.W PyProof.Rows PySem.Calls
namespace Mine
theorem join3 (x y z : Str) : Txt.join (Str.ofString "") [x, y, z] = x ++ (y ++ z) := by
  show Builtin.Str.glued _ _ = _
  rw [PySem.StrLaws.glued_eq_join]
  show x ++ Str.empty ++ (y ++ Str.empty ++ z) = _
  rw [Str.append_empty, Str.append_empty]
theorem dueS_eq (x b : Int) : dueS x b = pieceS x b 2 ++ (pieceS x b 1 ++ pieceS x b 0) := join3 ..
theorem dueS_len {x b : Int} (hb : 0 < b) (hb' : b < 65) : (dueS x b).length = 9 := by
  rw [dueS_eq, Str.length_append, Str.length_append, pieceS_len hb hb', pieceS_len hb hb', pieceS_len hb hb']
end Mine
end
section
open PySem PySem.W PyProof.Rows PySem.Calls PyProof.Rows.LCg
set_option maxRecDepth 100000
namespace Mine
/-- a turn of a loop over a list, its end -/
def TurnF (h₀ : Heap) (L I : Addr) (oI : Obj) (J : (Str → Option Value) → List (Addr × Obj) → Prop) (s₁ : Shared) (Q : Flow → Shared → Prop) (f : Flow) (s₂ : Shared) : Prop :=
  match f with
  | .ret v => Q (.ret v) s₂
  | .brk => Q .next s₂
  | _ => ∃ h' tk' m' nw', s₂ = { s₁ with heap := h', toks := tk' } ∧ Fr h₀ L h' m' ∧ News h₀ L h' ((I, oI) :: nw') ∧ Off1 I nw' ∧ J m' nw'
section
variable {prog : Program} {w : World} {A : Around} {E : Value → Shared → Prop} {s : Shared} {h₀ : Heap} {env : Env}
theorem iter_L {ax : Addr} {its : Array Value} {m₀ : Str → Option Value} {news : List (Addr × Obj)} {x : Str} {body : List Stmt} {Q : Flow → Shared → Prop} (hh : A.handled = none) (hl : h₀.IsList ax its) (F : Fr h₀ env.locals s.heap m₀) (N : News h₀ env.locals s.heap news)
    (J : Nat → (Str → Option Value) → List (Addr × Obj) → Prop) (hj : J 0 m₀ news)
    (turn : ∀ i v m₁ nw I oI h tk, i < its.size → its[i]? = some v → J i m₁ nw → Off1 I nw → Fr h₀ env.locals h (fun y => if y = x then some v else m₁ y) → News h₀ env.locals h ((I, oI) :: nw) →
      wpAny (model prog w) A (execs body env) (TurnF h₀ env.locals I oI (J (i + 1)) { s with heap := h, toks := tk } Q) E { s with heap := h, toks := tk })
    (done : ∀ m₁ nw h tk, J its.size m₁ nw → Fr h₀ env.locals h m₁ → News h₀ env.locals h nw → Q .next { s with heap := h, toks := tk }) :
    wpAny (model prog w) A (pyIter (.ref ax)) (fun it s₂ => LoopAtV prog w A h₀ env x body Q E it s₂) E s := by
  have hls : s.heap.IsList ax its := hl.at fun o e => F.keep ax o e
  obtain ⟨ol, hol, _⟩ := id hl
  have hlt : ax < h₀.objs.size := Heap.lt_size hol
  have hne : ax ≠ s.heap.objs.size := Nat.ne_of_lt (Nat.lt_trans (Nat.lt_of_lt_of_le hlt F.above) F.ns.lt)
  refine wpAny_pyIter_list hls ?_
  have W := Walks.list (prog := prog) (w := w) hh s.heap.objs.size ax hne its
  refine ⟨_, _, _, its.size, _, _, m₀, news, J, rfl, W, ?_, ?_, ?_, ⟨⟨_, Heap.get?_push_size _ rfl, rfl, rfl⟩, hls.at fun o e => Heap.get?_push_of_some _ e⟩, F.push _, (fun p hp => ⟨Heap.get?_push_of_some _ (N p hp).1, (N p hp).2⟩), hj, ?_, ?_⟩
  · intro hm
    rcases List.mem_cons.mp hm with e | hm
    · exact absurd F.ns.lt (e ▸ Nat.lt_irrefl _)
    · exact absurd (Nat.lt_of_lt_of_le hlt F.above) ((List.mem_singleton.mp hm) ▸ Nat.lt_irrefl _)
  · intro b hb
    rw [List.mem_singleton.mp hb]
    exact next_is_new F
  · intro p hp hI
    exact absurd (Heap.lt_size (N p hp).1) ((List.mem_singleton.mp hI) ▸ Nat.lt_irrefl _)
  · rintro i v m₁ nw s₁ own ⟨h, tk, rfl⟩ hin hP hJ hoff hofp hoget hoin hst F₁ N₁
    obtain ⟨oI, heI, _⟩ := hst.1
    have hIn : (s.heap.objs.size, oI) ∈ own := hoin _ (.head _) (next_is_new F) _ heI
    have hown : ∀ p ∈ own, p = (s.heap.objs.size, oI) := fun p hp => by
      have z := N₁ p (List.mem_append_left _ hp)
      rcases List.mem_cons.mp (hofp p hp) with e | e
      · have := z.1
        rw [e, heI] at this
        exact Prod.ext e (Option.some.inj this).symm
      · rw [List.mem_singleton.mp e, hol] at z
        exact absurd z.2.2 (by simp)
    have back : ∀ {nw' : List (Addr × Obj)} {h' : Heap}, News h₀ env.locals h' ((s.heap.objs.size, oI) :: nw') → News h₀ env.locals h' (own ++ nw') := fun N' p hp => by
      rcases List.mem_append.mp hp with hp | hp
      · rw [hown p hp]; exact N' _ (.head _)
      · exact N' p (.tail _ hp)
    refine wpAny_mono (turn i v m₁ nw s.heap.objs.size oI h tk hin hP hJ (off1_of fun p hp e => hoff p hp (List.mem_singleton.mpr e)) F₁ fun p hp => N₁ p (by rcases List.mem_cons.mp hp with rfl | hp; exact List.mem_append_left _ hIn; exact List.mem_append_right _ hp)) (fun f s₂ p => ?_) fun _ _ e => e
    have fin : (∃ h' tk' m' nw', s₂ = { s with heap := h', toks := tk' } ∧ Fr h₀ env.locals h' m' ∧ News h₀ env.locals h' ((s.heap.objs.size, oI) :: nw') ∧ Off1 s.heap.objs.size nw' ∧ J (i + 1) m' nw') → LoopStepU h₀ env.locals [s.heap.objs.size] own (J (i + 1)) { s with heap := h, toks := tk } .next s₂ := by
      rintro ⟨h', tk', m', nw', rfl, F', N', o', hJ'⟩
      exact ⟨rfl, h', tk', m', nw', rfl, F', back N', fun p hp hI => off1_mem o' p hp (List.mem_singleton.mp hI), hJ'⟩
    cases f with
    | ret v => exact .ret p
    | brk => exact .brk p
    | next => exact .next (fin p)
    | cont => exact .cont (fin p)
  · rintro h' tk m' news' F' N' _ hJ
    exact done m' news' h' tk hJ F' N'
/-- the same, of a list that the ledger holds -/
theorem iter_M {ax : Addr} {na : Nat} {its : Array Value} {m₀ : Str → Option Value} {news : List (Addr × Obj)} {x : Str} {body : List Stmt} {Q : Flow → Shared → Prop} (hh : A.handled = none) (F : Fr h₀ env.locals s.heap m₀) (N : News h₀ env.locals s.heap news)
    (J : Nat → (Str → Option Value) → List (Addr × Obj) → Prop) (hj : J 0 m₀ news) (hS : ∀ i m nw, J i m nw → (ax, PySem.W.listOf its na) ∈ nw)
    (turn : ∀ i v m₁ nw I oI h tk, i < its.size → its[i]? = some v → J i m₁ nw → Off1 I nw → Fr h₀ env.locals h (fun y => if y = x then some v else m₁ y) → News h₀ env.locals h ((I, oI) :: nw) →
      wpAny (model prog w) A (execs body env) (TurnF h₀ env.locals I oI (J (i + 1)) { s with heap := h, toks := tk } Q) E { s with heap := h, toks := tk })
    (done : ∀ m₁ nw h tk, J its.size m₁ nw → Fr h₀ env.locals h m₁ → News h₀ env.locals h nw → Q .next { s with heap := h, toks := tk }) :
    wpAny (model prog w) A (pyIter (.ref ax)) (fun it s₂ => LoopAtV prog w A h₀ env x body Q E it s₂) E s := by
  have zax := N _ (hS _ _ _ hj)
  have hls : s.heap.IsList ax its := ⟨_, zax.1, rfl, _, rfl⟩
  have hlt : ax < s.heap.objs.size := Heap.lt_size zax.1
  have hne : ax ≠ s.heap.objs.size := Nat.ne_of_lt hlt
  refine wpAny_pyIter_list hls ?_
  have W := Walks.list (prog := prog) (w := w) hh s.heap.objs.size ax hne its
  refine ⟨_, _, _, its.size, _, _, m₀, news, J, rfl, W, ?_, ?_, ?_, ⟨⟨_, Heap.get?_push_size _ rfl, rfl, rfl⟩, hls.at fun o e => Heap.get?_push_of_some _ e⟩, F.push _, (fun p hp => ⟨Heap.get?_push_of_some _ (N p hp).1, (N p hp).2⟩), hj, ?_, ?_⟩
  · intro hm
    rcases List.mem_cons.mp hm with e | hm
    · exact absurd F.ns.lt (e ▸ Nat.lt_irrefl _)
    · exact zax.2.1 (List.mem_singleton.mp hm).symm
  · intro b hb
    rw [List.mem_singleton.mp hb]
    exact next_is_new F
  · intro p hp hI
    exact absurd (Heap.lt_size (N p hp).1) ((List.mem_singleton.mp hI) ▸ Nat.lt_irrefl _)
  · rintro i v m₁ nw s₁ own ⟨h, tk, rfl⟩ hin hP hJ hoff hofp hoget hoin hst F₁ N₁
    obtain ⟨oI, heI, _⟩ := hst.1
    have hIn : (s.heap.objs.size, oI) ∈ own := hoin _ (.head _) (next_is_new F) _ heI
    have za := N₁ _ (List.mem_append_right _ (hS _ _ _ hJ))
    have hown : ∀ p ∈ own, p = (s.heap.objs.size, oI) ∨ p = (ax, PySem.W.listOf its na) := fun p hp => by
      have z := N₁ p (List.mem_append_left _ hp)
      rcases List.mem_cons.mp (hofp p hp) with e | e
      · have := z.1
        rw [e, heI] at this
        exact .inl (Prod.ext e (Option.some.inj this).symm)
      · have e := List.mem_singleton.mp e
        have := z.1
        rw [e, za.1] at this
        exact .inr (Prod.ext e (Option.some.inj this).symm)
    have back : ∀ {nw' : List (Addr × Obj)} {h' : Heap}, (ax, PySem.W.listOf its na) ∈ nw' → News h₀ env.locals h' ((s.heap.objs.size, oI) :: nw') → News h₀ env.locals h' (own ++ nw') := fun hm N' p hp => by
      rcases List.mem_append.mp hp with hp | hp
      · rcases hown p hp with rfl | rfl
        · exact N' _ (.head _)
        · exact N' _ (.tail _ hm)
      · exact N' p (.tail _ hp)
    refine wpAny_mono (turn i v m₁ nw s.heap.objs.size oI h tk hin hP hJ (off1_of fun p hp e => hoff p hp (List.mem_singleton.mpr e)) F₁ fun p hp => N₁ p (by rcases List.mem_cons.mp hp with rfl | hp; exact List.mem_append_left _ hIn; exact List.mem_append_right _ hp)) (fun f s₂ p => ?_) fun _ _ e => e
    have fin : (∃ h' tk' m' nw', s₂ = { s with heap := h', toks := tk' } ∧ Fr h₀ env.locals h' m' ∧ News h₀ env.locals h' ((s.heap.objs.size, oI) :: nw') ∧ Off1 s.heap.objs.size nw' ∧ J (i + 1) m' nw') → LoopStepU h₀ env.locals [s.heap.objs.size] own (J (i + 1)) { s with heap := h, toks := tk } .next s₂ := by
      rintro ⟨h', tk', m', nw', rfl, F', N', o', hJ'⟩
      exact ⟨rfl, h', tk', m', nw', rfl, F', back (hS _ _ _ hJ') N', fun p hp hI => off1_mem o' p hp (List.mem_singleton.mp hI), hJ'⟩
    cases f with
    | ret v => exact .ret p
    | brk => exact .brk p
    | next => exact .next (fin p)
    | cont => exact .cont (fin p)
  · rintro h' tk m' news' F' N' _ hJ
    exact done m' news' h' tk hJ F' N'
theorem kfi {its : List Value} {ns : List Int} (h : IntsAre its ns) (k : Int) : kf_ints its = true ∧ its.any (isInt k) = decide (k ∈ ns) := by
  induction h with
  | nil => exact ⟨rfl, by simp⟩
  | cons n t _ ih =>
    refine ⟨by simpa [kf_ints] using ih.1, ?_⟩
    rw [List.any_cons, ih.2]
    by_cases e : n = k
    · subst e; simp [isInt]
    · have e' : ¬ k = n := fun q => e q.symm
      simp [isInt, e, e']
theorem notin_ints {L D : Addr} {news : List (Addr × Obj)} {its : List Value} {ns : List Int} {n : Nat} {k : Int} {t : Tok} {Q : Value → Shared → Prop} (N : News h₀ L s.heap news) (hm : (D, PySem.W.listOf its.toArray n) ∈ news) (hi : IntsAre its ns) (h : Q (.bool (decide (k ∉ ns))) s) :
    wpAny (model prog w) A (compareOp .NotIn (.int k t) (.ref D)) Q E s :=
  kf_notin N hm (kfi hi k).1 (by rw [(kfi hi k).2]; simp) h
end
end Mine
end
section
open PySem PySem.W PyProof.Rows PySem.Calls PyProof.Rows.LCg
set_option maxRecDepth 100000
namespace Mine
def wayS (d2 d1 d0 : Int) : Str := joinS (joinS (joinS slS (nameS d2)) (nameS d1)) (nameS d0)
theorem pow_two2 (n : Nat) : (2 : Int) ^ (n * 2) = 2 ^ n * 2 ^ n := by rw [Nat.mul_two, Int.pow_add]
theorem pow_two3 (n : Nat) : (2 : Int) ^ (n * 3) = 2 ^ n * 2 ^ n * 2 ^ n := by rw [show n * 3 = n + n + n by (first | lia | omega), Int.pow_add, Int.pow_add]
theorem top1 {n : Nat} {x : Int} (h0 : 0 ≤ x) (hx : x < 2 ^ (n * 1)) (h : 0 < x / 2 ^ (n * 0)) : x % 2 ^ n ≠ 0 := by
  rw [Nat.mul_one] at hx
  rw [Nat.mul_zero, Int.pow_zero, Int.ediv_one] at h
  rw [Int.emod_eq_of_lt h0 hx]; (first | lia | omega)
theorem top2 {n : Nat} {x : Int} (h0 : 0 ≤ x) (hx : x < 2 ^ (n * 2)) (h : 0 < x / 2 ^ (n * 1)) : x / 2 ^ n % 2 ^ n ≠ 0 := by
  rw [pow_two2] at hx
  rw [Nat.mul_one] at h
  have hB : (0 : Int) < 2 ^ n := Int.pow_pos (by decide)
  rw [Int.emod_eq_of_lt (Int.le_of_lt h) (Int.ediv_lt_of_lt_mul hB hx)]; (first | lia | omega)
theorem top3 {n : Nat} {x : Int} (h0 : 0 ≤ x) (hx : x < 2 ^ (n * 3)) (h : 0 < x / 2 ^ (n * 2)) : x / 2 ^ n / 2 ^ n % 2 ^ n ≠ 0 := by
  rw [pow_two3] at hx
  have hB : (0 : Int) < 2 ^ n := Int.pow_pos (by decide)
  rw [pow_two2, ← Int.ediv_ediv_of_nonneg (Int.le_of_lt hB)] at h
  rw [Int.emod_eq_of_lt (Int.le_of_lt h) (Int.ediv_lt_of_lt_mul hB (Int.ediv_lt_of_lt_mul hB hx))]; (first | lia | omega)
theorem joinN_len {x : Str} {i : Int} {p q : Nat} (h : p ≤ x.length ∧ x.length ≤ q) (h0 : 0 ≤ i) (h1 : i < 64) : p + 2 ≤ (joinS x (nameS i)).length ∧ (joinS x (nameS i)).length ≤ q + 3 := by
  have := @joinS_len x (nameS i)
  have := nameS_len h0 h1
  (first | lia | omega)
theorem fig_lt {n : Nat} {x : Int} (hn : n < 7) : 0 ≤ x % 2 ^ n ∧ x % 2 ^ n < 64 := by
  have hB : (0 : Int) < 2 ^ n := Int.pow_pos (by decide)
  have h1 : (2 : Int) ^ n ≤ 2 ^ 6 := by exact_mod_cast Nat.pow_le_pow_right (by decide) (Nat.le_of_lt_succ hn)
  exact ⟨Int.emod_nonneg _ (by (first | lia | omega)), by have := Int.emod_lt_of_pos x hB; (first | lia | omega)⟩
/-- the names of _law_way in its loop -/
def wmap (a : Int) (nn : Nat) (t u : Tok) (D : Addr) (W : Str) (tW : Tok) (fd : Option Value) : Str → Option Value := fun y =>
  if y = Str.ofString "way" then some (.str W tW) else if y = Str.ofString "figure" then fd else if y = Str.ofString "figures" then some (.ref D) else [(Str.ofString "number", Value.int a t), (Str.ofString "bits", Value.int nn u)].reverse.lookup y
theorem wmap_zero {a : Int} {nn : Nat} {t u tW : Tok} {D : Addr} : (fun y => if y = Str.ofString "way" then some (Value.str (Str.ofString "/") tW) else if y = Str.ofString "figures" then some (Value.ref D) else [(Str.ofString "number", Value.int a t), (Str.ofString "bits", Value.int nn u)].reverse.lookup y) = wmap a nn t u D slS tW none := by
  funext y
  by_cases q2 : y = Str.ofString "figure"
  · subst q2; rfl
  · simp only [wmap, q2, if_false]
theorem wmap_next {a : Int} {nn : Nat} {t u tW tW' : Tok} {D : Addr} {W W' : Str} {fd : Option Value} {v : Value} : (fun y => if y = Str.ofString "way" then some (Value.str W' tW') else if y = Str.ofString "figure" then some v else wmap a nn t u D W tW fd y) = wmap a nn t u D W' tW' (some v) := by
  funext y
  by_cases q1 : y = Str.ofString "way"
  · subst q1; rfl
  by_cases q2 : y = Str.ofString "figure"
  · subst q2; rfl
  · simp only [wmap, q1, q2, if_false]
def wayAt (ds : List Int) : Str := ds.foldl (fun W d => joinS W (nameS d)) slS
theorem wayAt3 {a b c : Int} : wayAt ([a, b, c].take 3) = wayS a b c := by
  rw [show [a, b, c].take 3 = [a, b, c] from rfl]
  unfold wayAt wayS
  rw [List.foldl_cons, List.foldl_cons, List.foldl_cons, List.foldl_nil]
inductive WayJ (a : Int) (nn : Nat) (t u : Tok) (D : Addr) (ds : List Int) (bs : List (Addr × Obj)) (i : Nat) (m : Str → Option Value) (nw : List (Addr × Obj)) : Prop
  | mk (tW : Tok) (fd : Option Value) (em : m = wmap a nn t u D (wayAt (ds.take i)) tW fd) (en : ∀ p ∈ bs, p ∈ nw) (l0 : 1 ≤ (wayAt (ds.take i)).length) (l1 : (wayAt (ds.take i)).length ≤ 1 + 3 * i) : WayJ a nn t u D ds bs i m nw
theorem WayJ.mem {a : Int} {nn : Nat} {t u : Tok} {D : Addr} {ds : List Int} {bs : List (Addr × Obj)} {i : Nat} {m : Str → Option Value} {nw : List (Addr × Obj)} (x : WayJ a nn t u D ds bs i m nw) : ∀ p ∈ bs, p ∈ nw := by cases x; assumption
theorem ints3 {ws : List Value} {a b c : Int} (h : IntsAre ws [a, b, c]) : ∃ t1 t2 t3, ws = [.int a t1, .int b t2, .int c t3] := by
  cases h with | cons _ t1 h => cases h with | cons _ t2 h => cases h with | cons _ t3 h => cases h; exact ⟨t1, t2, t3, rfl⟩
section
theorem top_digs {n k : Nat} {x : Int} (hn : 1 ≤ n) (h0 : 0 ≤ x) (hk : nfig n x = k) (hk4 : k < 4) (hx : x < 2 ^ (n * k)) : (digs n k x).drop ((digs n k x).length - 1) ≠ [0] := by
  have htop : ∀ j, k = j + 1 → 0 < x / 2 ^ (n * j) := fun j hj => top_pos hn h0 (hk.trans hj)
  rcases (by (first | lia | omega) : k = 0 ∨ k = 1 ∨ k = 2 ∨ k = 3) with rfl | rfl | rfl | rfl
  · simp [digs]
  · simpa [digs] using top1 h0 hx (htop 0 rfl)
  · simpa [digs] using top2 h0 hx (htop 1 rfl)
  · simpa [digs] using top3 h0 hx (htop 2 rfl)
theorem fig3 {n k m : Nat} {x : Int} (h0 : 0 ≤ x) (hk4 : k < 4) (hm : m = k) (hx : x < 2 ^ (n * k)) : (digs n k x ++ (List.replicate (3 - (m : Int)).toNat [(0 : Int)]).flatten).reverse = [x / 2 ^ n / 2 ^ n % 2 ^ n, x / 2 ^ n % 2 ^ n, x % 2 ^ n] := by
  have hB : (0 : Int) < 2 ^ n := Int.pow_pos (by decide)
  subst hm
  rcases (by (first | lia | omega) : m = 0 ∨ m = 1 ∨ m = 2 ∨ m = 3) with rfl | rfl | rfl | rfl
  · rw [Nat.mul_zero, Int.pow_zero] at hx
    obtain rfl : x = 0 := by (first | lia | omega)
    simp [digs, List.replicate]
  · rw [Nat.mul_one] at hx
    rw [Int.ediv_eq_zero_of_lt h0 hx]; simp [digs, List.replicate]
  · rw [pow_two2] at hx
    rw [Int.ediv_eq_zero_of_lt (Int.ediv_nonneg h0 (Int.le_of_lt hB)) (Int.ediv_lt_of_lt_mul hB hx)]; simp [digs, List.replicate]
  · simp [digs, List.replicate]
set_option maxHeartbeats 400000 in
theorem way_c {w : World} (a : Int) (nn k : Nat) (t u : Tok) (h0 : 0 ≤ a) (hn : 1 ≤ nn) (hn' : nn < 7) (hk : nfig nn a = k) (hk5 : k < 4) (ha : a < 2 ^ (nn * k)) :
    CallsT w 209 [.int a t, .int nn u] 24 (fun _ => True) (fun _ v _ => ∃ t, v = .str (wayS (a / 2 ^ nn / 2 ^ nn % 2 ^ nn) (a / 2 ^ nn % 2 ^ nn) (a % 2 ^ nn)) t) := by
  w_top off
  k_with_none
  k_with "k_room" => (ktr_room)
  k_with "k_ne" => (first | exact offN (by assumption) (by k_mem) | exact Ne.symm (offN (by assumption) (by k_mem)) | (refine neN ?_; (try dsimp only); (first | lia | omega)))
  k_with "TAIL" => ((first | exact Tail.here | (refine' Tail.cons ?ta ?tb ?tc; (case ta => k_ne); (case tb => k_ne); (case tc => walk_at "TAIL"))))
  k_with "call ref" => ((refine held (p := wpAny _ _ (PySem.call (Value.ref _) _) _ _ _) ?_))
  k_with "exec For Name Subscript cons nil" => ((k_here; (rename Fr _ _ _ _ => lF'); (with_unfolding_all refine' For_invVF lF' ?k1 ?k2 ?_; (case k1 => exact rfl); (case k2 => exact rfl); k_whole); l_hasStore))
  k_with "pyIter ref" => ((refine held (p := wpAny _ _ (pyIter (Value.ref _)) _ _ _) ?_))
  k_with "call builtin:len" => ((refine kun_lenL (News.isList (by k_asm) (by k_mem)) (by simp; rfl) (by (first | lia | omega)) ?_))
  k_with "exec Assign" => k_fold
  k_with "exec If" => k_fold
  k_with "exec Expr" => k_fold
  k_with "exec AugAssign" => k_fold
  k_with "exec Return some" => k_fold
  intro loose mean mg mb dp un gd frames base s Q E B X T hT hd hu _ ret
  obtain ⟨p1, p2, TS, hl⟩ := TabSt.of hT
  revert X; k_fill; intro X
  refine' enterT (binds := [(Str.ofString "number", .int a t), (Str.ofString "bits", .int nn u)]) (by assumption) (by assumption) (by assumption) (by assumption) ?k6 ?k7 ?k8 ?k9 ?kB ?_ ?c2 ?c3 ?c4 ?c5
  (case k6 => k_dflt k_is)
  (case k7 => k_dflt k_is)
  (case k8 => exact room0 hd)
  (case k9 => exact BindsTo.of_eq rfl)
  (case kB => exact locs (by rfl))
  (case c5 => decide)
  (case c2 => exact rfl); (case c3 => exact rfl); (case c4 => exact rfl)
  intro L h' F' N' l1
  k_lt l1
  dsimp only [tab4] at N'
  try dsimp only
  try k_fold
  k_steps
  refine useT (i2d_c a nn k t _ h0 hn (by (first | lia | omega)) (by rw [nfig_is hn, hk]) (by (first | lia | omega)) ha) B F' X N' hT TS (by walk_at "TAIL") T rfl rfl (by exact roomD hd rfl) (by exact roomU hu rfl) trivial ?_
  intro v h2 tk2 p1 c1 q1 p2 c2 q2 F2 N2 TS2 kb f1 f2 ⟨D, its, n0, hv, hf, hg, hia⟩
  subst hv
  obtain ⟨N2, o2⟩ := new_obj F' N' N2 hf hg
  dsimp only [tab4] at N2
  clear N' F'
  have hlen := hia.length
  rw [digs_length] at hlen
  have hl4 : its.length < 4 := by (first | lia | omega)
  have l0 : 1 ≤ slS.length ∧ slS.length ≤ 1 := ⟨by decide, by decide⟩
  have htp := top_digs hn h0 hk (by (first | lia | omega)) ha
  k_steps
  rename_i Dz ws _ F3 N3 hI3 _ l3
  rw [fig3 h0 hk5 hlen ha] at hI3
  have g0 := fig_lt (x := a) hn'
  have g1 := fig_lt (x := a / 2 ^ nn) hn'
  have g2 := fig_lt (x := a / 2 ^ nn / 2 ^ nn) hn'
  generalize a % 2 ^ nn = d0 at *
  generalize a / 2 ^ nn % 2 ^ nn = d1 at *
  generalize a / 2 ^ nn / 2 ^ nn % 2 ^ nn = d2 at *
  obtain ⟨t2, t1, t0, rfl⟩ := ints3 hI3
  clear hI3
  replace N3 : News (hideAll s.heap tabX) L _ [(Dz, W.listOf #[.int d2 t2, .int d1 t1, .int d0 t0] 0), (37, p1), (c1, q1), (44, p2), (c2, q2)] := news_sub N3 (by lcg_sub)
  clear l3 hlen hl4 htp
  replace F3 : ∃ tw, Fr (hideAll s.heap tabX) L _ (wmap a nn t u D slS tw none) := ⟨_, wmap_zero ▸ F3⟩
  obtain ⟨tw, F3⟩ := F3
  have hgd : ∀ (i : Nat) v, #[Value.int d2 t2, .int d1 t1, .int d0 t0][i]? = some v → ∃ d td, v = .int d td ∧ [d2, d1, d0][i]? = some d ∧ 0 ≤ d ∧ d < 64 := fun i v hv => by
    match i, hv with
    | 0, hv => exact ⟨d2, t2, (Option.some.inj hv).symm, rfl, g2⟩
    | 1, hv => exact ⟨d1, t1, (Option.some.inj hv).symm, rfl, g1⟩
    | 2, hv => exact ⟨d0, t0, (Option.some.inj hv).symm, rfl, g0⟩
    | n + 3, hv => cases hv
  refine iter_M (Q := _) rfl F3 N3 (WayJ a nn t u D [d2, d1, d0] [(Dz, W.listOf #[.int d2 t2, .int d1 t1, .int d0 t0] 0), (37, p1), (c1, q1), (44, p2), (c2, q2)]) ⟨tw, none, rfl, fun _ h => h, (by show 1 ≤ slS.length; decide), (by show slS.length ≤ 1 + 3 * 0; decide)⟩ (fun _ _ _ h => h.mem _ (.head _)) ?_ ?_
  · clear F3 N3 g0 g1 g2
    intro i v m1 nw I oI h3 tk3 hi hv hJ oI1 F N
    obtain ⟨tW, fd, rfl, en, w0, w1⟩ := hJ
    obtain ⟨d, td, rfl, hd', g0, g1⟩ := hgd i v hv
    have i3 : i < 3 := hi
    replace N : News (hideAll s.heap tabX) L h3 [(I, oI), (Dz, W.listOf #[.int d2 t2, .int d1 t1, .int d0 t0] 0), (37, p1), (c1, q1), (44, p2), (c2, q2)] := news_sub N fun p hp => by
      rcases List.mem_cons.mp hp with rfl | hp
      · exact .head _
      · exact .tail _ (en p hp)
    replace F : Fr (hideAll s.heap tabX) L h3 (fun y => if y = Str.ofString "figure" then some (Value.int d td) else wmap a nn t u D (wayAt ([d2, d1, d0].take i)) tW fd y) := F
    have oI2 := off1_of fun p hp => off1_mem oI1 p (en p hp)
    have et : wayAt ([d2, d1, d0].take (i + 1)) = joinS (wayAt ([d2, d1, d0].take i)) (nameS d) := by
      unfold wayAt
      rw [List.take_add_one, hd', List.foldl_append]; rfl
    have hjl := joinN_len ⟨w0, w1⟩ g0 g1
    rw [← et] at hjl
    generalize wayAt ([d2, d1, d0].take i) = W at *
    clear hv hgd en hi hd'
    k_steps
    refine use0 (name_c d td g0 g1) B F X N T rfl rfl (by exact roomD hd rfl) (by exact roomU hu rfl) ?_
    intro tc hc tkc Fc Nc
    clear F N
    k_steps
    refine use0 (join_c W _ _ _ (nameS_start g0 g1) (Nat.ne_of_gt w0) (Nat.lt_of_le_of_lt w1 (by (first | lia | omega))) (by rw [nameS_len g0 g1]; decide)) B Fc X Nc T rfl rfl (by exact roomD hd rfl) (by exact roomU hu rfl) ?_
    clear Fc Nc
    intro tc hc tkc Fc Nc
    k_steps
    rename_i FE NE
    rw [wmap_next, ← et] at FE
    exact ⟨_, _, _, _, rfl, FE, NE, oI2, tc, _, rfl, fun _ h => h, Nat.le_trans (by decide) hjl.1, hjl.2⟩
  · clear F3 N3
    intro m1 nw h3 tk3 hJ F N
    obtain ⟨tW, fd, rfl, en, w0, w1⟩ := hJ
    replace N := news_sub N en
    replace F : Fr (hideAll s.heap tabX) L h3 (wmap a nn t u D (wayAt ([d2, d1, d0].take 3)) tW fd) := F
    rw [wayAt3] at F
    clear en w0 w1 hgd
    k_steps
    obtain ⟨kk, st⟩ := leaveT hT F (news_sub N (by lcg_sub)) TS2
    exact ret _ _ _ kk st ⟨_, rfl⟩
end
end Mine
end
section
open PySem PySem.W PyProof.Rows PySem.Calls PyProof.Rows.LCg
set_option maxRecDepth 100000
namespace Mine
/-- the places from which on both ways are alike -/
def alikeL (x y b : Int) (n : Nat) : List Int := ((List.range n).filter fun (k : Nat) => decide (x / b ^ k = y / b ^ k)).map fun (k : Nat) => (k : Int)
def cutS (x b k : Int) : Str := if k < 3 then Txt.slice (dueS x b) none (some (3 * (3 - k))) else slS
theorem alikeL_succ {x y b : Int} {n : Nat} : alikeL x y b (n + 1) = alikeL x y b n ++ (if x / b ^ n = y / b ^ n then [(n : Int)] else []) := by
  unfold alikeL
  rw [List.range_succ, List.filter_append, List.map_append]
  congr 1
  by_cases h : x / b ^ n = y / b ^ n <;> simp [h]
theorem ints_snoc {vs : List Value} {ys : List Int} {y : Int} {t : Tok} (h : IntsAre vs ys) : IntsAre (vs ++ [.int y t]) (ys ++ [y]) := by
  induction h with
  | nil => exact .cons y t .nil
  | cons z u _ ih => exact .cons z u ih
section
set_option maxHeartbeats 400000 in
theorem shared_c {w : World} (x y b : Int) (t v u : Tok) (hb : 0 < b) (hb' : b < 65) (k : Int) (rest : List Int) (hk : alikeL x y b 4 = k :: rest) (hk0 : 0 ≤ k) (hk4 : k < 4) : Calls0 w 226 [.int x t, .int y v, .int b u] 32 (fun t => .str (cutS x b k) t) := by
  w_top off
  k_with_none
  k_with "k_room" => (ktr_room)
  k_with "k_ne" => (first | exact offN (by assumption) (by k_mem) | exact Ne.symm (offN (by assumption) (by k_mem)) | (refine neN ?_; (try dsimp only); (first | lia | omega)))
  k_with "call ref" => ((first
   | (refine held (p := wpAny _ _ (PySem.call (Value.ref _) _) _ _ _) ?_)))
  k_with "binaryOp FloorDiv int int" => ((refine fdiv_gen (by assumption) (by assumption) ?_; intro _ _ _; try dsimp only))
  k_with "binaryOp Pow int int" => ((refine pow_gen (by assumption) (by (first | lia | omega)) (by assumption) (by assumption) ?_; intro _ _ _ _ _; try dsimp only))
  k_with "eval ListComp" => ((k_here; k_dflt (refine comp_eval (by k_asm) (by with_unfolding_all rfl) (by rfl) (by decide) ?_)))
  k_with "exec Assign" => k_fold
  k_with "exec If" => k_fold
  k_with "exec Expr" => k_fold
  k_with "exec AugAssign" => k_fold
  k_with "exec Return some" => k_fold
  intro loose mean mg mb dp un gd frames base s Q E B X T hd hu ret
  revert X; k_fill; intro X
  refine' enterTC (X := []) (led := []) (binds := [(Str.ofString "one", .int x t), (Str.ofString "two", .int y v), (Str.ofString "base", .int b u)]) (by assumption) (by assumption) (by assumption) (fun _ h => nomatch h) ?k6 ?k7 ?k8 ?k9 ?kB ?kD ?_ ?c2 ?c3 ?c4
  (case k6 => k_dflt k_is)
  (case k7 => k_dflt k_is)
  (case k8 => exact room0 hd)
  (case k9 => exact BindsTo.of_eq rfl)
  (case kB => exact rfl)
  (case kD => decide +kernel)
  (case c2 => exact rfl); (case c3 => exact rfl); (case c4 => exact rfl)
  intro L h' tk cells F' N' Y' l1
  dsimp only [hideAll] at F' N'
  replace F' := fr_map (m' := fun y => none) F' (by with_unfolding_all rfl)
  obtain ⟨o1, o2, o3, hE, d1, d2, d3⟩ := CellsAre.three Y'
  subst hE; clear Y' l1
  replace d1 : o1.data = .cell (some (.int b u)) := d1.trans (by with_unfolding_all rfl)
  replace d2 : o2.data = .cell (some (.int y v)) := d2.trans (by with_unfolding_all rfl)
  replace d3 : o3.data = .cell (some (.int x t)) := d3.trans (by with_unfolding_all rfl)
  (try simp only [List.cons_append, List.nil_append] at N')
  try dsimp only
  try k_fold
  k_steps
  rename_i hr Fk Nk _
  refine ⟨_, blk_V (Inv := fun i ys nw => nw = _ ∧ IntsAre ys (alikeL x y b i)) (srcRange (n := 4) rfl Fk Nk hr (by decide) (by decide)) (fun _ => rfl) (fun _ => rfl) rfl (by rfl) (fun i ys nw hi h => ?_) (fun _ _ _ _ => trivial) ⟨rfl, .nil⟩ ?_, ?_⟩
  · have e := h.2.length
    unfold alikeL at e
    rw [List.length_map] at e
    rw [PySem.sizeLine_eq, e]
    exact Nat.le_trans (List.length_filter_le _ _) (by rw [List.length_range]; exact Nat.le_trans (Nat.le_of_lt hi) (by decide))
  · intro i v I oI C oC D m₂ h tk2 ys news E' hi hP ⟨hn, hys⟩ hC hx F N off ne
    subst hn
    obtain ⟨tv, rfl⟩ := hP
    have hi6 : i < 6 := by (first | lia | omega)
    have hkk : (0 : Int) + ↑i = (i : Int) := by (first | lia | omega)
    refine wpAny_tests_one ?_
    k_steps
    · rename_i vp _ hvp _ _ vq _ hvq vp' _ hvp' _ _ vq' _ hvq' heq
      refine ⟨_, _, _, rfl, F, N, off, rfl, ?_⟩
      rw [alikeL_succ, if_pos (by rw [← hvp, ← hvq, heq, hvq', hvp', ← hvp]), hkk]
      exact ints_snoc hys
    · rename_i vp _ hvp _ _ vq _ hvq vp' _ hvp' _ _ vq' _ hvq' heq
      refine ⟨_, _, _, rfl, F, N, off, rfl, ?_⟩
      rw [alikeL_succ, if_neg (by rw [← hvp, ← hvq]; rw [hvp, ← hvp', ← hvq']; exact heq), List.append_nil]
      exact hys
  · rintro ys news' ⟨hn, hys⟩ D h tk2 F N o1
    subst hn
    rw [hk] at hys
    rcases hys with _ | ⟨_, tk, hys⟩
    clear hr Fk Nk
    k_steps
    · rename_i F1 N1 h3
      refine use0 (due_c x b _ _ hb hb') B F1 X N1 T rfl rfl (by exact roomD hd rfl) (by exact roomU hu rfl) ?_
      intro tc hc tkc Fc Nc
      have e : cutS x b k = Txt.slice (dueS x b) none (some (3 * (3 - k))) := if_pos h3
      simp only [e] at ret
      have hds := dueS_len (x := x) hb hb'
      generalize dueS x b = ds at ret hds ⊢
      clear F1 N1
      k_steps
      exact ret _ _ _ (Fr.keep (by assumption))
    · have e : cutS x b k = slS := if_neg (by assumption)
      simp only [e] at ret
      exact ret _ _ _ (Fr.keep (by assumption))
end
end Mine
end
section
open PySem PySem.W PyProof.Rows PySem.Calls PyProof.Rows.LCg
set_option maxRecDepth 100000
namespace Mine
theorem name_int : ∀ i : Fin 64, PySem.intText? (nameS (i.val : Int)) = some (i.val : Int) := by decide +kernel
theorem nameS_int {i : Int} (h0 : 0 ≤ i) (h1 : i < 64) : PySem.intText? (nameS i) = some i := by
  have := name_int ⟨i.toNat, by (first | lia | omega)⟩
  rwa [show (((⟨i.toNat, by (first | lia | omega)⟩ : Fin 64).val : Nat) : Int) = i from by simp; (first | lia | omega)] at this
theorem idm_any {w : World} (a b : Int) (t u : Tok) (h0 : 0 ≤ a) (hb : 0 < b) (hb' : b ≤ 64) (ha : a < b * b * b) : CallsT w 63 [.int a t, .int b u] 22 (fun _ => True) (tupPost (a / b) (a % b)) := by
  have h1 := lt_two_bits (Int.le_of_lt hb)
  have h2 : 1 ≤ Builtin.Int.intBits b := Nat.one_le_iff_ne_zero.mpr fun e => by rw [e] at h1; (first | lia | omega)
  have h3 : Builtin.Int.intBits b ≤ 7 := intBits_le (Int.le_of_lt hb) (by (first | lia | omega))
  have h4 : a < 2 ^ (Builtin.Int.intBits b * 3) := by
    rw [pow_two3]
    have k0 := Int.le_of_lt hb
    have k1 := Int.le_of_lt h1
    exact Int.lt_of_lt_of_le ha (Int.mul_le_mul (Int.mul_le_mul k1 k1 k0 (by (first | lia | omega))) k1 k0 (Int.mul_nonneg (by (first | lia | omega)) (by (first | lia | omega))))
  exact idm_c a b (nfig (Builtin.Int.intBits b) a) t u h0 hb (by (first | lia | omega)) h2 (by (first | lia | omega)) (nfig_is h2) (by have := nfig_le h2 h0 h4; (first | lia | omega)) (lt_nfig h2 h0)
section
variable {M : Program} {w : World} {A : Around} {s : Shared} {Q E : Value → Shared → Prop} {t u : Tok}
theorem pow2_gen {k : Nat} {b : Int} (hk : k < 7) (hb : b = 2 ^ k) (h : ∀ t, Q (.int b t) { s with toks := s.toks + 1 }) : wpAny (model M w) A (binaryOp .Pow (.int 2 t) (.int (k : Int) u)) Q E s := by
  refine pow_int (by (first | lia | omega)) ?_ ?_
  · rw [show ((Builtin.Int.intBits 2 : Nat) : Int) = 2 from rfl]; (first | lia | omega)
  · rw [Int.toNat_natCast, ← hb]; exact h _
theorem last_pushed {h₀ : Heap} {L a : Addr} {news : List (Addr × Obj)} {vs : List Value} {x : Value} {n : Nat} {value slice : Expr} (N : News h₀ L s.heap news) (hm : (a, W.listOf (vs.toArray.push x) n) ∈ news) (hl : vs.length < 1000) (h : Q x s)
    (hs : subscripted slice false (.ref a) (.int (-1) u) = operate [.ref a, .int (-1) u] (getItem (.ref a) (.int (-1) u)) := by with_unfolding_all rfl) (hg : ∀ r, letTemporaryGo value (.ref a) r = pure () := by intro _; with_unfolding_all rfl) :
    wpAny (model M w) A (subscriptTail value slice (.ref a) (.int (-1) u)) Q E s :=
  kim_back (l := vs ++ [x]) N hm rfl (by show Data.seq (vs.toArray.push x) n = _; rw [List.push_toArray]) (by decide) (by rw [List.length_append, List.length_singleton]; (first | lia | omega)) (by decide)
    (by rw [List.length_append, List.length_singleton, show ((-1 : Int) + ((vs.length + 1 : Nat) : Int)).toNat = vs.length by (first | lia | omega)]; simp) h hs hg
theorem len_pushed {h₀ : Heap} {L a : Addr} {news : List (Addr × Obj)} {vs : List Value} {x : Value} {n : Nat} (N : News h₀ L s.heap news) (hm : (a, W.listOf (vs.toArray.push x) n) ∈ news) (hl : vs.length < 1000) (h : ∀ k t tk, k = (vs.length : Int) + 1 → Q (.int k t) { s with toks := tk }) :
    wpAny (model M w) A (call (.builtin "len") [.ref a]) Q E s :=
  kun_lenL (News.isList N hm) rfl (by simp; (first | lia | omega)) (h _ _ _ (by simp))
theorem len_known {h₀ : Heap} {L a : Addr} {news : List (Addr × Obj)} {vs : List Value} {n : Nat} (N : News h₀ L s.heap news) (hm : (a, W.listOf vs.toArray n) ∈ news) (hl : vs.length < 1000) (h : ∀ k t tk, k = (vs.length : Int) → Q (.int k t) { s with toks := tk }) :
    wpAny (model M w) A (call (.builtin "len") [.ref a]) Q E s :=
  kun_lenL (News.isList N hm) rfl (by simp; (first | lia | omega)) (h _ _ _ (by simp))
end
section
variable {prog : Program} {w : World} {A : Around} {E : Value → Shared → Prop} {env : Env} {test : PySem.Expr} {body orelse : List Stmt} {Q : Flow → Shared → Prop}
def WhlInv (I : Nat → Shared → Prop) (Q : Flow → Shared → Prop) (n : Nat) (f : Flow) (s : Shared) : Prop :=
  match f with
  | .next => ∃ k, k < n ∧ I k s
  | .cont => ∃ k, k < n ∧ I k s
  | .brk => Q .next s
  | .ret v => Q (.ret v) s
/-- a while by an invariant that bears its measure -/
theorem whl_inv (I : Nat → Shared → Prop) (hE : PassesOwn (model prog w) A env E)
    (turn : ∀ n s, I n s → wpAny (model prog w) A (isTrue test env (eval test env)) (fun b s₂ => WhlIf b (wpAny (model prog w) A (execs body env) (WhlInv I Q n) E s₂) (wpAny (model prog w) A (execs orelse env) Q E s₂)) E s) :
    ∀ n s j, I n s → WhlRest prog w A E env test body orelse Q j s := by
  intro n
  induction n using Nat.strongRecOn with
  | ind n ih =>
    intro s j hI
    have h := whl_turn (k := 0) hE (Q := Q) (orelse := orelse) (wpAny_mono (turn n s hI) (fun b s₂ h₂ => by
      cases b with
      | false => exact WhlIf.no rfl (by simpa [WhlIf] using h₂)
      | true =>
        refine WhlIf.yes rfl ?_
        have h₃ : wpAny (model prog w) A (execs body env) (WhlInv I Q n) E s₂ := by simpa [WhlIf] using h₂
        refine wpAny_mono h₃ (fun f s₃ h₄ => ?_) fun _ _ e => e
        cases f with
        | next => obtain ⟨k, hk, hI'⟩ := h₄; exact ih k hk s₃ 0 hI'
        | cont => obtain ⟨k, hk, hI'⟩ := h₄; exact ih k hk s₃ 0 hI'
        | brk => exact h₄
        | ret v => exact h₄) fun _ _ e => e)
    exact h
end
/-- what climbing meets: k folders are left, the number is x -/
def Clm (b : Int) : Nat → Str → Int → Prop
  | 0, W, _ => W = slS
  | k + 1, W, x => (W != slS) = true ∧ W.length < 1000 ∧ baseS W = nameS (x % b) ∧ (dirS W = if k = 0 then slS else Txt.slice (dueS (x / b) b) (some (3 * (3 - (k : Int)))) none) ∧ Clm b k (dirS W) (x / b)
def cmap (W : Str) (tW : Tok) (x : Int) (tx : Tok) (q r : Option Value) (x0 : Int) (t0 : Tok) (nn : Int) (tn : Tok) (fg : Addr) : Str → Option Value := fun y =>
  if y = Str.ofString "way" then some (.str W tW) else if y = Str.ofString "left" then some (.int x tx) else if y = Str.ofString "rest" then r else if y = Str.ofString "quotient" then q
  else if y = Str.ofString "figures" then some (.ref fg) else if y = Str.ofString "bits" then some (.int nn tn) else if y = Str.ofString "number" then some (.int x0 t0) else none
theorem cmap_next {W W' : Str} {tW tW' tx tx' t0 tn : Tok} {x x' x0 nn : Int} {q r : Option Value} {q' r' : Value} {fg : Addr} :
    (fun y => if y = Str.ofString "way" then some (Value.str W' tW') else if y = Str.ofString "left" then some (Value.int x' tx') else if y = Str.ofString "rest" then some r' else if y = Str.ofString "quotient" then some q' else cmap W tW x tx q r x0 t0 nn tn fg y)
      = cmap W' tW' x' tx' (some q') (some r') x0 t0 nn tn fg := by
  funext y
  by_cases q1 : y = Str.ofString "way"
  · simp only [cmap, q1, if_true]
  by_cases q2 : y = Str.ofString "left"
  · simp only [cmap, q1, q2, if_true, if_false]
  by_cases q3 : y = Str.ofString "rest"
  · simp only [cmap, q1, q2, q3, if_true, if_false]
  by_cases q4 : y = Str.ofString "quotient"
  · simp only [cmap, q1, q2, q3, q4, if_true, if_false]
  simp only [cmap, q1, q2, q3, q4, if_false]
theorem clm_arith {nn k : Nat} {b x x1 : Int} {fs : List Int} (hb : b = 2 ^ nn) (hB : 0 < b) (hx0 : 0 ≤ x1) (hxb : x1 < b * b * b) (hdg : Digits nn fs) (hsum : undig nn fs + 2 ^ (nn * fs.length) * x1 = x) (hlt : x1 < 2 ^ (nn * (k + 1))) :
    0 ≤ x1 / b ∧ x1 / b < b * b * b ∧ Digits nn (fs ++ [x1 % b]) ∧ undig nn (fs ++ [x1 % b]) + 2 ^ (nn * (fs ++ [x1 % b]).length) * (x1 / b) = x ∧ x1 / b < 2 ^ (nn * k) := by
  refine ⟨Int.ediv_nonneg hx0 (Int.le_of_lt hB), Int.lt_of_le_of_lt (Int.ediv_le_self _ hx0) hxb, fun d hd => ?_, ?_, ?_⟩
  · rcases List.mem_append.mp hd with hd | hd
    · exact hdg d hd
    · rw [List.mem_singleton.mp hd, ← hb]; exact ⟨Int.emod_nonneg _ (by (first | lia | omega)), Int.emod_lt_of_pos _ hB⟩
  · rw [undig_append, ← hsum, List.length_append, List.length_singleton, Nat.mul_add, Nat.mul_one, Int.pow_add, ← hb, Int.mul_assoc, Int.add_assoc, ← Int.mul_add]
    congr 2
    show x1 % b + 2 ^ nn * 0 + _ = _
    rw [Int.mul_zero, Int.add_zero]
    exact Int.emod_add_mul_ediv x1 b
  · refine Int.ediv_lt_of_lt_mul hB ?_
    rw [Nat.mul_add, Nat.mul_one, Int.pow_add, ← hb] at hlt
    exact hlt
inductive ClmI (sh : Shared) (L : Addr) (b : Int) (nn : Nat) (x0 : Int) (t0 tn : Tok) (fg : Addr) (k : Nat) (s : Shared) : Prop
  | mk (W : Str) (tW : Tok) (x : Int) (tx : Tok) (q : Option Value) (r : Option Value) (fs : List Int) (vs : List Value) (n : Nat) (h : Heap) (tk : Nat) (o1 : Obj) (c1 : Addr) (oc1 : Obj) (o2 : Obj) (c2 : Addr) (oc2 : Obj) (f0 : s = { sh with heap := h, toks := tk }) (f1 : k + vs.length = 3) (f2 : Clm b k W x) (f3 : 0 ≤ x) (f4 : x < b * b * b) (f5 : IntsAre vs fs) (f6 : Digits nn fs) (f7 : undig nn fs + 2 ^ (nn * fs.length) * x = x0) (f8 : x < 2 ^ (nn * k)) (f9 : Fr (hideAll sh.heap tabX) L h (cmap W tW x tx q r x0 t0 nn tn fg)) (f10 : News (hideAll sh.heap tabX) L h [(fg, PySem.W.listOf vs.toArray n), (37, o1), (c1, oc1), (44, o2), (c2, oc2)]) (f11 : TabSt sh.heap o1 c1 oc1 o2 c2 oc2) (f12 : Off1 c1 [(fg, lst [])]) (f13 : Off1 c2 [(fg, lst [])]) : ClmI sh L b nn x0 t0 tn fg k s
section
set_option maxHeartbeats 600000 in
theorem climb_c {w : World} (x b : Int) (nn : Nat) (hb : b = 2 ^ nn) (hB : 0 < b) (hB64 : b ≤ 64) (hx : x < b * b * b) (W3 : Str) (t u v : Tok) (h0 : 0 ≤ x) (hn : 1 ≤ nn) (hn' : nn < 7) (hC : Clm b 3 W3 x) :
    CallsT w 221 [.str W3 t, .int x u, .int nn v] 30 (fun _ => True) (fun _ v _ => v = .bool true) := by
  w_top off
  k_with_none
  k_with "call type:int" => ((refine PySem.W.call_text (by assumption) (by (first | lia | omega)) ?_))
  k_with "k_room" => (ktr_room)
  k_with "k_ne" => (first | exact offN (by assumption) (by k_mem) | exact Ne.symm (offN (by assumption) (by k_mem)) | (refine neN ?_; (try dsimp only); (first | lia | omega)))
  k_with "TAIL" => ((first | exact Tail.here | (refine' Tail.cons ?ta ?tb ?tc; (case ta => k_ne); (case tb => k_ne); (case tc => walk_at "TAIL"))))
  k_with "call ref" => ((refine held (p := wpAny _ _ (PySem.call (Value.ref _) _) _ _ _) ?_))
  k_with "binaryOp FloorDiv int int" => ((refine fdiv_gen (by assumption) (by assumption) ?_; intro _ _ _; try dsimp only))
  k_with "binaryOp Mod int int" => ((refine fmod_gen (by assumption) ?_; intro _ _ _ _ _; try dsimp only))
  k_with "binaryOp Mult int int" => ((refine mul_gen (by (first | lia | omega)) (by (first | lia | omega)) (by (first | lia | omega)) (by (first | lia | omega)) ?_; intro _ _ _ _ _; try dsimp only))
  k_with "binaryOp Pow int int" => ((refine pow2_gen (by assumption) (by assumption) ?_; intro _; try dsimp only))
  k_with "exec While BoolOp" => ((k_here; k_dflt (refine whl_start 100 ?_)))
  k_with "WhlRest" => ((refine held (p := WhlRest _ _ _ _ _ _ _ _ _ _ _) ?_))
  k_with "call builtin:len" => ((first | (refine len_pushed (by assumption) (by k_mem) (by (first | lia | omega)) ?_) | (refine len_known (by assumption) (by k_mem) (by (first | lia | omega)) ?_)); intro _ _ _ _; try dsimp only)
  k_with "subscriptTail Name UnaryOp ref int" => ((refine last_pushed (by assumption) (by k_mem) (by (first | lia | omega)) ?_; try dsimp only))
  k_with "exec Assign" => k_fold
  k_with "exec If" => k_fold
  k_with "exec Expr" => k_fold
  k_with "exec AugAssign" => k_fold
  k_with "exec Return some" => k_fold
  intro loose mean mg mb dp un gd frames base s Q E B X T hT hd hu _ ret
  obtain ⟨p1, p2, TS, hl⟩ := TabSt.of hT
  revert X; k_fill; intro X
  refine' enterT (binds := [(Str.ofString "way", .str W3 t), (Str.ofString "number", .int x u), (Str.ofString "bits", .int nn v)]) (by assumption) (by assumption) (by assumption) (by assumption) ?k6 ?k7 ?k8 ?k9 ?kB ?_ ?c2 ?c3 ?c4 ?c5
  (case k6 => k_dflt k_is)
  (case k7 => k_dflt k_is)
  (case k8 => exact room0 hd)
  (case k9 => exact BindsTo.of_eq rfl)
  (case kB => exact locs (by rfl))
  (case c5 => decide)
  (case c2 => exact rfl); (case c3 => exact rfl); (case c4 => exact rfl)
  intro L h' F' N' l1
  k_lt l1
  dsimp only [tab4] at N'
  try dsimp only
  try k_fold
  k_steps
  rename_i fg _ lf _ _ _ F1 N1
  have hfg : (@LT.lt Nat _ 37 fg) ∧ (@LT.lt Nat _ 44 fg) := ⟨by (first | lia | omega), by (first | lia | omega)⟩
  refine whl_inv (ClmI s L b nn x u v fg) ?hE ?turn 3 _ _ ?start
  case hE => first | passes_own | with_unfolding_all passes_own
  case start =>
    refine ⟨W3, t, x, u, none, none, [], [], 0, _, _, p1, 37, p1, p2, 44, p2, rfl, rfl, hC, h0, hx, .nil, (by intro d hd; cases hd), by simp [undig], ?_, fr_map F1 ?_, N1, TS, ⟨Nat.ne_of_gt hfg.1, trivial⟩, ⟨Nat.ne_of_gt hfg.2, trivial⟩⟩
    · rw [pow_two3, ← hb]; exact hx
    · funext y
      by_cases q1 : y = Str.ofString "way"
      · subst q1; rfl
      by_cases q2 : y = Str.ofString "left"
      · subst q2; rfl
      by_cases q3 : y = Str.ofString "figures"
      · subst q3; rfl
      by_cases q4 : y = Str.ofString "bits"
      · subst q4; rfl
      by_cases q5 : y = Str.ofString "number"
      · subst q5; rfl
      have e1 : (y == Str.ofString "way") = false := beq_eq_false_iff_ne.mpr q1
      have e4 : (y == Str.ofString "bits") = false := beq_eq_false_iff_ne.mpr q4
      have e5 : (y == Str.ofString "number") = false := beq_eq_false_iff_ne.mpr q5
      simp only [cmap, q1, q2, q3, q4, q5, if_false, List.reverse_cons, List.reverse_nil, List.nil_append, List.cons_append, List.lookup, e1, e4, e5, ite_self]
  case turn =>
    clear F1 N1
    rintro n s1 ⟨W, tW, x1, tx, q, r, fs, vs, na, h, tk, o1, c1, oc1, o2, c2, oc2, rfl, hk, hC1, hx0, hxb, hia, hdg, hsum, hlt, F1, N1, TS, of1, of2⟩
    have hvl := hia.length
    rcases n with _ | k
    · cases hC1
      have hx1 : x1 = 0 := by rw [Nat.mul_zero, Int.pow_zero] at hlt; (first | lia | omega)
      subst hx1
      rw [Int.mul_zero, Int.add_zero] at hsum
      have hl3 : (vs.length : Int) = 3 := by (first | lia | omega)
      have hl3' : (fs.length : Int) = 3 := by (first | lia | omega)
      k_steps
      refine useT (d2i_c nn _ hia hdg (by (first | lia | omega)) (by (first | lia | omega))) B F1 X N1 hT TS (by walk_at "TAIL") T rfl rfl (by exact roomD hd rfl) (by exact roomU hu rfl) (PySem.IsL.isList (n := na) (N1 (fg, PySem.W.listOf vs.toArray na) (by k_mem)).1) ?_
      intro v9 h9 tk9 s1 e1 y1 s2 e2 y2 F9 N9 TS9 kb9 f19 f29 ⟨t9, hv⟩
      subst hv
      rw [hsum]
      dsimp only [tab4] at N9
      clear F1 N1
      k_steps
      obtain ⟨kk, st⟩ := leaveT hT F9 (news_sub N9 (by lcg_sub)) TS9
      exact ret _ _ _ kk st (by simp)
      exact absurd hl3' (by assumption)
    · obtain ⟨w1, w2, w3, w4, w5⟩ := hC1
      have hm0 : 0 ≤ x1 % b := Int.emod_nonneg _ (by (first | lia | omega))
      have hm1 : x1 % b < b := Int.emod_lt_of_pos _ hB
      have hB60 : b < 2 ^ 60 := by (first | lia | omega)
      k_steps
      refine use0 (base_c W _ w2) B F1 X N1 T rfl rfl (by exact roomD hd rfl) (by exact roomU hu rfl) ?_
      intro tc hc tkc F2 N2
      rw [w3]
      clear F1 N1
      have q0 := nameS_len hm0 (by (first | lia | omega))
      have p0 := nameS_int hm0 (by (first | lia | omega))
      k_steps
      rename_i F3 N3 _
      refine useT (idm_any x1 b _ _ hx0 hB hB64 hxb) B F3 X N3 hT TS (by walk_at "TAIL") T rfl rfl (by exact roomD hd rfl) (by exact roomU hu rfl) trivial ?_
      intro v1 hq1 tkq1 pa1 ca1 qa1 pb1 cb1 qb1 F4 N4 TS1 kb1 fa1 fb1 ⟨T1, t11, t21, hv, hf, hg⟩
      subst hv
      obtain ⟨N4, o4⟩ := new_obj F3 N3 N4 hf hg
      dsimp only [tab4] at N4
      have oca1 : LCg.Off1 ca1 [(fg, lst [])] := ⟨offC fa1 (.head _) of1.1, trivial⟩
      have ocb1 : LCg.Off1 cb1 [(fg, lst [])] := ⟨offC fb1 (.head _) of2.1, trivial⟩
      clear F3 N3 hf hg kb1 q0 p0
      k_steps
      · exact absurd rfl (by assumption)
      rotate_left
      · rename_i hbad
        exfalso
        simp_all
      rename_i F5 N5
      clear o4 fa1 fb1
      refine use0 (dir_c W _ w2) B F5 X N5 T rfl rfl (by exact roomD hd rfl) (by exact roomU hu rfl) ?_
      intro td hd1 tkd F6 N6
      clear F5 N5
      replace N6 : News (hideAll s.heap tabX) L hd1 [(fg, PySem.W.listOf (vs.toArray.push (Value.int (x1 % b) tkc)) (na + 1)), (37, pa1), (ca1, qa1), (44, pb1), (cb1, qb1)] := news_sub N6 (by lcg_sub)
      k_steps
      · rename_i F7 N7 l3 _
        refine use0 (due_c (x1 / b) b _ _ hB (by (first | lia | omega))) B F7 X N7 T rfl rfl (by exact roomD hd rfl) (by exact roomU hu rfl) ?_
        intro tu hu1 tku F8 N8
        clear F7 N7
        have hdl := dueS_len (x := x1 / b) hB (by (first | lia | omega))
        rw [if_neg (by (first | lia | omega)), show (3 : Int) * (3 - (k : Int)) = 3 * ((fs.length + 1 : Nat) : Int) by (first | lia | omega)] at w4
        generalize dueS (x1 / b) b = ds at w4 hdl ⊢
        k_steps
        · rename (_ != _) = true => hbad
          rename _ = 3 * ((fs.length + 1 : Nat) : Int) => hvm
          rw [w4, hvm] at hbad
          exact absurd hbad (by simp)
        · rename Fr _ _ _ _ => F7
          rename News _ _ _ _ => N7
          obtain ⟨y1, y2, y3, y4, y5⟩ := clm_arith hb hB hx0 hxb hdg hsum hlt
          exact ⟨k, by (first | lia | omega), dirS W, _, x1 / b, _, _, _, fs ++ [x1 % b], _, _, _, _, pa1, ca1, qa1, pb1, cb1, qb1, rfl, by simp; (first | lia | omega), w5, y1, y2, ints_snoc hia, y3, y4, y5, fr_map F7 cmap_next, N7, TS1, oca1, ocb1⟩
      · rename_i l3 hbad
        rw [if_pos (by (first | lia | omega))] at w4
        rw [w4] at hbad
        exact absurd hbad (by decide)
      · rename_i F7 _ N7 l3 hgood
        obtain ⟨y1, y2, y3, y4, y5⟩ := clm_arith hb hB hx0 hxb hdg hsum hlt
        exact ⟨k, by (first | lia | omega), dirS W, _, x1 / b, _, _, _, fs ++ [x1 % b], _, _, _, _, pa1, ca1, qa1, pb1, cb1, qb1, rfl, by simp; (first | lia | omega), w5, y1, y2, ints_snoc hia, y3, y4, y5, fr_map F7 cmap_next, N7, TS1, oca1, ocb1⟩
end
end Mine
end
section
open PySem PySem.W PyProof.Rows PySem.Calls PyProof.Rows.LCg
set_option maxRecDepth 100000
namespace Mine
/-- a shelf -/
structure Shelf (size : Int) (k : Nat) (xs : List Int) : Prop where
  ne : xs ≠ []
  nd : xs.Nodup
  lt : ∀ x ∈ xs, 0 ≤ x ∧ x < size
  len : xs.length ≤ k
inductive shelfPost (size : Int) (h : Heap) (v : Value) (h' : Heap) : Prop
  | mk (D : Addr) (a : Addr) (b : Addr) (A : List Value) (B : List Value) (xs : List Int) (ys : List Int) (n : Nat) (na : Nat) (nb : Nat) (f0 : v = .ref D) (f1 : h.get? D = none) (f2 : h.get? a = none) (f3 : h.get? b = none) (f4 : (@Ne Nat D a)) (f5 : (@Ne Nat D b)) (f6 : (@Ne Nat a b)) (f7 : h'.get? D = some (PySem.W.listOf #[.ref a, .ref b] n)) (f8 : h'.get? a = some (PySem.W.listOf A.toArray na)) (f9 : h'.get? b = some (PySem.W.listOf B.toArray nb)) (f10 : IntsAre A xs) (f11 : IntsAre B ys) (f12 : Shelf size 15 xs) (f13 : Shelf size 15 ys) : shelfPost size h v h'
theorem nodup_any {zs : List Int} {j : Nat} (h : zs.Nodup) (hj : j < zs.length) : ((zs.take j).any fun x => x == zs.getD j 0) = false := by
  rw [List.any_eq_false]
  intro x hx
  have e : zs.getD j 0 = zs[j] := by simp [List.getD, hj]
  rw [e]
  intro q
  have q := eq_of_beq q
  subst q
  obtain ⟨i, hi, e2⟩ := List.getElem_of_mem hx
  rw [List.length_take] at hi
  rw [List.getElem_take] at e2
  have := (List.getElem_inj (xs := zs) (h₀ := by (first | lia | omega)) (h₁ := hj) h).mp e2
  (first | lia | omega)
theorem take_snoc {zs : List Int} {j : Nat} (hj : j < zs.length) : zs.take (j + 1) = zs.take j ++ [zs.getD j 0] := by
  rw [List.take_add_one]
  simp [List.getD, hj]
def zsOf (size : Int) (i : Nat) : List Int := if i = 0 then [3 % size, 300 % size, 4097 % size] else [3 % size, 301 % size]
def smap (xo wo : Option Value) (D : Addr) (l : Addr) (size : Int) (t : Tok) : Str → Option Value := fun z =>
  if z = Str.ofString "which" then wo else if z = Str.ofString "x" then xo else if z = Str.ofString "shelves" then some (.ref D) else if z = Str.ofString "size" then some (.int size t) else if z = Str.ofString "numbers" then some (.ref l) else none
theorem smap0 {D l S0 : Addr} {size : Int} {t : Tok} : (fun z => if z = Str.ofString "shelves" then some (Value.ref D) else (fun y => if y = Str.ofString "shelves" then some (Value.ref S0) else List.lookup y [(Str.ofString "numbers", Value.ref l), (Str.ofString "size", Value.int size t)].reverse) z) = smap none none D l size t := by
  funext z
  by_cases q1 : z = Str.ofString "which"
  · subst q1; rfl
  by_cases q2 : z = Str.ofString "x"
  · subst q2; rfl
  by_cases q3 : z = Str.ofString "shelves"
  · simp only [smap, q3, if_true]; rfl
  by_cases q4 : z = Str.ofString "size"
  · subst q4; rfl
  by_cases q5 : z = Str.ofString "numbers"
  · subst q5; rfl
  have e4 : (z == Str.ofString "size") = false := beq_eq_false_iff_ne.mpr q4
  have e5 : (z == Str.ofString "numbers") = false := beq_eq_false_iff_ne.mpr q5
  simp only [smap, q1, q2, q3, q4, q5, if_false, List.reverse_cons, List.reverse_nil, List.nil_append, List.cons_append, List.lookup, e4, e5]
theorem smap1 {xo wo : Option Value} {v : Value} {D l : Addr} {size : Int} {t : Tok} : (fun z => if z = Str.ofString "x" then some v else smap xo wo D l size t z) = smap (some v) wo D l size t := by
  funext z
  by_cases q2 : z = Str.ofString "x"
  · subst q2; rfl
  · simp only [smap, q2, if_false]
theorem smap2 {xo wo : Option Value} {v : Value} {D l : Addr} {size : Int} {t : Tok} : (fun z => if z = Str.ofString "which" then some v else smap xo wo D l size t z) = smap xo (some v) D l size t := by
  funext z
  by_cases q2 : z = Str.ofString "which"
  · subst q2; rfl
  · simp only [smap, q2, if_false]
theorem Shelf.mono {size : Int} {k k' : Nat} {xs : List Int} (x : Shelf size k xs) (h : k ≤ k') : Shelf size k' xs := ⟨x.ne, x.nd, x.lt, Nat.le_trans x.len h⟩
theorem Shelf.add {size : Int} {k : Nat} {xs : List Int} {v : Int} (x : Shelf size k xs) (h : v ∉ xs) (h0 : 0 ≤ v) (h1 : v < size) : Shelf size (k + 1) (xs ++ [v]) :=
  ⟨by simp, List.nodup_append.mpr ⟨x.nd, by simp, fun a ha b hb e => h (by rw [List.mem_singleton.mp hb] at e; exact e ▸ ha)⟩, fun y hy => (List.mem_append.mp hy).elim (x.lt y) fun hy => by rw [List.mem_singleton.mp hy]; exact ⟨h0, h1⟩, by rw [List.length_append, List.length_singleton]; exact Nat.succ_le_succ x.len⟩
theorem shelf_start {size : Int} (hs : 0 < size) {i : Nat} (hnd : (zsOf size i).Nodup) : Shelf size 3 (zsOf size i) := by
  have h : ∀ a : Int, 0 ≤ a % size ∧ a % size < size := fun a => ⟨Int.emod_nonneg _ (by (first | lia | omega)), Int.emod_lt_of_pos _ hs⟩
  refine ⟨?_, hnd, fun x hx => ?_, ?_⟩
  · unfold zsOf; split <;> simp
  · unfold zsOf at hx
    split at hx <;> simp only [List.mem_cons, List.not_mem_nil, or_false] at hx
    · rcases hx with rfl | rfl | rfl <;> exact h _
    · rcases hx with rfl | rfl <;> exact h _
  · unfold zsOf; split <;> simp
theorem not_any {xs : List Int} {u v : Int} (h : (xs.any fun x => x == u) = false) (e : v = u) : v ∉ xs := by
  subst e
  rw [List.any_eq_false] at h
  intro hm
  exact h _ hm (by simp)
inductive ShJ (D a b l : Addr) (size : Int) (t : Tok) (i : Nat) (m : Str → Option Value) (nw : List (Addr × Obj)) : Prop
  | mk (xo : Option Value) (wo : Option Value) (A : List Value) (B : List Value) (xs : List Int) (ys : List Int) (na : Nat) (nb : Nat) (n : Nat) (f0 : m = smap xo wo D l size t) (f1 : nw = [(D, PySem.W.listOf #[.ref a, .ref b] n), (b, PySem.W.listOf B.toArray nb), (a, PySem.W.listOf A.toArray na)]) (f2 : IntsAre A xs) (f3 : IntsAre B ys) (f4 : Shelf size (3 + 2 * i) xs) (f5 : Shelf size (3 + 2 * i) ys) : ShJ D a b l size t i m nw
/-- the inner loop's turns -/
inductive ShK (D a b l li I : Addr) (oI : Obj) (vals : List Value) (nv : Nat) (xo : Option Value) (size : Int) (t : Tok) (k j : Nat) (m : Str → Option Value) (nw : List (Addr × Obj)) : Prop
  | mk (wo : Option Value) (A : List Value) (B : List Value) (xs : List Int) (ys : List Int) (na : Nat) (nb : Nat) (n : Nat) (f0 : m = smap xo wo D l size t) (f1 : nw = [(li, PySem.W.listOf vals.toArray nv), (I, oI), (D, PySem.W.listOf #[.ref a, .ref b] n), (b, PySem.W.listOf B.toArray nb), (a, PySem.W.listOf A.toArray na)]) (f2 : IntsAre A xs) (f3 : IntsAre B ys) (f4 : Shelf size (k + j) xs) (f5 : Shelf size (k + j) ys) : ShK D a b l li I oI vals nv xo size t k j m nw
/-- what the inner loop runs over -/
inductive ShX (h₀ : Heap) (s : Shared) (L I D a b : Addr) (oI : Obj) (n na nb : Nat) (A B : List Value) (m : Str → Option Value) (xv : Value) (s₁ : Shared) : Prop
  | mk (li : Addr) (vals : List Value) (nv : Nat) (h : Heap) (tk : Nat) (f0 : xv = .ref li) (f1 : s₁ = { s with heap := h, toks := tk }) (f2 : Fr h₀ L h m) (f3 : News h₀ L h [(li, PySem.W.listOf vals.toArray nv), (I, oI), (D, PySem.W.listOf #[.ref a, .ref b] n), (b, PySem.W.listOf B.toArray nb), (a, PySem.W.listOf A.toArray na)]) (f4 : vals.length ≤ 2) (f5 : (∀ v ∈ vals, ∃ t, v = .int 0 t ∨ v = .int 1 t)) (f6 : Off1 li [(I, oI), (D, PySem.W.listOf #[.ref a, .ref b] n), (b, PySem.W.listOf B.toArray nb), (a, PySem.W.listOf A.toArray na)]) : ShX h₀ s L I D a b oI n na nb A B m xv s₁
def ShI (size : Int) (base : List (Addr × Obj)) (i : Nat) (ys : List Value) (nw : List (Addr × Obj)) : Prop :=
  (i = 0 ∧ ys = [] ∧ nw = base) ∨ (i = 1 ∧ ∃ a A na, ys = [.ref a] ∧ nw = (a, PySem.W.listOf A.toArray na) :: base ∧ IntsAre A (zsOf size 0)) ∨
    (i = 2 ∧ ∃ a A na b B nb, ys = [.ref a, .ref b] ∧ nw = (b, PySem.W.listOf B.toArray nb) :: (a, PySem.W.listOf A.toArray na) :: base ∧ IntsAre A (zsOf size 0) ∧ IntsAre B (zsOf size 1) ∧ (@Ne Nat b a))
inductive ShTwo (size : Int) (base : List (Addr × Obj)) (ys : List Value) (nw : List (Addr × Obj)) : Prop
  | mk (a : Addr) (A : List Value) (na : Nat) (b : Addr) (B : List Value) (nb : Nat) (h1 : ys = [.ref a, .ref b]) (h2 : nw = (b, PySem.W.listOf B.toArray nb) :: (a, PySem.W.listOf A.toArray na) :: base) (hA : IntsAre A (zsOf size 0)) (hB : IntsAre B (zsOf size 1)) (ne : @Ne Nat b a) : ShTwo size base ys nw
theorem ShI.two {size : Int} {base : List (Addr × Obj)} {ys : List Value} {nw : List (Addr × Obj)} (x : ShI size base 2 ys nw) : ShTwo size base ys nw := by
  rcases x with ⟨q, _⟩ | ⟨q, _⟩ | ⟨_, a, A, na, b, B, nb, h1, h2, hA, hB, ne⟩
  · cases q
  · cases q
  · exact ⟨a, A, na, b, B, nb, h1, h2, hA, hB, ne⟩
theorem ShI.sub {size : Int} {base : List (Addr × Obj)} {i : Nat} {ys : List Value} {nw : List (Addr × Obj)} (x : ShI size base i ys nw) : (∀ p ∈ base, p ∈ nw) ∧ ys.length ≤ 2 := by
  rcases x with ⟨_, rfl, rfl⟩ | ⟨_, a, A, na, rfl, rfl, _⟩ | ⟨_, a, A, na, b, B, nb, rfl, rfl, _⟩
  · exact ⟨fun _ h => h, by simp⟩
  · exact ⟨fun _ h => .tail _ h, by simp⟩
  · exact ⟨fun _ h => .tail _ (.tail _ h), by simp⟩
section
set_option maxHeartbeats 1000000 in
theorem shelves_c {w : World} (l : Addr) (its : List Value) (ns : List Int) (size : Int) (t : Tok) (hs : 0 < size) (hs' : size < 2 ^ 60) (hi : IntsAre its ns) (hl : ns.length ≤ 6) (hn1 : [3 % size, 300 % size, 4097 % size].Nodup) (hn2 : [3 % size, 301 % size].Nodup) :
    Calls1 w 195 [.ref l, .int size t] 30 (fun h => h.IsList l its.toArray) (shelfPost size) := by
  w_top off
  k_with_none
  k_with "k_room" => (ktr_room)
  k_with "k_ne" => (first | exact offN (by assumption) (by k_mem) | exact Ne.symm (offN (by assumption) (by k_mem)) | (refine neN ?_; (try dsimp only); (first | lia | omega)))
  k_with "call ref" => ((refine held (p := wpAny _ _ (PySem.call (Value.ref _) _) _ _ _) ?_))
  k_with "binaryOp FloorDiv int int" => ((refine fdiv_gen (by assumption) (by assumption) ?_; intro _ _ _; try dsimp only))
  k_with "binaryOp Mod int int" => ((refine fmod_gen (by assumption) ?_; intro _ _ _ _ _; try dsimp only))
  k_with "exec For Name Name cons nil" => ((k_here; (rename Fr _ _ _ _ => lF'); (with_unfolding_all refine' For_invVF lF' ?k1 ?k2 ?_; (case k1 => exact rfl); (case k2 => exact rfl); k_whole); l_hasStore))
  k_with "exec For Name Subscript cons nil" => ((refine held (p := wpAny _ _ (exec _ _) _ _ _) ?_))
  k_with "pyIter ref" => ((refine held (p := wpAny _ _ (pyIter (Value.ref _)) _ _ _) ?_))
  k_with "compareOp NotIn int ref" => ((refine notin_ints (by k_asm) (by k_mem) (by assumption) ?_))
  k_with "eval ListComp" => ((refine held (p := wpAny _ _ (eval _ _) _ _ _) ?_))
  k_with "exec Assign cons ListComp" => ((refine held (p := wpAny _ _ (exec _ _) _ _ _) ?_))
  k_with "exec Assign" => k_fold
  k_with "exec If" => k_fold
  k_with "exec Expr" => k_fold
  k_with "exec AugAssign" => k_fold
  k_with "exec Return some" => k_fold
  intro loose mean mg mb dp un gd frames base s Q E B X T hd hu hp ret
  revert X; k_fill; intro X
  refine' enter0 (binds := [(Str.ofString "numbers", .ref l), (Str.ofString "size", .int size t)]) (by assumption) (by assumption) (by assumption) ?k6 ?k7 ?k8 ?k9 ?kB ?_ ?c2 ?c3 ?c4 ?c5
  (case k6 => k_dflt k_is)
  (case k7 => k_dflt k_is)
  (case k8 => exact room0 hd)
  (case k9 => exact BindsTo.of_eq rfl)
  (case kB => exact locs (by rfl))
  (case c5 => decide)
  (case c2 => exact rfl); (case c3 => exact rfl); (case c4 => exact rfl)
  intro L h' F' N'
  try dsimp only
  try k_fold
  k_steps
  rename_i v1 t1 e1 g1 g1' v2 t2 e2 g2 g2' v3 t3 e3 g3 g3' a0 _ _ v4 t4 e4 g4 g4' v5 t5 e5 g5 g5' b0 _ lb S0 _ lS _ F1 N1
  have hi1 : IntsAre [.int v1 t1, .int v2 t2, .int v3 t3] [3 % size, 300 % size, 4097 % size] := by rw [← e1, ← e2, ← e3]; exact .cons _ _ (.cons _ _ (.cons _ _ .nil))
  have hi2 : IntsAre [.int v4 t4, .int v5 t5] [3 % size, 301 % size] := by rw [← e4, ← e5]; exact .cons _ _ (.cons _ _ .nil)
  refine comp_local (cl := []) F1 ?a0 ?a ?b ?c0 ?c ?d ?e ?_
  case a0 => exact rfl
  case a => with_unfolding_all rfl
  case b => with_unfolding_all rfl
  case c0 => exact rfl
  case c => decide
  case d => exact rfl
  case e => exact rfl
  k_steps
  obtain ⟨base3, hb3⟩ : ∃ b, b = [(S0, PySem.W.listOf #[Value.ref a0, Value.ref b0] 0), (b0, PySem.W.listOf #[Value.int v4 t4, Value.int v5 t5] 0), (a0, PySem.W.listOf #[Value.int v1 t1, Value.int v2 t2, Value.int v3 t3] 0)] := ⟨_, rfl⟩
  have hB : ∀ i v, (#[Value.ref a0, Value.ref b0] : Array Value)[i]? = some v → i < 2 ∧ ∃ a vs na, v = .ref a ∧ (a, PySem.W.listOf vs.toArray na) ∈ base3 ∧ IntsAre vs (zsOf size i) ∧ (zsOf size i).Nodup ∧ (zsOf size i).length ≤ 3 := by
    intro i v h
    rcases (by (first | lia | omega) : i = 0 ∨ i = 1 ∨ 2 ≤ i) with rfl | rfl | h2
    · simp at h; subst h; exact ⟨by decide, a0, _, _, rfl, by rw [hb3]; exact .tail _ (.tail _ (.head _)), hi1, hn1, by simp [zsOf]⟩
    · simp at h; subst h; exact ⟨by decide, b0, _, _, rfl, by rw [hb3]; exact .tail _ (.head _), hi2, hn2, by simp [zsOf]⟩
    · rw [Array.getElem?_eq_none (by simpa using h2)] at h; cases h
  refine ⟨_, blk_C (Inv := ShI size base3) (srcList (news := base3) rfl F1 (by rw [hb3]; exact N1) (its := #[Value.ref a0, Value.ref b0]) (.inr ⟨_, by rw [hb3]; exact .head _, rfl, _, rfl⟩)) (fun _ => rfl) (fun _ => rfl) rfl (by with_unfolding_all rfl) (fun i ys nw _ h => Nat.le_trans h.sub.2 (by decide)) (fun i ys nw h p => .inr ⟨_, .tail _ (h.sub.1 _ (by rw [hb3]; exact .head _)), rfl, _, rfl⟩) (.inl ⟨rfl, rfl, rfl⟩) ?_, ?_⟩
  · clear F1 N1
    intro i v I oI C oC cq oq D m₂ h tk ys nw E' hi2 hPv hI hoC hoq F N off oq1 hDq ne3
    obtain ⟨hilt, a, vs, na, rfl, hma, hia, hnd, hl3⟩ := hB i v hPv
    have N2 : News s.heap L h ((I, oI) :: (C, oC) :: (D, lst ys) :: (cq, oq) :: (a, PySem.W.listOf vs.toArray na) :: nw) := fun p hp => by
      rcases List.mem_cons.mp hp with rfl | hp
      · exact N _ (.head _)
      · rcases List.mem_cons.mp hp with rfl | hp
        · exact N _ (.tail _ (.head _))
        · rcases List.mem_cons.mp hp with rfl | hp
          · exact N _ (.tail _ (.tail _ (.head _)))
          · rcases List.mem_cons.mp hp with rfl | hp
            · exact N _ (.tail _ (.tail _ (.tail _ (.head _))))
            · rcases List.mem_cons.mp hp with rfl | hp
              · exact N _ (.tail _ (.tail _ (.tail _ (.tail _ (hI.sub.1 _ hma)))))
              · exact N _ (.tail _ (.tail _ (.tail _ (.tail _ hp))))
    refine comp_eval (cl := [(Str.ofString "shelf", cq)]) F ?b ?c0 ?c ?_
    case b => with_unfolding_all rfl
    case c0 => exact rfl
    case c => decide
    clear N
    k_steps
    rename_i hr Fa Na _
    have hz := hia.length
    generalize hzs : zsOf size i = zs at *
    have nl : Builtin.Range.rangeSize 0 (zs.length : Int) 1 = ((zs.length : Nat) : Int) := by rw [rangeSize_nat]; (first | lia | omega)
    refine ⟨_, blk_V (Inv := fun j ys2 nw2 => nw2 = ((I, oI) :: (C, oC) :: (D, lst ys) :: (cq, oq) :: (a, PySem.W.listOf vs.toArray na) :: nw) ∧ IntsAre ys2 (zs.take j)) (srcRange (n := zs.length) rfl Fa Na hr (small_one (by decide) (by decide) (by (first | lia | omega)) (by (first | lia | omega))) nl) (fun _ => rfl) (fun _ => rfl) rfl (by rfl)
      (fun j ys2 nw2 _ hh => by have := hh.2.length; rw [List.length_take] at this; rw [this]; exact Nat.le_trans (Nat.min_le_right _ _) (Nat.le_trans hl3 (by decide))) (fun _ _ _ _ => trivial) ⟨rfl, by rw [List.take_zero]; exact .nil⟩ ?_, ?_⟩
    · clear hr Fa Na off
      intro j v2 I2 oI2 C2 oC2 D2 m3 h2 tk2 ys2 nw2 E2 hj hP2 hI2 hoC2 hx2 F2 N2 off2 ne2
      obtain ⟨tv, rfl⟩ := hP2
      obtain ⟨rfl, hys2⟩ := hI2
      have hkk : (0 : Int) + (j : Int) = (j : Int) := by (first | lia | omega)
      rw [hkk] at hx2
      refine wpAny_tests_one ?_
      k_steps
      · rename_i hbad
        rw [Int.toNat_natCast, nodup_any hnd hj] at hbad
        cases hbad
      · rename Fr _ _ _ _ => F3
        rename News _ _ _ _ => N3
        exact ⟨_, _, _, rfl, F3, fun p hp => N3 p (.tail _ hp), off2, rfl, by rw [take_snoc hj]; exact ints_snoc hys2⟩
    · rintro ys2 nw2 ⟨rfl, h2⟩ D2 h3 tk3 F3 N3 o3
      rw [List.take_length] at h2
      have oD2 : Off1 D2 nw := o3.2.2.2.2.2
      refine ⟨h3, tk3, (cq, oq) :: (D2, lst ys2) :: nw, rfl, F3, ?_, ⟨off.1, ⟨Ne.symm o3.1, Ne.symm o3.2.1, Ne.symm o3.2.2.1⟩, off.2⟩, (D2, lst ys2) :: nw, rfl, ⟨Ne.symm o3.2.2.2.1, oq1⟩, ?_⟩
      · intro p hp
        rcases List.mem_cons.mp hp with rfl | hp
        · exact N3 _ (.tail _ (.head _))
        · rcases List.mem_cons.mp hp with rfl | hp
          · exact N3 _ (.tail _ (.tail _ (.head _)))
          · rcases List.mem_cons.mp hp with rfl | hp
            · exact N3 _ (.tail _ (.tail _ (.tail _ (.head _))))
            · rcases List.mem_cons.mp hp with rfl | hp
              · exact N3 _ (.tail _ (.tail _ (.tail _ (.tail _ (.head _)))))
              · rcases List.mem_cons.mp hp with rfl | hp
                · exact N3 _ (.head _)
                · exact N3 _ (.tail _ (.tail _ (.tail _ (.tail _ (.tail _ (.tail _ hp))))))
      · rcases hI with ⟨rfl, rfl, rfl⟩ | ⟨rfl, a1, A1, n1, rfl, rfl, h1⟩ | ⟨rfl, _⟩
        · exact .inr (.inl ⟨rfl, D2, ys2, _, rfl, rfl, hzs ▸ h2⟩)
        · exact .inr (.inr ⟨rfl, a1, A1, n1, D2, ys2, _, rfl, rfl, h1, hzs ▸ h2, Ne.symm oD2.1⟩)
        · (first | lia | omega)
  · rintro ys nw hG D h2 tk2 F2 N2 o2
    obtain ⟨a, A, na, b, B, nb, rfl, rfl, hA, hBi, hba⟩ := hG.two
    have hDb : (@Ne Nat b D) := o2.1
    have hDa : (@Ne Nat a D) := o2.2.1
    clear F1 N1 hB lb lS
    replace N2 : News s.heap L h2 [(D, PySem.W.listOf #[.ref a, .ref b] 2), (b, PySem.W.listOf B.toArray nb), (a, PySem.W.listOf A.toArray na)] := news_sub N2 (by lcg_sub)
    k_steps
    rename Fr _ _ _ _ => F3
    refine iter_L (Q := _) rfl hp F3 N2 (ShJ D a b l size t) ⟨none, none, A, B, _, _, na, nb, 2, smap0, rfl, hA, hBi, shelf_start hs hn1, shelf_start hs hn2⟩ ?_ ?_
    · clear F3 N2
      rintro i v m1 nw I oI h3 tk3 hin hv ⟨xo, wo, A, B, xs, ys, na, nb, n, rfl, rfl, hA, hBi, sA, sB⟩ oI1 F3 N3
      obtain ⟨xv, tv, rfl⟩ : ∃ xv tv, v = .int xv tv := by
        have hlt : i < ns.length := by rw [← hi.length]; simpa using hin
        obtain ⟨tv, hx⟩ := hi.get i ns[i] (by simp [hlt])
        have hv' : its[i]? = some v := by simpa using hv
        rw [hx] at hv'
        exact ⟨_, _, (Option.some.inj hv').symm⟩
      rw [smap1] at F3
      replace F3 : Fr s.heap L h3 (smap (some (Value.int xv tv)) wo D l size t) := F3
      replace N3 : News s.heap L h3 [(I, oI), (D, PySem.W.listOf #[.ref a, .ref b] n), (b, PySem.W.listOf B.toArray nb), (a, PySem.W.listOf A.toArray na)] := N3
      k_steps
      refine For_invVF F3 rfl rfl (wpAny_mono (Q := ShX s.heap s L I D a b oI n na nb A B (smap (some (Value.int xv tv)) wo D l size t)) ?_ (fun xvv s9 hX => ?_) fun _ _ e => e)
      · k_steps
        · rename Fr _ _ _ _ => F4
          rename News _ _ _ _ => N4
          exact ⟨_, [_], _, _, _, rfl, rfl, F4, news_sub N4 (by lcg_sub), by simp, fun v hv => ⟨_, .inl (List.mem_singleton.mp hv)⟩, ⟨by k_ne, by k_ne, by k_ne, by k_ne, trivial⟩⟩
        · rename Fr _ _ _ _ => F4
          rename News _ _ _ _ => N4
          exact ⟨_, [_], _, _, _, rfl, rfl, F4, news_sub N4 (by lcg_sub), by simp, fun v hv => ⟨_, .inr (List.mem_singleton.mp hv)⟩, ⟨by k_ne, by k_ne, by k_ne, by k_ne, trivial⟩⟩
        · rename Fr _ _ _ _ => F4
          rename News _ _ _ _ => N4
          exact ⟨_, [_, _], _, _, _, rfl, rfl, F4, news_sub N4 (by lcg_sub), by simp, fun v hv => (by rcases List.mem_cons.mp hv with rfl | hv; exact ⟨_, .inl rfl⟩; exact ⟨_, .inr (List.mem_singleton.mp hv)⟩), ⟨by k_ne, by k_ne, by k_ne, by k_ne, trivial⟩⟩
      · obtain ⟨li, vals, nv, h4, tk4, rfl, rfl, F4, N4, hv2, h01, oli⟩ := hX
        refine iter_M (Q := _) rfl F4 N4 (ShK D a b l li I oI vals nv (some (.int xv tv)) size t (3 + 2 * i)) ⟨wo, A, B, xs, ys, na, nb, n, rfl, rfl, hA, hBi, sA, sB⟩ (fun _ _ _ ⟨_, _, _, _, _, _, _, _, _, e, _, _, _, _⟩ => by rw [e]; exact .head _) ?_ ?_
        · clear F4 N4 F3 N3 hA hBi sA sB
          rintro j v2 m2 nw2 I2 oI2 h5 tk5 hj hv2 ⟨wo, A, B, xs, ys, na, nb, n, rfl, rfl, hA, hBi, sA, sB⟩ of2 F5 N5
          rw [smap2] at F5
          replace F5 : Fr s.heap L h5 (smap (some (.int xv tv)) (some v2) D l size t) := F5
          replace N5 : News s.heap L h5 [(I2, oI2), (li, PySem.W.listOf vals.toArray nv), (I, oI), (D, PySem.W.listOf #[.ref a, .ref b] n), (b, PySem.W.listOf B.toArray nb), (a, PySem.W.listOf A.toArray na)] := N5
          obtain ⟨tw, h2⟩ := h01 v2 (List.mem_of_getElem? (by simpa using hv2))
          clear hv2
          have hA1 := hA.length
          have hB1 := hBi.length
          have hA2 := sA.len
          have hB2 := sB.len
          have hj2 : j < 2 := by rw [List.size_toArray] at hj; (first | lia | omega)
          have hi6 : i < 6 := by rw [List.size_toArray, hi.length] at hin; (first | lia | omega)
          have hA3 : A.length < 100 := by (first | lia | omega)
          have hB3 : B.length < 100 := by (first | lia | omega)
          rcases h2 with rfl | rfl
          · k_steps
            · rename Fr _ _ _ _ => F6
              rename News _ _ _ _ => N6
              exact ⟨_, _, _, _, rfl, F6, N6, of2, _, A, B, xs, ys, na, nb, n, rfl, rfl, hA, hBi, sA.mono (by (first | lia | omega)), sB.mono (by (first | lia | omega))⟩
            · rename_i w1 _ e1 _ _ _ _ hany _ w2 tw2 e2 p2 q2 _ F6 N6
              rw [List.push_toArray] at N6
              exact ⟨_, _, _, _, rfl, F6, N6, of2, _, A ++ [.int w2 tw2], B, xs ++ [w2], ys, na + 1, nb, n, rfl, rfl, ints_snoc hA, hBi, sA.add (not_any hany (e2.trans e1.symm)) p2 q2, sB.mono (by (first | lia | omega))⟩
          · k_steps
            · rename Fr _ _ _ _ => F6
              rename News _ _ _ _ => N6
              exact ⟨_, _, _, _, rfl, F6, N6, of2, _, A, B, xs, ys, na, nb, n, rfl, rfl, hA, hBi, sA.mono (by (first | lia | omega)), sB.mono (by (first | lia | omega))⟩
            · rename_i w1 _ e1 _ _ _ _ hany _ w2 tw2 e2 p2 q2 _ F6 N6
              rw [List.push_toArray] at N6
              exact ⟨_, _, _, _, rfl, F6, N6, of2, _, A, B ++ [.int w2 tw2], xs, ys ++ [w2], na, nb + 1, n, rfl, rfl, hA, ints_snoc hBi, sA.mono (by (first | lia | omega)), sB.add (not_any hany (e2.trans e1.symm)) p2 q2⟩
        · rintro m2 nw2 h5 tk5 ⟨wo, A, B, xs, ys, na, nb, n, rfl, rfl, hA, hBi, sA, sB⟩ F5 N5
          k_steps
          refine ⟨_, _, _, [(D, PySem.W.listOf #[.ref a, .ref b] n), (b, PySem.W.listOf B.toArray nb), (a, PySem.W.listOf A.toArray na)], rfl, F5, news_sub N5 (by lcg_sub), ⟨oI1.1, oI1.2.1, oI1.2.2.1, trivial⟩, _, wo, A, B, xs, ys, na, nb, n, rfl, rfl, hA, hBi, sA.mono ?_, sB.mono ?_⟩ <;> (rw [List.size_toArray]; (first | lia | omega))
    · rintro m1 nw h3 tk3 ⟨xo, wo, A, B, xs, ys, na, nb, n, rfl, rfl, hA, hBi, sA, sB⟩ F3 N3
      k_steps
      have zD := N3 _ (.head _)
      have zb := N3 _ (.tail _ (.head _))
      have za := N3 _ (.tail _ (.tail _ (.head _)))
      have l6 : 3 + 2 * its.toArray.size ≤ 15 := by rw [List.size_toArray, hi.length]; (first | lia | omega)
      exact ret _ _ _ (Fr.keep F3) ⟨D, a, b, A, B, xs, ys, n, na, nb, rfl, zD.2.2, za.2.2, zb.2.2, Ne.symm hDa, Ne.symm hDb, Ne.symm hba, zD.1, za.1, zb.1, hA, hBi, sA.mono l6, sB.mono l6⟩
end
end Mine
end
section
open PySem PySem.W PyProof.Rows PySem.Calls PyProof.Rows.LCg
set_option maxRecDepth 100000
namespace Mine
namespace Fm
theorem slot_map_next : Slot "map" "__next__" "map.__next__" :=
  .of (owner := "map") (n := "__next__") (by rw [typeLookup_type, builtinLookup_eq_fast]; kernel_rfl) (by decide +kernel) (by decide +kernel) (by decide +kernel)
    (by first | exact .inl (by decide +kernel) | exact .inr (by decide +kernel)) (by rw [isSubtype_type]; kernel_rfl)
theorem entry_map_next : entryFor table "map.__next__" = some Builtin.«map.__next__» := entryFor_of_tree (by kernel_rfl)
theorem owner_map : Manifest.owners.lookup (String.ofList ['p', 'a', 'm'].reverse) = some Manifest.sig_map := by kernel_rfl
theorem args_map_next_1 (a : Value) : argsOk "map.__next__" ⟨[a], []⟩ := by
  unfold argsOk; rw [signature?_of (id := "map.__next__") (n := ['_', '_', 't', 'x', 'e', 'n', '_', '_']) (o := ['p', 'a', 'm']) (by kernel_rfl) owner_map]; kernel_rfl
theorem slot_map_iter : Slot "map" "__iter__" "map.__iter__" :=
  .of (owner := "map") (n := "__iter__") (by rw [typeLookup_type, builtinLookup_eq_fast]; kernel_rfl) (by decide +kernel) (by decide +kernel) (by decide +kernel)
    (by first | exact .inl (by decide +kernel) | exact .inr (by decide +kernel)) (by rw [isSubtype_type]; kernel_rfl)
theorem args_map_iter_1 (a : Value) : argsOk "map.__iter__" ⟨[a], []⟩ := by
  unfold argsOk; rw [signature?_of (id := "map.__iter__") (n := ['_', '_', 'r', 'e', 't', 'i', '_', '_']) (o := ['p', 'a', 'm']) (by kernel_rfl) owner_map]; kernel_rfl
theorem entry_map_iter : entryFor table "map.__iter__" = some Builtin.«dict_keyiterator.__iter__» :=
  entryFor_alias (id' := "dict_keyiterator.__iter__") (by kernel_rfl) (by first | rfl | decide +kernel | (unfold String.splitOn; simp +decide [String.splitOnAux])) (by decide +kernel) (by kernel_rfl)
theorem slot_map_init : Slot "map" "__init__" "object.__init__" :=
  .of (owner := "object") (n := "__init__") (by rw [typeLookup_type, builtinLookup_eq_fast]; kernel_rfl) (by decide +kernel) (by decide +kernel) (by decide +kernel)
    (by first | exact .inl (by decide +kernel) | exact .inr (by decide +kernel)) (by rw [isSubtype_type]; kernel_rfl)
theorem mro_map : mroOf (.type "map") = pure [.type "map", .type "object"] := by rw [mroOf_type]; kernel_rfl
theorem lookup_map_new : typeLookup (.type "map") "__new__" = pure (some (.builtin "map.__new__")) := by rw [typeLookup_type, builtinLookup_eq_fast]; kernel_rfl
theorem called_map : TypeCalled "map" "map.__new__" "object.__init__" :=
  ⟨by decide +kernel, by decide +kernel, ⟨_, _, mro_map⟩, madeBy_type mro_map lookup_map_new (by decide +kernel), by decide +kernel, by rw [isSubtype_type]; kernel_rfl, slot_map_init⟩
theorem typeCall_map_2 (a b : Value) : checkTypeCall "map" ⟨[a, b], []⟩ = pure () := by kernel_rfl
theorem newCall_map_2 (a b : Value) : checkBuiltinCall "map.__new__" ⟨[.type "map", a, b], []⟩ = pure () := by kernel_rfl
theorem entry_map_new : entryFor table "map.__new__" = some Builtin.«map.__new__» := entryFor_of_tree (by kernel_rfl)
theorem sub_map : isSubtype (.type "map") (.type "map") = pure true := by rw [isSubtype_type]; kernel_rfl
theorem map_no_len : typeLookup (.type "map") "__len__" = pure none := by rw [typeLookup_type, builtinLookup_eq_fast]; kernel_rfl
theorem map_no_hint : typeLookup (.type "map") "__length_hint__" = pure none := by rw [typeLookup_type, builtinLookup_eq_fast]; kernel_rfl
end Fm
abbrev mapObj (TI : Addr) (f : Value) : Obj := { cls := .type "map", dict := none, data := .fields #[.ref TI, f], slots := #[] }
abbrev tup1 (v : Value) : Obj := { cls := .type "tuple", data := .seq #[v] }
section
variable {prog : Program} {w : World} {A : Around} {E : Value → Shared → Prop} {s : Shared}
theorem map_next_item {z TI it l : Addr} {f x : Value} {k : Nat} {xs : Array Value} {Q : Value → Shared → Prop} (hz : s.heap.get? z = some (mapObj TI f)) (hTI : s.heap.get? TI = some (tup1 (.ref it))) (h1 : s.heap.IsListIter it l k) (hl : s.heap.IsList l xs) (hx : xs[k]? = some x) (hzi : it ≠ z)
    (hQ : ∀ h', h'.IsListIter it l (k + 1) → Heap.SameBut it s.heap h' → wpAny (model prog w) A (call f [x]) Q E { s with heap := h' }) :
    wpAny (model prog w) A (Builtin.«map.__next__» ⟨[.ref z], []⟩) (fun fin s' => ∃ v, fin = .done (.ret v) ∧ Q v s') E s := by
  show wpAny _ _ (field (.ref z) 0 >>= _) _ _ _
  refine wpAny_bind (wpAny_field hz rfl (x := .ref TI) rfl ?_)
  refine wpAny_bind (wpAny_seqItems hTI rfl ?_)
  show wpAny _ _ (forIn (#[Value.ref it] : Array Value) (#[] : Array Value) _ >>= _) _ _ _
  refine wpAny_bind ?_
  rw [← Array.forIn_toList]
  simp only [List.forIn_cons, List.forIn_nil]
  refine wpAny_bind (wpAny_bind (wpAny_holding (wpAny_nextOf_list_item h1 hl hx fun h' h1' hs' => wpAny_pure (wpAny_pure ?_))))
  have hz' : h'.get? z = some (mapObj TI f) := hs'.extBut _ _ (Ne.symm hzi) hz
  refine wpAny_bind (wpAny_field hz' rfl (x := f) rfl ?_)
  refine wpAny_bind (wpAny_holding (wpAny_mono (hQ h' h1' hs') (fun v s' hv => ?_) fun _ _ e => e))
  exact wpAny_bind (wpAny_letGo (wpAny_pure ⟨_, rfl, hv⟩))
theorem map_next_end {z TI it l : Addr} {f : Value} {k : Nat} {xs : Array Value} {Q : Fin → Shared → Prop} (hh : A.handled = none) (hz : s.heap.get? z = some (mapObj TI f)) (hTI : s.heap.get? TI = some (tup1 (.ref it))) (h1 : s.heap.IsListIter it l k) (hl : s.heap.IsList l xs) (hx : xs[k]? = none)
    (hE : ∀ h' e, Heap.ExtBut it s.heap h' → (∃ o, h'.get? e = some o ∧ o.cls = .type "StopIteration") → E (.ref e) { s with heap := h' }) :
    wpAny (model prog w) A (Builtin.«map.__next__» ⟨[.ref z], []⟩) Q E s := by
  show wpAny _ _ (field (.ref z) 0 >>= _) _ _ _
  refine wpAny_bind (wpAny_field hz rfl (x := .ref TI) rfl ?_)
  refine wpAny_bind (wpAny_seqItems hTI rfl ?_)
  show wpAny _ _ (forIn (#[Value.ref it] : Array Value) (#[] : Array Value) _ >>= _) _ _ _
  refine wpAny_bind ?_
  rw [← Array.forIn_toList]
  simp only [List.forIn_cons, List.forIn_nil]
  exact wpAny_bind (wpAny_bind (wpAny_holding (wpAny_nextOf_list_end hh h1 hl hx hE)))
theorem pyNext_map_item {z TI it l : Addr} {f x : Value} {k : Nat} {xs : Array Value} {Q : Option Value → Shared → Prop} (hz : s.heap.get? z = some (mapObj TI f)) (hTI : s.heap.get? TI = some (tup1 (.ref it))) (h1 : s.heap.IsListIter it l k) (hl : s.heap.IsList l xs) (hx : xs[k]? = some x) (hzi : it ≠ z)
    (hQ : ∀ h' E, h'.IsListIter it l (k + 1) → Heap.SameBut it s.heap h' → wpAny (model prog w) A.in1 (call f [x]) (fun v s' => Q (some v) s') E { s with heap := h' }) :
    wpAny (model prog w) A (pyNext (.ref z)) Q E s := by
  have hT : s.TypeIs (.ref z) "map" := ⟨_, hz, rfl⟩
  unfold pyNext
  exact wpAny_bind (wpAny_attempt (wpAny_callSpecial?_slot (name := Str.ofString "__next__") hT Fm.slot_map_next
    (wpAny_call_entry Fm.slot_map_next hT Fm.entry_map_next
      (map_next_item hz hTI h1 hl hx hzi fun h' a1 a2 => wpAny_mono (hQ h' _ a1 a2) (fun v s' hv => wpAny_pure hv) fun _ _ e => e) (Fm.args_map_next_1 _))))
theorem pyNext_map_end {z TI it l : Addr} {f : Value} {k : Nat} {xs : Array Value} {Q : Option Value → Shared → Prop} (hh : A.handled = none) (hz : s.heap.get? z = some (mapObj TI f)) (hTI : s.heap.get? TI = some (tup1 (.ref it))) (h1 : s.heap.IsListIter it l k) (hl : s.heap.IsList l xs) (hx : xs[k]? = none)
    (hQ : ∀ h', Heap.ExtBut it s.heap h' → Q none { s with heap := h' }) : wpAny (model prog w) A (pyNext (.ref z)) Q E s := by
  have hT : s.TypeIs (.ref z) "map" := ⟨_, hz, rfl⟩
  unfold pyNext
  refine wpAny_bind (wpAny_attempt (wpAny_callSpecial?_slot (name := Str.ofString "__next__") hT Fm.slot_map_next
    (wpAny_call_entry Fm.slot_map_next hT Fm.entry_map_next (map_next_end hh hz hTI h1 hl hx fun h' e hk he => ?_) (Fm.args_map_next_1 _))))
  obtain ⟨o, ho, hc⟩ := he
  refine wpAny_bind (wpAny_isInstance (T := "StopIteration") (b := true) ⟨o, ho, hc⟩ isSubtype_stop ?_)
  exact wpAny_pure (hQ _ hk)
theorem pyIter_map {z TI : Addr} {f : Value} {Q : Value → Shared → Prop} (hz : s.heap.get? z = some (mapObj TI f)) (h : Q (.ref z) s) : wpAny (model prog w) A (pyIter (.ref z)) Q E s := by
  have hT : s.TypeIs (.ref z) "map" := ⟨_, hz, rfl⟩
  refine wpAny_pyIter_slot hT Fm.slot_map_iter (wpAny_call_entry Fm.slot_map_iter hT Fm.entry_map_iter ?_ (Fm.args_map_iter_1 _))
  show wpAny _ _ (ret (.ref z)) _ _ s
  exact wpAny_pure ⟨_, rfl, "map", _, hT, Fm.slot_map_next.lookup, h⟩
abbrev mapH1 (h : Heap) (l : Addr) : Heap := h.push { cls := .type "list_iterator", data := .fields #[.ref l, .int 0 0] }
abbrev mapH2 (h : Heap) (l : Addr) : Heap := (mapH1 h l).push (tup1 (.ref h.objs.size))
abbrev mapH3 (h : Heap) (l : Addr) (f : Value) : Heap := (mapH2 h l).push (mapObj (mapH1 h l).objs.size f)
theorem meets_map_new (f : Value) (l : Addr) (xs : Array Value) :
    Meets (Builtin.«map.__new__» ⟨[.type "map", f, .ref l], []⟩) (fun _ R s => s.heap.IsList l xs ∧ R (.ok (.ret (.ref (mapH2 s.heap l).objs.size))) { s with heap := mapH3 s.heap l f }) :=
  .of_wp fun prog w A R s h => by
    obtain ⟨hp, g, d, tk, os⟩ := s; obtain ⟨hl1, h⟩ := h
    have hsub := Fm.sub_map
    have hL1 : Heap.IsList (Shared.heap ⟨hp, g, d, tk, os⟩) l xs := hl1
    wp_walk using wpAny_pyIter_list hL1
    exact ⟨_, rfl, h⟩
theorem call_map_2 {f : Value} {l : Addr} {xs : Array Value} {Q : Value → Shared → Prop} (hl : s.heap.IsList l xs)
    (h : ∀ h' z TI it, h'.get? z = some (mapObj TI f) → h'.get? TI = some (tup1 (.ref it)) → h'.IsListIter it l 0 → (@Ne Nat it z) → s.heap.objs.size ≤ it → s.heap.objs.size ≤ TI → s.heap.objs.size ≤ z → (@Ne Nat TI it) →
      (∀ c o, s.heap.get? c = some o → h'.get? c = some o) → Q (.ref z) { s with heap := h' }) :
    wpAny (model prog w) A (call (.type "map") [f, .ref l]) Q E s := by
  refine callType_new Fm.called_map (by decide) (Fm.typeCall_map_2 _ _) (Fm.newCall_map_2 _ _) (fun obj => F.args_object_init_3 obj _ _) Fm.entry_map_new
    (meets_map_new f l xs) ⟨hl, ?_⟩
  have z1 : (mapH1 s.heap l).objs.size = s.heap.objs.size + 1 := Heap.size_push ..
  have z2 : (mapH2 s.heap l).objs.size = s.heap.objs.size + 2 := by rw [Heap.size_push, z1]
  have g3 : (mapH3 s.heap l f).get? (mapH2 s.heap l).objs.size = some _ := Heap.get?_push_size _ rfl
  have g2 : (mapH3 s.heap l f).get? (mapH1 s.heap l).objs.size = some _ := Heap.get?_push_of_some _ (Heap.get?_push_size _ rfl)
  have g1 : (mapH3 s.heap l f).get? s.heap.objs.size = some _ := Heap.get?_push_of_some _ (Heap.get?_push_of_some _ (Heap.get?_push_size _ rfl))
  show _ ∧ _
  refine ⟨⟨_, g3, rfl⟩, h _ _ _ _ g3 g2 ⟨_, g1, rfl, rfl⟩ ?_ (Nat.le_refl _) ?_ ?_ ?_ fun c o x => Heap.get?_push_of_some _ (Heap.get?_push_of_some _ (Heap.get?_push_of_some _ x))⟩
  · rw [z2]; exact Nat.ne_of_lt (Nat.lt_succ_of_lt (Nat.lt_succ_self _))
  · rw [z1]; exact Nat.le_succ _
  · rw [z2]; exact Nat.le_succ_of_le (Nat.le_succ _)
  · rw [z1]; exact Ne.symm (Nat.ne_of_lt (Nat.lt_succ_self _))
end
end Mine
end
section
open PySem PySem.W PyProof.Rows PySem.Calls PyProof.Rows.LCg
set_option maxRecDepth 100000
namespace PySem
end PySem
namespace Mine
section
variable {prog : Program} {w : World} {A : Around} {E : Value → Shared → Prop} {s : Shared} {I : Addr} {fp wr : List Addr} {G : Array GenState → Array GenState → Prop} {n : Nat} {P : Nat → Value → Prop} {St : Nat → Shared → Prop}
theorem collect_map {Q : List Value → Shared → Prop} (W : WalksS prog w A.in1 I fp wr G n P St) (hT : ∀ i s, St i s → s.TypeIs (.ref I) "map") (hst : St 0 s) (hfp : ∀ b ∈ fp, b < s.heap.objs.size) (hI : I ∈ fp)
    (hQ : ∀ s' acc, Moved wr G s s' → ItemsOf P acc n → Q acc.toList s') (hn : n ≤ sizeLine) : wpAny (model prog w) A (collect (.ref I)) Q E s := by
  have hSf : s.heap.objs.size ∉ fp := fun hm => Nat.lt_irrefl _ (hfp _ hm)
  have hSI : s.heap.objs.size ≠ I := fun e => hSf (e ▸ hI)
  unfold collect
  refine wpAny_bind (wpAny_runValue (codeAny_builtin F.entry_proto_collect ?_))
  rw [Around.under_plainId F.plain_proto_collect _]
  show wpAny _ A.in1 (newList [] >>= fun l => again (.builtin "list.__iadd__" ⟨[l, .ref I], []⟩)) _ _ s
  refine wpAny_bind (wpAny_newObj_type ?_)
  refine wpAny_pure ⟨plainId_quiet F.plain_list_iadd _, codeAny_builtin F.entry_list_iadd ?_⟩
  rw [Around.under_plainId F.plain_list_iadd _]
  have hst₁ := W.frame 0 s (s.heap.push { cls := .type "list", data := .seq ([] : List Value).toArray }) s.toks hst (Nat.le_refl _) fun b _ o e => Heap.get?_push_of_some _ e
  show wpAny _ A.in1 (Builtin.List.listExtendWith (.ref s.heap.objs.size) (.ref I) (.ref s.heap.objs.size)) _ _ _
  unfold Builtin.List.listExtendWith
  refine wpAny_bind (wpAny_typeOf (hT 0 _ hst₁) ?_)
  have h1 : Builtin.List.listSameRef (.ref s.heap.objs.size) (.ref I) = false := by simp [Builtin.List.listSameRef, hSI]
  have h2 : (Value.type "map" == Value.type "list") = false := by decide
  have h3 : (Value.type "map" == Value.type "tuple") = false := by decide
  simp only [h1, h2, h3, Bool.or_false, Bool.false_eq_true, if_false]
  refine wpAny_bind (W.self 0 _ _ _ hst₁ ?_)
  refine wpAny_bind (wpAny_holding ?_)
  unfold Builtin.List.listLengthHint
  refine wpAny_bind (wpAny_specialOf (hT 0 _ hst₁) Fm.map_no_len ?_)
  show wpAny _ A.in1 (specialOf (Value.ref I) (Str.ofString "__length_hint__") >>= _) _ _ _
  refine wpAny_bind (wpAny_specialOf (hT 0 _ hst₁) Fm.map_no_hint ?_)
  refine wpAny_pure ?_
  show wpAny _ A.in1 (rule "list.extend.makes-room" >>= fun _ => Builtin.List.listTouch (.ref s.heap.objs.size) >>= fun _ =>
    again (.builtin "list.extend.loop" ⟨[.ref s.heap.objs.size, .ref I, .ref s.heap.objs.size], []⟩)) _ _ _
  refine wpAny_bind (wpAny_rule ?_)
  have hS₁ : (s.heap.push { cls := .type "list", data := .seq ([] : List Value).toArray }).get? s.heap.objs.size = some { cls := .type "list", data := .seq ([] : List Value).toArray } := Heap.get?_push_size _ rfl
  refine wpAny_bind ?_
  show wpAny _ A.in1 (updateSeq s.heap.objs.size (·.push .none) >>= fun _ => updateSeq s.heap.objs.size (·.pop)) _ _ _
  refine wpAny_bind (wpAny_updateSeq hS₁ rfl ?_)
  have hS₂ := Heap.get?_update_self (Obj.mapSeq (·.push Value.none)) hS₁ rfl
  refine wpAny_updateSeq hS₂ rfl ?_
  have hS₃ := Heap.get?_update_self (Obj.mapSeq (·.pop)) hS₂ rfl
  have oth : ∀ b o, b ≠ s.heap.objs.size → (s.heap.push { cls := .type "list", data := .seq ([] : List Value).toArray }).get? b = some o →
      (((s.heap.push { cls := .type "list", data := .seq ([] : List Value).toArray }).update s.heap.objs.size (Obj.mapSeq (·.push Value.none))).update s.heap.objs.size (Obj.mapSeq (·.pop))).get? b = some o :=
    fun b o hb e => (Heap.get?_update_other _ _ (Ne.symm hb)).trans ((Heap.get?_update_other _ _ (Ne.symm hb)).trans e)
  refine wpAny_pure ⟨plainId_quiet F.plain_extend_loop _, codeAny_extend_loopS W hn _ hSf _ n 0 _ _ _ rfl (Nat.zero_le _)
    (W.frame 0 ({ s with heap := s.heap.push { cls := .type "list", data := .seq ([] : List Value).toArray } } : Shared) _ s.toks hst₁ (Nat.le_refl _) fun b hb o e => oth b o (fun h => hSf (h ▸ hb)) e) hS₃ (ItemsOf.nil P) fun s' acc' c' hm hS' hacc => ?_⟩
  show wpAny _ A (load s.heap.objs.size >>= _) _ _ s'
  refine wpAny_bind (wpAny_load hS' ?_)
  refine wpAny_pure (hQ s' acc' (Moved.drop_new (o := { cls := .type "list", data := .seq ([] : List Value).toArray }) (tk := s.toks) (Moved.trans W.gtrans ((Moved.refl W.grefl).then_heap (by first | exact Nat.le_refl _ | exact Nat.le_succ _ | (first | lia | omega)) fun b o hb e => ?_) hm) (Nat.le_refl _)) hacc)
  exact oth b o (fun h => hb (h ▸ List.mem_cons_self)) e
theorem code_tuple_map {Q₁ : Value → Shared → Prop} (W : WalksS prog w A.in1.in1 I fp wr G n P St) (hT : ∀ i s, St i s → s.TypeIs (.ref I) "map") (hst : St 0 s) (hfp : ∀ b ∈ fp, b < s.heap.objs.size) (hI : I ∈ fp)
    (h : ∀ s' acc, Moved wr G s s' → ItemsOf P acc n → Q₁ (.ref s'.heap.objs.size) { s' with heap := s'.heap.push { cls := .type "tuple", data := .seq acc } }) (hsz : n ≤ sizeLine) :
    codeAny (model prog w) A (.call (.builtin "tuple.__new__") ⟨[.type "tuple", .ref I], []⟩) (wants Q₁ E) s := by
  refine codeAny_of_tree ?_
  show wpAny _ A.in1 (do checkBuiltinCall "tuple.__new__" ⟨[.type "tuple", .ref I], []⟩; again (.builtin "tuple.__new__" ⟨[.type "tuple", .ref I], []⟩)) _ _ s
  refine wpAny_bind (wpAny_of_eq (F.newCall_tuple_1 _) (wpAny_pure ⟨plainId_quiet F.plain_tuple_new _, codeAny_builtin F.entry_tuple_new ?_⟩))
  rw [Around.under_plainId F.plain_tuple_new _]
  have hsub := sub_tuple_self
  have hinit := init_tuple_lookup
  have hmh := madeHere_tuple
  have hTI := hT 0 s hst
  wp_walk using wpAny_typeOf hTI, collect_map (hn := hsz) W hT hst hfp hI
  intro s' acc hm hacc
  show wpAny _ _ (Builtin.Tuple.tupleExact acc.toList.toArray >>= fun v => ret v) _ _ _
  unfold Builtin.Tuple.tupleExact
  refine wpAny_bind (wpAny_newObj_type ?_ (by show acc.toList.toArray.size ≤ sizeLine; simp only [Array.toArray_toList]; rw [hacc.1]; exact hsz))
  refine wpAny_pure ?_
  have e : acc.toList.toArray = acc := by simp
  rw [e]
  exact h s' acc hm hacc
theorem call_tuple_map {Q : Value → Shared → Prop} (W : WalksS prog w A.in1.in1.in1 I fp wr G n P St) (hT : ∀ i s, St i s → s.TypeIs (.ref I) "map") (hst : St 0 s) (hfp : ∀ b ∈ fp, b < s.heap.objs.size) (hI : I ∈ fp)
    (hQ : ∀ s' acc, Moved wr G s s' → ItemsOf P acc n → Q (.ref s'.heap.objs.size) { s' with heap := s'.heap.push { cls := .type "tuple", data := .seq acc } }) (hsz : n ≤ sizeLine) :
    wpAny (model prog w) A (call (.type "tuple") [.ref I]) Q E s := by
  refine callType_codes (Q₁ := fun obj s₁ => s₁.TypeIs obj "tuple" ∧ Q obj s₁) F.called_tuple (F.typeCall_tuple_1 _) F.entry_object_init
    (code_tuple_map (hsz := hsz) W hT hst hfp hI fun s' acc hm hacc => ⟨⟨_, Heap.get?_push_size _ rfl, rfl⟩, hQ s' acc hm hacc⟩) fun obj s₁ h₁ => ?_
  exact ⟨h₁.1, F.args_object_init_2 obj _, object_init_meets F.called_tuple.init.lookup F.called_tuple.made (by decide) prog w A.in1 _ s₁ ⟨h₁.1, rfl, h₁.2⟩⟩
end
end Mine
end
section
open PySem PySem.W PyProof.Rows PySem.Calls PyProof.Rows.LCg
set_option maxRecDepth 100000
namespace Mine
/-- where a map over two texts stands, and what stood before it was made -/
structure MapAt (w : World) (dp un : Nat) (gd : Option (List Code)) (frames : List Env) (base h₁ : Heap) (loose : List Str) (mean : ExcName → Option Value) (mg mb : Str → Option Value) (l z TI it : Addr) (its : Array Value) (i : Nat) (h : Heap) : Prop where
  B : Below (AA dp un gd frames) base frames h₁
  X : (Mine.hd.heap_1 w.params).In h₁
  T : Top topProg loose mean mg mb h₁
  z0 : h.get? z = some (mapObj TI (.ref 136))
  t0 : h.get? TI = some (tup1 (.ref it))
  i0 : h.IsListIter it l i
  l0 : h₁.IsList l its
  iz : (@Ne Nat it z)
  ti : (@Ne Nat TI it)
  f1 : h₁.objs.size ≤ it
  f2 : h₁.objs.size ≤ TI
  f3 : h₁.objs.size ≤ z
  st : h₁.StaysIn h
theorem below_stays {A : Around} {base h h' : Heap} {frames : List Env} (B : Below A base frames h) (k : h.StaysIn h') : Below A base frames h' :=
  ⟨B.stack, fun b o e => k b o (B.stays b o e), B.frames.of_keeps fun b o e _ => ⟨o, k b o e, rfl⟩⟩
section
variable {w : World} {dp un : Nat} {gd : Option (List Code)} {frames : List Env} {base h₁ : Heap} {loose : List Str} {mean : ExcName → Option Value} {mg mb : Str → Option Value} {l z TI it : Addr} {x y : Str} {t u : Tok}
theorem MapAt.str {its : Array Value} {i : Nat} {h : Heap} (_ : MapAt w dp un gd frames base h₁ loose mean mg mb l z TI it its i h) : True := trivial
theorem walks_map (its : Array Value) (hs : ∀ v ∈ its, ∃ x t, v = .str x t) (hd : dp + 10 < recursionLimit) (hu : un + 84 < cLine) :
    Walks PySem.Challenge.rw_rt0087_01.row.prog w (AA dp un gd frames).in1.in1.in1 z (z :: TI :: it :: List.range h₁.objs.size) [it] its.size (fun i v => its[i]? = some v) (fun i h => MapAt w dp un gd frames base h₁ loose mean mg mb l z TI it its i h) where
  sub := fun b hb => by simp at hb; simp [hb]
  frame := fun i h h' M hk => { M with
    z0 := hk _ (by simp) _ M.z0
    t0 := hk _ (by simp) _ M.t0
    i0 := M.i0.at fun o e => hk it (by simp) o e
    st := fun b o e => hk b (by simp; exact .inr (.inr (.inr (Heap.lt_size e)))) _ (M.st b o e) }
  item := fun i s Q E hi M hQ => by
    have hl : s.heap.IsList l its := M.l0.at fun o e => M.st l o e
    refine pyNext_map_item M.z0 M.t0 M.i0 hl (x := its[i]) (by simp [hi]) M.iz fun h' E' h1 hs' => ?_
    have k' : ∀ b o, b ≠ it → s.heap.get? b = some o → h'.get? b = some o := fun b o hb e => hs'.extBut b o hb e
    have st' : h₁.StaysIn h' := fun b o e => k' b o (fun q => absurd (Heap.lt_size e) (by rw [q]; exact Nat.not_lt.mpr M.f1)) (M.st b o e)
    obtain ⟨x, t, hx⟩ := hs its[i] (Array.getElem_mem hi)
    rw [hx]
    refine fspath_c x t loose mean mg mb dp (un + 4) gd frames base { s with heap := h' } _ E' (below_stays (A := AA dp (un + 4) gd frames) ⟨rfl, M.B.stays, M.B.frames⟩ st') (M.X.keeps st') (M.T.keeps st') hd (by (first | lia | omega)) fun t' h'' tk' k'' => ?_
    refine hQ _ h'' tk' (by rw [← hx]; simp [hi]) { M with
      z0 := k'' _ _ (k' _ _ (Ne.symm M.iz) M.z0)
      t0 := k'' _ _ (k' _ _ M.ti M.t0)
      i0 := h1.at fun o e => k'' _ _ e
      st := fun b o e => k'' _ _ (st' b o e) } fun b o hb e => k'' _ _ (k' b o (by simpa using hb) e)
  done := fun s Q E M hQ => by
    have hl : s.heap.IsList l its := M.l0.at fun o e => M.st l o e
    exact pyNext_map_end rfl M.z0 M.t0 M.i0 hl (by simp) fun h' he' => hQ h' s.toks fun b o hb e => he' b o (fun q => hb (by simp [q])) e
  self := fun i s Q E M hQ => pyIter_map M.z0 hQ
end
section
variable {w : World} {A₀ : Around} {s : Shared} {base h₀ : Heap} {outer : List Env} {env : Env} {L : Addr} {m : Str → Option Value} {news : List (Addr × Obj)} {loose : List Str} {mean : ExcName → Option Value} {mg mb : Str → Option Value} {Q E : Value → Shared → Prop} {dp un : Nat} {gd : Option (List Code)}
theorem use_map1 {l : Addr} {its : Array Value} (B : Below A₀ base outer h₀) (F : Fr h₀ L s.heap m) (X : (Mine.hd.heap_1 w.params).In h₀) (N : News h₀ L s.heap news) (T : Top topProg loose mean mg mb h₀) (hf : env.frame = some L) (hk : env.scope.kind = .function) (hl : s.heap.IsList l its)
    (k : ∀ z TI it h', MapAt w dp un gd (env :: outer) base s.heap loose mean mg mb l z TI it its 0 h' → Fr h₀ L h' m → News h₀ L h' news → (∀ p ∈ news, (@Ne Nat p.1 it)) → h₀.get? it = none → (@Ne Nat L it) → Q (.ref z) { s with heap := h' }) :
    wpAny (model PySem.Challenge.rw_rt0087_01.row.prog w) (AA dp un gd (env :: outer)) (call (.type "map") [.ref 136, .ref l]) Q E s := by
  refine call_map_2 hl fun h' z TI it e1 e2 e3 n1 f1 f2 f3 n2 st => ?_
  have ge : ∀ {b : Addr} {o : Obj}, s.heap.get? b = some o → (@Ne Nat b it) := fun e q => absurd (Heap.lt_size e) (by rw [q]; exact Nat.not_lt.mpr f1)
  refine k z TI it h' ⟨below_here B F hf hk, X.keeps F.keep, T.keeps F.keep, e1, e2, e3, hl, n1, n2, f1, f2, f3, st⟩ (fr_stays F st) (news_stays N st) (fun p hp => ge (N p hp).1) ?_ ?_
  · cases q : h₀.get? it with
    | none => rfl
    | some o => exact absurd rfl (ge (F.keep _ _ q))
  · obtain ⟨_, _, _, e, _⟩ := F.ns
    exact ge e
theorem use_map2 {l z TI it : Addr} {its : Array Value} {h₁ : Heap} (F : Fr h₀ L s.heap m) (N : News h₀ L s.heap news) (M : MapAt w dp un gd (env :: outer) base h₁ loose mean mg mb l z TI it its 0 s.heap) (hni : ∀ p ∈ news, (@Ne Nat p.1 it)) (hi0 : h₀.get? it = none) (hLi : (@Ne Nat L it))
    (hs : ∀ v ∈ its, ∃ x t, v = .str x t) (hsz : its.size ≤ 100) (hd : dp + 10 < recursionLimit) (hu : un + 84 < cLine)
    (k : ∀ T h' tk', Fr h₀ L h' m → News h₀ L h' ((T, ({ cls := .type "tuple", data := .seq its } : Obj)) :: news) → (∀ p ∈ news, p.1 < T) → Q (.ref T) { s with heap := h', toks := tk' }) :
    wpAny (model PySem.Challenge.rw_rt0087_01.row.prog w) (AA dp un gd (env :: outer)) (call (.type "tuple") [.ref z]) Q E s := by
  have W := (walks_map (base := base) (h₁ := h₁) (loose := loose) (mean := mean) (mg := mg) (mb := mb) (l := l) (z := z) (TI := TI) (it := it) (frames := env :: outer) (gd := gd) (w := w) its hs hd hu).toS
  have hlt : ∀ b ∈ z :: TI :: it :: List.range h₁.objs.size, b < s.heap.objs.size := fun b hb => by
    rcases List.mem_cons.mp hb with rfl | hb
    · exact Heap.lt_size M.z0
    · rcases List.mem_cons.mp hb with rfl | hb
      · exact Heap.lt_size M.t0
      · rcases List.mem_cons.mp hb with rfl | hb
        · obtain ⟨_, e, _⟩ := M.i0; exact Heap.lt_size e
        · have h1 := List.mem_range.mp hb
          exact Nat.lt_of_lt_of_le (Nat.lt_of_lt_of_le h1 M.f3) (Nat.le_of_lt (Heap.lt_size M.z0))
  refine call_tuple_map W (fun i s' M' => ⟨_, M'.z0, rfl⟩) M hlt (.head _) (fun s' acc hm hacc => ?_) (Nat.le_trans hsz (by decide))
  have hacc' : acc = its := by
    obtain ⟨h1, h2⟩ := hacc
    refine Array.ext h1 fun j hj hj' => ?_
    have := h2 j acc[j] (by simp [hj])
    simpa [hj'] using this.symm
  subst hacc'
  have hs' : s' = { s with heap := s'.heap, toks := s'.toks } := by
    obtain ⟨_, g, d, o, _⟩ := hm
    obtain ⟨h', g', d', t', o'⟩ := s'
    dsimp only at g d o ⊢
    subst g; subst d; subst o; rfl
  have F' : Fr h₀ L s'.heap m := LCg.fr_but F hm.heap hLi hi0
  have N' : News h₀ L s'.heap news := LCg.news_but N hm.heap hni
  rw [hs']
  exact k _ _ _ (F'.push _) (N'.push F' _) fun p hp => Heap.lt_size (N' p hp).1
end
end Mine
end
section
open PySem PySem.W PyProof.Rows PySem.Calls PyProof.Rows.LCg
set_option maxRecDepth 100000
namespace Mine
def setO0 (led : Bool) : Obj := { cls := .type "set", dict := none, data := .set #[] 0 (.fresh 0 0 led) }
def tab1 (led : Bool) : SetTable := (layNew (.fresh 0 0 led) #[] 1 (.bool true)).2.1
def setO1 (led : Bool) : Obj := { cls := .type "set", dict := none, data := .set #[(1, .bool true)] 1 (tab1 led) }
theorem lay1 : ∀ led, layNew (.fresh 0 0 led) #[] 1 (.bool true) = (#[(1, .bool true)], tab1 led, false, false) := by
  intro led; cases led <;> rfl
theorem tab1_is : ∀ led, (tab1 led).plain = true ∧ (tab1 led).tooFull = false ∧ (tab1 led).fits 1 = true ∧ (tab1 led).led = led ∧ SetTable.below (tab1 led).place 0 = 0 ∧ SetTable.below (tab1 led).place 2 = 1 ∧ (tab1 led).place = #[1] := by
  intro led; cases led <;> decide +kernel
section
variable {prog : Program} {w : World} {A : Around} {E : Value → Shared → Prop} {s : Shared}
abbrev ledOf (w : World) : Bool := !(w.params.followText "set-order")
theorem new_set {Q : Value → Shared → Prop} (h : Q (.ref s.heap.objs.size) { s with heap := s.heap.push (setO0 (ledOf w)) }) : wpAny (model prog w) A (newSet (.type "set")) Q E s := by
  unfold newSet setsByText
  refine wpAny_bind (wpAny_bind (wpAny_askSetting (wpAny_pure ?_)))
  dsimp only
  simp only [newObj]
  exact wpAny_bind (wpAny_alloc (wpAny_pure h))
theorem hash_true {Q : Int → Shared → Prop} (h : ∀ tk, Q 1 { s with toks := tk }) : wpAny (model prog w) A (pyHash (.bool true)) Q E s := by
  unfold pyHash pyHashByItsType
  have hv : [Value.bool true].any Value.onHeap = false := rfl
  have hT : s.TypeIs (.bool true) "bool" := rfl
  refine wpAny_bind ?_
  rw [cRoomFor, if_neg (by rw [hv]; exact Bool.false_ne_true)]; refine wpAny_pure ?_
  refine wpAny_bind (wpAny_specialOf hT F.slot_bool_hash.lookup ?_)
  show wpAny _ _ (if (some (Value.builtin "int.__hash__") == some Value.none) = true then _ else _) Q E s
  rw [if_neg (by decide)]
  refine wpAny_bind (wpAny_specialOf hT F.slot_bool_hash.lookup ?_)
  show wpAny _ _ (callSpecialIfBoundUnlessNone? (.bool true) "__hash__" _ >>= _) Q E s
  refine wpAny_bind (wpAny_callSpecialIfBoundUnlessNone?_slot hT F.slot_bool_hash
    (wpAny_call_entry F.slot_bool_hash hT F.entry_int_hash
      (show wpAny _ _ (do ret (← mkInt (rawHash 1))) _ _ s from wpAny_ret_mkInt ?_) (F.args_int_hash_1 _)))
  show wpAny _ _ (if (decide (-(2 : Int) ^ 63 ≤ rawHash 1) && decide (rawHash 1 < 2 ^ 63)) = true then _ else _) Q E _
  rw [if_pos (by decide +kernel)]
  exact wpAny_pure (h _)
theorem add_true0 {S : Addr} {led : Bool} {Q : Value → Shared → Prop} (hS : s.heap.get? S = some (setO0 led)) (h : ∀ h' tk, h'.get? S = some (setO1 led) → Heap.SameBut S s.heap h' → Q .none { s with heap := h', toks := tk }) :
    wpAny (model prog w) A (call (.builtin "set.add") [.ref S, .bool true]) Q E s := by
  refine wpAny_call_entry F.slot_set_add ⟨_, hS, rfl⟩ F.entry_set_add ?_ (F.args_set_add_2 _ _)
  unfold Builtin.«set.add» Builtin.Frozenset.oneOther
  simp only [List.isEmpty_nil, bind_assoc]
  unfold Builtin.Frozenset.addrOf setAdd
  refine wpAny_bind (wpAny_pure ?_)
  try dsimp only
  refine wpAny_bind (wpAny_pure ?_)
  try dsimp only
  refine wpAny_bind ?_
  refine wpAny_holding ?_
  refine wpAny_bind (hash_true fun tk => ?_)
  unfold setAddHashed setAddHashedIn
  refine wpAny_holding (wpAny_bind (wpAny_setState_of (o := setO0 led) hS rfl rfl ?_))
  dsimp only
  rw [show byScan (.bool true) (#[] : Array (Int × Value)) = true from by decide +kernel]
  simp only [↓reduceIte]
  unfold setAddByScan
  refine wpAny_bind ?_
  refine wpAny_bind (wpAny_rule ?_)
  refine wpAny_bind (show wpAny (model prog w) A.in1 (setScan S (.bool true) 1 true #[]) _ _ _ from wpAny_pure ?_)
  dsimp only
  rw [lay1]
  dsimp only
  refine wpAny_bind (wpAny_pure ?_)
  rw [if_pos (tab1_is led).1]
  refine wpAny_bind ?_
  rw [hashByValue_scannable 8 (by rfl)]
  refine wpAny_pure ?_
  rw [show plainKind (Value.bool true) = true from rfl]
  simp only [↓reduceIte]
  refine wpAny_bind (wpAny_storeSet_of (o := setO0 led) hS rfl ?_)
  rw [(tab1_is led).2.1]
  simp only [Bool.not_false, Bool.and_false, Bool.false_eq_true, if_false]
  refine wpAny_pure (wpAny_pure ?_)
  show wpAny _ _ (ret Value.none) _ _ _
  exact wpAny_pure ⟨_, rfl, h _ _ (Heap.get?_update_self _ hS rfl) (Heap.SameBut.update ..)⟩
theorem add_true1 {S : Addr} {led : Bool} {Q : Value → Shared → Prop} (hS : s.heap.get? S = some (setO1 led)) (h : ∀ tk, Q .none { s with toks := tk }) :
    wpAny (model prog w) A (call (.builtin "set.add") [.ref S, .bool true]) Q E s := by
  refine wpAny_call_entry F.slot_set_add ⟨_, hS, rfl⟩ F.entry_set_add ?_ (F.args_set_add_2 _ _)
  unfold Builtin.«set.add» Builtin.Frozenset.oneOther
  simp only [List.isEmpty_nil, bind_assoc]
  unfold Builtin.Frozenset.addrOf setAdd
  refine wpAny_bind (wpAny_pure ?_)
  try dsimp only
  refine wpAny_bind (wpAny_pure ?_)
  try dsimp only
  refine wpAny_bind ?_
  refine wpAny_holding ?_
  refine wpAny_bind (hash_true fun tk => ?_)
  unfold setAddHashed setAddHashedIn
  refine wpAny_holding (wpAny_bind (wpAny_setState_of (o := setO1 led) hS rfl (tab1_is led).2.2.1 ?_))
  dsimp only
  rw [show byScan (.bool true) (#[(1, .bool true)] : Array (Int × Value)) = true from by decide +kernel]
  simp only [↓reduceIte]
  unfold setAddByScan
  refine wpAny_bind ?_
  refine wpAny_bind (wpAny_rule ?_)
  refine wpAny_bind ?_
  unfold setScan
  dsimp only
  unfold setScanFrom
  rw [if_pos (by rfl)]
  refine wpAny_bind (wpAny_setEpoch_of (o := setO1 led) hS rfl (tab1_is led).2.2.1 ?_)
  refine wpAny_bind ?_
  unfold eqBool
  refine wpAny_holding ?_
  rw [if_pos (by rfl)]
  refine wpAny_bind (wpAny_rule (wpAny_pure ?_))
  rw [if_pos (by rfl)]
  refine wpAny_pure ?_
  dsimp only
  refine wpAny_pure (wpAny_pure ?_)
  show wpAny _ _ (ret Value.none) _ _ _
  exact wpAny_pure ⟨_, rfl, h _⟩
end
end Mine
end
section
open PySem PySem.W PyProof.Rows PySem.Calls PyProof.Rows.LCg
set_option maxRecDepth 100000
namespace Mine
theorem entry_set_iter : entryFor table "set.__iter__" = some Builtin.«frozenset.__iter__» :=
  entryFor_alias (id' := "frozenset.__iter__") (by kernel_rfl) (by first | rfl | decide +kernel | (unfold String.splitOn; simp +decide [String.splitOnAux])) (by decide +kernel) (by kernel_rfl)
theorem slot_setiter_next : Slot "set_iterator" "__next__" "set_iterator.__next__" :=
  .of (owner := "set_iterator") (n := "__next__") (by rw [typeLookup_type, builtinLookup_eq_fast]; kernel_rfl) (by decide +kernel) (by decide +kernel) (by decide +kernel)
    (by first | exact .inl (by decide +kernel) | exact .inr (by decide +kernel)) (by rw [isSubtype_type]; kernel_rfl)
theorem entry_setiter_next : entryFor table "set_iterator.__next__" = some Builtin.«set_iterator.__next__» := entryFor_of_fast (by kernel_rfl)
theorem args_setiter_next (a : Value) : argsOk "set_iterator.__next__" ⟨[a], []⟩ := by unfold argsOk; kernel_rfl
/-- the iterator over a set of one -/
def setIt (S : Addr) (i j : Int) : Obj := { cls := .type "set_iterator", data := .fields #[.int i 0, .int j 0, .ref S, .int 1 0, .int 1 0] }
section
variable {prog : Program} {w : World} {A : Around} {E : Value → Shared → Prop} {s : Shared}
theorem iter_set1 {S : Addr} {Q : Value → Shared → Prop} (hS : s.heap.get? S = some (setO1 (ledOf w))) (h : Q (.ref s.heap.objs.size) { s with heap := s.heap.push (setIt S 0 0) }) :
    wpAny (model prog w) A (pyIter (.ref S)) Q E s := by
  have hT : s.TypeIs (.ref S) "set" := ⟨_, hS, rfl⟩
  have hf := (tab1_is (ledOf w)).2.2.1
  refine wpAny_pyIter_slot hT F.slot_set_iter (wpAny_call_entry F.slot_set_iter hT entry_set_iter ?_ (F.args_set_iter_1 _))
  unfold Builtin.«frozenset.__iter__» Builtin.Frozenset.sizeOf setDrawn setsByText setEntries
  refine wpAny_bind (wpAny_pure ?_)
  try dsimp only
  refine wpAny_bind (wpAny_bind (wpAny_bind (wpAny_setState_of (o := setO1 (ledOf w)) hS rfl hf (wpAny_pure (wpAny_pure ?_)))))
  refine wpAny_bind (wpAny_bind (wpAny_setState_of (o := setO1 (ledOf w)) hS rfl hf ?_))
  dsimp only
  refine wpAny_bind (wpAny_bind (wpAny_askSetting (wpAny_pure (wpAny_pure ?_))))
  rw [if_neg (by show ¬ ((!w.params.followText "set-order" && (!(tab1 (ledOf w)).plain && _)) = true); rw [(tab1_is (ledOf w)).1]; simp)]
  refine wpAny_bind (wpAny_pure ?_)
  refine wpAny_bind (wpAny_setEpoch_of (o := setO1 (ledOf w)) hS rfl hf ?_)
  exact wpAny_bind (wpAny_newObj_type (wpAny_pure ⟨_, rfl, "set_iterator", _, ⟨_, Heap.get?_push_size _ rfl, rfl⟩, slot_setiter_next.lookup, h⟩))
theorem fields_setIt {S I : Addr} {i j : Int} {Q : Array Value → Shared → Prop} (hI : s.heap.get? I = some (setIt S i j)) (h : Q #[.int i 0, .int j 0, .ref S, .int 1 0, .int 1 0] s) :
    wpAny (model prog w) A (fieldsOf (.ref I)) Q E s := wpAny_fieldsOf hI rfl h
theorem pick_one (f : Nat → Nat) (e : Int × Value) : pickOrder f #[e] = #[e] := by
  show pickOrder.go f 1 0 [e] #[] = #[e]
  unfold pickOrder.go
  rw [show f 0 % [e].length = 0 from Nat.mod_one _]
  rfl
theorem setNext_1 {S : Addr} {slot given : Nat} {Q : Option (Value × Nat) → Shared → Prop} (hS : s.heap.get? S = some (setO1 (ledOf w)))
    (ht : w.params.followText "set-order" = true → Q (if given = 0 then some (.bool true, slot) else none) s) (hf : w.params.followText "set-order" = false → slot = 0 ∨ slot = 2) (hn : w.params.followText "set-order" = false → Q (if slot = 0 then some (.bool true, 2) else none) s)
    (hg : given = 0 ∨ given = 1) : wpAny (model prog w) A (setNext S slot given 1) Q E s := by
  have hfit := (tab1_is (ledOf w)).2.2.1
  unfold setNext setsByText
  refine wpAny_bind (wpAny_setState_of (o := setO1 (ledOf w)) hS rfl hfit ?_)
  dsimp only
  refine wpAny_bind (wpAny_bind (wpAny_askSetting (wpAny_pure ?_)))
  cases hT : w.params.followText "set-order" with
  | true =>
    rw [if_pos (by exact hT)]
    rw [if_neg (by decide)]
    unfold setWalk setsByText
    refine wpAny_bind (wpAny_bind (wpAny_setState_of (o := setO1 (ledOf w)) hS rfl hfit ?_))
    dsimp only
    refine wpAny_bind (wpAny_bind (wpAny_askSetting (wpAny_pure ?_)))
    rw [if_pos (by exact hT)]
    refine wpAny_bind (wpAny_askSetting (wpAny_pure ?_))
    rw [pick_one]
    refine wpAny_pure ?_
    rcases hg with rfl | rfl
    · exact ht hT
    · exact ht hT
  | false =>
    rw [if_neg (by rw [show (({ program := (model prog w).prog, params := (model prog w).w.params } : Setting).params.followText "set-order") = false from hT]; decide)]
    rw [if_neg (by show ¬ ((!(tab1 (ledOf w)).plain && _) = true); rw [(tab1_is (ledOf w)).1]; simp)]
    have hl : ledOf w = true := by show (!w.params.followText "set-order") = true; rw [hT]; rfl
    rw [hl]
    refine wpAny_bind (wpAny_of_eq (a := ()) (by with_unfolding_all rfl) ?_)
    refine wpAny_pure ?_
    have q := tab1_is true
    rw [q.2.2.2.2.2.2]
    have b := q.2.2.2.2.1
    have b2 := q.2.2.2.2.2.1
    rw [q.2.2.2.2.2.2] at b b2
    rcases hf hT with rfl | rfl
    · rw [b]; exact hn hT
    · rw [b2]; exact hn hT
theorem next_set0 {S I : Addr} {Q : Option Value → Shared → Prop} (hS : s.heap.get? S = some (setO1 (ledOf w))) (hI : s.heap.get? I = some (setIt S 0 0)) (hne : S ≠ I)
    (h : ∀ h' i, h'.get? I = some (setIt S (i : Nat) 1) → (w.params.followText "set-order" = false → i = 2) → Heap.SameBut I s.heap h' → Q (some (.bool true)) { s with heap := h' }) :
    wpAny (model prog w) A (pyNext (.ref I)) Q E s := by
  have hT : s.TypeIs (.ref I) "set_iterator" := ⟨_, hI, rfl⟩
  have hf := (tab1_is (ledOf w)).2.2.1
  unfold pyNext
  refine wpAny_bind (wpAny_attempt (wpAny_callSpecial?_slot (name := Str.ofString "__next__") hT slot_setiter_next
    (wpAny_call_entry slot_setiter_next hT entry_setiter_next ?_ (args_setiter_next _))))
  unfold Builtin.«set_iterator.__next__» setEntries
  refine wpAny_bind (wpAny_pure ?_)
  dsimp only
  refine wpAny_bind (fields_setIt hI ?_)
  dsimp only
  refine wpAny_bind (wpAny_bind (wpAny_setState_of (o := setO1 (ledOf w)) hS rfl hf (wpAny_pure ?_)))
  rw [if_neg (by show ¬ ((((1 : Nat) : Int) != 1) = true); decide)]
  have fin : ∀ i : Nat, (w.params.followText "set-order" = false → i = 2) → wpAny (model prog w) A.in1 (do
            setField (.ref I) 0 (rawInt i)
            setField (.ref I) 1 (rawInt (0 + 1))
            ret (.bool true)) (fun fin s' => ∃ v, fin = Fin.done (Flow.ret v) ∧ wpAny (model prog w) A (pure (some v)) Q E s') (fun e s' =>
          wpAny (model prog w) A
            (do
              let __do_lift ← isInstance e (Value.type "StopIteration")
              if __do_lift = true then pure none else throw e)
            Q E s') s := by
    intro i hi
    refine wpAny_bind (wpAny_setField hI rfl (by simp) ?_)
    refine wpAny_bind (wpAny_setField (Heap.get?_update_self _ hI rfl) rfl (by simp) ?_)
    refine wpAny_pure ⟨_, rfl, wpAny_pure (h _ i ?_ hi ((Heap.SameBut.update ..).trans (Heap.SameBut.update ..)))⟩
    exact (Heap.get?_update_self _ (Heap.get?_update_self _ hI rfl) rfl).trans rfl
  refine wpAny_bind (setNext_1 hS (fun hw => ?_) (fun _ => .inl rfl) (fun hw => ?_) (.inl rfl))
  · exact fin 0 fun h => by rw [hw] at h; cases h
  · exact fin 2 fun _ => rfl
theorem next_set1 {S I : Addr} {i : Nat} {Q : Option Value → Shared → Prop} (hh : A.handled = none) (hS : s.heap.get? S = some (setO1 (ledOf w))) (hI : s.heap.get? I = some (setIt S i 1)) (hi : w.params.followText "set-order" = false → i = 2)
    (h : ∀ h', Heap.ExtBut I s.heap h' → Q none { s with heap := h' }) : wpAny (model prog w) A (pyNext (.ref I)) Q E s := by
  have hT : s.TypeIs (.ref I) "set_iterator" := ⟨_, hI, rfl⟩
  have hf := (tab1_is (ledOf w)).2.2.1
  unfold pyNext
  refine wpAny_bind (wpAny_attempt (wpAny_callSpecial?_slot (name := Str.ofString "__next__") hT slot_setiter_next
    (wpAny_call_entry slot_setiter_next hT entry_setiter_next ?_ (args_setiter_next _))))
  unfold Builtin.«set_iterator.__next__» setEntries
  refine wpAny_bind (wpAny_pure ?_)
  dsimp only
  refine wpAny_bind (fields_setIt hI ?_)
  dsimp only
  refine wpAny_bind (wpAny_bind (wpAny_setState_of (o := setO1 (ledOf w)) hS rfl hf (wpAny_pure ?_)))
  rw [if_neg (by show ¬ ((((1 : Nat) : Int) != 1) = true); decide)]
  have fin : wpAny (model prog w) A.in1 (do
            setField (.ref I) 2 Value.none
            let x ← newExc (.type "StopIteration") []
            raiseNew x) (fun fin s' => ∃ v, fin = Fin.done (Flow.ret v) ∧ wpAny (model prog w) A (pure (some v)) Q E s') (fun e s' =>
          wpAny (model prog w) A
            (do
              let __do_lift ← isInstance e (Value.type "StopIteration")
              if __do_lift = true then pure none else throw e)
            Q E s') s := by
    refine wpAny_bind (wpAny_setField hI rfl (by simp) ?_)
    refine wpAny_bind ?_
    simp only [newExc, newTuple]
    refine wpAny_bind (wpAny_newObj_type ?_ (by size_fits))
    refine wpAny_bind (m := firstArgMember _ _) (wpAny_of_eq (a := Value.none) (by first | rfl | (simp only [firstArgMember]; rfl)) ?_)
    refine wpAny_newObj_type ?_ (by size_fits)
    simp only [raiseNew]
    refine wpAny_bind (wpAny_handled ?_)
    first | rw [show A.in1.handled = none from hh] | rw [hh]
    refine wpAny_bind (wpAny_pure (wpAny_throw ?_))
    refine wpAny_bind (wpAny_isInstance (T := "StopIteration") (b := true) ⟨_, Heap.get?_push_size _ rfl, rfl⟩ isSubtype_stop ?_)
    exact wpAny_pure (h _ (((Heap.SameBut.update ..).extBut.push _).push _))
  have e1 : ((1 : Int).toNat : Nat) = 1 := rfl
  refine wpAny_bind (setNext_1 hS (fun hw => ?_) (fun hw => .inr (by rw [hi hw]; rfl)) (fun hw => ?_) (.inr rfl))
  · exact fin
  · rw [hi hw]; exact fin
/-- the one thing in a set -/
theorem unpack_set {S : Addr} {t : Value → Sem Unit} {Q : Unit → Shared → Prop} (hh : A.handled = none) (hS : s.heap.get? S = some (setO1 (ledOf w)))
    (h : ∀ h', Heap.ExtBut s.heap.objs.size s.heap h' → wpAny (model prog w) A (t (.bool true)) (fun _ s' => Q () s') E { s with heap := h' }) : wpAny (model prog w) A (unpack (.ref S) [(false, t)]) Q E s := by
  have hlt : S ≠ s.heap.objs.size := Nat.ne_of_lt (Heap.lt_size hS)
  have hT : s.TypeIs (.ref S) "set" := ⟨_, hS, rfl⟩
  unfold unpack
  refine wpAny_bind (wpAny_holding ?_)
  unfold unpackItems
  refine wpAny_bind ?_
  unfold notIterableAtAll
  refine wpAny_bind (wpAny_specialOf hT F.slot_set_iter.lookup ?_)
  refine wpAny_pure ?_
  simp only [Bool.false_eq_true, if_false]
  refine wpAny_bind (wpAny_holding (iter_set1 hS ?_))
  refine wpAny_bind (wpAny_holding ?_)
  have hI := Heap.get?_push_size s.heap (o := setIt S 0 0) rfl
  have hS1 : (s.heap.push (setIt S 0 0)).get? S = some (setO1 (ledOf w)) := Heap.get?_push_of_some _ hS
  show wpAny _ _ (pyNext (.ref s.heap.objs.size) >>= _) _ E _
  refine wpAny_bind (next_set0 hS1 hI hlt fun h₁ i hI₁ hi hs₁ => ?_)
  refine wpAny_bind (wpAny_holding (wpAny_pure (wpAny_pure ?_)))
  rw [if_neg (by simp)]
  refine wpAny_bind (wpAny_holding (next_set1 hh (hs₁.extBut _ _ hlt hS1) hI₁ hi fun h₂ he₂ => ?_))
  simp only [Option.isSome_none, Bool.false_eq_true, if_false]
  refine wpAny_pure ?_
  refine assignInOrder_cons ?_
  refine wpAny_mono (h h₂ fun b o hb e => he₂ b o hb (hs₁.extBut b o hb (Heap.get?_push_of_some _ e))) (fun _ s' h' => assignInOrder_nil h') fun _ _ e => e
end
end Mine
end
section
open PySem PySem.W PyProof.Rows PySem.Calls PyProof.Rows.LCg
set_option maxRecDepth 100000
namespace Mine
def emitS (elt : Expr) (acc : Value) (env : Env) : Sem Unit := do let v ← eval elt env; standAt elt.pos; let _ ← call (.builtin "set.add") [acc, v]
/-- the set of i turns that all gave True -/
def setAt (led : Bool) (i : Nat) : Obj := if i = 0 then setO0 led else setO1 led
/-- a turn's element is True -/
inductive TrueEnd (h₀ : Heap) (L : Addr) (m : Str → Option Value) (s₁ : Shared) (led : Bool) (i : Nat) (I : Addr) (oI : Obj) (C : Addr) (oC : Obj) (D : Addr) (news : List (Addr × Obj)) (y : Value) (s₂ : Shared) : Prop
  | mk (h' : Heap) (tk : Nat) (f0 : y = .bool true) (f1 : s₂ = { s₁ with heap := h', toks := tk }) (f2 : Fr h₀ L h' m) (f3 : News h₀ L h' ((I, oI) :: (C, oC) :: (D, setAt led i) :: news)) : TrueEnd h₀ L m s₁ led i I oI C oC D news y s₂
/-- what is asked where a set comprehension's source stands -/
def SetE (prog : Program) (w : World) (A : Around) (h₀ : Heap) (L : Addr) (m : Str → Option Value) (env : Env) (elt : Expr) (x : Str) (scope : Scope) (cl : List (Str × Addr)) (y : Str) (Q : Flow → Shared → Prop) (xv : Value) (s₁ : Shared) : Prop :=
  ∃ n P S news, 0 < n ∧ SrcOf prog w A h₀ L m xv s₁ news n P S ∧ S news ∧
    (∀ i v I oI C oC D m₂ h tk (E' : Value → Shared → Prop), i < n → P i v → NsObj oC m₂ → m₂ x = some v → Fr h₀ L h m → News h₀ L h ((I, oI) :: (C, oC) :: (D, setAt (ledOf w) i) :: news) → Off3 I C D news → ((@Ne Nat I C) ∧ (@Ne Nat I D) ∧ (@Ne Nat C D)) →
      wpAny (model prog w) A (eval elt (compEnvC scope cl C env)) (TrueEnd h₀ L m { s₁ with heap := h, toks := tk } (ledOf w) i I oI C oC D news) E' { s₁ with heap := h, toks := tk }) ∧
    ∀ h tk D, Fr h₀ L h (fun z => if z = y then some (.bool true) else m z) → News h₀ L h ((D, setO1 (ledOf w)) :: news) → Off1 D news → Q .next { s₁ with heap := h, toks := tk }
section
variable {prog : Program} {w : World} {A : Around} {E : Value → Shared → Prop} {s s₁ s₂ : Shared} {h₀ : Heap} {L : Addr} {m : Str → Option Value} {env cenv : Env} {news : List (Addr × Obj)}
theorem add_true {S : Addr} {i : Nat} {Q : Value → Shared → Prop} (hS : s.heap.get? S = some (setAt (ledOf w) i)) (h : ∀ h' tk, h'.get? S = some (setAt (ledOf w) (i + 1)) → Heap.SameBut S s.heap h' → Q .none { s with heap := h', toks := tk }) :
    wpAny (model prog w) A (call (.builtin "set.add") [.ref S, .bool true]) Q E s := by
  cases i with
  | zero => exact add_true0 hS fun h' tk e k => h h' tk e k
  | succ i => exact add_true1 hS fun tk => h _ tk hS (Heap.SameBut.refl ..)
theorem compTurn_set (elt target iter : Expr) (ifs : List Expr) (scope : Scope) (pos : Pos) (it acc : Value) (env : Env) :
    compTurn (.SetComp elt [⟨target, iter, ifs, 0⟩] scope pos) 0 it acc env = (do
      standAt iter.pos
      match ← pyNext it with
      | none => pure (.done .next)
      | some v =>
        letOwnedTupleGo target it v
        assign target env v
        let mut ok := true
        for c in ifs do
          if ok then ok ← isTrue c env (eval c env)
        if ok then
          emitS elt acc env
        again (.compLoop (.SetComp elt [⟨target, iter, ifs, 0⟩] scope pos) 0 it acc env)) := by rfl
theorem rule_set {elt iter : Expr} {x : Str} {px : Pos} {ifs : List Expr} {scope : Scope} {pos : Pos} {it acc : Value} {env : Env} :
    LoopRule prog w A (.SetComp elt [⟨.Name x px, iter, ifs, 0⟩] scope pos) 0 it acc env (assign (.Name x px) env) ifs (emitS elt acc env) := by
  intro R I turn n s h
  refine codeAny_loop rfl I (fun n s hI => ?_) n h
  show wpAny _ A ((compTurn (.SetComp elt [⟨.Name x px, iter, ifs, 0⟩] scope pos) 0 it acc env).onRaise (fun x => do noteFrame x env; theTreesLotGoes x)) _ _ s
  refine wpAny_noted ?_
  rw [compTurn_set]
  refine wpAny_bind (wpAny_standAt (wpAny_bind (wpAny_mono (turn n s hI) (fun r s₁ h₁ => ?_) fun _ _ h' => h')))
  cases r with
  | none => exact wpAny_pure h₁
  | some v =>
    refine wpAny_bind (wpAny_of_eq (show letOwnedTupleGo (.Name x px) it v = pure () from rfl) ?_)
    refine wpAny_bind (wpAny_mono h₁ (fun _ s₂ h₂ => wpAny_bind (wpAny_mono h₂ (fun ok s₃ h₃ => ?_) fun _ _ h' => h')) fun _ _ h' => h')
    cases ok with
    | false => exact wpAny_pure ⟨rfl, h₃⟩
    | true => exact wpAny_bind (wpAny_mono h₃ (fun _ s₅ h₅ => wpAny_pure ⟨rfl, h₅⟩) fun _ _ h' => h')
/-- the set and the frame of a comprehension are made -/
theorem frame_S {scope : Scope} {cl : List (Str × Addr)} {K : Value → Env → Shared → Prop} {I : Addr} {fp : List Addr} {St : Nat → Heap → Prop} {n : Nat} {P : Nat → Value → Prop} (W : Walks prog w A I fp [I] n P St)
    (hc1 : ∀ k, cellsFrom k scope.names cl = cl) (hc2 : ∀ h, pushCells h scope.names = h) (hst : St 0 s₂.heap) (hfp : ∀ b ∈ fp, b < s₂.heap.objs.size) (F : Fr h₀ L s₂.heap m) (N : News h₀ L s₂.heap news) (hIL : L ≠ I) (hI₀ : h₀.get? I = none) (off : ∀ p ∈ news, p.1 ≠ I)
    (k : ∀ D C h₁, Apart3 h₀ L I C D fp → St 0 h₁ → Fr h₀ L h₁ m → h₁.Ns C (fun _ => none) → News h₀ L h₁ ((D, setAt (ledOf w) 0) :: news) → Off3 I C D news →
      K (.ref D) { scope := scope, locals := C, globals := env.globals, cells := cl, qual := env.qual, func := none, code := env.code, frame := env.frame, builtins := env.builtins } { s₂ with heap := h₁ }) :
    wpAny (model prog w) A (newSet (.type "set")) (fun acc s₃ => wpAny (model prog w) A (newFunctionEnv scope env.globals cl [] env.qual none .none (some env)) (fun cenv s₄ => K acc cenv s₄) E s₃) E s₂ := by
  refine new_set (newEnv_comp ?_)
  rw [hc1, hc2]
  dsimp only
  generalize hH1 : s₂.heap.push (setO0 (ledOf w)) = H1
  have z1 : H1.objs.size = s₂.heap.objs.size + 1 := by rw [← hH1, Heap.size_push]
  have old1 : ∀ b o, s₂.heap.get? b = some o → H1.get? b = some o := fun b o e => by rw [← hH1]; exact Heap.get?_push_of_some _ e
  have old : ∀ b o, s₂.heap.get? b = some o → (H1.push { cls := .type "dict", data := .dict #[] }).get? b = some o := fun b o e => Heap.get?_push_of_some _ (old1 b o e)
  have hIf : I ∈ fp := W.sub I (List.mem_singleton.mpr rfl)
  have hI := hfp I hIf
  have hD : (H1.push { cls := .type "dict", data := .dict #[] }).get? s₂.heap.objs.size = some (setAt (ledOf w) 0) := Heap.get?_push_of_some _ (by rw [← hH1]; exact Heap.get?_push_size _ rfl)
  have hLlt : L < s₂.heap.objs.size := F.ns.lt
  have nlt : ∀ {a b : Nat}, a < b → a ≠ b := fun h => Nat.ne_of_lt h
  have ap : Apart3 h₀ L I H1.objs.size s₂.heap.objs.size fp := {
    IC := by rw [z1]; exact nlt (Nat.lt_succ_of_lt hI)
    ID := nlt hI
    CD := by rw [z1]; exact Ne.symm (nlt (Nat.lt_succ_self _))
    LI := hIL
    CL := by rw [z1]; exact Ne.symm (nlt (Nat.lt_succ_of_lt hLlt))
    DL := Ne.symm (nlt hLlt)
    I0 := hI₀
    C0 := base_fresh F (by rw [z1]; exact Nat.le_succ _)
    D0 := base_fresh F (Nat.le_refl _)
    Cf := fun hm => by have := hfp _ hm; rw [z1] at this; exact Nat.lt_irrefl _ (Nat.lt_of_succ_lt this)
    Df := fun hm => Nat.lt_irrefl _ (hfp _ hm) }
  refine k _ _ _ ap (W.frame _ _ _ hst fun b _ o e => old b o e) (F.keeps old) (Heap.Ns.new H1 (.type "dict")) (fun p hp => ?_) (Off3.of fun p hp => ?_)
  · rcases List.mem_cons.mp hp with rfl | hp
    · exact ⟨hD, ap.DL, ap.D0⟩
    · exact ⟨old _ _ (N p hp).1, (N p hp).2⟩
  · have := Heap.lt_size (N p hp).1
    exact ⟨off p hp, by rw [z1]; exact nlt (Nat.lt_succ_of_lt this), nlt this⟩
/-- the loop of a set comprehension whose elements are all True -/
theorem loop_S {elt iter : Expr} {x : Str} {px : Pos} {scope : Scope} {cl : List (Str × Addr)} {pos : Pos} {I C D : Addr} {fp : List Addr} {n : Nat} {P : Nat → Value → Prop} {St : Nat → Heap → Prop} {S : List (Addr × Obj) → Prop} {R : Result → Shared → Prop}
    (W : Walks prog w A I fp [I] n P St) (ap : Apart3 h₀ L I C D fp) (hIo : ∀ i h, St i h → ∃ o, h.get? I = some o)
    (hSt : ∀ i h h' o nw, St i h → h.get? I = some o → h'.get? I = some o → (∀ b o, h₀.get? b = some o → h'.get? b = some o) → News h₀ L h' nw → S nw → St i h') (hS : S news) (hkind : scope.kind = .function) (hx : scope.names.lookup x = some .local) (off : Off3 I C D news)
    (turn : ∀ i v oI oC m₂ h tk (E' : Value → Shared → Prop), i < n → P i v → NsObj oC m₂ → m₂ x = some v → Fr h₀ L h m → News h₀ L h ((I, oI) :: (C, oC) :: (D, setAt (ledOf w) i) :: news) →
      wpAny (model prog w) A (eval elt (compEnvC scope cl C env)) (TrueEnd h₀ L m { s₁ with heap := h, toks := tk } (ledOf w) i I oI C oC D news) E' { s₁ with heap := h, toks := tk })
    (fin : ∀ h tk m', Fr h₀ L h m → h.Ns C m' → News h₀ L h ((D, setAt (ledOf w) n) :: news) → R (.ok .next) { s₁ with heap := h, toks := tk })
    {h : Heap} {tk : Nat} {m' : Str → Option Value} (hst : St 0 h) (F : Fr h₀ L h m) (hn : h.Ns C m') (N : News h₀ L h ((D, setAt (ledOf w) 0) :: news)) :
    codeAny (model prog w) A (.compLoop (.SetComp elt [⟨.Name x px, iter, [], 0⟩] scope pos) 0 (.ref I) (.ref D) (compEnvC scope cl C env)) R { s₁ with heap := h, toks := tk } := by
  have off3 := off.mem
  have kept : ∀ {h h₂ : Heap} {i : Nat} {m' : Str → Option Value}, (∀ b o, b ∉ [I] → h.get? b = some o → h₂.get? b = some o) → Fr h₀ L h m → h.Ns C m' → News h₀ L h ((D, setAt (ledOf w) i) :: news) →
      Fr h₀ L h₂ m ∧ h₂.Ns C m' ∧ News h₀ L h₂ ((D, setAt (ledOf w) i) :: news) := fun hk F hn N =>
    ⟨LCg.fr_but F hk ap.LI ap.I0, hn.at' fun o e => hk _ o (by simpa using Ne.symm ap.IC) e, LCg.news_but N hk fun p hp => by
      rcases List.mem_cons.mp hp with rfl | hp
      · exact Ne.symm ap.ID
      · exact (off3 p hp).1⟩
  refine loop_G rule_set W (fun i s => ∃ h tk m', s = { s₁ with heap := h, toks := tk } ∧ St i h ∧ Fr h₀ L h m ∧ h.Ns C m' ∧ News h₀ L h ((D, setAt (ledOf w) i) :: news)) ?_ ?_ ?_ 0 (Nat.zero_le _)
    ⟨h, tk, m', rfl, hst, F, hn, N⟩
  · rintro i s ⟨_, _, _, rfl, hst, _⟩; exact hst
  · rintro i v s h₂ tk₂ EE hi ⟨h, tk, m', rfl, hst, F, hn, N⟩ hPv hst₂ hk
    obtain ⟨F₂, hn₂, N₂⟩ := kept hk F hn N
    refine wpAny_assign_Name (wpAny_storeName_local (lookup_relabel_local hx) hn₂ (fun h₃ hn₃ hs₃ => ?_) (by simp [compEnvC, relabel, hkind]))
    have hst₃ := W.frame _ _ _ hst₂ fun b hb o e => hs₃.extBut b o (fun q => ap.Cf (by have q' : b = C := q; rw [← q']; exact hb)) e
    have F₃ := F₂.change hs₃ ap.CL ap.C0
    have N₃ : News h₀ L h₃ ((D, setAt (ledOf w) i) :: news) := fun p hp => by
      have z := N₂ p hp
      refine ⟨hs₃.extBut _ _ ?_ z.1, z.2⟩
      rcases List.mem_cons.mp hp with rfl | hp
      · exact Ne.symm ap.CD
      · exact (off3 p hp).2.1
    obtain ⟨oI, heI⟩ := hIo _ _ hst₃
    obtain ⟨oC, heC, hoC⟩ := ns_obj hn₃
    have N₄ : News h₀ L h₃ ((I, oI) :: (C, oC) :: (D, setAt (ledOf w) i) :: news) := fun p hp => by
      rcases List.mem_cons.mp hp with rfl | hp
      · exact ⟨heI, Ne.symm ap.LI, ap.I0⟩
      · rcases List.mem_cons.mp hp with rfl | hp
        · exact ⟨heC, ap.CL, ap.C0⟩
        · exact N₃ p hp
    refine wpAny_tests_nil ?_
    simp only [if_true]
    unfold emitS
    refine wpAny_bind (wpAny_mono (turn i v oI oC _ h₃ _ EE hi hPv hoC (by simp) F₃ N₄) (fun y s₄ h₄ => ?_) fun _ _ e => e)
    obtain ⟨h₄, tk₄, rfl, rfl, F₄, N₅⟩ := h₄
    refine wpAny_bind (wpAny_standAt (wpAny_bind (add_true (N₅ _ (.tail _ (.tail _ (.head _)))).1 fun h₅ tk₅ hD₅ hs₅ => wpAny_pure ?_)))
    have at5 : ∀ p ∈ (I, oI) :: (C, oC) :: news, h₅.get? p.1 = some p.2 := fun p hp => by
      rcases List.mem_cons.mp hp with rfl | hp
      · exact hs₅.extBut _ _ ap.ID (N₅ _ (.head _)).1
      · rcases List.mem_cons.mp hp with rfl | hp
        · exact hs₅.extBut _ _ ap.CD (N₅ _ (.tail _ (.head _))).1
        · exact hs₅.extBut _ _ (off3 p hp).2.2 (N₅ p (.tail _ (.tail _ (.tail _ hp)))).1
    have N₆ : News h₀ L h₅ ((D, setAt (ledOf w) (i + 1)) :: news) := fun p hp => by
      rcases List.mem_cons.mp hp with rfl | hp
      · exact ⟨hD₅, ap.DL, ap.D0⟩
      · exact ⟨at5 p (.tail _ (.tail _ hp)), (N₅ p (.tail _ (.tail _ (.tail _ hp)))).2⟩
    have F₆ := F₄.change hs₅ ap.DL ap.D0
    exact ⟨h₅, tk₅, _, rfl, hSt _ _ _ _ _ hst₃ heI (at5 _ (.head _)) F₆.keep (fun p hp => N₆ p (.tail _ hp)) hS, F₆, hoC.ns (at5 _ (.tail _ (.head _))), N₆⟩
  · rintro s h₂ tk₂ ⟨h, tk, m', rfl, hst, F, hn, N⟩ hk
    obtain ⟨F₂, hn₂, N₂⟩ := kept hk F hn N
    exact fin h₂ tk₂ m' F₂ hn₂ N₂
theorem codeAny_compStart_set {R : Result → Shared → Prop} {elt target iter ifs rest scope pos it acc env}
    (h0 : codeAny (model prog w) A (.compLoop (.SetComp elt (⟨target, iter, ifs, 0⟩ :: rest) scope pos) 0 it acc env) R s)
    (h : wpAny (model prog w) A (pyIter it) (fun it' s' => codeAny (model prog w) A (.compLoop (.SetComp elt (⟨target, iter, ifs, 0⟩ :: rest) scope pos) 0 it' acc env) R s')
      (notedBy (model prog w) A env fun x s' => R (.error x) s') s) :
    codeAny (model prog w) A (.compStart (.SetComp elt (⟨target, iter, ifs, 0⟩ :: rest) scope pos) 0 it acc env) R s := by
  refine codeAny_of_tree ?_
  show wpAny _ _ ((compStart (.SetComp elt (⟨target, iter, ifs, 0⟩ :: rest) scope pos) 0 it acc env).onRaise (fun x => do noteFrame x env; standAt theWindowsPlace)) _ _ s
  refine wpAny_notedAt ?_
  unfold compStart
  show wpAny _ _ (ask >>= _) _ _ s
  refine wpAny_bind (wpAny_askSetting (wpAny_ite ?_))
  split
  · first
      | exact wpAny_bind (wpAny_pure (wpAny_pure (And.intro rfl h0)))
      | exact wpAny_pure (And.intro rfl h0)
  · first
      | exact wpAny_bind (wpAny_rule (wpAny_bind (wpAny_standAt (wpAny_bind (wpAny_mono h (fun it' s' h' => wpAny_pure (And.intro rfl h')) fun _ _ x => x)))))
      | (refine wpAny_bind (wpAny_rule ?_); show wpAny _ _ (standAt iter.pos >>= _) _ _ s; exact wpAny_bind (wpAny_standAt (wpAny_bind (wpAny_mono h (fun it' s' h' => wpAny_pure (And.intro rfl h')) fun _ _ x => x))))
/-- the one element of a set comprehension goes to a local name -/
theorem set_assign {elt iter : Expr} {x y : Str} {px py tp : Pos} {tk0} {scope : Scope} {cl : List (Str × Addr)} {pos spos : Pos} {Q : Flow → Shared → Prop} (_F₀ : Fr h₀ L s.heap m) (hLe : env.locals = L) (hh : A.handled = none)
    (hclos : closureFor scope env = pure cl) (hkind : scope.kind = .function) (hnames : ∀ z ∈ scope.names, z.2 = .local → scope.names.lookup z.1 = some .local) (hc1 : ∀ k, cellsFrom k scope.names cl = cl) (hc2 : ∀ h, pushCells h scope.names = h) (hx : scope.names.lookup x = some .local)
    (hy : env.kindOf y = some .local) (hp : (env.scope.kind == .class || (env.scope.kind == .module && env.locals != env.globals)) = false)
    (h : wpAny (model prog w) A (eval iter env) (SetE prog w A h₀ L m env elt x scope cl y Q) E s)
    (hs : ∀ x, foldedSetIterable iter env x = pure x := by intro _; rfl) :
    wpAny (model prog w) A (exec (.Assign [.Tuple [.Name y py] tk0 tp] (.SetComp elt [⟨.Name x px, iter, [], 0⟩] scope pos) spos) env) Q E s := by
  subst hLe
  rw [exec_Assign]
  refine wpAny_bind (wpAny_standAt (wpAny_bind (wpAny_of_eq (a := false) rfl ?_)))
  simp only [Bool.false_eq_true, if_false]
  show wpAny _ A (comprehension (.SetComp elt [⟨.Name x px, iter, [], 0⟩] scope pos) scope env _ (newSet (.type "set")) false (eval iter env) >>= _) _ _ s
  refine wpAny_bind (wpAny_comprehension_free (use := none) rfl hs hclos hkind hnames (wpAny_mono h (fun xv s₁ ⟨n, P, S, news, hn0, src, hS, turn, fin⟩ => ?_) fun _ _ e => e))
  refine src _ _ fun I fp St g W hIo hSt hst hfp F N hIL hI₀ off => ?_
  refine frame_S W hc1 hc2 hst hfp F N hIL hI₀ off fun D C h₁ ap hst₁ F₁ hn₁ N₁ off₁ => ?_
  have off3 := off₁.mem
  have L0 := loop_S (s₁ := s₁) (elt := elt) (iter := iter) (px := px) (pos := pos) (tk := s₁.toks) (R := compPost (model prog w) A E none (fun v s₁ => wpAny (model prog w) A (do assignStores env v (← swappedStores [.Tuple [.Name y py] tk0 tp] (.SetComp elt [⟨.Name x px, iter, [], 0⟩] scope pos) env) ((assignEach [.Tuple [.Name y py] tk0 tp] env).map (·.2))) Q E s₁) (.ref D) C) W ap hIo hSt hS hkind hx off₁
    (fun i v oI oC m₂ h tk E' hi hP hoC hm F N => turn i v I oI C oC D m₂ h tk E' hi hP hoC hm F N off₁ ⟨ap.IC, ap.ID, ap.CD⟩)
    (fun h tk m' F hn N => by
      refine ⟨m', hn, fun h'' hs'' => ?_⟩
      have F₂ := F.change hs'' ap.CL ap.C0
      have N₂ : News h₀ env.locals h'' ((D, setO1 (ledOf w)) :: news) := fun p hp => by
        have q : setAt (ledOf w) n = setO1 (ledOf w) := if_neg (Nat.ne_of_gt hn0)
        rw [q] at N
        refine ⟨hs''.extBut _ _ ?_ (N p hp).1, (N p hp).2⟩
        rcases List.mem_cons.mp hp with rfl | hp
        · exact Ne.symm ap.CD
        · exact (off3 p hp).2.1
      refine wpAny_bind (wpAny_of_eq (a := none) rfl ?_)
      show wpAny _ _ (assign (.Tuple [.Name y py] tk0 tp) env (.ref D) >>= fun _ => pure PySem.Flow.next) _ _ _
      refine wpAny_bind ?_
      rw [assign_Tuple]
      refine wpAny_bind (wpAny_standAt ?_)
      show wpAny _ _ (unpack (.ref D) [(false, assign (.Name y py) env)]) _ _ _
      refine unpack_set hh (N₂ _ (.head _)).1 fun h₃ he₃ => ?_
      have hL : env.locals < h''.objs.size := F₂.ns.lt
      have F₃ : Fr h₀ env.locals h₃ m := F₂.extBut he₃ (Nat.le_refl _)
      have N₃ : News h₀ env.locals h₃ ((D, setO1 (ledOf w)) :: news) := N₂.extBut he₃ (Nat.le_refl _)
      refine wpAny_assign_Name (wpAny_storeName_local hy F₃.ns (fun h₄ hn₄ hs₄ => ?_) hp)
      have hL₀ : h₀.get? env.locals = none := Heap.get?_none_of_le F₃.above
      exact wpAny_pure (fin h₄ _ D ⟨hn₄, fun b o e => hs₄.extBut b o (fun q => by rw [q, hL₀] at e; cases e) (F₃.keep b o e), F₃.above⟩ (fun p hp => ⟨hs₄.extBut _ _ (N₃ p hp).2.1 (N₃ p hp).1, (N₃ p hp).2⟩) off₁.one)) hst₁ F₁ hn₁ N₁
  exact codeAny_compStart_set L0 (W.self 0 _ _ _ hst₁ L0)
end
end Mine
end
section
open PySem PySem.W PyProof.Rows PySem.Calls PyProof.Rows.LCg
set_option maxRecDepth 100000
namespace Mine
def tupO (its : Array Value) : Obj := { cls := .type "tuple", data := .seq its }
section
variable {prog : Program} {w : World} {A : Around} {E : Value → Shared → Prop} {s s₁ : Shared} {h₀ : Heap} {L : Addr} {m : Str → Option Value} {env : Env} {news : List (Addr × Obj)}
/-- what is iterated, of a tuple in the ledger -/
theorem srcTup {T : Addr} {its : Array Value} (hh : A.handled = none) (F : Fr h₀ L s₁.heap m) (N : News h₀ L s₁.heap news) (S : (T, tupO its) ∈ news) : SrcOf prog w A h₀ L m (.ref T) s₁ news its.size (fun i v => its[i]? = some v) (fun nw => (T, tupO its) ∈ nw) := by
  intro Q' E k
  have isT : ∀ {h : Heap}, h.get? T = some (tupO its) → h.IsTuple T its := fun e => ⟨_, e, rfl, _, rfl⟩
  have eT := (N _ S).1
  have hlt : T < s₁.heap.objs.size := Heap.lt_size eT
  refine wpAny_pyIter_tuple (isT eT) ?_
  have up : ∀ b o, s₁.heap.get? b = some o → (s₁.heap.push { cls := .type "tuple_iterator", data := .fields #[.ref T, .int 0 0] }).get? b = some o := fun b o e => Heap.get?_push_of_some _ e
  refine k _ _ _ _ (Walks.tuple hh s₁.heap.objs.size T (Nat.ne_of_lt hlt) its) (fun i h st => by obtain ⟨o, e, _⟩ := st.1; exact ⟨o, e⟩) (fun i h h' o nw st e e' keep N' hS => ⟨st.1.at fun o1 e1 => by rw [e] at e1; cases e1; exact e', isT (N' _ hS).1⟩)
    ⟨⟨_, Heap.get?_push_size _ rfl, rfl, rfl⟩, isT (up _ _ eT)⟩ (fun b hb => ?_)
      (F.keeps up) (N.grown up) (Nat.ne_of_lt F.ns.lt) (next_is_new F) (fun p hp => Nat.ne_of_lt (Heap.lt_size (N p hp).1))
  rw [Heap.size_push]
  rcases List.mem_cons.mp hb with rfl | hb
  · exact Nat.lt_succ_self _
  · rw [List.mem_singleton.mp hb]; exact Nat.lt_succ_of_lt hlt
end
end Mine
end
section
open PySem PySem.W PyProof.Rows PySem.Calls PyProof.Rows.LCg
set_option maxRecDepth 100000
namespace Mine
def sLt (x y : Str) : Bool := decide (x.cps.toList < y.cps.toList)
/-- lists of as many texts, in order -/
def lLt : List Str → List Str → Bool
  | x :: xs, y :: ys => if x = y then lLt xs ys else sLt x y
  | [], _ :: _ => true
  | _, [] => false
open PySem.SeqAt MeetsSeq MeetsSeq2 MeetsSeq3
open PySem.AutoSeq1 (wpAny_loadPart')
theorem strs_at {vs : List Value} {xs : List Str} (h : StrsAre vs xs) : vs.length = xs.length := by
  induction h with
  | nil => rfl
  | cons y t _ ih => simp [ih]
theorem strs_head {vs : List Value} {x : Str} {xs : List Str} {i : Nat} (h : StrsAre (vs.drop i) (x :: xs)) : ∃ t, vs[i]? = some (.str x t) ∧ StrsAre (vs.drop (i + 1)) xs ∧ i < vs.length := by
  have hl := strs_at h
  have hlt : i < vs.length := by simp at hl; (first | lia | omega)
  rw [List.drop_eq_getElem_cons hlt] at h
  generalize hv : vs[i] = v at h
  cases h with
  | cons y t h => exact ⟨t, by rw [List.getElem?_eq_getElem hlt, hv], h, hlt⟩
theorem lt_loop (l b : Addr) (items items2 : List Value) (n n2 : Nat) : ∀ (us vs : List Str) (i : Nat), i ≤ items.length → i ≤ items2.length → StrsAre (items.drop i) us → StrsAre (items2.drop i) vs → Meets (Builtin.«list.__eq__.loop» ⟨[.ref l, .ref b, rawInt i, rawInt 0], []⟩)
      (fun A R s => s.heap.get? l = some { cls := .type "list", dict := none, data := .seq items.toArray n } ∧ s.heap.get? b = some { cls := .type "list", dict := none, data := .seq items2.toArray n2 } ∧
        R (.ok (.ret (.bool (lLt us vs)))) s) := by
  intro us
  induction us with
  | nil =>
    intro vs i hi hi' hu hv prog w A R s h
    obtain ⟨hp, g, d, tk, os⟩ := s; obtain ⟨hl, hb, h⟩ := h
    wp_walk using wpAny_loadPart' hl, wpAny_loadPart' hb
    have h1 : items.length ≤ i := by have := strs_at hu; simp at this; (first | lia | omega)
    have hi1 : items.toArray[((i : Nat) : Int).toNat]? = none := by simp; (first | lia | omega)
    rw [hi1]
    wp_walk using wpAny_loadPart' hl, wpAny_loadPart' hb
    show R (.ok (.ret (.bool (decide (items.toArray.size < items2.toArray.size))))) _
    have h2 := strs_at hv
    simp only [List.length_drop] at h2
    cases vs with
    | nil => simp at h2; simpa [lLt, show ¬ items.length < items2.length by (first | lia | omega)] using h
    | cons v vs => simp at h2; simpa [lLt, show  items.length < items2.length by (first | lia | omega)] using h
  | cons x xs ih =>
    intro vs i hi hi' hu hv prog w A R s h
    obtain ⟨hp, g, d, tk, os⟩ := s; obtain ⟨hl, hb, h⟩ := h
    obtain ⟨t, ex, hu', hlt⟩ := strs_head hu
    have hi1 : items.toArray[((i : Nat) : Int).toNat]? = some (.str x t) := by simpa using ex
    cases vs with
    | nil =>
      wp_walk using wpAny_loadPart' hl, wpAny_loadPart' hb
      have h1 : items2.length ≤ i := by have := strs_at hv; simp at this; (first | lia | omega)
      have hi2 : items2.toArray[((i : Nat) : Int).toNat]? = none := by simp; (first | lia | omega)
      rw [hi1, hi2]
      wp_walk using wpAny_loadPart' hl, wpAny_loadPart' hb
      show R (.ok (.ret (.bool (decide (items.toArray.size < items2.toArray.size))))) _
      simpa [lLt, show ¬ items.length < items2.length by (first | lia | omega)] using h
    | cons y ys =>
      obtain ⟨u, ey, hv', hlt2⟩ := strs_head hv
      have hi2 : items2.toArray[((i : Nat) : Int).toNat]? = some (.str y u) := by simpa using ey
      wp_walk using wpAny_loadPart' hl, wpAny_loadPart' hb
      rw [hi1, hi2]
      refine wpAny_bind (wpAny_eqBool_str ?_)
      have hc : ((i : Int) + 1) = ((i + 1 : Nat) : Int) := by push_cast; rfl
      by_cases hxy : x = y
      · rw [decide_eq_true hxy]
        wp_walk
        rw [hc]
        exact ⟨plainId_quiet plain_eq_loop _, codeAny_builtin entry_eq_loop (by
          rw [Around.under_plainId plain_eq_loop _]
          exact ih ys (i + 1) hlt hlt2 hu' hv' prog w A R _ ⟨hl, hb, by rw [lLt, if_pos hxy] at h; exact h⟩)⟩
      · rw [decide_eq_false hxy]
        wp_walk using wpAny_loadPart' hl, wpAny_loadPart' hb
        rw [hi1, hi2]
        refine wpAny_bind (show wpAny _ _ (compareOp .Lt (.str x t) (.str y u)) _ _ _ from PyProof.Rows.lt_str ?_)
        refine wpAny_pure ?_
        rw [lLt, if_neg hxy] at h
        exact h
theorem list_ltM (l b : Addr) (items items2 : List Value) (us vs : List Str) (n n2 : Nat) (hu : StrsAre items us) (hv : StrsAre items2 vs) : Meets (Builtin.«list.__lt__» ⟨[.ref l, .ref b], []⟩)
      (fun A R s => s.heap.get? l = some { cls := .type "list", dict := none, data := .seq items.toArray n } ∧ s.heap.get? b = some { cls := .type "list", dict := none, data := .seq items2.toArray n2 } ∧
        R (.ok (.ret (.bool (lLt us vs)))) s) := by
  intro prog w A R s h
  obtain ⟨hp, g, d, tk, os⟩ := s; obtain ⟨hl, hb, h⟩ := h
  have f3 := AutoSeq1.sub_list_list
  wp_walk using wpAny_loadPart' hl, wpAny_loadPart' hb
  exact ⟨plainId_quiet plain_eq_loop _, codeAny_builtin entry_eq_loop (by
    rw [Around.under_plainId plain_eq_loop _]
    exact lt_loop l b items items2 n n2 us vs 0 (Nat.zero_le _) (Nat.zero_le _) hu hv prog w A R _ ⟨hl, hb, h⟩)⟩
theorem rc_lt {prog : Program} {w : World} {A : Around} {E : Value → Shared → Prop} {s : Shared} {l b : Addr} {items items2 : List Value} {us vs : List Str} {n n2 : Nat} {Q : Value → Shared → Prop} (hu : StrsAre items us) (hv : StrsAre items2 vs) (hl : s.heap.get? l = some (PySem.W.listOf items.toArray n)) (hb : s.heap.get? b = some (PySem.W.listOf items2.toArray n2)) (room : A.units < cLine)
    (h : Q (.bool (lLt us vs)) s) : wpAny (model prog w) A (richCompare .Lt (.ref l) (.ref b)) Q E s :=
  richCompare_meets_room (op := .Lt) ⟨_, hl, rfl⟩ ⟨_, hb, rfl⟩ F.slot_list_lt F.entry_list_lt (F.args_list_lt_2 _ _) (list_ltM l b items items2 us vs n n2 hu hv)
    ⟨hl, hb, show Value.bool (lLt us vs) ≠ Value.notImplemented ∧ Q (.bool (lLt us vs)) s from ⟨(fun x => nomatch x), h⟩⟩ room
theorem gt_loop (l b : Addr) (items items2 : List Value) (n n2 : Nat) : ∀ (us vs : List Str) (i : Nat), i ≤ items.length → i ≤ items2.length → StrsAre (items.drop i) us → StrsAre (items2.drop i) vs → Meets (Builtin.«list.__eq__.loop» ⟨[.ref l, .ref b, rawInt i, rawInt 4], []⟩)
      (fun A R s => s.heap.get? l = some { cls := .type "list", dict := none, data := .seq items.toArray n } ∧ s.heap.get? b = some { cls := .type "list", dict := none, data := .seq items2.toArray n2 } ∧
        R (.ok (.ret (.bool (lLt vs us)))) s) := by
  intro us
  induction us with
  | nil =>
    intro vs i hi hi' hu hv prog w A R s h
    obtain ⟨hp, g, d, tk, os⟩ := s; obtain ⟨hl, hb, h⟩ := h
    wp_walk using wpAny_loadPart' hl, wpAny_loadPart' hb
    have h1 : items.length ≤ i := by have := strs_at hu; simp at this; (first | lia | omega)
    have hi1 : items.toArray[((i : Nat) : Int).toNat]? = none := by simp; (first | lia | omega)
    rw [hi1]
    wp_walk using wpAny_loadPart' hl, wpAny_loadPart' hb
    show R (.ok (.ret (.bool (decide (items.toArray.size > items2.toArray.size))))) _
    have h2 := strs_at hv
    simp only [List.length_drop] at h2
    cases vs with
    | nil => simp at h2; simpa [lLt, show ¬ items.length > items2.length by (first | lia | omega)] using h
    | cons v vs => simp at h2; simpa [lLt, show ¬ items.length > items2.length by (first | lia | omega)] using h
  | cons x xs ih =>
    intro vs i hi hi' hu hv prog w A R s h
    obtain ⟨hp, g, d, tk, os⟩ := s; obtain ⟨hl, hb, h⟩ := h
    obtain ⟨t, ex, hu', hlt⟩ := strs_head hu
    have hi1 : items.toArray[((i : Nat) : Int).toNat]? = some (.str x t) := by simpa using ex
    cases vs with
    | nil =>
      wp_walk using wpAny_loadPart' hl, wpAny_loadPart' hb
      have h1 : items2.length ≤ i := by have := strs_at hv; simp at this; (first | lia | omega)
      have hi2 : items2.toArray[((i : Nat) : Int).toNat]? = none := by simp; (first | lia | omega)
      rw [hi1, hi2]
      wp_walk using wpAny_loadPart' hl, wpAny_loadPart' hb
      show R (.ok (.ret (.bool (decide (items.toArray.size > items2.toArray.size))))) _
      simpa [lLt, show  items.length > items2.length by (first | lia | omega)] using h
    | cons y ys =>
      obtain ⟨u, ey, hv', hlt2⟩ := strs_head hv
      have hi2 : items2.toArray[((i : Nat) : Int).toNat]? = some (.str y u) := by simpa using ey
      wp_walk using wpAny_loadPart' hl, wpAny_loadPart' hb
      rw [hi1, hi2]
      refine wpAny_bind (wpAny_eqBool_str ?_)
      have hc : ((i : Int) + 1) = ((i + 1 : Nat) : Int) := by push_cast; rfl
      by_cases hxy : x = y
      · rw [decide_eq_true hxy]
        wp_walk
        rw [hc]
        exact ⟨plainId_quiet plain_eq_loop _, codeAny_builtin entry_eq_loop (by
          rw [Around.under_plainId plain_eq_loop _]
          exact ih ys (i + 1) hlt hlt2 hu' hv' prog w A R _ ⟨hl, hb, by rw [lLt, if_pos hxy.symm] at h; exact h⟩)⟩
      · rw [decide_eq_false hxy]
        wp_walk using wpAny_loadPart' hl, wpAny_loadPart' hb
        rw [hi1, hi2]
        refine wpAny_bind (show wpAny _ _ (compareOp .Gt (.str x t) (.str y u)) _ _ _ from PySem.P.gt_str ?_)
        refine wpAny_pure ?_
        rw [lLt, if_neg (fun e => hxy e.symm)] at h
        exact h
theorem list_gtM (l b : Addr) (items items2 : List Value) (us vs : List Str) (n n2 : Nat) (hu : StrsAre items us) (hv : StrsAre items2 vs) : Meets (Builtin.«list.__gt__» ⟨[.ref l, .ref b], []⟩)
      (fun A R s => s.heap.get? l = some { cls := .type "list", dict := none, data := .seq items.toArray n } ∧ s.heap.get? b = some { cls := .type "list", dict := none, data := .seq items2.toArray n2 } ∧
        R (.ok (.ret (.bool (lLt vs us)))) s) := by
  intro prog w A R s h
  obtain ⟨hp, g, d, tk, os⟩ := s; obtain ⟨hl, hb, h⟩ := h
  have f3 := AutoSeq1.sub_list_list
  wp_walk using wpAny_loadPart' hl, wpAny_loadPart' hb
  exact ⟨plainId_quiet plain_eq_loop _, codeAny_builtin entry_eq_loop (by
    rw [Around.under_plainId plain_eq_loop _]
    exact gt_loop l b items items2 n n2 us vs 0 (Nat.zero_le _) (Nat.zero_le _) hu hv prog w A R _ ⟨hl, hb, h⟩)⟩
theorem rc_gt {prog : Program} {w : World} {A : Around} {E : Value → Shared → Prop} {s : Shared} {l b : Addr} {items items2 : List Value} {us vs : List Str} {n n2 : Nat} {Q : Value → Shared → Prop} (hu : StrsAre items us) (hv : StrsAre items2 vs) (hl : s.heap.get? l = some (PySem.W.listOf items.toArray n)) (hb : s.heap.get? b = some (PySem.W.listOf items2.toArray n2)) (room : A.units < cLine)
    (h : Q (.bool (lLt vs us)) s) : wpAny (model prog w) A (richCompare .Gt (.ref l) (.ref b)) Q E s :=
  richCompare_meets_room (op := .Gt) ⟨_, hl, rfl⟩ ⟨_, hb, rfl⟩ F.slot_list_gt F.entry_list_gt (F.args_list_gt_2 _ _) (list_gtM l b items items2 us vs n n2 hu hv)
    ⟨hl, hb, show Value.bool (lLt vs us) ≠ Value.notImplemented ∧ Q (.bool (lLt vs us)) s from ⟨(fun x => nomatch x), h⟩⟩ room
end Mine
end
section
open PySem PySem.W PyProof.Rows PySem.Calls PyProof.Rows.LCg
set_option maxRecDepth 100000
namespace Mine
section
variable {prog : Program} {w : World} {A : Around} {E : Value → Shared → Prop} {s : Shared} {h₀ : Heap} {L : Addr} {m : Str → Option Value} {news : List (Addr × Obj)}
theorem min_two {D : Addr} {va vb : Value} {n : Nat} {b : Bool} {Q : Value → Shared → Prop} (hh : A.handled = none) (F : Fr h₀ L s.heap m) (N : News h₀ L s.heap news) (hD : (D, PySem.W.listOf #[va, vb] n) ∈ news)
    (hcmp : ∀ (h : Heap) (tk : Nat) (E' : Value → Shared → Prop) (Q' : Value → Shared → Prop), (∀ b o, s.heap.get? b = some o → h.get? b = some o) → Q' (.bool b) { s with heap := h, toks := tk } → wpAny (model prog w) A.in1 (richCompare .Lt vb va) Q' E' { s with heap := h, toks := tk })
    (k : ∀ h tk, Fr h₀ L h m → News h₀ L h news → Q (if b then vb else va) { s with heap := h, toks := tk }) : wpAny (model prog w) A (call (.builtin "min") [.ref D]) Q E s := by
  have hname : (toString "min" ++ toString ".loop" : String) = "min.loop" := by decide
  have eD := (N _ hD).1
  have hl : s.heap.IsList D #[va, vb] := ⟨_, eD, rfl, n, rfl⟩
  have hlt : D < s.heap.objs.size := Heap.lt_size eD
  refine call_function_tree PySem.F.kind_min PySem.F.plain_min PySem.F.entry_min (PySem.F.args_min1 _) ?_
  show wpAny _ A.in1 (Builtin.Builtins.bindParams "min" ["key", "default"] 0 ⟨[], []⟩ >>= _) _ _ s
  refine wpAny_bind (wpAny_of_eq (show Builtin.Builtins.bindParams "min" ["key", "default"] 0 ⟨[], []⟩ = pure [none, none] from rfl) ?_)
  refine wpAny_bind (wpAny_pure ?_)
  refine wpAny_bind (wpAny_pyIter_list hl ?_)
  refine wpAny_bind (wpAny_newObj_type ?_)
  rw [hname]
  refine wpAny_pure ⟨plainId_quiet PySem.F.plain_min_loop _, ?_⟩
  generalize hI : s.heap.objs.size = I at *
  generalize hH1 : s.heap.push { cls := .type "list_iterator", data := .fields #[.ref D, .int 0 0] } = H1
  have z1 : H1.objs.size = I + 1 := by rw [← hH1, Heap.size_push, hI]
  generalize hS : H1.objs.size = S at *
  have hne : D ≠ I := Nat.ne_of_lt hlt
  have W := Walks.list (prog := prog) (w := w) (A := A.in1) hh I D hne #[va, vb]
  have hSI : S ≠ I := by rw [z1]; exact Ne.symm (Nat.ne_of_lt (Nat.lt_succ_self _))
  have new : ∀ b o, s.heap.get? b = some o → b < I := fun b o e => by rw [← hI]; exact Heap.lt_size e
  have nI : ∀ b o, s.heap.get? b = some o → b ∉ [I] := fun b o e h => by rw [List.mem_singleton] at h; exact Nat.ne_of_lt (new b o e) h
  have nS : ∀ b o, s.heap.get? b = some o → S ≠ b := fun b o e h => by have := new b o e; rw [← h, z1] at this; exact Nat.lt_irrefl _ (Nat.lt_of_succ_lt this)
  have old1 : ∀ b o, s.heap.get? b = some o → H1.get? b = some o := fun b o e => by rw [← hH1]; exact Heap.get?_push_of_some _ e
  have st0 : H1.IsListIter I D 0 := ⟨_, by rw [← hH1, ← hI]; exact Heap.get?_push_size _ rfl, rfl, rfl⟩
  have isD : ∀ {h : Heap}, (∀ b o, s.heap.get? b = some o → h.get? b = some o) → h.IsList D #[va, vb] := fun o => ⟨_, o _ _ eD, rfl, n, rfl⟩
  -- the first
  refine codeAny_builtin PySem.F.entry_min_loop ?_
  rw [Around.under_plainId PySem.F.plain_min_loop _]
  show wpAny _ A.in1 (seqItems? (.ref S) >>= _) _ _ _
  generalize hH2 : H1.push { cls := .type "list", dict := none, data := .seq ([] : List Value).toArray } = H2
  have eS2 : H2.get? S = some { cls := .type "list", dict := none, data := .seq #[] } := by rw [← hH2, ← hS]; exact Heap.get?_push_size _ rfl
  have old2 : ∀ b o, H1.get? b = some o → H2.get? b = some o := fun b o e => by rw [← hH2]; exact Heap.get?_push_of_some _ e
  have st2 : H2.IsListIter I D 0 := by obtain ⟨o, e, r⟩ := st0; exact ⟨o, old2 _ _ e, r⟩
  refine wpAny_bind (wpAny_seqItems eS2 rfl ?_)
  show wpAny _ A.in1 (tryCatch (pyNext (.ref I)) _ >>= _) _ _ _
  refine wpAny_bind (wpAny_tryCatch (W.item 0 _ _ _ (by show 0 < 2; decide) ⟨st2, isD fun b o e => old2 _ _ (old1 _ _ e)⟩ fun v h3 tk3 hv st3 kp3 => ?_))
  obtain rfl : va = v := by simpa using hv
  have eS3 := kp3 S _ (by simpa using hSI) eS2
  have old3 : ∀ b o, s.heap.get? b = some o → h3.get? b = some o := fun b o e => kp3 _ _ (nI _ _ e) (old2 _ _ (old1 _ _ e))
  show wpAny _ A.in1 (updateSeq S (fun _ => #[va, va]) >>= _) _ _ _
  refine wpAny_bind ?_
  refine wpAny_updateSeq eS3 rfl ?_
  rw [hname]
  refine wpAny_pure ⟨plainId_quiet PySem.F.plain_min_loop _, ?_⟩
  -- the second
  generalize hH4 : h3.update S (Obj.mapSeq fun _ => (#[va, va] : Array Value)) = H4
  obtain ⟨c4, eS4⟩ : ∃ c, H4.get? S = some { cls := .type "list", dict := none, data := .seq #[va, va] c } := ⟨_, by rw [← hH4]; exact Heap.get?_update_self (Obj.mapSeq fun _ => (#[va, va] : Array Value)) eS3 rfl⟩
  have up4 : ∀ b o, S ≠ b → h3.get? b = some o → H4.get? b = some o := fun b o hb e => by rw [← hH4]; exact (Heap.get?_update_other _ _ hb).trans e
  have old4 : ∀ b o, s.heap.get? b = some o → H4.get? b = some o := fun b o e => up4 _ _ (nS _ _ e) (old3 _ _ e)
  have st4 : H4.IsListIter I D 1 := by obtain ⟨o, e, r⟩ := st3.1; exact ⟨o, up4 _ _ hSI e, r⟩
  refine codeAny_builtin PySem.F.entry_min_loop ?_
  rw [Around.under_plainId PySem.F.plain_min_loop _]
  show wpAny _ A.in1 (seqItems? (.ref S) >>= _) _ _ _
  refine wpAny_bind (wpAny_seqItems eS4 rfl ?_)
  show wpAny _ A.in1 (tryCatch (pyNext (.ref I)) _ >>= _) _ _ _
  refine wpAny_bind (wpAny_tryCatch (W.item 1 _ _ _ (by show 1 < 2; decide) ⟨st4, isD old4⟩ fun v h5 tk5 hv st5 kp5 => ?_))
  obtain rfl : vb = v := by simpa using hv
  have eS5 := kp5 S _ (by simpa using hSI) eS4
  have old5 : ∀ b o, s.heap.get? b = some o → h5.get? b = some o := fun b o e => kp5 _ _ (nI _ _ e) (old4 _ _ e)
  show wpAny _ A.in1 (tryCatch (holding [vb, vb] (richCompare .Lt vb va >>= _)) _ >>= _) _ _ _
  refine wpAny_bind (wpAny_tryCatch (wpAny_holding (wpAny_bind (hcmp h5 tk5 _ _ old5 ?_))))
  refine wpAny_bind (wpAny_holding (wpAny_truthy_bool ?_))
  refine wpAny_bind (wpAny_letGo (wpAny_pure ?_))
  have last : ∀ (H : Heap) (v : Value) (c : Nat) (tk : Nat), H.get? S = some { cls := .type "list", dict := none, data := .seq #[v, v] c } → (∀ b o, s.heap.get? b = some o → H.get? b = some o) → H.IsListIter I D 2 →
      (∀ h tk, Fr h₀ L h m → News h₀ L h news → Q v { s with heap := h, toks := tk }) → codeAny (model prog w) A (.builtin "min.loop" ⟨[.ref I, .none, .ref S], []⟩) (fun r s' => match r with | .ok (.ret v) => Q v s' | .ok _ => False | .error e => E e s') { s with heap := H, toks := tk } := by
    intro H v c tk eS old st kk
    refine codeAny_builtin PySem.F.entry_min_loop ?_
    rw [Around.under_plainId PySem.F.plain_min_loop _]
    show wpAny _ A.in1 (seqItems? (.ref S) >>= _) _ _ _
    refine wpAny_bind (wpAny_seqItems eS rfl ?_)
    show wpAny _ A.in1 (tryCatch (pyNext (.ref I)) _ >>= _) _ _ _
    refine wpAny_bind (wpAny_tryCatch (W.done _ _ _ ⟨st, isD old⟩ fun h6 tk6 kp6 => ?_))
    have eS6 := kp6 S _ (by simpa using hSI) eS
    show wpAny _ A.in1 (updateSeq S (fun _ => #[]) >>= _) _ _ _
    refine wpAny_bind ?_
    refine wpAny_updateSeq eS6 rfl (wpAny_bind (wpAny_letGo (wpAny_pure ?_)))
    have up : ∀ b o, s.heap.get? b = some o → (h6.update S (Obj.mapSeq fun _ => (#[] : Array Value))).get? b = some o := fun b o e => (Heap.get?_update_other _ _ (nS _ _ e)).trans (kp6 _ _ (nI _ _ e) (old _ _ e))
    exact kk _ _ (F.keeps up) (N.grown up)
  cases b with
  | true =>
    simp only [if_true]
    refine wpAny_bind ?_
    refine wpAny_updateSeq eS5 rfl (wpAny_bind (wpAny_letGo ?_))
    rw [hname]
    refine wpAny_pure ⟨plainId_quiet PySem.F.plain_min_loop _, last _ vb _ _ (Heap.get?_update_self _ eS5 rfl) (fun b o e => (Heap.get?_update_other _ _ (nS _ _ e)).trans (old5 _ _ e)) ?_ fun h tk F' N' => by simpa using k h tk F' N'⟩
    obtain ⟨o, e, r⟩ := st5.1
    exact ⟨o, (Heap.get?_update_other _ _ hSI).trans e, r⟩
  | false =>
    simp only [Bool.false_eq_true, if_false]
    refine wpAny_bind (wpAny_letGo ?_)
    rw [hname]
    exact wpAny_pure ⟨plainId_quiet PySem.F.plain_min_loop _, last _ va _ _ eS5 old5 st5.1 fun h tk F' N' => by simpa using k h tk F' N'⟩
theorem max_two {D : Addr} {va vb : Value} {n : Nat} {b : Bool} {Q : Value → Shared → Prop} (hh : A.handled = none) (F : Fr h₀ L s.heap m) (N : News h₀ L s.heap news) (hD : (D, PySem.W.listOf #[va, vb] n) ∈ news)
    (hcmp : ∀ (h : Heap) (tk : Nat) (E' : Value → Shared → Prop) (Q' : Value → Shared → Prop), (∀ b o, s.heap.get? b = some o → h.get? b = some o) → Q' (.bool b) { s with heap := h, toks := tk } → wpAny (model prog w) A.in1 (richCompare .Gt vb va) Q' E' { s with heap := h, toks := tk })
    (k : ∀ h tk, Fr h₀ L h m → News h₀ L h news → Q (if b then vb else va) { s with heap := h, toks := tk }) : wpAny (model prog w) A (call (.builtin "max") [.ref D]) Q E s := by
  have hname : (toString "max" ++ toString ".loop" : String) = "max.loop" := by decide
  have eD := (N _ hD).1
  have hl : s.heap.IsList D #[va, vb] := ⟨_, eD, rfl, n, rfl⟩
  have hlt : D < s.heap.objs.size := Heap.lt_size eD
  refine call_function_tree PySem.F.kind_max PySem.F.plain_max PySem.F.entry_max (PySem.F.args_max1 _) ?_
  show wpAny _ A.in1 (Builtin.Builtins.bindParams "max" ["key", "default"] 0 ⟨[], []⟩ >>= _) _ _ s
  refine wpAny_bind (wpAny_of_eq (show Builtin.Builtins.bindParams "max" ["key", "default"] 0 ⟨[], []⟩ = pure [none, none] from rfl) ?_)
  refine wpAny_bind (wpAny_pure ?_)
  refine wpAny_bind (wpAny_pyIter_list hl ?_)
  refine wpAny_bind (wpAny_newObj_type ?_)
  rw [hname]
  refine wpAny_pure ⟨plainId_quiet PySem.F.plain_max_loop _, ?_⟩
  generalize hI : s.heap.objs.size = I at *
  generalize hH1 : s.heap.push { cls := .type "list_iterator", data := .fields #[.ref D, .int 0 0] } = H1
  have z1 : H1.objs.size = I + 1 := by rw [← hH1, Heap.size_push, hI]
  generalize hS : H1.objs.size = S at *
  have hne : D ≠ I := Nat.ne_of_lt hlt
  have W := Walks.list (prog := prog) (w := w) (A := A.in1) hh I D hne #[va, vb]
  have hSI : S ≠ I := by rw [z1]; exact Ne.symm (Nat.ne_of_lt (Nat.lt_succ_self _))
  have new : ∀ b o, s.heap.get? b = some o → b < I := fun b o e => by rw [← hI]; exact Heap.lt_size e
  have nI : ∀ b o, s.heap.get? b = some o → b ∉ [I] := fun b o e h => by rw [List.mem_singleton] at h; exact Nat.ne_of_lt (new b o e) h
  have nS : ∀ b o, s.heap.get? b = some o → S ≠ b := fun b o e h => by have := new b o e; rw [← h, z1] at this; exact Nat.lt_irrefl _ (Nat.lt_of_succ_lt this)
  have old1 : ∀ b o, s.heap.get? b = some o → H1.get? b = some o := fun b o e => by rw [← hH1]; exact Heap.get?_push_of_some _ e
  have st0 : H1.IsListIter I D 0 := ⟨_, by rw [← hH1, ← hI]; exact Heap.get?_push_size _ rfl, rfl, rfl⟩
  have isD : ∀ {h : Heap}, (∀ b o, s.heap.get? b = some o → h.get? b = some o) → h.IsList D #[va, vb] := fun o => ⟨_, o _ _ eD, rfl, n, rfl⟩
  -- the first
  refine codeAny_builtin PySem.F.entry_max_loop ?_
  rw [Around.under_plainId PySem.F.plain_max_loop _]
  show wpAny _ A.in1 (seqItems? (.ref S) >>= _) _ _ _
  generalize hH2 : H1.push { cls := .type "list", dict := none, data := .seq ([] : List Value).toArray } = H2
  have eS2 : H2.get? S = some { cls := .type "list", dict := none, data := .seq #[] } := by rw [← hH2, ← hS]; exact Heap.get?_push_size _ rfl
  have old2 : ∀ b o, H1.get? b = some o → H2.get? b = some o := fun b o e => by rw [← hH2]; exact Heap.get?_push_of_some _ e
  have st2 : H2.IsListIter I D 0 := by obtain ⟨o, e, r⟩ := st0; exact ⟨o, old2 _ _ e, r⟩
  refine wpAny_bind (wpAny_seqItems eS2 rfl ?_)
  show wpAny _ A.in1 (tryCatch (pyNext (.ref I)) _ >>= _) _ _ _
  refine wpAny_bind (wpAny_tryCatch (W.item 0 _ _ _ (by show 0 < 2; decide) ⟨st2, isD fun b o e => old2 _ _ (old1 _ _ e)⟩ fun v h3 tk3 hv st3 kp3 => ?_))
  obtain rfl : va = v := by simpa using hv
  have eS3 := kp3 S _ (by simpa using hSI) eS2
  have old3 : ∀ b o, s.heap.get? b = some o → h3.get? b = some o := fun b o e => kp3 _ _ (nI _ _ e) (old2 _ _ (old1 _ _ e))
  show wpAny _ A.in1 (updateSeq S (fun _ => #[va, va]) >>= _) _ _ _
  refine wpAny_bind ?_
  refine wpAny_updateSeq eS3 rfl ?_
  rw [hname]
  refine wpAny_pure ⟨plainId_quiet PySem.F.plain_max_loop _, ?_⟩
  -- the second
  generalize hH4 : h3.update S (Obj.mapSeq fun _ => (#[va, va] : Array Value)) = H4
  obtain ⟨c4, eS4⟩ : ∃ c, H4.get? S = some { cls := .type "list", dict := none, data := .seq #[va, va] c } := ⟨_, by rw [← hH4]; exact Heap.get?_update_self (Obj.mapSeq fun _ => (#[va, va] : Array Value)) eS3 rfl⟩
  have up4 : ∀ b o, S ≠ b → h3.get? b = some o → H4.get? b = some o := fun b o hb e => by rw [← hH4]; exact (Heap.get?_update_other _ _ hb).trans e
  have old4 : ∀ b o, s.heap.get? b = some o → H4.get? b = some o := fun b o e => up4 _ _ (nS _ _ e) (old3 _ _ e)
  have st4 : H4.IsListIter I D 1 := by obtain ⟨o, e, r⟩ := st3.1; exact ⟨o, up4 _ _ hSI e, r⟩
  refine codeAny_builtin PySem.F.entry_max_loop ?_
  rw [Around.under_plainId PySem.F.plain_max_loop _]
  show wpAny _ A.in1 (seqItems? (.ref S) >>= _) _ _ _
  refine wpAny_bind (wpAny_seqItems eS4 rfl ?_)
  show wpAny _ A.in1 (tryCatch (pyNext (.ref I)) _ >>= _) _ _ _
  refine wpAny_bind (wpAny_tryCatch (W.item 1 _ _ _ (by show 1 < 2; decide) ⟨st4, isD old4⟩ fun v h5 tk5 hv st5 kp5 => ?_))
  obtain rfl : vb = v := by simpa using hv
  have eS5 := kp5 S _ (by simpa using hSI) eS4
  have old5 : ∀ b o, s.heap.get? b = some o → h5.get? b = some o := fun b o e => kp5 _ _ (nI _ _ e) (old4 _ _ e)
  show wpAny _ A.in1 (tryCatch (holding [vb, vb] (richCompare .Gt vb va >>= _)) _ >>= _) _ _ _
  refine wpAny_bind (wpAny_tryCatch (wpAny_holding (wpAny_bind (hcmp h5 tk5 _ _ old5 ?_))))
  refine wpAny_bind (wpAny_holding (wpAny_truthy_bool ?_))
  refine wpAny_bind (wpAny_letGo (wpAny_pure ?_))
  have last : ∀ (H : Heap) (v : Value) (c : Nat) (tk : Nat), H.get? S = some { cls := .type "list", dict := none, data := .seq #[v, v] c } → (∀ b o, s.heap.get? b = some o → H.get? b = some o) → H.IsListIter I D 2 →
      (∀ h tk, Fr h₀ L h m → News h₀ L h news → Q v { s with heap := h, toks := tk }) → codeAny (model prog w) A (.builtin "max.loop" ⟨[.ref I, .none, .ref S], []⟩) (fun r s' => match r with | .ok (.ret v) => Q v s' | .ok _ => False | .error e => E e s') { s with heap := H, toks := tk } := by
    intro H v c tk eS old st kk
    refine codeAny_builtin PySem.F.entry_max_loop ?_
    rw [Around.under_plainId PySem.F.plain_max_loop _]
    show wpAny _ A.in1 (seqItems? (.ref S) >>= _) _ _ _
    refine wpAny_bind (wpAny_seqItems eS rfl ?_)
    show wpAny _ A.in1 (tryCatch (pyNext (.ref I)) _ >>= _) _ _ _
    refine wpAny_bind (wpAny_tryCatch (W.done _ _ _ ⟨st, isD old⟩ fun h6 tk6 kp6 => ?_))
    have eS6 := kp6 S _ (by simpa using hSI) eS
    show wpAny _ A.in1 (updateSeq S (fun _ => #[]) >>= _) _ _ _
    refine wpAny_bind ?_
    refine wpAny_updateSeq eS6 rfl (wpAny_bind (wpAny_letGo (wpAny_pure ?_)))
    have up : ∀ b o, s.heap.get? b = some o → (h6.update S (Obj.mapSeq fun _ => (#[] : Array Value))).get? b = some o := fun b o e => (Heap.get?_update_other _ _ (nS _ _ e)).trans (kp6 _ _ (nI _ _ e) (old _ _ e))
    exact kk _ _ (F.keeps up) (N.grown up)
  cases b with
  | true =>
    simp only [if_true]
    refine wpAny_bind ?_
    refine wpAny_updateSeq eS5 rfl (wpAny_bind (wpAny_letGo ?_))
    rw [hname]
    refine wpAny_pure ⟨plainId_quiet PySem.F.plain_max_loop _, last _ vb _ _ (Heap.get?_update_self _ eS5 rfl) (fun b o e => (Heap.get?_update_other _ _ (nS _ _ e)).trans (old5 _ _ e)) ?_ fun h tk F' N' => by simpa using k h tk F' N'⟩
    obtain ⟨o, e, r⟩ := st5.1
    exact ⟨o, (Heap.get?_update_other _ _ hSI).trans e, r⟩
  | false =>
    simp only [Bool.false_eq_true, if_false]
    refine wpAny_bind (wpAny_letGo ?_)
    rw [hname]
    exact wpAny_pure ⟨plainId_quiet PySem.F.plain_max_loop _, last _ va _ _ eS5 old5 st5.1 fun h tk F' N' => by simpa using k h tk F' N'⟩
end
end Mine
end
section
open PySem PySem.W PyProof.Rows PySem.Calls PyProof.Rows.LCg
set_option maxRecDepth 100000
namespace Mine
def slT : Str := Str.ofString "/"
def dotT : Str := Str.ofString "."
def kept (c : Str) : Bool := !(c.length == 0) && c != dotT
/-- two lists of texts, one after the other -/
def PI (sx sy : List Str) (base : List (Addr × Obj)) (i : Nat) (ys : List Value) (nw : List (Addr × Obj)) : Prop :=
  (i = 0 ∧ ys = [] ∧ nw = base) ∨ (i = 1 ∧ ∃ a A na, ys = [.ref a] ∧ nw = (a, PySem.W.listOf A.toArray na) :: base ∧ StrsAre A sx) ∨
    (i = 2 ∧ ∃ a A na b B nb, ys = [.ref a, .ref b] ∧ nw = (b, PySem.W.listOf B.toArray nb) :: (a, PySem.W.listOf A.toArray na) :: base ∧ StrsAre A sx ∧ StrsAre B sy ∧ (@Ne Nat b a))
inductive PTwo (sx sy : List Str) (base : List (Addr × Obj)) (ys : List Value) (nw : List (Addr × Obj)) : Prop
  | mk (a : Addr) (A : List Value) (na : Nat) (b : Addr) (B : List Value) (nb : Nat) (h1 : ys = [.ref a, .ref b]) (h2 : nw = (b, PySem.W.listOf B.toArray nb) :: (a, PySem.W.listOf A.toArray na) :: base) (hA : StrsAre A sx) (hB : StrsAre B sy) (ne : @Ne Nat b a) : PTwo sx sy base ys nw
theorem PI.two {sx sy : List Str} {base : List (Addr × Obj)} {ys : List Value} {nw : List (Addr × Obj)} (x : PI sx sy base 2 ys nw) : PTwo sx sy base ys nw := by
  rcases x with ⟨q, _⟩ | ⟨q, _⟩ | ⟨_, a, A, na, b, B, nb, h1, h2, hA, hB, ne⟩
  · cases q
  · cases q
  · exact ⟨a, A, na, b, B, nb, h1, h2, hA, hB, ne⟩
theorem PI.sub {sx sy : List Str} {base : List (Addr × Obj)} {i : Nat} {ys : List Value} {nw : List (Addr × Obj)} (x : PI sx sy base i ys nw) : (∀ p ∈ base, p ∈ nw) ∧ ys.length ≤ 2 := by
  rcases x with ⟨_, rfl, rfl⟩ | ⟨_, a, A, na, rfl, rfl, _⟩ | ⟨_, a, A, na, b, B, nb, rfl, rfl, _⟩
  · exact ⟨fun _ h => h, by simp⟩
  · exact ⟨fun _ h => .tail _ h, by simp⟩
  · exact ⟨fun _ h => .tail _ (.tail _ h), by simp⟩
theorem PI.next {sx sy : List Str} {base : List (Addr × Obj)} {i : Nat} {ys : List Value} {nw : List (Addr × Obj)} (x : PI sx sy base i ys nw) {D : Addr} {A : List Value} {na : Nat} (hi : i < 2) (h : StrsAre A (if i = 0 then sx else sy)) (off : Off1 D nw) :
    PI sx sy base (i + 1) (ys ++ [.ref D]) ((D, PySem.W.listOf A.toArray na) :: nw) := by
  rcases x with ⟨rfl, rfl, rfl⟩ | ⟨rfl, a, A', na', rfl, rfl, h'⟩ | ⟨rfl, _⟩
  · exact .inr (.inl ⟨rfl, D, A, na, rfl, rfl, h⟩)
  · exact .inr (.inr ⟨rfl, a, A', na', D, A, na, rfl, rfl, h', h, Ne.symm off.1⟩)
  · (first | lia | omega)
/-- the texts that are kept -/
theorem strs_keep {ys : List Value} {sx : List Str} {c : Str} {tc : Tok} {j : Nat} (h : StrsAre ys ((sx.take j).filter kept)) (hj : sx[j]? = some c) :
    (kept c = true → StrsAre (ys ++ [.str c tc]) ((sx.take (j + 1)).filter kept)) ∧ (kept c = false → StrsAre ys ((sx.take (j + 1)).filter kept)) := by
  have e2 : sx.take (j + 1) = sx.take j ++ [c] := by rw [List.take_succ, hj]; rfl
  rw [e2, List.filter_append]
  constructor
  · intro hk
    rw [List.filter_cons_of_pos (by simpa using hk), List.filter_nil]
    have : ∀ {vs : List Value} {xs : List Str}, StrsAre vs xs → StrsAre (vs ++ [.str c tc]) (xs ++ [c]) := by
      intro vs xs h
      induction h with
      | nil => exact .cons c tc .nil
      | cons y t _ ih => exact .cons y t ih
    exact this h
  · intro hk
    rw [List.filter_cons_of_neg (by simpa using hk), List.filter_nil, List.append_nil]
    exact h
theorem strs_get {vs : List Value} {xs : List Str} (h : StrsAre vs xs) {i : Nat} {v : Value} (hv : vs.toArray[i]? = some v) : ∃ c t, v = .str c t ∧ xs[i]? = some c := by
  have hv' : vs[i]? = some v := by simpa using hv
  clear hv
  induction h generalizing i with
  | nil => simp at hv'
  | cons y t h ih =>
    cases i with
    | zero => simp at hv'; exact ⟨y, t, hv'.symm, rfl⟩
    | succ i => simp at hv'; obtain ⟨c, t', e, e2⟩ := ih hv'; exact ⟨c, t', e, by simpa using e2⟩
/-- what two lists have alike ahead -/
def cpre : List Str → List Str → List Str
  | x :: xs, y :: ys => if x = y then x :: cpre xs ys else []
  | _, _ => []
theorem cpre_comm : ∀ (xs ys : List Str), cpre xs ys = cpre ys xs
  | [], [] => rfl
  | [], _ :: _ => rfl
  | _ :: _, [] => rfl
  | x :: xs, y :: ys => by
    unfold cpre
    by_cases h : x = y
    · subst h; rw [if_pos rfl, if_pos rfl, cpre_comm xs ys]
    · rw [if_neg h, if_neg (Ne.symm h)]
theorem lLt_none : ∀ {xs ys : List Str}, xs.length = ys.length → lLt xs ys = false → lLt ys xs = false → xs = ys
  | [], [], _, _, _ => rfl
  | x :: xs, y :: ys, hl, h1, h2 => by
    unfold lLt at h1 h2
    by_cases h : x = y
    · subst h
      rw [if_pos rfl] at h1 h2
      rw [lLt_none (by simpa using hl) h1 h2]
    · rw [if_neg h] at h1
      rw [if_neg (Ne.symm h)] at h2
      have e : x = y := by
        have e1 : ¬ x.cps.toList < y.cps.toList := by simpa [sLt] using h1
        have e2 : ¬ y.cps.toList < x.cps.toList := by simpa [sLt] using h2
        have e3 : x.cps.toList = y.cps.toList := List.le_antisymm (List.not_lt.mp e2) (List.not_lt.mp e1)
        cases x; cases y; simp at e3 ⊢; exact e3
      exact absurd e h
theorem lLt_asymm : ∀ {xs ys : List Str}, lLt xs ys = true → lLt ys xs = false
  | [], [], h => by simp [lLt] at h
  | [], _ :: _, _ => rfl
  | _ :: _, [], h => by simp [lLt] at h
  | x :: xs, y :: ys, h => by
    unfold lLt at h ⊢
    by_cases e : x = y
    · subst e; rw [if_pos rfl] at h ⊢; exact lLt_asymm h
    · rw [if_neg e] at h
      rw [if_neg (Ne.symm e)]
      have h1 : x.cps.toList < y.cps.toList := by simpa [sLt] using h
      simpa [sLt] using List.le_of_lt h1
/-- the least and the greatest of two -/
def MM (a b p : Addr) (A B P : List Value) (fx fy fp : List Str) (na nb np : Nat) : Prop := (p = a ∧ P = A ∧ fp = fx ∧ np = na) ∨ (p = b ∧ P = B ∧ fp = fy ∧ np = nb)
theorem strs3 {P : List Value} {e : List Str} (h : StrsAre P e) {c0 c1 c2 : Str} (he : e = [c0, c1, c2]) : ∃ t0 t1 t2, P = [.str c0 t0, .str c1 t1, .str c2 t2] := by
  subst he
  cases h with | cons _ t0 h => cases h with | cons _ t1 h => cases h with | cons _ t2 h => cases h; exact ⟨t0, t1, t2, rfl⟩
/-- behind the loop -/
inductive CPost (s : Shared) (L : Addr) (rest : List (Addr × Obj)) (ts : List Str) (f : Flow) (s₁ : Shared) : Prop
  | mk (f0 : f = .next) (h : Heap) (tk : Nat) (m : Str → Option Value) (pc : Addr) (vs : List Value) (n : Nat) (f1 : s₁ = { s with heap := h, toks := tk }) (f2 : Fr s.heap L h m) (f3 : m (Str.ofString "common") = some (.ref pc)) (f4 : m (Str.ofString "isabs") = some (.bool true)) (f5 : News s.heap L h ((pc, PySem.W.listOf vs.toArray n) :: rest)) (f6 : StrsAre vs ts) : CPost s L rest ts f s₁
theorem map_two {m : Str → Option Value} {x y : Str} {a b : Option Value} (hx : m x = a) (hy : m y = b) : m = fun z => if z = x then a else if z = y then b else m z := by
  funext z
  by_cases h : z = x
  · subst h; rw [if_pos rfl]; exact hx
  · rw [if_neg h]
    by_cases h : z = y
    · subst h; rw [if_pos rfl]; exact hy
    · rw [if_neg h]
theorem map_four {m : Str → Option Value} {x y z u : Str} {a b c d : Option Value} (hx : m x = a) (hy : m y = b) (hz : m z = c) (hu : m u = d) : m = fun v => if v = x then a else if v = y then b else if v = z then c else if v = u then d else m v := by
  funext v
  by_cases h : v = x
  · subst h; rw [if_pos rfl]; exact hx
  · rw [if_neg h]
    by_cases h : v = y
    · subst h; rw [if_pos rfl]; exact hy
    · rw [if_neg h]
      by_cases h : v = z
      · subst h; rw [if_pos rfl]; exact hz
      · rw [if_neg h]
        by_cases h : v = u
        · subst h; rw [if_pos rfl]; exact hu
        · rw [if_neg h]
theorem cpre0 {m0 m1 m2 n0 n1 n2 : Str} (h0 : (m0 != n0) = true) : cpre [m0, m1, m2] [n0, n1, n2] = [] := by
  unfold cpre; rw [if_neg (by simpa using h0)]
theorem cpre1 {m0 m1 m2 n0 n1 n2 : Str} (h0 : (m0 != n0) = false) (h1 : (m1 != n1) = true) : cpre [m0, m1, m2] [n0, n1, n2] = [m0] := by
  unfold cpre; rw [if_pos (by simpa using h0)]; unfold cpre; rw [if_neg (by simpa using h1)]
theorem cpre2 {m0 m1 m2 n0 n1 n2 : Str} (h0 : (m0 != n0) = false) (h1 : (m1 != n1) = false) (h2 : (m2 != n2) = true) : cpre [m0, m1, m2] [n0, n1, n2] = [m0, m1] := by
  unfold cpre; rw [if_pos (by simpa using h0)]; unfold cpre; rw [if_pos (by simpa using h1)]; unfold cpre; rw [if_neg (by simpa using h2)]
theorem cpre3 {m0 m1 m2 n0 n1 n2 : Str} (h0 : (m0 != n0) = false) (h1 : (m1 != n1) = false) (h2 : (m2 != n2) = false) : cpre [m0, m1, m2] [n0, n1, n2] = [m0, m1, m2] := by
  unfold cpre; rw [if_pos (by simpa using h0)]; unfold cpre; rw [if_pos (by simpa using h1)]; unfold cpre; rw [if_pos (by simpa using h2)]; rfl
theorem len_f {c : Str} (h : (!(c.length == 0)) = false) : ((c.length : Int) != 0) = false := by
  have : c.length = 0 := by simpa using h
  rw [this]; rfl
theorem len_t {c : Str} (h : (!(c.length == 0)) = true) : ((c.length : Int) != 0) = true := by
  have : c.length ≠ 0 := by simpa using h
  simp; (first | lia | omega)
theorem two_at {v0 v1 v : Value} {i : Nat} (h : (#[v0, v1] : Array Value)[i]? = some v) : (i = 0 ∧ v = v0) ∨ (i = 1 ∧ v = v1) := by
  rcases (by (first | lia | omega) : i = 0 ∨ i = 1 ∨ 2 ≤ i) with rfl | rfl | h2
  · simp at h; exact .inl ⟨rfl, h.symm⟩
  · simp at h; exact .inr ⟨rfl, h.symm⟩
  · rw [Array.getElem?_eq_none (by simpa using h2)] at h; cases h
section
set_option maxHeartbeats 4000000 in
theorem common_c {w : World} (l : Addr) (x y : Str) (t u : Tok) (c0 c1 c2 d0 d1 d2 : Str) (hfx : (Txt.split x slT).filter kept = [c0, c1, c2]) (hfy : (Txt.split y slT).filter kept = [d0, d1, d2]) (hjn : ((cpre [c0, c1, c2] [d0, d1, d2]).map (·.length)).sum + (cpre [c0, c1, c2] [d0, d1, d2]).length * slT.length ≤ 10000) (hjl : (Txt.join slT (cpre [c0, c1, c2] [d0, d1, d2])).length ≤ 10000) (hxl : x.length + 2 ≤ 1000) (hyl : y.length + 2 ≤ 1000) (hxs : (Txt.split x slT).length ≤ 100) (hys : (Txt.split y slT).length ≤ 100) (hcl : ∀ c, c ∈ Txt.split x slT ∨ c ∈ Txt.split y slT → c.length ≤ 1000) (hxa : Txt.startswith x slT = true) (hya : Txt.startswith y slT = true) : Calls1 w 176 [.ref l] 40 (fun h => h.IsList l #[.str x t, .str y u]) (fun _ v _ => ∃ t, v = .str (slT ++ Txt.join slT (cpre [c0, c1, c2] [d0, d1, d2])) t) := by
  w_top off
  k_with_none
  k_with "call builtin:str.split" => ((refine held (p := wpAny _ _ (PySem.call _ _) _ _ _) ?_))
  k_with "k_room" => (ktr_room)
  k_with "k_ne" => (first | exact offN (by assumption) (by k_mem) | exact Ne.symm (offN (by assumption) (by k_mem)) | (refine neN ?_; (try dsimp only); (first | lia | omega)))
  k_with "call ref" => ((refine held (p := wpAny _ _ (PySem.call (Value.ref _) _) _ _ _) ?_))
  k_with "call type:map" => ((refine held (p := wpAny _ _ (PySem.call _ _) _ _ _) ?_))
  k_with "call type:tuple" => ((refine held (p := wpAny _ _ (PySem.call _ _) _ _ _) ?_))
  k_with "exec Assign" => ((refine held (p := wpAny _ _ (exec (.Assign _ (.SetComp _ _ _ _) _) _) _ _ _) ?_))
  k_with "call builtin:min" => ((refine held (p := wpAny _ _ (PySem.call _ _) _ _ _) ?_))
  k_with "call builtin:max" => ((refine held (p := wpAny _ _ (PySem.call _ _) _ _ _) ?_))
  k_with "exec For Tuple Call cons nil" => ((refine held (p := wpAny _ _ (exec (.For _ _ _ _ _) _) _ _ _) ?_))
  k_with "exec Try" => ((refine wpAny_Try_except ?_))
  k_with "exec Assign" => k_fold
  k_with "exec If" => k_fold
  k_with "exec Try" => k_fold
  k_with "exec Return some" => k_fold
  k_with "eval ListComp" => ((refine held (p := wpAny _ _ (eval _ _) _ _ _) ?_))
  k_with "exec Assign cons ListComp" => ((refine held (p := wpAny _ _ (exec _ _) _ _ _) ?_))
  intro loose mean mg mb dp un gd frames base s Q E B X T hd hu hp ret
  revert X; k_fill; intro X
  refine' enterTC (X := []) (led := []) (binds := [(Str.ofString "paths", .ref l)]) (by assumption) (by assumption) (by assumption) (fun _ h => nomatch h) ?k6 ?k7 ?k8 ?k9 ?kB ?kD ?_ ?c2 ?c3 ?c4
  (case k6 => k_dflt k_is)
  (case k7 => k_dflt k_is)
  (case k8 => exact room0 hd)
  (case k9 => exact BindsTo.of_eq rfl)
  (case kB => exact rfl)
  (case kD => decide +kernel)
  (case c2 => exact rfl); (case c3 => exact rfl); (case c4 => exact rfl)
  intro L h' tk cells F' N' Y' l1
  dsimp only [hideAll] at F' N'
  replace F' := fr_map (m' := fun y => if y = Str.ofString "paths" then some (.ref l) else none) F' (by with_unfolding_all rfl)
  obtain ⟨o1, o2, hE, dd1, dd2⟩ := CellsAre.two Y'
  subst hE; clear Y' l1
  replace dd1 : o1.data = .cell none := dd1.trans (by with_unfolding_all rfl)
  replace dd2 : o2.data = .cell none := dd2.trans (by with_unfolding_all rfl)
  (try simp only [List.cons_append, List.nil_append] at N')
  try dsimp only
  try k_fold
  k_steps
  rename Fr _ _ _ _ => F1
  rename News _ _ _ _ => N1
  refine use_map1 B F1 X N1 T rfl rfl (hp.at fun o e => F1.keep _ _ e) fun z TI it h2 M F2 N2 hni hi0 hLi => ?_
  clear F1 N1
  k_steps
  rename Fr _ _ _ _ => F1
  rename News _ _ _ _ => N1
  refine use_map2 F1 N1 M hni hi0 hLi (by simp) (by simp) (by exact roomD hd rfl) (by exact roomV hu rfl) fun T2 h3 tk3 F3 N3 l3 => ?_
  clear F1 N1 M hni hi0 hLi
  k_lt l3
  k_steps
  rename Fr _ _ _ _ => F1
  rename News _ _ _ _ => N1
  refine comp_local (cl := [(Str.ofString "sep", L + 1)]) F1 ?a0 ?a ?b ?c0 ?c ?d ?e ?_
  case a0 => exact rfl
  case a => with_unfolding_all rfl
  case b => with_unfolding_all rfl
  case c0 => exact rfl
  case c => decide
  case d => exact rfl
  case e => exact rfl
  k_steps
  rename_i oq1 dq1 tkx qkx ekx hq3 oq2 dq2
  obtain ⟨ts, ets⟩ : ∃ t, oq1.data = .cell (some (.str slT t)) := ⟨_, dq1⟩
  obtain ⟨td, etd⟩ : ∃ t, oq2.data = .cell (some (.str dotT t)) := ⟨_, dq2⟩
  clear dq1 dq2
  obtain ⟨base1, hb1⟩ : ∃ b, b = [(T2, tupO #[Value.str x t, Value.str y u]), (L + 1 + 1, oq2), (L + 1, oq1)] := ⟨_, rfl⟩
  refine ⟨_, blk_V (Inv := PI (Txt.split x slT) (Txt.split y slT) base1) (srcTup (news := base1) (T := T2) (its := #[Value.str x t, Value.str y u]) rfl F1 (by rw [hb1]; exact N1) (by rw [hb1]; exact .head _)) (fun _ => rfl) (fun _ => rfl) rfl (by rfl)
    (fun i ys nw _ h => Nat.le_trans h.sub.2 (by decide)) (fun i ys nw h => h.sub.1 _ (by rw [hb1]; exact .head _)) (.inl ⟨rfl, rfl, rfl⟩) ?_, ?_⟩
  · clear F1 N1
    intro i v I oI C oC D m₂ h tk2 ys nw E' hi2 hPv hI hoC hx F N off ne3
    obtain ⟨z, tz, rfl, hz1, hz2⟩ : ∃ z tz, v = .str z tz ∧ z.length + 2 ≤ 1000 ∧ Txt.split z slT = (if i = 0 then Txt.split x slT else Txt.split y slT) := by
      rcases two_at hPv with ⟨rfl, rfl⟩ | ⟨rfl, rfl⟩
      · exact ⟨_, _, rfl, hxl, rfl⟩
      · exact ⟨_, _, rfl, hyl, rfl⟩
    have N2 : News s.heap L h ((I, oI) :: (C, oC) :: (D, lst ys) :: (L + 1, oq1) :: nw) := fun p hp => by
      rcases List.mem_cons.mp hp with rfl | hp
      · exact N _ (.head _)
      · rcases List.mem_cons.mp hp with rfl | hp
        · exact N _ (.tail _ (.head _))
        · rcases List.mem_cons.mp hp with rfl | hp
          · exact N _ (.tail _ (.tail _ (.head _)))
          · rcases List.mem_cons.mp hp with rfl | hp
            · exact N _ (.tail _ (.tail _ (.tail _ (hI.sub.1 _ (by rw [hb1]; exact .tail _ (.tail _ (.head _)))))))
            · exact N _ (.tail _ (.tail _ (.tail _ hp)))
    refine wpAny_tests_nil ?_
    simp only [if_true]
    clear N
    k_steps
    refine KSpl.split1 F N2 (by decide) (fun D' l' h' k' e' a' F' N' l1 => ?_) (Nat.le_trans hz1 (by decide))
    clear F N2
    rw [e', hz2] at a'
    k_steps
    rename Fr _ _ _ _ => F3
    rename News _ _ _ _ => N3
    have lt : ∀ p ∈ nw, (@LT.lt Nat _ p.1 D') := fun p hp => l1 p (.tail _ (.tail _ (.tail _ (.tail _ hp))))
    have nD : ∀ {q : Addr} {o : Obj}, (q, o) ∈ [(I, oI), (C, oC), (D, lst ys)] → (@Ne Nat D' q) := fun {q o} hq => Ne.symm (Nat.ne_of_lt (l1 (q, o) (by
      rcases List.mem_cons.mp hq with e | hq
      · rw [e]; exact .head _
      · rcases List.mem_cons.mp hq with e | hq
        · rw [e]; exact .tail _ (.head _)
        · rw [List.mem_singleton.mp hq]; exact .tail _ (.tail _ (.head _)))))
    refine ⟨_, _, (D', PySem.W.listOf (strValues l').toArray 0) :: nw, rfl, F3, fun p hp => ?_, ⟨⟨nD (.head _), nD (.tail _ (.head _)), nD (.tail _ (.tail _ (.head _)))⟩, off⟩, hI.next (by simpa using hi2) a' (off1_of fun p hp => Nat.ne_of_lt (lt p hp))⟩
    rcases List.mem_cons.mp hp with rfl | hp
    · exact N3 _ (.tail _ (.head _))
    · rcases List.mem_cons.mp hp with rfl | hp
      · exact N3 _ (.tail _ (.tail _ (.head _)))
      · rcases List.mem_cons.mp hp with rfl | hp
        · exact N3 _ (.tail _ (.tail _ (.tail _ (.head _))))
        · rcases List.mem_cons.mp hp with rfl | hp
          · exact N3 _ (.head _)
          · exact N3 _ (.tail _ (.tail _ (.tail _ (.tail _ (.tail _ hp)))))
  · rintro ys nw hG D1 h2 tk2 F2 N2 o2
    obtain ⟨a, A, na, b, B, nb, rfl, rfl, hA, hB, hba⟩ := hG.two
    have hDb : (@Ne Nat b D1) := o2.1
    have hDa : (@Ne Nat a D1) := o2.2.1
    subst hb1
    clear F1 N1
    replace N2 : News s.heap L h2 [(D1, PySem.W.listOf #[.ref a, .ref b] 2), (b, PySem.W.listOf B.toArray nb), (a, PySem.W.listOf A.toArray na), (T2, tupO #[Value.str x t, Value.str y u]), (L + 1 + 1, oq2), (L + 1, oq1)] := news_sub N2 (by lcg_sub)
    k_steps
    refine set_assign (cl := [(Str.ofString "sep", L + 1)]) F2 ?s1 ?s2 ?s3 ?s4 ?s5 ?s6 ?s7 ?s8 ?s9 ?sA ?_
    case s1 => exact rfl
    case s2 => exact rfl
    case s3 => with_unfolding_all rfl
    case s4 => exact rfl
    case s5 => decide
    case s6 => exact fun _ => rfl
    case s7 => exact fun _ => rfl
    case s8 => rfl
    case s9 => exact rfl
    case sA => exact rfl
    k_steps
    refine ⟨2, _, _, _, by decide, srcTup (T := T2) (its := #[Value.str x t, Value.str y u]) rfl F2 N2 (by k_mem), by k_mem, ?_, ?_⟩
    · clear F2 N2
      intro i v I oI C oC D m₂ h tk2 E' hi2 hPv hoC hx F N off ne3
      obtain ⟨z, tz, rfl, hz1⟩ : ∃ z tz, v = .str z tz ∧ Txt.startswith z slT = true := by
        rcases two_at hPv with ⟨rfl, rfl⟩ | ⟨rfl, rfl⟩
        · exact ⟨_, _, rfl, hxa⟩
        · exact ⟨_, _, rfl, hya⟩
      k_steps
      exact ⟨_, _, by rw [hz1], rfl, F, N⟩
    · clear F2 N2
      intro h tk3 S F2 N2 o3
      k_steps
      refine comp_local (cl := [(Str.ofString "curdir", L + 1 + 1)]) F2 ?a0 ?a ?b ?c0 ?c ?d ?e ?_
      case a0 => exact rfl
      case a => with_unfolding_all rfl
      case b => with_unfolding_all rfl
      case c0 => exact rfl
      case c => decide
      case d => exact rfl
      case e => exact rfl
      k_steps
      obtain ⟨base2, hb2⟩ : ∃ b', b' = [(S, setO1 (ledOf w)), (D1, PySem.W.listOf #[Value.ref a, Value.ref b] 2), (b, PySem.W.listOf B.toArray nb), (a, PySem.W.listOf A.toArray na), (T2, tupO #[Value.str x t, Value.str y u]), (L + 1 + 1, oq2), (L + 1, oq1)] := ⟨_, rfl⟩
      refine ⟨_, blk_V (Inv := PI ((Txt.split x slT).filter kept) ((Txt.split y slT).filter kept) base2) (srcList (news := base2) rfl F2 (by rw [hb2]; exact N2) (its := #[Value.ref a, Value.ref b]) (.inr ⟨_, by rw [hb2]; exact .tail _ (.head _), rfl, _, rfl⟩)) (fun _ => rfl) (fun _ => rfl) rfl (by rfl)
        (fun i ys nw _ h => Nat.le_trans h.sub.2 (by decide)) (fun i ys nw h => .inr ⟨_, h.sub.1 _ (by rw [hb2]; exact .tail _ (.head _)), rfl, _, rfl⟩) (.inl ⟨rfl, rfl, rfl⟩) ?_, ?_⟩
      · clear F2 N2
        intro i v I oI C oC D m₂ h tk2 ys nw E' hi2 hPv hI hoC hx F N off ne3
        obtain ⟨q, V, nq, sz, rfl, hmq, hV, hsz, hlen, hclen⟩ : ∃ q V nq sz, v = .ref q ∧ (q, PySem.W.listOf V.toArray nq) ∈ base2 ∧ StrsAre V sz ∧ sz.filter kept = (if i = 0 then (Txt.split x slT).filter kept else (Txt.split y slT).filter kept) ∧ sz.length ≤ 100 ∧ ∀ c ∈ sz, c.length ≤ 1000 := by
          rcases two_at hPv with ⟨rfl, rfl⟩ | ⟨rfl, rfl⟩
          · exact ⟨_, _, _, _, rfl, by rw [hb2]; exact .tail _ (.tail _ (.tail _ (.head _))), hA, rfl, hxs, fun c h => hcl c (.inl h)⟩
          · exact ⟨_, _, _, _, rfl, by rw [hb2]; exact .tail _ (.tail _ (.head _)), hB, rfl, hys, fun c h => hcl c (.inr h)⟩
        have mq := hI.sub.1 _ hmq
        have mc := hI.sub.1 (L + 1 + 1, oq2) (by rw [hb2]; k_mem)
        have N2 : News s.heap L h ((I, oI) :: (C, oC) :: (D, lst ys) :: (q, PySem.W.listOf V.toArray nq) :: (L + 1 + 1, oq2) :: nw) := fun p hp => by
          rcases List.mem_cons.mp hp with rfl | hp
          · exact N _ (.head _)
          · rcases List.mem_cons.mp hp with rfl | hp
            · exact N _ (.tail _ (.head _))
            · rcases List.mem_cons.mp hp with rfl | hp
              · exact N _ (.tail _ (.tail _ (.head _)))
              · rcases List.mem_cons.mp hp with rfl | hp
                · exact N _ (.tail _ (.tail _ (.tail _ mq)))
                · rcases List.mem_cons.mp hp with rfl | hp
                  · exact N _ (.tail _ (.tail _ (.tail _ mc)))
                  · exact N _ (.tail _ (.tail _ (.tail _ hp)))
        refine wpAny_tests_nil ?_
        simp only [if_true]
        clear N
        k_steps
        refine comp_eval (cl := [(Str.ofString "curdir", L + 1 + 1)]) F ?b ?c0 ?c ?_
        case b => with_unfolding_all rfl
        case c0 => exact rfl
        case c => decide
        k_steps
        have hlq := hV.length
        refine ⟨_, blk_V (Inv := fun j ys2 nw2 => nw2 = ((I, oI) :: (C, oC) :: (D, lst ys) :: (q, PySem.W.listOf V.toArray nq) :: (L + 1 + 1, oq2) :: nw) ∧ StrsAre ys2 ((sz.take j).filter kept)) (srcList rfl F N2 (its := V.toArray) (.inr ⟨PySem.W.listOf V.toArray nq, by k_mem, rfl, _, rfl⟩)) (fun _ => rfl) (fun _ => rfl) rfl (by rfl)
          (fun j ys2 nw2 _ hh => by have := hh.2.length; exact Nat.le_trans (Nat.le_trans (by rw [this]; exact Nat.le_trans (List.length_filter_le _ _) (List.length_take_le' _ _)) hlen) (by decide)) (fun i ys nw h => .inr ⟨PySem.W.listOf V.toArray nq, by rw [h.1]; k_mem, rfl, _, rfl⟩) ⟨rfl, by rw [List.take_zero]; exact .nil⟩ ?_, ?_⟩
        · clear F N2 off
          intro j v2 I2 oI2 C2 oC2 D2 m3 h2 tk2 ys2 nw2 E2 hj hP2 hI2 hoC2 hx2 F2 N2 off2 ne2
          obtain ⟨c, tc, rfl, hjc⟩ := strs_get hV hP2
          obtain ⟨rfl, hys2⟩ := hI2
          have hkk := strs_keep (tc := tc) hys2 hjc
          refine wpAny_tests_one ?_
          k_steps
          have hc1000 := hclen c (List.mem_of_getElem? hjc)
          cases hk1 : (!(c.length == 0)) with
          | false =>
            have hk2 : kept c = false := by unfold kept; rw [hk1]; rfl
            refine KXt.truthy (b := false) (len_f hk1) (Nat.le_trans hc1000 (by decide)) fun k => ?_
            simp only [Bool.false_eq_true, if_false]
            k_steps
            exact ⟨_, _, _, rfl, F2, N2, off2, rfl, hkk.2 hk2⟩
          | true =>
            refine KXt.truthy (b := true) (len_t hk1) (Nat.le_trans hc1000 (by decide)) fun k => ?_
            simp only [if_true]
            k_steps
            · rename_i hne
              have hk2 : kept c = true := by unfold kept; rw [hk1]; exact hne
              rename Fr _ _ _ _ => F3
              rename News _ _ _ _ => N3
              exact ⟨_, _, _, rfl, F3, N3, off2, rfl, hkk.1 hk2⟩
            · rename_i hne
              have hk2 : kept c = false := by unfold kept; rw [hk1]; exact hne
              rename Fr _ _ _ _ => F3
              rename News _ _ _ _ => N3
              exact ⟨_, _, _, rfl, F3, N3, off2, rfl, hkk.2 hk2⟩
        · rintro ys2 nw2 ⟨rfl, hS2⟩ D2 h3 tk3 F3 N3 o5
          rw [List.take_of_length_le (by rw [List.size_toArray, hlq]; exact Nat.le_refl _), hsz] at hS2
          have oD2 : Off1 D2 nw := o5.2.2.2.2.2
          refine ⟨h3, tk3, (D2, lst ys2) :: nw, rfl, F3, ?_, ⟨⟨Ne.symm o5.1, Ne.symm o5.2.1, Ne.symm o5.2.2.1⟩, off⟩, hI.next (A := ys2) (by simpa using hi2) hS2 oD2⟩
          intro p hp
          rcases List.mem_cons.mp hp with rfl | hp
          · exact N3 _ (.tail _ (.head _))
          · rcases List.mem_cons.mp hp with rfl | hp
            · exact N3 _ (.tail _ (.tail _ (.head _)))
            · rcases List.mem_cons.mp hp with rfl | hp
              · exact N3 _ (.tail _ (.tail _ (.tail _ (.head _))))
              · rcases List.mem_cons.mp hp with rfl | hp
                · exact N3 _ (.head _)
                · exact N3 _ (.tail _ (.tail _ (.tail _ (.tail _ (.tail _ (.tail _ hp))))))
      · rintro ys nw hG D2 h2 tk2 F2 N2 o4
        obtain ⟨a2, A2, na2, b2, B2, nb2, rfl, rfl, hA2, hB2, hba2⟩ := hG.two
        have hDb2 : (@Ne Nat b2 D2) := o4.1
        have hDa2 : (@Ne Nat a2 D2) := o4.2.1
        subst hb2
        clear hA hB hba hDb hDa o2 o3
        replace N2 : News s.heap L h2 [(D2, PySem.W.listOf #[.ref a2, .ref b2] 2), (b2, PySem.W.listOf B2.toArray nb2), (a2, PySem.W.listOf A2.toArray na2), (L + 1 + 1, oq2), (L + 1, oq1)] := news_sub N2 (by lcg_sub)
        k_steps
        rw [hfx] at hA2
        rw [hfy] at hB2
        obtain ⟨t0, t1, t2, rfl⟩ := strs3 hA2 rfl
        obtain ⟨u0, u1, u2, rfl⟩ := strs3 hB2 rfl
        have hmm : ∃ m0 m1 m2 v0 v1 v2 p np, (∀ h, News s.heap L h [(D2, PySem.W.listOf #[.ref a2, .ref b2] 2), (b2, PySem.W.listOf [Value.str d0 u0, Value.str d1 u1, Value.str d2 u2].toArray nb2), (a2, PySem.W.listOf [Value.str c0 t0, Value.str c1 t1, Value.str c2 t2].toArray na2), (L + 1 + 1, oq2), (L + 1, oq1)] →
            News s.heap L h [(p, PySem.W.listOf #[Value.str m0 v0, Value.str m1 v1, Value.str m2 v2] np), (D2, PySem.W.listOf #[.ref a2, .ref b2] 2), (b2, PySem.W.listOf [Value.str d0 u0, Value.str d1 u1, Value.str d2 u2].toArray nb2), (a2, PySem.W.listOf [Value.str c0 t0, Value.str c1 t1, Value.str c2 t2].toArray na2), (L + 1 + 1, oq2), (L + 1, oq1)]) ∧
            (if lLt [d0, d1, d2] [c0, c1, c2] then Value.ref b2 else Value.ref a2) = .ref p ∧ ((lLt [d0, d1, d2] [c0, c1, c2] = true ∧ [m0, m1, m2] = [d0, d1, d2]) ∨ (lLt [d0, d1, d2] [c0, c1, c2] = false ∧ [m0, m1, m2] = [c0, c1, c2])) := by
          cases hl : lLt [d0, d1, d2] [c0, c1, c2] with
          | true => exact ⟨_, _, _, _, _, _, b2, nb2, fun h N => news_sub N (by lcg_sub), rfl, .inl ⟨rfl, rfl⟩⟩
          | false => exact ⟨_, _, _, _, _, _, a2, na2, fun h N => news_sub N (by lcg_sub), rfl, .inr ⟨rfl, rfl⟩⟩
        have hmx : ∃ m0 m1 m2 v0 v1 v2 p np, (∀ h, News s.heap L h [(D2, PySem.W.listOf #[.ref a2, .ref b2] 2), (b2, PySem.W.listOf [Value.str d0 u0, Value.str d1 u1, Value.str d2 u2].toArray nb2), (a2, PySem.W.listOf [Value.str c0 t0, Value.str c1 t1, Value.str c2 t2].toArray na2), (L + 1 + 1, oq2), (L + 1, oq1)] →
            News s.heap L h [(p, PySem.W.listOf #[Value.str m0 v0, Value.str m1 v1, Value.str m2 v2] np)]) ∧
            (if lLt [c0, c1, c2] [d0, d1, d2] then Value.ref b2 else Value.ref a2) = .ref p ∧ ((lLt [c0, c1, c2] [d0, d1, d2] = true ∧ [m0, m1, m2] = [d0, d1, d2]) ∨ (lLt [c0, c1, c2] [d0, d1, d2] = false ∧ [m0, m1, m2] = [c0, c1, c2])) := by
          cases hl : lLt [c0, c1, c2] [d0, d1, d2] with
          | true => exact ⟨_, _, _, _, _, _, b2, nb2, fun h N => news_sub N (by lcg_sub), rfl, .inl ⟨rfl, rfl⟩⟩
          | false => exact ⟨_, _, _, _, _, _, a2, na2, fun h N => news_sub N (by lcg_sub), rfl, .inr ⟨rfl, rfl⟩⟩
        refine min_two (va := .ref a2) (vb := .ref b2) (b := lLt [d0, d1, d2] [c0, c1, c2]) rfl F2 N2 (.head _) (fun h tk E' Q' old q => rc_lt hB2 hA2 (old _ _ (N2 _ (.tail _ (.head _))).1) (old _ _ (N2 _ (.tail _ (.tail _ (.head _)))).1) (by first | (show un + 3 < cLine; (first | lia | omega)) | (show un + 3 + 1 < cLine; (first | lia | omega)) | (show un + 3 + 2 < cLine; (first | lia | omega))) q) fun h5 tk5 F5 N5 => ?_
        obtain ⟨m0, m1, m2, v0, v1, v2, p, np, hNp, hp1, hmp⟩ := hmm
        obtain ⟨n0, n1, n2, w0, w1, w2, q, nq, hNq, hq1', hmq⟩ := hmx
        rw [hp1]
        clear F2 N2
        k_steps
        rename Fr _ _ _ _ => F6
        rename News _ _ _ _ => N6
        refine max_two (va := .ref a2) (vb := .ref b2) (b := lLt [c0, c1, c2] [d0, d1, d2]) rfl F6 N6 (.head _) (fun h tk E' Q' old q => rc_gt hB2 hA2 (old _ _ (N6 _ (.tail _ (.head _))).1) (old _ _ (N6 _ (.tail _ (.tail _ (.head _)))).1) (by first | (show un + 3 < cLine; (first | lia | omega)) | (show un + 3 + 1 < cLine; (first | lia | omega)) | (show un + 3 + 2 < cLine; (first | lia | omega))) q) fun h7 tk7 F7 N7 => ?_
        rw [hq1']
        have N8 : News s.heap L h7 [(q, PySem.W.listOf #[Value.str n0 w0, Value.str n1 w1, Value.str n2 w2] nq), (p, PySem.W.listOf #[Value.str m0 v0, Value.str m1 v1, Value.str m2 v2] np), (L + 1 + 1, oq2), (L + 1, oq1)] := by
          intro z hz
          rcases List.mem_cons.mp hz with rfl | hz
          · exact hNq _ N7 _ (.head _)
          · rcases List.mem_cons.mp hz with rfl | hz
            · exact hNp _ N7 _ (.head _)
            · exact N7 _ (.tail _ (.tail _ (.tail _ hz)))
        have hcp : cpre [m0, m1, m2] [n0, n1, n2] = cpre [c0, c1, c2] [d0, d1, d2] := by
          rcases hmp with ⟨e1, e2⟩ | ⟨e1, e2⟩ <;> rcases hmq with ⟨e3, e4⟩ | ⟨e3, e4⟩ <;> rw [e2, e4]
          · exact absurd e3 (by rw [lLt_asymm e1]; decide)
          · exact cpre_comm _ _
          · rw [lLt_none (xs := [c0, c1, c2]) (ys := [d0, d1, d2]) rfl e3 e1]
        clear F6 N6 hNp hNq hp1 hq1' hmp hmq N7 hA2 hB2
        k_steps
        rename Fr _ _ _ _ => F9
        rename News _ _ _ _ => N9
        refine wpAny_mono (Q := CPost s L [(L + 1 + 1, oq2), (L + 1, oq1)] (cpre [m0, m1, m2] [n0, n1, n2])) ?_ (fun f s9 hC => ?_) fun _ _ e => e
        · clear hcp o4 hba2 hDb2 hDa2 hfx hfy hxl hyl hxs hys hcl hxa hya hp ret
          obtain ⟨m9, F9, e1, e2, e3, e4⟩ : ∃ m9, Fr s.heap L _ m9 ∧ m9 (Str.ofString "common") = some (.ref p) ∧ m9 (Str.ofString "s1") = some (.ref p) ∧ m9 (Str.ofString "s2") = some (.ref q) ∧ m9 (Str.ofString "isabs") = some (.bool true) := ⟨_, F9, rfl, rfl, rfl, rfl⟩
          rw [map_four e1 e2 e3 e4] at F9
          clear e1 e2 e3 e4
          ktu_for
          k_steps
          · rename Fr _ _ _ _ => FZ
            rename News _ _ _ _ => NZ
            rw [cpre0 (by assumption)]
            exact ⟨rfl, _, _, _, _, [], _, rfl, FZ, rfl, rfl, news_sub NZ (by lcg_sub), .nil⟩
          · rename Fr _ _ _ _ => FZ
            rename News _ _ _ _ => NZ
            rw [cpre1 (by assumption) (by assumption)]
            exact ⟨rfl, _, _, _, _, [_], _, rfl, FZ, rfl, rfl, news_sub NZ (by lcg_sub), .cons _ _ .nil⟩
          · rename Fr _ _ _ _ => FZ
            rename News _ _ _ _ => NZ
            rw [cpre2 (by assumption) (by assumption) (by assumption)]
            exact ⟨rfl, _, _, _, _, [_, _], _, rfl, FZ, rfl, rfl, news_sub NZ (by lcg_sub), .cons _ _ (.cons _ _ .nil)⟩
          · rename Fr _ _ _ _ => FZ
            rename News _ _ _ _ => NZ
            rw [cpre3 (by assumption) (by assumption) (by assumption)]
            exact ⟨rfl, _, _, _, _, [_, _, _], _, rfl, FZ, rfl, rfl, news_sub NZ (by lcg_sub), .cons _ _ (.cons _ _ (.cons _ _ .nil))⟩
        · obtain ⟨rfl, h10, tk10, m10, pc, vs, nc, rfl, F10, hm1, hm2, N10, hts⟩ := hC
          rw [map_two hm1 hm2] at F10
          rw [hcp] at hts
          clear F9 N9 hcp o4 hba2 hDb2 hDa2 hfx hfy hxl hyl hxs hys hcl hxa hya
          generalize cpre [c0, c1, c2] [d0, d1, d2] = cp at *
          k_steps
          rename Fr _ _ _ _ => FZ
          rename News _ _ _ _ => NZ
          refine join_list (ys := cp) ⟨_, (NZ _ (.head _)).1, rfl, _, rfl⟩ (by simpa using hts) (Nat.le_trans hjn (by decide)) fun tj kj => ?_
          generalize Txt.join slT cp = cj at *
          k_steps
          exact ret _ _ _ (Fr.keep FZ) ⟨_, rfl⟩
end
end Mine
end
section
open PySem PySem.W PyProof.Rows PySem.Calls
set_option maxRecDepth 100000
namespace Mine
/-- an exception newly made while `c` was being handled -/
structure NewCtx (h h' : Heap) (e : Addr) (X : String) (c : Value) : Prop where
  keeps : ∀ b o, h.get? b = some o → h'.get? b = some o
  new : h.get? e = none
  there : ∃ ob t, h'.get? e = some ob ∧ ob.cls = .type X ∧ ob.data = .fields #[t, .none, c, .none, .bool false, .none]
theorem NewCtx.of {h h' : Heap} {e : Addr} {X : String} (x : Heap.NewExc h h' e X) : NewCtx h h' e X .none := ⟨x.keeps, x.new, x.there⟩
theorem entry_unchain : entryFor table "proto.unchain" = some Builtin.«proto.unchain» := entryFor_of_tree (by kernel_rfl)
section
variable {prog : Program} {w : World} {A : Around} {E : Value → Shared → Prop} {s : Shared} {α : Type}
theorem unchain_end {e c : Value} {e1 : Addr} {o1 : Obj} {vs : Array Value} {Q : Value → Shared → Prop} (he : s.heap.get? e1 = some o1) (hd : o1.data = .fields vs) (h2 : vs[2]? = some .none) (h : Q .none s) :
    wpAny (model prog w) A (runValue (.builtin "proto.unchain" ⟨[e, .ref e1, c, .bool false], []⟩)) Q E s := by
  refine runValue_entry entry_unchain ?_
  unfold Builtin.«proto.unchain»
  dsimp only
  refine wpAny_bind (wpAny_field he hd h2 ?_)
  rw [if_pos (by rfl)]
  exact wpAny_pure ⟨_, rfl, h⟩
theorem raise_ctx {cls msg : String} {e1 : Addr} {o1 : Obj} {vs : Array Value} {Q : α → Shared → Prop} (hp : PlainExc cls) (hh : A.handled = some (.ref e1)) (he : s.heap.get? e1 = some o1) (hd : o1.data = .fields vs) (h2 : vs[2]? = some .none)
    (h : ∀ h' tk e, NewCtx s.heap h' e cls (.ref e1) → E (.ref e) { s with heap := h', toks := tk }) :
    wpAny (model prog w) A (raiseErrorWords cls msg : Sem α) Q E s := by
  unfold raiseErrorWords
  refine wpAny_bind (wpAny_mkText (wpAny_bind ?_))
  unfold newExc newTuple
  refine wpAny_bind (wpAny_newObj_type ?_)
  refine wpAny_bind (m := firstArgMember _ _) (wpAny_of_eq (a := Value.none) (by simp only [firstArgMember, hp.first]; rfl) ?_)
  rw [hp.own]
  refine wpAny_newObj_type ?_
  unfold raiseNew
  refine wpAny_bind (wpAny_handled ?_)
  rw [hh]
  dsimp only
  have lt1 := Heap.lt_size he
  generalize eT : ({ cls := .type "tuple", data := .seq _ } : Obj) = oT
  have k1 := Heap.get?_push_of_some (h := s.heap) oT he
  have lt2 := Heap.lt_size k1
  generalize eX : ({ cls := .type cls, data := .fields _ } : Obj) = oX
  subst eX
  rw [if_pos (by simp only [bne_iff_ne, ne_eq, Value.ref.injEq]; exact Nat.ne_of_lt lt2)]
  refine wpAny_bind (wpAny_holding (unchain_end (Heap.get?_push_of_some _ k1) hd h2 ?_))
  have hx := Heap.get?_push_size (s.heap.push oT) (o := { cls := .type cls, data := .fields (#[Value.ref s.heap.objs.size, Value.none, Value.none, Value.none, Value.bool false, Value.none] ++ #[]) }) rfl
  have hs : wpAny (model prog w) A (setField (.ref (s.heap.push oT).objs.size) 2 (.ref e1)) (fun _ s' => E (.ref (s.heap.push oT).objs.size) s') E
      { heap := (s.heap.push oT).push { cls := .type cls, data := .fields (#[Value.ref s.heap.objs.size, Value.none, Value.none, Value.none, Value.bool false, Value.none] ++ #[]) }, gens := s.gens, drawn := s.drawn, toks := s.toks + 1, os := s.os } := by
    refine wpAny_setField hx rfl (by simp) (h _ _ _ ⟨fun b o hb => ?_, Heap.get?_none_of_le (by simp), ?_⟩)
    · have hb1 := Heap.get?_push_of_some (h := s.heap) oT hb
      exact (Heap.get?_update_other _ _ (Nat.ne_of_gt (Heap.lt_size hb1))).trans (Heap.get?_push_of_some _ hb1)
    · exact ⟨_, .ref s.heap.objs.size, Heap.get?_update_self _ hx (Obj.isFreed_of_fields (Obj.data_mapFields rfl _)), rfl, Obj.data_mapFields (vs := #[Value.ref s.heap.objs.size, Value.none, Value.none, Value.none, Value.bool false, Value.none] ++ #[]) rfl _⟩
  exact wpAny_bind (wpAny_mono hs (fun _ _ x => wpAny_throw x) fun _ _ x => x)
theorem getItem_list_outC {l : Addr} {items : Array Value} {kk : Int} {k : Nat} {t : Tok} {e1 : Addr} {o1 : Obj} {vs : Array Value} {Q : Value → Shared → Prop} (hh : A.handled = some (.ref e1)) (he : s.heap.get? e1 = some o1) (hd1 : o1.data = .fields vs) (h2 : vs[2]? = some .none)
    (hl : s.heap.IsList l items) (hk : kk = Int.ofNat k) (hout : items.size ≤ k) (hz : k ≤ 1000) (h : ∀ h' tk e, NewCtx s.heap h' e "IndexError" (.ref e1) → E (.ref e) { s with heap := h', toks := tk }) :
    wpAny (model prog w) A (getItem (.ref l) (.int kk t)) Q E s := by
  have hlo : -(2 ^ 63) ≤ kk := by subst hk; have : (0 : Int) ≤ Int.ofNat k := Int.natCast_nonneg k; (first | lia | omega)
  have hhi : kk < 2 ^ 63 := by subst hk; have : Int.ofNat k = (k : Int) := rfl; (first | lia | omega)
  obtain ⟨o, ho, hc, ne, hd⟩ := id hl
  unfold getItem
  try with_reducible refine wpAny_holding ?_
  first | refine wpAny_bind (wpAny_pure ?_) | skip
  refine wpAny_bind (wpAny_sequenceKey hl.typeIs (by decide) ?_)
  refine wpAny_bind (wpAny_callSpecial?_slot (name := Str.ofString "__getitem__") hl.typeIs slot_list_getitem (wpAny_call_entry slot_list_getitem hl.typeIs entry_list_getitem ?_ (args_list_getitem _ _)))
  show wpAny _ _ (Builtin.List.listSubscript? (.int kk t) >>= _) _ _ s
  refine wpAny_bind (wpAny_listSubscript_int (fitsIndex_both hlo hhi) ?_)
  clear hlo hhi
  subst hk
  show wpAny _ _ ((seqItemAt l k >>= fun r => pure (r.map (k, ·))) >>= _) _ _ s
  refine wpAny_bind (wpAny_bind (wpAny_seqItemAt ho hd (wpAny_pure ?_)))
  rw [Array.getElem?_eq_none hout]
  first
    | exact wpAny_bind (wpAny_rule (raise_ctx plainExc_IndexError hh he hd1 h2 h))
    | exact wpAny_bind (wpAny_rule (wpAny_bind (raise_ctx plainExc_IndexError hh he hd1 h2 h)))
    | exact wpAny_bind (wpAny_bind (wpAny_rule (raise_ctx plainExc_IndexError hh he hd1 h2 h)))
    | exact wpAny_rule (raise_ctx plainExc_IndexError hh he hd1 h2 h)
end
section
variable {M : Model} {A : Around} {E : Value → Shared → Prop} {s : Shared}
/-- the entry for a frame in a traceback; the exception keeps its other fields -/
theorem entry_own {base : Heap} {env : Env} {outer : List Env} {L e : Addr} {oe : Obj} {vs : Array Value} {head a0 : Value} {hadNext : Bool} {Q : Unit → Shared → Prop}
    (hfr : A.frames = some (env :: outer)) (hl : s.heap.FunFrames base (env :: outer)) (hf : env.frame = some L) (he : s.heap.get? e = some oe) (hkb : base.StaysIn s.heap) (hen : base.get? e = none) (hd : oe.data = .fields vs) (hsz : 1 < vs.size) (h0 : vs[0]? = some a0)
    (h : ∀ h' T, Heap.NotedW base (env :: outer) e oe.cls a0 (rawInt L) s.heap h' → h'.get? e = some (Obj.mapFields (·.setIfInBounds 1 (.ref T)) oe) → Q () { s with heap := h' }) :
    wpAny M A (do let a ← frameOf env; let pl ← entryPlaceOf L hadNext; let b ← EntryCells.newEntry head a .none (rawInt L) .none pl; setField (.ref e) 1 b) Q E s := by
  have nr : ∀ b o, s.heap.get? b = some o → (∀ vs, o.data ≠ .fields vs) → b ≠ e := fun b o hb hn q => by
    rw [q, he] at hb; cases hb; exact hn vs hd
  have hout : e ∉ (env :: outer).filterMap (·.frame) := fun hm => by
    obtain ⟨_, o, ho, hn⟩ := hl.mem hm
    exact nr e o ho hn rfl
  refine wpAny_bind (wpAny_frameOf_fun hfr hl hf fun h₁ hs => wpAny_bind (wpAny_entryPlaceOf fun pl hpl => ?_))
  unfold EntryCells.newEntry newFields
  refine wpAny_bind (wpAny_newObj_type ?_ (hpl.sizeOk5 _ _ _ _ _))
  have he1 : h₁.get? e = some oe := (hs.2.1 e hout).trans he
  have kb : base.StaysIn h₁ := fun b o hb => (hs.2.1 b fun hm => by rw [(hl.mem hm).1] at hb; cases hb).trans (hkb b o hb)
  generalize eT : ({ cls := .type "traceback", dict := none, data := .fields _ } : Obj) = oT
  have hTf : oT.isFreed = false := by subst eT; rfl
  have he2 := Heap.get?_push_of_some oT he1
  refine wpAny_setField he2 hd hsz ?_
  have hTe : h₁.objs.size ≠ e := Nat.ne_of_gt (Heap.lt_size he1)
  have hd3 := Obj.data_mapFields hd (·.setIfInBounds 1 (Value.ref h₁.objs.size))
  have he3 := Heap.get?_update_self (Obj.mapFields (·.setIfInBounds 1 (Value.ref h₁.objs.size))) he2 (Obj.isFreed_of_fields hd3)
  have keep : ∀ b o, b ≠ e → h₁.get? b = some o → ((h₁.push oT).update e (Obj.mapFields (·.setIfInBounds 1 (Value.ref h₁.objs.size)))).get? b = some o := fun b o hne hb => by
    rw [Heap.get?_update_other _ _ (Ne.symm hne)]; exact Heap.get?_push_of_some _ hb
  refine h _ h₁.objs.size ⟨fun b o hb => keep b o (fun q => by rw [q, hen] at hb; cases hb) (kb b o hb), hl.of_keeps fun b o hb hn => ?_, ?_, fun b o hb hn => ?_⟩ he3
  · obtain ⟨sl, x⟩ := hs.2.2 b o hb
    exact ⟨_, keep b _ (nr b o hb hn) x, rfl⟩
  · refine ⟨_, _, h₁.objs.size, oT, _, he3, ⟨Obj.cls_mapFields _ _, by rw [Array.getElem?_setIfInBounds_ne (by decide)]; exact h0⟩, hd3, by simp [hsz], kb.fresh, hTe, (Heap.get?_update_other _ _ (Ne.symm hTe)).trans (Heap.get?_push_size h₁ hTf), by subst eT; rfl, ?_⟩
    first | (simp; done) | (rcases hpl with rfl | ⟨_, _, _, _, _, _, _, rfl⟩ <;> simp)
  · obtain ⟨sl, x⟩ := hs.2.2 b o hb
    exact ⟨sl, keep b _ (nr b o hb hn) x⟩
end
section
variable {prog : Program} {w : World} {A₀ : Around} {E : Value → Shared → Prop} {s' : Shared} {hb h : Heap} {L e : Addr} {m : Str → Option Value} {name : Str} {scope : Scope} {a : Addr} {cd : Value} {Q : Unit → Shared → Prop} {X : String} {new : List (Addr × Obj)} {env : Env} {L1 : Addr} {oL : Obj} {c : Value}
theorem noted_ctx {A : Around} (hfr : A.frames = some [envOf name scope L a cd, env]) (Fs : TI.Frs [env] [(L1, oL)]) (hx : NewCtx h s'.heap e X c) (F : Fr hb L h m) (N : News hb L h (new ++ [(L1, oL)])) (hne : TLg.AllNe L1 new)
    (k : ∀ h' sl T t, TI.Frs [env] [(L1, { oL with slots := sl })] → TT.HeldN hb L h' m e X (new ++ [(L1, { oL with slots := sl })]) → (∃ ob, h'.get? e = some ob ∧ ob.data = .fields #[t, .ref T, c, .none, .bool false, .none]) → Q () { s' with heap := h' }) (hk : scope.kind = .function := by rfl) :
    wpAny (model prog w) A (noteFrame (.ref e) (envOf name scope L a cd)) Q E s' := by
  obtain ⟨ob, tp, he, hcls, hd⟩ := hx.there
  have hap : ∀ p ∈ new, p.1 ∉ L :: [(L1, oL)].map (·.1) := fun p hp hm => by
    rcases List.mem_cons.mp hm with q | hm
    · exact (N p (List.mem_append_left _ hp)).2.1 q
    · exact hne.mem p hp (List.mem_singleton.mp hm)
  obtain ⟨hff, hNs, frs₁, SU, ht⟩ := TI.frames_at (name := name) (a := a) (cd := cd) (h' := s'.heap) (base := TI.gone h (L :: [(L1, oL)].map (·.1))) hk Fs F N TI.tail_sub (fun b o hb' => ⟨o.slots, hx.keeps b o hb'⟩) fun b hm => TI.gone_none hm
  unfold noteFrame
  simp only [show (envOf name scope L a cd).frame = some L from rfl]
  refine wpAny_bind (wpAny_field he hd (x := .none) rfl ?_)
  rw [if_neg (by decide)]
  refine entry_own (a0 := tp) hfr hff rfl he (fun b o eb => hx.keeps b o (TI.gone_some eb).2) (TI.none_of (fun b o eb => (TI.gone_some eb).2) hx.new) hd (by show 1 < 6; decide) rfl fun h' T hN he' => ?_
  obtain ⟨frs₂, SU₂, Fs₂, H⟩ := TLg.held_of_notedA (X := X) Fs F N hap hNs SU ht hx.new (by rw [← hcls]; exact hN)
  obtain ⟨sl, rfl⟩ := TLg.one_up SU₂
  exact k h' sl T tp Fs₂ H ⟨_, he', Obj.data_mapFields hd _⟩
/-- the exception itself into the ledger -/
theorem held_in {h' : Heap} {news : List (Addr × Obj)} {fl : Value} (H : TT.HeldNA hb L h' m e X news fl) {ob : Obj} {vs : Array Value} (he : h'.get? e = some ob) (hd : ob.data = .fields vs) : TT.HeldNA hb L h' m e X ((e, ob) :: news) fl := by
  obtain ⟨hH, N, ap⟩ := H
  obtain ⟨F, ⟨o, ws, tb, otb, tvs, he1, h1, h2, h3, h4, h5, h6, h7, h8, h9⟩, hf⟩ := hH
  rw [he] at he1; cases he1
  refine ⟨⟨F, ⟨ob, ws, tb, otb, tvs, he, h1, h2, h3, h4, h5, h6, h7, h8, h9⟩, hf⟩, fun p hp => ?_, fun ob' vs' tb' e1 e2 e3 p hp => ?_⟩
  · rcases List.mem_cons.mp hp with rfl | hp
    · refine ⟨he, fun q => ?_, hf⟩
      obtain ⟨oL, es, ep, hL, hLd, _⟩ := F.ns
      have q' : e = L := q
      rw [q', hL] at he; cases he; rw [hLd] at hd; cases hd
    · exact N p hp
  · rcases List.mem_cons.mp hp with rfl | hp
    · rw [he] at e1; cases e1
      rw [h2] at e2; cases e2
      rw [h3] at e3; cases e3
      exact Ne.symm h8
    · exact ap ob' vs' tb' e1 e2 e3 p hp
end
end Mine
end
section
open PySem PySem.W PyProof.Rows PySem.Calls
set_option maxRecDepth 100000
namespace Mine
/-- an exception and its traceback, as they stand in the ledger -/
def ExcIn (X : String) (c t : Value) (e T : Addr) (ob oT : Obj) (fl : Value) (news : List (Addr × Obj)) : Prop :=
  ob.cls = .type X ∧ ob.data = .fields #[t, .ref T, c, .none, .bool false, .none] ∧ (∃ ts, oT.data = .fields ts ∧ ts[3]? = some fl) ∧ T ≠ e ∧ ∀ p ∈ news, p.1 ≠ T
section
variable {prog : Program} {w : World} {A : Around} {E : Value → Shared → Prop} {s' : Shared} {hb h : Heap} {L e : Addr} {m : Str → Option Value} {name : Str} {scope : Scope} {a : Addr} {cd : Value} {X : String} {news : List (Addr × Obj)} {c t fl : Value} {T : Addr} {ob oT : Obj}
theorem exc_in (H : TT.HeldNA hb L h m e X news fl) (hob : h.get? e = some ob) (hd : ob.data = .fields #[t, .ref T, c, .none, .bool false, .none]) : ∃ oT, News hb L h ((e, ob) :: (T, oT) :: news) ∧ ExcIn X c t e T ob oT fl news := by
  obtain ⟨N, ap⟩ := (⟨(held_in H hob hd).made, H.apart⟩ : _ ∧ _)
  obtain ⟨_, ⟨o, ws, tb, otb, tvs, he1, h1, h2, h3, h4, h5, h6, h7, h8, h9⟩, hf⟩ := H.held
  rw [hob] at he1; cases he1
  rw [hd] at h2; cases h2
  have h3' : some (Value.ref T) = some (.ref tb) := h3
  cases h3'
  refine ⟨otb, fun p hp => ?_, h1, hd, ⟨tvs, h5, h6⟩, h8, ap _ _ _ hob hd rfl⟩
  rcases List.mem_cons.mp hp with rfl | hp
  · exact N _ (.head _)
  · rcases List.mem_cons.mp hp with rfl | hp
    · exact ⟨h4, h7, h9⟩
    · exact N _ (.tail _ hp)
theorem held_sub {n2 : List (Addr × Obj)} (H : TT.HeldNA hb L h m e X news fl) (hs : ∀ p ∈ n2, p ∈ news) : TT.HeldNA hb L h m e X n2 fl := ⟨H.held, fun p hp => H.made p (hs p hp), fun ob vs tb e1 e2 e3 p hp => H.apart ob vs tb e1 e2 e3 p (hs p hp)⟩
theorem exc_out (F : Fr hb L h m) (N : News hb L h ((e, ob) :: (T, oT) :: news)) (x : ExcIn X c t e T ob oT fl news) : TT.HeldNA hb L h m e X news fl := by
  obtain ⟨h1, hd, ⟨ts, h5, h6⟩, h8, ap⟩ := x
  obtain ⟨n1, n2, n3⟩ := N (e, ob) (.head _)
  obtain ⟨m1, m2, m3⟩ := N (T, oT) (.tail _ (.head _))
  refine ⟨⟨F, ⟨ob, _, T, oT, ts, n1, h1, hd, rfl, m1, h5, h6, m2, h8, m3⟩, n3⟩, fun p hp => N p (.tail _ (.tail _ hp)), fun ob' vs' tb' e1 e2 e3 p hp => ?_⟩
  have n1' : h.get? e = some ob := n1
  rw [n1'] at e1; cases e1
  rw [hd] at e2; cases e2
  have e3' : some (Value.ref T) = some (.ref tb') := e3
  cases e3'
  exact ap p hp
theorem held_again {Q : Unit → Shared → Prop} (H : TT.HeldN hb L s'.heap m e X news) (h : Q () s') : wpAny (model prog w) A (noteFrame (.ref e) (envOf name scope L a cd)) Q E s' := by
  obtain ⟨F, ⟨ob, vs, tb, otb, tvs, he, hcls, hd, h1, htb, htd, h3, htbL, htbe, htb0⟩, hf⟩ := H.held
  unfold noteFrame
  simp only [show (envOf name scope L a cd).frame = some L from rfl]
  refine wpAny_bind (wpAny_field he hd h1 ?_)
  rw [if_pos (show (Value.ref tb != Value.none) = true from by simp)]
  refine wpAny_bind (wpAny_field htb htd h3 ?_)
  rw [if_pos (by simp)]
  exact wpAny_pure h
theorem flight_on {Q : Unit → Shared → Prop} (H : TT.HeldNA hb L s'.heap m e X news fl) (k : ∀ h', TT.HeldN hb L h' m e X news → Q () { s' with heap := h' }) : wpAny (model prog w) A (setFlight (.ref e) (some L)) Q E s' := by
  obtain ⟨⟨F, ⟨ob, vs, tb, otb, tvs, he, hcls, hd, h1, htb, htd, h3, htbL, htbe, htb0⟩, hf⟩, N, hap⟩ := H
  have hsz : 3 < tvs.size := (Array.getElem?_eq_some_iff.mp h3).1
  have other : ∀ b, b ≠ tb → (s'.heap.update tb (Obj.mapFields (·.setIfInBounds 3 ((some L).elim Value.none fun f => rawInt f)))).get? b = s'.heap.get? b := fun b hb => Heap.get?_update_other _ _ (Ne.symm hb)
  unfold setFlight
  refine wpAny_bind (wpAny_field he hd h1 ?_)
  rw [if_pos (show (Value.ref tb != Value.none) = true from by simp)]
  refine wpAny_setField htb htd hsz (k _ ⟨⟨⟨?_, fun b o hb => (other b fun q => by rw [q, htb0] at hb; cases hb).trans (F.keep b o hb), F.above⟩, ⟨ob, vs, tb, _, _, (other e htbe.symm).trans he, hcls, hd, h1,
    Heap.get?_update_self _ htb (Obj.isFreed_of_fields (Obj.data_mapFields htd _)), Obj.data_mapFields htd _, by simp [hsz], htbL, htbe, htb0⟩, hf⟩, fun p hp => ⟨(other _ (hap ob vs tb he hd h1 p hp)).trans (N p hp).1, (N p hp).2⟩, ?_⟩)
  · obtain ⟨oL, es, ep, hL, r⟩ := F.ns
    exact ⟨oL, es, ep, (other L (Ne.symm htbL)).trans hL, r⟩
  · intro ob' vs' tb' e1 e2 e3 p hp
    rw [other e htbe.symm, he] at e1; cases e1
    exact hap ob vs' tb' he e2 e3 p hp
theorem came_back {P : Value → Shared → Prop} {E0 : Value → Shared → Prop} {A' : Around} (H : TT.HeldNA hb L s'.heap m e X news fl) (k : ∀ h', TT.HeldN hb L h' m e X news → P (.ref e) { s' with heap := h' }) :
    cameBackBy (model prog w) A (envOf name scope L a cd) (fun x s₁ => wpAny (model prog w) A' (noteFrame x (envOf name scope L a cd)) (fun _ s₂ => P x s₂) E0 s₁) (.ref e) s' := by
  obtain ⟨F, ⟨ob, vs, tb, otb, tvs, he, hcls, hd, h1, _⟩, _⟩ := H.held
  unfold cameBackBy
  refine wpAny_bind (wpAny_field he hd h1 ?_)
  rw [if_neg (show ¬ ((Value.ref tb == Value.none) = true) from by simp)]
  have z : wpAny (model prog w) A (setFlight (.ref e) (some L)) (fun _ s'' => wpAny (model prog w) A' (noteFrame (.ref e) (envOf name scope L a cd)) (fun _ s₂ => P (.ref e) s₂) E0 s'') _ s' := flight_on (E := fun x s₁ => wpAny (model prog w) A' (noteFrame x (envOf name scope L a cd)) (fun _ s₂ => P x s₂) E0 s₁) H fun h' H' => held_again H' (k h' H')
  first
    | exact z
    | exact wpAny_bind (wpAny_pure z)
theorem pass_on {P : Value → Shared → Prop} {E0 : Value → Shared → Prop} {A' : Around} {Q : Flow → Shared → Prop} (H : TT.HeldNA hb L s'.heap m e X news fl) (k : ∀ h', TT.HeldN hb L h' m e X news → P (.ref e) { s' with heap := h' }) :
    wpAny (model prog w) A (passOn "try.finally" (.ref e) (envOf name scope L a cd)) Q (fun x s₁ => wpAny (model prog w) A' (noteFrame x (envOf name scope L a cd)) (fun _ s₂ => P x s₂) E0 s₁) s' := by
  obtain ⟨F, ⟨ob, vs, tb, otb, tvs, he, hcls, hd, h1, _⟩, _⟩ := H.held
  unfold PySem.passOn
  refine wpAny_bind (wpAny_field he hd h1 ?_)
  rw [if_neg (show ¬ ((Value.ref tb == Value.none) = true) from by simp)]
  first
    | exact wpAny_bind (flight_on H fun h' H' => wpAny_throw (held_again H' (k h' H')))
    | exact wpAny_bind (wpAny_pure (wpAny_bind (flight_on H fun h' H' => wpAny_throw (held_again H' (k h' H')))))
theorem fin_raised {f₀ : Stmt} {fs : List Stmt} {Q : Flow → Shared → Prop} (H : TT.HeldN hb L s'.heap m e X news) (hob : ∃ ob, s'.heap.get? e = some ob ∧ ob.data = .fields #[t, .ref T, c, .none, .bool false, .none])
    (k : ∀ h' ob oT, Fr hb L h' m → News hb L h' ((e, ob) :: (T, oT) :: news) → ExcIn X c t e T ob oT .none news → wpAny (model prog w) (A.mark (some (.ref e))) (execs (f₀ :: fs) (envOf name scope L a cd)) (fun g s₂ => match g with
      | .next => wpAny (model prog w) A (passOn "try.finally" (.ref e) (envOf name scope L a cd)) Q E s₂
      | g => wpAny (model prog w) A (setFlight (.ref e) none) (fun _ s₃ => Q g s₃) E s₂) (notedBy (model prog w) (A.mark (some (.ref e))) (envOf name scope L a cd) (cameBackBy (model prog w) A (envOf name scope L a cd) E)) { s' with heap := h' }) :
    FinallyRaised prog w A E (envOf name scope L a cd) (f₀ :: fs) Q (.ref e) s' := by
  obtain ⟨ob, hob, hd⟩ := hob
  refine ⟨ref_ne_byPass _, held_again H ?_⟩
  refine TT.HeldNA.land (held_in H hob hd) fun h' H' => ?_
  have hob' := (H'.made (e, ob) (.head _)).1
  have H2 : TT.HeldNA hb L h' m e X news .none := ⟨H'.held, fun p hp => H'.made p (.tail _ hp), fun ob vs tb e1 e2 e3 p hp => H'.apart ob vs tb e1 e2 e3 p (.tail _ hp)⟩
  obtain ⟨oT, N, x⟩ := exc_in H2 hob' hd
  exact k h' ob oT H2.held.fr N x
end
end Mine
end
section
open PySem PySem.W PyProof.Rows PySem.Calls PyProof.Rows.LCg
set_option maxRecDepth 100000
namespace Mine
/-- the caller's frame may be marked by an exception: it keeps all but its marks -/
def CallsS (w : World) (f : Addr) (vals : List Value) (lv : Nat) (pre : Heap → Prop) (post : Heap → Value → Heap → Prop) : Prop :=
  ∀ (loose : List Str) (mean : ExcName → Option Value) (mg mb : Str → Option Value) (dp un : Nat) (gd : Option (List Code)) (env1 : Env) (L1 : Addr) (oL : Obj) (s : Shared) (Q E : Value → Shared → Prop),
    (Mine.hd.heap_1 w.params).In (hideAll s.heap [L1]) → Top topProg loose mean mg mb (hideAll s.heap [L1]) → TI.Frs [env1] [(L1, oL)] → s.heap.get? L1 = some oL →
    dp + lv < recursionLimit → un + 8 * lv < cLine → pre (hideAll s.heap [L1]) →
    (∀ v h' tk', (∀ b o, b ≠ L1 → s.heap.get? b = some o → h'.get? b = some o) → (∃ sl, h'.get? L1 = some { oL with slots := sl }) → post s.heap v h' → Q v { s with heap := h', toks := tk' }) →
    wpAny (model PySem.Challenge.rw_rt0087_01.row.prog w) (AA dp un gd [env1]) (call (.ref f) vals) Q E s
def dup (xs : List Str) : List Str := xs.flatMap fun x => [x, x]
/-- what is left over on both sides -/
inductive SldR : List Str → List Str → List Str → List Str → Prop
  | ltE (e a as) : sLt e a = true → SldR [e] (a :: as) [e] (dup (a :: as))
  | lt (e e' es a as m u) : sLt e a = true → SldR (e' :: es) (a :: as) m u → SldR (e :: e' :: es) (a :: as) (e :: m) u
  | gtE (e es a) : sLt e a = false → sLt a e = true → SldR (e :: es) [a] (dup (e :: es)) [a]
  | gt (e es a a' as m u) : sLt e a = false → sLt a e = true → SldR (e :: es) (a' :: as) m u → SldR (e :: es) (a :: a' :: as) m (a :: u)
  | eqE (e as) : SldR [e] (e :: as) [] (dup as)
  | eqA (e e' es) : SldR (e :: e' :: es) [e] (dup (e' :: es)) []
  | eq (e e' es a' as m u) : SldR (e' :: es) (a' :: as) m u → SldR (e :: e' :: es) (e :: a' :: as) m u
section
variable {prog : Program} {w : World} {A : Around} {E : Value → Shared → Prop} {s : Shared} {Q : Value → Shared → Prop} {p : Program} {K : Frag} {loose : List Str} {mean : ExcName → Option Value} {mg mb : Str → Option Value}
theorem enterS {X : List Addr} {led : List (Addr × Obj)} {name qual : Str} {params : Arguments} {body : List Stmt} {scope : Scope} {dV kV doc pm cdv ct oc : Value} {an od : Option Addr} {osl : Array (Option Value)} {f : Addr} {vals : List Value} {binds : List (Str × Value)}
    (XK : K.In (hideAll s.heap X)) (T : Top p loose mean mg mb (hideAll s.heap X)) (hl : LedAt s.heap X led)
    (ho : K.lookup f = some ⟨oc, od, .func (fnOf name qual params body scope dV kV doc pm an cdv ct), osl⟩) (hcd : codeIn K cdv qual = true) (hroom : A.depth < recursionLimit)
    (hbind : BindsTo s (fnOf name qual params body scope dV kV doc pm an cdv ct) ⟨vals, []⟩ binds) (hloc : ∀ y ∈ binds, scope.names.lookup y.1 = some .local)
    (h : ∀ L h₁, Fr (hideAll s.heap X) L h₁ (fun y => binds.reverse.lookup y) → News (hideAll s.heap X) L h₁ led → (∀ p ∈ led, p.1 < L) →
      wpAny (model prog w) (A.deeper (envOf qual scope L f cdv)) (execs body (envOf qual scope L f cdv))
        (fun fl s' => Q (match fl with | .ret v => v | _ => .none) s')
        (fun e s' => wpAny (model prog w) (A.deeper (envOf qual scope L f cdv)) (leaving (envOf qual scope L f cdv) e) (fun _ s'' => E e s'') (fun e' s'' => E e' s'') s')
        { s with heap := h₁, toks := s.toks + binds.length })
    (hco : scope.isCoroutine = false) (hgen : scope.isGenerator = false) (hk : scope.kind = .function)
    (hcell : ∀ x ∈ scope.names, x.2 ≠ .cell) : wpAny (model prog w) A (call (.ref f) vals) Q E s := by
  refine wpAny_call ?_
  have st : (hideAll s.heap X).StaysIn s.heap := fun b o e => of_hideAll _ e
  refine codeAny_call_def (fd := fnOf name qual params body scope dV kV doc pm an cdv ct) (body := body) (binds := binds) hroom (st _ _ (XK _ _ ho)) rfl (T.nolimit.keeps st) (codeRec_of (XK.keeps st) hcd) rfl hbind hcell hloc (fun h₁ hns hk₁ => ?_) hco hgen hk
  exact h _ h₁ ⟨hns, fun b o e => hk₁ b o (of_hideAll _ e), Nat.le_of_eq (hideAll_size _ _)⟩
    (fun p hp => ⟨hk₁ _ _ (hl p hp).1, Nat.ne_of_lt (Heap.lt_size (hl p hp).1), hideAll_none _ (hl p hp).2⟩) (fun p hp => Heap.lt_size (hl p hp).1)
end
section
variable {prog : Program} {w : World} {A : Around} {E : Value → Shared → Prop} {s : Shared} {Q : Value → Shared → Prop}
theorem item_in {value slice : Expr} {a : Addr} {V : List Value} {ys : List Str} {k : Nat} {x : Str} {u : Tok} {kk : Int} (hkk : kk = (k : Int)) (hl : s.heap.IsList a V.toArray) (hV : StrsAre V ys) (hk : ys[k]? = some x) (hz : ys.length ≤ 1000) (h : ∀ t, Q (.str x t) s)
    (hs : subscripted slice false (.ref a) (.int kk u) = operate [.ref a, .int k u] (getItem (.ref a) (.int kk u)) := by with_unfolding_all rfl) (hg : ∀ r, letTemporaryGo value (.ref a) r = pure () := by intro _; with_unfolding_all rfl) :
    wpAny (model prog w) A (subscriptTail value slice (.ref a) (.int kk u)) Q E s := by
  subst hkk
  obtain ⟨hlt, e⟩ := List.getElem?_eq_some_iff.mp hk
  have e2 : ys.getD ((k : Int)).toNat Str.empty = x := by simp [List.getD, hk]
  exact item_strsA hl hV (by (first | lia | omega)) (by (first | lia | omega)) (by (first | lia | omega)) (by rw [e2]; exact h) hs hg
theorem pick_from {vs : List Value} {x : Int} {k : Nat} (hx : x = (k : Int)) : slicePick vs.toArray (some x) none none = (vs.drop k).toArray := by
  subst hx
  have e : sliceBounds (some (k : Int)) none none vs.toArray.size = (((min k vs.toArray.size : Nat) : Int), ((vs.toArray.size : Nat) : Int), 1) := by
    simp only [sliceBounds, Option.getD_none, show (1 : Int) > 0 by decide, if_true, if_neg (show ¬ ((k : Int) < 0) by (first | lia | omega))]
    congr 1
    (first | lia | omega)
  rw [kmk_pick_nat _ e]
  show ((vs.drop (min k vs.toArray.size)).take (vs.toArray.size - min k vs.toArray.size)).toArray = _
  rw [List.size_toArray, kmk_drop_min, List.take_of_length_le (by rw [List.length_drop]; (first | lia | omega))]
theorem item_out {value slice : Expr} {a : Addr} {V : List Value} {ys : List Str} {k : Nat} {u : Tok} {kk : Int} (hkk : kk = (k : Int)) (hA : A.handled = none) (hl : s.heap.IsList a V.toArray) (hV : StrsAre V ys) (hk : ys.length ≤ k) (hz : k ≤ 1000) (h : ∀ h' tk e, Heap.NewExc s.heap h' e "IndexError" → E (.ref e) { s with heap := h', toks := tk })
    (hs : subscripted slice false (.ref a) (.int kk u) = operate [.ref a, .int k u] (getItem (.ref a) (.int kk u)) := by with_unfolding_all rfl) (hg : ∀ r, letTemporaryGo value (.ref a) r = pure () := by intro _; with_unfolding_all rfl) :
    wpAny (model prog w) A (subscriptTail value slice (.ref a) (.int kk u)) Q E s := by
  subst hkk
  exact subscriptTail_builtin hl.typeIs slot_list_getitem.lookup (wpAny_getItem_list_out hA hl (by rw [List.size_toArray, hV.len_eq]; (first | lia | omega)) (by (first | lia | omega)) (by (first | lia | omega)) h) hs hg
theorem item_outC {value slice : Expr} {a : Addr} {V : List Value} {ys : List Str} {k : Nat} {u : Tok} {kk : Int} {e1 : Addr} {o1 : Obj} {vs : Array Value} (hkk : kk = (k : Int)) (hh : A.handled = some (.ref e1)) (he : s.heap.get? e1 = some o1) (hd1 : o1.data = .fields vs) (h2 : vs[2]? = some .none)
    (hl : s.heap.IsList a V.toArray) (hV : StrsAre V ys) (hk : ys.length ≤ k) (hz : k ≤ 1000) (h : ∀ h' tk e, NewCtx s.heap h' e "IndexError" (.ref e1) → E (.ref e) { s with heap := h', toks := tk })
    (hs : subscripted slice false (.ref a) (.int kk u) = operate [.ref a, .int k u] (getItem (.ref a) (.int kk u)) := by with_unfolding_all rfl) (hg : ∀ r, letTemporaryGo value (.ref a) r = pure () := by intro _; with_unfolding_all rfl) :
    wpAny (model prog w) A (subscriptTail value slice (.ref a) (.int kk u)) Q E s := by
  subst hkk
  exact subscriptTail_builtin hl.typeIs slot_list_getitem.lookup (getItem_list_outC hh he hd1 h2 hl rfl (by rw [List.size_toArray, hV.len_eq]; exact hk) hz h) hs hg
end
theorem SldR.ne {es as m u : List Str} (h : SldR es as m u) : ∃ e er a ar, es = e :: er ∧ as = a :: ar := by
  cases h <;> exact ⟨_, _, _, _, rfl, rfl⟩
theorem sLt_irr (x : Str) : sLt x x = false := decide_eq_false (List.lt_irrefl _)
/-- how two rests stand to each other -/
inductive SldStep (e : Str) (er : List Str) (a : Str) (ar m u : List Str) : Prop
  | ltE (h : sLt e a = true) (h1 : er = []) (h2 : m = [e]) (h3 : u = dup (a :: ar)) : SldStep e er a ar m u
  | lt (e' : Str) (es m' : List Str) (h : sLt e a = true) (h1 : er = e' :: es) (h2 : m = e :: m') (r : SldR (e' :: es) (a :: ar) m' u) : SldStep e er a ar m u
  | gtE (h0 : sLt e a = false) (h : sLt a e = true) (h1 : ar = []) (h2 : m = dup (e :: er)) (h3 : u = [a]) : SldStep e er a ar m u
  | gt (a' : Str) (as u' : List Str) (h0 : sLt e a = false) (h : sLt a e = true) (h1 : ar = a' :: as) (h2 : u = a :: u') (r : SldR (e :: er) (a' :: as) m u') : SldStep e er a ar m u
  | eqE (h : e = a) (h1 : er = []) (h2 : m = []) (h3 : u = dup ar) : SldStep e er a ar m u
  | eqA (h : e = a) (e' : Str) (es : List Str) (h1 : er = e' :: es) (h2 : ar = []) (h3 : m = dup (e' :: es)) (h4 : u = []) : SldStep e er a ar m u
  | eq (h : e = a) (e' : Str) (es : List Str) (a' : Str) (as : List Str) (h1 : er = e' :: es) (h2 : ar = a' :: as) (r : SldR (e' :: es) (a' :: as) m u) : SldStep e er a ar m u
theorem SldR.inv {e : Str} {er : List Str} {a : Str} {ar m u : List Str} (h : SldR (e :: er) (a :: ar) m u) : SldStep e er a ar m u := by
  cases h with
  | ltE _ _ _ h => exact .ltE h rfl rfl rfl
  | lt _ _ _ _ _ _ _ h r => exact .lt _ _ _ h rfl rfl r
  | gtE _ _ _ h0 h => exact .gtE h0 h rfl rfl rfl
  | gt _ _ _ _ _ _ _ h0 h r => exact .gt _ _ _ h0 h rfl rfl r
  | eqE => exact .eqE rfl rfl rfl rfl
  | eqA => exact .eqA rfl _ _ rfl rfl rfl rfl
  | eq _ _ _ _ _ _ _ r => exact .eq rfl _ _ _ _ rfl rfl r
theorem sLt_ne {x y : Str} (h : sLt x y = true) : x ≠ y := fun q => by rw [q, sLt_irr] at h; cases h
theorem no_bool {P : Prop} {b : Bool} (h : b = true) (h0 : b = false) : P := absurd (h0.symm.trans h) Bool.false_ne_true
theorem SldR.inv_lt {e : Str} {er : List Str} {a : Str} {ar m u : List Str} (h : SldR (e :: er) (a :: ar) m u) (hl : sLt e a = true) : (er = [] ∧ m = [e] ∧ u = dup (a :: ar)) ∨ ∃ e' es m', er = e' :: es ∧ m = e :: m' ∧ SldR (e' :: es) (a :: ar) m' u :=
  match h.inv with
  | .ltE _ h1 h2 h3 => .inl ⟨h1, h2, h3⟩
  | .lt e' es m' _ h1 h2 r => .inr ⟨e', es, m', h1, h2, r⟩
  | .gtE h0 .. => no_bool hl h0
  | .gt _ _ _ h0 .. => no_bool hl h0
  | .eqE h .. => absurd h (sLt_ne hl)
  | .eqA h .. => absurd h (sLt_ne hl)
  | .eq h .. => absurd h (sLt_ne hl)
theorem SldR.inv_gt {e : Str} {er : List Str} {a : Str} {ar m u : List Str} (h : SldR (e :: er) (a :: ar) m u) (h0 : sLt e a = false) (hl : sLt a e = true) : (ar = [] ∧ m = dup (e :: er) ∧ u = [a]) ∨ ∃ a' as u', ar = a' :: as ∧ u = a :: u' ∧ SldR (e :: er) (a' :: as) m u' :=
  match h.inv with
  | .gtE _ _ h1 h2 h3 => .inl ⟨h1, h2, h3⟩
  | .gt a' as u' _ _ h1 h2 r => .inr ⟨a', as, u', h1, h2, r⟩
  | .ltE h .. => no_bool h h0
  | .lt _ _ _ h .. => no_bool h h0
  | .eqE h .. => absurd h.symm (sLt_ne hl)
  | .eqA h .. => absurd h.symm (sLt_ne hl)
  | .eq h .. => absurd h.symm (sLt_ne hl)
theorem SldR.inv_eq {e : Str} {er : List Str} {a : Str} {ar m u : List Str} (h : SldR (e :: er) (a :: ar) m u) (h0 : sLt e a = false) (hl : sLt a e = false) :
    e = a ∧ ((er = [] ∧ m = [] ∧ u = dup ar) ∨ (∃ e' es, er = e' :: es ∧ ar = [] ∧ m = dup (e' :: es) ∧ u = []) ∨ ∃ e' es a' as, er = e' :: es ∧ ar = a' :: as ∧ SldR (e' :: es) (a' :: as) m u) :=
  match h.inv with
  | .eqE h h1 h2 h3 => ⟨h, .inl ⟨h1, h2, h3⟩⟩
  | .eqA h e' es h1 h2 h3 h4 => ⟨h, .inr (.inl ⟨e', es, h1, h2, h3, h4⟩)⟩
  | .eq h e' es a' as h1 h2 r => ⟨h, .inr (.inr ⟨e', es, a', as, h1, h2, r⟩)⟩
  | .ltE h .. => no_bool h h0
  | .lt _ _ _ h .. => no_bool h h0
  | .gtE _ h .. => no_bool h hl
  | .gt _ _ _ _ h .. => no_bool h hl
theorem dup_len : ∀ (xs : List Str), (dup xs).length = 2 * xs.length
  | [] => rfl
  | x :: xs => by
    have := dup_len xs
    unfold dup at this ⊢
    rw [List.flatMap_cons, List.length_append, this, List.length_cons]
    simp; (first | lia | omega)
theorem dup_cons (x : Str) (xs : List Str) : dup (x :: xs) = x :: x :: dup xs := by unfold dup; rw [List.flatMap_cons]; rfl
theorem dup_drop : ∀ (k : Nat) (xs : List Str), (dup xs).drop (2 * k) = dup (xs.drop k)
  | 0, xs => rfl
  | k + 1, [] => by simp [dup]
  | k + 1, x :: xs => by
    rw [dup_cons, show 2 * (k + 1) = 2 * k + 1 + 1 from by (first | lia | omega), List.drop_succ_cons, List.drop_succ_cons, List.drop_succ_cons]
    exact dup_drop k xs
theorem dup_at {xs : List Str} {k : Nat} {e : Str} {er : List Str} (h : xs.drop k = e :: er) : (dup xs)[2 * k]? = some e ∧ (dup xs)[2 * k + 1]? = some e := by
  have z := dup_drop k xs
  rw [h, dup_cons] at z
  constructor
  · have : ((dup xs).drop (2 * k))[0]? = some e := by rw [z]; rfl
    simpa using this
  · have : ((dup xs).drop (2 * k))[1]? = some e := by rw [z]; rfl
    simpa using this
def sldMap (l1 l2 M U : Addr) (i j : Int) (ti tj : Tok) (eo ao : Option Value) (y : Str) : Option Value :=
  if y = Str.ofString "e" then eo else if y = Str.ofString "a" then ao else if y = Str.ofString "unexpected" then some (.ref U) else if y = Str.ofString "missing" then some (.ref M)
  else if y = Str.ofString "j" then some (.int j tj) else if y = Str.ofString "i" then some (.int i ti) else if y = Str.ofString "expected" then some (.ref l1) else if y = Str.ofString "actual" then some (.ref l2) else none
theorem sldMap0 {l1 l2 M U : Addr} {ti tj : Tok} : (fun y => if y = Str.ofString "unexpected" then some (Value.ref U) else if y = Str.ofString "missing" then some (Value.ref M) else if y = Str.ofString "j" then some (Value.int 0 tj) else if y = Str.ofString "i" then some (Value.int 0 ti)
    else List.lookup y [(Str.ofString "expected", Value.ref l1), (Str.ofString "actual", Value.ref l2)].reverse) = sldMap l1 l2 M U ((2 * 0 : Nat) : Int) ((2 * 0 : Nat) : Int) ti tj none none := by
  funext y
  unfold sldMap
  by_cases q1 : y = Str.ofString "e"
  · subst q1; rfl
  by_cases q2 : y = Str.ofString "a"
  · subst q2; rfl
  by_cases q3 : y = Str.ofString "unexpected"
  · subst q3; rfl
  by_cases q4 : y = Str.ofString "missing"
  · subst q4; rfl
  by_cases q5 : y = Str.ofString "j"
  · subst q5; rfl
  by_cases q6 : y = Str.ofString "i"
  · subst q6; rfl
  by_cases q7 : y = Str.ofString "expected"
  · subst q7; rfl
  by_cases q8 : y = Str.ofString "actual"
  · subst q8; rfl
  have e7 : (y == Str.ofString "expected") = false := beq_eq_false_iff_ne.mpr q7
  have e8 : (y == Str.ofString "actual") = false := beq_eq_false_iff_ne.mpr q8
  simp only [q1, q2, q3, q4, q5, q6, q7, q8, if_false, List.reverse_cons, List.reverse_nil, List.nil_append, List.cons_append, List.lookup, e7, e8]
theorem dup_at2 {xs : List Str} {k : Nat} {e : Str} {er : List Str} (h : xs.drop k = e :: er) : (dup xs).drop (2 * k + 2) = dup er := by
  have := dup_drop (k + 1) xs
  rw [← List.drop_drop, h] at this
  exact this
theorem drop_two {xs : List Str} {k : Nat} {e : Str} {er : List Str} (h : xs.drop k = e :: er) : xs.drop (k + 1) = er := by rw [← List.drop_drop, h]; rfl
theorem drop_len {xs : List Str} {k : Nat} {er : List Str} (h : xs.drop k = er) : xs.length - k = er.length := by rw [← h, List.length_drop]
theorem drop_ne {xs : List Str} {k : Nat} {e e' : Str} {er : List Str} (nd : xs.Nodup) (h : xs.drop k = e :: e' :: er) : (e' == e) = false := by
  have := nd.sublist (List.drop_sublist k xs)
  rw [h] at this
  simp only [List.nodup_cons, List.mem_cons, not_or] at this
  exact beq_eq_false_iff_ne.mpr (Ne.symm this.1.1)
section
variable {l1 l2 M U : Addr} {i j x : Int} {ti tj u : Tok} {eo ao : Option Value} {v : Value} {y : Str}
theorem sm_e : (if y = Str.ofString "e" then some v else sldMap l1 l2 M U i j ti tj eo ao y) = sldMap l1 l2 M U i j ti tj (some v) ao y := by
  by_cases q : y = Str.ofString "e"
  · subst q; rfl
  · unfold sldMap; simp only [if_neg q]
theorem sm_a : (if y = Str.ofString "a" then some v else sldMap l1 l2 M U i j ti tj eo ao y) = sldMap l1 l2 M U i j ti tj eo (some v) y := by
  by_cases q : y = Str.ofString "a"
  · subst q; rfl
  · unfold sldMap; simp only [if_neg q]
theorem sm_i : (if y = Str.ofString "i" then some (.int x u) else sldMap l1 l2 M U i j ti tj eo ao y) = sldMap l1 l2 M U x j u tj eo ao y := by
  by_cases q : y = Str.ofString "i"
  · subst q; rfl
  · unfold sldMap; simp only [if_neg q]
theorem sm_j : (if y = Str.ofString "j" then some (.int x u) else sldMap l1 l2 M U i j ti tj eo ao y) = sldMap l1 l2 M U i x ti u eo ao y := by
  by_cases q : y = Str.ofString "j"
  · subst q; rfl
  · unfold sldMap; simp only [if_neg q]
theorem c2 (k : Nat) : (k : Int) + 1 + 1 = ((k + 2 : Nat) : Int) := rfl
theorem c1 (k : Nat) : (k : Int) + 1 = ((k + 1 : Nat) : Int) := rfl
end
inductive SldI (sh : Shared) (L1 L l1 l2 M U : Addr) (oL : Obj) (ee aa mm uu : List Str) (k : Nat) (s : Shared) : Prop
  | mk (pe : Nat) (pa : Nat) (ms : List Str) (us : List Str) (Mv : List Value) (Uv : List Value) (nM : Nat) (nU : Nat) (h : Heap) (tk : Nat) (ti : Tok) (tj : Tok) (eo : Option Value) (ao : Option Value) (m : List Str) (u : List Str) (f0 : s = { sh with heap := h, toks := tk }) (f1 : k = (ee.length - pe) + (aa.length - pa)) (f2 : StrsAre Mv ms) (f3 : StrsAre Uv us) (f4 : ms.length ≤ pe) (f5 : us.length ≤ pa) (f6 : SldR (ee.drop pe) (aa.drop pa) m u) (f7 : ms ++ m = mm) (f8 : us ++ u = uu) (f9 : Fr (hideAll sh.heap [L1]) L h (sldMap l1 l2 M U ((2 * pe : Nat) : Int) ((2 * pa : Nat) : Int) ti tj eo ao)) (f10 : News (hideAll sh.heap [L1]) L h [(U, PySem.W.listOf Uv.toArray nU), (M, PySem.W.listOf Mv.toArray nM), (L1, oL)]) : SldI sh L1 L l1 l2 M U oL ee aa mm uu k s
theorem none_hid {h : Heap} {L1 b : Addr} (x : (hideAll h [L1]).get? b = none) (ne : b ≠ L1) : h.get? b = none := by
  cases q : h.get? b with
  | none => rfl
  | some o => rw [hideAll_get [L1] q (by simpa using ne)] at x; cases x
theorem strs_drop : ∀ {vs : List Value} {xs : List Str} (k : Nat), StrsAre vs xs → StrsAre (vs.drop k) (xs.drop k)
  | _, _, 0, h => h
  | _, _, _ + 1, .nil => .nil
  | _, _, k + 1, .cons _ _ h => strs_drop k h
/-- what both lists have alone, in a tuple of two new lists -/
inductive SldPost (mm uu : List Str) (h0 : Heap) (v : Value) (h : Heap) : Prop
  | mk (t M U : Addr) (Mv Uv : List Value) (nM nU : Nat) (e : v = .ref t) (ft : h0.get? t = none) (fM : h0.get? M = none) (fU : h0.get? U = none) (n1 : @Ne Nat M U) (n2 : @Ne Nat M t) (n3 : @Ne Nat U t) (gt : h.get? t = some (tupO #[Value.ref M, Value.ref U])) (gM : h.get? M = some (PySem.W.listOf Mv.toArray nM)) (gU : h.get? U = some (PySem.W.listOf Uv.toArray nU)) (sM : StrsAre Mv mm) (sU : StrsAre Uv uu) : SldPost mm uu h0 v h
/-- where a raise inside the try has come to, noted -/
inductive SldE (sh : Shared) (L1 L l1 l2 M U : Addr) (oL : Obj) (env1 : Env) (ee aa mm uu : List Str) (e : Value) (s : Shared) : Prop
  | mk (ex : Addr) (h : Heap) (tk : Nat) (i : Nat) (j : Nat) (ms : List Str) (us : List Str) (Mv : List Value) (Uv : List Value) (nM : Nat) (nU : Nat) (ti : Tok) (tj : Tok) (eo : Option Value) (ao : Option Value) (sl : Array (Option Value)) (f0 : e = .ref ex) (f1 : s = { sh with heap := h, toks := tk }) (f2 : StrsAre Mv ms) (f3 : StrsAre Uv us) (f4 : ms.length ≤ 100) (f5 : us.length ≤ 100) (f6 : i ≤ 100) (f7 : j ≤ 100) (f8 : ms ++ (dup ee).drop i = mm) (f9 : us ++ (dup aa).drop j = uu) (f10 : TI.Frs [env1] [(L1, { oL with slots := sl })]) (f11 : TT.HeldN (hideAll sh.heap [L1]) L h (sldMap l1 l2 M U i j ti tj eo ao) ex "IndexError" [(U, PySem.W.listOf Uv.toArray nU), (M, PySem.W.listOf Mv.toArray nM), (L1, { oL with slots := sl })]) : SldE sh L1 L l1 l2 M U oL env1 ee aa mm uu e s
section
variable {prog : Program} {w : World} {A : Around} {E : Value → Shared → Prop} {s : Shared} {env : Env}
/-- a try with one handler, cut where the exception has been noted -/
theorem try_cut {P : Value → Shared → Prop} {body : List Stmt} {h₀ : ExceptHandler} {hs : List ExceptHandler} {pos : Pos} {Q : Flow → Shared → Prop}
    (hb : wpAny (model prog w) A (execs body env) Q (fun e s₁ => wpAny (model prog w) A (noteFrame e env) (fun _ s₂ => P e s₂) E s₁) s)
    (hh : ∀ e s', P e s' → wpAny (model prog w) A (setFlight e none) (fun _ s₃ => wpAny (model prog w) A (handleBy e env (h₀ :: hs)) Q E s₃) E s') :
    wpAny (model prog w) A (exec (.Try body (h₀ :: hs) [] [] pos) env) Q E s := by
  refine wpAny_Try_except (wpAny_mono hb (fun f s₁ h => ?_) fun e s₁ h => wpAny_mono h (fun _ s₂ h₂ => hh e s₂ h₂) fun _ _ x => x)
  cases f with
  | next => exact wpAny_execs_nil h
  | cont => exact h
  | brk => exact h
  | ret v => exact h
end
end Mine
end
section
open PySem PySem.W PyProof.Rows PySem.Calls PyProof.Rows.LCg
set_option maxRecDepth 100000
namespace Mine
section
set_option maxHeartbeats 1000000 in
theorem sld_c {w : World} (l1 l2 : Addr) (V1 V2 : List Value) (ee aa : List Str) (h1 : StrsAre V1 (dup ee)) (h2 : StrsAre V2 (dup aa)) (mm uu : List Str) (hR : SldR ee aa mm uu) (nd1 : ee.Nodup) (nd2 : aa.Nodup) (z1 : ee.length ≤ 20) (z2 : aa.length ≤ 20) :
    CallsS w 183 [.ref l1, .ref l2] 20 (fun h => h.IsList l1 V1.toArray ∧ h.IsList l2 V2.toArray) (SldPost mm uu) := by
  w_top off
  k_with_none
  k_with "k_room" => (ktr_room)
  k_with "k_ne" => (first | exact offN (by assumption) (by k_mem) | exact Ne.symm (offN (by assumption) (by k_mem)) | (refine neN ?_; (try dsimp only); (first | lia | omega)))
  k_with "subscriptTail" => ((refine held (p := wpAny _ _ (subscriptTail _ _ _ _) _ _ _) ?_))
  k_with "exec" => ((refine held (p := wpAny _ _ (exec (.While _ _ _ _) _) _ _ _) ?_))
  k_with "noteFrame ref" => (((with_reducible rename Heap.NewExc _ _ _ _ => tiX'); k_dflt (tlg_noted tiX'); clear tiX'; intro _ _ _ tiH'; (try simp only [List.nil_append, List.cons_append] at tiH'); have tiHH' := TT.HeldNA.held tiH'; revert tiHH'; revert tiH'; intro _ _))
  k_with "exec Try" => ((refine held (p := wpAny _ _ (exec (.Try _ _ _ _ _) _) _ _ _) ?_))
  k_with "call builtin:list.extend" => ((refine held (p := wpAny _ _ (call _ _) _ _ _) ?_))
  k_with "exec Assign" => k_fold
  k_with "exec If" => k_fold
  k_with "exec AugAssign" => k_fold
  k_with "exec Expr" => k_fold
  k_with "exec While" => (first | (refine held (p := wpAny _ _ (exec (.While (.Constant _ _ _) _ _ _) _) _ _ _) ?_) | (refine whl_start 5 ?_))
  intro loose mean mg mb dp un gd env1 L1 oL s Q E X T Fs hL hd hu ⟨hp1, hp2⟩ ret
  revert X; k_fill; intro X
  have hl : LedAt s.heap [L1] [(L1, oL)] := fun p hp => by rw [List.mem_singleton.mp hp]; exact ⟨hL, .head _⟩
  refine' enterS (X := [L1]) (led := [(L1, oL)]) (binds := [(Str.ofString "expected", .ref l1), (Str.ofString "actual", .ref l2)]) (by assumption) (by assumption) hl ?k6 ?k7 ?k8 ?k9 ?kB ?_ ?c2 ?c3 ?c4 ?c5
  (case k6 => k_dflt k_is)
  (case k7 => k_dflt k_is)
  (case k8 => exact room0 hd)
  (case k9 => exact BindsTo.of_eq rfl)
  (case kB => exact locs (by rfl))
  (case c5 => decide)
  (case c2 => exact rfl); (case c3 => exact rfl); (case c4 => exact rfl)
  intro L h' F' N' l1'
  k_lt l1'
  try dsimp only
  try k_fold
  k_steps
  rename Fr _ _ _ _ => F1
  rename News _ _ _ _ => N1
  rename_i M hM lM hM2 tkM U hU lU hU2
  refine whl_start 100 ?_
  refine whl_inv (SldI s L1 L l1 l2 M U oL ee aa mm uu) ?hE ?turn (ee.length + aa.length) _ _ ?start
  case hE => first | passes_own | with_unfolding_all passes_own
  case start =>
    exact ⟨0, 0, [], [], [], [], 0, 0, _, _, _, _, none, none, mm, uu, rfl, by (first | lia | omega), .nil, .nil, Nat.le_refl _, Nat.le_refl _, by simpa using hR, rfl, rfl, fr_map F1 sldMap0, N1⟩
  case turn =>
    clear F1 N1
    rintro n s1 ⟨pe, pa, ms, us, Mv, Uv, nM, nU, h, tk, ti, tj, eo, ao, m, u, rfl, hk, hMv, hUv, hml, hul, hR1, hm, hu1, F1, N1⟩
    obtain ⟨e, er, a, ar, hE, hA⟩ := hR1.ne
    obtain ⟨ge0, ge1⟩ := dup_at hE
    obtain ⟨ga0, ga1⟩ := dup_at hA
    have hMl := hMv.len_eq
    have hUl := hUv.len_eq
    have hpe : pe < ee.length := by have := congrArg List.length hE; rw [List.length_drop, List.length_cons] at this; (first | lia | omega)
    have hpa : pa < aa.length := by have := congrArg List.length hA; rw [List.length_drop, List.length_cons] at this; (first | lia | omega)
    have le40 : (dup ee).length ≤ 1000 := by rw [dup_len]; (first | lia | omega)
    have la40 : (dup aa).length ≤ 1000 := by rw [dup_len]; (first | lia | omega)
    k_steps
    refine try_cut (P := SldE s L1 L l1 l2 M U oL env1 ee aa mm uu) ?tb ?th
    case th =>
      clear F1 N1 hR1 hE hA ge0 ge1 ga0 ga1 hMv hUv hml hul hm hu1 hMl hUl hk
      rintro e1 s1 ⟨ex, h, tk, i, j, ms, us, Mv, Uv, nM, nU, ti, tj, eo, ao, sl, rfl, rfl, hMv, hUv, hml, hul, hi, hj, hm, hu1, Fs, hH⟩
      k_steps
      refine wpAny_handleBy_builtin (X := "IndexError") (T := "IndexError") (b := true) (PyProof.Rows.isSubtype_of_subB (by decide +kernel)) (PyProof.Rows.isSubtype_of_subB (by decide +kernel)) (PyProof.Rows.isSubtype_of_subB (by decide +kernel)) ?_
      rename TT.HeldNA _ _ _ _ _ _ _ _ => hH
      have F8 := hH.held.fr
      k_steps
      · exact hH.isA
      · clear F8
        rename TT.HeldNA _ _ _ _ _ _ _ _ => hH
        have F8 := hH.held.fr
        have N8 := hH.made
        clear hH
        have lm := Heap.lt_size (N8 _ (.tail _ (.head _))).1
        have lu := Heap.lt_size (N8 _ (.head _)).1
        k_steps
        rename Fr _ _ _ _ => F9
        rename News _ _ _ _ => N9
        rw [pick_from (k := i) rfl] at N9
        refine extend_in (own := [_, _]) (D := M) F9 N9 ?_ ?_ (N9 _ (.head _)).1 (fun h' n' F10 N10 => ?_) ?_
        · intro p hp
          rcases List.mem_cons.mp hp with rfl | hp
          · exact Nat.ne_of_gt (Nat.lt_succ_of_lt lm)
          · rw [List.mem_singleton.mp hp]; exact Nat.ne_of_gt lU.1
        · intro p hp
          rw [List.mem_singleton.mp hp]; exact Nat.ne_of_lt lM
        · clear F9 N9 F8 N8
          simp only [List.cons_append, List.nil_append] at N10
          have lu2 := Heap.lt_size (N10 _ (.tail _ (.head _))).1
          have ls2 := Heap.lt_size (N10 _ (.head _)).1
          k_steps
          rename Fr _ _ _ _ => F9
          rename News _ _ _ _ => N9
          rw [pick_from (k := j) rfl] at N9
          refine extend_in (own := [_, _]) (D := U) F9 N9 ?_ ?_ (N9 _ (.head _)).1 (fun h' n' F11 N11 => ?_) ?_
          · intro p hp
            rcases List.mem_cons.mp hp with rfl | hp
            · exact Nat.ne_of_gt (Nat.lt_succ_of_lt lu2)
            · rw [List.mem_singleton.mp hp]; exact Nat.ne_of_gt (Nat.lt_succ_of_lt lu)
          · intro p hp
            rcases List.mem_cons.mp hp with rfl | hp
            · exact Nat.ne_of_lt lU.1
            · rw [List.mem_singleton.mp hp]; exact Nat.ne_of_lt lU.2
          · clear F9 N9 F10 N10
            simp only [List.cons_append, List.nil_append] at N11
            have lu3 := Heap.lt_size (N11 _ (.tail _ (.tail _ (.head _)))).1
            have lm3 := Heap.lt_size (N11 _ (.tail _ (.tail _ (.tail _ (.head _))))).1
            k_steps
            dsimp only [WhlInv]
            k_steps
            rename Fr _ _ _ _ => F12
            rename News _ _ _ _ => N12
            rename_i D12 _ l12
            have e1 : @Ne Nat M L1 := Nat.ne_of_gt lM
            have e2 : @Ne Nat U L1 := Nat.ne_of_gt lU.2
            have e3 : @Ne Nat D12 L1 := Nat.ne_of_gt l12.2.2.2.2
            refine ret _ _ _ (fun b o hb e => F12.keep _ _ (hideAll_get _ e (by simpa using hb))) ⟨sl, (N12 (L1, _) (by k_mem)).1⟩ ⟨D12, M, U, _, _, _, _, rfl, none_hid (N12 _ (.head _)).2.2 e3, none_hid (N12 (M, _) (by k_mem)).2.2 e1, none_hid (N12 (U, _) (by k_mem)).2.2 e2,
              Nat.ne_of_lt lU.1, Nat.ne_of_lt l12.2.2.2.1, Nat.ne_of_lt l12.2.2.1, (N12 _ (.head _)).1, (N12 (M, _) (by k_mem)).1, (N12 (U, _) (by k_mem)).1, ?_, ?_⟩
            · rw [← hm]; exact strsAre_append hMv (strs_drop i h1)
            · rw [← hu1]; exact strsAre_append hUv (strs_drop j h2)
          · have := hUv.len_eq
            have := h2.len_eq
            rw [List.size_toArray, List.length_drop, PySem.sizeLine_eq]; (first | lia | omega)
        · have := hMv.len_eq
          have := h1.len_eq
          rw [List.size_toArray, List.length_drop, PySem.sizeLine_eq]; (first | lia | omega)
    case tb =>
      k_fold
      k_steps
      refine item_in rfl (hp1.at fun o e => F1.keep _ _ e) h1 ge0 le40 fun te => ?_
      k_steps
      refine item_in rfl (hp2.at fun o e => Fr.keep (by assumption) _ _ e) h2 ga0 la40 fun ta => ?_
      k_steps
      · have hlt : sLt e a = true := decide_eq_true (by assumption)
        rw [hE, hA] at hR1
        rename Fr _ _ _ _ => F5
        refine item_in (k := 2 * pe + 1) (by (first | lia | omega)) (hp1.at fun o e => F5.keep _ _ e) h1 ge1 le40 fun te2 => ?_
        k_steps
        refine WhlIf.yes (by simp) ?_
        k_steps
        rename Fr _ _ _ _ => F6
        rename News _ _ _ _ => N6
        rcases hR1.inv_lt hlt with ⟨rfl, rfl, rfl⟩ | ⟨e', es, m', rfl, rfl, hR2⟩
        · have hl0 := drop_len hE
          simp only [List.length_cons, List.length_nil] at hl0
          refine item_out (k := 2 * pe + 2) (by (first | lia | omega)) rfl (hp1.at fun o e => F6.keep _ _ e) h1 (by rw [dup_len]; (first | lia | omega)) (by (first | lia | omega)) fun h8 tk8 e8 hx8 => ?_
          k_steps
          rename TT.HeldNA _ _ _ _ _ _ _ _ => hH
          simp only [sm_e, sm_a, sm_i, c2, List.push_toArray] at hH
          exact ⟨e8, _, _, 2 * pe + 2, 2 * pa, ms ++ [e], us, Mv ++ [.str e te], Uv, _, _, _, _, _, _, _, rfl, rfl, (StrsAre.snoc hMv), hUv, by rw [List.length_append, List.length_singleton]; (first | lia | omega), by (first | lia | omega), by (first | lia | omega), by (first | lia | omega),
            by rw [dup_at2 hE, ← hm]; exact List.append_nil _, by rw [dup_drop, hA, hu1], by assumption, hH⟩
        · have hl0 := drop_len hE
          simp only [List.length_cons] at hl0
          refine item_in (k := 2 * pe + 2) (by (first | lia | omega)) (hp1.at fun o e => F6.keep _ _ e) h1 (dup_at (drop_two hE)).1 le40 fun te3 => ?_
          k_steps
          refine WhlIf.no (drop_ne nd1 hE) ?_
          k_steps
          simp only [sm_e, sm_a, sm_i, c2, List.push_toArray] at F6 N6
          exact ⟨_, by (first | lia | omega), pe + 1, pa, ms ++ [e], us, Mv ++ [.str e te], Uv, _, _, _, _, _, _, _, _, m', u, rfl, rfl, (StrsAre.snoc hMv), hUv, by rw [List.length_append, List.length_singleton]; (first | lia | omega), hul, by rw [drop_two hE, hA]; exact hR2, by rw [List.append_assoc]; exact hm, hu1, F6, N6⟩
      · have hge : sLt e a = false := decide_eq_false (by assumption)
        have hlt : sLt a e = true := decide_eq_true (by assumption)
        rw [hE, hA] at hR1
        rename Fr _ _ _ _ => F5
        refine item_in (k := 2 * pa + 1) (by (first | lia | omega)) (hp2.at fun o e => F5.keep _ _ e) h2 ga1 la40 fun te2 => ?_
        k_steps
        refine WhlIf.yes (by simp) ?_
        k_steps
        rename Fr _ _ _ _ => F6
        rename News _ _ _ _ => N6
        rcases hR1.inv_gt hge hlt with ⟨rfl, rfl, rfl⟩ | ⟨a', as, u', rfl, rfl, hR2⟩
        · have hl0 := drop_len hA
          simp only [List.length_cons, List.length_nil] at hl0
          refine item_out (k := 2 * pa + 2) (by (first | lia | omega)) rfl (hp2.at fun o e => F6.keep _ _ e) h2 (by rw [dup_len]; (first | lia | omega)) (by (first | lia | omega)) fun h8 tk8 e8 hx8 => ?_
          k_steps
          rename TT.HeldNA _ _ _ _ _ _ _ _ => hH
          simp only [sm_e, sm_a, sm_j, c2, List.push_toArray] at hH
          exact ⟨e8, _, _, 2 * pe, 2 * pa + 2, ms, us ++ [a], Mv, Uv ++ [.str a ta], _, _, _, _, _, _, _, rfl, rfl, hMv, (StrsAre.snoc hUv), by (first | lia | omega), by rw [List.length_append, List.length_singleton]; (first | lia | omega), by (first | lia | omega), by (first | lia | omega),
            by rw [dup_drop, hE, hm], by rw [dup_at2 hA, ← hu1]; exact List.append_nil _, by assumption, hH⟩
        · have hl0 := drop_len hA
          simp only [List.length_cons] at hl0
          refine item_in (k := 2 * pa + 2) (by (first | lia | omega)) (hp2.at fun o e => F6.keep _ _ e) h2 (dup_at (drop_two hA)).1 la40 fun te3 => ?_
          k_steps
          refine WhlIf.no (drop_ne nd2 hA) ?_
          k_steps
          simp only [sm_e, sm_a, sm_j, c2, List.push_toArray] at F6 N6
          exact ⟨_, by (first | lia | omega), pe, pa + 1, ms, us ++ [a], Mv, Uv ++ [.str a ta], _, _, _, _, _, _, _, _, m, u', rfl, rfl, hMv, (StrsAre.snoc hUv), hml, by rw [List.length_append, List.length_singleton]; (first | lia | omega), by rw [drop_two hA, hE]; exact hR2, hm, by rw [List.append_assoc]; exact hu1, F6, N6⟩
      · have hge : sLt e a = false := decide_eq_false (by assumption)
        have hge2 : sLt a e = false := decide_eq_false (by assumption)
        rw [hE, hA] at hR1
        rename Fr _ _ _ _ => F5
        refine item_in (k := 2 * pe + 1) (by (first | lia | omega)) (hp1.at fun o e => F5.keep _ _ e) h1 ge1 le40 fun te2 => ?_
        k_steps
        refine WhlIf.yes (by simp) ?_
        k_steps
        rename Fr _ _ _ _ => F6
        rename News _ _ _ _ => N6
        obtain ⟨rfl, hR3⟩ := hR1.inv_eq hge hge2
        rcases hR3 with ⟨rfl, rfl, rfl⟩ | hR3
        · have hl0 := drop_len hE
          simp only [List.length_cons, List.length_nil] at hl0
          refine item_out (k := 2 * pe + 2) (by (first | lia | omega)) rfl (hp1.at fun o e => F6.keep _ _ e) h1 (by rw [dup_len]; (first | lia | omega)) (by (first | lia | omega)) fun h8 tk8 e8 hx8 => ?_
          have hx9 := NewCtx.of hx8
          clear hx8
          k_steps
          refine noted_ctx (new := [(U, _), (M, _)]) (by rfl) (by assumption) hx9 F6 N6 ⟨Nat.ne_of_gt lU.2, Nat.ne_of_gt lM, trivial⟩ fun h9 sl9 T9 t9 Fs9 hH hob => ?_
          simp only [List.cons_append, List.nil_append, sm_e, sm_a, sm_i, c2] at hH
          clear F6 N6 hx9
          refine fin_raised hH hob fun hB ob1 oT1 F7 N7 x7 => ?_
          clear hH hob
          k_steps
          rename Fr _ _ _ _ => F8
          refine item_in (k := 2 * pa + 1) (by (first | lia | omega)) (hp2.at fun o e => F8.keep _ _ e) h2 ga1 la40 fun te3 => ?_
          k_steps
          refine WhlIf.yes (by simp) ?_
          k_steps
          rename Fr _ _ _ _ => F10
          rename News _ _ _ _ => N10
          have hl1 := drop_len hA
          rcases ar with _ | ⟨a', as⟩
          · simp only [List.length_cons, List.length_nil] at hl1
            refine item_outC (k := 2 * pa + 2) (by (first | lia | omega)) (by rfl) (N10 (e8, ob1) (by k_mem)).1 x7.2.1 rfl (hp2.at fun o e => F10.keep _ _ e) h2 (by rw [dup_len]; (first | lia | omega)) (by (first | lia | omega)) fun h11 tk11 e11 hx11 => ?_
            k_steps
            have N11 : News _ L _ [(U, _), (M, _), (L1, _)] := news_sub N10 (by lcg_sub)
            refine noted_ctx (new := [(U, _), (M, _)]) (by rfl) (by assumption) hx11 F10 N11 ⟨Nat.ne_of_gt lU.2, Nat.ne_of_gt lM, trivial⟩ fun h12 sl12 T12 t12 Fs12 hH _ => ?_
            clear F10 N10 N11 hx11 x7
            simp only [List.cons_append, List.nil_append, sm_j, c2] at hH
            refine came_back hH fun h13 hH2 => ?_
            exact ⟨e11, _, _, 2 * pe + 2, 2 * pa + 2, ms, us, Mv, Uv, _, _, _, _, _, _, _, rfl, rfl, hMv, hUv, by (first | lia | omega), by (first | lia | omega), by (first | lia | omega), by (first | lia | omega), by rw [dup_at2 hE]; exact hm, by rw [dup_at2 hA]; exact hu1, by assumption, hH2⟩
          · simp only [List.length_cons] at hl1
            refine item_in (k := 2 * pa + 2) (by (first | lia | omega)) (hp2.at fun o e => F10.keep _ _ e) h2 (dup_at (drop_two hA)).1 la40 fun te4 => ?_
            k_steps
            refine WhlIf.no (drop_ne nd2 hA) ?_
            k_steps
            dsimp only
            simp only [sm_j, c2] at F10
            refine pass_on (exc_out F10 N10 x7) fun h13 hH2 => ?_
            exact ⟨e8, _, _, 2 * pe + 2, 2 * pa + 2, ms, us, Mv, Uv, _, _, _, _, _, _, _, rfl, rfl, hMv, hUv, by (first | lia | omega), by (first | lia | omega), by (first | lia | omega), by (first | lia | omega), by rw [dup_at2 hE]; exact hm, by rw [dup_at2 hA]; exact hu1, by assumption, hH2⟩
        · have hR4 : ∃ e' es, er = e' :: es ∧ ((ar = [] ∧ m = dup (e' :: es) ∧ u = []) ∨ ∃ a' as, ar = a' :: as ∧ SldR (e' :: es) (a' :: as) m u) := by
            rcases hR3 with ⟨e', es, r1, r2⟩ | ⟨e', es, a', as, r1, r2, r3⟩
            · exact ⟨e', es, r1, .inl r2⟩
            · exact ⟨e', es, r1, .inr ⟨a', as, r2, r3⟩⟩
          clear hR3
          obtain ⟨e', es, rfl, hR4⟩ := hR4
          have hl0 := drop_len hE
          simp only [List.length_cons] at hl0
          refine item_in (k := 2 * pe + 2) (by (first | lia | omega)) (hp1.at fun o e => F6.keep _ _ e) h1 (dup_at (drop_two hE)).1 le40 fun te3 => ?_
          k_steps
          refine WhlIf.no (drop_ne nd1 hE) ?_
          simp only [sm_e, sm_a, sm_i, c2] at F6
          k_steps
          rename Fr _ _ _ _ => F8
          refine item_in (k := 2 * pa + 1) (by (first | lia | omega)) (hp2.at fun o e => F8.keep _ _ e) h2 ga1 la40 fun te3 => ?_
          k_steps
          refine WhlIf.yes (by simp) ?_
          k_steps
          rename Fr _ _ _ _ => F10
          rename News _ _ _ _ => N10
          have hl1 := drop_len hA
          rcases hR4 with ⟨rfl, rfl, rfl⟩ | ⟨a', as, rfl, hR4⟩
          · simp only [List.length_cons, List.length_nil] at hl1
            refine item_out (k := 2 * pa + 2) (by (first | lia | omega)) rfl (hp2.at fun o e => F10.keep _ _ e) h2 (by rw [dup_len]; (first | lia | omega)) (by (first | lia | omega)) fun h11 tk11 e11 hx11 => ?_
            k_steps
            refine noted_ctx (new := [(U, _), (M, _)]) (by rfl) (by assumption) (NewCtx.of hx11) F10 N10 ⟨Nat.ne_of_gt lU.2, Nat.ne_of_gt lM, trivial⟩ fun h12 sl12 T12 t12 Fs12 hH _ => ?_
            clear F10 N10 hx11
            simp only [List.cons_append, List.nil_append, sm_j, c2] at hH
            refine came_back hH fun h13 hH2 => ?_
            exact ⟨e11, _, _, 2 * pe + 2, 2 * pa + 2, ms, us, Mv, Uv, _, _, _, _, _, _, _, rfl, rfl, hMv, hUv, by (first | lia | omega), by (first | lia | omega), by (first | lia | omega), by (first | lia | omega), by rw [dup_at2 hE]; exact hm, by rw [dup_at2 hA]; exact hu1, by assumption, hH2⟩
          · simp only [List.length_cons] at hl1
            refine item_in (k := 2 * pa + 2) (by (first | lia | omega)) (hp2.at fun o e => F10.keep _ _ e) h2 (dup_at (drop_two hA)).1 la40 fun te4 => ?_
            k_steps
            refine WhlIf.no (drop_ne nd2 hA) ?_
            k_steps
            simp only [sm_j, c2] at F10
            exact ⟨_, by (first | lia | omega), pe + 1, pa + 1, ms, us, Mv, Uv, _, _, _, _, _, _, _, _, m, u, rfl, rfl, hMv, hUv, by (first | lia | omega), by (first | lia | omega), by rw [drop_two hE, drop_two hA]; exact hR4, hm, hu1, F10, N10⟩
end
end Mine
end
section
open PySem PySem.W PyProof.Rows PySem.Calls
namespace Mine
/-- the name of a figure as two digits -/
def N2 (i : Nat) : Str := ⟨#[i / 10 + 48, i % 10 + 48]⟩
def D3 (u v t : Nat) : Str := ⟨#[47, u / 10 + 48, u % 10 + 48, 47, v / 10 + 48, v % 10 + 48, 47, t / 10 + 48, t % 10 + 48]⟩
def slX : Str := ⟨#[47]⟩
/-- parts without slashes, joined by slashes: one way only -/
theorem glue_one : ∀ {ps qs : List (List Nat)}, ps ≠ [] → qs ≠ [] → (∀ p ∈ ps, 47 ∉ p) → (∀ q ∈ qs, 47 ∉ q) → List.intercalate [47] ps = List.intercalate [47] qs → ps = qs := by
  intro ps
  induction ps with
  | nil => intro _ h; exact absurd rfl h
  | cons p ps ih =>
    intro qs _ hq fp fq e
    cases qs with
    | nil => exact absurd rfl hq
    | cons q qs =>
      have key : ∀ (p q r s : List Nat), 47 ∉ p → 47 ∉ q → (r = [] ∨ r.head? = some 47) → (s = [] ∨ s.head? = some 47) → p ++ r = q ++ s → p = q ∧ r = s := by
        intro p
        induction p with
        | nil =>
          intro q r s _ hq hr _ e
          cases q with
          | nil => exact ⟨rfl, e⟩
          | cons a q =>
            exfalso
            rcases hr with rfl | hr
            · cases e
            · rw [List.nil_append] at e; rw [e] at hr
              simp at hr; exact hq (by simp [hr])
        | cons a p ihp =>
          intro q r s hp hq hr hs e
          cases q with
          | nil =>
            exfalso
            rcases hs with rfl | hs
            · cases e
            · rw [List.nil_append] at e; rw [← e] at hs
              simp at hs; exact hp (by simp [hs])
          | cons b q =>
            simp only [List.cons_append, List.cons.injEq] at e
            obtain ⟨rfl, e⟩ := e
            obtain ⟨h1, h2⟩ := ihp q r s (fun m => hp (.tail _ m)) (fun m => hq (.tail _ m)) hr hs e
            exact ⟨by rw [h1], h2⟩
      cases ps with
      | nil =>
        cases qs with
        | nil => simpa [List.intercalate] using e
        | cons q2 qs =>
          exfalso
          have := key p q [] ([47] ++ List.intercalate [47] (q2 :: qs)) (fp p (.head _)) (fq q (.head _)) (.inl rfl) (.inr rfl) (by simpa [List.intercalate] using e)
          exact absurd this.2 (by simp)
      | cons p2 ps =>
        cases qs with
        | nil =>
          exfalso
          have := key p q ([47] ++ List.intercalate [47] (p2 :: ps)) [] (fp p (.head _)) (fq q (.head _)) (.inr rfl) (.inl rfl) (by simpa [List.intercalate] using e)
          exact absurd this.2 (by simp)
        | cons q2 qs =>
          have := key p q ([47] ++ List.intercalate [47] (p2 :: ps)) ([47] ++ List.intercalate [47] (q2 :: qs)) (fp p (.head _)) (fq q (.head _)) (.inr rfl) (.inr rfl) (by simpa [List.intercalate] using e)
          have h2 := ih (qs := q2 :: qs) (by simp) (by simp) (fun x hx => fp x (.tail _ hx)) (fun x hx => fq x (.tail _ hx)) (by simpa using this.2)
          rw [this.1, h2]
theorem join_cps : ∀ (ps : List Str), (Str.join slX ps).cps.toList = List.intercalate [47] (ps.map (·.cps.toList))
  | [] => rfl
  | [p] => by simp [Str.join, List.intercalate]
  | p :: q :: r => by
    have ih := join_cps (q :: r)
    show (p ++ slX ++ Str.join slX (q :: r)).cps.toList = _
    rw [Str.cps_append, Str.cps_append, Array.toList_append, Array.toList_append, ih]
    simp [List.intercalate, slX]
theorem split_of {x : Str} {ps : List Str} (h : ps ≠ []) (hf : ∀ p ∈ ps, 47 ∉ p.cps.toList) (e : x.cps.toList = List.intercalate [47] (ps.map (·.cps.toList))) : Txt.split x slX = ps := by
  have hne : Txt.split x slX ≠ [] := by
    intro q
    unfold Txt.split at q
    split at q
    · cases q
    · split at q
      · cases q
      · rw [StrLaws.partsBetween_eq] at q
        obtain ⟨p, r, e⟩ := StrLaws.partsFrom_ne x slX.length 0 (Builtin.Str.occurrences x slX 0 x.length (x.length + 1))
        rw [e] at q; cases q
  have h1 := StrLaws.join_split x slX
  have h2 := congrArg (fun s : Str => s.cps.toList) h1
  simp only [join_cps] at h2
  rw [e] at h2
  have h3 := glue_one (by simpa using hne) (by simpa using h) (fun p hp => by
    obtain ⟨q, hq, rfl⟩ := List.mem_map.mp hp
    exact StrLaws.split_free x 47 q hq) (fun p hp => by
    obtain ⟨q, hq, rfl⟩ := List.mem_map.mp hp
    exact hf q hq) h2
  have inj : ∀ {a b : List Str}, a.map (·.cps.toList) = b.map (·.cps.toList) → a = b := by
    intro a
    induction a with
    | nil => intro b h; cases b with
      | nil => rfl
      | cons _ _ => cases h
    | cons x a ih => intro b h; cases b with
      | nil => cases h
      | cons y b =>
        simp only [List.map_cons, List.cons.injEq] at h
        rw [ih h.2, Str.ext' (Array.toList_inj.mp h.1)]
  exact inj h3
theorem n2_free (i : Nat) : 47 ∉ (N2 i).cps.toList := by
  simp only [N2, List.mem_cons, List.not_mem_nil, or_false]; (first | lia | omega)
theorem split_D3 (u v t : Nat) : Txt.split (D3 u v t) slX = [⟨#[]⟩, N2 u, N2 v, N2 t] :=
  split_of (by simp) (fun p hp => by
    simp only [List.mem_cons, List.not_mem_nil, or_false] at hp
    rcases hp with rfl | rfl | rfl | rfl
    · simp
    all_goals exact n2_free _) rfl
def R3 (u v t : Nat) : Str := ⟨#[47, 47, 46, 47, u / 10 + 48, u % 10 + 48, 47, 47, 46, 47, v / 10 + 48, v % 10 + 48, 47, 47, 46, 47, t / 10 + 48, t % 10 + 48]⟩
theorem rep_D3 (u v t : Nat) : Txt.replace (D3 u v t) slX ⟨#[47, 47, 46, 47]⟩ = R3 u v t := by
  unfold slX
  rw [StrLaws.replace_one]
  show Str.join _ (Txt.split (D3 u v t) slX) = _
  rw [split_D3]
  exact Str.ext' (by simp [Str.join, R3, N2, Str.cps_append])
theorem split_R3 (u v t : Nat) : Txt.split (R3 u v t) slX = [⟨#[]⟩, ⟨#[]⟩, ⟨#[46]⟩, N2 u, ⟨#[]⟩, ⟨#[46]⟩, N2 v, ⟨#[]⟩, ⟨#[46]⟩, N2 t] :=
  split_of (by simp) (fun p hp => by
    simp only [List.mem_cons, List.not_mem_nil, or_false] at hp
    rcases hp with rfl | rfl | rfl | rfl | rfl | rfl | rfl | rfl | rfl | rfl <;> first | exact n2_free _ | simp) rfl
theorem n2_inj {i j : Nat} (h : N2 i = N2 j) : i = j := by
  simp only [N2, Str.mk.injEq, Array.mk.injEq, List.cons.injEq, and_true] at h
  (first | lia | omega)
theorem rfind_end {P : List Nat} {a b : Nat} (ha : a ≠ 47) (hb : b ≠ 47) : Txt.rfind ⟨(P ++ [47, a, b]).toArray⟩ slX = P.length := by
  have hat : ∀ i, StrLaws.At ⟨(P ++ [47, a, b]).toArray⟩ slX (⟨(P ++ [47, a, b]).toArray⟩ : Str).length i ↔ (P ++ [47, a, b])[i]? = some 47 := fun i => StrLaws.subAt_one _ 47 i
  have h1 : (P ++ [47, a, b])[P.length]? = some 47 := by simp
  rcases StrLaws.last_spec ⟨(P ++ [47, a, b]).toArray⟩ slX with ⟨_, h⟩ | ⟨i, e, h, h'⟩
  · exact absurd ((hat _).mpr h1) (h _)
  · unfold Txt.rfind
    rw [e]
    show ((i : Nat) : Int) = _
    congr 1
    rw [hat] at h
    have h2 : ¬ i < P.length := fun q => h' _ q ((hat _).mpr h1)
    have h3 : ¬ P.length < i := by
      intro q
      obtain ⟨d, rfl⟩ : ∃ d, i = P.length + 1 + d := ⟨i - P.length - 1, by (first | lia | omega)⟩
      rw [List.getElem?_append_right (by (first | lia | omega)), show P.length + 1 + d - P.length = d + 1 by (first | lia | omega)] at h
      rcases d with _ | _ | d
      · simp at h; exact ha h
      · simp at h; exact hb h
      · simp at h
    (first | lia | omega)
theorem slice_to {x : Str} {k : Nat} (h : k ≤ x.length) : Txt.slice x none (some (k : Int)) = ⟨(x.cps.toList.take k).toArray⟩ := by
  have e : x.cps.toList.length = x.length := by simp [Str.length]
  exact (StrLaws.sliceText_to (x := x) (j := (k : Int)) ⟨by (first | lia | omega), by (first | lia | omega)⟩).trans (by simp)
theorem slice_from {x : Str} {k : Nat} (h : k ≤ x.length) : Txt.slice x (some (k : Int)) none = ⟨(x.cps.toList.drop k).toArray⟩ := by
  have e : x.cps.toList.length = x.length := by simp [Str.length]
  refine (StrLaws.sliceText_from (x := x) (i := (k : Int)) ⟨by (first | lia | omega), by (first | lia | omega)⟩).trans ?_
  rw [List.take_of_length_le (by rw [List.length_drop]; (first | lia | omega))]
  simp
theorem rstrip_sl {P : List Nat} {c : Nat} (hc : c ≠ 47) : Txt.rstripChars ⟨(P ++ [c, 47]).toArray⟩ slX = ⟨(P ++ [c]).toArray⟩ := by
  have e : stripHi slX.cps.contains true ⟨(P ++ [c, 47]).toArray⟩ 0 = P.length + 1 := by
    simp [stripHi, Str.length, slX, List.takeWhile, hc]
  have e0 : stripLo slX.cps.contains false ⟨(P ++ [c, 47]).toArray⟩ = 0 := rfl
  unfold Txt.rstripChars Txt.stripBy
  rw [if_neg]
  · unfold PySem.stripped
    rw [e0, e]
    refine Str.ext' (Array.toList_inj.mp ?_)
    rw [StrLaws.strSub_toList]
    simp [List.take_append]
    exact List.take_of_length_le (Nat.le_succ _)
  · unfold stripSame
    rw [e0, e]
    simp [Str.length]
end Mine
end
section
open PySem PySem.W PyProof.Rows PySem.Calls PyProof.Rows.LCg
namespace Mine
theorem slS_eq : slS = slX := by decide +kernel
theorem name_is : ∀ i : Fin 64, nameS (i.val : Int) = N2 i.val := by decide +kernel
theorem nameS_is {i : Nat} (h : i < 64) : nameS (i : Int) = N2 i := name_is ⟨i, h⟩
theorem due_D {x b : Int} (hb : 0 < b) (hb' : b < 65) : ∃ u v t : Nat, dueS x b = D3 u v t ∧ u < 64 ∧ v < 64 ∧ t < 64 ∧ (u : Int) = x / b / b % b ∧ (v : Int) = x / b % b ∧ (t : Int) = x % b := by
  have n0 := Int.emod_nonneg (x / b / b) (show b ≠ 0 by (first | lia | omega))
  have n1 := Int.emod_nonneg (x / b) (show b ≠ 0 by (first | lia | omega))
  have n2 := Int.emod_nonneg x (show b ≠ 0 by (first | lia | omega))
  have l0 := Int.emod_lt_of_pos (x / b / b) hb
  have l1 := Int.emod_lt_of_pos (x / b) hb
  have l2 := Int.emod_lt_of_pos x hb
  refine ⟨(x / b / b % b).toNat, (x / b % b).toNat, (x % b).toNat, ?_, by (first | lia | omega), by (first | lia | omega), by (first | lia | omega), by (first | lia | omega), by (first | lia | omega), by (first | lia | omega)⟩
  have e2 : x / b ^ 2 % b = ((x / b / b % b).toNat : Int) := by
    rw [show b ^ 2 = b * b by rw [Int.pow_succ, Int.pow_succ, Int.pow_zero, Int.one_mul], ← Int.ediv_ediv_of_nonneg (by (first | lia | omega))]; (first | lia | omega)
  have e1 : x / b ^ 1 % b = ((x / b % b).toNat : Int) := by rw [show b ^ 1 = b by rw [Int.pow_succ, Int.pow_zero, Int.one_mul]]; (first | lia | omega)
  have e0 : x / b ^ 0 % b = ((x % b).toNat : Int) := by rw [Int.pow_zero, Int.ediv_one]; (first | lia | omega)
  rw [dueS_eq, pieceS, pieceS, pieceS, e2, e1, e0, nameS_is (by (first | lia | omega)), nameS_is (by (first | lia | omega)), nameS_is (by (first | lia | omega)), slS_eq]
  rfl
theorem join_one {P : List Nat} {c : Nat} {n : Str} (hc : c ≠ 47) : joinS ⟨(P ++ [c]).toArray⟩ n = ⟨(P ++ [c]).toArray⟩ ++ (slS ++ n) := by
  unfold joinS
  rw [if_neg]
  rw [slS_eq]
  unfold Txt.endswith
  rw [StrLaws.subAt_eq]
  simp [Str.length, slX, hc]
theorem way_due {x b : Int} (hb : 0 < b) (hb' : b < 65) : wayS (x / b / b % b) (x / b % b) (x % b) = dueS x b := by
  obtain ⟨u, v, t, e, hu, hv, ht, eu, ev, et⟩ := due_D (x := x) hb hb'
  rw [e, ← eu, ← ev, ← et]
  unfold wayS
  have j1 : joinS slS (N2 u) = ⟨#[47, u / 10 + 48, u % 10 + 48]⟩ := rfl
  have j2 : joinS ⟨#[47, u / 10 + 48, u % 10 + 48]⟩ (N2 v) = ⟨#[47, u / 10 + 48, u % 10 + 48, 47, v / 10 + 48, v % 10 + 48]⟩ := (join_one (P := [47, u / 10 + 48]) (by (first | lia | omega))).trans rfl
  rw [nameS_is hu, nameS_is hv, nameS_is ht, j1, j2]
  exact (join_one (P := [47, u / 10 + 48, u % 10 + 48, 47, v / 10 + 48]) (by (first | lia | omega))).trans rfl
theorem due_ok {x b : Int} (hb : 0 < b) (hb' : b < 65) : PyData.strOk (dueS x b) = true := by
  obtain ⟨u, v, t, e, hu, hv, ht, _⟩ := due_D (x := x) hb hb'
  rw [e]
  have f : ∀ n : Nat, n < 64 → n / 10 + 48 < 1114112 ∧ n % 10 + 48 < 1114112 := fun n h => by (first | lia | omega)
  simp [PyData.strOk, D3, (f u hu).1, (f u hu).2, (f v hv).1, (f v hv).2, (f t ht).1, (f t ht).2]
theorem mul_all {n : Int} : ∀ z ∈ (Txt.mul slX n).cps.toList, z = 47 := by
  unfold Txt.mul
  split
  · intro z h; cases h
  · split
    · intro z h; exact List.mem_singleton.mp h
    · have : ∀ (k : Nat) (a : Array Nat), (∀ z ∈ a.toList, z = 47) → ∀ z ∈ ((List.replicate k slX.cps).foldl (· ++ ·) a).toList, z = 47 := by
        intro k
        induction k with
        | zero => exact fun a h => h
        | succ k ih =>
          intro a h
          rw [List.replicate_succ, List.foldl_cons]
          refine ih _ fun z hz => ?_
          rw [Array.toList_append, List.mem_append] at hz
          rcases hz with hz | hz
          · exact h z hz
          · exact List.mem_singleton.mp hz
      exact this _ _ fun z h => nomatch h
theorem head_end {P : List Nat} {a b : Nat} (ha : a ≠ 47) (hb : b ≠ 47) : headS ⟨(P ++ [47, a, b]).toArray⟩ = ⟨(P ++ [47]).toArray⟩ := by
  unfold headS
  rw [slS_eq, rfind_end ha hb, show ((P.length : Int) + 1) = ((P.length + 1 : Nat) : Int) by (first | lia | omega), slice_to (by simp [Str.length])]
  simp [List.take_append]
  exact List.take_of_length_le (Nat.le_succ _)
theorem base_end {P : List Nat} {a b : Nat} (ha : a ≠ 47) (hb : b ≠ 47) : baseS ⟨(P ++ [47, a, b]).toArray⟩ = ⟨#[a, b]⟩ := by
  unfold baseS
  rw [slS_eq, rfind_end ha hb, show ((P.length : Int) + 1) = ((P.length + 1 : Nat) : Int) by (first | lia | omega), slice_from (by simp [Str.length])]
  simp [List.drop_append]
theorem dir_end {P : List Nat} {a b c : Nat} (ha : a ≠ 47) (hb : b ≠ 47) (hc : c ≠ 47) : dirS ⟨((P ++ [c]) ++ [47, a, b]).toArray⟩ = ⟨(P ++ [c]).toArray⟩ := by
  unfold dirS
  rw [head_end ha hb, if_pos]
  · rw [slS_eq, List.append_assoc]; exact rstrip_sl hc
  · refine ⟨by simp [Str.length], bne_iff_ne.mpr fun q => hc ?_⟩
    have q2 := congrArg (fun s : Str => s.cps.toList) q
    rw [slS_eq] at q2
    exact mul_all (n := _) c (by rw [← q2]; simp)
theorem dir_top {a b : Nat} (ha : a ≠ 47) (hb : b ≠ 47) : dirS ⟨#[47, a, b]⟩ = slS := by
  unfold dirS
  have := head_end (P := []) ha hb
  rw [show (⟨([] ++ [47, a, b] : List Nat).toArray⟩ : Str) = ⟨#[47, a, b]⟩ from rfl] at this
  rw [this, if_neg]
  · exact slS_eq.symm
  · decide +kernel
theorem clm_due {x b : Int} (h0 : 0 ≤ x) (hb : 0 < b) (hb' : b < 65) (h1 : x < b * b * b) : Clm b 3 (dueS x b) x := by
  obtain ⟨u, v, t, e, hu, hv, ht, eu, ev, et⟩ := due_D (x := x) hb hb'
  obtain ⟨u1, v1, t1, e1, hu1, hv1, ht1, eu1, ev1, et1⟩ := due_D (x := x / b) hb hb'
  obtain ⟨u2, v2, t2, e2, hu2, hv2, ht2, eu2, ev2, et2⟩ := due_D (x := x / b / b) hb hb'
  have z3 : x / b / b / b = 0 := by
    have a1 : x / b < b * b := Int.ediv_lt_of_lt_mul hb h1
    have a2 : x / b / b < b := Int.ediv_lt_of_lt_mul hb a1
    exact Int.ediv_eq_zero_of_lt (Int.ediv_nonneg (Int.ediv_nonneg h0 (by (first | lia | omega))) (by (first | lia | omega))) a2
  have q1 : t1 = v := by (first | lia | omega)
  have q2 : v1 = u := by (first | lia | omega)
  have q3 : u1 = 0 := by rw [z3] at eu1; simpa using eu1
  have q4 : t2 = u := by (first | lia | omega)
  have q5 : v2 = 0 := by rw [z3] at ev2; simpa using ev2
  have q6 : u2 = 0 := by rw [z3, Int.zero_ediv] at eu2; simpa using eu2
  subst q1 q2 q3 q4 q5 q6
  have d2 : dirS (D3 t2 t1 t) = ⟨#[47, t2 / 10 + 48, t2 % 10 + 48, 47, t1 / 10 + 48, t1 % 10 + 48]⟩ := dir_end (P := [47, t2 / 10 + 48, t2 % 10 + 48, 47, t1 / 10 + 48]) (c := t1 % 10 + 48) (by (first | lia | omega)) (by (first | lia | omega)) (by (first | lia | omega))
  have d1 : dirS ⟨#[47, t2 / 10 + 48, t2 % 10 + 48, 47, t1 / 10 + 48, t1 % 10 + 48]⟩ = ⟨#[47, t2 / 10 + 48, t2 % 10 + 48]⟩ := dir_end (P := [47, t2 / 10 + 48]) (c := t2 % 10 + 48) (by (first | lia | omega)) (by (first | lia | omega)) (by (first | lia | omega))
  have d0 : dirS ⟨#[47, t2 / 10 + 48, t2 % 10 + 48]⟩ = slS := dir_top (by (first | lia | omega)) (by (first | lia | omega))
  have ne : ∀ {a b c : Nat} {l : List Nat}, ((⟨(a :: b :: c :: l).toArray⟩ : Str) != slS) = true := fun {a b c l} => bne_iff_ne.mpr fun q => by
    rw [slS_eq] at q
    have := congrArg (fun s : Str => s.cps.toList.length) q
    simp [slX] at this
  refine ⟨by rw [e]; exact ne, by rw [e]; exact (by decide : 9 < 1000), ?_, ?_, ?_⟩
  · rw [e, ← et, nameS_is ht]; exact base_end (P := [47, t2 / 10 + 48, t2 % 10 + 48, 47, t1 / 10 + 48, t1 % 10 + 48]) (by (first | lia | omega)) (by (first | lia | omega))
  · rw [e, d2, if_neg (by decide), e1]
    exact ((slice_from (x := D3 0 t2 t1) (k := 3) (by show 3 ≤ 9; decide)).trans rfl).symm
  rw [e, d2]
  refine ⟨ne, (by decide : 6 < 1000), ?_, ?_, ?_⟩
  · rw [← ev, nameS_is ht1]; exact base_end (P := [47, t2 / 10 + 48, t2 % 10 + 48]) (by (first | lia | omega)) (by (first | lia | omega))
  · rw [d1, if_neg (by decide), e2]
    exact ((slice_from (x := D3 0 0 t2) (k := 6) (by show 6 ≤ 9; decide)).trans rfl).symm
  rw [d1]
  refine ⟨ne, (by decide : 3 < 1000), ?_, ?_, ?_⟩
  · rw [← eu, nameS_is ht2]; exact base_end (P := []) (by (first | lia | omega)) (by (first | lia | omega))
  · rw [d0, if_pos rfl]
  · exact d0
theorem num_of {x b : Int} (hb : 0 < b) (h0 : 0 ≤ x) (h1 : x < b * b * b) : x = (x / b / b % b * b + x / b % b) * b + x % b := by
  have a1 : x / b < b * b := Int.ediv_lt_of_lt_mul hb h1
  have a2 : x / b / b < b := Int.ediv_lt_of_lt_mul hb a1
  rw [Int.emod_eq_of_lt (Int.ediv_nonneg (Int.ediv_nonneg h0 (by (first | lia | omega))) (by (first | lia | omega))) a2, Int.ediv_mul_add_emod, Int.ediv_mul_add_emod]
/-- three figures, in order as the number -/
theorem num_lt {b u v t u' v' t' : Int} (hv : 0 ≤ v) (ht : 0 ≤ t) (hv' : 0 ≤ v') (ht' : 0 ≤ t') (lv : v < b) (lt : t < b) (lv' : v' < b) (lt' : t' < b) : (u * b + v) * b + t < (u' * b + v') * b + t' ↔ u < u' ∨ (u = u' ∧ (v < v' ∨ (v = v' ∧ t < t'))) := by
  have step : ∀ {p q r s : Int}, 0 ≤ r → 0 ≤ s → r < b → s < b → (p * b + r < q * b + s ↔ p < q ∨ (p = q ∧ r < s)) := by
    intro p q r s r0 s0 rb sb
    rcases Int.lt_trichotomy p q with h | h | h
    · refine ⟨fun _ => .inl h, fun _ => ?_⟩
      have : (p + 1) * b ≤ q * b := Int.mul_le_mul_of_nonneg_right (by (first | lia | omega)) (by (first | lia | omega))
      rw [Int.add_mul, Int.one_mul] at this
      (first | lia | omega)
    · subst h; (first | lia | omega)
    · refine ⟨fun hh => ?_, fun hh => by (first | lia | omega)⟩
      have : (q + 1) * b ≤ p * b := Int.mul_le_mul_of_nonneg_right (by (first | lia | omega)) (by (first | lia | omega))
      rw [Int.add_mul, Int.one_mul] at this
      (first | lia | omega)
  rw [step ht ht' lt lt', step hv hv' lv lv']
  have inj : u * b + v = u' * b + v' ↔ u = u' ∧ v = v' := by
    refine ⟨fun h => ?_, fun ⟨h1, h2⟩ => by rw [h1, h2]⟩
    have n1 := mt (step hv hv' lv lv' (p := u) (q := u')).mpr (by (first | lia | omega))
    have n2 := mt (step hv' hv lv' lv (p := u') (q := u)).mpr (by (first | lia | omega))
    (first | lia | omega)
  rw [inj]
  (first | lia | omega)
theorem figC_lt {u u' : Nat} {R : Prop} : (u / 10 + 48 < u' / 10 + 48 ∨ u / 10 + 48 = u' / 10 + 48 ∧ (u % 10 + 48 < u' % 10 + 48 ∨ u % 10 + 48 = u' % 10 + 48 ∧ R)) ↔ (u < u' ∨ u = u' ∧ R) := by
  by_cases hR : R
  · simp only [hR, and_true]; (first | lia | omega)
  · simp only [hR, and_false, or_false]; (first | lia | omega)
theorem D3_lt (u v t u' v' t' : Nat) : (D3 u v t).cps.toList < (D3 u' v' t').cps.toList ↔ u < u' ∨ (u = u' ∧ (v < v' ∨ (v = v' ∧ t < t'))) := by
  simp only [D3, List.cons_lt_cons_iff, List.lt_irrefl, and_false, or_false, Nat.lt_irrefl, false_or, true_and, figC_lt]
  have := @figC_lt t t' False
  simp only [and_false, or_false] at this
  rw [this]
theorem due_lt {x y b : Int} (hb : 0 < b) (hb' : b < 65) (hx : 0 ≤ x) (hy : 0 ≤ y) (hx' : x < b * b * b) (hy' : y < b * b * b) : (dueS x b).cps.toList < (dueS y b).cps.toList ↔ x < y := by
  obtain ⟨u, v, t, e, hu, hv, ht, eu, ev, et⟩ := due_D (x := x) hb hb'
  obtain ⟨u1, v1, t1, e1, hu1, hv1, ht1, eu1, ev1, et1⟩ := due_D (x := y) hb hb'
  have l0 := Int.emod_lt_of_pos (x / b) hb
  have l1 := Int.emod_lt_of_pos x hb
  have l2 := Int.emod_lt_of_pos (y / b) hb
  have l3 := Int.emod_lt_of_pos y hb
  have := num_lt (u := u) (v := v) (t := t) (u' := u1) (v' := v1) (t' := t1) (Int.natCast_nonneg _) (Int.natCast_nonneg _) (Int.natCast_nonneg _) (Int.natCast_nonneg _) (ev ▸ l0) (et ▸ l1) (ev1 ▸ l2) (et1 ▸ l3)
  rw [show ((u : Int) * b + v) * b + t = x from by rw [eu, ev, et]; exact (num_of hb hx hx').symm, show ((u1 : Int) * b + v1) * b + t1 = y from by rw [eu1, ev1, et1]; exact (num_of hb hy hy').symm] at this
  simp only [Int.ofNat_lt, Int.ofNat_inj] at this
  rw [e, e1, D3_lt, this]
theorem cmp_due {x y b : Int} (hb : 0 < b) (hb' : b < 65) (hx : 0 ≤ x) (hy : 0 ≤ y) (hx' : x < b * b * b) (hy' : y < b * b * b) : cmpS (dueS x b) (dueS y b) = if x = y then 0 else if y < x then 1 else -1 := by
  unfold cmpS
  rw [decide_eq_decide.mpr (due_lt hb hb' hy hx hy' hx'), decide_eq_decide.mpr (due_lt hb hb' hx hy hx' hy')]
  rcases Int.lt_trichotomy x y with h | h | h
  · rw [decide_eq_false (by (first | lia | omega)), decide_eq_true h, if_neg (by (first | lia | omega)), if_neg (by (first | lia | omega))]; rfl
  · rw [decide_eq_false (by (first | lia | omega)), decide_eq_false (by (first | lia | omega)), if_pos h]; rfl
  · rw [decide_eq_true h, decide_eq_false (by (first | lia | omega)), if_neg (by (first | lia | omega)), if_pos h]; rfl
theorem due_inj {x y b : Int} (hb : 0 < b) (hb' : b < 65) (hx : 0 ≤ x) (hy : 0 ≤ y) (hx' : x < b * b * b) (hy' : y < b * b * b) (h : dueS x b = dueS y b) : x = y := by
  have a := due_lt hb hb' hx hy hx' hy'
  have c := due_lt hb hb' hy hx hy' hx'
  rw [h] at a c
  have i : ¬ (dueS y b).cps.toList < (dueS y b).cps.toList := List.lt_irrefl _
  have := mt a.mpr i
  have := mt c.mpr i
  (first | lia | omega)
end Mine
end
section
open PySem PySem.W PyProof.Rows PySem.Calls PyProof.Rows.LCg
namespace Mine
/-- what both ways have ahead -/
def cutXY (b x y : Int) : Str := cutS x b ((alikeL x y b 4).headD 0)
/-- a way with two slashes, a dot and a slash for each slash -/
def repS (y : Str) : Str := Txt.replace y (Str.ofString "/") (Str.ofString "//./")
/-- what commonpath's contract asks of two texts, and what it tells of them -/
structure CommonAt (x y v : Str) (c0 c1 c2 d0 d1 d2 : Str) : Prop where
  hfx : (Txt.split x slT).filter kept = [c0, c1, c2]
  hfy : (Txt.split y slT).filter kept = [d0, d1, d2]
  hjn : ((cpre [c0, c1, c2] [d0, d1, d2]).map (·.length)).sum + (cpre [c0, c1, c2] [d0, d1, d2]).length * slT.length ≤ 10000
  hjl : (Txt.join slT (cpre [c0, c1, c2] [d0, d1, d2])).length ≤ 10000
  hxl : x.length + 2 ≤ 1000
  hyl : y.length + 2 ≤ 1000
  hxs : (Txt.split x slT).length ≤ 100
  hys : (Txt.split y slT).length ≤ 100
  hcl : ∀ c, c ∈ Txt.split x slT ∨ c ∈ Txt.split y slT → c.length ≤ 1000
  hxa : Txt.startswith x slT = true
  hya : Txt.startswith y slT = true
  val : slT ++ Txt.join slT (cpre [c0, c1, c2] [d0, d1, d2]) = v
theorem alike_eq {x y b : Int} (hb : 0 < b) (hx : 0 ≤ x) (hy : 0 ≤ y) (hx' : x < b * b * b) (hy' : y < b * b * b) :
    alikeL x y b 4 = (if x = y then [0] else []) ++ (if x / b = y / b then [1] else []) ++ (if x / b / b = y / b / b then [2] else []) ++ [3] := by
  have d3 : ∀ {x : Int}, 0 ≤ x → x < b * b * b → x / b / b / b = 0 := fun {x} h0 h1 => by
    have a1 : x / b < b * b := Int.ediv_lt_of_lt_mul hb h1
    have a2 : x / b / b < b := Int.ediv_lt_of_lt_mul hb a1
    exact Int.ediv_eq_zero_of_lt (Int.ediv_nonneg (Int.ediv_nonneg h0 (by (first | lia | omega))) (by (first | lia | omega))) a2
  have p2 : ∀ x : Int, x / b ^ 2 = x / b / b := fun x => by rw [show b ^ 2 = b * b by rw [Int.pow_succ, Int.pow_succ, Int.pow_zero, Int.one_mul], ← Int.ediv_ediv_of_nonneg (by (first | lia | omega))]
  have p3 : ∀ x : Int, x / b ^ 3 = x / b / b / b := fun x => by rw [Int.pow_succ, ← Int.ediv_ediv_of_nonneg (Int.pow_nonneg (by (first | lia | omega))), p2]
  rw [alikeL_succ, alikeL_succ, alikeL_succ, alikeL_succ, p3, p3, p2, p2, d3 hx hx', d3 hy hy', if_pos rfl]
  simp [alikeL, show b ^ 1 = b by rw [Int.pow_succ, Int.pow_zero, Int.one_mul]]
theorem alike_some {x y b : Int} (hb : 0 < b) (hx : 0 ≤ x) (hy : 0 ≤ y) (hx' : x < b * b * b) (hy' : y < b * b * b) : ∃ k rest, alikeL x y b 4 = k :: rest ∧ 0 ≤ k ∧ k < 4 := by
  rw [alike_eq hb hx hy hx' hy']
  by_cases h0 : x = y
  · rw [if_pos h0]; exact ⟨0, _, rfl, by decide, by decide⟩
  · rw [if_neg h0]
    by_cases h1 : x / b = y / b
    · rw [if_pos h1]; exact ⟨1, _, rfl, by decide, by decide⟩
    · rw [if_neg h1]
      by_cases h2 : x / b / b = y / b / b
      · rw [if_pos h2]; exact ⟨2, _, rfl, by decide, by decide⟩
      · rw [if_neg h2]; exact ⟨3, _, rfl, by decide, by decide⟩
theorem n2_kept (i : Nat) : kept (N2 i) = true := by
  unfold kept
  rw [show ((N2 i).length == 0) = false from rfl, bne_iff_ne.mpr]
  · rfl
  · intro q
    have := congrArg Str.length q
    exact absurd this (by show ¬ (2 = Str.length dotT); decide)
theorem parts_D3 (u v t : Nat) : (Txt.split (D3 u v t) slT).filter kept = [N2 u, N2 v, N2 t] := by
  rw [show slT = slX from slS_eq, split_D3]
  rw [List.filter_cons_of_neg (by decide), List.filter_cons_of_pos (n2_kept u), List.filter_cons_of_pos (n2_kept v), List.filter_cons_of_pos (n2_kept t), List.filter_nil]
theorem parts_R3 (u v t : Nat) : (Txt.split (R3 u v t) slT).filter kept = [N2 u, N2 v, N2 t] := by
  rw [show slT = slX from slS_eq, split_R3]
  rw [List.filter_cons_of_neg (by decide), List.filter_cons_of_neg (by decide), List.filter_cons_of_neg (by decide), List.filter_cons_of_pos (n2_kept u), List.filter_cons_of_neg (by decide), List.filter_cons_of_neg (by decide),
    List.filter_cons_of_pos (n2_kept v), List.filter_cons_of_neg (by decide), List.filter_cons_of_neg (by decide), List.filter_cons_of_pos (n2_kept t), List.filter_nil]
theorem rep_is (u v t : Nat) : repS (D3 u v t) = R3 u v t := rep_D3 u v t
theorem common_plain {x y b : Int} (hb : 0 < b) (hb' : b < 65) (hx : 0 ≤ x) (hy : 0 ≤ y) (hx' : x < b * b * b) (hy' : y < b * b * b) : ∃ c0 c1 c2 d0 d1 d2, CommonAt (dueS x b) (repS (dueS y b)) (cutXY b x y) c0 c1 c2 d0 d1 d2 := by
  obtain ⟨u, v, t, e, hu, hv, ht, eu, ev, et⟩ := due_D (x := x) hb hb'
  obtain ⟨u1, v1, t1, e1, hu1, hv1, ht1, eu1, ev1, et1⟩ := due_D (x := y) hb hb'
  have lb : ∀ {x : Int}, 0 ≤ x → x < b * b * b → x / b / b % b = x / b / b := fun {x} h0 h1 => by
    have a1 : x / b < b * b := Int.ediv_lt_of_lt_mul hb h1
    exact Int.emod_eq_of_lt (Int.ediv_nonneg (Int.ediv_nonneg h0 (by (first | lia | omega))) (by (first | lia | omega))) (Int.ediv_lt_of_lt_mul hb a1)
  rw [lb hx hx'] at eu
  rw [lb hy hy'] at eu1
  have x1 := Int.ediv_mul_add_emod (x / b) b
  have y1 := Int.ediv_mul_add_emod (y / b) b
  have x0 := Int.ediv_mul_add_emod x b
  have y0 := Int.ediv_mul_add_emod y b
  rw [e1, rep_is, cutXY, cutS, alike_eq hb hx hy hx' hy', e]
  have key : ∀ (cp : List Str), cpre [N2 u, N2 v, N2 t] [N2 u1, N2 v1, N2 t1] = cp → (cp.map (·.length)).sum + cp.length * slT.length ≤ 10000 → (Txt.join slT cp).length ≤ 10000 → slT ++ Txt.join slT cp = (if (((if x = y then [0] else []) ++ (if x / b = y / b then [1] else []) ++ (if x / b / b = y / b / b then [2] else []) ++ [3] : List Int).headD 0) < 3 then Txt.slice (D3 u v t) none (some (3 * (3 - (((if x = y then [0] else []) ++ (if x / b = y / b then [1] else []) ++ (if x / b / b = y / b / b then [2] else []) ++ [3] : List Int).headD 0)))) else slS) →
      ∃ c0 c1 c2 d0 d1 d2, CommonAt (D3 u v t) (R3 u1 v1 t1) (if (((if x = y then [0] else []) ++ (if x / b = y / b then [1] else []) ++ (if x / b / b = y / b / b then [2] else []) ++ [3] : List Int).headD 0) < 3 then Txt.slice (D3 u v t) none (some (3 * (3 - (((if x = y then [0] else []) ++ (if x / b = y / b then [1] else []) ++ (if x / b / b = y / b / b then [2] else []) ++ [3] : List Int).headD 0)))) else slS) c0 c1 c2 d0 d1 d2 := by
    intro cp hcp hs hj hv
    refine ⟨N2 u, N2 v, N2 t, N2 u1, N2 v1, N2 t1, parts_D3 .., parts_R3 .., by rw [hcp]; exact hs, by rw [hcp]; exact hj, (by decide : 9 + 2 ≤ 1000), (by decide : 18 + 2 ≤ 1000), ?_, ?_, ?_, ?_, ?_, by rw [hcp]; exact hv⟩
    · rw [show slT = slX from slS_eq, split_D3]; exact (by decide : 4 ≤ 100)
    · rw [show slT = slX from slS_eq, split_R3]; exact (by decide : 10 ≤ 100)
    · have n2 : ∀ i, (N2 i).length ≤ 1000 := fun i => (by decide : 2 ≤ 1000)
      rw [show slT = slX from slS_eq, split_R3, split_D3]
      intro c hc
      simp only [List.mem_cons, List.not_mem_nil, or_false] at hc
      rcases hc with (rfl | rfl | rfl | rfl) | (rfl | rfl | rfl | rfl | rfl | rfl | rfl | rfl | rfl | rfl) <;> first | exact n2 _ | decide
    · show Txt.startswith (D3 u v t) slX = true
      simp [Txt.startswith, StrLaws.subAt_eq, slX, D3, Str.length]
    · show Txt.startswith (R3 u1 v1 t1) slX = true
      simp [Txt.startswith, StrLaws.subAt_eq, slX, R3, Str.length]
  by_cases h2 : x / b / b = y / b / b
  · have q2 : u = u1 := by (first | lia | omega)
    subst q2
    by_cases h1 : x / b = y / b
    · have q1 : v = v1 := by rw [h1] at ev; (first | lia | omega)
      subst q1
      by_cases h0 : x = y
      · have q0 : t = t1 := by rw [h0] at et; (first | lia | omega)
        subst q0
        refine key [N2 u, N2 v, N2 t] (by simp [cpre]) (by show 2 + (2 + (2 + 0)) + 3 * 1 ≤ 10000; decide) ((by decide : 8 ≤ 10000)) ?_
        rw [if_pos h0]
        exact ((slice_to (x := D3 u v t) (k := 9) (by exact (by decide : 9 ≤ 9))).trans rfl).symm
      · have q0 : ¬ N2 t = N2 t1 := fun q => h0 (by have := n2_inj q; rw [h1] at x0; (first | lia | omega))
        refine key [N2 u, N2 v] (by simp [cpre, q0]) (by show 2 + (2 + 0) + 2 * 1 ≤ 10000; decide) ((by decide : 5 ≤ 10000)) ?_
        rw [if_neg h0, if_pos h1]
        exact ((slice_to (x := D3 u v t) (k := 6) (by exact (by decide : 6 ≤ 9))).trans rfl).symm
    · have h0 : ¬ x = y := fun q => h1 (by rw [q])
      have q1 : ¬ N2 v = N2 v1 := fun q => h1 (by have := n2_inj q; rw [h2] at x1; (first | lia | omega))
      refine key [N2 u] (by simp [cpre, q1]) (by show 2 + 0 + 1 * 1 ≤ 10000; decide) ((by decide : 2 ≤ 10000)) ?_
      rw [if_neg h0, if_neg h1, if_pos h2]
      exact ((slice_to (x := D3 u v t) (k := 3) (by exact (by decide : 3 ≤ 9))).trans rfl).symm
  · have h1 : ¬ x / b = y / b := fun q => h2 (by rw [q])
    have h0 : ¬ x = y := fun q => h1 (by rw [q])
    have q2 : ¬ N2 u = N2 u1 := fun q => h2 (by have := n2_inj q; (first | lia | omega))
    refine key [] (by simp [cpre, q2]) (by show 0 + 0 * 1 ≤ 10000; decide) ((by decide : 0 ≤ 10000)) ?_
    rw [if_neg h0, if_neg h1, if_neg h2]
    rfl
theorem cut_all {x b k : Int} : ∀ z ∈ (cutS x b k).cps.toList, z ∈ (dueS x b).cps.toList ∨ z = 47 := by
  unfold cutS
  split
  · intro z hz
    left
    unfold Txt.slice at hz
    split at hz
    · exact hz
    · obtain ⟨i, _, hi⟩ := List.mem_filterMap.mp (by simpa using hz)
      exact Array.mem_toList_iff.mpr (Array.mem_of_getElem? hi)
  · intro z hz; right
    exact List.mem_singleton.mp hz
theorem cutXY_ok {x y b : Int} (hb : 0 < b) (hb' : b < 65) : PyData.strOk (cutXY b x y) = true := by
  have h := due_ok (x := x) hb hb'
  unfold PyData.strOk at h ⊢
  rw [Array.all_eq_true_iff_forall_mem] at h ⊢
  intro z hz
  rcases cut_all z (Array.mem_toList_iff.mpr hz) with hz | rfl
  · exact h z (Array.mem_toList_iff.mp hz)
  · decide
theorem dup_perm : ∀ l : List Str, (dup l).Perm (l ++ l)
  | [] => .refl _
  | x :: l => by
    show (x :: x :: dup l).Perm (x :: (l ++ x :: l))
    exact (((dup_perm l).cons x).trans (List.perm_middle.symm)).cons x
theorem rising_le : ∀ {ss : List Str} {p : Str}, risingS p ss = true → (p :: ss).Pairwise fun a b => ¬ b.cps.toList < a.cps.toList
  | [], p, _ => by simp
  | x :: r, p, h => by
    simp only [risingS, Bool.and_eq_true, Bool.not_eq_true', ltCps_eq, decide_eq_false_iff_not] at h
    have ih := rising_le h.2
    refine List.pairwise_cons.mpr ⟨fun z hz => ?_, ih⟩
    rcases List.mem_cons.mp hz with rfl | hz
    · exact h.1
    · have h2 := (List.pairwise_cons.mp ih).1 z hz
      exact fun q => h.1 (List.lt_of_le_of_lt (List.not_lt.mp h2) q)
theorem dup_rises : ∀ {l : List Str}, l.Pairwise (fun a b => ¬ b.cps.toList < a.cps.toList) → (dup l).Pairwise fun a b => ¬ b.cps.toList < a.cps.toList
  | [], _ => by simp [dup]
  | x :: l, h => by
    obtain ⟨h1, h2⟩ := List.pairwise_cons.mp h
    show (x :: x :: dup l).Pairwise _
    have mem : ∀ z ∈ dup l, z ∈ l := fun z hz => by
      rcases List.mem_append.mp ((dup_perm l).mem_iff.mp hz) with h | h <;> exact h
    refine List.pairwise_cons.mpr ⟨fun z hz => ?_, List.pairwise_cons.mpr ⟨fun z hz => h1 z (mem z hz), dup_rises h2⟩⟩
    rcases List.mem_cons.mp hz with rfl | hz
    · exact List.lt_irrefl _
    · exact h1 z (mem z hz)
theorem twice_plain {b : Int} {xs : List Int} {ss : List Str} (hb : 0 < b) (hb' : b < 65) (hx : ∀ x ∈ xs, 0 ≤ x ∧ x < b * b * b) (hp : ss.Perm (xs.map (dueS · b) ++ xs.map (dueS · b))) (hs : sortedS ss = true) : ss = dup ((sortI xs).map (dueS · b)) := by
  have r1 : ss.Pairwise fun a b => ¬ b.cps.toList < a.cps.toList := by
    cases ss with
    | nil => exact .nil
    | cons p r => exact rising_le hs
  have r : ∀ x ∈ sortI xs, 0 ≤ x ∧ x < b * b * b := fun x hm => hx x ((sortI_perm xs).mem_iff.mp hm)
  have r2 : ((sortI xs).map (dueS · b)).Pairwise fun a b => ¬ b.cps.toList < a.cps.toList := by
    rw [List.pairwise_map]
    exact (sortI_rises xs).imp_of_mem fun {x y} mx my h q => by
      have := (due_lt hb hb' (r y my).1 (r x mx).1 (r y my).2 (r x mx).2).mp q
      (first | lia | omega)
  have pm := (sortI_perm xs).map (dueS · b)
  refine List.Perm.eq_of_pairwise (fun a c _ _ h1 h2 => ?_) r1 (dup_rises r2) (hp.trans ((pm.symm.append pm.symm).trans (dup_perm _).symm))
  have e3 : a.cps.toList = c.cps.toList := List.le_antisymm (List.not_lt.mp h1) (List.not_lt.mp h2)
  exact Str.ext' (Array.toList_inj.mp e3)
end Mine
end
section
open PySem PySem.W PyProof.Rows PySem.Calls PyProof.Rows.LCg
namespace Mine
/-- of the sorted zs those that are not in ws, twice where above all of these -/
def aloneOf (b : Int) (ws : List Int) (x : Int) : List Str := if x ∈ ws then [] else if ∀ w ∈ ws, w < x then [dueS x b, dueS x b] else [dueS x b]
def aloneL (b : Int) (zs ws : List Int) : List Str := zs.flatMap (aloneOf b ws)
theorem aloneOf_shift {b : Int} {ws : List Int} {w0 x : Int} (h : w0 < x) : aloneOf b (w0 :: ws) x = aloneOf b ws x := by
  have e1 : x ∈ w0 :: ws ↔ x ∈ ws := by
    rw [List.mem_cons]; exact ⟨fun q => q.resolve_left (by (first | lia | omega)), .inr⟩
  have e2 : (∀ w ∈ w0 :: ws, w < x) ↔ ∀ w ∈ ws, w < x := by
    rw [List.forall_mem_cons]; exact ⟨fun q => q.2, fun q => ⟨h, q⟩⟩
  unfold aloneOf
  simp only [e1, e2]
theorem aloneL_shift {b : Int} {ws : List Int} {w0 : Int} : ∀ {zs : List Int}, (∀ z ∈ zs, w0 < z) → aloneL b zs (w0 :: ws) = aloneL b zs ws
  | [], _ => rfl
  | z :: zs, h => by
    unfold aloneL
    rw [List.flatMap_cons, List.flatMap_cons, aloneOf_shift (h z (.head _))]
    exact congrArg _ (aloneL_shift fun y hy => h y (.tail _ hy))
theorem aloneL_above {b : Int} {w : Int} : ∀ {zs : List Int}, (∀ z ∈ zs, w < z) → aloneL b zs [w] = dup (zs.map (dueS · b))
  | [], _ => rfl
  | z :: zs, h => by
    unfold aloneL dup
    have hz := h z (.head _)
    rw [List.flatMap_cons, List.map_cons, List.flatMap_cons]
    have e : aloneOf b [w] z = [dueS z b, dueS z b] := by
      unfold aloneOf
      rw [if_neg (by rw [List.mem_singleton]; (first | lia | omega)), if_pos (by intro u hu; rw [List.mem_singleton.mp hu]; exact hz)]
    rw [e]
    exact congrArg _ (aloneL_above fun y hy => h y (.tail _ hy))
theorem aloneL_in {b : Int} {w : Int} {zs ws : List Int} : aloneL b (w :: zs) (w :: ws) = aloneL b zs (w :: ws) := by
  unfold aloneL
  rw [List.flatMap_cons]
  have : aloneOf b (w :: ws) w = [] := by unfold aloneOf; rw [if_pos (.head _)]
  rw [this, List.nil_append]
theorem aloneOf_low {b : Int} {w x : Int} {ws : List Int} (h : x < w) (hs : ∀ u ∈ ws, w < u) : aloneOf b (w :: ws) x = [dueS x b] := by
  unfold aloneOf
  rw [if_neg, if_neg]
  · intro q; have := q w (.head _); (first | lia | omega)
  · intro q
    rcases List.mem_cons.mp q with q | q
    · (first | lia | omega)
    · have := hs x q; (first | lia | omega)
theorem aloneL_cons {b : Int} {x : Int} {zs ws : List Int} : aloneL b (x :: zs) ws = aloneOf b ws x ++ aloneL b zs ws := rfl
theorem sld_sorted {b : Int} (hb : 0 < b) (hb' : b < 65) : ∀ (n : Nat) {es as : List Int}, es.length + as.length ≤ n → es ≠ [] → as ≠ [] → es.Pairwise (· < ·) → as.Pairwise (· < ·) → (∀ x ∈ es, 0 ≤ x ∧ x < b * b * b) → (∀ x ∈ as, 0 ≤ x ∧ x < b * b * b) →
    SldR (es.map (dueS · b)) (as.map (dueS · b)) (aloneL b es as) (aloneL b as es)
  | _, [], _, _, h, _, _, _, _, _ => absurd rfl h
  | _, _ :: _, [], _, _, h, _, _, _, _ => absurd rfl h
  | 0, _ :: _, _ :: _, hn, _, _, _, _, _, _ => by simp at hn
  | n + 1, e :: es, a :: as, hn, _, _, pe, pa, re, ra => by
    simp only [List.length_cons] at hn
    have he := re e (.head _)
    have ha := ra a (.head _)
    have l1 : sLt (dueS e b) (dueS a b) = decide (e < a) := decide_eq_decide.mpr (due_lt hb hb' he.1 ha.1 he.2 ha.2)
    have l2 : sLt (dueS a b) (dueS e b) = decide (a < e) := decide_eq_decide.mpr (due_lt hb hb' ha.1 he.1 ha.2 he.2)
    obtain ⟨ce, pe'⟩ := List.pairwise_cons.mp pe
    obtain ⟨ca, pa'⟩ := List.pairwise_cons.mp pa
    have re' : ∀ x ∈ es, 0 ≤ x ∧ x < b * b * b := fun x hx => re x (.tail _ hx)
    have ra' : ∀ x ∈ as, 0 ≤ x ∧ x < b * b * b := fun x hx => ra x (.tail _ hx)
    rcases Int.lt_trichotomy e a with h | h | h
    · rw [decide_eq_true h] at l1
      have up : ∀ z ∈ a :: as, e < z := fun z hz => by
        rcases List.mem_cons.mp hz with rfl | hz
        · exact h
        · exact Int.lt_trans h (ca z hz)
      cases es with
      | nil =>
        rw [aloneL_above up, aloneL_cons, aloneOf_low h ca]
        exact .ltE _ _ _ l1
      | cons e' es =>
        rw [aloneL_cons, aloneOf_low h ca, aloneL_shift up]
        exact .lt _ _ _ _ _ _ _ l1 (sld_sorted hb hb' n (by simp only [List.length_cons] at hn ⊢; (first | lia | omega)) (by simp) (by simp) pe' pa re' ra)
    · subst h
      cases es with
      | nil =>
        rw [aloneL_in, aloneL_in (zs := as), aloneL_above ca]
        exact .eqE _ _
      | cons e' es =>
        cases as with
        | nil =>
          rw [aloneL_in, aloneL_above ce, aloneL_in]
          exact .eqA _ _ _
        | cons a' as =>
          rw [aloneL_in, aloneL_shift ce, aloneL_in, aloneL_shift ca]
          exact .eq _ _ _ _ _ _ _ (sld_sorted hb hb' n (by simp only [List.length_cons] at hn ⊢; (first | lia | omega)) (by simp) (by simp) pe' pa' re' ra')
    · rw [decide_eq_true h] at l2
      rw [decide_eq_false (by (first | lia | omega))] at l1
      have up : ∀ z ∈ e :: es, a < z := fun z hz => by
        rcases List.mem_cons.mp hz with rfl | hz
        · exact h
        · exact Int.lt_trans h (ce z hz)
      cases as with
      | nil =>
        rw [aloneL_above up, aloneL_cons, aloneOf_low h ce]
        exact .gtE _ _ _ l1 l2
      | cons a' as =>
        rw [aloneL_shift up, aloneL_cons (x := a), aloneOf_low h ce]
        exact .gt _ _ _ _ _ _ _ l1 l2 (sld_sorted hb hb' n (by simp only [List.length_cons] at hn ⊢; (first | lia | omega)) (by simp) (by simp) pe pa' re ra')
theorem aloneL_perm {b : Int} {zs ws ws' : List Int} (h : ws.Perm ws') : aloneL b zs ws = aloneL b zs ws' := by
  unfold aloneL
  refine congrArg (fun f => List.flatMap f zs) (funext fun x => ?_)
  unfold aloneOf
  have e1 : x ∈ ws ↔ x ∈ ws' := h.mem_iff
  have e2 : (∀ w ∈ ws, w < x) ↔ ∀ w ∈ ws', w < x := ⟨fun q w hw => q w (h.mem_iff.mpr hw), fun q w hw => q w (h.mem_iff.mp hw)⟩
  simp only [e1, e2]
theorem sortI_strict {xs : List Int} (h : xs.Nodup) : (sortI xs).Pairwise (· < ·) :=
  ((sortI_rises xs).and ((sortI_perm xs).nodup_iff.mpr h)).imp fun ⟨a, b⟩ => Int.lt_iff_le_and_ne.mpr ⟨a, b⟩
theorem sld_plain {b : Int} (hb : 0 < b) (hb' : b < 65) {xs ys : List Int} (nx : xs ≠ []) (ny : ys ≠ []) (dx : xs.Nodup) (dy : ys.Nodup) (rx : ∀ x ∈ xs, 0 ≤ x ∧ x < b * b * b) (ry : ∀ x ∈ ys, 0 ≤ x ∧ x < b * b * b) :
    SldR ((sortI xs).map (dueS · b)) ((sortI ys).map (dueS · b)) (aloneL b (sortI xs) ys) (aloneL b (sortI ys) xs) := by
  rw [aloneL_perm (sortI_perm ys).symm, aloneL_perm (zs := sortI ys) (sortI_perm xs).symm]
  exact sld_sorted hb hb' _ (Nat.le_refl _) (fun q => nx (by simpa [q] using (sortI_perm xs).symm)) (fun q => ny (by simpa [q] using (sortI_perm ys).symm)) (sortI_strict dx) (sortI_strict dy)
    (fun x hx => rx x ((sortI_perm xs).mem_iff.mp hx)) (fun x hx => ry x ((sortI_perm ys).mem_iff.mp hx))
theorem due_nodup {b : Int} (hb : 0 < b) (hb' : b < 65) {xs : List Int} (dx : xs.Nodup) (rx : ∀ x ∈ xs, 0 ≤ x ∧ x < b * b * b) : ((sortI xs).map (dueS · b)).Nodup := by
  have p := (sortI_strict dx)
  have r : ∀ x ∈ sortI xs, 0 ≤ x ∧ x < b * b * b := fun x hx => rx x ((sortI_perm xs).mem_iff.mp hx)
  rw [List.Nodup, List.pairwise_map]
  exact p.imp_of_mem fun {x y} hx hy h q => by
    have := due_inj hb hb' (r x hx).1 (r y hy).1 (r x hx).2 (r y hy).2 q
    (first | lia | omega)
end Mine
end
section
open PySem PySem.W PyProof.Rows PySem.Calls PyProof.Rows.LCg
set_option maxRecDepth 100000
namespace Mine
/-- the law's body and scope, looked up in the text -/
def lawBody : List Stmt := match PySem.Challenge.rw_rt0087_01.row.prog.main.body.reverse with
  | .FunctionDef _ _ b .. :: _ => b
  | _ => []
def lawStmt (k : Nat) : Stmt := match lawBody.drop k with
  | s :: _ => s
  | [] => .Pass { line := 0, col := 0, endLine := 0, endCol := 0 }
def lawScope : Scope := match PySem.Challenge.rw_rt0087_01.row.prog.main.body.reverse with
  | .FunctionDef _ _ _ _ _ _ sc .. :: _ => sc
  | _ => { kind := .function, names := [], isGenerator := false, isCoroutine := false }
abbrev lawEnv (L fa : Addr) (cd : Value) : Env := envOfC (Str.ofString "law") lawScope L fa cd
/-- the law's five cells -/
inductive CellsL (L : Addr) (v1 v2 v3 v4 v5 : Option Value) (cs : List (Addr × Obj)) : Prop
  | mk (o1 : Obj) (o2 : Obj) (o3 : Obj) (o4 : Obj) (o5 : Obj) (f0 : cs = [(L + 5, o5), (L + 4, o4), (L + 3, o3), (L + 2, o2), (L + 1, o1)]) (f1 : o1.data = .cell v1) (f2 : o2.data = .cell v2) (f3 : o3.data = .cell v3) (f4 : o4.data = .cell v4) (f5 : o5.data = .cell v5) : CellsL L v1 v2 v3 v4 v5 cs
def mapL (l : Addr) (po to : Option Value) : Str → Option Value := fun y =>
  if y = Str.ofString "pairs" then po else if y = Str.ofString "taken" then to else if y = Str.ofString "script" then some (.ref l) else none
def NoTab (l : List (Addr × Obj)) : Prop := ∀ p ∈ l, p.1 ∉ tabX
theorem not_tab {a : Addr} (x : @Ne Nat a 37) (y : @Ne Nat a 44) : a ∉ tabX := fun hm => by
  simp only [tabX, List.mem_cons, List.not_mem_nil, or_false] at hm
  rcases hm with rfl | rfl
  · exact y rfl
  · exact x rfl
theorem NoTab.cons {a : Addr} {o : Obj} {l : List (Addr × Obj)} (x : a ∉ tabX) (h : NoTab l) : NoTab ((a, o) :: l) := fun p hp => by
  rcases List.mem_cons.mp hp with rfl | hp
  · exact x
  · exact h p hp
theorem NoTab.tail {p : Addr × Obj} {l : List (Addr × Obj)} (h : NoTab (p :: l)) : NoTab l := fun q hq => h q (.tail _ hq)
/-- where the law stands: its names, its ledger, the tables last -/
inductive LSt (h₁ : Heap) (L : Addr) (sh : Shared) (m : Str → Option Value) (front : List (Addr × Obj)) (s : Shared) : Prop
  | mk (h : Heap) (tk : Nat) (p1 : Obj) (c1 : Addr) (q1 : Obj) (p2 : Obj) (c2 : Addr) (q2 : Obj) (f0 : s = { sh with heap := h, toks := tk }) (f1 : Fr (hideAll h₁ tabX) L h m) (f2 : News (hideAll h₁ tabX) L h (front ++ tab4 p1 c1 q1 p2 c2 q2)) (f3 : TabSt h₁ p1 c1 q1 p2 c2 q2) (f4 : Off1 c1 front) (f5 : Off1 c2 front) (f6 : NoTab front) : LSt h₁ L sh m front s
/-- a statement has run to its end -/
def Nx (P : Shared → Prop) (f : Flow) (s : Shared) : Prop := f = .next ∧ P s
section
variable {prog : Program} {w : World} {A : Around} {E : Value → Shared → Prop} {env : Env} {s : Shared}
theorem exec_one {st : Stmt} {rest : List Stmt} {P : Shared → Prop} {Q : Flow → Shared → Prop} (h : wpAny (model prog w) A (exec st env) (Nx P) E s) (k : ∀ s', P s' → wpAny (model prog w) A (execs rest env) Q E s') : wpAny (model prog w) A (execs (st :: rest) env) Q E s := by
  refine wpAny_execs_cons (wpAny_mono h (fun f s' hf => ?_) fun _ _ e => e)
  obtain ⟨rfl, hp⟩ := hf
  exact k s' hp
end
/-- what the law's walk leans on -/
structure LCtx (w : World) (loose : List Str) (mean : ExcName → Option Value) (mg mb : Str → Option Value) (dp un : Nat) (gd : Option (List Code)) (frames : List Env) (base h₁ : Heap) : Prop where
  B : Below (AA dp un gd frames) base frames (hideAll h₁ tabX)
  X : (Mine.hd.heap_1 w.params).In (hideAll h₁ tabX)
  T : Top topProg loose mean mg mb (hideAll h₁ tabX)
  tabs : Tabs h₁
  hd : dp + 60 < recursionLimit
  hu : un + 8 * 60 < cLine
theorem tabs_lt {h₁ h : Heap} {L : Addr} {m : Str → Option Value} (hT : Tabs h₁) (F : Fr (hideAll h₁ tabX) L h m) : (@LT.lt Nat _ 37 L) ∧ (@LT.lt Nat _ 44 L) := by
  obtain ⟨⟨_, e1, _⟩, ⟨_, e2, _⟩⟩ := hT
  have z := F.above
  rw [hideAll_size] at z
  exact ⟨Nat.lt_of_lt_of_le (Heap.lt_size e1) z, Nat.lt_of_lt_of_le (Heap.lt_size e2) z⟩
/-- a statement of the law leads from P to P' -/
def LawRun (w : World) (dp un : Nat) (gd : Option (List Code)) (frames : List Env) (L fa : Addr) (cd : Value) (k : Nat) (P P' : Shared → Prop) : Prop :=
  ∀ (E : Value → Shared → Prop) (s : Shared), P s → wpAny (model PySem.Challenge.rw_rt0087_01.row.prog w) ((AA dp un gd frames).deeper (lawEnv L fa cd)) (exec (lawStmt k) (lawEnv L fa cd)) (Nx P') E s
theorem LawRun.of {w : World} {dp un : Nat} {gd : Option (List Code)} {frames : List Env} {L fa : Addr} {cd : Value} {k : Nat} {P P' : Shared → Prop}
    (h : ∀ sc st, sc = lawScope → st = lawStmt k → ∀ (E : Value → Shared → Prop) (s : Shared), P s → wpAny (model PySem.Challenge.rw_rt0087_01.row.prog w) ((AA dp un gd frames).deeper (envOfC (Str.ofString "law") sc L fa cd)) (exec st (envOfC (Str.ofString "law") sc L fa cd)) (Nx P') E s) :
    LawRun w dp un gd frames L fa cd k P P' := h _ _ rfl rfl
end Mine
end
section
open PySem PySem.W PyProof.Rows PySem.Calls PyProof.Rows.LCg
set_option maxRecDepth 100000
namespace Mine
inductive LawA (h₁ : Heap) (L : Addr) (sh : Shared) (l : Addr) (ns : List Int) (cs : List (Addr × Obj)) (s : Shared) : Prop
  | mk (T : Addr) (TV : List Value) (nT : Nat) (f0 : IntsAre TV (ns.take 6)) (f1 : Off1 T cs) (f2 : LSt h₁ L sh (mapL l none (some (.ref T))) ((T, PySem.W.listOf TV.toArray nT) :: cs) s) : LawA h₁ L sh l ns cs s
inductive LawB (h₁ : Heap) (L : Addr) (sh : Shared) (l : Addr) (ns : List Int) (s : Shared) : Prop
  | mk (nn : Nat) (tw : Tok) (T : Addr) (TV : List Value) (nT : Nat) (cs : List (Addr × Obj)) (f0 : 1 ≤ nn) (f1 : nn ≤ 6) (f2 : CellsL L (some (.int ((nn : Nat) : Int) tw)) none none none none cs) (f3 : IntsAre TV (ns.take 6)) (f4 : Off1 T cs) (f5 : LSt h₁ L sh (mapL l none (some (.ref T))) ((T, PySem.W.listOf TV.toArray nT) :: cs) s) : LawB h₁ L sh l ns s
theorem cells_notab {L : Addr} (lt : (@LT.lt Nat _ 37 L) ∧ (@LT.lt Nat _ 44 L)) {k1 k2 k3 k4 k5 : Obj} : NoTab [(L + 5, k5), (L + 4, k4), (L + 3, k3), (L + 2, k2), (L + 1, k1)] :=
  .cons (not_tab (Nat.ne_of_gt (by (first | lia | omega))) (Nat.ne_of_gt (by (first | lia | omega)))) (.cons (not_tab (Nat.ne_of_gt (by (first | lia | omega))) (Nat.ne_of_gt (by (first | lia | omega)))) (.cons (not_tab (Nat.ne_of_gt (by (first | lia | omega))) (Nat.ne_of_gt (by (first | lia | omega)))) (.cons (not_tab (Nat.ne_of_gt (by (first | lia | omega))) (Nat.ne_of_gt (by (first | lia | omega)))) (.cons (not_tab (Nat.ne_of_gt (by (first | lia | omega))) (Nat.ne_of_gt (by (first | lia | omega)))) (fun _ h => nomatch h)))))
theorem mapL_t {l : Addr} {po to : Option Value} {v : Value} : (fun y => if y = Str.ofString "taken" then some v else mapL l po to y) = mapL l po (some v) := by
  funext y
  by_cases q : y = Str.ofString "taken"
  · subst q; rfl
  · unfold mapL; simp only [if_neg q]
section
set_option maxHeartbeats 1000000 in
theorem law_0 {w : World} {loose : List Str} {mean : ExcName → Option Value} {mg mb : Str → Option Value} {dp un : Nat} {gd : Option (List Code)} {frames : List Env} {base h₁ : Heap} (C : LCtx w loose mean mg mb dp un gd frames base h₁) {L fa : Addr} {cd : Value} {sh : Shared}
    (l : Addr) (its : List Value) (ns : List Int) (hp : (hideAll h₁ tabX).IsList l its.toArray) (hi : IntsAre its ns) (hn : ns.length ≤ 63) {cs : List (Addr × Obj)} (hc : CellsL L none none none none none cs) :
    LawRun w dp un gd frames L fa cd 0 (LSt h₁ L sh (mapL l none none) cs) (LawA h₁ L sh l ns cs) := by
  w_top off
  k_with_none
  k_with "k_room" => (ktr_room)
  k_with "k_ne" => (first | exact offN (by assumption) (by k_mem) | exact Ne.symm (offN (by assumption) (by k_mem)) | (refine neN ?_; (try dsimp only); (first | lia | omega)))
  k_with "call ref" => ((refine held (p := wpAny _ _ (PySem.call (Value.ref _) _) _ _ _) ?_))
  k_with "binaryOp Pow int int" => ((refine held (p := wpAny _ _ (binaryOp _ _ _) _ _ _) ?_))
  k_with "binaryOp Mod int int" => ((refine fmod_gen (by decide) ?_; intro _ _ _ _ _; try dsimp only))
  refine .of fun sc st hsc hst E s hP => ?_
  obtain ⟨B, X, T, hT, hd, hu⟩ := C
  conv at hsc => rhs; whnf
  conv at hst => rhs; whnf
  subst hsc hst
  obtain ⟨h, tk, p1, c1, q1, p2, c2, q2, rfl, F, N, TS, o1, o2, nt⟩ := hP
  obtain ⟨k1, k2, k3, k4, k5, rfl, d1, d2, d3, d4, d5⟩ := hc
  simp only [List.cons_append, List.nil_append, tab4] at N
  revert X; k_fill; intro X
  k_steps
  rename Fr _ _ _ _ => F1
  rename News _ _ _ _ => N1
  rename_i D ws _ hI _ _ lD _
  rw [mapL_t] at F1
  exact ⟨rfl, D, ws, 0, hI, ⟨by k_ne, by k_ne, by k_ne, by k_ne, by k_ne, trivial⟩, _, _, p1, c1, q1, p2, c2, q2, rfl, F1, N1, TS, ⟨by k_ne, o1⟩, ⟨by k_ne, o2⟩, .cons (not_tab (Nat.ne_of_gt lD.2.2.2.2.2.1) (Nat.ne_of_gt lD.2.2.2.2.2.2.2.1)) nt⟩
set_option maxHeartbeats 1000000 in
theorem law_1 {w : World} {loose : List Str} {mean : ExcName → Option Value} {mg mb : Str → Option Value} {dp un : Nat} {gd : Option (List Code)} {frames : List Env} {base h₁ : Heap} (C : LCtx w loose mean mg mb dp un gd frames base h₁) {L fa : Addr} {cd : Value} {sh : Shared}
    (l : Addr) (ns : List Int) (hn : ns.length ≤ 63) {cs : List (Addr × Obj)} (hc : CellsL L none none none none none cs) :
    LawRun w dp un gd frames L fa cd 1 (LawA h₁ L sh l ns cs) (LawB h₁ L sh l ns) := by
  w_top off
  k_with_none
  k_with "k_room" => (ktr_room)
  k_with "k_ne" => (first | exact offN (by assumption) (by k_mem) | exact Ne.symm (offN (by assumption) (by k_mem)) | (refine neN ?_; (try dsimp only); (first | lia | omega)))
  k_with "call ref" => ((refine held (p := wpAny _ _ (PySem.call (Value.ref _) _) _ _ _) ?_))
  k_with "binaryOp Pow int int" => ((refine held (p := wpAny _ _ (binaryOp _ _ _) _ _ _) ?_))
  k_with "binaryOp Mod int int" => ((refine fmod_gen (by decide) ?_; intro _ _ _ _ _; try dsimp only))
  refine .of fun sc st hsc hst E s hP => ?_
  obtain ⟨B, X, T, hT, hd, hu⟩ := C
  conv at hsc => rhs; whnf
  conv at hst => rhs; whnf
  subst hsc hst
  obtain ⟨D, ws, nD, hI, oD, h, tk, p1, c1, q1, p2, c2, q2, rfl, F, N, TS, o1, o2, nt⟩ := hP
  obtain ⟨k1, k2, k3, k4, k5, rfl, d1, d2, d3, d4, d5⟩ := hc
  simp only [List.cons_append, List.nil_append, tab4] at N
  revert X; k_fill; intro X
  have lt := tabs_lt hT F
  k_steps
  rename Fr _ _ _ _ => F1
  rename News _ _ _ _ => N1
  rename_i _ _ _ v _ _ v0 v1 _ o' d'
  obtain ⟨k, hk⟩ : ∃ k : Nat, 1 + v = ((k : Nat) : Int) := ⟨(1 + v).toNat, by (first | lia | omega)⟩
  rw [hk] at d'
  exact ⟨rfl, k, _, D, ws, nD, _, by (first | lia | omega), by (first | lia | omega), ⟨o', k2, k3, k4, k5, rfl, d', d2, d3, d4, d5⟩, hI, ⟨oD.1, oD.2.1, oD.2.2.1, oD.2.2.2.1, oD.2.2.2.2.1, trivial⟩, _, _, p1, c1, q1, p2, c2, q2, rfl, F1, N1, TS, ⟨o1.1, o1.2.1, o1.2.2.1, o1.2.2.2.1, o1.2.2.2.2.1, o1.2.2.2.2.2.1, trivial⟩, ⟨o2.1, o2.2.1, o2.2.2.1, o2.2.2.2.1, o2.2.2.2.2.1, o2.2.2.2.2.2.1, trivial⟩, .cons (nt _ (.head _)) (cells_notab lt)⟩
/-- after the shelves -/
inductive LawC (h₁ : Heap) (L : Addr) (sh : Shared) (l : Addr) (s : Shared) : Prop
  | mk (nn : Nat) (tw : Tok) (T : Addr) (D : Addr) (a : Addr) (b : Addr) (A : List Value) (B : List Value) (nD : Nat) (na : Nat) (nb : Nat) (xs : List Int) (ys : List Int) (cs : List (Addr × Obj)) (f0 : 1 ≤ nn) (f1 : nn ≤ 6) (f2 : CellsL L (some (.int ((nn : Nat) : Int) tw)) (some (.ref D)) none none none cs) (f3 : IntsAre A xs) (f4 : IntsAre B ys) (f5 : Shelf (8 ^ nn) 15 xs) (f6 : Shelf (8 ^ nn) 15 ys) (f7 : (@Ne Nat D a)) (f8 : (@Ne Nat D b)) (f9 : (@Ne Nat a b)) (f10 : Off1 D cs) (f11 : Off1 a cs) (f12 : Off1 b cs) (f13 : LSt h₁ L sh (mapL l none (some (.ref T))) ((D, PySem.W.listOf #[.ref a, .ref b] nD) :: (a, PySem.W.listOf A.toArray na) :: (b, PySem.W.listOf B.toArray nb) :: cs) s) : LawC h₁ L sh l s
theorem shelf_nodup {k : Nat} (h1 : 1 ≤ k) (h6 : k ≤ 6) : [3 % (8 : Int) ^ k, 300 % 8 ^ k, 4097 % 8 ^ k].Nodup ∧ [3 % (8 : Int) ^ k, 301 % 8 ^ k].Nodup := by
  rcases (by (first | lia | omega) : k = 1 ∨ k = 2 ∨ k = 3 ∨ k = 4 ∨ k = 5 ∨ k = 6) with rfl | rfl | rfl | rfl | rfl | rfl <;> decide
theorem off1_len {x : Addr} {h : Heap} {led : List (Addr × Obj)} {L : Addr} {h₀ : Heap} (N : News h₀ L h led) (hx : h.get? x = none) : Off1 x led := off1_of fun p hp q => by
  have := (N p hp).1; rw [q, hx] at this; cases this
set_option maxHeartbeats 1000000 in
theorem law_2 {w : World} {loose : List Str} {mean : ExcName → Option Value} {mg mb : Str → Option Value} {dp un : Nat} {gd : Option (List Code)} {frames : List Env} {base h₁ : Heap} (C : LCtx w loose mean mg mb dp un gd frames base h₁) {L fa : Addr} {cd : Value} {sh : Shared}
    (l : Addr) (ns : List Int) :
    LawRun w dp un gd frames L fa cd 2 (LawB h₁ L sh l ns) (LawC h₁ L sh l) := by
  w_top off
  k_with_none
  k_with "k_room" => (ktr_room)
  k_with "k_ne" => (first | exact offN (by assumption) (by k_mem) | exact Ne.symm (offN (by assumption) (by k_mem)) | (refine neN ?_; (try dsimp only); (first | lia | omega)))
  k_with "call ref" => ((refine held (p := wpAny _ _ (PySem.call (Value.ref _) _) _ _ _) ?_))
  k_with "binaryOp Pow int int" => ((refine held (p := wpAny _ _ (binaryOp _ _ _) _ _ _) ?_))
  k_with "binaryOp Mod int int" => ((refine fmod_gen (by decide) ?_; intro _ _ _ _ _; try dsimp only))
  refine .of fun sc st hsc hst E s hP => ?_
  obtain ⟨B, X, T, hT, hd, hu⟩ := C
  conv at hsc => rhs; whnf
  conv at hst => rhs; whnf
  subst hsc hst
  obtain ⟨nn, tw, D, ws, nD, cs, hn1, hn6, hc, hI, oD, h, tk, p1, c1, q1, p2, c2, q2, rfl, F, N, TS, o1, o2, nt⟩ := hP
  obtain ⟨k1, k2, k3, k4, k5, rfl, d1, d2, d3, d4, d5⟩ := hc
  simp only [List.cons_append, List.nil_append, tab4] at N
  revert X; k_fill; intro X
  have lt := tabs_lt hT F
  k_steps
  refine pow_int (by (first | lia | omega)) (by rw [show ((Builtin.Int.intBits 8 : Nat) : Int) = 4 from rfl]; (first | lia | omega)) ?_
  rw [Int.toNat_natCast]
  k_steps
  have hs0 : (0 : Int) < 8 ^ nn := Int.pow_pos (by decide)
  have hs1 : (8 : Int) ^ nn < 2 ^ 60 := by
    rcases (by (first | lia | omega) : nn = 1 ∨ nn = 2 ∨ nn = 3 ∨ nn = 4 ∨ nn = 5 ∨ nn = 6) with rfl | rfl | rfl | rfl | rfl | rfl <;> decide
  have hl6 : (ns.take 6).length ≤ 6 := by rw [List.length_take]; (first | lia | omega)
  refine use1 (shelves_c D ws (ns.take 6) (8 ^ nn) _ hs0 hs1 hI hl6 (shelf_nodup hn1 hn6).1 (shelf_nodup hn1 hn6).2) B F X N T rfl rfl (by exact roomD hd rfl) (by exact roomU hu rfl) ⟨_, (N _ (.head _)).1, rfl, _, rfl⟩ ?_
  intro v h2 tk2 F2 N2 ks ⟨S, a, b, A, V, xs, ys, nS, na, nb, hv, f1, f2, f3, n1, n2, n3, g1, g2, g3, iA, iB, sA, sB⟩
  subst hv
  have r1 := off1_len N f1
  have r2 := off1_len N f2
  have r3 := off1_len N f3
  have N3 := (new_obj F N N2 f3 g3).1
  have N4 := (new_obj F N N3 f2 g2).1
  have N5 := (new_obj F N N4 f1 g1).1
  clear N N2 N3 N4 F
  replace N5 : News (hideAll h₁ tabX) L h2 [(S, PySem.W.listOf #[Value.ref a, Value.ref b] nS), (a, PySem.W.listOf A.toArray na), (b, PySem.W.listOf V.toArray nb), (L + 5, k5), (L + 4, k4), (L + 3, k3), (L + 2, k2), (L + 1, k1), (37, p1), (c1, q1), (44, p2), (c2, q2)] := news_sub N5 (by lcg_sub)
  have w1 : (@Ne Nat c1 (L + 2)) := Ne.symm (offN o1 (by k_mem))
  have w2 : (@Ne Nat c2 (L + 2)) := Ne.symm (offN o2 (by k_mem))
  k_steps
  rename Fr _ _ _ _ => F6
  rename News _ _ _ _ => N6
  rename_i h' o' d'
  exact ⟨rfl, nn, tw, D, S, a, b, A, V, nS, na, nb, xs, ys, _, hn1, hn6, ⟨k1, o', k3, k4, k5, rfl, d1, d', d3, d4, d5⟩, iA, iB, sA, sB, n1, n2, n3, ⟨by k_ne, by k_ne, by k_ne, r1.2.2.2.2.1, by k_ne, trivial⟩, ⟨by k_ne, by k_ne, by k_ne, r2.2.2.2.2.1, by k_ne, trivial⟩, ⟨by k_ne, by k_ne, by k_ne, r3.2.2.2.2.1, by k_ne, trivial⟩,
    h', _, p1, c1, q1, p2, c2, q2, rfl, F6, N6, TS, ⟨by k_ne, by k_ne, by k_ne, by k_ne, by k_ne, by k_ne, Ne.symm w1, by k_ne, trivial⟩, ⟨by k_ne, by k_ne, by k_ne, by k_ne, by k_ne, by k_ne, Ne.symm w2, by k_ne, trivial⟩, .cons (not_tab (by k_ne) (by k_ne)) (.cons (not_tab (by k_ne) (by k_ne)) (.cons (not_tab (by k_ne) (by k_ne)) (cells_notab lt)))⟩
end
end Mine
end
section
open PySem PySem.W PyProof.Rows PySem.Calls PyProof.Rows.LCg
set_option maxRecDepth 100000
namespace Mine
/-- a ledger that ends with the tables -/
inductive TabInv (h₁ : Heap) (pre nw : List (Addr × Obj)) : Prop
  | mk (p1 : Obj) (c1 : Addr) (q1 : Obj) (p2 : Obj) (c2 : Addr) (q2 : Obj) (f0 : nw = pre ++ tab4 p1 c1 q1 p2 c2 q2) (f1 : TabSt h₁ p1 c1 q1 p2 c2 q2) (f2 : Off1 c1 pre) (f3 : Off1 c2 pre) : TabInv h₁ pre nw
theorem mem_map1 {l l' : List (Addr × Obj)} (e : l'.map Prod.fst = l.map Prod.fst) {p : Addr × Obj} (hp : p ∈ l') : ∃ q ∈ l, q.1 = p.1 := by
  have h := List.mem_map_of_mem (f := Prod.fst) hp
  rw [e] at h
  exact List.mem_map.mp h
theorem off1_map {c : Addr} {l l' : List (Addr × Obj)} (h : Off1 c l) (e : l'.map Prod.fst = l.map Prod.fst) : Off1 c l' := off1_of fun p hp => by
  obtain ⟨q, hq, e2⟩ := mem_map1 e hp
  rw [← e2]; exact off1_mem h q hq
theorem notab_map {l l' : List (Addr × Obj)} (h : NoTab l) (e : l'.map Prod.fst = l.map Prod.fst) : NoTab l' := fun p hp => by
  obtain ⟨q, hq, e2⟩ := mem_map1 e hp
  rw [← e2]; exact h q hq
theorem off3_mk {I C D : Addr} {l : List (Addr × Obj)} (h : ∀ p ∈ l, (@Ne Nat p.1 I) ∧ (@Ne Nat p.1 C) ∧ (@Ne Nat p.1 D)) : Off3 I C D l := Off3.of h
theorem off3_tabs {I C D : Addr} {pre : List (Addr × Obj)} {p1 p2 q1 q2 p1' p2' q1' q2' : Obj} {c1 c2 c1' c2' : Addr} (h : Off3 I C D (pre ++ tab4 p1 c1 q1 p2 c2 q2))
    (f1 : c1' = c1 ∨ ((@Ne Nat c1' I) ∧ (@Ne Nat c1' C) ∧ (@Ne Nat c1' D))) (f2 : c2' = c2 ∨ ((@Ne Nat c2' I) ∧ (@Ne Nat c2' C) ∧ (@Ne Nat c2' D))) : Off3 I C D (pre ++ tab4 p1' c1' q1' p2' c2' q2') := by
  have z := h.mem
  refine Off3.of fun p hp => ?_
  rcases List.mem_append.mp hp with hp | hp
  · exact z p (List.mem_append_left _ hp)
  · simp only [tab4, List.mem_cons, List.not_mem_nil, or_false] at hp
    rcases hp with rfl | rfl | rfl | rfl
    · exact z (37, p1) (List.mem_append_right _ (.head _))
    · rcases f1 with rfl | f1
      · exact z (c1', q1) (List.mem_append_right _ (.tail _ (.head _)))
      · exact f1
    · exact z (44, p2) (List.mem_append_right _ (.tail _ (.tail _ (.head _))))
    · rcases f2 with rfl | f2
      · exact z (c2', q2) (List.mem_append_right _ (.tail _ (.tail _ (.tail _ (.head _)))))
      · exact f2
section
variable {w : World} {A₀ : Around} {s₁ s : Shared} {base h₁ : Heap} {outer : List Env} {env : Env} {L : Addr} {m : Str → Option Value} {loose : List Str} {mean : ExcName → Option Value} {mg mb : Str → Option Value} {E : Value → Shared → Prop} {dp un : Nat} {gd : Option (List Code)}
/-- a call that may change the tables, in a comprehension's turn -/
theorem use_T3 {f : Addr} {vals : List Value} {lv : Nat} {pc : Heap → Prop} {post : Heap → Value → Heap → Prop} {I C D : Addr} {oI oC : Obj} {ys : List Value} {pre : List (Addr × Obj)} {p1 q1 p2 q2 : Obj} {c1 c2 : Addr} {Q : Value → Shared → Prop}
    (Cf : CallsT w f vals lv pc post) (B : Below A₀ base outer (hideAll h₁ tabX)) (F : Fr (hideAll h₁ tabX) L s.heap m) (X : (Mine.hd.heap_1 w.params).In (hideAll h₁ tabX)) (N : News (hideAll h₁ tabX) L s.heap ((I, oI) :: (C, oC) :: (D, lst ys) :: (pre ++ tab4 p1 c1 q1 p2 c2 q2)))
    (off : Off3 I C D (pre ++ tab4 p1 c1 q1 p2 c2 q2)) (hT : Tabs h₁) (TS : TabSt h₁ p1 c1 q1 p2 c2 q2) (o1 : Off1 c1 pre) (o2 : Off1 c2 pre) (npre : NoTab pre) (T : Top topProg loose mean mg mb (hideAll h₁ tabX))
    (hf : env.frame = some L) (hk : env.scope.kind = .function) (hd : dp + lv < recursionLimit) (hu : un + 8 * lv < cLine) (hp : pc s.heap)
    (k : ∀ v h' tk' nw, Fr (hideAll h₁ tabX) L h' m → News (hideAll h₁ tabX) L h' ((I, oI) :: (C, oC) :: (D, lst ys) :: nw) → Off3 I C D nw → TabInv h₁ pre nw → post s.heap v h' → Q v { s with heap := h', toks := tk' }) :
    wpAny (model PySem.Challenge.rw_rt0087_01.row.prog w) (AA dp un gd (env :: outer)) (call (.ref f) vals) Q E s := by
  have z := off.mem
  have z37 := z (37, p1) (List.mem_append_right _ (.head _))
  have z44 := z (44, p2) (List.mem_append_right _ (.tail _ (.tail _ (.head _))))
  refine useT (led := ((I, oI) :: (C, oC) :: (D, lst ys) :: pre) ++ tab4 p1 c1 q1 p2 c2 q2) Cf B F X N hT TS (.app (NoTab.cons (not_tab (Ne.symm z37.1) (Ne.symm z44.1)) (NoTab.cons (not_tab (Ne.symm z37.2.1) (Ne.symm z44.2.1)) (NoTab.cons (not_tab (Ne.symm z37.2.2) (Ne.symm z44.2.2)) npre)))) T hf hk hd hu hp ?_
  intro v h' tk' p1' c1' q1' p2' c2' q2' F' N' TS' _ f1 f2 po
  simp only [List.append_nil] at f1 f2
  exact k v h' tk' (pre ++ tab4 p1' c1' q1' p2' c2' q2') F' N' (off3_tabs off (f1.imp id fun f => ⟨Ne.symm f.1, Ne.symm f.2.1, Ne.symm f.2.2.1⟩) (f2.imp id fun f => ⟨Ne.symm f.1, Ne.symm f.2.1, Ne.symm f.2.2.1⟩))
    ⟨_, _, _, _, _, _, rfl, TS', f1.elim (fun e => e ▸ o1) fun f => f.2.2.2, f2.elim (fun e => e ▸ o2) fun f => f.2.2.2⟩ po
/-- a turn whose element is a call that may change the tables -/
theorem turn_T {f : Addr} {vals : List Value} {lv : Nat} {pc : Heap → Prop} {post : Heap → Value → Heap → Prop} {I C D : Addr} {oI oC : Obj} {ys : List Value} {pre : List (Addr × Obj)} {Inv : Value → List (Addr × Obj) → Prop} {p1 q1 p2 q2 : Obj} {c1 c2 : Addr} {h : Heap} {tk : Nat}
    (Cf : CallsT w f vals lv pc post) (B : Below A₀ base outer (hideAll h₁ tabX)) (F : Fr (hideAll h₁ tabX) L h m) (X : (Mine.hd.heap_1 w.params).In (hideAll h₁ tabX)) (N : News (hideAll h₁ tabX) L h ((I, oI) :: (C, oC) :: (D, lst ys) :: (pre ++ tab4 p1 c1 q1 p2 c2 q2)))
    (off : Off3 I C D (pre ++ tab4 p1 c1 q1 p2 c2 q2)) (hT : Tabs h₁) (TS : TabSt h₁ p1 c1 q1 p2 c2 q2) (o1 : Off1 c1 pre) (o2 : Off1 c2 pre) (npre : NoTab pre) (T : Top topProg loose mean mg mb (hideAll h₁ tabX))
    (hf : env.frame = some L) (hk : env.scope.kind = .function) (hd : dp + lv < recursionLimit) (hu : un + 8 * lv < cLine) (hp : pc h)
    (k : ∀ y h', TabSt h₁ p1 c1 q1 p2 c2 q2 → post h y h' → ∀ nw, TabInv h₁ pre nw → Inv y nw) :
    wpAny (model PySem.Challenge.rw_rt0087_01.row.prog w) (AA dp un gd (env :: outer)) (call (.ref f) vals) (fun y s' => TurnEnd (hideAll h₁ tabX) L m s₁ I oI C oC D ys (Inv y) s') E { s₁ with heap := h, toks := tk } :=
  use_T3 Cf B F X N off hT TS o1 o2 npre T hf hk hd hu hp fun v h' tk' nw F' N' off' hTab po => ⟨h', tk', nw, rfl, F', N', off', k v h' TS po nw hTab⟩
end
theorem TabInv.tail {h₁ : Heap} {p : Addr × Obj} {pre nw : List (Addr × Obj)} (x : TabInv h₁ (p :: pre) (p :: nw)) : TabInv h₁ pre nw := by
  obtain ⟨p1, c1, q1, p2, c2, q2, e, TS, o1, o2⟩ := x
  cases e
  exact ⟨_, _, _, _, _, _, rfl, TS, o1.2, o2.2⟩
theorem TabInv.cons {h₁ : Heap} {p : Addr × Obj} {pre nw : List (Addr × Obj)} (x : TabInv h₁ pre nw) (o : Off1 p.1 nw) : TabInv h₁ (p :: pre) (p :: nw) := by
  obtain ⟨p1, c1, q1, p2, c2, q2, rfl, TS, o1, o2⟩ := x
  have z := off1_mem o
  exact ⟨_, _, _, _, _, _, rfl, TS, ⟨Ne.symm (z (c1, q1) (List.mem_append_right _ (.tail _ (.head _)))), o1⟩, ⟨Ne.symm (z (c2, q2) (List.mem_append_right _ (.tail _ (.tail _ (.tail _ (.head _)))))), o2⟩⟩
theorem TabInv.off {h₁ : Heap} {p : Addr × Obj} {pre nw : List (Addr × Obj)} (x : TabInv h₁ (p :: pre) (p :: nw)) (o : Off1 p.1 pre) (nt : p.1 ∉ tabX) : Off1 p.1 nw := by
  obtain ⟨p1, c1, q1, p2, c2, q2, e, TS, o1, o2⟩ := x
  cases e
  refine off1_of fun q hq => ?_
  rcases List.mem_append.mp hq with hq | hq
  · exact off1_mem o q hq
  · simp only [tab4, List.mem_cons, List.not_mem_nil, or_false] at hq
    rcases hq with rfl | rfl | rfl | rfl
    · exact fun e => nt (by rw [← e]; exact .tail _ (.head _))
    · exact Ne.symm o1.1
    · exact fun e => nt (by rw [← e]; exact .head _)
    · exact Ne.symm o2.1
end Mine
end
section
open PySem PySem.W PyProof.Rows PySem.Calls PyProof.Rows.LCg
set_option maxRecDepth 100000
namespace Mine
/-- rows of texts, one for each shelf -/
def NestInv (h₁ : Heap) (f : Int → Str) (xs ys : List Int) (pre : List (Addr × Obj)) (i : Nat) (vs : List Value) (nw : List (Addr × Obj)) : Prop :=
  (i = 0 ∧ vs = [] ∧ TabInv h₁ pre nw) ∨ (i = 1 ∧ ∃ a A na, vs = [.ref a] ∧ StrsAre A (xs.map f) ∧ Off1 a pre ∧ a ∉ tabX ∧ TabInv h₁ ((a, PySem.W.listOf A.toArray na) :: pre) nw) ∨
    (i = 2 ∧ ∃ a A na b B nb, vs = [.ref a, .ref b] ∧ StrsAre A (xs.map f) ∧ StrsAre B (ys.map f) ∧ (@Ne Nat b a) ∧ Off1 a pre ∧ Off1 b pre ∧ a ∉ tabX ∧ b ∉ tabX ∧ TabInv h₁ ((b, PySem.W.listOf B.toArray nb) :: (a, PySem.W.listOf A.toArray na) :: pre) nw)
inductive NestTwo (h₁ : Heap) (f : Int → Str) (xs ys : List Int) (pre : List (Addr × Obj)) (vs : List Value) (nw : List (Addr × Obj)) : Prop
  | mk (a : Addr) (A : List Value) (na : Nat) (b : Addr) (B : List Value) (nb : Nat) (h1 : vs = [.ref a, .ref b]) (hA : StrsAre A (xs.map f)) (hB : StrsAre B (ys.map f)) (ne : @Ne Nat b a) (oa : Off1 a pre) (ob : Off1 b pre) (ta : a ∉ tabX) (tb : b ∉ tabX) (ti : TabInv h₁ ((b, PySem.W.listOf B.toArray nb) :: (a, PySem.W.listOf A.toArray na) :: pre) nw) : NestTwo h₁ f xs ys pre vs nw
theorem NestInv.two {h₁ : Heap} {f : Int → Str} {xs ys : List Int} {pre : List (Addr × Obj)} {vs : List Value} {nw : List (Addr × Obj)} (x : NestInv h₁ f xs ys pre 2 vs nw) : NestTwo h₁ f xs ys pre vs nw := by
  rcases x with ⟨q, _⟩ | ⟨q, _⟩ | ⟨_, a, A, na, b, B, nb, h1, hA, hB, ne, oa, ob, ta, tb, ti⟩
  · cases q
  · cases q
  · exact ⟨a, A, na, b, B, nb, h1, hA, hB, ne, oa, ob, ta, tb, ti⟩
theorem NestInv.sub {h₁ : Heap} {f : Int → Str} {xs ys : List Int} {pre : List (Addr × Obj)} {i : Nat} {vs : List Value} {nw : List (Addr × Obj)} (x : NestInv h₁ f xs ys pre i vs nw) : (∀ p ∈ pre, p ∈ nw) ∧ vs.length ≤ 2 := by
  rcases x with ⟨_, rfl, _, _, _, _, _, _, rfl, _⟩ | ⟨_, a, A, na, rfl, _, _, _, _, _, _, _, _, _, rfl, _⟩ | ⟨_, a, A, na, b, B, nb, rfl, _, _, _, _, _, _, _, _, _, _, _, _, _, rfl, _⟩
  · exact ⟨fun _ h => List.mem_append_left _ h, by simp⟩
  · exact ⟨fun _ h => .tail _ (List.mem_append_left _ h), by simp⟩
  · exact ⟨fun _ h => .tail _ (.tail _ (List.mem_append_left _ h)), by simp⟩
/-- a list of numbers in a ledger -/
inductive IntsIn (v : Value) (pre : List (Addr × Obj)) (zs : List Int) : Prop
  | mk (r : Addr) (R : List Value) (nr : Nat) (e : v = .ref r) (m : (r, PySem.W.listOf R.toArray nr) ∈ pre) (h : IntsAre R zs) : IntsIn v pre zs
inductive NestOpen (h₁ : Heap) (f : Int → Str) (xs ys : List Int) (pre : List (Addr × Obj)) (i : Nat) (vs : List Value) (nw : List (Addr × Obj)) : Prop
  | mk (prei : List (Addr × Obj)) (h1 : ∀ p ∈ pre, p ∈ prei) (h2 : NoTab prei) (h3 : TabInv h₁ prei nw) (h4 : ∀ D ws n nw', StrsAre ws ((if i = 0 then xs else ys).map f) → Off1 D prei → D ∉ tabX → TabInv h₁ ((D, PySem.W.listOf ws.toArray n) :: prei) nw' → NestInv h₁ f xs ys pre (i + 1) (vs ++ [.ref D]) nw') : NestOpen h₁ f xs ys pre i vs nw
theorem NestInv.opens {h₁ : Heap} {f : Int → Str} {xs ys : List Int} {pre : List (Addr × Obj)} {i : Nat} {vs : List Value} {nw : List (Addr × Obj)} (x : NestInv h₁ f xs ys pre i vs nw) (hi : i < 2) (nt : NoTab pre) :
    NestOpen h₁ f xs ys pre i vs nw := by
  rcases x with ⟨rfl, rfl, h⟩ | ⟨rfl, a, A, na, rfl, hA, oa, ta, h⟩ | ⟨rfl, _⟩
  · exact ⟨pre, fun _ h => h, nt, h, fun D ws n nw' hs o t h' => .inr (.inl ⟨rfl, D, ws, n, rfl, hs, o, t, h'⟩)⟩
  · exact ⟨_, fun _ h => .tail _ h, .cons ta nt, h, fun D ws n nw' hs o t h' => .inr (.inr ⟨rfl, a, A, na, D, ws, n, rfl, hA, hs, Ne.symm o.1, oa, o.2, ta, t, h'⟩)⟩
  · (first | lia | omega)
/-- a row of a nest is done -/
theorem nest_done {h₀ h₁ : Heap} {L : Addr} {m : Str → Option Value} {s₁ : Shared} {I C D D2 : Addr} {oI oC : Obj} {vs ws : List Value} {prei nw2 : List (Addr × Obj)} {h : Heap} {tk : Nat} {Inv : List (Addr × Obj) → Prop}
    (hI : TabInv h₁ ((I, oI) :: (C, oC) :: (D, lst vs) :: prei) nw2) (F : Fr h₀ L h m) (N : News h₀ L h ((D2, lst ws) :: nw2)) (o : Off1 D2 nw2) (off : ∀ p ∈ prei, (@Ne Nat p.1 I) ∧ (@Ne Nat p.1 C) ∧ (@Ne Nat p.1 D)) (h37 : (@Ne Nat 37 I) ∧ (@Ne Nat 37 C) ∧ (@Ne Nat 37 D)) (h44 : (@Ne Nat 44 I) ∧ (@Ne Nat 44 C) ∧ (@Ne Nat 44 D))
    (k : ∀ nw', Off1 D2 prei → D2 ∉ tabX → TabInv h₁ ((D2, lst ws) :: prei) nw' → Inv nw') : TurnEnd h₀ L m s₁ I oI C oC D vs Inv { s₁ with heap := h, toks := tk } := by
  obtain ⟨p1, c1, q1, p2, c2, q2, rfl, TS, ⟨a1, a2, a3, a4⟩, ⟨b1, b2, b3, b4⟩⟩ := hI
  have m := off1_mem o
  have mp : ∀ p ∈ prei, @Ne Nat p.1 D2 := fun p hp => m p (.tail _ (.tail _ (.tail _ (List.mem_append_left _ hp))))
  have mt : ∀ p ∈ tab4 p1 c1 q1 p2 c2 q2, @Ne Nat p.1 D2 := fun p hp => m p (.tail _ (.tail _ (.tail _ (List.mem_append_right _ hp))))
  have t37 : @Ne Nat 37 D2 := mt (37, p1) (.head _)
  have t1 : @Ne Nat c1 D2 := mt (c1, q1) (.tail _ (.head _))
  have t44 : @Ne Nat 44 D2 := mt (44, p2) (.tail _ (.tail _ (.head _)))
  have t2 : @Ne Nat c2 D2 := mt (c2, q2) (.tail _ (.tail _ (.tail _ (.head _))))
  refine ⟨h, tk, ((D2, lst ws) :: prei) ++ tab4 p1 c1 q1 p2 c2 q2, rfl, F, fun p hp => ?_, Off3.of fun p hp => ?_, k _ (off1_of mp) (not_tab (Ne.symm t37) (Ne.symm t44)) ⟨p1, c1, q1, p2, c2, q2, rfl, TS, ⟨Ne.symm t1, a4⟩, ⟨Ne.symm t2, b4⟩⟩⟩
  · simp only [List.cons_append, List.mem_cons] at hp
    rcases hp with rfl | rfl | rfl | rfl | hp
    · exact N _ (.tail _ (.head _))
    · exact N _ (.tail _ (.tail _ (.head _)))
    · exact N _ (.tail _ (.tail _ (.tail _ (.head _))))
    · exact N _ (.head _)
    · exact N _ (.tail _ (.tail _ (.tail _ (.tail _ hp))))
  · rcases List.mem_cons.mp hp with rfl | hp
    · exact ⟨Ne.symm o.1, Ne.symm o.2.1, Ne.symm o.2.2.1⟩
    · rcases List.mem_append.mp hp with hp | hp
      · exact off p hp
      · simp only [tab4, List.mem_cons, List.not_mem_nil, or_false] at hp
        rcases hp with rfl | rfl | rfl | rfl
        · exact h37
        · exact ⟨Ne.symm a1, Ne.symm a2, Ne.symm a3⟩
        · exact h44
        · exact ⟨Ne.symm b1, Ne.symm b2, Ne.symm b3⟩
theorem two_pow_lt {nn : Nat} (h : nn ≤ 6) : (2 : Int) ^ nn < 65 := by
  rcases (by (first | lia | omega) : nn = 0 ∨ nn = 1 ∨ nn = 2 ∨ nn = 3 ∨ nn = 4 ∨ nn = 5 ∨ nn = 6) with rfl | rfl | rfl | rfl | rfl | rfl | rfl <;> decide
inductive LawD (h₁ : Heap) (L : Addr) (sh : Shared) (l : Addr) (s : Shared) : Prop
  | mk (nn : Nat) (tw : Tok) (T : Addr) (D : Addr) (a : Addr) (b : Addr) (A : List Value) (B : List Value) (nD : Nat) (na : Nat) (nb : Nat) (xs : List Int) (ys : List Int) (W : Addr) (wa : Addr) (wb : Addr) (WA : List Value) (WB : List Value) (nW : Nat) (nwa : Nat) (nwb : Nat) (cs : List (Addr × Obj)) (f0 : 1 ≤ nn) (f1 : nn ≤ 6) (f2 : CellsL L (some (.int ((nn : Nat) : Int) tw)) (some (.ref D)) (some (.ref W)) none none cs) (f3 : IntsAre A xs) (f4 : IntsAre B ys) (f5 : Shelf (8 ^ nn) 15 xs) (f6 : Shelf (8 ^ nn) 15 ys) (f7 : StrsAre WA (xs.map (dueS · (2 ^ nn)))) (f8 : StrsAre WB (ys.map (dueS · (2 ^ nn)))) (f9 : LSt h₁ L sh (mapL l none (some (.ref T))) ((W, PySem.W.listOf #[.ref wa, .ref wb] nW) :: (wb, PySem.W.listOf WB.toArray nwb) :: (wa, PySem.W.listOf WA.toArray nwa) :: (D, PySem.W.listOf #[.ref a, .ref b] nD) :: (a, PySem.W.listOf A.toArray na) :: (b, PySem.W.listOf B.toArray nb) :: cs) s) : LawD h₁ L sh l s
section
set_option maxHeartbeats 1000000 in
theorem law_3 {w : World} {loose : List Str} {mean : ExcName → Option Value} {mg mb : Str → Option Value} {dp un : Nat} {gd : Option (List Code)} {frames : List Env} {base h₁ : Heap} (C : LCtx w loose mean mg mb dp un gd frames base h₁) {L fa : Addr} {cd : Value} {sh : Shared} (l : Addr) :
    LawRun w dp un gd frames L fa cd 3 (LawC h₁ L sh l) (LawD h₁ L sh l) := by
  w_top off
  k_with_none
  k_with "k_room" => (ktr_room)
  k_with "k_ne" => (first | exact offN (by assumption) (by k_mem) | exact Ne.symm (offN (by assumption) (by k_mem)) | (refine neN ?_; (try dsimp only); (first | lia | omega)))
  k_with "call ref" => ((refine held (p := wpAny _ _ (PySem.call (Value.ref _) _) _ _ _) ?_))
  k_with "pyIter ref" => ((refine held (p := wpAny _ _ (pyIter (Value.ref _)) _ _ _) ?_))
  k_with "eval ListComp" => ((refine held (p := wpAny _ _ (eval _ _) _ _ _) ?_))
  refine .of fun sc st hsc hst E s hP => ?_
  obtain ⟨B, X, T, hT, hd, hu⟩ := C
  conv at hsc => rhs; whnf
  conv at hst => rhs; whnf
  subst hsc hst
  obtain ⟨nn, tw, TT, D, a, b, A, V, nD, na, nb, xs, ys, cs, hn1, hn6, hc, iA, iB, sA, sB, n1, n2, n3, oD, oa, ob, h, tk, p1, c1, q1, p2, c2, q2, rfl, F, N, TS, o1, o2, nt⟩ := hP
  obtain ⟨k1, k2, k3, k4, k5, rfl, d1, d2, d3, d4, d5⟩ := hc
  revert X; k_fill; intro X
  have lt := tabs_lt hT F
  simp only [List.cons_append, List.nil_append, tab4] at N
  k_steps
  refine comp_eval (cl := [(Str.ofString "wide", L + 1)]) F ?cb ?cc ?ce ?_
  case cb => with_unfolding_all rfl
  case cc => exact rfl
  case ce => decide
  k_steps
  generalize hpre : ([(D, PySem.W.listOf #[Value.ref a, Value.ref b] nD), (a, PySem.W.listOf A.toArray na), (b, PySem.W.listOf V.toArray nb), (L + 5, k5), (L + 4, k4), (L + 3, k3), (L + 2, k2), (L + 1, k1)] : List (Addr × Obj)) = pre at o1 o2
  have mD : (D, PySem.W.listOf #[Value.ref a, Value.ref b] nD) ∈ pre := by rw [← hpre]; exact .head _
  have ma : (a, PySem.W.listOf A.toArray na) ∈ pre := by rw [← hpre]; exact .tail _ (.head _)
  have mb' : (b, PySem.W.listOf V.toArray nb) ∈ pre := by rw [← hpre]; exact .tail _ (.tail _ (.head _))
  have m1 : (L + 1, k1) ∈ pre := by rw [← hpre]; exact .tail _ (.tail _ (.tail _ (.tail _ (.tail _ (.tail _ (.tail _ (.head _)))))))
  replace nt : NoTab pre := by rw [← hpre]; exact nt
  replace N : News (hideAll h₁ tabX) L h (pre ++ tab4 p1 c1 q1 p2 c2 q2) := by rw [← hpre]; exact N
  refine ⟨_, blk_V (Inv := NestInv h₁ (dueS · (2 ^ nn)) xs ys pre) (srcList rfl F N (its := #[Value.ref a, Value.ref b]) (.inr ⟨_, List.mem_append_left _ mD, rfl, _, rfl⟩)) (fun _ => rfl) (fun _ => rfl) rfl (by rfl) (fun i ys nw _ h => Nat.le_trans h.sub.2 (by decide)) (fun i ys nw h => .inr ⟨_, h.sub.1 _ mD, rfl, _, rfl⟩) (.inl ⟨rfl, rfl, _, _, _, _, _, _, rfl, TS, o1, o2⟩) ?_, ?_⟩
  · clear F N TS o1 o2
    intro i v I oI C oC D2 m₂ h2 tk2 vs nw E' hi hPv hI hoC hx F N off ne3
    obtain ⟨r, R, nr, rfl, hmr, hR⟩ : IntsIn v pre (if i = 0 then xs else ys) := by
      rcases (by simp at hi; (first | lia | omega) : i = 0 ∨ i = 1) with rfl | rfl
      · simp at hPv; subst hPv; exact ⟨a, A, na, rfl, ma, iA⟩
      · simp at hPv; subst hPv; exact ⟨b, V, nb, rfl, mb', iB⟩
    obtain ⟨prei, hsub, hno, hTab, hclose⟩ := hI.opens (by simpa using hi) nt
    obtain ⟨hz, hzl⟩ : (∀ x ∈ (if i = 0 then xs else ys), 0 ≤ x ∧ x < 8 ^ nn) ∧ (if i = 0 then xs else ys).length ≤ 15 := by
      split
      · exact ⟨sA.lt, sA.len⟩
      · exact ⟨sB.lt, sB.len⟩
    generalize hzs : (if i = 0 then xs else ys) = zs at *
    obtain ⟨p1, c1, q1, p2, c2, q2, rfl, TS, o1, o2⟩ := hTab
    refine wpAny_tests_nil ?_
    simp only [if_true]
    refine comp_eval (cl := [(Str.ofString "wide", L + 1)]) F ?cb ?cc ?ce ?_
    case cb => with_unfolding_all rfl
    case cc => exact rfl
    case ce => decide
    have N2 : News (hideAll h₁ tabX) L h2 [(I, oI), (C, oC), (D2, lst vs), (L + 1, k1)] := fun p hp => by
      simp only [List.mem_cons, List.not_mem_nil, or_false] at hp
      rcases hp with rfl | rfl | rfl | rfl
      · exact N _ (.head _)
      · exact N _ (.tail _ (.head _))
      · exact N _ (.tail _ (.tail _ (.head _)))
      · exact N _ (.tail _ (.tail _ (.tail _ (List.mem_append_left _ (hsub _ m1)))))
    k_steps
    have hRl := hR.length
    refine ⟨_, blk_V (Inv := fun j ws nw2 => TabInv h₁ ((I, oI) :: (C, oC) :: (D2, lst vs) :: prei) nw2 ∧ StrsAre ws ((zs.take j).map (dueS · (2 ^ nn)))) (srcList rfl F N (its := R.toArray) (.inr ⟨_, .tail _ (.tail _ (.tail _ (List.mem_append_left _ (hsub _ hmr)))), rfl, _, rfl⟩)) (fun _ => rfl) (fun _ => rfl) rfl (by rfl)
      (fun j ws nw _ h => by have := h.2.len_eq; rw [List.length_map, List.length_take] at this; rw [PySem.sizeLine_eq]; (first | lia | omega)) (fun j ws nw h => by obtain ⟨⟨_, _, _, _, _, _, rfl, _⟩, _⟩ := h; exact .inr ⟨_, List.mem_append_left _ (.tail _ (.tail _ (.tail _ (hsub _ hmr)))), rfl, _, rfl⟩)
      ⟨⟨p1, c1, q1, p2, c2, q2, rfl, TS, ?_, ?_⟩, by simpa using StrsAre.nil⟩ ?_, ?_⟩
    · have z := off.mem (c1, q1) (List.mem_append_right _ (.tail _ (.head _)))
      exact ⟨Ne.symm z.1, Ne.symm z.2.1, Ne.symm z.2.2, o1⟩
    · have z := off.mem (c2, q2) (List.mem_append_right _ (.tail _ (.tail _ (.tail _ (.head _)))))
      exact ⟨Ne.symm z.1, Ne.symm z.2.1, Ne.symm z.2.2, o2⟩
    · clear F N N2
      intro j v3 I3 oI3 C3 oC3 D3 m3 h3 tk3 ws nw3 E3 hj hP3 ⟨hTab3, hws⟩ hoC3 hx3 F N off3 ne4
      obtain ⟨p3, c3, q3, p4, c4, q4, rfl, TS3, o3, o4⟩ := hTab3
      have hjz : j < zs.length := by rw [← hRl]; simpa using hj
      obtain ⟨t3, rfl⟩ : ∃ t, v3 = .int zs[j] t := by
        obtain ⟨t3, hx4⟩ := hR.get j zs[j] (by simp [hjz])
        have hv' : R[j]? = some v3 := by simpa using hP3
        rw [hx4] at hv'
        exact ⟨_, (Option.some.inj hv').symm⟩
      have hzj := hz zs[j] (List.getElem_mem hjz)
      refine wpAny_tests_nil ?_
      simp only [if_true]
      have N2 : News (hideAll h₁ tabX) L h3 [(I3, oI3), (C3, oC3), (D3, lst ws), (L + 1, k1)] := fun p hp => by
        simp only [List.mem_cons, List.not_mem_nil, or_false] at hp
        rcases hp with rfl | rfl | rfl | rfl
        · exact N _ (.head _)
        · exact N _ (.tail _ (.head _))
        · exact N _ (.tail _ (.tail _ (.head _)))
        · exact N _ (.tail _ (.tail _ (.tail _ (List.mem_append_left _ (.tail _ (.tail _ (.tail _ (hsub _ m1))))))))
      k_steps
      have z37 := off.mem (37, p1) (List.mem_append_right _ (.head _))
      have z44 := off.mem (44, p2) (List.mem_append_right _ (.tail _ (.tail _ (.head _))))
      have hfig : nfig nn zs[j] < 4 := Nat.lt_succ_of_le (nfig_le hn1 hzj.1 (by rw [Nat.mul_comm, Int.pow_mul, show ((2 : Int) ^ 3) = 8 from rfl] at *; exact hzj.2))
      refine turn_T (Inv := fun y nw2 => TabInv h₁ ((I, oI) :: (C, oC) :: (D2, lst vs) :: prei) nw2 ∧ StrsAre (ws ++ [y]) ((zs.take (j + 1)).map (dueS · (2 ^ nn)))) (way_c zs[j] nn (nfig nn zs[j]) t3 tw hzj.1 hn1 (by (first | lia | omega)) rfl hfig (lt_nfig hn1 hzj.1)) B F X N off3 hT TS3 o3 o4
        (.cons (not_tab (Ne.symm z37.1) (Ne.symm z44.1)) (.cons (not_tab (Ne.symm z37.2.1) (Ne.symm z44.2.1)) (.cons (not_tab (Ne.symm z37.2.2) (Ne.symm z44.2.2)) hno))) T rfl rfl (by exact roomD hd rfl) (by exact roomU hu rfl) trivial ?_
      rintro y h' - ⟨t, rfl⟩ nw hTab
      refine ⟨hTab, ?_⟩
      rw [way_due (Int.pow_pos (by decide)) (two_pow_lt hn6)]
      have e : (zs.take (j + 1)).map (dueS · (2 ^ nn)) = (zs.take j).map (dueS · (2 ^ nn)) ++ [dueS zs[j] (2 ^ nn)] := by rw [List.take_add_one, List.map_append]; simp [hjz]
      rw [e]
      exact StrsAre.snoc hws
    · rintro ws nw2 ⟨hTab2, hws⟩ D3 h3 tk3 F3 N3 o3
      rw [List.size_toArray, hRl, List.take_length] at hws
      exact nest_done hTab2 F3 N3 o3 (fun p hp => off.mem p (List.mem_append_left _ hp)) (off.mem (37, p1) (List.mem_append_right _ (.head _))) (off.mem (44, p2) (List.mem_append_right _ (.tail _ (.tail _ (.head _))))) fun nw' o t h => hclose D3 ws _ nw' hws o t h
  · rintro vs nw hG D3 h3 tk3 F3 N3 o3
    obtain ⟨wa, WA, nwa, wb, WB, nwb, rfl, hA, hB, ne, oa2, ob2, ta, tb, p3, c3, q3, p4, c4, q4, rfl, TS3, oc3, oc4⟩ := hG.two
    clear F N
    subst hpre
    simp only [List.cons_append, List.nil_append, tab4] at N3 o3
    have w1 : (@Ne Nat c3 (L + 3)) := Ne.symm (offN oc3 (by k_mem))
    have w2 : (@Ne Nat c4 (L + 3)) := Ne.symm (offN oc4 (by k_mem))
    k_steps
    rename Fr _ _ _ _ => F6
    rename News _ _ _ _ => N6
    rename_i h' o' d'
    refine ⟨rfl, nn, tw, TT, D, a, b, A, V, nD, na, nb, xs, ys, D3, wa, wb, WA, WB, _, nwa, nwb, _, hn1, hn6, ⟨k1, k2, o', k4, k5, rfl, d1, d2, d', d4, d5⟩, iA, iB, sA, sB, hA, hB, h', _, p3, c3, q3, p4, c4, q4, rfl, F6, N6, TS3, ⟨by k_ne, off1_map oc3 rfl⟩, ⟨by k_ne, off1_map oc4 rfl⟩, ?_⟩
    exact .cons (not_tab (by k_ne) (by k_ne)) (.cons tb (.cons ta (notab_map nt rfl)))
end
end Mine
end
section
open PySem PySem.W PyProof.Rows PySem.Calls PyProof.Rows.LCg
set_option maxRecDepth 100000
namespace Mine
section
variable {prog : Program} {w : World} {A : Around} {E : Value → Shared → Prop} {s : Shared} {Q : Value → Shared → Prop} {a b : Value} {d : PyData} {as bs : List Addr}
theorem ne_same (ra : Reads s.heap a d as) (rb : Reads s.heap b d bs) (hd : PySem.SeqAt.shaped d = true) (hu : A.units + 64 < cLine) (h : Q (.bool false) s) : wpAny (model prog w) A (compareOp .NotEq a b) Q E s :=
  ne_dataH ra rb hd hd hu (by rw [PySem.SeqAt.eqv_refl d (PySem.SeqAt.canLay_of_shaped hd)]; exact h)
theorem eq_same (ra : Reads s.heap a d as) (rb : Reads s.heap b d bs) (hd : PySem.SeqAt.shaped d = true) (hu : A.units + 64 < cLine) (h : Q (.bool true) s) : wpAny (model prog w) A (compareOp .Eq a b) Q E s :=
  eq_dataH ra rb hd hd hu (by rw [PySem.SeqAt.eqv_refl d (PySem.SeqAt.canLay_of_shaped hd)]; exact h)
end
def OkS (xs : List Str) : Prop := ∀ x ∈ xs, PyData.strOk x = true
theorem lay_strs : ∀ {xs : List Str}, OkS xs → PyData.canLayAll0 (xs.map PyData.str) = true
  | [], _ => rfl
  | x :: r, h => by
    simp only [List.map_cons, PyData.canLayAll0, PyData.canLay0, h x (.head _), lay_strs (xs := r) fun y hy => h y (.tail _ hy), Bool.and_true]
theorem depth_strs : ∀ xs : List Str, PyData.depthAll (xs.map PyData.str) = 0
  | [] => rfl
  | x :: r => by simp [PyData.depthAll, PyData.depth, depth_strs r]
def dStrs (xs : List Str) : PyData := .list (xs.map PyData.str)
theorem shaped_strs {xs : List Str} (h : OkS xs) : PySem.SeqAt.shaped (dStrs xs) = true := by
  simp [dStrs, PySem.SeqAt.shaped, PyData.canLay0, PyData.depth, lay_strs h, depth_strs]
theorem shaped_two {xs ys : List Str} (h1 : OkS xs) (h2 : OkS ys) : PySem.SeqAt.shaped (.list [dStrs xs, dStrs ys]) = true := by
  simp [dStrs, PySem.SeqAt.shaped, PyData.canLay0, PyData.canLayAll0, PyData.depth, PyData.depthAll, lay_strs h1, lay_strs h2, depth_strs]
theorem shaped_pairs {xs ys : List Str} (h1 : OkS xs) (h2 : OkS ys) : PySem.SeqAt.shaped (.list [.tuple [dStrs xs, dStrs ys], .tuple [dStrs ys, dStrs xs]]) = true := by
  simp [dStrs, PySem.SeqAt.shaped, PyData.canLay0, PyData.canLayAll0, PyData.depth, PyData.depthAll, lay_strs h1, lay_strs h2, depth_strs]
theorem due_oks {nn : Nat} (h : nn ≤ 6) {xs : List Int} : OkS (xs.map (dueS · (2 ^ nn))) := fun x hx => by
  obtain ⟨y, _, rfl⟩ := List.mem_map.mp hx
  exact due_ok (Int.pow_pos (by decide)) (two_pow_lt h)
section
variable {h h₀ : Heap} {L : Addr} {led : List (Addr × Obj)}
theorem reads_strs (N : News h₀ L h led) {a : Addr} {V : List Value} {xs : List Str} {n : Nat} (hm : (a, PySem.W.listOf V.toArray n) ∈ led) (hV : StrsAre V xs) : Reads h (.ref a) (dStrs xs) [a] :=
  reads_list_at (N _ hm).1 rfl rfl (strs_readAll h (by simpa using hV))
theorem reads_nest (N : News h₀ L h led) {D a b : Addr} {A B : List Value} {xs ys : List Str} {n na nb : Nat} (hD : (D, PySem.W.listOf #[.ref a, .ref b] n) ∈ led) (ha : (a, PySem.W.listOf A.toArray na) ∈ led) (hb : (b, PySem.W.listOf B.toArray nb) ∈ led) (hA : StrsAre A xs) (hB : StrsAre B ys) :
    ∃ as, Reads h (.ref D) (.list [dStrs xs, dStrs ys]) as :=
  ⟨_, reads_list_at (N _ hD).1 rfl rfl (.cons (reads_strs N ha hA) (.cons (reads_strs N hb hB) .nil))⟩
end
end Mine
end
section
open PySem PySem.W PyProof.Rows PySem.Calls PyProof.Rows.LCg
set_option maxRecDepth 100000
namespace Mine
section
theorem nfig_zero {nn : Nat} (h : 1 ≤ nn) : ((Builtin.Int.intBits 0 : Nat) + (nn : Int) - 1).fdiv nn = ((0 : Nat) : Int) := by
  rw [nfig_is h]
  have : nfig nn 0 = 0 := by unfold nfig; rw [show Builtin.Int.intBits 0 = 0 from rfl]; exact Nat.div_eq_of_lt (by (first | lia | omega))
  rw [this]
set_option maxHeartbeats 1000000 in
theorem law_4 {w : World} {loose : List Str} {mean : ExcName → Option Value} {mg mb : Str → Option Value} {dp un : Nat} {gd : Option (List Code)} {frames : List Env} {base h₁ : Heap} (C : LCtx w loose mean mg mb dp un gd frames base h₁) {L fa : Addr} {cd : Value} {sh : Shared} (l : Addr) :
    LawRun w dp un gd frames L fa cd 4 (LawD h₁ L sh l) (LawD h₁ L sh l) := by
  w_top off
  k_with_none
  k_with "k_room" => (ktr_room)
  k_with "k_ne" => (first | exact offN (by assumption) (by k_mem) | exact Ne.symm (offN (by assumption) (by k_mem)) | (refine neN ?_; (try dsimp only); (first | lia | omega)))
  k_with "call ref" => ((refine held (p := wpAny _ _ (PySem.call (Value.ref _) _) _ _ _) ?_))
  k_with "pyIter ref" => ((refine held (p := wpAny _ _ (pyIter (Value.ref _)) _ _ _) ?_))
  k_with "eval ListComp" => ((refine held (p := wpAny _ _ (eval _ _) _ _ _) ?_))
  k_with "compareOp NotEq ref ref" => ((refine held (p := wpAny _ _ (compareOp _ _ _) _ _ _) ?_))
  k_with "binaryOp Pow int int" => ((refine held (p := wpAny _ _ (binaryOp _ _ _) _ _ _) ?_))
  refine .of fun sc st hsc hst E s hP => ?_
  obtain ⟨B, X, T, hT, hd, hu⟩ := C
  conv at hsc => rhs; whnf
  conv at hst => rhs; whnf
  subst hsc hst
  obtain ⟨nn, tw, TT, D, a, b, A, V, nD, na, nb, xs, ys, W, wa, wb, WA, WB, nW, nwa, nwb, cs, hn1, hn6, hc, iA, iB, sA, sB, hWA, hWB, h, tk, p1, c1, q1, p2, c2, q2, rfl, F, N, TS, o1, o2, nt⟩ := hP
  obtain ⟨k1, k2, k3, k4, k5, rfl, d1, d2, d3, d4, d5⟩ := hc
  revert X; k_fill; intro X
  have lt := tabs_lt hT F
  generalize hpre : ((W, PySem.W.listOf #[.ref wa, .ref wb] nW) :: (wb, PySem.W.listOf WB.toArray nwb) :: (wa, PySem.W.listOf WA.toArray nwa) :: (D, PySem.W.listOf #[.ref a, .ref b] nD) :: (a, PySem.W.listOf A.toArray na) :: (b, PySem.W.listOf V.toArray nb) :: [(L + 5, k5), (L + 4, k4), (L + 3, k3), (L + 2, k2), (L + 1, k1)] : List (Addr × Obj)) = pre at N o1 o2 nt
  have mW : (W, PySem.W.listOf #[Value.ref wa, Value.ref wb] nW) ∈ pre := by rw [← hpre]; exact .head _
  have mwb : (wb, PySem.W.listOf WB.toArray nwb) ∈ pre := by rw [← hpre]; exact .tail _ (.head _)
  have mwa : (wa, PySem.W.listOf WA.toArray nwa) ∈ pre := by rw [← hpre]; exact .tail _ (.tail _ (.head _))
  have mD : (D, PySem.W.listOf #[Value.ref a, Value.ref b] nD) ∈ pre := by rw [← hpre]; exact .tail _ (.tail _ (.tail _ (.head _)))
  have ma : (a, PySem.W.listOf A.toArray na) ∈ pre := by rw [← hpre]; exact .tail _ (.tail _ (.tail _ (.tail _ (.head _))))
  have mb' : (b, PySem.W.listOf V.toArray nb) ∈ pre := by rw [← hpre]; exact .tail _ (.tail _ (.tail _ (.tail _ (.tail _ (.head _)))))
  have m3 : (L + 3, k3) ∈ pre := by rw [← hpre]; k_mem
  have m2 : (L + 2, k2) ∈ pre := by rw [← hpre]; k_mem
  have m1 : (L + 1, k1) ∈ pre := by rw [← hpre]; k_mem
  have N0 : News (hideAll h₁ tabX) L h [(L + 1, k1)] := fun p hp => by rw [List.mem_singleton.mp hp]; exact N _ (List.mem_append_left _ m1)
  k_steps
  refine useT (i2d_c 0 nn 0 tk tw (by decide) hn1 (by (first | lia | omega)) (nfig_zero hn1) (by decide) (by simp)) B F X N hT TS (.app nt) T rfl rfl (by exact roomD hd rfl) (by exact roomU hu rfl) trivial ?_
  intro v h2 tk2 p3 c3 q3 p4 c4 q4 F2 N2 TS2 kb f1 f2 ⟨D0, its, n0, hv, hf, hg, hia⟩
  subst hv
  have hoo := off1_len N hf
  have N3 := (new_obj F N N2 hf hg).1
  simp only [List.append_nil] at f1 f2
  replace o1 : Off1 c3 pre := f1.elim (fun e => e ▸ o1) id
  replace o2 : Off1 c4 pre := f2.elim (fun e => e ▸ o2) id
  clear f1 f2 TS F N N2 N0
  obtain rfl : its = [] := by cases hia; rfl
  have N4 : News (hideAll h₁ tabX) L h2 ((D0, PySem.W.listOf #[] n0) :: (L + 3, k3) :: (pre ++ tab4 p3 c3 q3 p4 c4 q4)) := fun p hp => by
    rcases List.mem_cons.mp hp with rfl | hp
    · exact N3 _ (.head _)
    · rcases List.mem_cons.mp hp with rfl | hp
      · exact N3 _ (.tail _ (List.mem_append_left _ m3))
      · exact N3 _ (.tail _ hp)
  clear N3
  k_steps
  rename Fr _ _ _ _ => F5
  rename News _ _ _ _ => N5
  refine ne_same (d := .list []) (reads_list_at (N5 (D0, _) (by k_mem)).1 rfl rfl .nil) (reads_list_at (N5 _ (.head _)).1 rfl rfl .nil) (by decide) (by exact roomV hu rfl) ?_
  clear hoo hf hg
  k_steps
  refine comp_eval (cl := [(Str.ofString "wide", L + 1)]) F5 ?cb ?cc ?ce ?_
  case cb => with_unfolding_all rfl
  case cc => exact rfl
  case ce => decide
  have N6 := news_sub (led' := pre ++ tab4 p3 c3 q3 p4 c4 q4) N5 (fun p hp => .tail _ (.tail _ (.tail _ hp)))
  clear N5
  have N7 := news_sub (led' := [(L + 2, k2)]) N6 (fun p hp => by rw [List.mem_singleton.mp hp]; exact List.mem_append_left _ m2)
  k_steps
  clear N7
  refine ⟨_, blk_V (Inv := NestInv h₁ (dueS · (2 ^ nn)) xs ys pre) (srcList rfl F5 N6 (its := #[Value.ref a, Value.ref b]) (.inr ⟨_, List.mem_append_left _ mD, rfl, _, rfl⟩)) (fun _ => rfl) (fun _ => rfl) rfl (by rfl) (fun i ys nw _ h => Nat.le_trans h.sub.2 (by decide)) (fun i ys nw h => .inr ⟨_, h.sub.1 _ mD, rfl, _, rfl⟩) (.inl ⟨rfl, rfl, _, _, _, _, _, _, rfl, TS2, o1, o2⟩) ?_, ?_⟩
  · clear F5 N6 TS2 o1 o2
    intro i v I oI C oC D2 m₂ h2 tk2 vs nw E' hi hPv hI hoC hx F N off ne3
    obtain ⟨r, R, nr, rfl, hmr, hR⟩ : IntsIn v pre (if i = 0 then xs else ys) := by
      rcases (by simp at hi; (first | lia | omega) : i = 0 ∨ i = 1) with rfl | rfl
      · simp at hPv; subst hPv; exact ⟨a, A, na, rfl, ma, iA⟩
      · simp at hPv; subst hPv; exact ⟨b, V, nb, rfl, mb', iB⟩
    obtain ⟨prei, hsub, hno, hTab, hclose⟩ := hI.opens (by simpa using hi) nt
    obtain ⟨hz, hzl⟩ : (∀ x ∈ (if i = 0 then xs else ys), 0 ≤ x ∧ x < 8 ^ nn) ∧ (if i = 0 then xs else ys).length ≤ 15 := by
      split
      · exact ⟨sA.lt, sA.len⟩
      · exact ⟨sB.lt, sB.len⟩
    generalize hzs : (if i = 0 then xs else ys) = zs at *
    obtain ⟨p1, c1, q1, p2, c2, q2, rfl, TS, o1, o2⟩ := hTab
    refine wpAny_tests_nil ?_
    simp only [if_true]
    refine comp_eval (cl := [(Str.ofString "wide", L + 1)]) F ?cb ?cc ?ce ?_
    case cb => with_unfolding_all rfl
    case cc => exact rfl
    case ce => decide
    have N2 := news_sub (led' := [(I, oI), (C, oC)]) N (fun p hp => by
      simp only [List.mem_cons, List.not_mem_nil, or_false] at hp
      rcases hp with rfl | rfl
      · exact .head _
      · exact .tail _ (.head _))
    k_steps
    clear N2
    have hRl := hR.length
    refine ⟨_, blk_V (Inv := fun j ws nw2 => TabInv h₁ ((I, oI) :: (C, oC) :: (D2, lst vs) :: prei) nw2 ∧ StrsAre ws ((zs.take j).map (dueS · (2 ^ nn)))) (srcList rfl F N (its := R.toArray) (.inr ⟨_, .tail _ (.tail _ (.tail _ (List.mem_append_left _ (hsub _ hmr)))), rfl, _, rfl⟩)) (fun _ => rfl) (fun _ => rfl) rfl (by rfl)
      (fun j ws nw _ h => by have := h.2.len_eq; rw [List.length_map, List.length_take] at this; rw [PySem.sizeLine_eq]; (first | lia | omega)) (fun j ws nw h => by obtain ⟨⟨_, _, _, _, _, _, rfl, _⟩, _⟩ := h; exact .inr ⟨_, List.mem_append_left _ (.tail _ (.tail _ (.tail _ (hsub _ hmr)))), rfl, _, rfl⟩)
      ⟨⟨p1, c1, q1, p2, c2, q2, rfl, TS, ?_, ?_⟩, by simpa using StrsAre.nil⟩ ?_, ?_⟩
    · have z := off.mem (c1, q1) (List.mem_append_right _ (.tail _ (.head _)))
      exact ⟨Ne.symm z.1, Ne.symm z.2.1, Ne.symm z.2.2, o1⟩
    · have z := off.mem (c2, q2) (List.mem_append_right _ (.tail _ (.tail _ (.tail _ (.head _)))))
      exact ⟨Ne.symm z.1, Ne.symm z.2.1, Ne.symm z.2.2, o2⟩
    · clear F N
      intro j v3 I3 oI3 C3 oC3 D3 m3 h3 tk3 ws nw3 E3 hj hP3 ⟨hTab3, hws⟩ hoC3 hx3 F N off3 ne4
      have hjz : j < zs.length := by rw [← hRl]; simpa using hj
      obtain ⟨t3, rfl⟩ : ∃ t, v3 = .int zs[j] t := by
        obtain ⟨t3, hx4⟩ := hR.get j zs[j] (by simp [hjz])
        have hv' : R[j]? = some v3 := by simpa using hP3
        rw [hx4] at hv'
        exact ⟨_, (Option.some.inj hv').symm⟩
      have mw : (L + 1, k1) ∈ nw3 := by obtain ⟨_, _, _, _, _, _, rfl, _⟩ := hTab3; exact List.mem_append_left _ (.tail _ (.tail _ (.tail _ (hsub _ m1))))
      refine wpAny_tests_nil ?_
      simp only [if_true]
      have N2 := news_sub (led' := [(C3, oC3), (L + 1, k1)]) N (fun p hp => by
        simp only [List.mem_cons, List.not_mem_nil, or_false] at hp
        rcases hp with rfl | rfl
        · exact .tail _ (.head _)
        · exact .tail _ (.tail _ (.tail _ mw)))
      k_steps
      refine pow_int (by (first | lia | omega)) (by rw [show ((Builtin.Int.intBits 2 : Nat) : Int) = 2 from rfl]; (first | lia | omega)) ?_
      rw [Int.toNat_natCast]
      k_steps
      refine use0 (due_c zs[j] (2 ^ nn) _ _ (Int.pow_pos (by decide)) (two_pow_lt hn6)) B F X N T rfl rfl (by exact roomD hd rfl) (by exact roomU hu rfl) ?_
      intro t h' tk' F' N'
      refine ⟨h', tk', nw3, rfl, F', N', off3, hTab3, ?_⟩
      have e : (zs.take (j + 1)).map (dueS · (2 ^ nn)) = (zs.take j).map (dueS · (2 ^ nn)) ++ [dueS zs[j] (2 ^ nn)] := by rw [List.take_add_one, List.map_append]; simp [hjz]
      rw [e]
      exact StrsAre.snoc hws
    · rintro ws nw2 ⟨hTab2, hws⟩ D3 h3 tk3 F3 N3 o3
      rw [List.size_toArray, hRl, List.take_length] at hws
      exact nest_done hTab2 F3 N3 o3 (fun p hp => off.mem p (List.mem_append_left _ hp)) (off.mem (37, p1) (List.mem_append_right _ (.head _))) (off.mem (44, p2) (List.mem_append_right _ (.tail _ (.tail _ (.head _))))) fun nw' o t h => hclose D3 ws _ nw' hws o t h
  · rintro vs nw hG D3 h3 tk3 F3 N3 o3
    obtain ⟨da, DA, nda, db, DB, ndb, rfl, hA, hB, ne, oa2, ob2, ta, tb, p3, c3, q3, p4, c4, q4, rfl, TS3, oc3, oc4⟩ := hG.two
    clear F5 N6
    k_steps
    obtain ⟨as1, r1⟩ := reads_nest N3 (.tail _ (.tail _ (.tail _ (List.mem_append_left _ mW)))) (.tail _ (.tail _ (.tail _ (List.mem_append_left _ mwa)))) (.tail _ (.tail _ (.tail _ (List.mem_append_left _ mwb)))) hWA hWB
    obtain ⟨as2, r2⟩ := reads_nest N3 (.head _) (.tail _ (.tail _ (.head _))) (.tail _ (.head _)) hA hB
    refine ne_same r1 r2 (shaped_two (due_oks hn6) (due_oks hn6)) (by exact roomV hu rfl) ?_
    k_steps
    subst hpre
    exact ⟨rfl, nn, tw, TT, D, a, b, A, V, nD, na, nb, xs, ys, W, wa, wb, WA, WB, nW, nwa, nwb, _, hn1, hn6, ⟨k1, k2, k3, k4, k5, rfl, d1, d2, d3, d4, d5⟩, iA, iB, sA, sB, hWA, hWB, h3, _, p3, c3, q3, p4, c4, q4, rfl, F3, fun p hp => N3 p (.tail _ (.tail _ (.tail _ hp))), TS3, oc3.2.2, oc4.2.2, nt⟩
end
end Mine
end
section
open PySem PySem.W PyProof.Rows PySem.Calls PyProof.Rows.LCg
set_option maxRecDepth 100000
namespace Mine
/-- what the law has laid: the shelves and the ways -/
structure DF (L : Addr) (nn : Nat) (D a b W wa wb : Addr) (A B WA WB : List Value) (xs ys : List Int) (pre : List (Addr × Obj)) : Prop where
  n1 : 1 ≤ nn
  n6 : nn ≤ 6
  mD : ∃ n, (D, PySem.W.listOf #[.ref a, .ref b] n) ∈ pre
  ma : ∃ n, (a, PySem.W.listOf A.toArray n) ∈ pre
  mb : ∃ n, (b, PySem.W.listOf B.toArray n) ∈ pre
  mW : ∃ n, (W, PySem.W.listOf #[.ref wa, .ref wb] n) ∈ pre
  mwa : ∃ n, (wa, PySem.W.listOf WA.toArray n) ∈ pre
  mwb : ∃ n, (wb, PySem.W.listOf WB.toArray n) ∈ pre
  iA : IntsAre A xs
  iB : IntsAre B ys
  sA : Shelf (8 ^ nn) 15 xs
  sB : Shelf (8 ^ nn) 15 ys
  hWA : StrsAre WA (xs.map (dueS · (2 ^ nn)))
  hWB : StrsAre WB (ys.map (dueS · (2 ^ nn)))
  c1 : ∃ o t, (L + 1, o) ∈ pre ∧ o.data = .cell (some (.int ((nn : Nat) : Int) t))
  c2 : ∃ o, (L + 2, o) ∈ pre ∧ o.data = .cell (some (.ref D))
  c3 : ∃ o, (L + 3, o) ∈ pre ∧ o.data = .cell (some (.ref W))
/-- a list of texts in a ledger -/
inductive StrsIn (v : Option Value) (bs : List (Addr × Obj)) (ss : List Str) : Prop
  | mk (r : Addr) (R : List Value) (nr : Nat) (e : v = some (.ref r)) (m : (r, PySem.W.listOf R.toArray nr) ∈ bs) (h : StrsAre R ss) : StrsIn v bs ss
inductive RowAt (a b wa wb : Addr) (nn : Nat) (xs ys : List Int) (pre : List (Addr × Obj)) (i : Nat) : Prop
  | mk (r : Addr) (R : List Value) (nr : Nat) (wr : Addr) (WR : List Value) (nwr : Nat) (e : ([Value.ref a, .ref b] : List Value)[i]? = some (.ref r)) (m : (r, PySem.W.listOf R.toArray nr) ∈ pre) (e2 : ([Value.ref wa, .ref wb] : List Value)[i]? = some (.ref wr)) (m2 : (wr, PySem.W.listOf WR.toArray nwr) ∈ pre)
      (hR : IntsAre R (if i = 0 then xs else ys)) (hS : Shelf (8 ^ nn) 15 (if i = 0 then xs else ys)) (hW : StrsAre WR ((if i = 0 then xs else ys).map (dueS · (2 ^ nn)))) : RowAt a b wa wb nn xs ys pre i
theorem DF.row {L : Addr} {nn : Nat} {D a b W wa wb : Addr} {A B WA WB : List Value} {xs ys : List Int} {pre : List (Addr × Obj)} (x : DF L nn D a b W wa wb A B WA WB xs ys pre) {i : Nat} (hi : i < 2) : RowAt a b wa wb nn xs ys pre i := by
  obtain ⟨na, ma⟩ := x.ma
  obtain ⟨nb, mb⟩ := x.mb
  obtain ⟨nwa, mwa⟩ := x.mwa
  obtain ⟨nwb, mwb⟩ := x.mwb
  rcases (by (first | lia | omega) : i = 0 ∨ i = 1) with rfl | rfl
  · exact ⟨a, A, na, wa, WA, nwa, rfl, ma, rfl, mwa, x.iA, x.sA, x.hWA⟩
  · exact ⟨b, B, nb, wb, WB, nwb, rfl, mb, rfl, mwb, x.iB, x.sB, x.hWB⟩
inductive LawE (h₁ : Heap) (L : Addr) (sh : Shared) (l : Addr) (s : Shared) : Prop
  | mk (nn : Nat) (D : Addr) (a : Addr) (b : Addr) (W : Addr) (wa : Addr) (wb : Addr) (A : List Value) (B : List Value) (WA : List Value) (WB : List Value) (xs : List Int) (ys : List Int) (pre : List (Addr × Obj)) (T : Addr) (k4 : Obj) (k5 : Obj) (f0 : DF L nn D a b W wa wb A B WA WB xs ys pre) (f1 : k4.data = .cell none) (f2 : k5.data = .cell none) (f3 : Off1 (L + 4) pre) (f4 : Off1 (L + 5) pre) (f5 : LSt h₁ L sh (mapL l none (some (.ref T))) ((L + 4, k4) :: (L + 5, k5) :: pre) s) : LawE h₁ L sh l s
section
variable {prog : Program} {w : World} {A : Around} {E : Value → Shared → Prop} {s : Shared} {Q : Value → Shared → Prop} {h₀ : Heap} {L : Addr} {led : List (Addr × Obj)}
theorem item_led {value slice : Expr} {a : Addr} {vs : List Value} {n i : Nat} {k : Int} {u : Tok} {x : Value} (N : News h₀ L s.heap led) (hm : (a, PySem.W.listOf vs.toArray n) ∈ led) (hk : k = (i : Int)) (hi : i < 1000) (hx : vs[i]? = some x) (h : Q x s)
    (hs : subscripted slice false (.ref a) (.int k u) = operate [.ref a, .int k u] (getItem (.ref a) (.int k u)) := by with_unfolding_all rfl) :
    wpAny (model prog w) A (subscriptTail value slice (.ref a) (.int k u)) Q E s := by
  subst hk
  exact item_listR ⟨_, (N _ hm).1, rfl, _, rfl⟩ (by (first | lia | omega)) (by (first | lia | omega)) (by rw [Int.toNat_natCast]; simpa using hx) h hs
theorem len_led {a : Addr} {vs : List Value} {n : Nat} (N : News h₀ L s.heap led) (hm : (a, PySem.W.listOf vs.toArray n) ∈ led) (hl : vs.length < 1000) (h : Q (.int vs.length (s.toks + 1)) { s with toks := s.toks + 1 + 1 }) :
    wpAny (model prog w) A (call (.builtin "len") [.ref a]) Q E s := by
  refine len_list ⟨_, (N _ hm).1, rfl, _, rfl⟩ (by rw [List.size_toArray]; (first | lia | omega)) ?_
  rw [List.size_toArray]; exact h
end
end Mine
end
section
open PySem PySem.W PyProof.Rows PySem.Calls PyProof.Rows.LCg
set_option maxRecDepth 100000
namespace Mine
section
set_option maxHeartbeats 1000000 in
theorem law_5 {w : World} {loose : List Str} {mean : ExcName → Option Value} {mg mb : Str → Option Value} {dp un : Nat} {gd : Option (List Code)} {frames : List Env} {base h₁ : Heap} (C : LCtx w loose mean mg mb dp un gd frames base h₁) {L fa : Addr} {cd : Value} {sh : Shared} (l : Addr) :
    LawRun w dp un gd frames L fa cd 5 (LawE h₁ L sh l) (LawE h₁ L sh l) := by
  w_top off
  k_with_none
  k_with "k_room" => (ktr_room)
  k_with "k_ne" => (first | exact offN (by assumption) (by k_mem) | exact Ne.symm (offN (by assumption) (by k_mem)) | (refine neN ?_; (try dsimp only); (first | lia | omega)))
  k_with "call ref" => ((refine held (p := wpAny _ _ (PySem.call (Value.ref _) _) _ _ _) ?_))
  k_with "pyIter ref" => ((refine held (p := wpAny _ _ (pyIter (Value.ref _)) _ _ _) ?_))
  k_with "eval ListComp" => ((refine held (p := wpAny _ _ (eval _ _) _ _ _) ?_))
  k_with "compareOp NotEq ref ref" => ((refine held (p := wpAny _ _ (compareOp _ _ _) _ _ _) ?_))
  k_with "subscriptTail" => ((refine held (p := wpAny _ _ (subscriptTail _ _ _ _) _ _ _) ?_))
  k_with "call builtin:len" => ((refine held (p := wpAny _ _ (PySem.call _ _) _ _ _) ?_))
  k_with "k_mem" => (first | exact List.Mem.head _ | assumption | (refine' List.Mem.tail _ ?_; k_mem))
  refine .of fun sc st hsc hst E s hP => ?_
  obtain ⟨B, X, T, hT, hd, hu⟩ := C
  conv at hsc => rhs; whnf
  conv at hst => rhs; whnf
  subst hsc hst
  obtain ⟨nn, D, a, b, W, wa, wb, A, V, WA, WB, xs, ys, pre, TT, k4, k5, df, d4, d5, oq4, oq5, h, tk, p1, c1, q1, p2, c2, q2, rfl, F, N, TS, o1, o2, nt⟩ := hP
  revert X; k_fill; intro X
  generalize hpre : (L + 4, k4) :: (L + 5, k5) :: pre = pr at N o1 o2 nt
  have hsub : ∀ p ∈ pre, p ∈ pr := fun p hp => by rw [← hpre]; exact .tail _ (.tail _ hp)
  obtain ⟨k1, tw, m1, d1⟩ := df.c1
  obtain ⟨k2, m2, d2⟩ := df.c2
  obtain ⟨k3, m3, d3⟩ := df.c3
  replace m1 := hsub _ m1
  replace m2 := hsub _ m2
  replace m3 := hsub _ m3
  k_steps
  refine comp_eval (cl := [(Str.ofString "wide", L + 1), (Str.ofString "ways", L + 3), (Str.ofString "drawn", L + 2)]) F ?cb ?cc ?ce ?_
  case cb => with_unfolding_all rfl
  case cc => exact rfl
  case ce => decide
  k_steps
  rename_i hr F2 N2 _

  refine ⟨_, blk_VV (Inv := fun i ys nw => ys = [] ∧ TabInv h₁ pr nw) (srcRange (n := 2) rfl F2 N2 hr (small_one (by decide) (by decide) (by decide) (by decide)) (by decide)) (fun _ => rfl) (fun _ => rfl) rfl (by rfl) (by rfl) (by decide) (fun _ _ => rfl) (fun _ _ _ _ => trivial) ⟨rfl, _, _, _, _, _, _, rfl, TS, o1, o2⟩ ?_, ?_⟩
  · clear F2 N2 hr TS o1 o2
    intro i v I oI C oC Dc m₂ h2 tk2 ys2 nw E' hi hPv ⟨hys, hTab⟩ hoC hx F N off ne3
    subst hys
    obtain ⟨tv, rfl⟩ := hPv
    obtain ⟨r, R, nr, wr, WR, nwr, hr, hmr, hwr, hmwr, hR, hS, hW⟩ := df.row hi
    obtain ⟨nD, mD⟩ := df.mD
    obtain ⟨nW, mW⟩ := df.mW
    have sub : ∀ p ∈ pr, p ∈ nw := fun p hp => by obtain ⟨_, _, _, _, _, _, rfl, _⟩ := hTab; exact List.mem_append_left _ hp
    have m2' := sub _ m2
    refine wpAny_tests_nil ?_
    simp only [if_true]
    k_steps
    refine item_led (vs := [Value.ref a, Value.ref b]) N (.tail _ (.tail _ (.tail _ (sub _ (hsub _ mD))))) (by (first | lia | omega)) (by (first | lia | omega)) hr ?_
    k_steps
    refine len_led N (.tail _ (.tail _ (.tail _ (sub _ (hsub _ hmr))))) (by rw [hR.length]; have := hS.len; (first | lia | omega)) ?_
    k_steps
    rename_i hi2 hlen h4 _ _ _ _ hr4 F4 N4 _
    have hS' := hS
    generalize hzs : (if i = 0 then xs else ys) = zs at *
    have nl : Builtin.Range.rangeSize 0 (zs.length : Int) 1 = ((zs.length : Nat) : Int) := by rw [rangeSize_nat]; (first | lia | omega)
    have hIt : I ∉ tabX := by
      obtain ⟨p1, c1, q1, p2, c2, q2, rfl, _⟩ := hTab
      exact not_tab (Ne.symm (off.mem (37, p1) (List.mem_append_right _ (.head _))).1) (Ne.symm (off.mem (44, p2) (List.mem_append_right _ (.tail _ (.tail _ (.head _))))).1)
    have hIp : Off1 I pr := off1_of fun p hp => (off.mem p (sub p hp)).1
    refine ⟨_, _, zs.length, fun j v => ∃ t, v = .int (0 + (j : Int)) t, fun j ys nw => ys = [] ∧ TabInv h₁ ((I, oI) :: pr) ((I, oI) :: nw), [], oC, m₂, nw, rfl, hoC, hx, srcRa rfl F4 N4 hr4 (small_one (by decide) (by decide) (by (first | lia | omega)) (by have := hS.len; (first | lia | omega))) nl, off, fun j ys nw _ hh => by rw [hh.1]; exact Nat.zero_le _, ⟨rfl, hTab.cons (off1_of fun p hp => (off.mem p hp).1)⟩, fun j ys nw hh => hh.2.off hIp hIt, fun ys nw hh => ⟨hh.1, hh.2.tail⟩, ?_⟩
    clear F4 N4 hr4 off
    intro j v I1 oI1 oC1 m1' h5 tk5 ys5 nw5 E5 hj hPj ⟨hys, hTab5⟩ hoC1 hx1 hx0 F N off3 ne5
    subst hys
    obtain ⟨tj, rfl⟩ := hPj
    obtain ⟨p3, c3, q3, p4, c4, q4, e5, TS5, o5, o6⟩ := hTab5
    cases e5
    have sub5 : ∀ p ∈ pre, p ∈ (I1, oI1) :: (C, oC1) :: (Dc, lst []) :: (I, oI) :: (pr ++ tab4 p3 c3 q3 p4 c4 q4) := fun p hp => .tail _ (.tail _ (.tail _ (.tail _ (List.mem_append_left _ (hsub p hp)))))
    have n1 : (L + 1, k1) ∈ (I, oI) :: (pr ++ tab4 p3 c3 q3 p4 c4 q4) := .tail _ (List.mem_append_left _ m1)
    have n2 : (L + 2, k2) ∈ (I, oI) :: (pr ++ tab4 p3 c3 q3 p4 c4 q4) := .tail _ (List.mem_append_left _ m2)
    have n3 : (L + 3, k3) ∈ (I, oI) :: (pr ++ tab4 p3 c3 q3 p4 c4 q4) := .tail _ (List.mem_append_left _ m3)
    obtain ⟨t1, ht1⟩ := hW.at (j := j) (y := dueS zs[j] (2 ^ nn)) (by simp [hj])
    obtain ⟨t2, ht2⟩ := hi2.get j zs[j] (by simp [hj])
    have hzj := hS.lt zs[j] (List.getElem_mem hj)
    have hl15 := hS.len
    refine wpAny_tests_one ?_
    k_steps
    refine item_led (vs := [Value.ref wa, Value.ref wb]) N (sub5 _ mW) (by (first | lia | omega)) (by (first | lia | omega)) hwr ?_
    k_steps
    refine item_led N (sub5 _ hmwr) (by (first | lia | omega)) (by (first | lia | omega)) ht1 ?_
    k_steps
    refine item_led (vs := [Value.ref a, Value.ref b]) N (sub5 _ mD) (by (first | lia | omega)) (by (first | lia | omega)) hr ?_
    k_steps
    refine item_led N (sub5 _ hmr) (by (first | lia | omega)) (by (first | lia | omega)) ht2 ?_
    k_steps
    have e3 : (2 : Int) ^ nn * 2 ^ nn * 2 ^ nn = 8 ^ nn := by rw [← Int.mul_pow, ← Int.mul_pow]; rfl
    have b64 := two_pow_lt df.n6
    refine use_T3 (pre := (I, oI) :: pr) (climb_c zs[j] (2 ^ nn) nn rfl (Int.pow_pos (by decide)) (by (first | lia | omega)) (by rw [e3]; exact hzj.2) (dueS zs[j] (2 ^ nn)) t1 t2 tw hzj.1 df.n1 (by have := df.n6; (first | lia | omega)) (clm_due hzj.1 (Int.pow_pos (by decide)) b64 (by rw [e3]; exact hzj.2))) B F X N off3 hT TS5 o5 o6 (.cons hIt nt) T rfl rfl (by exact roomD hd rfl) (by exact roomU hu rfl) trivial ?_
    rintro v h6 tk6 nw6 F6 N6 off6 ⟨p5, c5, q5, p6, c6, q6, rfl, TS6, o7, o8⟩ rfl
    k_steps
    exact ⟨h6, _, _, rfl, F6, N6, off6, _, rfl, rfl, _, _, _, _, _, _, rfl, TS6, o7, o8⟩
  · rintro ys5 nw5 ⟨rfl, hTab5⟩ D3 h3 tk3 F3 N3 o3
    k_steps
    rename Fr _ _ _ _ => F5
    rename News _ _ _ _ => N5
    refine ne_same (d := .list []) (reads_list_at (N5 (D3, _) (.tail _ (.head _))).1 rfl rfl .nil) (reads_list_at (N5 _ (.head _)).1 rfl rfl .nil) (by decide) (by exact roomV hu rfl) ?_
    k_steps
    obtain ⟨p3, c3, q3, p4, c4, q4, rfl, TS3, o5, o6⟩ := hTab5
    subst hpre
    exact ⟨rfl, nn, D, a, b, W, wa, wb, A, V, WA, WB, xs, ys, pre, TT, k4, k5, df, d4, d5, oq4, oq5, _, _, p3, c3, q3, p4, c4, q4, rfl, F5, fun p hp => N5 p (.tail _ (.tail _ hp)), TS3, o5, o6, nt⟩
end
end Mine
end
section
open PySem PySem.W PyProof.Rows PySem.Calls PyProof.Rows.LCg
set_option maxRecDepth 100000
namespace Mine
theorem DF.mono {L : Addr} {nn : Nat} {D a b W wa wb : Addr} {A B WA WB : List Value} {xs ys : List Int} {pre pre' : List (Addr × Obj)} (x : DF L nn D a b W wa wb A B WA WB xs ys pre) (h : ∀ p ∈ pre, p ∈ pre') : DF L nn D a b W wa wb A B WA WB xs ys pre' :=
  { x with
    mD := x.mD.imp fun _ => h _
    ma := x.ma.imp fun _ => h _
    mb := x.mb.imp fun _ => h _
    mW := x.mW.imp fun _ => h _
    mwa := x.mwa.imp fun _ => h _
    mwb := x.mwb.imp fun _ => h _
    c1 := x.c1.imp fun _ y => y.imp fun _ z => ⟨h _ z.1, z.2⟩
    c2 := x.c2.imp fun _ z => ⟨h _ z.1, z.2⟩
    c3 := x.c3.imp fun _ z => ⟨h _ z.1, z.2⟩ }
inductive TupIn (m k : Nat) (v : Value) (nw : List (Addr × Obj)) : Prop
  | mk (t : Addr) (ta tb : Tok) (e : v = .ref t) (h : (t, tupO #[.int ((k / m : Nat) : Int) ta, .int ((k % m : Nat) : Int) tb]) ∈ nw) : TupIn m k v nw
/-- the k-th of these is the pair of k's quotient and rest by m -/
def PairsAre (m : Nat) (vs : List Value) (nw : List (Addr × Obj)) : Prop :=
  ∀ k v, vs[k]? = some v → TupIn m k v nw
theorem PairsAre.mono {m : Nat} {vs : List Value} {nw nw' : List (Addr × Obj)} (x : PairsAre m vs nw) (h : ∀ p ∈ nw, p ∈ nw') : PairsAre m vs nw' := fun k v e => by
  obtain ⟨t, ta, tb, hv, hm⟩ := x k v e
  exact ⟨t, ta, tb, hv, h _ hm⟩
theorem PairsAre.add {m i j : Nat} {vs : List Value} {nw : List (Addr × Obj)} {t : Addr} {ta tb : Tok} (x : PairsAre m vs nw) (hl : vs.length = i * m + j) (hj : j < m) : PairsAre m (vs ++ [.ref t]) ((t, tupO #[.int (i : Int) ta, .int (j : Int) tb]) :: nw) := fun k v e => by
  by_cases h : k < vs.length
  · rw [List.getElem?_append_left h] at e
    exact (x.mono (fun _ hp => .tail _ hp)) k v e
  · rw [List.getElem?_append_right (by (first | lia | omega))] at e
    have hk : k = vs.length := by
      by_cases q : k - vs.length = 0
      · (first | lia | omega)
      · rw [List.getElem?_eq_none (by simp; (first | lia | omega))] at e; cases e
    subst hk
    have ev : v = .ref t := by simpa using e.symm
    have e1 : (i * m + j) / m = i := by rw [Nat.mul_comm, Nat.mul_add_div (by (first | lia | omega)), Nat.div_eq_of_lt hj]; rfl
    have e2 : (i * m + j) % m = j := by rw [Nat.mul_comm, Nat.mul_add_mod, Nat.mod_eq_of_lt hj]
    exact ⟨t, ta, tb, ev, by rw [hl, e1, e2]; exact .head _⟩
/-- pairs so far: the new tuples lie before what stood -/
def PairInv (m : Nat) (bs : List (Addr × Obj)) (len : Nat) (vs : List Value) (nw : List (Addr × Obj)) : Prop :=
  ∃ tps, nw = tps ++ bs ∧ (∀ p ∈ tps, Off1 p.1 bs) ∧ vs.length = len ∧ PairsAre m vs tps
theorem PairInv.add {m i j : Nat} {bs nw : List (Addr × Obj)} {vs : List Value} {t : Addr} {ta tb : Tok} (x : PairInv m bs (i * m + j) vs nw) (hj : j < m) (o : Off1 t nw) : PairInv m bs (i * m + (j + 1)) (vs ++ [.ref t]) ((t, tupO #[.int (i : Int) ta, .int (j : Int) tb]) :: nw) := by
  obtain ⟨tps, rfl, ho, hl, hP⟩ := x
  refine ⟨_ :: tps, rfl, fun p hp => ?_, by rw [List.length_append, hl]; rfl, hP.add hl hj⟩
  rcases List.mem_cons.mp hp with rfl | hp
  · exact off1_of fun q hq => off1_mem o q (List.mem_append_right _ hq)
  · exact ho p hp
/-- the pairs are laid -/
inductive LawF (h₁ : Heap) (L : Addr) (sh : Shared) (l : Addr) (s : Shared) : Prop
  | mk (nn : Nat) (D : Addr) (a : Addr) (b : Addr) (W : Addr) (wa : Addr) (wb : Addr) (A : List Value) (B : List Value) (WA : List Value) (WB : List Value) (xs : List Int) (ys : List Int) (pre : List (Addr × Obj)) (T : Addr) (k4 : Obj) (k5 : Obj) (P : Addr) (items : List Value) (nP : Nat) (f0 : DF L nn D a b W wa wb A B WA WB xs ys pre) (f1 : k4.data = .cell none) (f2 : k5.data = .cell none) (f3 : Off1 (L + 4) pre) (f4 : Off1 (L + 5) pre) (f5 : (P, PySem.W.listOf items.toArray nP) ∈ pre) (f6 : items.length = xs.length * ys.length) (f7 : PairsAre ys.length items pre) (f8 : LSt h₁ L sh (mapL l (some (.ref P)) (some (.ref T))) ((L + 4, k4) :: (L + 5, k5) :: pre) s) : LawF h₁ L sh l s
section
set_option maxHeartbeats 1000000 in
theorem law_6 {w : World} {loose : List Str} {mean : ExcName → Option Value} {mg mb : Str → Option Value} {dp un : Nat} {gd : Option (List Code)} {frames : List Env} {base h₁ : Heap} (C : LCtx w loose mean mg mb dp un gd frames base h₁) {L fa : Addr} {cd : Value} {sh : Shared} (l : Addr) :
    LawRun w dp un gd frames L fa cd 6 (LawE h₁ L sh l) (LawF h₁ L sh l) := by
  w_top off
  k_with_none
  k_with "k_room" => (ktr_room)
  k_with "k_ne" => (first | exact offN (by assumption) (by k_mem) | exact Ne.symm (offN (by assumption) (by k_mem)) | (refine neN ?_; (try dsimp only); (first | lia | omega)))
  k_with "pyIter ref" => ((refine held (p := wpAny _ _ (pyIter (Value.ref _)) _ _ _) ?_))
  k_with "exec Assign cons ListComp" => ((refine held (p := wpAny _ _ (exec _ _) _ _ _) ?_))
  k_with "subscriptTail" => ((refine held (p := wpAny _ _ (subscriptTail _ _ _ _) _ _ _) ?_))
  k_with "call builtin:len" => ((refine held (p := wpAny _ _ (PySem.call _ _) _ _ _) ?_))
  k_with "k_mem" => (first | exact List.Mem.head _ | assumption | (refine' List.Mem.tail _ ?_; k_mem))
  refine .of fun sc st hsc hst E s hP => ?_
  obtain ⟨B, X, T, hT, hd, hu⟩ := C
  conv at hsc => rhs; whnf
  conv at hst => rhs; whnf
  subst hsc hst
  obtain ⟨nn, D, a, b, W, wa, wb, A, V, WA, WB, xs, ys, pre, TT, k4, k5, df, d4, d5, oq4, oq5, h, tk, p1, c1, q1, p2, c2, q2, rfl, F, N, TS, o1, o2, nt⟩ := hP
  revert X; k_fill; intro X
  generalize hpre : (L + 4, k4) :: (L + 5, k5) :: pre = pr at N o1 o2 nt
  have hsub : ∀ p ∈ pre, p ∈ pr := fun p hp => by rw [← hpre]; exact .tail _ (.tail _ hp)
  obtain ⟨k2, m2, d2⟩ := df.c2
  replace m2 : (L + 2, k2) ∈ pr ++ tab4 p1 c1 q1 p2 c2 q2 := List.mem_append_left _ (hsub _ m2)
  obtain ⟨nD, mD⟩ := df.mD
  obtain ⟨na, ma⟩ := df.ma
  obtain ⟨nb, mb'⟩ := df.mb
  replace mD : (D, PySem.W.listOf #[Value.ref a, Value.ref b] nD) ∈ pr ++ tab4 p1 c1 q1 p2 c2 q2 := List.mem_append_left _ (hsub _ mD)
  replace ma : (a, PySem.W.listOf A.toArray na) ∈ pr ++ tab4 p1 c1 q1 p2 c2 q2 := List.mem_append_left _ (hsub _ ma)
  replace mb' : (b, PySem.W.listOf V.toArray nb) ∈ pr ++ tab4 p1 c1 q1 p2 c2 q2 := List.mem_append_left _ (hsub _ mb')
  generalize hbs : pr ++ tab4 p1 c1 q1 p2 c2 q2 = bs at N m2 mD ma mb'
  have hA := df.iA.length
  have hB := df.iB.length
  have lA := df.sA.len
  have lB := df.sB.len
  k_steps
  refine comp_local (cl := [(Str.ofString "drawn", L + 2)]) F ?a0 ?a ?b ?c0 ?c ?d ?e ?_
  case a0 => exact rfl
  case a => with_unfolding_all rfl
  case b => with_unfolding_all rfl
  case c0 => exact rfl
  case c => decide
  case d => exact rfl
  case e => exact rfl
  k_steps
  refine item_led (i := 0) (vs := [Value.ref a, Value.ref b]) N mD rfl (by decide) rfl ?_
  k_steps
  refine len_led N ma (by (first | lia | omega)) ?_
  k_steps
  rename_i hr F2 N2 _
  have nlA : Builtin.Range.rangeSize 0 (A.length : Int) 1 = ((A.length : Nat) : Int) := by rw [rangeSize_nat]; (first | lia | omega)
  have nlB : Builtin.Range.rangeSize 0 (V.length : Int) 1 = ((V.length : Nat) : Int) := by rw [rangeSize_nat]; (first | lia | omega)
  refine ⟨_, blk_VV (Inv := fun i vs nw => PairInv V.length bs (i * V.length) vs nw) (srcRange (n := A.length) rfl F2 N2 hr (small_one (by decide) (by decide) (by (first | lia | omega)) (by (first | lia | omega))) nlA) (fun _ => rfl) (fun _ => rfl) rfl (by rfl) (by rfl) (by decide) (fun _ _ => rfl) (fun _ _ _ _ => trivial) ⟨[], rfl, (fun _ h => nomatch h), (Nat.zero_mul _).symm, (fun k v e => nomatch e)⟩ ?_, ?_⟩
  · clear F2 N2 hr
    intro i v I oI C oC Dc m₂ h2 tk2 vs nw E' hi hPv hI hoC hx F N off ne3
    obtain ⟨tv, rfl⟩ := hPv
    have sub : ∀ p ∈ bs, p ∈ nw := fun p hp => by obtain ⟨_, rfl, _⟩ := hI; exact List.mem_append_right _ hp
    have m2' := sub _ m2
    refine wpAny_tests_nil ?_
    simp only [if_true]
    k_steps
    refine item_led (i := 1) (vs := [Value.ref a, Value.ref b]) N (.tail _ (.tail _ (.tail _ (sub _ mD)))) rfl (by decide) rfl ?_
    k_steps
    refine len_led N (.tail _ (.tail _ (.tail _ (sub _ mb')))) (by (first | lia | omega)) ?_
    k_steps
    rename_i hr4 F4 N4 _
    refine ⟨_, _, V.length, fun j v => ∃ t, v = .int (0 + (j : Int)) t, fun j ws nw => Off1 I nw ∧ PairInv V.length bs (i * V.length + j) ws nw, vs, oC, m₂, nw, rfl, hoC, hx, srcRa rfl F4 N4 hr4 (small_one (by decide) (by decide) (by (first | lia | omega)) (by (first | lia | omega))) nlB, off, ?_, ⟨off1_of fun p hp => (off.mem p hp).1, hI⟩, fun _ _ _ hh => hh.1, fun ws nw hh => by rw [Nat.succ_mul]; exact hh.2, ?_⟩
    · rintro j ws nw hj ⟨_, _, _, _, hl, _⟩
      have h1 : i * V.length + j ≤ 15 * 15 + 15 := Nat.add_le_add (Nat.mul_le_mul (by (first | lia | omega)) (by (first | lia | omega))) (by (first | lia | omega))
      rw [hl, PySem.sizeLine_eq]; (first | lia | omega)
    · clear F4 N4 hr4 off
      intro j v I1 oI1 oC1 m1' h5 tk5 ws nw5 E5 hj hPj ⟨hIo, hI5⟩ hoC1 hx1 hx0 F N off3 ne5
      obtain ⟨tj, rfl⟩ := hPj
      refine wpAny_tests_nil ?_
      simp only [if_true]
      k_steps
      rename Fr _ _ _ _ => F6
      rename News _ _ _ _ => N6
      rename_i t _ lt6
      have ot : Off1 t nw5 := off1_of fun p hp => Nat.ne_of_lt (kst_ltOf lt6.2.2.2.2 p hp)
      rw [Int.zero_add, Int.zero_add] at N6
      refine ⟨_, _, (I, oI) :: (t, tupO #[.int (i : Int) tv, .int (j : Int) tj]) :: nw5, rfl, F6, fun p hp => ?_, ⟨off3.1, ⟨Nat.ne_of_gt lt6.1, Nat.ne_of_gt lt6.2.1, Nat.ne_of_gt lt6.2.2.1⟩, off3.2⟩, _, rfl, ⟨Nat.ne_of_gt lt6.2.2.2.1, hIo⟩, hI5.add hj ot⟩
      simp only [List.mem_cons] at hp
      rcases hp with rfl | rfl | rfl | rfl | rfl | hp
      · exact N6 _ (.tail _ (.head _))
      · exact N6 _ (.tail _ (.tail _ (.head _)))
      · exact N6 _ (.tail _ (.tail _ (.tail _ (.head _))))
      · exact N6 _ (.tail _ (.tail _ (.tail _ (.tail _ (.head _)))))
      · exact N6 _ (.head _)
      · exact N6 _ (.tail _ (.tail _ (.tail _ (.tail _ (.tail _ hp)))))
  · rintro vs nw ⟨tps, rfl, hoff, hl, hPr⟩ P h3 tk3 F3 N3 o3
    have oP := off1_mem o3
    subst hbs
    subst hpre
    have offm : ∀ p ∈ (P, lst vs) :: tps, ∀ q ∈ (L + 4, k4) :: (L + 5, k5) :: pre ++ tab4 p1 c1 q1 p2 c2 q2, @Ne Nat q.1 p.1 := fun p hp q hq => by
      rcases List.mem_cons.mp hp with rfl | hp
      · exact oP q (List.mem_append_right _ hq)
      · exact off1_mem (hoff p hp) q hq
    have mapsto : (fun z => if z = Str.ofString "pairs" then some (Value.ref P) else mapL l none (some (Value.ref TT)) z) = mapL l (some (.ref P)) (some (.ref TT)) := by
      funext z
      by_cases q : z = Str.ofString "pairs"
      · subst q; rfl
      · unfold mapL; simp only [if_neg q]
    rw [mapsto] at F3
    have o4 : Off1 (L + 4) ((P, lst vs) :: tps ++ pre) := off1_of fun p hp => by
      rcases List.mem_append.mp hp with hp | hp
      · exact Ne.symm (offm p hp (L + 4, k4) (.head _))
      · exact off1_mem oq4 p hp
    have o5 : Off1 (L + 5) ((P, lst vs) :: tps ++ pre) := off1_of fun p hp => by
      rcases List.mem_append.mp hp with hp | hp
      · exact Ne.symm (offm p hp (L + 5, k5) (.tail _ (.head _)))
      · exact off1_mem oq5 p hp
    have oc : ∀ {c : Addr} {o : Obj}, (c, o) ∈ tab4 p1 c1 q1 p2 c2 q2 → Off1 c ((L + 4, k4) :: (L + 5, k5) :: pre) → Off1 c ((L + 4, k4) :: (L + 5, k5) :: ((P, lst vs) :: tps ++ pre)) := fun {c o} hm hh => ⟨hh.1, hh.2.1, off1_of fun p hp => by
      rcases List.mem_append.mp hp with hp | hp
      · exact Ne.symm (offm p hp (c, o) (List.mem_append_right _ hm))
      · exact off1_mem hh.2.2 p hp⟩
    have hnt : NoTab ((L + 4, k4) :: (L + 5, k5) :: ((P, lst vs) :: tps ++ pre)) := .cons (nt _ (.head _)) (.cons (nt _ (.tail _ (.head _))) fun p hp => by
      rcases List.mem_append.mp hp with hp | hp
      · exact not_tab (Ne.symm (offm p hp (37, p1) (List.mem_append_right _ (.head _)))) (Ne.symm (offm p hp (44, p2) (List.mem_append_right _ (.tail _ (.tail _ (.head _))))))
      · exact nt p (.tail _ (.tail _ hp)))
    refine ⟨rfl, nn, D, a, b, W, wa, wb, A, V, WA, WB, xs, ys, (P, lst vs) :: tps ++ pre, TT, k4, k5, P, vs, _, df.mono fun p hp => List.mem_append_right _ hp, d4, d5, o4, o5, .head _, by rw [hl, hA, hB], ?_, h3, _, p1, c1, q1, p2, c2, q2, rfl, F3, fun p hp => N3 p ?_, TS, oc (.tail _ (.head _)) o1, oc (.tail _ (.tail _ (.tail _ (.head _)))) o2, hnt⟩
    · rw [← hB]; exact hPr.mono fun p hp => .tail _ (List.mem_append_left _ hp)
    · simp only [List.cons_append, List.mem_cons, List.mem_append] at hp ⊢
      rcases hp with h | h | h | (h | h) | h
      · exact .inr (.inr (.inl h))
      · exact .inr (.inr (.inr (.inl h)))
      · exact .inl h
      · exact .inr (.inl h)
      · exact .inr (.inr (.inr (.inr (.inl h))))
      · exact .inr (.inr (.inr (.inr (.inr h))))
end
end Mine
end
section
open PySem PySem.W PyProof.Rows PySem.Calls PyProof.Rows.LCg
set_option maxRecDepth 100000
namespace Mine
/-- how two numbers stand to each other, in signs -/
def cI (x y : Int) : Str := if x = y then Str.ofString "0" else if y < x then Str.ofString "1" else Str.ofString "-1"
section
set_option maxHeartbeats 1000000 in
theorem law_7 {w : World} {loose : List Str} {mean : ExcName → Option Value} {mg mb : Str → Option Value} {dp un : Nat} {gd : Option (List Code)} {frames : List Env} {base h₁ : Heap} (C : LCtx w loose mean mg mb dp un gd frames base h₁) {L fa : Addr} {cd : Value} {sh : Shared} (l : Addr) :
    LawRun w dp un gd frames L fa cd 7 (LawF h₁ L sh l) (LawF h₁ L sh l) := by
  w_top off
  k_with_none
  k_with "k_room" => (ktr_room)
  k_with "k_ne" => (first | exact offN (by assumption) (by k_mem) | exact Ne.symm (offN (by assumption) (by k_mem)) | (refine neN ?_; (try dsimp only); (first | lia | omega)))
  k_with "call ref" => ((refine held (p := wpAny _ _ (PySem.call (Value.ref _) _) _ _ _) ?_))
  k_with "pyIter ref" => ((refine held (p := wpAny _ _ (pyIter (Value.ref _)) _ _ _) ?_))
  k_with "eval ListComp" => ((refine held (p := wpAny _ _ (eval _ _) _ _ _) ?_))
  k_with "compareOp NotEq ref ref" => ((refine held (p := wpAny _ _ (compareOp _ _ _) _ _ _) ?_))
  k_with "subscriptTail" => ((refine held (p := wpAny _ _ (subscriptTail _ _ _ _) _ _ _) ?_))
  k_with "k_mem" => (first | exact List.Mem.head _ | assumption | (refine' List.Mem.tail _ ?_; k_mem))
  refine .of fun sc st hsc hst E s hP => ?_
  obtain ⟨B, X, T, hT, hd, hu⟩ := C
  conv at hsc => rhs; whnf
  conv at hst => rhs; whnf
  subst hsc hst
  obtain ⟨nn, D, a, b, W, wa, wb, A, V, WA, WB, xs, ys, pre, TT, k4, k5, P, items, nP, df, d4, d5, oq4, oq5, mP, hlen, hPr, h, tk, p1, c1, q1, p2, c2, q2, rfl, F, N, TS, o1, o2, nt⟩ := hP
  revert X; k_fill; intro X
  generalize hbs : (L + 4, k4) :: (L + 5, k5) :: pre ++ tab4 p1 c1 q1 p2 c2 q2 = bs at N
  have hsub : ∀ p ∈ pre, p ∈ bs := fun p hp => by rw [← hbs]; exact .tail _ (.tail _ (List.mem_append_left _ hp))
  obtain ⟨k2, m2, d2⟩ := df.c2
  obtain ⟨k3, m3, d3⟩ := df.c3
  obtain ⟨nD, mD⟩ := df.mD
  obtain ⟨na, ma⟩ := df.ma
  obtain ⟨nb, mb'⟩ := df.mb
  obtain ⟨nW, mW⟩ := df.mW
  obtain ⟨nwa, mwa⟩ := df.mwa
  obtain ⟨nwb, mwb⟩ := df.mwb
  replace m2 := hsub _ m2
  replace m3 := hsub _ m3
  replace mD := hsub _ mD
  replace ma := hsub _ ma
  replace mb' := hsub _ mb'
  replace mW := hsub _ mW
  replace mwa := hsub _ mwa
  replace mwb := hsub _ mwb
  have mP' := mP
  have hPr' := hPr
  replace mP := hsub _ mP
  replace hPr := hPr.mono hsub
  have lA := df.sA.len
  have lB := df.sB.len
  have b64 := two_pow_lt df.n6
  have b0 : (0 : Int) < 2 ^ nn := Int.pow_pos (by decide)
  have e3 : (2 : Int) ^ nn * 2 ^ nn * 2 ^ nn = 8 ^ nn := by rw [← Int.mul_pow, ← Int.mul_pow]; rfl
  -- the numbers of a pair
  have pk : ∀ i, i < xs.length * ys.length → ∃ (h1 : i / ys.length < xs.length) (h2 : i % ys.length < ys.length) (t1 t2 t3 t4 : Tok), WA[i / ys.length]? = some (.str (dueS xs[i / ys.length] (2 ^ nn)) t1) ∧ WB[i % ys.length]? = some (.str (dueS ys[i % ys.length] (2 ^ nn)) t2) ∧
      A[i / ys.length]? = some (.int xs[i / ys.length] t3) ∧ V[i % ys.length]? = some (.int ys[i % ys.length] t4) := fun i hi => by
    have h1 : i / ys.length < xs.length := Nat.div_lt_of_lt_mul (by rw [Nat.mul_comm]; exact hi)
    have h2 : i % ys.length < ys.length := Nat.mod_lt _ (Nat.pos_of_ne_zero fun q => by rw [q, Nat.mul_zero] at hi; (first | lia | omega))
    obtain ⟨t1, e1⟩ := df.hWA.at (j := i / ys.length) (y := dueS xs[i / ys.length] (2 ^ nn)) (by simp [h1])
    obtain ⟨t2, e2⟩ := df.hWB.at (j := i % ys.length) (y := dueS ys[i % ys.length] (2 ^ nn)) (by simp [h2])
    obtain ⟨t3, e3⟩ := df.iA.get (i / ys.length) xs[i / ys.length] (by simp [h1])
    obtain ⟨t4, e4⟩ := df.iB.get (i % ys.length) ys[i % ys.length] (by simp [h2])
    exact ⟨h1, h2, t1, t2, t3, t4, e1, e2, e3, e4⟩
  have hTp : ∀ (nw : List (Addr × Obj)) (k : Nat) (v : Value), (∀ p ∈ bs, p ∈ nw) → items.toArray[k]? = some v → ∃ t v₁ v₂ nt, v = .ref t ∧ (t, ({ cls := .type "tuple", data := .seq #[v₁, v₂] nt } : Obj)) ∈ nw ∧ (∃ ta tb, v₁ = .int ((k / ys.length : Nat) : Int) ta ∧ v₂ = .int ((k % ys.length : Nat) : Int) tb) := fun nw k v hs e => by
    obtain ⟨t, ta, tb, hv, hm⟩ := hPr k v (by simpa using e)
    exact ⟨t, _, _, _, hv, hs _ hm, ta, tb, rfl, rfl⟩
  generalize hg : (fun k => cI (xs.getD (k / ys.length) 0) (ys.getD (k % ys.length) 0)) = g
  k_steps
  refine comp_eval (cl := [(Str.ofString "ways", L + 3)]) F ?cb ?cc ?ce ?_
  case cb => with_unfolding_all rfl
  case cc => exact rfl
  case ce => decide
  k_steps
  refine ⟨_, blk_P (Inv := fun k ws nw => nw = bs ∧ StrsAre ws ((List.range k).map g)) (V := fun k v₁ v₂ => ∃ ta tb, v₁ = .int ((k / ys.length : Nat) : Int) ta ∧ v₂ = .int ((k % ys.length : Nat) : Int) tb) rfl (srcLi rfl F N (its := items.toArray) (.inr ⟨_, mP, rfl, _, rfl⟩)) (fun _ => rfl) (fun _ => rfl) rfl (by rfl) (by rfl) (by decide) (fun k v ws nw hPk hI => hTp nw k v (fun p hp => by rw [hI.1]; exact hp) hPk)
    (fun k ws nw hk hI => by rw [hI.2.len_eq, List.length_map, List.length_range, PySem.sizeLine_eq]; rw [List.size_toArray, hlen] at hk; have := Nat.mul_le_mul lA lB; (first | lia | omega)) (fun k ws nw hI => by rw [hI.1]; exact .inr ⟨_, mP, rfl, _, rfl⟩) ⟨rfl, .nil⟩ ?_, ?_⟩
  · clear N F
    intro i v₁ v₂ I oI C oC Dc m₂ h2 tk2 ws nw E' hi ⟨ta, tb, hv1, hv2⟩ ⟨hnw, hws⟩ hoC e₁ e₂ F N off ne3
    subst hnw hv1 hv2
    rw [List.size_toArray, hlen] at hi
    obtain ⟨h1, h2', t1, t2, t3, t4, g1, g2, g3, g4⟩ := pk i hi
    k_steps
    refine item_led (i := 0) (vs := [Value.ref wa, Value.ref wb]) N (.tail _ (.tail _ (.tail _ mW))) rfl (by decide) rfl ?_
    k_steps
    refine item_led N (.tail _ (.tail _ (.tail _ mwa))) rfl (by (first | lia | omega)) g1 ?_
    k_steps
    refine item_led (i := 1) (vs := [Value.ref wa, Value.ref wb]) N (.tail _ (.tail _ (.tail _ mW))) rfl (by decide) rfl ?_
    k_steps
    refine item_led N (.tail _ (.tail _ (.tail _ mwb))) rfl (by (first | lia | omega)) g2 ?_
    k_steps
    have hcm := cmp_due b0 b64 (df.sA.lt _ (List.getElem_mem h1)).1 (df.sB.lt _ (List.getElem_mem h2')).1 (by rw [e3]; exact (df.sA.lt _ (List.getElem_mem h1)).2) (by rw [e3]; exact (df.sB.lt _ (List.getElem_mem h2')).2)
    refine use0 (cmp_c (dueS xs[i / ys.length] (2 ^ nn)) (dueS ys[i % ys.length] (2 ^ nn)) t1 t2) B F X N T rfl rfl (by exact roomD hd rfl) (by exact roomU hu rfl) ?_
    intro t h' tk' F' N'
    rw [hcm]
    have hgi : g i = cI xs[i / ys.length] ys[i % ys.length] := by rw [← hg]; simp [List.getD, h1, h2']
    have hr : (List.range (i + 1)).map g = (List.range i).map g ++ [g i] := by rw [List.range_succ, List.map_append]; rfl
    rw [hgi] at hr
    have fin : ∀ (v : Str) (tv : Tok), v = cI xs[i / ys.length] ys[i % ys.length] → StrsAre (ws ++ [.str v tv]) ((List.range (i + 1)).map g) := fun v tv e => by rw [hr, ← e]; exact StrsAre.snoc hws
    clear hr hgi hcm g1 g2 g3 g4
    by_cases q1 : xs[i / ys.length] = ys[i % ys.length]
    · rw [if_pos q1]
      k_steps
      exact ⟨_, _, _, rfl, F', N', off, rfl, fin _ _ (if_pos q1).symm⟩
    · rw [if_neg q1]
      by_cases q2 : ys[i % ys.length] < xs[i / ys.length]
      · rw [if_pos q2]
        k_steps
        exact ⟨_, _, _, rfl, F', N', off, rfl, fin _ _ (by unfold cI; rw [if_neg q1, if_pos q2]; rfl)⟩
      · rw [if_neg q2]
        k_steps
        exact ⟨_, _, _, rfl, F', N', off, rfl, fin _ _ (by unfold cI; rw [if_neg q1, if_neg q2]; rfl)⟩
  · clear N F
    rintro ws0 nw0 ⟨hnw, hws0⟩ D3 h3 tk3 F3 N3 o3
    rw [hnw] at N3 o3
    clear hnw
    rw [List.size_toArray, hlen] at hws0
    have mD3 : ∀ p ∈ bs, p ∈ (D3, lst ws0) :: bs := fun p hp => .tail _ hp
    k_steps
    refine comp_eval (cl := [(Str.ofString "drawn", L + 2)]) F3 ?cb ?cc ?ce ?_
    case cb => with_unfolding_all rfl
    case cc => exact rfl
    case ce => decide
    k_steps
    refine ⟨_, blk_P (Inv := fun k ws nw => nw = (D3, lst ws0) :: bs ∧ StrsAre ws ((List.range k).map g)) (V := fun k v₁ v₂ => ∃ ta tb, v₁ = .int ((k / ys.length : Nat) : Int) ta ∧ v₂ = .int ((k % ys.length : Nat) : Int) tb) rfl (srcLi rfl F3 N3 (its := items.toArray) (.inr ⟨_, .tail _ mP, rfl, _, rfl⟩)) (fun _ => rfl) (fun _ => rfl) rfl (by rfl) (by rfl) (by decide) (fun k v ws nw hPk hI => hTp nw k v (fun p hp => by rw [hI.1]; exact mD3 p hp) hPk)
      (fun k ws nw hk hI => by rw [hI.2.len_eq, List.length_map, List.length_range, PySem.sizeLine_eq]; rw [List.size_toArray, hlen] at hk; have := Nat.mul_le_mul lA lB; (first | lia | omega)) (fun k ws nw hI => by rw [hI.1]; exact .inr ⟨_, .tail _ mP, rfl, _, rfl⟩) ⟨rfl, .nil⟩ ?_, ?_⟩
    · clear N3 F3 o3
      intro i v₁ v₂ I oI C oC Dc m₂ h2 tk2 ws nw E' hi ⟨ta, tb, hv1, hv2⟩ ⟨hnw, hws⟩ hoC e₁ e₂ F N off ne3
      subst hv1 hv2
      rw [hnw] at N off
      rw [List.size_toArray, hlen] at hi
      obtain ⟨h1, h2', t1, t2, t3, t4, g1, g2, g3, g4⟩ := pk i hi
      have hgi : g i = cI xs[i / ys.length] ys[i % ys.length] := by rw [← hg]; simp [List.getD, h1, h2']
      have hr : (List.range (i + 1)).map g = (List.range i).map g ++ [g i] := by rw [List.range_succ, List.map_append]; rfl
      rw [hgi] at hr
      have fin : ∀ (v : Str) (tv : Tok), v = cI xs[i / ys.length] ys[i % ys.length] → StrsAre (ws ++ [.str v tv]) ((List.range (i + 1)).map g) := fun v tv e => by rw [hr, ← e]; exact StrsAre.snoc hws
      clear hr hgi hnw g1 g2
      k_steps
      refine item_led (i := 0) (vs := [Value.ref a, Value.ref b]) N (.tail _ (.tail _ (.tail _ (mD3 _ mD)))) rfl (by decide) rfl ?_
      k_steps
      refine item_led N (.tail _ (.tail _ (.tail _ (mD3 _ ma)))) rfl (by (first | lia | omega)) g3 ?_
      k_steps
      refine item_led (i := 1) (vs := [Value.ref a, Value.ref b]) N (.tail _ (.tail _ (.tail _ (mD3 _ mD)))) rfl (by decide) rfl ?_
      k_steps
      refine item_led N (.tail _ (.tail _ (.tail _ (mD3 _ mb')))) rfl (by (first | lia | omega)) g4 ?_
      k_steps
      · exact ⟨_, _, _, rfl, F, N, off, rfl, fin _ _ (if_pos (by assumption)).symm⟩
      · rename_i q1
        refine item_led (i := 0) (vs := [Value.ref a, Value.ref b]) N (.tail _ (.tail _ (.tail _ (mD3 _ mD)))) rfl (by decide) rfl ?_
        k_steps
        refine item_led N (.tail _ (.tail _ (.tail _ (mD3 _ ma)))) rfl (by (first | lia | omega)) g3 ?_
        k_steps
        refine item_led (i := 1) (vs := [Value.ref a, Value.ref b]) N (.tail _ (.tail _ (.tail _ (mD3 _ mD)))) rfl (by decide) rfl ?_
        k_steps
        refine item_led N (.tail _ (.tail _ (.tail _ (mD3 _ mb')))) rfl (by (first | lia | omega)) g4 ?_
        k_steps
        · rename_i q2
          exact ⟨_, _, _, rfl, F, N, off, rfl, fin _ _ (by unfold cI; rw [if_neg q1, if_pos q2])⟩
        · rename_i q2
          exact ⟨_, _, _, rfl, F, N, off, rfl, fin _ _ (by unfold cI; rw [if_neg q1, if_neg (by (first | lia | omega))])⟩
    · clear N3 F3
      rintro ws nw ⟨hnw, hws⟩ D4 h4 tk4 F4 N4 o4
      rw [hnw] at N4 o4
      rw [List.size_toArray, hlen] at hws
      have ok : OkS ((List.range (xs.length * ys.length)).map g) := fun x hx => by
        obtain ⟨k, _, rfl⟩ := List.mem_map.mp hx
        rw [← hg]
        show PyData.strOk (cI _ _) = true
        unfold cI
        split
        · decide +kernel
        · split <;> decide +kernel
      refine ne_same (reads_list_at (N4 (D3, _) (.tail _ (.head _))).1 rfl rfl (strs_readAll h4 (by simpa using hws0))) (reads_list_at (N4 _ (.head _)).1 rfl rfl (strs_readAll h4 (by simpa using hws))) (shaped_strs ok) (by exact roomV hu rfl) ?_
      k_steps
      subst hbs
      exact ⟨rfl, nn, D, a, b, W, wa, wb, A, V, WA, WB, xs, ys, pre, TT, k4, k5, P, items, nP, df, d4, d5, oq4, oq5, mP', hlen, hPr', _, _, p1, c1, q1, p2, c2, q2, rfl, F4, fun p hp => N4 p (.tail _ (.tail _ hp)), TS, o1, o2, nt⟩
end
end Mine
end
section
open PySem PySem.W PyProof.Rows PySem.Calls PyProof.Rows.LCg
set_option maxRecDepth 100000
namespace Mine
section
set_option maxHeartbeats 1000000 in
theorem law_8 {w : World} {loose : List Str} {mean : ExcName → Option Value} {mg mb : Str → Option Value} {dp un : Nat} {gd : Option (List Code)} {frames : List Env} {base h₁ : Heap} (C : LCtx w loose mean mg mb dp un gd frames base h₁) {L fa : Addr} {cd : Value} {sh : Shared} (l : Addr) :
    LawRun w dp un gd frames L fa cd 8 (LawF h₁ L sh l) (LawF h₁ L sh l) := by
  w_top off
  k_with_none
  k_with "k_room" => (ktr_room)
  k_with "k_ne" => (first | exact offN (by assumption) (by k_mem) | exact Ne.symm (offN (by assumption) (by k_mem)) | (refine neN ?_; (try dsimp only); (first | lia | omega)))
  k_with "call ref" => ((refine held (p := wpAny _ _ (PySem.call (Value.ref _) _) _ _ _) ?_))
  k_with "pyIter ref" => ((refine held (p := wpAny _ _ (pyIter (Value.ref _)) _ _ _) ?_))
  k_with "eval ListComp" => ((refine held (p := wpAny _ _ (eval _ _) _ _ _) ?_))
  k_with "compareOp NotEq ref ref" => ((refine held (p := wpAny _ _ (compareOp _ _ _) _ _ _) ?_))
  k_with "subscriptTail" => ((refine held (p := wpAny _ _ (subscriptTail _ _ _ _) _ _ _) ?_))
  k_with "binaryOp Pow int int" => ((refine held (p := wpAny _ _ (binaryOp _ _ _) _ _ _) ?_))
  k_with "k_mem" => (first | exact List.Mem.head _ | assumption | (refine' List.Mem.tail _ ?_; k_mem))
  refine .of fun sc st hsc hst E s hP => ?_
  obtain ⟨B, X, T, hT, hd, hu⟩ := C
  conv at hsc => rhs; whnf
  conv at hst => rhs; whnf
  subst hsc hst
  obtain ⟨nn, D, a, b, W, wa, wb, A, V, WA, WB, xs, ys, pre, TT, k4, k5, P, items, nP, df, d4, d5, oq4, oq5, mP, hlen, hPr, h, tk, p1, c1, q1, p2, c2, q2, rfl, F, N, TS, o1, o2, nt⟩ := hP
  revert X; k_fill; intro X
  generalize hbs : (L + 4, k4) :: (L + 5, k5) :: pre ++ tab4 p1 c1 q1 p2 c2 q2 = bs at N
  have hsub : ∀ p ∈ pre, p ∈ bs := fun p hp => by rw [← hbs]; exact .tail _ (.tail _ (List.mem_append_left _ hp))
  obtain ⟨k1, tw, m1, d1⟩ := df.c1
  obtain ⟨k2, m2, d2⟩ := df.c2
  obtain ⟨k3, m3, d3⟩ := df.c3
  obtain ⟨nD, mD⟩ := df.mD
  obtain ⟨na, ma⟩ := df.ma
  obtain ⟨nb, mb'⟩ := df.mb
  obtain ⟨nW, mW⟩ := df.mW
  obtain ⟨nwa, mwa⟩ := df.mwa
  obtain ⟨nwb, mwb⟩ := df.mwb
  replace m1 := hsub _ m1
  replace m2 := hsub _ m2
  replace m3 := hsub _ m3
  replace mD := hsub _ mD
  replace ma := hsub _ ma
  replace mb' := hsub _ mb'
  replace mW := hsub _ mW
  replace mwa := hsub _ mwa
  replace mwb := hsub _ mwb
  have mP' := mP
  have hPr' := hPr
  replace mP := hsub _ mP
  replace hPr := hPr.mono hsub
  have lA := df.sA.len
  have lB := df.sB.len
  have b64 := two_pow_lt df.n6
  have b0 : (0 : Int) < 2 ^ nn := Int.pow_pos (by decide)
  have e3 : (2 : Int) ^ nn * 2 ^ nn * 2 ^ nn = 8 ^ nn := by rw [← Int.mul_pow, ← Int.mul_pow]; rfl
  -- the numbers of a pair
  have pk : ∀ i, i < xs.length * ys.length → ∃ (h1 : i / ys.length < xs.length) (h2 : i % ys.length < ys.length) (t1 t2 t3 t4 : Tok), WA[i / ys.length]? = some (.str (dueS xs[i / ys.length] (2 ^ nn)) t1) ∧ WB[i % ys.length]? = some (.str (dueS ys[i % ys.length] (2 ^ nn)) t2) ∧
      A[i / ys.length]? = some (.int xs[i / ys.length] t3) ∧ V[i % ys.length]? = some (.int ys[i % ys.length] t4) := fun i hi => by
    have h1 : i / ys.length < xs.length := Nat.div_lt_of_lt_mul (by rw [Nat.mul_comm]; exact hi)
    have h2 : i % ys.length < ys.length := Nat.mod_lt _ (Nat.pos_of_ne_zero fun q => by rw [q, Nat.mul_zero] at hi; (first | lia | omega))
    obtain ⟨t1, e1⟩ := df.hWA.at (j := i / ys.length) (y := dueS xs[i / ys.length] (2 ^ nn)) (by simp [h1])
    obtain ⟨t2, e2⟩ := df.hWB.at (j := i % ys.length) (y := dueS ys[i % ys.length] (2 ^ nn)) (by simp [h2])
    obtain ⟨t3, e3⟩ := df.iA.get (i / ys.length) xs[i / ys.length] (by simp [h1])
    obtain ⟨t4, e4⟩ := df.iB.get (i % ys.length) ys[i % ys.length] (by simp [h2])
    exact ⟨h1, h2, t1, t2, t3, t4, e1, e2, e3, e4⟩
  have hTp : ∀ (nw : List (Addr × Obj)) (k : Nat) (v : Value), (∀ p ∈ bs, p ∈ nw) → items.toArray[k]? = some v → ∃ t v₁ v₂ nt, v = .ref t ∧ (t, ({ cls := .type "tuple", data := .seq #[v₁, v₂] nt } : Obj)) ∈ nw ∧ (∃ ta tb, v₁ = .int ((k / ys.length : Nat) : Int) ta ∧ v₂ = .int ((k % ys.length : Nat) : Int) tb) := fun nw k v hs e => by
    obtain ⟨t, ta, tb, hv, hm⟩ := hPr k v (by simpa using e)
    exact ⟨t, _, _, _, hv, hs _ hm, ta, tb, rfl, rfl⟩
  generalize hg : (fun k => cutXY (2 ^ nn) (xs.getD (k / ys.length) 0) (ys.getD (k % ys.length) 0)) = g
  k_steps
  refine comp_eval (cl := [(Str.ofString "ways", L + 3)]) F ?cb ?cc ?ce ?_
  case cb => with_unfolding_all rfl
  case cc => exact rfl
  case ce => decide
  k_steps
  refine ⟨_, blk_P (Inv := fun k ws nw => nw = bs ∧ StrsAre ws ((List.range k).map g)) (V := fun k v₁ v₂ => ∃ ta tb, v₁ = .int ((k / ys.length : Nat) : Int) ta ∧ v₂ = .int ((k % ys.length : Nat) : Int) tb) rfl (srcLi rfl F N (its := items.toArray) (.inr ⟨_, mP, rfl, _, rfl⟩)) (fun _ => rfl) (fun _ => rfl) rfl (by rfl) (by rfl) (by decide) (fun k v ws nw hPk hI => hTp nw k v (fun p hp => by rw [hI.1]; exact hp) hPk)
    (fun k ws nw hk hI => by rw [hI.2.len_eq, List.length_map, List.length_range, PySem.sizeLine_eq]; rw [List.size_toArray, hlen] at hk; have := Nat.mul_le_mul lA lB; (first | lia | omega)) (fun k ws nw hI => by rw [hI.1]; exact .inr ⟨_, mP, rfl, _, rfl⟩) ⟨rfl, .nil⟩ ?_, ?_⟩
  · clear N F
    intro i v₁ v₂ I oI C oC Dc m₂ h2 tk2 ws nw E' hi ⟨ta, tb, hv1, hv2⟩ ⟨hnw, hws⟩ hoC e₁ e₂ F N off ne3
    subst hnw hv1 hv2
    rw [List.size_toArray, hlen] at hi
    obtain ⟨h1, h2', t1, t2, t3, t4, g1, g2, g3, g4⟩ := pk i hi
    have hYl := dueS_len (x := ys[i % ys.length]) b0 b64
    generalize hXe : dueS xs[i / ys.length] (2 ^ nn) = Xe at g1
    generalize hYe : dueS ys[i % ys.length] (2 ^ nn) = Ye at g2 hYl
    k_steps
    refine item_led (i := 0) (vs := [Value.ref wa, Value.ref wb]) N (.tail _ (.tail _ (.tail _ mW))) rfl (by decide) rfl ?_
    k_steps
    refine item_led N (.tail _ (.tail _ (.tail _ mwa))) rfl (by (first | lia | omega)) g1 ?_
    k_steps
    refine item_led (i := 1) (vs := [Value.ref wa, Value.ref wb]) N (.tail _ (.tail _ (.tail _ mW))) rfl (by decide) rfl ?_
    k_steps
    refine item_led N (.tail _ (.tail _ (.tail _ mwb))) rfl (by (first | lia | omega)) g2 ?_
    k_steps
    rename Fr _ _ _ _ => F5
    rename News _ _ _ _ => N5
    obtain ⟨a0, a1, a2, e0, e1, e2, CA⟩ := common_plain (b := 2 ^ nn) b0 b64 (df.sA.lt _ (List.getElem_mem h1)).1 (df.sB.lt _ (List.getElem_mem h2')).1 (by rw [e3]; exact (df.sA.lt _ (List.getElem_mem h1)).2) (by rw [e3]; exact (df.sB.lt _ (List.getElem_mem h2')).2)
    rw [hXe, hYe] at CA
    refine use1 (common_c _ Xe (repS Ye) t1 _ a0 a1 a2 e0 e1 e2 CA.hfx CA.hfy CA.hjn CA.hjl CA.hxl CA.hyl CA.hxs CA.hys CA.hcl CA.hxa CA.hya) B F5 X N5 T rfl rfl (by exact roomD hd rfl) (by exact roomU hu rfl) ⟨_, (N5 _ (.head _)).1, rfl, _, rfl⟩ ?_
    rintro v h' tk' F' N' - ⟨tv, rfl⟩
    have hgi : g i = cutXY (2 ^ nn) xs[i / ys.length] ys[i % ys.length] := by rw [← hg]; simp [List.getD, h1, h2']
    have hr : (List.range (i + 1)).map g = (List.range i).map g ++ [g i] := by rw [List.range_succ, List.map_append]; rfl
    rw [hgi, ← CA.val] at hr
    exact ⟨_, _, _, rfl, F', fun p hp => N' p (.tail _ hp), off, rfl, by rw [hr]; exact StrsAre.snoc hws⟩
  · clear N F
    rintro ws0 nw0 ⟨hnw, hws0⟩ D3 h3 tk3 F3 N3 o3
    rw [hnw] at N3 o3
    clear hnw
    rw [List.size_toArray, hlen] at hws0
    have mD3 : ∀ p ∈ bs, p ∈ (D3, lst ws0) :: bs := fun p hp => .tail _ hp
    k_steps
    refine comp_eval (cl := [(Str.ofString "wide", L + 1), (Str.ofString "drawn", L + 2)]) F3 ?cb ?cc ?ce ?_
    case cb => with_unfolding_all rfl
    case cc => exact rfl
    case ce => decide
    k_steps
    refine ⟨_, blk_P (Inv := fun k ws nw => nw = (D3, lst ws0) :: bs ∧ StrsAre ws ((List.range k).map g)) (V := fun k v₁ v₂ => ∃ ta tb, v₁ = .int ((k / ys.length : Nat) : Int) ta ∧ v₂ = .int ((k % ys.length : Nat) : Int) tb) rfl (srcLi rfl F3 N3 (its := items.toArray) (.inr ⟨_, .tail _ mP, rfl, _, rfl⟩)) (fun _ => rfl) (fun _ => rfl) rfl (by rfl) (by rfl) (by decide) (fun k v ws nw hPk hI => hTp nw k v (fun p hp => by rw [hI.1]; exact mD3 p hp) hPk)
      (fun k ws nw hk hI => by rw [hI.2.len_eq, List.length_map, List.length_range, PySem.sizeLine_eq]; rw [List.size_toArray, hlen] at hk; have := Nat.mul_le_mul lA lB; (first | lia | omega)) (fun k ws nw hI => by rw [hI.1]; exact .inr ⟨_, .tail _ mP, rfl, _, rfl⟩) ⟨rfl, .nil⟩ ?_, ?_⟩
    · clear N3 F3 o3
      intro i v₁ v₂ I oI C oC Dc m₂ h2 tk2 ws nw E' hi ⟨ta, tb, hv1, hv2⟩ ⟨hnw, hws⟩ hoC e₁ e₂ F N off ne3
      subst hv1 hv2
      rw [hnw] at N off
      rw [List.size_toArray, hlen] at hi
      obtain ⟨h1, h2', t1, t2, t3, t4, g1, g2, g3, g4⟩ := pk i hi
      clear hnw g1 g2
      k_steps
      refine item_led (i := 0) (vs := [Value.ref a, Value.ref b]) N (.tail _ (.tail _ (.tail _ (mD3 _ mD)))) rfl (by decide) rfl ?_
      k_steps
      refine item_led N (.tail _ (.tail _ (.tail _ (mD3 _ ma)))) rfl (by (first | lia | omega)) g3 ?_
      k_steps
      refine item_led (i := 1) (vs := [Value.ref a, Value.ref b]) N (.tail _ (.tail _ (.tail _ (mD3 _ mD)))) rfl (by decide) rfl ?_
      k_steps
      refine item_led N (.tail _ (.tail _ (.tail _ (mD3 _ mb')))) rfl (by (first | lia | omega)) g4 ?_
      k_steps
      refine pow_int (by (first | lia | omega)) (by rw [show ((Builtin.Int.intBits 2 : Nat) : Int) = 2 from rfl]; have := df.n6; (first | lia | omega)) ?_
      rw [Int.toNat_natCast]
      k_steps
      obtain ⟨kk, rest, hal, hk0, hk4⟩ := alike_some (b := 2 ^ nn) b0 (df.sA.lt _ (List.getElem_mem h1)).1 (df.sB.lt _ (List.getElem_mem h2')).1 (by rw [e3]; exact (df.sA.lt _ (List.getElem_mem h1)).2) (by rw [e3]; exact (df.sB.lt _ (List.getElem_mem h2')).2)
      refine use0 (shared_c xs[i / ys.length] ys[i % ys.length] (2 ^ nn) _ _ _ b0 b64 kk rest hal hk0 hk4) B F X N T rfl rfl (by exact roomD hd rfl) (by exact roomU hu rfl) ?_
      intro t h' tk' F' N'
      have hgi : g i = cutS xs[i / ys.length] (2 ^ nn) kk := by rw [← hg]; simp [List.getD, h1, h2', cutXY, hal]
      have hr : (List.range (i + 1)).map g = (List.range i).map g ++ [g i] := by rw [List.range_succ, List.map_append]; rfl
      rw [hgi] at hr
      exact ⟨_, _, _, rfl, F', N', off, rfl, by rw [hr]; exact StrsAre.snoc hws⟩
    · clear N3 F3
      rintro ws nw ⟨hnw, hws⟩ D4 h4 tk4 F4 N4 o4
      rw [hnw] at N4 o4
      rw [List.size_toArray, hlen] at hws
      have ok : OkS ((List.range (xs.length * ys.length)).map g) := fun x hx => by
        obtain ⟨k, _, rfl⟩ := List.mem_map.mp hx
        rw [← hg]
        exact cutXY_ok b0 b64
      refine ne_same (reads_list_at (N4 (D3, _) (.tail _ (.head _))).1 rfl rfl (strs_readAll h4 (by simpa using hws0))) (reads_list_at (N4 _ (.head _)).1 rfl rfl (strs_readAll h4 (by simpa using hws))) (shaped_strs ok) (by exact roomV hu rfl) ?_
      k_steps
      subst hbs
      exact ⟨rfl, nn, D, a, b, W, wa, wb, A, V, WA, WB, xs, ys, pre, TT, k4, k5, P, items, nP, df, d4, d5, oq4, oq5, mP', hlen, hPr', _, _, p1, c1, q1, p2, c2, q2, rfl, F4, fun p hp => N4 p (.tail _ (.tail _ hp)), TS, o1, o2, nt⟩
end
end Mine
end
section
open PySem PySem.W PyProof.Rows PySem.Calls PyProof.Rows.LCg
set_option maxRecDepth 100000
namespace Mine
/-- two lists, made one after the other -/
def RowInv (f : Nat → List Str) (bs : List (Addr × Obj)) (i : Nat) (vs : List Value) (nw : List (Addr × Obj)) : Prop :=
  (i = 0 ∧ vs = [] ∧ nw = bs) ∨ (i = 1 ∧ ∃ a A n, vs = [.ref a] ∧ nw = (a, PySem.W.listOf A.toArray n) :: bs ∧ StrsAre A (f 0) ∧ Off1 a bs) ∨
    (i = 2 ∧ ∃ a A n b B n', vs = [.ref a, .ref b] ∧ nw = (b, PySem.W.listOf B.toArray n') :: (a, PySem.W.listOf A.toArray n) :: bs ∧ StrsAre A (f 0) ∧ StrsAre B (f 1) ∧ Off1 a bs ∧ Off1 b ((a, PySem.W.listOf A.toArray n) :: bs))
inductive RowTwo (f : Nat → List Str) (bs : List (Addr × Obj)) (vs : List Value) (nw : List (Addr × Obj)) : Prop
  | mk (a : Addr) (A : List Value) (n : Nat) (b : Addr) (B : List Value) (n' : Nat) (h1 : vs = [.ref a, .ref b]) (h2 : nw = (b, PySem.W.listOf B.toArray n') :: (a, PySem.W.listOf A.toArray n) :: bs) (hA : StrsAre A (f 0)) (hB : StrsAre B (f 1)) (oa : Off1 a bs) (ob : Off1 b ((a, PySem.W.listOf A.toArray n) :: bs)) : RowTwo f bs vs nw
theorem RowInv.two {f : Nat → List Str} {bs : List (Addr × Obj)} {vs : List Value} {nw : List (Addr × Obj)} (x : RowInv f bs 2 vs nw) : RowTwo f bs vs nw := by
  rcases x with ⟨q, _⟩ | ⟨q, _⟩ | ⟨_, a, A, n, b, B, n', h1, h2, hA, hB, oa, ob⟩
  · cases q
  · cases q
  · exact ⟨a, A, n, b, B, n', h1, h2, hA, hB, oa, ob⟩
theorem RowInv.sub {f : Nat → List Str} {bs : List (Addr × Obj)} {i : Nat} {vs : List Value} {nw : List (Addr × Obj)} (x : RowInv f bs i vs nw) : (∀ p ∈ bs, p ∈ nw) ∧ vs.length ≤ 2 := by
  rcases x with ⟨_, rfl, rfl⟩ | ⟨_, a, A, n, rfl, rfl, _⟩ | ⟨_, a, A, n, b, B, n', rfl, rfl, _⟩
  · exact ⟨fun _ h => h, by simp⟩
  · exact ⟨fun _ h => .tail _ h, by simp⟩
  · exact ⟨fun _ h => .tail _ (.tail _ h), by simp⟩
theorem RowInv.add {f : Nat → List Str} {bs : List (Addr × Obj)} {i : Nat} {vs : List Value} {nw : List (Addr × Obj)} (x : RowInv f bs i vs nw) (hi : i < 2) {D : Addr} {V : List Value} {n : Nat} (hV : StrsAre V (f i)) (o : Off1 D nw) : RowInv f bs (i + 1) (vs ++ [.ref D]) ((D, PySem.W.listOf V.toArray n) :: nw) := by
  rcases x with ⟨rfl, rfl, rfl⟩ | ⟨rfl, a, A, n0, rfl, rfl, hA, oa⟩ | ⟨rfl, _⟩
  · exact .inr (.inl ⟨rfl, D, V, n, rfl, rfl, hV, o⟩)
  · exact .inr (.inr ⟨rfl, a, A, n0, D, V, n, rfl, rfl, hA, hV, oa, o⟩)
  · (first | lia | omega)
theorem ext_off {x : Addr} {new pre : List (Addr × Obj)} (h : Off1 x pre) (k : ∀ p ∈ new, @Ne Nat x p.1) : Off1 x (new ++ pre) := off1_of fun p hp => by
  rcases List.mem_append.mp hp with hp | hp
  · exact Ne.symm (k p hp)
  · exact off1_mem h p hp
theorem ext_notab {new pre : List (Addr × Obj)} (h : NoTab pre) (a : ∀ p ∈ new, @Ne Nat 37 p.1) (b : ∀ p ∈ new, @Ne Nat 44 p.1) : NoTab (new ++ pre) := fun p hp => by
  rcases List.mem_append.mp hp with hp | hp
  · exact not_tab (Ne.symm (a p hp)) (Ne.symm (b p hp))
  · exact h p hp
theorem aloneL_len {b : Int} {ws : List Int} : ∀ {zs : List Int}, zs.length ≤ 15 → (aloneL b zs ws).length ≤ 30 := fun {zs} h => by
  have : ∀ zs : List Int, (aloneL b zs ws).length ≤ 2 * zs.length := fun zs => by
    induction zs with
    | nil => exact Nat.zero_le _
    | cons x r ih =>
      unfold aloneL at ih ⊢
      rw [List.flatMap_cons, List.length_append, List.length_cons]
      have : (aloneOf b ws x).length ≤ 2 := by
        unfold aloneOf
        split
        · exact Nat.zero_le _
        · split
          · exact Nat.le_refl _
          · exact Nat.le_succ _
      (first | lia | omega)
  have := this zs
  (first | lia | omega)
/-- the alone lists are laid -/
inductive LawG (h₁ : Heap) (L : Addr) (sh : Shared) (l : Addr) (s : Shared) : Prop
  | mk (nn : Nat) (D : Addr) (a : Addr) (b : Addr) (W : Addr) (wa : Addr) (wb : Addr) (A : List Value) (B : List Value) (WA : List Value) (WB : List Value) (xs : List Int) (ys : List Int) (pre : List (Addr × Obj)) (po : Option Value) (T : Addr) (k4 : Obj) (k5 : Obj) (G : Addr) (g0 : Addr) (g1 : Addr) (G0 : List Value) (G1 : List Value) (nG : Nat) (n0 : Nat) (n1 : Nat) (f0 : DF L nn D a b W wa wb A B WA WB xs ys pre) (f1 : k4.data = .cell (some (.ref G))) (f2 : k5.data = .cell none) (f3 : Off1 (L + 4) pre) (f4 : Off1 (L + 5) pre) (f5 : (G, PySem.W.listOf #[.ref g0, .ref g1] nG) ∈ pre) (f6 : (g0, PySem.W.listOf G0.toArray n0) ∈ pre) (f7 : (g1, PySem.W.listOf G1.toArray n1) ∈ pre) (f8 : StrsAre G0 (aloneL (2 ^ nn) (sortI xs) ys)) (f9 : StrsAre G1 (aloneL (2 ^ nn) (sortI ys) xs)) (f10 : LSt h₁ L sh (mapL l po (some (.ref T))) ((L + 4, k4) :: (L + 5, k5) :: pre) s) : LawG h₁ L sh l s
section
set_option maxHeartbeats 1000000 in
theorem law_9 {w : World} {loose : List Str} {mean : ExcName → Option Value} {mg mb : Str → Option Value} {dp un : Nat} {gd : Option (List Code)} {frames : List Env} {base h₁ : Heap} (C : LCtx w loose mean mg mb dp un gd frames base h₁) {L fa : Addr} {cd : Value} {sh : Shared} (l : Addr) :
    LawRun w dp un gd frames L fa cd 9 (LawF h₁ L sh l) (LawG h₁ L sh l) := by
  w_top off
  k_with_none
  k_with "k_room" => (ktr_room)
  k_with "k_ne" => (first | exact offN (by assumption) (by k_mem) | exact Ne.symm (offN (by assumption) (by k_mem)) | (refine neN ?_; (try dsimp only); (first | lia | omega)))
  k_with "call ref" => ((refine held (p := wpAny _ _ (PySem.call (Value.ref _) _) _ _ _) ?_))
  k_with "pyIter ref" => ((refine held (p := wpAny _ _ (pyIter (Value.ref _)) _ _ _) ?_))
  k_with "eval ListComp" => ((refine held (p := wpAny _ _ (eval _ _) _ _ _) ?_))
  k_with "subscriptTail" => ((refine held (p := wpAny _ _ (subscriptTail _ _ _ _) _ _ _) ?_))
  k_with "storeName" => ((refine held (p := wpAny _ _ (storeName _ _ _) _ _ _) ?_))
  k_with "compareOp NotIn int ref" => ((refine held (p := wpAny _ _ (compareOp _ _ _) _ _ _) ?_))
  k_with "binaryOp Pow int int" => ((refine held (p := wpAny _ _ (binaryOp _ _ _) _ _ _) ?_))
  k_with "k_mem" => (first | exact List.Mem.head _ | assumption | (refine' List.Mem.tail _ ?_; k_mem))
  refine .of fun sc st hsc hst E s hP => ?_
  obtain ⟨B, X, T, hT, hd, hu⟩ := C
  conv at hsc => rhs; whnf
  conv at hst => rhs; whnf
  subst hsc hst
  obtain ⟨nn, D, a, b, W, wa, wb, A, V, WA, WB, xs, ys, pre, TT, k4, k5, P, items, nP, df, d4, d5, oq4, oq5, mP, hlen, hPr, h, tk, p1, c1, q1, p2, c2, q2, rfl, F, N, TS, o1, o2, nt⟩ := hP
  revert X; k_fill; intro X
  clear mP hlen hPr
  generalize hbs : (L + 4, k4) :: (L + 5, k5) :: pre ++ tab4 p1 c1 q1 p2 c2 q2 = bs at N
  have hsub : ∀ p ∈ pre, p ∈ bs := fun p hp => by rw [← hbs]; exact .tail _ (.tail _ (List.mem_append_left _ hp))
  obtain ⟨k1, tw, m1, d1⟩ := df.c1
  obtain ⟨k2, m2, d2⟩ := df.c2
  obtain ⟨nD, mD⟩ := df.mD
  obtain ⟨na, ma⟩ := df.ma
  obtain ⟨nb, mb'⟩ := df.mb
  replace m1 := hsub _ m1
  replace m2 := hsub _ m2
  replace mD := hsub _ mD
  replace ma := hsub _ ma
  replace mb' := hsub _ mb'
  have b64 := two_pow_lt df.n6
  have b0 : (0 : Int) < 2 ^ nn := Int.pow_pos (by decide)
  k_steps
  refine comp_eval (cl := [(Str.ofString "wide", L + 1), (Str.ofString "drawn", L + 2)]) F ?cb ?cc ?ce ?_
  case cb => with_unfolding_all rfl
  case cc => exact rfl
  case ce => decide
  k_steps
  rename_i hr F2 N2 _
  refine ⟨_, blk_C (Inv := RowInv (fun i => if i = 0 then aloneL (2 ^ nn) (sortI xs) ys else aloneL (2 ^ nn) (sortI ys) xs) bs) (srcRange (n := 2) rfl F2 N2 hr (small_one (by decide) (by decide) (by decide) (by decide)) (by decide)) (fun _ => rfl) (fun _ => rfl) rfl (by with_unfolding_all rfl) (fun i ys nw _ h => Nat.le_trans h.sub.2 (by decide)) (fun _ _ _ _ _ => trivial) (.inl ⟨rfl, rfl, rfl⟩) ?_, ?_⟩
  · clear F2 N2 hr
    intro i v I oI C oC cq oq Dc m₂ h2 tk2 vs nw E' hi hPv hI hoC hoq F N off oq1 hDq ne3
    obtain ⟨tv, rfl⟩ := hPv
    have sub := hI.sub.1
    have m1' := sub _ m1
    have m2' := sub _ m2
    k_steps
    refine comp_eval (cl := [(Str.ofString "wide", L + 1), (Str.ofString "q", cq), (Str.ofString "drawn", L + 2)]) F ?cb ?cc ?ce ?_
    case cb => with_unfolding_all rfl
    case cc => exact rfl
    case ce => decide
    obtain ⟨r, R, nr, _, _, _, hr, hmr, _, _, hR, hS, _⟩ := df.row hi
    obtain ⟨r2, R2, nr2, _, _, _, hr2, hmr2, _, _, hR2, hS2, _⟩ := df.row (i := 1 - i) (by (first | lia | omega))
    have ef : (if i = 0 then aloneL (2 ^ nn) (sortI xs) ys else aloneL (2 ^ nn) (sortI ys) xs) = aloneL (2 ^ nn) (sortI (if i = 0 then xs else ys)) (if 1 - i = 0 then xs else ys) := by
      rcases (by (first | lia | omega) : i = 0 ∨ i = 1) with rfl | rfl <;> rfl
    generalize hz1 : (if i = 0 then xs else ys) = z1 at *
    generalize hz2 : (if 1 - i = 0 then xs else ys) = z2 at *
    replace hmr := sub _ (hsub _ hmr)
    replace hmr2 := sub _ (hsub _ hmr2)
    have l1 := hS.len
    have l2 := hS2.len
    k_steps
    refine item_led (vs := [Value.ref a, Value.ref b]) N (.tail _ (.tail _ (.tail _ (.tail _ (sub _ mD))))) (by (first | lia | omega)) (by (first | lia | omega)) hr ?_
    k_steps
    refine kso_sorted F N (kso_isList N (.tail _ (.tail _ (.tail _ (.tail _ hmr)))) (by simp)) hR (by (first | lia | omega)) ?_
    intro D5 v5 s5 c5 h5 F5 N5 l5 i5 e5 p5 o5 _
    obtain rfl := eq_sortI p5 o5
    clear F N p5 o5
    k_steps
    have n5 := i5.length
    generalize hsz : sortI z1 = s5 at *
    have off5 : Off1 D5 nw := off1_of fun p hp => Nat.ne_of_lt (l5 p (.tail _ (.tail _ (.tail _ (.tail _ hp)))))
    have q5 : ∀ p ∈ [(I, oI), (C, oC), (Dc, lst vs), (cq, oq)], @LT.lt Nat _ p.1 D5 := fun p hp => l5 p (by
      simp only [List.mem_cons, List.not_mem_nil, or_false] at hp
      rcases hp with rfl | rfl | rfl | rfl
      · exact .head _
      · exact .tail _ (.head _)
      · exact .tail _ (.tail _ (.head _))
      · exact .tail _ (.tail _ (.tail _ (.head _))))
    generalize hb2 : (D5, PySem.W.listOf v5.toArray c5) :: (I, oI) :: (C, oC) :: (Dc, lst vs) :: (cq, oq) :: nw = bs2 at N5
    have s2 : ∀ p ∈ nw, p ∈ bs2 := fun p hp => by rw [← hb2]; exact .tail _ (.tail _ (.tail _ (.tail _ (.tail _ hp))))
    have m5 : (D5, PySem.W.listOf v5.toArray c5) ∈ bs2 := by rw [← hb2]; exact .head _
    have mq : (cq, oq) ∈ bs2 := by rw [← hb2]; exact .tail _ (.tail _ (.tail _ (.tail _ (.head _))))
    refine ⟨_, blk_VV (Inv := fun k ws nw2 => nw2 = bs2 ∧ StrsAre ws (aloneL (2 ^ nn) (s5.take k) z2)) (srcList rfl F5 N5 (its := v5.toArray) (.inr ⟨_, m5, rfl, _, rfl⟩)) (fun _ => rfl) (fun _ => rfl) rfl (by rfl) (by rfl) (by decide) (fun _ _ => rfl) (fun k ws nw2 hI2 => by rw [hI2.1]; exact .inr ⟨_, m5, rfl, _, rfl⟩) ⟨rfl, .nil⟩ ?_, ?_⟩
    · clear F5 N5
      intro k v2 I2 oI2 C2 oC2 D2 m3 h6 tk6 ws nw2 E2 hk hv2 ⟨hnw2, hws⟩ hoC2 hx2 F N off2 ne2
      rw [hnw2] at N off2
      have hks : k < s5.length := by rw [← n5]; simpa using hk
      obtain ⟨t2, rfl⟩ : ∃ t, v2 = .int s5[k] t := by
        obtain ⟨t3, hx4⟩ := i5.get k s5[k] (by simp [hks])
        have hv' : v5[k]? = some v2 := by simpa using hv2
        rw [hx4] at hv'
        exact ⟨_, (Option.some.inj hv').symm⟩
      have m1'' := s2 _ m1'
      have m2'' := s2 _ m2'
      refine wpAny_tests_one ?_
      k_steps
      refine item_led (i := 1 - i) (vs := [Value.ref a, Value.ref b]) N (.tail _ (.tail _ (.tail _ (s2 _ (sub _ mD))))) (by (first | lia | omega)) (by (first | lia | omega)) hr2 ?_
      k_steps
      refine notin_ints N (.tail _ (.tail _ (.tail _ (s2 _ hmr2)))) hR2 ?_
      have hal : aloneL (2 ^ nn) (s5.take (k + 1)) z2 = aloneL (2 ^ nn) (s5.take k) z2 ++ aloneOf (2 ^ nn) z2 s5[k] := by unfold aloneL; rw [List.take_add_one, List.flatMap_append]; simp [hks]
      by_cases hin : s5[k] ∈ z2
      · rw [show decide (s5[k] ∉ z2) = false from decide_eq_false (fun q => q hin)]
        k_steps
        exact ⟨_, _, _, rfl, F, N, off2, rfl, by rw [hal, aloneOf, if_pos hin, List.append_nil]; exact hws⟩
      · rw [show decide (s5[k] ∉ z2) = true from decide_eq_true hin]
        k_steps
        refine item_led (i := 1 - i) (vs := [Value.ref a, Value.ref b]) N (.tail _ (.tail _ (.tail _ (s2 _ (sub _ mD))))) (by (first | lia | omega)) (by (first | lia | omega)) hr2 ?_
        k_steps
        refine kso_max F N (kso_isList N (.tail _ (.tail _ (.tail _ (s2 _ hmr2)))) (by simp)) hR2 (List.length_pos_iff.mpr hS2.ne) (by with_unfolding_all rfl) ?_
        intro h7 M tM tk7 F7 N7 hM hMx
        clear F N
        have hMl : (∀ w ∈ z2, w < s5[k]) ↔ M < s5[k] := ⟨fun q => q M hM, fun q w hw => Int.lt_of_le_of_lt (hMx w hw) q⟩
        k_steps
        rename_i hr8 F8 N8 _
        obtain ⟨n1, hn1, hn1'⟩ : ∃ n1 : Nat, ((1 : Int) + if decide (M < s5[k]) = true then 1 else 0) = (n1 : Int) ∧ n1 = if M < s5[k] then 2 else 1 := by
          by_cases q : M < s5[k]
          · exact ⟨2, by rw [if_pos (decide_eq_true q)]; rfl, (if_pos q).symm⟩
          · exact ⟨1, by rw [if_neg (by rw [decide_eq_false q]; exact Bool.false_ne_true)]; rfl, (if_neg q).symm⟩
        rw [hn1] at hr8
        have hn2 : n1 ≤ 2 := by rw [hn1']; split <;> (first | lia | omega)
        have nl : Builtin.Range.rangeSize 0 (n1 : Int) 1 = ((n1 : Nat) : Int) := by rw [rangeSize_nat]; (first | lia | omega)
        have hsw : ws.length ≤ 30 := by
          rw [hws.len_eq]
          exact aloneL_len (by rw [List.length_take]; (first | lia | omega))
        refine ⟨_, _, n1, fun j v => ∃ t, v = .int (0 + (j : Int)) t, fun j ws nw => nw = bs2 ∧ StrsAre ws (aloneL (2 ^ nn) (s5.take k) z2 ++ List.replicate j (dueS s5[k] (2 ^ nn))), ws, oC2, m3, bs2, rfl, hoC2, hx2, srcRa rfl F8 N8 hr8 (small_one (by decide) (by decide) (by (first | lia | omega)) (by (first | lia | omega))) nl, off2, ?_, ⟨rfl, by rw [List.replicate_zero, List.append_nil]; exact hws⟩, fun _ _ _ hh => by rw [hh.1]; exact off1_of fun p hp => (off2.mem p hp).1, fun ws' nw' hh => ⟨hh.1, ?_⟩, ?_⟩
        · intro j ws' nw' hj hh
          have := hh.2.len_eq
          rw [List.length_append, List.length_replicate] at this
          have h2 := hws.len_eq
          rw [PySem.sizeLine_eq]; (first | lia | omega)
        · rw [hal]
          have e : aloneOf (2 ^ nn) z2 s5[k] = List.replicate n1 (dueS s5[k] (2 ^ nn)) := by
            rw [aloneOf, if_neg hin, hn1']
            by_cases q : M < s5[k]
            · rw [if_pos (hMl.mpr q), if_pos q]; rfl
            · rw [if_neg (fun h => q (hMl.mp h)), if_neg q]; rfl
          rw [e]; exact hh.2
        · clear F8 N8 hr8
          intro j v9 I1 oI1 oC1 m4 h9 tk9 ws9 nw9 E9 hj hP9 ⟨hnw9, hws9⟩ hoC1 hx1 hx0 F N off9 ne9
          rw [hnw9] at N off9
          refine wpAny_tests_nil ?_
          simp only [if_true]
          k_steps
          refine pow_int (by (first | lia | omega)) (by rw [show ((Builtin.Int.intBits 2 : Nat) : Int) = 2 from rfl]; have := df.n6; (first | lia | omega)) ?_
          rw [Int.toNat_natCast]
          k_steps
          refine use0 (due_c s5[k] (2 ^ nn) _ _ b0 b64) B F X N T rfl rfl (by exact roomD hd rfl) (by exact roomU hu rfl) ?_
          intro t h' tk' F' N'
          exact ⟨_, _, _, rfl, F', N', off9, bs2, rfl, rfl, by rw [List.replicate_succ', ← List.append_assoc]; exact StrsAre.snoc hws9⟩
    · rintro ws nw2 ⟨hnw2, hws⟩ D6 h6 tk6 F6 N6 o6
      rw [hnw2, ← hb2] at N6 o6
      rw [List.size_toArray, n5, List.take_length] at hws
      have oD6 : Off1 D6 nw := o6.2.2.2.2.2
      refine ⟨h6, tk6, (cq, oq) :: (D6, lst ws) :: nw, rfl, F6, ?_, ⟨off.1, ⟨Ne.symm o6.2.1, Ne.symm o6.2.2.1, Ne.symm o6.2.2.2.1⟩, off.2⟩, (D6, lst ws) :: nw, rfl, ⟨Ne.symm o6.2.2.2.2.1, oq1⟩, hI.add hi (by show StrsAre ws (if i = 0 then _ else _); rw [ef]; exact hws) oD6⟩
      intro p hp
      simp only [List.mem_cons] at hp
      rcases hp with rfl | rfl | rfl | rfl | rfl | hp
      · exact N6 _ (.tail _ (.tail _ (.head _)))
      · exact N6 _ (.tail _ (.tail _ (.tail _ (.head _))))
      · exact N6 _ (.tail _ (.tail _ (.tail _ (.tail _ (.head _)))))
      · exact N6 _ (.tail _ (.tail _ (.tail _ (.tail _ (.tail _ (.head _))))))
      · exact N6 _ (.head _)
      · exact N6 _ (.tail _ (.tail _ (.tail _ (.tail _ (.tail _ (.tail _ hp))))))
  · clear F2 N2
    rintro vs nw hG D6 h6 tk6 F6 N6 o6
    obtain ⟨g0, G0, n0, g1, G1, n1, rfl, rfl, hG0, hG1, og0, og1⟩ := hG.two
    subst hbs
    k_steps
    have mm : ∀ p ∈ [(D6, lst [Value.ref g0, Value.ref g1]), (g1, PySem.W.listOf G1.toArray n1), (g0, PySem.W.listOf G0.toArray n0)], ∀ q ∈ (L + 4, k4) :: (L + 5, k5) :: pre ++ tab4 p1 c1 q1 p2 c2 q2, @Ne Nat q.1 p.1 := fun p hp q hq => by
      simp only [List.mem_cons, List.not_mem_nil, or_false] at hp
      rcases hp with rfl | rfl | rfl
      · exact off1_mem o6 q (.tail _ (.tail _ hq))
      · exact off1_mem og1 q (.tail _ hq)
      · exact off1_mem og0 q hq
    generalize hnews : ([(D6, lst [Value.ref g0, Value.ref g1]), (g1, PySem.W.listOf G1.toArray n1), (g0, PySem.W.listOf G0.toArray n0)] : List (Addr × Obj)) = three at mm
    have N7 : News (hideAll h₁ tabX) L h6 ((L + 4, k4) :: ((L + 5, k5) :: (three ++ pre) ++ tab4 p1 c1 q1 p2 c2 q2)) := news_sub N6 fun p hp => by
      rw [← hnews] at hp
      simp only [List.mem_cons, List.mem_append, List.cons_append, List.nil_append] at hp ⊢
      rcases hp with h | h | h | h | h | h | h
      · exact .inr (.inr (.inr (.inl h)))
      · exact .inr (.inr (.inr (.inr (.inl h))))
      · exact .inl h
      · exact .inr (.inl h)
      · exact .inr (.inr (.inl h))
      · exact .inr (.inr (.inr (.inr (.inr (.inl h)))))
      · exact .inr (.inr (.inr (.inr (.inr (.inr h)))))
    have e4 : ∀ p ∈ three, @Ne Nat (L + 4) p.1 := fun p hp => mm p hp (L + 4, k4) (.head _)
    have e5 : ∀ p ∈ three, @Ne Nat (L + 5) p.1 := fun p hp => mm p hp (L + 5, k5) (.tail _ (.head _))
    have hne : ∀ p ∈ (L + 5, k5) :: (three ++ pre) ++ tab4 p1 c1 q1 p2 c2 q2, p.1 ≠ L + 4 := fun p hp => by
      rcases List.mem_append.mp hp with hp | hp
      · rcases List.mem_cons.mp hp with rfl | hp
        · show L + 5 ≠ L + 4; exact Nat.ne_of_gt (Nat.lt_succ_self _)
        · exact off1_mem (ext_off oq4 e4) p hp
      · simp only [tab4, List.mem_cons, List.not_mem_nil, or_false] at hp
        have n4 := nt (L + 4, k4) (.head _)
        rcases hp with rfl | rfl | rfl | rfl
        · exact fun q => n4 (by rw [← q]; exact .tail _ (.head _))
        · exact Ne.symm o1.1
        · exact fun q => n4 (by rw [← q]; exact .head _)
        · exact Ne.symm o2.1
    refine storeX_C F6 N7 (by exact rfl) (.head hne) d4 ?_ rfl (by with_unfolding_all rfl)
    intro h7 k4' F7 N8 d4'
    k_steps
    refine ⟨rfl, nn, D, a, b, W, wa, wb, A, V, WA, WB, xs, ys, three ++ pre, _, TT, k4', k5, D6, g0, g1, G0, G1, _, n0, n1, df.mono fun p hp => List.mem_append_right _ hp, d4', d5, ext_off oq4 e4, ext_off oq5 e5, by rw [← hnews]; exact .head _, by rw [← hnews]; exact .tail _ (.tail _ (.head _)), by rw [← hnews]; exact .tail _ (.head _), hG0, hG1,
      h7, _, p1, c1, q1, p2, c2, q2, rfl, F7, N8, TS, ⟨o1.1, o1.2.1, ext_off o1.2.2 fun p hp => mm p hp (c1, q1) (List.mem_append_right _ (.tail _ (.head _)))⟩, ⟨o2.1, o2.2.1, ext_off o2.2.2 fun p hp => mm p hp (c2, q2) (List.mem_append_right _ (.tail _ (.tail _ (.tail _ (.head _)))))⟩, ?_⟩
    exact .cons (nt _ (.head _)) (.cons (nt _ (.tail _ (.head _))) (ext_notab nt.tail.tail (fun p hp => mm p hp (37, p1) (List.mem_append_right _ (.head _))) (fun p hp => mm p hp (44, p2) (List.mem_append_right _ (.tail _ (.tail _ (.head _)))))))
end
end Mine
end
section
open PySem PySem.W PyProof.Rows PySem.Calls PyProof.Rows.LCg
set_option maxRecDepth 100000
namespace Mine
/-- all is laid -/
inductive LawH (h₁ : Heap) (L : Addr) (sh : Shared) (l : Addr) (s : Shared) : Prop
  | mk (nn : Nat) (xs : List Int) (ys : List Int) (pre : List (Addr × Obj)) (po : Option Value) (T : Addr) (k4 : Obj) (k5 : Obj) (G : Addr) (g0 : Addr) (g1 : Addr) (G0 : List Value) (G1 : List Value) (nG : Nat) (n0 : Nat) (n1 : Nat) (W : Addr) (w0 : Addr) (w1 : Addr) (W0 : List Value) (W1 : List Value) (nW : Nat) (m0 : Nat) (m1 : Nat) (f0 : 1 ≤ nn) (f1 : nn ≤ 6) (f2 : Shelf (8 ^ nn) 15 xs) (f3 : Shelf (8 ^ nn) 15 ys) (f4 : k4.data = .cell (some (.ref G))) (f5 : k5.data = .cell (some (.ref W))) (f6 : (G, PySem.W.listOf #[.ref g0, .ref g1] nG) ∈ pre) (f7 : (g0, PySem.W.listOf G0.toArray n0) ∈ pre) (f8 : (g1, PySem.W.listOf G1.toArray n1) ∈ pre) (f9 : StrsAre G0 (aloneL (2 ^ nn) (sortI xs) ys)) (f10 : StrsAre G1 (aloneL (2 ^ nn) (sortI ys) xs)) (f11 : (W, PySem.W.listOf #[.ref w0, .ref w1] nW) ∈ pre) (f12 : (w0, PySem.W.listOf W0.toArray m0) ∈ pre) (f13 : (w1, PySem.W.listOf W1.toArray m1) ∈ pre) (f14 : StrsAre W0 (dup ((sortI xs).map (dueS · (2 ^ nn))))) (f15 : StrsAre W1 (dup ((sortI ys).map (dueS · (2 ^ nn))))) (f16 : LSt h₁ L sh (mapL l po (some (.ref T))) ((L + 4, k4) :: (L + 5, k5) :: pre) s) : LawH h₁ L sh l s
section
set_option maxHeartbeats 1000000 in
theorem law_10 {w : World} {loose : List Str} {mean : ExcName → Option Value} {mg mb : Str → Option Value} {dp un : Nat} {gd : Option (List Code)} {frames : List Env} {base h₁ : Heap} (C : LCtx w loose mean mg mb dp un gd frames base h₁) {L fa : Addr} {cd : Value} {sh : Shared} (l : Addr) :
    LawRun w dp un gd frames L fa cd 10 (LawG h₁ L sh l) (LawH h₁ L sh l) := by
  w_top off
  k_with_none
  k_with "k_room" => (ktr_room)
  k_with "k_ne" => (first | exact offN (by assumption) (by k_mem) | exact Ne.symm (offN (by assumption) (by k_mem)) | (refine neN ?_; (try dsimp only); (first | lia | omega)))
  k_with "call ref" => ((refine held (p := wpAny _ _ (PySem.call (Value.ref _) _) _ _ _) ?_))
  k_with "pyIter ref" => ((refine held (p := wpAny _ _ (pyIter (Value.ref _)) _ _ _) ?_))
  k_with "eval ListComp" => ((refine held (p := wpAny _ _ (eval _ _) _ _ _) ?_))
  k_with "call builtin:sorted" => ((refine held (p := wpAny _ _ (PySem.call _ _) _ _ _) ?_))
  k_with "subscriptTail" => ((refine held (p := wpAny _ _ (subscriptTail _ _ _ _) _ _ _) ?_))
  k_with "storeName" => ((refine held (p := wpAny _ _ (storeName _ _ _) _ _ _) ?_))
  k_with "compareOp NotIn int ref" => ((refine held (p := wpAny _ _ (compareOp _ _ _) _ _ _) ?_))
  k_with "binaryOp Pow int int" => ((refine held (p := wpAny _ _ (binaryOp _ _ _) _ _ _) ?_))
  k_with "k_mem" => (first | exact List.Mem.head _ | assumption | (refine' List.Mem.tail _ ?_; k_mem))
  refine .of fun sc st hsc hst E s hP => ?_
  obtain ⟨B, X, T, hT, hd, hu⟩ := C
  conv at hsc => rhs; whnf
  conv at hst => rhs; whnf
  subst hsc hst
  obtain ⟨nn, D, a, b, W, wa, wb, A, V, WA, WB, xs, ys, pre, po, TT, k4, k5, G, g0, g1, G0, G1, nG, n0, n1, df, d4, d5, oq4, oq5, mG, mg0, mg1, hG0, hG1, h, tk, p1, c1, q1, p2, c2, q2, rfl, F, N, TS, o1, o2, nt⟩ := hP
  revert X; k_fill; intro X
  generalize hbs : (L + 4, k4) :: (L + 5, k5) :: pre ++ tab4 p1 c1 q1 p2 c2 q2 = bs at N
  have hsub : ∀ p ∈ pre, p ∈ bs := fun p hp => by rw [← hbs]; exact .tail _ (.tail _ (List.mem_append_left _ hp))
  obtain ⟨k3, m3, d3⟩ := df.c3
  obtain ⟨nW, mW⟩ := df.mW
  replace m3 := hsub _ m3
  replace mW := hsub _ mW
  have b64 := two_pow_lt df.n6
  have b0 : (0 : Int) < 2 ^ nn := Int.pow_pos (by decide)
  have e3 : (2 : Int) ^ nn * 2 ^ nn * 2 ^ nn = 8 ^ nn := by rw [← Int.mul_pow, ← Int.mul_pow]; rfl
  k_steps
  refine comp_eval (cl := []) F ?cb ?cc ?ce ?_
  case cb => with_unfolding_all rfl
  case cc => exact rfl
  case ce => decide
  k_steps
  refine ⟨_, blk_V (Inv := RowInv (fun i => if i = 0 then dup ((sortI xs).map (dueS · (2 ^ nn))) else dup ((sortI ys).map (dueS · (2 ^ nn)))) bs) (srcList rfl F N (its := #[Value.ref wa, Value.ref wb]) (.inr ⟨_, mW, rfl, _, rfl⟩)) (fun _ => rfl) (fun _ => rfl) rfl (by rfl) (fun i ys nw _ h => Nat.le_trans h.sub.2 (by decide)) (fun i ys nw h => .inr ⟨_, h.sub.1 _ mW, rfl, _, rfl⟩) (.inl ⟨rfl, rfl, rfl⟩) ?_, ?_⟩
  · clear F N
    intro i v I oI C oC Dc m₂ h2 tk2 vs nw E' hi hPv hI hoC hx F N off ne3
    replace hi : i < 2 := by simpa using hi
    obtain ⟨_, _, _, wr, WR, nwr, _, _, hwr, hmwr, _, hS, hW⟩ := df.row hi
    obtain rfl : v = .ref wr := by
      have : ([Value.ref wa, .ref wb] : List Value)[i]? = some v := by simpa using hPv
      rw [hwr] at this; exact (Option.some.inj this).symm
    have sub := hI.sub.1
    replace hmwr := sub _ (hsub _ hmwr)
    have hWl := hW.len_eq
    rw [List.length_map] at hWl
    have l1 := hS.len
    refine wpAny_tests_nil ?_
    simp only [if_true]
    k_steps
    refine kmk_add_lit F N (its := WR.toArray) (its2 := WR.toArray) (zs := WR ++ WR) ⟨_, (N _ (.tail _ (.tail _ (.tail _ hmwr)))).1, rfl, _, rfl⟩ ⟨_, (N _ (.tail _ (.tail _ (.tail _ hmwr)))).1, rfl, _, rfl⟩ (by simp) ?_ ?_
    · intro D5 h5 F5 N5 l5
      clear F N
      k_steps
      generalize hz1 : (if i = 0 then xs else ys) = z1 at *
      have hz : ∀ x ∈ z1, 0 ≤ x ∧ x < 2 ^ nn * 2 ^ nn * 2 ^ nn := fun x hx => by rw [e3]; exact hS.lt x hx
      refine sorted_N_str F5 N5 ⟨_, (N5 _ (.head _)).1, rfl, _, rfl⟩ (strsAre_append hW hW) (by rw [List.length_append]; (first | lia | omega)) ?_
      intro h6 vs6 ss6 e6 F6 N6 hS6 hp6 hs6
      obtain rfl := twice_plain b0 b64 hz hp6 hs6
      have lt6 : ∀ p ∈ (I, oI) :: (C, oC) :: (Dc, lst vs) :: nw, @Ne Nat p.1 (h5.objs.size + 1) := fun p hp => Nat.ne_of_lt (Nat.lt_succ_of_lt (Heap.lt_size (N5 p (.tail _ hp)).1))
      clear N5 F5 l5 hp6 hs6
      have hS7 : StrsAre vs6 ((fun i => if i = 0 then dup ((sortI xs).map (dueS · (2 ^ nn))) else dup ((sortI ys).map (dueS · (2 ^ nn)))) i) := by
        have : (if i = 0 then dup ((sortI xs).map (dueS · (2 ^ nn))) else dup ((sortI ys).map (dueS · (2 ^ nn)))) = dup ((sortI z1).map (dueS · (2 ^ nn))) := by rw [← hz1]; split <;> rfl
        show StrsAre vs6 (if i = 0 then _ else _)
        rw [this]; exact hS6
      refine ⟨h6, _, (h5.objs.size + 1, PySem.W.listOf vs6.toArray e6) :: nw, rfl, F6, ?_, ⟨⟨Ne.symm (lt6 (I, oI) (.head _)), Ne.symm (lt6 (C, oC) (.tail _ (.head _))), Ne.symm (lt6 (Dc, lst vs) (.tail _ (.tail _ (.head _))))⟩, off⟩, hI.add hi hS7 (off1_of fun p hp => lt6 p (.tail _ (.tail _ (.tail _ hp))))⟩
      intro p hp
      simp only [List.mem_cons] at hp
      rcases hp with rfl | rfl | rfl | rfl | hp
      · exact N6 _ (.tail _ (.tail _ (.head _)))
      · exact N6 _ (.tail _ (.tail _ (.tail _ (.head _))))
      · exact N6 _ (.tail _ (.tail _ (.tail _ (.tail _ (.head _)))))
      · exact N6 _ (.head _)
      · exact N6 _ (.tail _ (.tail _ (.tail _ (.tail _ (.tail _ hp)))))
    · rw [PySem.sizeLine_eq]; simp only [List.size_toArray, Array.length_toList]; (first | lia | omega)
  · clear F N
    rintro vs nw hG D6 h6 tk6 F6 N6 o6
    obtain ⟨w0, W0, m0, w1, W1, m1, rfl, rfl, hW0, hW1, og0, og1⟩ := hG.two
    subst hbs
    k_steps
    have mm : ∀ p ∈ [(D6, lst [Value.ref w0, Value.ref w1]), (w1, PySem.W.listOf W1.toArray m1), (w0, PySem.W.listOf W0.toArray m0)], ∀ q ∈ (L + 4, k4) :: (L + 5, k5) :: pre ++ tab4 p1 c1 q1 p2 c2 q2, @Ne Nat q.1 p.1 := fun p hp q hq => by
      simp only [List.mem_cons, List.not_mem_nil, or_false] at hp
      rcases hp with rfl | rfl | rfl
      · exact off1_mem o6 q (.tail _ (.tail _ hq))
      · exact off1_mem og1 q (.tail _ hq)
      · exact off1_mem og0 q hq
    generalize hnews : ([(D6, lst [Value.ref w0, Value.ref w1]), (w1, PySem.W.listOf W1.toArray m1), (w0, PySem.W.listOf W0.toArray m0)] : List (Addr × Obj)) = three at mm
    have N7 : News (hideAll h₁ tabX) L h6 ((L + 5, k5) :: ((L + 4, k4) :: (three ++ pre) ++ tab4 p1 c1 q1 p2 c2 q2)) := news_sub N6 fun p hp => by
      rw [← hnews] at hp
      simp only [List.mem_cons, List.mem_append, List.cons_append, List.nil_append] at hp ⊢
      rcases hp with h | h | h | h | h | h | h
      · exact .inr (.inr (.inr (.inr (.inl h))))
      · exact .inr (.inr (.inr (.inl h)))
      · exact .inl h
      · exact .inr (.inl h)
      · exact .inr (.inr (.inl h))
      · exact .inr (.inr (.inr (.inr (.inr (.inl h)))))
      · exact .inr (.inr (.inr (.inr (.inr (.inr h)))))
    have e5 : ∀ p ∈ three, @Ne Nat (L + 5) p.1 := fun p hp => mm p hp (L + 5, k5) (.tail _ (.head _))
    have hne : ∀ p ∈ (L + 4, k4) :: (three ++ pre) ++ tab4 p1 c1 q1 p2 c2 q2, p.1 ≠ L + 5 := fun p hp => by
      rcases List.mem_append.mp hp with hp | hp
      · rcases List.mem_cons.mp hp with rfl | hp
        · show L + 4 ≠ L + 5; exact Nat.ne_of_lt (Nat.lt_succ_self _)
        · exact off1_mem (ext_off oq5 e5) p hp
      · simp only [tab4, List.mem_cons, List.not_mem_nil, or_false] at hp
        have n4 := nt (L + 5, k5) (.tail _ (.head _))
        rcases hp with rfl | rfl | rfl | rfl
        · exact fun q => n4 (by rw [← q]; exact .tail _ (.head _))
        · exact Ne.symm o1.2.1
        · exact fun q => n4 (by rw [← q]; exact .head _)
        · exact Ne.symm o2.2.1
    refine storeX_C F6 N7 (by exact rfl) (.head hne) d5 ?_ rfl (by with_unfolding_all rfl)
    intro h7 k5' F7 N8 d5'
    k_steps
    refine ⟨rfl, nn, xs, ys, three ++ pre, _, TT, k4, k5', G, g0, g1, G0, G1, nG, n0, n1, D6, w0, w1, W0, W1, _, m0, m1, df.n1, df.n6, df.sA, df.sB, d4, d5', List.mem_append_right _ mG, List.mem_append_right _ mg0, List.mem_append_right _ mg1, hG0, hG1, by rw [← hnews]; exact .head _, by rw [← hnews]; exact .tail _ (.tail _ (.head _)), by rw [← hnews]; exact .tail _ (.head _), hW0, hW1,
      h7, _, p1, c1, q1, p2, c2, q2, rfl, F7, fun p hp => N8 p ?_, TS, ⟨o1.1, o1.2.1, ext_off o1.2.2 fun p hp => mm p hp (c1, q1) (List.mem_append_right _ (.tail _ (.head _)))⟩, ⟨o2.1, o2.2.1, ext_off o2.2.2 fun p hp => mm p hp (c2, q2) (List.mem_append_right _ (.tail _ (.tail _ (.tail _ (.head _)))))⟩, ?_⟩
    · simp only [List.mem_cons, List.cons_append] at hp ⊢
      rcases hp with h | h | h
      · exact .inr (.inl h)
      · exact .inl h
      · exact .inr (.inr h)
    · exact .cons (nt _ (.head _)) (.cons (nt _ (.tail _ (.head _))) (ext_notab nt.tail.tail (fun p hp => mm p hp (37, p1) (List.mem_append_right _ (.head _))) (fun p hp => mm p hp (44, p2) (List.mem_append_right _ (.tail _ (.tail _ (.head _)))))))
end
end Mine
end
section
open PySem PySem.W PyProof.Rows PySem.Calls PyProof.Rows.LCg
set_option maxRecDepth 100000
namespace Mine
section
variable {w : World} {loose : List Str} {mean : ExcName → Option Value} {mg mb : Str → Option Value} {dp un : Nat} {gd : Option (List Code)} {env : Env} {s : Shared} {h₀ : Heap} {L : Addr} {m : Str → Option Value} {news : List (Addr × Obj)} {Q E : Value → Shared → Prop}
/-- a call that may mark the caller's frame -/
theorem use_S {f : Addr} {vals : List Value} {lv : Nat} {pre : Heap → Prop} {post : Heap → Value → Heap → Prop} (Cf : CallsS w f vals lv pre post) (F : Fr h₀ L s.heap m) (X : (Mine.hd.heap_1 w.params).In h₀) (N : News h₀ L s.heap news) (T : Top topProg loose mean mg mb h₀)
    (hf : env.frame = some L) (hk : env.scope.kind = .function) (hd : dp + lv < recursionLimit) (hu : un + 8 * lv < cLine) (hp : pre (hideAll s.heap [L]))
    (ret : ∀ v h' tk', Fr h₀ L h' m → News h₀ L h' news → post s.heap v h' → Q v { s with heap := h', toks := tk' }) :
    wpAny (model PySem.Challenge.rw_rt0087_01.row.prog w) (AA dp un gd [env]) (call (.ref f) vals) Q E s := by
  obtain ⟨oL, es, ep, hL, hLd, hlook⟩ := F.ns
  have h0L : h₀.get? L = none := by
    cases q : h₀.get? L with
    | none => rfl
    | some o => exact absurd F.above (Nat.not_le_of_lt (Heap.lt_size q))
  have st : h₀.StaysIn (hideAll s.heap [L]) := fun b o e => hideAll_get [L] (F.keep b o e) fun hm => by
    rw [List.mem_singleton.mp hm, h0L] at e; cases e
  refine Cf loose mean mg mb dp un gd env L oL s Q E (X.keeps st) (T.keeps st) ?_ hL hd hu hp fun v h' tk' keep ⟨sl, hL'⟩ post => ?_
  · exact ⟨(by rw [hk]; intro q; cases q), hf, ⟨es, ep, hLd⟩, trivial⟩
  · refine ret v h' tk' ⟨⟨_, es, ep, hL', hLd, hlook⟩, fun b o e => keep b o (fun q => by rw [q, h0L] at e; cases e) (F.keep b o e), F.above⟩ (fun p hp => ⟨keep _ _ (N p hp).2.1 (N p hp).1, (N p hp).2⟩) post
end
inductive PairAt (f g : Nat → List Str) (vs : List Value) (nw : List (Addr × Obj)) (k : Nat) : Prop
  | mk (t M U : Addr) (Mv Uv : List Value) (nM nU : Nat) (e : vs[k]? = some (.ref t)) (mt : (t, tupO #[Value.ref M, Value.ref U]) ∈ nw) (mM : (M, PySem.W.listOf Mv.toArray nM) ∈ nw) (mU : (U, PySem.W.listOf Uv.toArray nU) ∈ nw) (sM : StrsAre Mv (f k)) (sU : StrsAre Uv (g k)) : PairAt f g vs nw k
/-- pairs of lists, as tuples -/
def RowP (f g : Nat → List Str) (bs : List (Addr × Obj)) (i : Nat) (vs : List Value) (nw : List (Addr × Obj)) : Prop :=
  (∀ p ∈ bs, p ∈ nw) ∧ vs.length = i ∧ ∀ k, k < i → PairAt f g vs nw k
theorem RowP.add {f g : Nat → List Str} {bs : List (Addr × Obj)} {i : Nat} {vs : List Value} {nw nw' : List (Addr × Obj)} (x : RowP f g bs i vs nw) (hs : ∀ p ∈ nw, p ∈ nw') {t M U : Addr} {Mv Uv : List Value} {nM nU : Nat} (ht : (t, tupO #[Value.ref M, Value.ref U]) ∈ nw') (hM : (M, PySem.W.listOf Mv.toArray nM) ∈ nw') (hU : (U, PySem.W.listOf Uv.toArray nU) ∈ nw')
    (h1 : StrsAre Mv (f i)) (h2 : StrsAre Uv (g i)) : RowP f g bs (i + 1) (vs ++ [.ref t]) nw' := by
  obtain ⟨a, b, c⟩ := x
  refine ⟨fun p hp => hs p (a p hp), by simp [b], fun k hk => ?_⟩
  by_cases q : k < i
  · obtain ⟨t', M', U', Mv', Uv', nM', nU', e, m1, m2, m3, s1, s2⟩ := c k q
    exact ⟨t', M', U', Mv', Uv', nM', nU', by rw [List.getElem?_append_left (by (first | lia | omega))]; exact e, hs _ m1, hs _ m2, hs _ m3, s1, s2⟩
  · obtain rfl : k = i := by (first | lia | omega)
    exact ⟨t, M, U, Mv, Uv, nM, nU, by rw [List.getElem?_append_right (by (first | lia | omega)), b]; simp, ht, hM, hU, h1, h2⟩
theorem RowP.mono {f g : Nat → List Str} {bs : List (Addr × Obj)} {i : Nat} {vs : List Value} {nw nw' : List (Addr × Obj)} (x : RowP f g bs i vs nw) (hs : ∀ p ∈ nw, p ∈ nw') : RowP f g bs i vs nw' := by
  obtain ⟨a, b, c⟩ := x
  refine ⟨fun p hp => hs p (a p hp), b, fun k hk => ?_⟩
  obtain ⟨t, M, U, Mv, Uv, nM, nU, e, m1, m2, m3, s, s'⟩ := c k hk
  exact ⟨t, M, U, Mv, Uv, nM, nU, e, hs _ m1, hs _ m2, hs _ m3, s, s'⟩
theorem alone_ok {nn : Nat} (h : nn ≤ 6) {zs ws : List Int} : OkS (aloneL (2 ^ nn) zs ws) := fun x hx => by
  obtain ⟨z, _, hz⟩ := List.mem_flatMap.mp hx
  have ok : PyData.strOk (dueS z (2 ^ nn)) = true := due_ok (Int.pow_pos (by decide)) (two_pow_lt h)
  unfold aloneOf at hz
  split at hz
  · cases hz
  · split at hz
    · rcases List.mem_cons.mp hz with rfl | hz
      · exact ok
      · rw [List.mem_singleton.mp hz]; exact ok
    · rw [List.mem_singleton.mp hz]; exact ok
inductive RowTwoP (f g : Nat → List Str) (vs : List Value) (nw : List (Addr × Obj)) : Prop
  | mk (t0 M0 U0 : Addr) (V0 W0 : List Value) (n0 m0 : Nat) (t1 M1 U1 : Addr) (V1 W1 : List Value) (n1 m1 : Nat) (e : vs = [.ref t0, .ref t1])
    (a1 : (t0, tupO #[Value.ref M0, Value.ref U0]) ∈ nw) (a2 : (M0, PySem.W.listOf V0.toArray n0) ∈ nw) (a3 : (U0, PySem.W.listOf W0.toArray m0) ∈ nw) (a4 : StrsAre V0 (f 0)) (a5 : StrsAre W0 (g 0))
    (b1 : (t1, tupO #[Value.ref M1, Value.ref U1]) ∈ nw) (b2 : (M1, PySem.W.listOf V1.toArray n1) ∈ nw) (b3 : (U1, PySem.W.listOf W1.toArray m1) ∈ nw) (b4 : StrsAre V1 (f 1)) (b5 : StrsAre W1 (g 1)) : RowTwoP f g vs nw
theorem RowP.two {f g : Nat → List Str} {bs : List (Addr × Obj)} {vs : List Value} {nw : List (Addr × Obj)} (x : RowP f g bs 2 vs nw) : RowTwoP f g vs nw := by
  obtain ⟨_, b, c⟩ := x
  obtain ⟨t0, M0, U0, V0, W0, n0, m0, e0, h1, h2, h3, h4, h5⟩ := c 0 (by decide)
  obtain ⟨t1, M1, U1, V1, W1, n1, m1, e1, a1, a2, a3, a4, a5⟩ := c 1 (by decide)
  match vs, b with
  | [v0, v1], _ =>
    obtain rfl : v0 = _ := Option.some.inj e0
    obtain rfl : v1 = _ := Option.some.inj e1
    exact ⟨_, _, _, _, _, _, _, _, _, _, _, _, _, _, rfl, h1, h2, h3, h4, h5, a1, a2, a3, a4, a5⟩
theorem reads_pairs {h h₀ : Heap} {L : Addr} {led : List (Addr × Obj)} (N : News h₀ L h led) {f g : Nat → List Str} {bs : List (Addr × Obj)} {vs : List Value} (x : RowP f g bs 2 vs led) {D : Addr} {n : Nat} (hD : h.get? D = some (PySem.W.listOf vs.toArray n)) :
    ∃ as, Reads h (.ref D) (.list [.tuple [dStrs (f 0), dStrs (g 0)], .tuple [dStrs (f 1), dStrs (g 1)]]) as := by
  obtain ⟨t0, M0, U0, V0, W0, n0, m0, t1, M1, U1, V1, W1, n1, m1, rfl, a1, a2, a3, a4, a5, b1, b2, b3, b4, b5⟩ := x.two
  exact ⟨_, reads_list_at hD rfl rfl (.cons (reads_tuple_at (N _ a1).1 rfl rfl (.cons (reads_strs N a2 a4) (.cons (reads_strs N a3 a5) .nil))) (.cons (reads_tuple_at (N _ b1).1 rfl rfl (.cons (reads_strs N b2 b4) (.cons (reads_strs N b3 b5) .nil))) .nil))⟩
section
set_option maxHeartbeats 1000000 in
theorem law_11 {w : World} {loose : List Str} {mean : ExcName → Option Value} {mg mb : Str → Option Value} {dp un : Nat} {gd : Option (List Code)} {base h₁ : Heap} (C : LCtx w loose mean mg mb dp un gd [] base h₁) {L fa : Addr} {cd : Value} {sh : Shared} (l : Addr)
    (E : Value → Shared → Prop) (s : Shared) (hP : LawH h₁ L sh l s) :
    wpAny (model PySem.Challenge.rw_rt0087_01.row.prog w) ((AA dp un gd []).deeper (lawEnv L fa cd)) (exec (lawStmt 11) (lawEnv L fa cd)) (fun f s' => f = .ret (.bool true) ∧ ∃ m, LSt h₁ L sh m [] s') E s := by
  w_top off
  k_with_none
  k_with "k_room" => (ktr_room)
  k_with "k_ne" => (first | exact offN (by assumption) (by k_mem) | exact Ne.symm (offN (by assumption) (by k_mem)) | (refine neN ?_; (try dsimp only); (first | lia | omega)))
  k_with "call ref" => ((refine held (p := wpAny _ _ (PySem.call (Value.ref _) _) _ _ _) ?_))
  k_with "pyIter ref" => ((refine held (p := wpAny _ _ (pyIter (Value.ref _)) _ _ _) ?_))
  k_with "eval ListComp" => ((refine held (p := wpAny _ _ (eval _ _) _ _ _) ?_))
  k_with "subscriptTail" => ((refine held (p := wpAny _ _ (subscriptTail _ _ _ _) _ _ _) ?_))
  k_with "compareOp Eq ref ref" => ((refine held (p := wpAny _ _ (compareOp _ _ _) _ _ _) ?_))
  k_with "k_mem" => (first | exact List.Mem.head _ | assumption | (refine' List.Mem.tail _ ?_; k_mem))
  unfold lawEnv
  generalize hsc : lawScope = sc
  generalize hst : lawStmt 11 = st
  replace hsc := hsc.symm
  replace hst := hst.symm
  obtain ⟨B, X, T, hT, hd, hu⟩ := C
  conv at hsc => rhs; whnf
  conv at hst => rhs; whnf
  subst hsc hst
  obtain ⟨nn, xs, ys, pre, po, TT, k4, k5, G, g0, g1, G0, G1, nG, n0, n1, W, w0, w1, W0, W1, nW, m0, m1, hn1, hn6, sA, sB, d4, d5, mG, mg0, mg1, hG0, hG1, mW, mw0, mw1, hW0, hW1, h, tk, p1, c1, q1, p2, c2, q2, rfl, F, N, TS, o1, o2, nt⟩ := hP
  revert X; k_fill; intro X
  generalize hbs : (L + 4, k4) :: (L + 5, k5) :: pre ++ tab4 p1 c1 q1 p2 c2 q2 = bs at N
  have hsub : ∀ p ∈ pre, p ∈ bs := fun p hp => by rw [← hbs]; exact .tail _ (.tail _ (List.mem_append_left _ hp))
  have h4 : (L + 4, k4) ∈ bs := by rw [← hbs]; exact .head _
  have h5 : (L + 5, k5) ∈ bs := by rw [← hbs]; exact .tail _ (.head _)
  replace mG := hsub _ mG
  replace mg0 := hsub _ mg0
  replace mg1 := hsub _ mg1
  replace mW := hsub _ mW
  replace mw0 := hsub _ mw0
  replace mw1 := hsub _ mw1
  have htab : ∀ p ∈ tab4 p1 c1 q1 p2 c2 q2, p ∈ bs := fun p hp => by rw [← hbs]; exact .tail _ (.tail _ (List.mem_append_right _ hp))
  clear hsub hbs
  have b64 := two_pow_lt hn6
  have b0 : (0 : Int) < 2 ^ nn := Int.pow_pos (by decide)
  have e3 : (2 : Int) ^ nn * 2 ^ nn * 2 ^ nn = 8 ^ nn := by rw [← Int.mul_pow, ← Int.mul_pow]; rfl
  have rA : ∀ x ∈ xs, 0 ≤ x ∧ x < 2 ^ nn * 2 ^ nn * 2 ^ nn := fun x hx => by rw [e3]; exact sA.lt x hx
  have rB : ∀ x ∈ ys, 0 ≤ x ∧ x < 2 ^ nn * 2 ^ nn * 2 ^ nn := fun x hx => by rw [e3]; exact sB.lt x hx
  have R01 := sld_plain b0 b64 sA.ne sB.ne sA.nd sB.nd rA rB
  have R10 := sld_plain b0 b64 sB.ne sA.ne sB.nd sA.nd rB rA
  have nd0 := due_nodup b0 b64 sA.nd rA
  have nd1 := due_nodup b0 b64 sB.nd rB
  have z0 : ((sortI xs).map (dueS · (2 ^ nn))).length ≤ 20 := by rw [List.length_map, (sortI_perm xs).length_eq]; have := sA.len; (first | lia | omega)
  have z1 : ((sortI ys).map (dueS · (2 ^ nn))).length ≤ 20 := by rw [List.length_map, (sortI_perm ys).length_eq]; have := sB.len; (first | lia | omega)
  have ok0 : OkS (aloneL (2 ^ nn) (sortI xs) ys) := alone_ok hn6
  have ok1 : OkS (aloneL (2 ^ nn) (sortI ys) xs) := alone_ok hn6
  generalize (sortI xs).map (dueS · (2 ^ nn)) = x0 at *
  generalize (sortI ys).map (dueS · (2 ^ nn)) = x1 at *
  generalize aloneL (2 ^ nn) (sortI xs) ys = a0 at *
  generalize aloneL (2 ^ nn) (sortI ys) xs = a1 at *
  clear rA rB e3 b0 b64 sA sB hn1 hn6
  k_steps
  refine comp_eval (cl := [(Str.ofString "twice", L + 5)]) F ?cb ?cc ?ce ?_
  case cb => with_unfolding_all rfl
  case cc => exact rfl
  case ce => decide
  k_steps
  rename_i hr F2 N2 _
  refine ⟨_, blk_V (Inv := RowP (fun i => if i = 0 then a0 else a1) (fun i => if i = 0 then a1 else a0) bs) (srcRange (n := 2) rfl F2 N2 hr (small_one (by decide) (by decide) (by decide) (by decide)) (by decide)) (fun _ => rfl) (fun _ => rfl) rfl (by rfl) (fun i ys nw hi h => by rw [h.2.1]; exact Nat.le_trans (Nat.le_of_lt hi) (by decide)) (fun _ _ _ _ => trivial) ⟨fun _ h => h, rfl, fun k hk => absurd hk (Nat.not_lt_zero _)⟩ ?_, ?_⟩
  · clear F2 N2 hr
    intro i v I oI C oC Dc m₂ h2 tk2 vs nw E' hi hPv hI hoC hx F N off ne3
    obtain ⟨tv, rfl⟩ := hPv
    have sub := hI.1
    have m5' := sub _ h5
    refine wpAny_tests_nil ?_
    simp only [if_true]
    obtain ⟨r, R, nr, hr, hmr, hR⟩ : StrsIn (([Value.ref w0, .ref w1] : List Value)[i]?) bs ((dup (if i = 0 then x0 else x1))) := by
      rcases (by (first | lia | omega) : i = 0 ∨ i = 1) with rfl | rfl
      · exact ⟨_, _, _, rfl, mw0, hW0⟩
      · exact ⟨_, _, _, rfl, mw1, hW1⟩
    obtain ⟨r2, R2, nr2, hr2, hmr2, hR2⟩ : StrsIn (([Value.ref w0, .ref w1] : List Value)[1 - i]?) bs ((dup (if i = 0 then x1 else x0))) := by
      rcases (by (first | lia | omega) : i = 0 ∨ i = 1) with rfl | rfl
      · exact ⟨_, _, _, rfl, mw1, hW1⟩
      · exact ⟨_, _, _, rfl, mw0, hW0⟩
    have hS : SldR (if i = 0 then x0 else x1) (if i = 0 then x1 else x0) (if i = 0 then a0 else a1) (if i = 0 then a1 else a0) ∧ (if i = 0 then x0 else x1).Nodup ∧ (if i = 0 then x1 else x0).Nodup ∧ (if i = 0 then x0 else x1).length ≤ 20 ∧ (if i = 0 then x1 else x0).length ≤ 20 := by
      rcases (by (first | lia | omega) : i = 0 ∨ i = 1) with rfl | rfl
      · exact ⟨R01, nd0, nd1, z0, z1⟩
      · exact ⟨R10, nd1, nd0, z1, z0⟩
    replace hmr := sub _ hmr
    replace hmr2 := sub _ hmr2
    k_steps
    refine item_led (vs := [Value.ref w0, Value.ref w1]) N (.tail _ (.tail _ (.tail _ (sub _ mW)))) (by (first | lia | omega)) (by (first | lia | omega)) hr ?_
    k_steps
    refine item_led (i := 1 - i) (vs := [Value.ref w0, Value.ref w1]) N (.tail _ (.tail _ (.tail _ (sub _ mW)))) (by (first | lia | omega)) (by (first | lia | omega)) hr2 ?_
    k_steps
    obtain ⟨hS, hn0, hn1, hz0, hz1⟩ := hS
    have isl : ∀ {r : Addr} {R : List Value} {n : Nat}, (r, PySem.W.listOf R.toArray n) ∈ nw → (hideAll h2 [L]).IsList r R.toArray := fun {r R n} hm => by
      have Nr := N _ (.tail _ (.tail _ (.tail _ hm)))
      exact ⟨_, hideAll_get [L] Nr.1 (fun q => Nr.2.1 (List.mem_singleton.mp q)), rfl, _, rfl⟩
    refine use_S (sld_c r r2 R R2 _ _ hR hR2 _ _ hS hn0 hn1 hz0 hz1) F X N T rfl rfl (by exact roomD hd rfl) (by exact roomU hu rfl) ⟨isl hmr, isl hmr2⟩ ?_
    clear isl hS hn0 hn1 hz0 hz1 hr hr2 hmr hmr2 hR hR2
    rintro v h' tk' F' N' ⟨t, M, U, Mv, Uv, nM, nU, rfl, ft, fM, fU, eMU, eMt, eUt, gt, gM, gU, sM, sU⟩
    have lv : ∀ {x : Addr}, h2.get? x = none → ∀ p ∈ (I, oI) :: (C, oC) :: (Dc, lst vs) :: nw, @Ne Nat p.1 x := fun {x} hx p hp q => by
      have := (N p hp).1; rw [q] at this; exact absurd (hx.symm.trans this) (by simp)
    have fr : ∀ {x : Addr}, h2.get? x = none → x ≠ L ∧ (hideAll h₁ tabX).get? x = none := fun {x} hx => by
      obtain ⟨o, _, _, hL, _⟩ := F.ns
      refine ⟨fun q => by rw [q] at hx; exact absurd (hx.symm.trans hL) (by simp), ?_⟩
      cases q : (hideAll h₁ tabX).get? x with
      | none => rfl
      | some o => exact absurd (hx.symm.trans (F.keep x o q)) (by simp)
    refine ⟨h', _, (t, tupO #[Value.ref M, Value.ref U]) :: (M, PySem.W.listOf Mv.toArray nM) :: (U, PySem.W.listOf Uv.toArray nU) :: nw, rfl, F', ?_, ?_, hI.add (fun p hp => .tail _ (.tail _ (.tail _ hp))) (.head _) (.tail _ (.head _)) (.tail _ (.tail _ (.head _))) sM sU⟩
    · intro p hp
      simp only [List.mem_cons] at hp
      rcases hp with rfl | rfl | rfl | rfl | rfl | rfl | hp
      · exact N' _ (.head _)
      · exact N' _ (.tail _ (.head _))
      · exact N' _ (.tail _ (.tail _ (.head _)))
      · exact ⟨gt, fr ft⟩
      · exact ⟨gM, fr fM⟩
      · exact ⟨gU, fr fU⟩
      · exact N' _ (.tail _ (.tail _ (.tail _ hp)))
    · have of3 : ∀ {x : Addr}, h2.get? x = none → @Ne Nat x I ∧ @Ne Nat x C ∧ @Ne Nat x Dc := fun {x} hx =>
        ⟨Ne.symm (lv hx (I, oI) (.head _)), Ne.symm (lv hx (C, oC) (.tail _ (.head _))), Ne.symm (lv hx (Dc, lst vs) (.tail _ (.tail _ (.head _))))⟩
      exact ⟨of3 ft, of3 fM, of3 fU, off⟩
  · clear F2 N2 hr
    rintro vs nw hI1 D1 h6 tk6 F6 N6 o6
    k_steps
    refine comp_eval (cl := [(Str.ofString "alone", L + 4)]) F6 ?cb2 ?cc2 ?ce2 ?_
    case cb2 => with_unfolding_all rfl
    case cc2 => exact rfl
    case ce2 => decide
    k_steps
    rename_i hr8 F8 N8 _
    have sub1 := hI1.1
    refine ⟨_, blk_V (Inv := RowP (fun i => if i = 0 then a0 else a1) (fun i => if i = 0 then a1 else a0) ((D1, lst vs) :: nw)) (srcRange (n := 2) rfl F8 N8 hr8 (small_one (by decide) (by decide) (by decide) (by decide)) (by decide)) (fun _ => rfl) (fun _ => rfl) rfl (by rfl) (fun i ys nw hi h => by rw [h.2.1]; exact Nat.le_trans (Nat.le_of_lt hi) (by decide)) (fun _ _ _ _ => trivial) ⟨fun _ h => h, rfl, fun k hk => absurd hk (Nat.not_lt_zero _)⟩ ?_, ?_⟩
    · clear F8 N8 hr8 R01 R10 nd0 nd1 z0 z1 hW0 hW1 mW mw0 mw1 hI1
      intro i v I oI C oC Dc m₂ h2 tk2 ws nw2 E' hi hPv hI hoC hx F N off ne3
      obtain ⟨tv, rfl⟩ := hPv
      have sub : ∀ p ∈ bs, p ∈ nw2 := fun p hp => hI.1 p (.tail _ (sub1 p hp))
      have m4' := sub _ h4
      refine wpAny_tests_nil ?_
      simp only [if_true]
      obtain ⟨r, R, nr, hr, hmr, hR⟩ : StrsIn (([Value.ref g0, .ref g1] : List Value)[i]?) bs ((if i = 0 then a0 else a1)) := by
        rcases (by (first | lia | omega) : i = 0 ∨ i = 1) with rfl | rfl
        · exact ⟨_, _, _, rfl, mg0, hG0⟩
        · exact ⟨_, _, _, rfl, mg1, hG1⟩
      obtain ⟨r2, R2, nr2, hr2, hmr2, hR2⟩ : StrsIn (([Value.ref g0, .ref g1] : List Value)[1 - i]?) bs ((if i = 0 then a1 else a0)) := by
        rcases (by (first | lia | omega) : i = 0 ∨ i = 1) with rfl | rfl
        · exact ⟨_, _, _, rfl, mg1, hG1⟩
        · exact ⟨_, _, _, rfl, mg0, hG0⟩
      replace hmr := sub _ hmr
      replace hmr2 := sub _ hmr2
      k_steps
      refine item_led (vs := [Value.ref g0, Value.ref g1]) N (.tail _ (.tail _ (.tail _ (sub _ mG)))) (by (first | lia | omega)) (by (first | lia | omega)) hr ?_
      k_steps
      refine item_led (i := 1 - i) (vs := [Value.ref g0, Value.ref g1]) N (.tail _ (.tail _ (.tail _ (sub _ mG)))) (by (first | lia | omega)) (by (first | lia | omega)) hr2 ?_
      k_steps
      rename_i D5 h5' F5 N5 l5
      refine ⟨h5', _, (D5, tupO #[Value.ref r, Value.ref r2]) :: nw2, rfl, F5, ?_, ⟨⟨Nat.ne_of_gt l5.1, Nat.ne_of_gt l5.2.1, Nat.ne_of_gt l5.2.2.1⟩, off⟩, hI.add (fun p hp => .tail _ hp) (.head _) (.tail _ hmr) (.tail _ hmr2) hR hR2⟩
      intro p hp
      simp only [List.mem_cons] at hp
      rcases hp with rfl | rfl | rfl | rfl | hp
      · exact N5 _ (.tail _ (.head _))
      · exact N5 _ (.tail _ (.tail _ (.head _)))
      · exact N5 _ (.tail _ (.tail _ (.tail _ (.head _))))
      · exact N5 _ (.head _)
      · exact N5 _ (.tail _ (.tail _ (.tail _ (.tail _ hp))))
    · clear F8 N8 hr8
      rintro ws nw2 hI2 D2 h9 tk9 F9 N9 o9
      k_steps
      have g1 : (D1, lst vs) ∈ nw2 := hI2.1 _ (.head _)
      obtain ⟨as, ra⟩ := reads_pairs N9 (hI1.mono (fun p hp => .tail (D2, lst ws) (hI2.1 p (.tail _ hp)))) (N9 _ (.tail _ g1)).1
      obtain ⟨bs', rb⟩ := reads_pairs N9 (hI2.mono (fun p hp => .tail (D2, lst ws) hp)) (N9 _ (.head _)).1
      refine eq_same ra rb (shaped_pairs ok0 ok1) (by exact roomV hu rfl) ⟨rfl, _, h9, _, p1, c1, q1, p2, c2, q2, rfl, F9, news_sub N9 fun p hp => .tail _ (hI2.1 p (.tail _ (sub1 p (htab p hp)))), TS, trivial, trivial, fun p hp => nomatch hp⟩
end
end Mine
end
section
open PySem PySem.W PyProof.Rows PySem.Calls PyProof.Rows.LCg
set_option maxRecDepth 100000
namespace Mine
theorem ne_cell {h : Heap} {a c : Addr} {vs : Array Value} {n : Nat} {o : Obj} {x : Option Value} (h1 : h.get? a = some (PySem.W.listOf vs n)) (h2 : h.get? c = some o) (hd : o.data = .cell x) : @Ne Nat a c := fun q => by
  subst q
  have e := Option.some.inj (h1.symm.trans h2)
  rw [← e] at hd
  cases hd
/-- another order of the ledger -/
theorem lst_perm {h₁ : Heap} {L : Addr} {sh : Shared} {m : Str → Option Value} {f f' : List (Addr × Obj)} {s : Shared} (x : LSt h₁ L sh m f s) (hs : ∀ p ∈ f', p ∈ f) : LSt h₁ L sh m f' s := by
  obtain ⟨h, tk, p1, c1, q1, p2, c2, q2, e, F, N, TS, o1, o2, nt⟩ := x
  refine ⟨h, tk, p1, c1, q1, p2, c2, q2, e, F, news_sub N fun p hp => ?_, TS, off1_of fun p hp => off1_mem o1 p (hs p hp), off1_of fun p hp => off1_mem o2 p (hs p hp), fun p hp => nt p (hs p hp)⟩
  rcases List.mem_append.mp hp with hp | hp
  · exact List.mem_append_left _ (hs p hp)
  · exact List.mem_append_right _ hp
theorem lst_get {h₁ : Heap} {L : Addr} {sh : Shared} {m : Str → Option Value} {f : List (Addr × Obj)} {s : Shared} (x : LSt h₁ L sh m f s) : ∀ p ∈ f, s.heap.get? p.1 = some p.2 := by
  obtain ⟨h, tk, p1, c1, q1, p2, c2, q2, rfl, F, N, _⟩ := x
  exact fun p hp => (N p (List.mem_append_left _ hp)).1
theorem lawD_E {h₁ : Heap} {L : Addr} {sh : Shared} {l : Addr} {s : Shared} (x : LawD h₁ L sh l s) : LawE h₁ L sh l s := by
  obtain ⟨nn, tw, T, D, a, b, A, B, nD, na, nb, xs, ys, W, wa, wb, WA, WB, nW, nwa, nwb, cs, n1, n6, ⟨k1, k2, k3, k4, k5, rfl, d1, d2, d3, d4, d5⟩, iA, iB, sA, sB, hWA, hWB, x⟩ := x
  have g := lst_get x
  have g4 := g (L + 4, k4) (.tail _ (.tail _ (.tail _ (.tail _ (.tail _ (.tail _ (.tail _ (.head _))))))))
  have g5 := g (L + 5, k5) (.tail _ (.tail _ (.tail _ (.tail _ (.tail _ (.tail _ (.head _)))))))
  refine ⟨nn, D, a, b, W, wa, wb, A, B, WA, WB, xs, ys, [(W, PySem.W.listOf #[.ref wa, .ref wb] nW), (wb, PySem.W.listOf WB.toArray nwb), (wa, PySem.W.listOf WA.toArray nwa), (D, PySem.W.listOf #[.ref a, .ref b] nD), (a, PySem.W.listOf A.toArray na), (b, PySem.W.listOf B.toArray nb), (L + 3, k3), (L + 2, k2), (L + 1, k1)], T, k4, k5,
    ⟨n1, n6, ⟨_, .tail _ (.tail _ (.tail _ (.head _)))⟩, ⟨_, .tail _ (.tail _ (.tail _ (.tail _ (.head _))))⟩, ⟨_, .tail _ (.tail _ (.tail _ (.tail _ (.tail _ (.head _)))))⟩, ⟨_, .head _⟩, ⟨_, .tail _ (.tail _ (.head _))⟩, ⟨_, .tail _ (.head _)⟩, iA, iB, sA, sB, hWA, hWB,
      ⟨k1, tw, .tail _ (.tail _ (.tail _ (.tail _ (.tail _ (.tail _ (.tail _ (.tail _ (.head _)))))))), d1⟩, ⟨k2, .tail _ (.tail _ (.tail _ (.tail _ (.tail _ (.tail _ (.tail _ (.head _))))))), d2⟩, ⟨k3, .tail _ (.tail _ (.tail _ (.tail _ (.tail _ (.tail _ (.head _)))))), d3⟩⟩, d4, d5, ?_, ?_, lst_perm x ?_⟩
  · exact ⟨(ne_cell (g _ (.head _)) g4 d4), (ne_cell (g _ (.tail _ (.head _))) g4 d4), (ne_cell (g _ (.tail _ (.tail _ (.head _)))) g4 d4), (ne_cell (g _ (.tail _ (.tail _ (.tail _ (.head _))))) g4 d4), (ne_cell (g _ (.tail _ (.tail _ (.tail _ (.tail _ (.head _)))))) g4 d4), (ne_cell (g _ (.tail _ (.tail _ (.tail _ (.tail _ (.tail _ (.head _))))))) g4 d4), (by show L + 3 ≠ L + 4; simp), (by show L + 2 ≠ L + 4; simp), (by show L + 1 ≠ L + 4; simp), trivial⟩
  · exact ⟨(ne_cell (g _ (.head _)) g5 d5), (ne_cell (g _ (.tail _ (.head _))) g5 d5), (ne_cell (g _ (.tail _ (.tail _ (.head _)))) g5 d5), (ne_cell (g _ (.tail _ (.tail _ (.tail _ (.head _))))) g5 d5), (ne_cell (g _ (.tail _ (.tail _ (.tail _ (.tail _ (.head _)))))) g5 d5), (ne_cell (g _ (.tail _ (.tail _ (.tail _ (.tail _ (.tail _ (.head _))))))) g5 d5), (by show L + 3 ≠ L + 5; simp), (by show L + 2 ≠ L + 5; simp), (by show L + 1 ≠ L + 5; simp), trivial⟩
  · lcg_sub
theorem lawBody_eq : lawBody = [lawStmt 0, lawStmt 1, lawStmt 2, lawStmt 3, lawStmt 4, lawStmt 5, lawStmt 6, lawStmt 7, lawStmt 8, lawStmt 9, lawStmt 10, lawStmt 11] := by with_unfolding_all rfl
/-- the whole law: it answers True -/
theorem law_all {w : World} {loose : List Str} {mean : ExcName → Option Value} {mg mb : Str → Option Value} {dp un : Nat} {gd : Option (List Code)} {base h₁ : Heap} (C : LCtx w loose mean mg mb dp un gd [] base h₁) {L fa : Addr} {cd : Value} {sh : Shared} (l : Addr) (its : List Value) (ns : List Int)
    (hp : (hideAll h₁ tabX).IsList l its.toArray) (hi : IntsAre its ns) (hn : ns.length ≤ 63) {cs : List (Addr × Obj)} (hc : CellsL L none none none none none cs) {Q : Flow → Shared → Prop} {E : Value → Shared → Prop} {s : Shared} (hP : LSt h₁ L sh (mapL l none none) cs s)
    (fin : ∀ s' m, LSt h₁ L sh m [] s' → Q (.ret (.bool true)) s') :
    wpAny (model PySem.Challenge.rw_rt0087_01.row.prog w) ((AA dp un gd []).deeper (lawEnv L fa cd)) (execs lawBody (lawEnv L fa cd)) Q E s := by
  rw [lawBody_eq]
  refine exec_one (law_0 C l its ns hp hi hn hc E s hP) fun s hP => ?_
  refine exec_one (law_1 C l ns hn hc E s hP) fun s hP => ?_
  refine exec_one (law_2 C l ns E s hP) fun s hP => ?_
  refine exec_one (law_3 C l E s hP) fun s hP => ?_
  refine exec_one (law_4 C l E s hP) fun s hP => ?_
  refine exec_one (law_5 C l E s (lawD_E hP)) fun s hP => ?_
  refine exec_one (law_6 C l E s hP) fun s hP => ?_
  refine exec_one (law_7 C l E s hP) fun s hP => ?_
  refine exec_one (law_8 C l E s hP) fun s hP => ?_
  refine exec_one (law_9 C l E s hP) fun s hP => ?_
  refine exec_one (law_10 C l E s hP) fun s hP => ?_
  refine wpAny_execs_cons (wpAny_mono (law_11 C l E s hP) (fun f s' hf => ?_) fun _ _ e => e)
  obtain ⟨rfl, m, hx⟩ := hf
  exact fin s' m hx
end Mine
end
section
open PySem PySem.W PyProof.Rows PySem.Calls PyProof.Rows.LCg
set_option maxRecDepth 100000
namespace Mine
theorem bindL_one {kf : Str → Option NameKind} {n : Str} {v : Value} (h : kf n = some .local) : bindL kf [(n, v)] (fun _ => none) = fun y => if y = n then some v else none := if_pos h
set_option maxHeartbeats 2000000 in
theorem fin : PySem.Challenge.rw_rt0087_01.Holds := by
  w_top off
  k_with_none
  refine hd ?_
  k_go0
  all_goals (try k_fold)
  rename_i w s0 s1 mg mb G Y fa o pm cd doc ho hcd hg X V T B TE TW ns hs hlay0 hL hr hl2 as1 as2 l its as3 isL ra w1 r0 hI hrw hlen hc2 hD h₁ tk₁ k5 k4 k3 k2 k1 d5 d4 d3 d2 d1 X0 X' T' K' F' cH N' lt
  have hTabs : Tabs s1.heap := ⟨⟨_, hT8 37 (by decide), .inl rfl⟩, ⟨_, hT8 44 (by decide), .inl rfl⟩⟩
  have C : LCtx w _ _ mg mb _ _ _ [] _ s1.heap := ⟨K', X', T', hTabs, by decide, by decide⟩
  refine law_all (dp := callerA.depth) (un := callerA.units) (gd := callerA.guards) C l its ns lifted hI (Int.ofNat_le.mp (Int.not_lt.mp hlen)) (cs := [(s1.heap.objs.size + 5, k5), (s1.heap.objs.size + 4, k4), (s1.heap.objs.size + 3, k3), (s1.heap.objs.size + 2, k2), (s1.heap.objs.size + 1, k1)]) ⟨k1, k2, k3, k4, k5, rfl, ?_, ?_, ?_, ?_, ?_⟩ (sh := s1) ?_ ?_
  · exact d1.trans (by with_unfolding_all rfl)
  · exact d2.trans (by with_unfolding_all rfl)
  · exact d3.trans (by with_unfolding_all rfl)
  · exact d4.trans (by with_unfolding_all rfl)
  · exact d5.trans (by with_unfolding_all rfl)
  · have e37 := hT8 37 (by decide)
    have e44 := hT8 44 (by decide)
    refine ⟨h₁, tk₁, _, 37, _, _, 44, _, rfl, fr_map (m' := mapL l none none) F' ?_, news_sub N' (by lcg_sub), ⟨.inl ⟨e37, rfl, rfl⟩, .inl ⟨e44, rfl, rfl⟩⟩, ?_, ?_, ?_⟩
    · refine Eq.trans (b := fun y => if y = Str.ofString "script" then some (.ref l) else none) (by with_unfolding_all exact bindL_one rfl) (funext fun y => ?_)
      unfold mapL
      by_cases q1 : y = Str.ofString "script"
      · subst q1; rfl
      · simp only [if_neg q1]
        split
        · rfl
        · split <;> rfl
    · have h := lt.2
      refine ⟨?_, ?_, ?_, ?_, ?_, trivial⟩ <;> (show _ + _ ≠ 37; (first | lia | omega))
    · have h := lt.1
      refine ⟨?_, ?_, ?_, ?_, ?_, trivial⟩ <;> (show _ + _ ≠ 44; (first | lia | omega))
    · exact cells_notab ⟨lt.2, lt.1⟩
  · intro s' m hx
    obtain ⟨h, tk, p1, c1, q1, p2, c2, q2, rfl, F, N, TS, _⟩ := hx
    have tb := TS.tabs hTabs N F.keep
    obtain ⟨⟨ps1, g1, _⟩, ⟨ps2, g2, _⟩⟩ := tb
    refine ⟨?_, ⟨ps2, g2⟩, ⟨ps1, g1⟩, trivial⟩
    dsimp only
    wrow_close
end Mine
end
set_option maxRecDepth 100000 in
theorem PySem.Challenge.cw_rt0087_01_holds : PySem.Challenge.rw_rt0087_01.Holds :=
  Mine.fin
